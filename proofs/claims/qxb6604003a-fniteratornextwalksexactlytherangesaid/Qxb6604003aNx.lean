import Derived.Test.Qxb6604003aIt
set_option linter.unusedVariables false
namespace Go.Proofs.Qxb6604003a
open Go.RowKit

theorem NI.drew1 {w1 w wr : World} {base IT : Nat} {sv0 sv ev cv : Value} {st : List Value} (h : NI w1 w wr base IT sv0 sv ev cv st) : NI w1 w wr.drew base IT sv0 sv ev cv st :=
  ⟨⟨h.is.row, h.is.own, h.is.ne, h.is.lo⟩, h.tch.trans ⟨rfl, rfl, rfl, Nat.le_refl _, fun _ _ _ => rfl⟩, h.blk, bel_to_drew h.bel⟩

/-- What Next leaves. -/
def NextPost (K V : Nat → Value) (d : D) (h n p : Nat) (more : Bool) (w1 w : World) (base IT : Nat) (sv ev : Value) (e : Ending) (w' : World) : Prop :=
  e = .returned (.bool more) ∧ ∃ sv' cv' st', NI w1 w w' base IT sv sv' ev cv' st' ∧
    (more = true → (∃ x i, PosL d h n (p + 1) x i st') ∧ ∃ g j, cv' = .pointer (some ⟨g, j, none⟩) ∧ w1.cell? ⟨g, j, none⟩ = some (K p) ∧ w1.cell? ⟨g, j + 1, none⟩ = some (V p)) ∧
    (more = false → st' = [] ∧ sv' = .slice none 0 0 ∧ cv' = .pointer none)

set_option maxRecDepth 100000 in
/-- With an empty stack. -/
theorem next_nil (K V : Nat → Value) (d : D) (h n p : Nat) (w1 w : World) (base IT : Nat) (ev cv : Value) (hbase : w1.heap.size = base) (hb : Below base w1 w) (I : IS w base IT (.slice none 0 0) ev cv []) :
    Calls Try.prog 40 #[.pointer (some ⟨IT, 0, none⟩)] w fun e w' => NextPost K V d h n p false w1 w base IT (.slice none 0 0) ev e w' := by
  have c0 : w.cell? ⟨IT, 0, none⟩ = some (.slice none 0 0) := I.row.cell 0
  have c2 : w.cell? ⟨IT, 2, none⟩ = some cv := I.row.cell 2
  have f0 := I.row.frozen 0
  have f2 := I.row.frozen 2
  have r2 := I.row.set 0 (.slice none 0 0)
  have c2' : (w.setCell ⟨IT, 0, none⟩ (.slice none 0 0)).cell? ⟨IT, 2, none⟩ = some cv := r2.cell 2
  have f2' := r2.frozen 2
  have hsz : base ≤ w.heap.size := by rw [← hbase]; exact hb.size
  go_enter Try.func40, Try.ntmps40
  go_wp2
  go_loopg [] 0 (fun k wr => wr = w ∧ k = 0)
  case atStart => exact ⟨rfl, rfl⟩
  case round =>
    obtain ⟨rfl, rfl⟩ := hrel
    go_wp2
    go_ret
    exact ⟨rfl, _, _, _, (NI.start I hb).reset hsz, (fun h => by cases h), fun _ => ⟨rfl, rfl, rfl⟩⟩

set_option maxRecDepth 100000 in
set_option maxHeartbeats 4000000 in
theorem next_any (K V : Nat → Value) (kb : Nat → List UInt8) (w0 w1 w : World) (base0 B base IT h n p : Nat) (d : D) (low : Nat → Nat → Value) (sv ev cv : Value) (st : List Value) (x i : Nat) (eb : Option (List UInt8))
    (hbase : w1.heap.size = base) (T : TS w0 w1 base0 B d) (r : Rest K V kb d h low n) (hn : n ≤ 30000) (hKb : ∀ i, i < n → BV w1 (K i) (kb i)) (hb : Below base w1 w) (I : IS w base IT sv ev cv st) (hP : PosL d h n p x i st) (he : EV w1 ev eb) (more : Bool) (hmore : more = (decide (p < n) && ltE (kb p) eb)) :
    Calls Try.prog 40 #[.pointer (some ⟨IT, 0, none⟩)] w fun e w' => NextPost K V d h n p more w1 w base IT sv ev e w' := by
  have hN0 := NI.start I hb
  have HB : Hid (w1.heap.size = base) := hbase
  have HKb : Hid (∀ i, i < n → BV w1 (K i) (kb i)) := hKb
  have HE : Hid (EV w1 ev eb) := he
  have HMO : Hid (more = (decide (p < n) && ltE (kb p) eb)) := hmore
  clear hmore
  have hh1 := r.pt.h1
  have hh4 := r.h4 hn
  clear hb hbase hKb he
  go_enter Try.func40, Try.ntmps40
  go_wp2
  go_loopg [] (h + 3) (fun k wr => ∃ svr st, NI w1 w wr base IT sv svr ev cv st ∧ Hid ((∃ x i, PosL d h n p x i st ∧ i < em n x) ∨ (∃ x i, PosL d h n p x i st ∧ i = em n x ∧ h + 2 ≤ k) ∨ (∃ l x i, PosI d h n p l x i st ∧ l + 1 < h ∧ h + 1 ≤ k + (l + 1) ∧ 2 ≤ k) ∨ (st = [] ∧ n ≤ p)))
  case atStart =>
    refine ⟨sv, st, hN0, ?_⟩
    by_cases hi : i < em n x
    · exact .inl ⟨x, i, hP, hi⟩
    · exact .inr (.inl ⟨x, i, hP, by have := hP.2.2.1; omega, by omega⟩)
  case round =>
    clear hN0 hP I
    obtain ⟨svr, st, hN, hpos⟩ := hrel
    have hsz : base ≤ wr.heap.size := by rw [← HB.out]; exact hN.bel.size
    have hTr : TS w0 wr base0 B d := T.below (by rw [HB.out]; exact hN.bel)
    have he57 := fun (wx : World) (a : Option Addr) (n c : Nat) => Lib.run_eql_slice_nil (P := Try.prog) wx 57 61 a n c 0 0 Try.underlying57
    have hn57 := fun (wx : World) (a : Option Addr) (n c : Nat) => run_neq_slice_nil_any (P := Try.prog) wx 57 61 a n c 0 0 Try.underlying57
    have hn39 := fun (wx : World) (a : Option Addr) (n c : Nat) => run_neq_slice_nil_any (P := Try.prog) wx 39 5 a n c 0 0 Try.underlying39
    rcases hpos with ⟨x, i, hP, hi⟩ | ⟨x, i, hP, hi, hk⟩ | ⟨l, x, i, hP, hl, hk, hk2⟩ | ⟨hst, hpn⟩
    · obtain ⟨hst, hx, hie, hpp⟩ := hP
      have hl2 : st.length / 2 = h := by rw [hst, pth_len]; omega
      obtain ⟨sg, cap', hsv', -, -⟩ := hN.is.own.form (by omega)
      rw [hl2] at hsv'
      subst hsv'
      have ho := hN.is.own
      rw [hl2] at ho
      have c0 : wr.cell? ⟨IT, 0, none⟩ = some (.slice (some ⟨sg, 0, none⟩) h cap') := hN.is.row.cell 0
      have ct0 : wr.cell? ⟨sg, (h - 1) * 2, none⟩ = some (.pointer (some ⟨d.adr 0 x, 0, none⟩)) := by rw [ho.cellAt _ (by omega), hst]; exact (pth_top d.adr (h - 1) 0 x i).1
      have ct1 : wr.cell? ⟨sg, (h - 1) * 2 + 1, none⟩ = some (.int .i64 (i : Nat)) := by rw [ho.cellAt _ (by omega), hst]; exact (pth_top d.adr (h - 1) 0 x i).2
      have ft1 := ho.frozenAt ((h - 1) * 2 + 1)
      obtain ⟨la, lcap, d0, d1, hen⟩ := T.leafR r hx
      obtain ⟨lg, hla, hent⟩ := hen (by omega)
      subst hla
      have HEN : Hid (w1.cell? ⟨lg, i * 2, none⟩ = some (K (16 * x + i)) ∧ w1.cell? ⟨lg, i * 2 + 1, none⟩ = some (V (16 * x + i))) := hent i hi
      have hbw : Below w1.heap.size w1 wr := by rw [HB.out]; exact hN.bel
      have d0 := cellOf d0 hbw
      have d1 := cellOf d1 hbw
      have hk0 := cellOf (hent i hi).1 hbw
      obtain ⟨L, hL⟩ : ∃ L, d.adr 0 x = L := ⟨_, rfl⟩
      rw [hL] at ct0 d0 d1
      obtain ⟨m, hm⟩ : ∃ m, em n x = m := ⟨_, rfl⟩
      rw [hm] at d0
      have j1 : (0 : Int) ≤ (h : Int) - 1 := by omega
      have j2 : (h : Int) - 1 < (h : Int) := by omega
      have j3 : ((h : Int) - 1).toNat = h - 1 := by omega
      have j4 : (0 : Int) < (h : Int) := by omega
      have j5 : (i : Int) < (m : Int) := by omega
      have j6 : (0 : Int) ≤ (i : Int) := by omega
      have hi16 : i < 16 := by have : em n x ≤ 16 := by { unfold em; omega }
                               omega
      have HX : Hid (st = pth d.adr (h - 1) 0 x i ∧ em n x = m ∧ p = 16 * x + i) := ⟨hst, hm, hpp⟩
      clear hent hen hL hm hst hpp
      go_upto_region 2 with fail
      go_quiet (fail)
      go_upto_region 4 with fail
      go_quiet (fail)
      go_upto_region 5 with fail
      go_quiet (fail)
      go_upto_region 7 with fail
      generalize hwq : World.drewN wr _ = wq
      have hNq : NI w1 w wq base IT sv (.slice (some ⟨sg, 0, none⟩) h cap') ev cv st := by rw [← hwq]; exact hN.drewN _
      have hszq : base ≤ wq.heap.size := by rw [← hwq]; exact hsz
      clear c0 ct0 d0 d1 ho ct1 ft1 hk0 hbw hwq
      have hN2 := hNq.setTop (by omega) hszq ((h - 1) * 2 + 1) (.int .i64 ((i + 1 : Nat) : Int))
      rw [HX.out.1, pth_set, show ((i + 1 : Nat) : Int) = (i : Int) + 1 by omega] at hN2
      generalize hwS : World.setCell wq ⟨sg, (h - 1) * 2 + 1, none⟩ (Value.int IntKind.i64 ((i : Int) + 1)) = wS at hN2
      have hszS : base ≤ wS.heap.size := by rw [← HB.out]; exact hN2.bel.size
      have hbw : Below w1.heap.size w1 wS := by rw [HB.out]; exact hN2.bel
      clear hwS hNq hN hTr
      have hpn : p < n := by have := HX.out; unfold em at hi; omega
      have e0 : wS.cell? ⟨IT, 0, none⟩ = some (.slice (some ⟨sg, 0, none⟩) h cap') := hN2.is.row.cell 0
      have e1 : wS.cell? ⟨IT, 1, none⟩ = some ev := hN2.is.row.cell 1
      have e2 : wS.cell? ⟨IT, 2, none⟩ = some cv := hN2.is.row.cell 2
      have f0 := hN2.is.row.frozen 0
      have f2 := hN2.is.row.frozen 2
      obtain ⟨ka, kc, kbk, kof, hKe, hKbs⟩ := HKb.out p hpn
      have ek : wS.cell? ⟨lg, i * 2, none⟩ = some (.slice ka (kb p).length kc) := by rw [← hKe, HX.out.2.2]; exact cellOf HEN.out.1 hbw
      have hKbs := hKbs.below hbw
      have HPOS : Hid (PosL d h n (p + 1) x (i + 1) (pth d.adr (h - 1) 0 x (i + 1))) := ⟨rfl, hx, by omega, by have := HX.out; omega⟩
      have HEN2 : Hid (w1.cell? ⟨lg, i * 2, none⟩ = some (K p) ∧ w1.cell? ⟨lg, i * 2 + 1, none⟩ = some (V p)) := by rw [HX.out.2.2]; exact HEN.out
      clear hKe HEN
      have r2 := hN2.is.row.set 0 (.slice none 0 0)
      have e2' : (wS.setCell ⟨IT, 0, none⟩ (.slice none 0 0)).cell? ⟨IT, 2, none⟩ = some cv := r2.cell 2
      have f2' := r2.frozen 2
      cases eb with
      | none =>
        have hev : ev = .slice none 0 0 := HE.out
        have HM : Hid (more = true) := HMO.out.trans (by simp [hpn, ltE])
        rw [hev] at e1
        clear HE HMO hev
        go_quiet (fail)
        go_wp2
        go_ret
        rw [HM.out]
        exact ⟨rfl, _, _, _, (hN2.drewN _).setCur hszS _, fun _ => ⟨⟨x, i + 1, HPOS.out⟩, lg, i * 2, rfl, HEN2.out.1, HEN2.out.2⟩, (fun h => by cases h)⟩
      | some es =>
        obtain ⟨xe, ec, ebk, eof, hev, hEb⟩ := HE.out
        have hEb := hEb.below hbw
        rw [hev] at e1
        have HEV : Hid (ev = .slice (some xe) es.length ec) := hev
        have H46 : Hid (∀ wx : World, wx = wS.drew → Calls Try.prog 46 #[.slice ka (kb p).length kc, .slice (some xe) es.length ec] wx fun e w' => e = .returned (.int .i64 (cmpB (kb p) es)) ∧ w' = wx) := fun wx hw => by
          subst hw
          exact compare_any wS.drew ka (some xe) kc kbk kof ec ebk eof (kb p) es ⟨hKbs.nil, hKbs.at', hKbs.cell, hKbs.max⟩ ⟨hEb.nil, hEb.at', hEb.cell, hEb.max⟩
        obtain ⟨cm, hcm⟩ : ∃ cm, cmpB (kb p) es = cm := ⟨_, rfl⟩
        rw [hcm] at H46
        have HM : Hid (more = decide (cm < 0)) := HMO.out.trans (by simp [hpn, ltE, hcm])
        have KP : Hid (wS.drew.cell? ⟨IT, 1, none⟩ = some (.slice (some xe) es.length ec) ∧ wS.drew.cell? ⟨lg, i * 2, none⟩ = some (.slice ka (kb p).length kc)) := ⟨e1, ek⟩
        have hNd := hN2.drewN 1
        clear hcm HE HMO hKbs hEb hev
        go_region_held3 (fun w' => w'.cell? ⟨IT, 1, none⟩ = some (.slice (some xe) es.length ec) ∧ w'.cell? ⟨lg, i * 2, none⟩ = some (.slice ka (kb p).length kc)) (first | exact KP.out | go_keep) (first | (go_at_call 46; refine Calls.mono (H46.out _ (by first | rfl | assumption)) ?_; rintro e w7 ⟨rfl, rfl⟩))
        by_cases hc : cm < 0
        · have HM2 : Hid (more = true) := HM.out.trans (by simp [hc])
          have hc2 : ¬(0 ≤ cm) := by omega
          clear HM
          go_wp2
          go_ret
          rw [HM2.out]
          exact ⟨rfl, _, _, _, hN2.drew1.setCur hszS _, fun _ => ⟨⟨x, i + 1, HPOS.out⟩, lg, i * 2, rfl, HEN2.out.1, HEN2.out.2⟩, (fun h => by cases h)⟩
        · have HM2 : Hid (more = false) := HM.out.trans (by simp [hc])
          have hc2 : 0 ≤ cm := by omega
          clear HM
          go_wp2
          go_ret
          rw [HM2.out]
          exact ⟨rfl, _, _, _, hN2.drew1.reset hszS, (fun h => by cases h), fun _ => ⟨rfl, rfl, rfl⟩⟩
    · obtain ⟨hst, hx, hie, hpp⟩ := id hP
      have hl2 : st.length / 2 = h := by rw [hst, pth_len]; omega
      have hl3 : st.length = h * 2 := by rw [hst, pth_len]; omega
      obtain ⟨sg, cap', hsv', -, -⟩ := hN.is.own.form (by omega)
      rw [hl2] at hsv'
      subst hsv'
      have ho := hN.is.own
      rw [hl2] at ho
      have hcap := own_cap ho
      have hcm := hcap.2
      unfold maxLen at hcm
      have c0 : wr.cell? ⟨IT, 0, none⟩ = some (.slice (some ⟨sg, 0, none⟩) h cap') := hN.is.row.cell 0
      have cf := hN.is.row.frozen 0
      have ct0 : wr.cell? ⟨sg, (h - 1) * 2, none⟩ = some (.pointer (some ⟨d.adr 0 x, 0, none⟩)) := by rw [ho.cellAt _ (by omega), hst]; exact (pth_top d.adr (h - 1) 0 x i).1
      have ct1 : wr.cell? ⟨sg, (h - 1) * 2 + 1, none⟩ = some (.int .i64 (i : Nat)) := by rw [ho.cellAt _ (by omega), hst]; exact (pth_top d.adr (h - 1) 0 x i).2
      obtain ⟨la, lcap, d0, d1, hen⟩ := hTr.leafR r hx
      have HPL : Hid (PosL d h n p x i st ∧ i = em n x) := ⟨hP, hi⟩
      obtain ⟨L, hL⟩ : ∃ L, d.adr 0 x = L := ⟨_, rfl⟩
      rw [hL] at ct0 d0 d1
      obtain ⟨m, hm⟩ : ∃ m, em n x = m := ⟨_, rfl⟩
      rw [hm] at d0 hi
      subst hi
      have j1 : (0 : Int) ≤ (h : Int) - 1 := by omega
      have j2 : (h : Int) - 1 < (h : Int) := by omega
      have j3 : ((h : Int) - 1).toNat = h - 1 := by omega
      have j4 : (0 : Int) < (h : Int) := by omega
      have j7 : (h : Int) - 1 ≤ (cap' : Int) := by omega
      clear hen hL hm hst hpp hP ho hx hie
      go_upto_region 2 with fail
      go_quiet (fail)
      go_upto_region 4 with fail
      go_quiet (fail)
      go_upto_region 10 with fail
      go_quiet (fail)
      go_upto_region 16 with fail
      generalize hwq : World.drewN (World.drewN (World.drewN wr _) _) _ = wq
      have hNq : NI w1 w wq base IT sv (.slice (some ⟨sg, 0, none⟩) h cap') ev cv st := by rw [← hwq]; exact ((hN.drewN _).drewN _).drewN _
      have hszq : base ≤ wq.heap.size := by rw [← hwq]; exact hsz
      clear c0 ct0 d0 d1 ct1 cf hwq hN hTr
      have c0 : wq.cell? ⟨IT, 0, none⟩ = some (.slice (some ⟨sg, 0, none⟩) h cap') := hNq.is.row.cell 0
      have cf := hNq.is.row.frozen 0
      go_region
      go_wp2
      go_roundg (h + 1)
      case measure => omega
      case rel =>
        refine ⟨_, _, (hNq.cut (by omega) hl3 hszq (h - 1) (by omega)).drew1, ?_⟩
        by_cases h1 : 1 < h
        · exact .inr (.inr (.inl ⟨0, x / 16, x % 16, HPL.out.1.pop r HPL.out.2 h1, h1, by omega, by omega⟩))
        · refine .inr (.inr (.inr ⟨?_, ?_⟩))
          · rw [show (h - 1) * 2 = 0 by omega]; rfl
          · have := HPL.out.1.last r HPL.out.2 (by omega); omega
    · obtain ⟨hst, hx, hi16, hxi, hpp⟩ := id hP
      obtain ⟨t, ht⟩ : ∃ t, h - 1 - (l + 1) = t := ⟨_, rfl⟩
      rw [ht] at hst
      have hl2 : st.length / 2 = t + 1 := by rw [hst, pth_len]; omega
      have hl3 : st.length = (t + 1) * 2 := by rw [hst, pth_len]; omega
      obtain ⟨sg, cap', hsv', -, -⟩ := hN.is.own.form (by omega)
      rw [hl2] at hsv'
      subst hsv'
      have ho := hN.is.own
      rw [hl2] at ho
      have hcap := own_cap ho
      have hcm := hcap.2
      unfold maxLen at hcm
      have c0 : wr.cell? ⟨IT, 0, none⟩ = some (.slice (some ⟨sg, 0, none⟩) (t + 1) cap') := hN.is.row.cell 0
      have cf := hN.is.row.frozen 0
      have ct0 : wr.cell? ⟨sg, t * 2, none⟩ = some (.pointer (some ⟨d.adr (l + 1) x, 0, none⟩)) := by rw [ho.cellAt _ (by omega), hst]; exact (pth_top d.adr t (l + 1) x i).1
      have ct1 : wr.cell? ⟨sg, t * 2 + 1, none⟩ = some (.int .i64 (i : Nat)) := by rw [ho.cellAt _ (by omega), hst]; exact (pth_top d.adr t (l + 1) x i).2
      have ft1 := ho.frozenAt (t * 2 + 1)
      obtain ⟨cg, ccap, d1, hch⟩ := T.innR r hl hx
      have HCH : Hid (∀ i, i < min 16 (d.nd l - 16 * x) → w1.cell? ⟨cg, i * 2, none⟩ = some (low l (16 * x + i)) ∧ w1.cell? ⟨cg, i * 2 + 1, none⟩ = some (ptr (d.adr l (16 * x + i)))) := hch
      have hbw : Below w1.heap.size w1 wr := by rw [HB.out]; exact hN.bel
      have HD1 : Hid (w1.cell? ⟨d.adr (l + 1) x, 1, none⟩ = some (.slice (some ⟨cg, 0, none⟩) (min 16 (d.nd l - 16 * x)) ccap)) := d1
      have d1 := cellOf d1 hbw
      have HPL : Hid (PosI d h n p l x i st ∧ st = pth d.adr t (l + 1) x i) := ⟨hP, hst⟩
      obtain ⟨A, hA⟩ : ∃ A, d.adr (l + 1) x = A := ⟨_, rfl⟩
      rw [hA] at ct0 d1 HD1
      obtain ⟨m, hm⟩ : ∃ m, min 16 (d.nd l - 16 * x) = m := ⟨_, rfl⟩
      rw [hm] at d1 HCH HD1
      have HMM : Hid (min 16 (d.nd l - 16 * x) = m) := hm
      have j4 : (0 : Int) < (t : Int) + 1 := by omega
      have j1 : (0 : Int) ≤ (t : Int) := by omega
      have hm16 : m ≤ 16 := by omega
      clear hch hA hm hst hpp hP ho hx hbw hxi
      by_cases him : i + 1 < m
      · have k1 : (i : Int) + 1 < (m : Int) := by omega
        go_upto_region 2 with fail
        go_quiet (fail)
        go_upto_region 4 with fail
        go_quiet (fail)
        go_upto_region 10 with fail
        go_quiet (fail)
        go_upto_region 12 with fail
        generalize hwq : World.drewN _ _ = wq
        have hNq : NI w1 w wq base IT sv (.slice (some ⟨sg, 0, none⟩) (t + 1) cap') ev cv st := by rw [← hwq]; first | exact ((hN.drewN _).drewN _).drewN _ | exact hN.drewN _
        have hszq : base ≤ wq.heap.size := by rw [← HB.out]; exact hNq.bel.size
        clear c0 ct0 d1 ct1 cf ft1 hwq hN hTr
        have hN2 := hNq.setTop (by omega) hszq (t * 2 + 1) (.int .i64 ((i + 1 : Nat) : Int))
        rw [HPL.out.2, pth_set, show ((i + 1 : Nat) : Int) = (i : Int) + 1 by omega] at hN2
        have hPD : Hid (PosD d h n p l x (i + 1) (pth d.adr t (l + 1) x (i + 1))) := by
          have h2 := HPL.out.1.down r hl (by rw [HMM.out]; exact him)
          rw [ht] at h2
          exact h2
        generalize hwS : World.setCell wq ⟨sg, t * 2 + 1, none⟩ (Value.int IntKind.i64 ((i : Int) + 1)) = wS at hN2
        have hbw : Below w1.heap.size w1 wS := by rw [HB.out]; exact hN2.bel
        have hoS := hN2.is.own
        rw [show (pth d.adr t (l + 1) x (i + 1)).length / 2 = t + 1 by rw [pth_len]; omega] at hoS
        have ct1 : wS.cell? ⟨sg, t * 2 + 1, none⟩ = some (.int .i64 ((i : Int) + 1)) := by rw [hoS.cellAt _ (by omega), (pth_top d.adr t (l + 1) x (i + 1)).2]; simp
        have d1 := cellOf HD1.out hbw
        have hcc := cellOf (HCH.out (i + 1) him).2 hbw
        unfold ptr at hcc
        clear hwS hNq hoS HD1 HCH
        obtain ⟨C, hC⟩ : ∃ C, d.adr l (16 * x + (i + 1)) = C := ⟨_, rfl⟩
        rw [hC] at hcc
        have k2 : (0 : Int) ≤ (i : Int) + 1 := by omega
        go_quiet (fail)
        have hN3 := hN2.drewN nq
        have hPD2 : Hid (PosD d h n p l x (i + 1) (pth d.adr t (l + 1) x (i + 1)) ∧ d.adr l (16 * x + (i + 1)) = C) := ⟨hPD.out, hC⟩
        clear hC hPD ct1 d1 hcc hN2 hbw
        go_wp2
        go_loopg [6] l (fun e c wr => ∃ X I svr st C, NI w1 w wr base IT sv svr ev cv st ∧ c = .pointer (some ⟨C, 0, none⟩) ∧ Hid (PosD d h n p e X I st ∧ d.adr e (16 * X + I) = C))
        case atStart => exact ⟨x, i + 1, _, _, C, hN3, rfl, hPD2⟩
        case round =>
          clear hN3 hPD2
          obtain ⟨X, I, svr, st2, C2, hN4, rfl, hPD3⟩ := hrel
          have hsz4 : base ≤ wr.heap.size := by rw [← HB.out]; exact hN4.bel.size
          have heh : gk + 1 < h := hPD3.out.1.2.1
          have hl4 : st2.length = (h - 1 - gk) * 2 := by rw [hPD3.out.1.1, pth_len]; omega
          have ho4 := hN4.is.own
          obtain ⟨s, hs⟩ : ∃ s, h - 1 - gk = s := ⟨_, rfl⟩
          have hs60 : s ≤ 60 := by omega
          rw [hs] at hl4
          rw [show st2.length / 2 = s by omega] at ho4
          obtain ⟨oa, cap4, hsv4⟩ := own_form ho4
          subst hsv4
          have c0 : wr.cell? ⟨IT, 0, none⟩ = some (.slice oa s cap4) := hN4.is.row.cell 0
          clear hs
          obtain ⟨i0, hi0, hz0, hz1, hz2⟩ := info_parts info78
          have ho4A := ho4.alloc (.cells #[.pointer (some ⟨C2, 0, none⟩), .int .i64 0] 78)
          have hszA : base ≤ (wr.alloc (.cells #[.pointer (some ⟨C2, 0, none⟩), .int .i64 0] 78)).heap.size := by simp; omega
          cases gk with
          | zero =>
            obtain ⟨la, lcap, _, hC1, _⟩ := T.leafR r (show 16 * X + I < d.nd 0 from hPD3.out.1.2.2.2.1)
            rw [hPD3.out.2] at hC1
            have HC1 : Hid (w1.cell? ⟨C2, 1, none⟩ = some (.slice none 0 0)) := hC1
            clear hC1
            go_wp2_with (at_builtin; refine wpList_append_lies _ rfl (.tmp 129) (.tmp 132) 73 rfl base 78 i0 _ 2 16 Try.underlying73 hi0 hz0 hz1 hz2 rfl (by omega) _ s _ (by rfl) ho4A ⟨wr.heap.size, 0, none⟩ 1 1 [.pointer (some ⟨C2, 0, none⟩), .int .i64 0] (by rfl) (by rfl) (World.news_of_block (cs := #[.pointer (some ⟨C2, 0, none⟩), .int .i64 0]) (t := 78) (fr := (0, 0)) (heap_alloc_new wr _)) (by simp [Value.oneCell']) (by omega) (by unfold maxLen; omega) (by omega) hszA (wr.heap.size + 1) (by simp) ?_; intro g5 cap5 w5 hown5 hgrow5 hat5 hlt5; have hp5 := hN4.push hsz4 hgrow5 hown5 (by simp; omega) (by rcases hat5 with h2 | h2; exact .inl h2; right; omega); have r5 := hp5.1; have a5 : w5.cell? ⟨IT, 0, none⟩ = some (.slice oa s cap4) := r5.cell 0; have f5 := r5.frozen 0; have q5 := cellOf HC1.out (show Below w1.heap.size w1 _ by rw [HB.out]; exact hp5.2.bel))
            go_roundg 0
            case measure => omega
            case rel =>
              have hlf := hPD3.out.1.leaf r
              rw [hPD3.out.2] at hlf
              exact ⟨_, _, hp5.2, .inl ⟨16 * X + I, 0, hlf.1, hlf.2⟩⟩
          | succ e =>
            have hnx := hPD3.out.1.next r
            rw [hPD3.out.2] at hnx
            have hnx' := hnx.2.2.2.1
            obtain ⟨cg2, ccap2, hC1, hC2⟩ := T.innR r (show e + 1 < h by omega) (show 16 * X + I < d.nd (e + 1) from hPD3.out.1.2.2.2.1)
            have hC2 := (hC2 0 (by omega)).2
            rw [hPD3.out.2] at hC1
            obtain ⟨m2, hm2⟩ : ∃ m2, min 16 (d.nd e - 16 * (16 * X + I)) = m2 := ⟨_, rfl⟩
            rw [hm2] at hC1
            have hm2p : (0 : Int) < (m2 : Int) := by omega
            obtain ⟨C3, hC3⟩ : ∃ C3, d.adr e (16 * (16 * X + I) + 0) = C3 := ⟨_, rfl⟩
            rw [hC3] at hC2
            unfold ptr at hC2
            have HC1 : Hid (w1.cell? ⟨C2, 1, none⟩ = some (.slice (some ⟨cg2, 0, none⟩) m2 ccap2) ∧ w1.cell? ⟨cg2, 0 * 2 + 1, none⟩ = some (.pointer (some ⟨C3, 0, none⟩))) := ⟨hC1, hC2⟩
            have HNX : Hid (PosD d h n p e (16 * X + I) 0 (st2 ++ [ptr C2, .int .i64 (0 : Nat)]) ∧ d.adr e (16 * (16 * X + I) + 0) = C3) := ⟨hnx, hC3⟩
            clear hC1 hC2 hnx hC3 hm2 hnx'
            go_wp2_with (at_builtin; refine wpList_append_lies _ rfl (.tmp 129) (.tmp 132) 73 rfl base 78 i0 _ 2 16 Try.underlying73 hi0 hz0 hz1 hz2 rfl (by omega) _ s _ (by rfl) ho4A ⟨wr.heap.size, 0, none⟩ 1 1 [.pointer (some ⟨C2, 0, none⟩), .int .i64 0] (by rfl) (by rfl) (World.news_of_block (cs := #[.pointer (some ⟨C2, 0, none⟩), .int .i64 0]) (t := 78) (fr := (0, 0)) (heap_alloc_new wr _)) (by simp [Value.oneCell']) (by omega) (by unfold maxLen; omega) (by omega) hszA (wr.heap.size + 1) (by simp) ?_; intro g5 cap5 w5 hown5 hgrow5 hat5 hlt5; have hp5 := hN4.push hsz4 hgrow5 hown5 (by simp; omega) (by rcases hat5 with h2 | h2; exact .inl h2; right; omega); have r5 := hp5.1; have a5 : w5.cell? ⟨IT, 0, none⟩ = some (.slice oa s cap4) := r5.cell 0; have f5 := r5.frozen 0; have q5 := cellOf HC1.out.1 (show Below w1.heap.size w1 _ by rw [HB.out]; exact hp5.2.bel); have q6 := cellOf HC1.out.2 (show Below w1.heap.size w1 _ by rw [HB.out]; exact hp5.2.bel); rw [show 0 * 2 + 1 = 1 from rfl] at q6)
            go_roundg e
            case measure => omega
            case rel => exact ⟨16 * X + I, 0, _, _, C3, hp5.2, rfl, HNX.out⟩
      · have k1 : ¬((i : Int) + 1 < (m : Int)) := by omega
        go_upto_region 2 with fail
        go_quiet (fail)
        go_upto_region 4 with fail
        go_quiet (fail)
        go_upto_region 10 with fail
        go_quiet (fail)
        go_upto_region 16 with fail
        generalize hwq : World.drewN (World.drewN (World.drewN wr _) _) _ = wq
        have hNq : NI w1 w wq base IT sv (.slice (some ⟨sg, 0, none⟩) (t + 1) cap') ev cv st := by rw [← hwq]; exact ((hN.drewN _).drewN _).drewN _
        have hszq : base ≤ wq.heap.size := by rw [← hwq]; exact hsz
        clear c0 ct0 d1 ct1 cf hwq hN hTr ft1
        have c0 : wq.cell? ⟨IT, 0, none⟩ = some (.slice (some ⟨sg, 0, none⟩) (t + 1) cap') := hNq.is.row.cell 0
        have cf := hNq.is.row.frozen 0
        have j7 : (t : Int) ≤ (cap' : Int) := by omega
        go_region
        go_wp2
        go_roundg (gk - 1)
        case measure => omega
        case rel =>
          refine ⟨_, _, (hNq.cut (by omega) hl3 hszq t (by omega)).drew1, ?_⟩
          have hno : ¬(i + 1 < min 16 (d.nd l - 16 * x)) := by rw [HMM.out]; exact him
          by_cases h1 : l + 2 < h
          · have hpop := HPL.out.1.pop r hl hno h1
            rw [ht] at hpop
            exact .inr (.inr (.inl ⟨l + 1, x / 16, x % 16, hpop, by omega, by omega, by omega⟩))
          · refine .inr (.inr (.inr ⟨?_, ?_⟩))
            · rw [show t * 2 = 0 by omega]; rfl
            · have := HPL.out.1.last r hl hno (by omega); omega
    · subst hst
      have hsl : ∃ oa cap, svr = .slice oa 0 cap := own_form hN.is.own
      obtain ⟨oa, cap, rfl⟩ := hsl
      have c0 : wr.cell? ⟨IT, 0, none⟩ = some (.slice oa 0 cap) := hN.is.row.cell 0
      have c2 : wr.cell? ⟨IT, 2, none⟩ = some cv := hN.is.row.cell 2
      have f0 := hN.is.row.frozen 0
      have r2 := hN.is.row.set 0 (.slice none 0 0)
      have c2' : (wr.setCell ⟨IT, 0, none⟩ (.slice none 0 0)).cell? ⟨IT, 2, none⟩ = some cv := r2.cell 2
      have f2' := r2.frozen 2
      have HM : Hid (more = false) := HMO.out.trans (by simp; intro h; omega)
      clear HMO
      go_wp2
      go_ret
      rw [HM.out]
      exact ⟨rfl, _, _, _, hN.reset hsz, (fun h => by cases h), fun _ => ⟨rfl, rfl, rfl⟩⟩

end Go.Proofs.Qxb6604003a
