import Derived.Test.Qxb6604003aWk
import Derived.Test.Qxb6604003aNx
set_option linter.unusedVariables false
namespace Go.Proofs.Qxb6604003a
open Go.RowKit

/-- What ordB1WalkRange hands back. -/
def WalkPost (K V : Nat → Value) (kb : Nat → List UInt8) (n : Nat) (lo : List UInt8) (eb : Option (List UInt8)) (w1 : World) (base : Nat) (e : Ending) (w' : World) : Prop :=
  ∃ p q kv vv, e = .returned (.tuple #[kv, vv, .bool true]) ∧ LoP kb n lo p ∧ HiP kb n eb p q ∧ w'.ownsRow base 39 1 kv (q - p) (sub K p (q - p)) ∧ w'.ownsRow base 39 1 vv (q - p) (sub V p (q - p)) ∧ Below base w1 w'

theorem info39 : (Try.prog.info? 39).map (fun i => (i.zero, i.size, i.bytes)) = some (some (.slice none 0 0), 1, 24) := by kernel_rfl

theorem NI.len {w1 w wr : World} {base IT : Nat} {sv0 sv ev cv : Value} {st : List Value} (h : NI w1 w wr base IT sv0 sv ev cv st) (hb1 : w1.heap.size = base) : base ≤ wr.heap.size := by rw [← hb1]; exact h.bel.size

set_option maxRecDepth 100000 in
set_option maxHeartbeats 4000000 in
theorem walkR_any (K V : Nat → Value) (kb : Nat → List UInt8) (w0 w1 : World) (base0 base B h n : Nat) (d : D) (low : Nat → Nat → Value) (loa ea : Option Addr) (loc lob loo el ec : Nat) (lo : List UInt8) (eb : Option (List UInt8))
    (hbase : w1.heap.size = base) (T : TS w0 w1 base0 B d) (r : Rest K V kb d h low n) (hn : n ≤ 30000) (hKb : ∀ i, i < n → BV w1 (K i) (kb i)) (hVb : ∀ i, i < n → ∃ a l c, V i = .slice a l c) (hkl : ∀ i, i < n → (kb i).length ≤ 1048576) (ha : AscB kb n) (hlo : Bs w1 loa loc lob loo lo) (hlol : lo.length ≤ 1048576) (he : EV w1 (.slice ea el ec) eb) :
    Calls Try.prog 26 #[.pointer (some ⟨B, 0, none⟩), .slice loa lo.length loc, .slice ea el ec, .int .i64 n] w1 fun e w' => WalkPost K V kb n lo eb w1 base e w' := by
  have hh1 := r.pt.h1
  have hh4 := r.h4 hn
  have HB : Hid (w1.heap.size = base) := hbase
  have HKb : Hid (∀ i, i < n → BV w1 (K i) (kb i) ∧ (kb i).length ≤ 1048576 ∧ ∃ a l c, V i = .slice a l c) := fun i hi => ⟨hKb i hi, hkl i hi, hVb i hi⟩
  have HLO : Hid (Bs w1 loa loc lob loo lo ∧ lo.length ≤ 1048576) := ⟨hlo, hlol⟩
  have HE : Hid (EV w1 (.slice ea el ec) eb) := he
  obtain ⟨ll, hll⟩ : ∃ ll, lo.length = ll := ⟨_, rfl⟩
  have HLL : Hid (lo.length = ll) := hll
  rw [hll]
  have hnI : NI w1 (w1.alloc (.cells #[.slice none 0 0, .slice ea el ec, .pointer none] 76)) (w1.alloc (.cells #[.slice none 0 0, .slice ea el ec, .pointer none] 76)) base base (.slice none 0 0) (.slice none 0 0) (.slice ea el ec) (.pointer none) [] := by
    refine NI.start ⟨?_, World.ownsRow_nil _ _ _ _, by simp [Value.ownBlock], Nat.le_refl _⟩ ?_
    · have := Row.alloc_new w1 76 #[.slice none 0 0, .slice ea el ec, .pointer none]
      rw [hbase] at this
      exact this
    · rw [← hbase]; exact (Below.refl _ _).alloc (Nat.le_refl _) _
  have hrt : (w1.alloc (.cells #[.slice none 0 0, .slice ea el ec, .pointer none] 76)).cell? ⟨B, 0, none⟩ = some (.pointer (some ⟨d.adr (h - 1) 0, 0, none⟩)) := by
    have := (T.alloc (.cells #[.slice none 0 0, .slice ea el ec, .pointer none] 76)).bld.cell 0
    rw [r.root] at this
    exact this
  have hndt : 0 < d.nd (h - 1) := by rw [r.nd (h - 1) (by omega)]; omega
  have HC27 : Hid (∀ (wx : World), Below base w1 wx → ∀ i, i < n → ∃ a c, K i = .slice a (kb i).length c ∧ Calls Try.prog 27 #[.slice a (kb i).length c, .slice loa ll loc] wx fun e w' => e = .returned (.int .i64 (cmpB (kb i) lo)) ∧ Below wx.heap.size wx w') := fun wx hb i hi => by
    rw [← hbase] at hb
    obtain ⟨a, c, b, off, hKe, hKs⟩ := (hKb i hi)
    refine ⟨a, c, hKe, ?_⟩
    rw [← hll]
    exact cmp_any wx a loa c b off loc lob loo (kb i) lo (hKs.below hb) (hlo.below hb) (hkl i hi) hlol
  have HLW : Hid (∀ (wx : World), Below base w1 wx → ∀ l j, l + 1 < h → j < d.nd l → j % 16 ≠ 0 → ∃ g k c, low l j = .slice (some ⟨g, 0, none⟩) k c ∧ Calls Try.prog 27 #[.slice (some ⟨g, 0, none⟩) k c, .slice loa ll loc] wx fun e w' => e = .returned (.int .i64 (cmpB (kb (j * 16 ^ (l + 1))) lo)) ∧ Below wx.heap.size wx w') := fun wx hb l j h1 h2 h3 => by
    rw [← hbase] at hb
    have hmem := r.pt.lowk l j h1 (by show j < dv (n - 1) (l + 1) + 1; rw [← r.nd l (by omega)]; exact h2) h3
    obtain ⟨g, c, hv, hbs, _, _⟩ := T.lw _ hmem
    refine ⟨g, _, c, hv, ?_⟩
    rw [← hll]
    refine cmp_any wx (some ⟨g, 0, none⟩) loa c g 0 loc lob loo _ lo (hbs.below hb) (hlo.below hb) ?_ hlol
    refine hkl _ ?_
    have hn0 : 0 < n := by
      rcases r.lo with h4 | h4
      · omega
      · exact Nat.lt_of_le_of_lt (Nat.zero_le _) h4
    exact r.first hn0 (by omega) h2
  go_enter Try.func26, Try.ntmps26
  go_wp2_with fail
  refine (newIter_any w1 ea el ec).mono ?_
  rintro e wI0 ⟨rfl, rfl⟩
  rw [hbase]
  go_wp2_with fail
  refine (root_any _ B _ hrt).mono ?_
  rintro e wI1 ⟨rfl, rfl⟩
  obtain ⟨wI, hwI⟩ : ∃ wI, w1.alloc (.cells #[.slice none 0 0, .slice ea el ec, .pointer none] 76) = wI := ⟨_, rfl⟩
  rw [hwI] at hnI
  rw [hwI]
  clear hwI hrt hKb hVb hkl hlo hlol he hll hbase
  go_upto_block 0 with fail
  go_cut [12, 13, 14] (fun np rc dp wr => rc = .bool true ∧ ∃ svr st p x i, NI w1 wI wr base base (.slice none 0 0) svr (.slice ea el ec) (.pointer none) st ∧ Hid (PosL d h n p x i st ∧ LoP kb n lo p))
  case first =>
    go_wp2_with fail
    go_loopw [12, 13, 14] (fun np rc dp wr => ∃ svr st, NI w1 wI wr base base (.slice none 0 0) svr (.slice ea el ec) (.pointer none) st ∧ ((∃ l x, l < h ∧ np = .pointer (some ⟨d.adr l x, 0, none⟩) ∧ rc = .bool false ∧ dp = .int .i64 ((h - 1 - l : Nat) : Int) ∧ Hid (x < d.nd l ∧ st = upst d h l x ∧ Dn kb n lo (x * 16 ^ (l + 1)) ((x + 1) * 16 ^ (l + 1)))) ∨ (rc = .bool true ∧ (∃ k : Nat, dp = .int .i64 k ∧ k ≤ 8) ∧ (∃ A, np = .pointer A) ∧ Hid (∃ p x i, PosL d h n p x i st ∧ LoP kb n lo p)))) (fun _ _ dp _ => 8 - (intOf dp).toNat)
    case atStart =>
      refine ⟨_, _, hnI, .inl ⟨h - 1, 0, by omega, rfl, rfl, by rw [show h - 1 - (h - 1) = 0 by omega]; rfl, hndt, ?_, fun i hi => by omega, fun i hi hin => ?_⟩⟩
      · unfold upst; rw [if_pos (by omega)]
      · have := r.hi
        rw [show h - 1 + 1 = h by omega] at hi
        omega
    case round =>
      clear hnI
      obtain ⟨svr, st, hN, hcase⟩ := hrel
      rcases hcase with ⟨l, x, hl, rfl, rfl, rfl, hst⟩ | ⟨rfl, ⟨k, rfl, hk⟩, ⟨A, rfl⟩, hfin⟩
      · have hTr : TS w0 wr base0 B d := T.below (by rw [HB.out]; exact hN.bel)
        have hx := hst.out.1
        have hd8 : ((h - 1 - l : Nat) : Int) < 8 := by omega
        obtain ⟨dp, hdp⟩ : ∃ dp, h - 1 - l = dp := ⟨_, rfl⟩
        have hdp8 : dp < 8 := by omega
        rw [hdp] at hd8
        rw [hdp]
        cases l with
        | zero =>
          obtain ⟨oa, cap, c0, c1, hent⟩ := T.leafR r hx
          have HC0 : Hid (w1.cell? ⟨d.adr 0 x, 0, none⟩ = some (.slice oa (em n x) cap)) := c0
          have HC1 : Hid (w1.cell? ⟨d.adr 0 x, 1, none⟩ = some (.slice none 0 0)) := c1
          have HEN : Hid (0 < em n x → ∃ g, oa = some ⟨g, 0, none⟩ ∧ ∀ i, i < em n x → w1.cell? ⟨g, i * 2, none⟩ = some (K (16 * x + i)) ∧ w1.cell? ⟨g, i * 2 + 1, none⟩ = some (V (16 * x + i))) := hent
          have hbw : Below w1.heap.size w1 wr := by rw [HB.out]; exact hN.bel
          have hm16 : em n x ≤ 16 := by unfold em; omega
          obtain ⟨L, hL⟩ : ∃ L, d.adr 0 x = L := ⟨_, rfl⟩
          rw [hL] at HC0 HC1
          rw [hL]
          obtain ⟨m, hm⟩ : ∃ m, em n x = m := ⟨_, rfl⟩
          rw [hm] at HC0 HEN hm16
          have HME : Hid (em n x = m ∧ d.adr 0 x = L ∧ h - 1 - 0 = dp) := ⟨hm, hL, hdp⟩
          clear c0 c1 hent hL hm hdp
          go_wp2_with fail
          refine (isLeaf_any wr L none 0 0 (cellOf HC1.out hbw)).mono ?_
          rintro e wx ⟨rfl, rfl⟩
          go_wp2_with fail
          refine (numE_any wx L oa m cap (cellOf HC0.out hbw)).mono ?_
          rintro e wy ⟨rfl, rfl⟩
          clear hTr hbw
          obtain ⟨wE, hwE⟩ : ∃ wE : World, wE = wy := ⟨_, rfl⟩
          subst hwE
          go_wp2
          go_loopw [16] (fun i wr => ∃ t : Nat, t ≤ m ∧ i = .int .i64 t ∧ ∃ svr st, NI w1 wI wr base base (.slice none 0 0) svr (.slice ea el ec) (.pointer none) st ∧ Hid (st = upst d h 0 x ∧ ∀ s, s < t → cmpB (kb (16 * x + s)) lo < 0)) (fun i _ => m - (intOf i).toNat)
          case atStart => exact ⟨0, Nat.zero_le _, rfl, _, _, hN, hst.out.2.1, fun s hs => by omega⟩
          case round =>
            clear hN
            obtain ⟨t, ht, rfl, svr, st, hN, hlt⟩ := hrel
            by_cases htm : t < m
            · have hbw : Below w1.heap.size w1 wr := by rw [HB.out]; exact hN.bel
              obtain ⟨g, hoa, hen⟩ := HEN.out (by omega)
              have hin : 16 * x + t < n := by have := HME.out.1; unfold em at this; omega
              obtain ⟨ka, kc, hKe, hcmp⟩ := HC27.out wr hN.bel (16 * x + t) hin
              have he1 := cellOf (hen t htm).1 hbw
              rw [hKe] at he1
              have he0 := cellOf HC0.out hbw
              rw [hoa] at he0
              have j0 : (t : Int) < (m : Int) := by omega
              obtain ⟨cm, hcm⟩ : ∃ cm, cmpB (kb (16 * x + t)) lo = cm := ⟨_, rfl⟩
              rw [hcm] at hcmp
              have HCM : Hid (cmpB (kb (16 * x + t)) lo = cm) := hcm
              have hent := entryKey_any wr L g m cap t _ he0 htm he1
              clear hoa hKe hcm hen he1 he0
              go_wp2_with fail
              refine hent.mono ?_
              rintro e wx ⟨rfl, rfl⟩
              go_wp2_with fail
              refine hcmp.mono ?_
              rintro e wz ⟨rfl, hbz⟩
              have hN2 := hN.belowN hbz (hN.len HB.out)
              clear hent hcmp
              by_cases hc : cm < 0
              · go_wp2
                go_roundw
                case rel =>
                  refine ⟨t + 1, by omega, by go_num, _, _, hN2, hlt.out.1, fun s hs => ?_⟩
                  by_cases e : s = t
                  · subst e; rw [HCM.out]; exact hc
                  · exact hlt.out.2 s (by omega)
                case measure => simp [intOf]; omega
              · have hc2 : ¬(cm < 0) := hc
                go_wp2_with fail
                refine (push_any w1 wI wz base base (.slice none 0 0) _ (.slice ea el ec) (.pointer none) st L t (h - 1 - 0) HB.out hN2 (by rw [hlt.out.1, upst_len _ _ _ _ hl]) (by omega)).mono ?_
                rintro e wp ⟨rfl, sv2, hN3⟩
                have HPF : Hid (∃ p x i, PosL d h n p x i (st ++ [ptr L, .int .i64 (t : Nat)]) ∧ LoP kb n lo p) := by
                  refine ⟨16 * x + t, x, t, ⟨?_, hst.out.1, by rw [HME.out.1]; exact ht, rfl⟩, hst.out.2.2.leaf r ha hst.out.1 (by rw [HME.out.1]; exact ht) hlt.out.2 (.inr (by rw [HCM.out]; omega))⟩
                  rw [hlt.out.1, ← HME.out.2.1]
                  exact upst_push d h 0 x t hl
                go_wp2
                go_roundw
                case rel => exact ⟨_, _, hN3, .inr ⟨rfl, ⟨dp + 1, by go_num, by omega⟩, ⟨_, rfl⟩, HPF.out⟩⟩
                case measure => simp [intOf]; omega
            · have j0 : ¬((t : Int) < (m : Int)) := by omega
              go_wp2_with fail
              refine (push_any w1 wI wr base base (.slice none 0 0) _ (.slice ea el ec) (.pointer none) st L t (h - 1 - 0) HB.out hN (by rw [hlt.out.1, upst_len _ _ _ _ hl]) (by omega)).mono ?_
              rintro e wp ⟨rfl, sv2, hN3⟩
              have HPF : Hid (∃ p x i, PosL d h n p x i (st ++ [ptr L, .int .i64 (t : Nat)]) ∧ LoP kb n lo p) := by
                refine ⟨16 * x + t, x, t, ⟨?_, hst.out.1, by rw [HME.out.1]; exact ht, rfl⟩, hst.out.2.2.leaf r ha hst.out.1 (by rw [HME.out.1]; exact ht) hlt.out.2 (.inl (by rw [HME.out.1]; omega))⟩
                rw [hlt.out.1, ← HME.out.2.1]
                exact upst_push d h 0 x t hl
              go_wp2
              go_roundw
              case rel => exact ⟨_, _, hN3, .inr ⟨rfl, ⟨dp + 1, by go_num, by omega⟩, ⟨_, rfl⟩, HPF.out⟩⟩
              case measure => simp [intOf]; omega
        | succ l =>
          have hn0 : 0 < n := by
            rcases r.lo with h4 | h4
            · omega
            · exact Nat.lt_of_le_of_lt (Nat.zero_le _) h4
          have hxf := r.first hn0 hl hx
          have h16 : 16 * x < d.nd l := r.has (by omega) (by rw [← mul16]; exact hxf)
          obtain ⟨cg, ccap, c1, hch⟩ := T.innR r hl hx
          have hbw : Below w1.heap.size w1 wr := by rw [HB.out]; exact hN.bel
          have HC1 : Hid (w1.cell? ⟨d.adr (l + 1) x, 1, none⟩ = some (.slice (some ⟨cg, 0, none⟩) (min 16 (d.nd l - 16 * x)) ccap)) := c1
          have HCH : Hid (∀ i, i < min 16 (d.nd l - 16 * x) → w1.cell? ⟨cg, i * 2, none⟩ = some (low l (16 * x + i)) ∧ w1.cell? ⟨cg, i * 2 + 1, none⟩ = some (ptr (d.adr l (16 * x + i)))) := hch
          obtain ⟨A, hA⟩ : ∃ A, d.adr (l + 1) x = A := ⟨_, rfl⟩
          rw [hA] at HC1
          rw [hA]
          obtain ⟨m, hm⟩ : ∃ m, min 16 (d.nd l - 16 * x) = m := ⟨_, rfl⟩
          rw [hm] at HC1 HCH
          have hm0 : 0 < m := by omega
          have hm16 : m ≤ 16 := by omega
          have HME : Hid (min 16 (d.nd l - 16 * x) = m ∧ d.adr (l + 1) x = A ∧ h - 1 - (l + 1) = dp ∧ 0 < n) := ⟨hm, hA, hdp, hn0⟩
          clear c1 hch hA hm hdp hxf h16
          have jm : ¬((m : Int) = 0) := by omega
          have jm2 : ((m : Int) == 0) = false := by simpa using jm
          go_wp2_with fail
          refine (isLeaf_any wr A (some ⟨cg, 0, none⟩) m ccap (cellOf HC1.out hbw)).mono ?_
          rintro e wx ⟨rfl, rfl⟩
          simp only [Option.isNone_some]
          go_wp2_with fail
          refine (numC_any wx A (some ⟨cg, 0, none⟩) m ccap (cellOf HC1.out hbw)).mono ?_
          rintro e wy ⟨rfl, rfl⟩
          clear hTr hbw
          obtain ⟨wE, hwE⟩ : ∃ wE : World, wE = wy := ⟨_, rfl⟩
          subst hwE
          go_wp2
          go_loopw [18] (fun i wr => ∃ j : Nat, j < m ∧ i = .int .i64 j ∧ ∃ svr st, NI w1 wI wr base base (.slice none 0 0) svr (.slice ea el ec) (.pointer none) st ∧ Hid (st = upst d h (l + 1) x ∧ (j = 0 ∨ cmpB (kb ((16 * x + j) * 16 ^ (l + 1))) lo ≤ 0))) (fun i _ => m - (intOf i).toNat)
          case atStart => exact ⟨0, hm0, rfl, _, _, hN, hst.out.2.1, .inl rfl⟩
          case round =>
            clear hN
            obtain ⟨j, hjm, rfl, svr, st, hN, hlt⟩ := hrel
            have j3 : (j : Int) + 1 ≤ 16 := by omega
            by_cases htm : j + 1 < m
            · have hbw : Below w1.heap.size w1 wr := by rw [HB.out]; exact hN.bel
              obtain ⟨lg, lk, lc, hLe, hcmp⟩ := HLW.out wr hN.bel l (16 * x + (j + 1)) hl (by have := HME.out.1; omega) (by omega)
              have he1 := cellOf (HCH.out (j + 1) htm).1 hbw
              rw [hLe] at he1
              have he0 := cellOf HC1.out hbw
              have j0 : (j : Int) + 1 < (m : Int) := by omega
              obtain ⟨cm, hcm⟩ : ∃ cm, cmpB (kb ((16 * x + (j + 1)) * 16 ^ (l + 1))) lo = cm := ⟨_, rfl⟩
              rw [hcm] at hcmp
              have HCM : Hid (cmpB (kb ((16 * x + (j + 1)) * 16 ^ (l + 1))) lo = cm) := hcm
              have hent := childLow_any wr A cg m ccap (j + 1) _ he0 htm he1
              rw [show ((j + 1 : Nat) : Int) = (j : Int) + 1 by omega] at hent
              clear hLe hcm he1 he0
              go_wp2_with fail
              refine hent.mono ?_
              rintro e wx ⟨rfl, rfl⟩
              go_wp2_with fail
              refine hcmp.mono ?_
              rintro e wz ⟨rfl, hbz⟩
              have hN2 := hN.belowN hbz (hN.len HB.out)
              clear hent hcmp
              by_cases hc : cm ≤ 0
              · go_wp2
                go_roundw
                case rel => exact ⟨j + 1, by omega, by go_num, _, _, hN2, hlt.out.1, .inr (by rw [HCM.out]; exact hc)⟩
                case measure => simp [intOf]; omega
              · have hc2 : ¬(cm ≤ 0) := hc
                go_wp2_with fail
                refine (push_any w1 wI wz base base (.slice none 0 0) _ (.slice ea el ec) (.pointer none) st A j (h - 1 - (l + 1)) HB.out hN2 (by rw [hlt.out.1, upst_len _ _ _ _ hl]) (by omega)).mono ?_
                rintro e wp ⟨rfl, sv2, hN3⟩
                have hbp : Below w1.heap.size w1 wp := by rw [HB.out]; exact hN3.bel
                have hch := cellOf (HCH.out j hjm).2 hbp
                unfold ptr at hch
                have hchc := child_any wp A cg m ccap j _ (cellOf HC1.out hbp) hjm hch
                have HPF : Hid (16 * x + j < d.nd l ∧ st ++ [ptr A, .int .i64 (j : Nat)] = upst d h l (16 * x + j) ∧ Dn kb n lo ((16 * x + j) * 16 ^ (l + 1)) ((16 * x + j + 1) * 16 ^ (l + 1))) := by
                  have hme := HME.out
                  refine ⟨by omega, ?_, hst.out.2.2.child r ha hl (by omega) hlt.out.2 (.inr (by rw [HCM.out]; omega)) hme.2.2.2⟩
                  rw [hlt.out.1, ← hme.2.1, upst_push d h (l + 1) x j hl, upst_down d h l x j hl (by omega)]
                clear hch hbp
                go_wp2_with fail
                refine hchc.mono ?_
                rintro e wq ⟨rfl, rfl⟩
                go_wp2
                go_roundw
                case rel => exact ⟨_, _, hN3, .inl ⟨l, 16 * x + j, by omega, rfl, rfl, by have := HME.out.2.2.1; simp; omega, HPF.out⟩⟩
                case measure => simp [intOf]; omega
            · have j0 : ¬((j : Int) + 1 < (m : Int)) := by omega
              go_wp2_with fail
              refine (push_any w1 wI wr base base (.slice none 0 0) _ (.slice ea el ec) (.pointer none) st A j (h - 1 - (l + 1)) HB.out hN (by rw [hlt.out.1, upst_len _ _ _ _ hl]) (by omega)).mono ?_
              rintro e wp ⟨rfl, sv2, hN3⟩
              have hbp : Below w1.heap.size w1 wp := by rw [HB.out]; exact hN3.bel
              have hch := cellOf (HCH.out j hjm).2 hbp
              unfold ptr at hch
              have hchc := child_any wp A cg m ccap j _ (cellOf HC1.out hbp) hjm hch
              have HPF : Hid (16 * x + j < d.nd l ∧ st ++ [ptr A, .int .i64 (j : Nat)] = upst d h l (16 * x + j) ∧ Dn kb n lo ((16 * x + j) * 16 ^ (l + 1)) ((16 * x + j + 1) * 16 ^ (l + 1))) := by
                have hme := HME.out
                refine ⟨by omega, ?_, hst.out.2.2.child r ha hl (by omega) hlt.out.2 (.inl (by omega)) hme.2.2.2⟩
                rw [hlt.out.1, ← hme.2.1, upst_push d h (l + 1) x j hl, upst_down d h l x j hl (by omega)]
              clear hch hbp
              go_wp2_with fail
              refine hchc.mono ?_
              rintro e wq ⟨rfl, rfl⟩
              go_wp2
              go_roundw
              case rel => exact ⟨_, _, hN3, .inl ⟨l, 16 * x + j, by omega, rfl, rfl, by have := HME.out.2.2.1; simp; omega, HPF.out⟩⟩
              case measure => simp [intOf]; omega
      · by_cases hk8 : (k : Int) < 8
        · go_wp2
          go_meet
          case rel =>
            obtain ⟨p, x, i, h1, h2⟩ := hfin.out
            exact ⟨rfl, _, _, p, x, i, hN, h1, h2⟩
        · go_wp2
          go_meet
          case rel =>
            obtain ⟨p, x, i, h1, h2⟩ := hfin.out
            exact ⟨rfl, _, _, p, x, i, hN, h1, h2⟩
  case rest =>
    clear hnI HC27 HLW
    obtain ⟨rfl, svr, st, p, x, i, hN, hPos⟩ := hcut
    have HLP : Hid (LoP kb n lo p) := hPos.out.2
    have hpn : p ≤ n := HLP.out.1
    have hws : WS w1 wc base base svr (.slice ea el ec) (.pointer none) st (.slice none 0 0) (.slice none 0 0) [] [] := ⟨hN.is, hN.bel, World.ownsRow_nil _ _ _ _, World.ownsRow_nil _ _ _ _, by simp [Value.ownBlock], by simp [Value.ownBlock], fun g hg => by simp [Value.ownBlock] at hg, fun g hg => by simp [Value.ownBlock] at hg, fun g hg => by simp [Value.ownBlock] at hg⟩
    go_wp2
    go_loopw [19, 20, 21] (fun kv vv cn wr => ∃ k : Nat, cn = .int .i64 k ∧ p + k ≤ n ∧ ∃ sv cv st, WS w1 wr base base sv (.slice ea el ec) cv st kv vv (sub K p k) (sub V p k) ∧ Hid ((∃ x i, PosL d h n (p + k) x i st) ∧ ∀ t, t < k → ltE (kb (p + t)) eb = true)) (fun _ _ cn _ => n + 1 - (intOf cn).toNat)
    case atStart => exact ⟨0, rfl, hpn, _, _, _, hws, ⟨x, i, hPos.out.1⟩, fun t ht => by omega⟩
    case round =>
      clear hws hN hPos
      obtain ⟨k, rfl, hkn, sv, cv, st, hW, hP⟩ := hrel
      have j0 : (k : Int) ≤ (n : Int) := by omega
      obtain ⟨⟨x, i, hPL⟩, hlt⟩ := hP.out
      obtain ⟨more, hmore⟩ : ∃ more, (decide (p + k < n) && ltE (kb (p + k)) eb) = more := ⟨_, rfl⟩
      have hnext := next_any K V kb w0 w1 wr base0 B base base h n (p + k) d low sv (.slice ea el ec) cv st x i eb HB.out T r hn (fun i hi => (HKb.out i hi).1) hW.bel hW.is hPL HE.out more hmore.symm
      have HMO : Hid ((decide (p + k < n) && ltE (kb (p + k)) eb) = more) := hmore
      have HLT : Hid (∀ t, t < k → ltE (kb (p + t)) eb = true) := hlt
      clear hmore hlt hPL hP
      go_wp2_with fail
      refine hnext.mono ?_
      rintro e wA ⟨rfl, sv1, cv1, st1, hNA, hT1, hF1⟩
      have hWA := hW.next hNA
      clear hnext
      cases more with
      | false =>
        obtain ⟨rfl, rfl, rfl⟩ := hF1 rfl
        clear hT1 hF1 hNA hW
        have a2 : wA.cell? ⟨base, 2, none⟩ = some (.pointer none) := hWA.is.row.cell 2
        have a0 : wA.cell? ⟨base, 0, none⟩ = some (.slice none 0 0) := hWA.is.row.cell 0
        go_wp2_with fail
        refine (hasCur_any wA base none a2).mono ?_
        rintro e wx ⟨rfl, rfl⟩
        simp only [Option.isSome_none]
        go_wp2_with fail
        refine (stackLen_any wx base none 0 0 a0).mono ?_
        rintro e wy ⟨rfl, rfl⟩
        go_wp2_with fail
        refine (next_nil K V d h n (p + k) w1 wy base base (.slice ea el ec) (.pointer none) HB.out hWA.bel hWA.is).mono ?_
        rintro e wB ⟨rfl, sv2, cv2, st2, hNB, -, hF2⟩
        obtain ⟨rfl, rfl, rfl⟩ := hF2 rfl
        have hWB := hWA.next hNB
        clear hF2 hNB hWA a0 a2
        have b2 : wB.cell? ⟨base, 2, none⟩ = some (.pointer none) := hWB.is.row.cell 2
        go_wp2_with fail
        refine (hasCur_any wB base none b2).mono ?_
        rintro e wx ⟨rfl, rfl⟩
        simp only [Option.isSome_none]
        go_wp2
        go_ret3
        refine ⟨p, p + k, _, _, rfl, HLP.out, ⟨by omega, hkn, fun t h1 h2 => ?_, fun hq => ?_⟩, ?_, ?_, hWB.bel⟩
        · have := HLT.out (t - p) (by omega)
          rwa [show p + (t - p) = t by omega] at this
        · have := HMO.out
          simp [hq] at this
          simpa using this
        · have := hWB.ko
          rw [sub_len] at this
          rw [show p + k - p = k by omega]
          exact this
        · have := hWB.vo
          rw [sub_len] at this
          rw [show p + k - p = k by omega]
          exact this
      | true =>
        have hmo := HMO.out
        rw [Bool.and_eq_true] at hmo
        have hpk : p + k < n := by simpa using hmo.1
        have HLE : Hid (ltE (kb (p + k)) eb = true) := hmo.2
        obtain ⟨⟨x2, i2, hPL2⟩, g, j, rfl, hcK, hcV⟩ := hT1 rfl
        obtain ⟨⟨ka, kc, kbb, kof, hKe, -⟩, -, va, vl, vc, hVe⟩ := HKb.out (p + k) hpk
        have HKV : Hid (K (p + k) = .slice ka (kb (p + k)).length kc ∧ V (p + k) = .slice va vl vc) := ⟨hKe, hVe⟩
        rw [hKe] at hcK
        rw [hVe] at hcV
        have HCK : Hid (w1.cell? ⟨g, j, none⟩ = some (.slice ka (kb (p + k)).length kc) ∧ w1.cell? ⟨g, j + 1, none⟩ = some (.slice va vl vc)) := ⟨hcK, hcV⟩
        have HPL2 : Hid (∃ x i, PosL d h n (p + k + 1) x i st1) := ⟨x2, i2, hPL2⟩
        clear hT1 hF1 hNA hW hmo hcK hcV hKe hVe hPL2 HMO
        obtain ⟨kl, hkl⟩ : ∃ kl, (kb (p + k)).length = kl := ⟨_, rfl⟩
        rw [hkl] at HCK HKV
        clear hkl
        have hbA : Below w1.heap.size w1 wA := by rw [HB.out]; exact hWA.bel
        have a2 : wA.cell? ⟨base, 2, none⟩ = some (.pointer (some ⟨g, j, none⟩)) := hWA.is.row.cell 2
        go_wp2_with fail
        refine (hasCur_any wA base _ a2).mono ?_
        rintro e wx ⟨rfl, rfl⟩
        simp only [Option.isSome_some]
        go_wp2_with fail
        refine (curKey_any wx base g j _ a2 (cellOf HCK.out.1 hbA)).mono ?_
        rintro e wy ⟨rfl, rfl⟩
        have hko := hWA.ko
        rw [sub_len] at hko
        obtain ⟨oa, cap, hkv⟩ := own_form hko
        subst hkv
        have hszA : base ≤ wy.heap.size := by rw [← HB.out]; exact hbA.size
        obtain ⟨i0, hi0, hz0, hz1, hz2⟩ := info_parts info39
        have hkoA := hko.alloc (.cells #[.slice ka kl kc] 39)
        have hszB : base ≤ (wy.alloc (.cells #[.slice ka kl kc] 39)).heap.size := by simp; omega
        go_upto_region 39 with (at_builtin; refine wpList_append_lies _ rfl (.tmp 111) (.tmp 114) 22 rfl base 39 i0 _ 1 24 Try.underlying22 hi0 hz0 hz1 hz2 rfl (by omega) _ k _ (by rfl) hkoA ⟨wy.heap.size, 0, none⟩ 1 1 [.slice ka kl kc] (by rfl) (by rfl) (World.news_of_block (cs := #[.slice ka kl kc]) (t := 39) (fr := (0, 0)) (heap_alloc_new wy _)) (by simp [Value.oneCell']) (by omega) (by unfold maxLen; omega) (by omega) hszB (wy.heap.size + 1) (by simp) ?_; intro g5 cap5 w5 hown5 hgrow5 hat5 hlt5)
        have hW5 := hWA.addK hszA hgrow5 hown5 (by simp [sub_len]) (by rcases hat5 with h2 | h2; exact .inl h2; right; omega)
        clear hown5 hgrow5 hat5 hkoA hszB hko hWA a2 hszA hbA hlt5
        have hb5 : Below w1.heap.size w1 w5 := by rw [HB.out]; exact hW5.bel
        have a2 : w5.cell? ⟨base, 2, none⟩ = some (.pointer (some ⟨g, j, none⟩)) := hW5.is.row.cell 2
        go_wp2_with fail
        refine (curVal_any w5 base g j _ a2 (cellOf HCK.out.2 hb5)).mono ?_
        rintro e wz ⟨rfl, rfl⟩
        have hvo := hW5.vo
        rw [sub_len] at hvo
        obtain ⟨ob, capb, hvv⟩ := own_form hvo
        subst hvv
        have hszA : base ≤ wz.heap.size := by rw [← HB.out]; exact hb5.size
        have hvoA := hvo.alloc (.cells #[.slice va vl vc] 39)
        have hszB : base ≤ (wz.alloc (.cells #[.slice va vl vc] 39)).heap.size := by simp; omega
        go_wp2_with (at_builtin; refine wpList_append_lies _ rfl (.tmp 116) (.tmp 119) 22 rfl base 39 i0 _ 1 24 Try.underlying22 hi0 hz0 hz1 hz2 rfl (by omega) _ k _ (by rfl) hvoA ⟨wz.heap.size, 0, none⟩ 1 1 [.slice va vl vc] (by rfl) (by rfl) (World.news_of_block (cs := #[.slice va vl vc]) (t := 39) (fr := (0, 0)) (heap_alloc_new wz _)) (by simp [Value.oneCell']) (by omega) (by unfold maxLen; omega) (by omega) hszB (wz.heap.size + 1) (by simp) ?_; intro g6 cap6 w6 hown6 hgrow6 hat6 hlt6)
        have hW6 := hW5.addV hszA hgrow6 hown6 (by simp [sub_len]) (by rcases hat6 with h2 | h2; exact .inl h2; right; omega)
        go_roundw
        case rel =>
          rw [← HKV.out.1, ← HKV.out.2] at hW6
          refine ⟨k + 1, by go_num, by omega, _, _, _, hW6, HPL2.out, fun t ht => ?_⟩
          by_cases e : t = k
          · subst e; exact HLE.out
          · exact HLT.out t (by omega)
        case measure => simp [intOf]; omega

end Go.Proofs.Qxb6604003a
