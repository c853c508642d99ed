import Derived.Test.Qxb6604003aLq
set_option linter.unusedVariables false
namespace Go.Proofs.Qxb6604003a
open Go.RowKit

/-- The end that a slice means. -/
def endOf (a : Option Addr) (es : List UInt8) : Option (List UInt8) := if a = none then none else some es

theorem ev_of {w : World} {a : Option Addr} {b off : Nat} {es : List UInt8} (h : Bs w a es.length b off es) : EV w (.slice a es.length es.length) (endOf a es) := by
  unfold endOf
  cases a with
  | none =>
    rw [if_pos rfl]
    have := (h.nil rfl).1
    show Value.slice none es.length es.length = .slice none 0 0
    rw [this]
  | some x => rw [if_neg (by simp)]; exact ⟨x, _, b, off, rfl, h⟩

theorem endOf_congr {a a' : Option Addr} (h : a' = none ↔ a = none) (es : List UInt8) : endOf a' es = endOf a es := by
  unfold endOf
  by_cases e : a = none
  · rw [if_pos e, if_pos (h.2 e)]
  · rw [if_neg e, if_neg fun x => e (h.1 x)]

set_option maxRecDepth 100000 in
set_option maxHeartbeats 8000000 in
theorem law_6 (a0 a1 al am ae : Option Addr) (n0 n1 c0 c1 cl cm ce b0 b1 bl bm be o0 o1 ol om oe : Nat) (K0 V0 : Nat → Value) (kb vb : Nat → List UInt8) (lo mid es : List UInt8) (w : World) (m0 : n0 ≤ 9223372036854775807) (m1 : n1 ≤ 9223372036854775807)
    (h0 : KIn w a0 n0 c0 b0 o0 K0 kb) (h1 : KIn w a1 n1 c1 b1 o1 V0 vb) (hl : Bs w al cl bl ol lo) (hm : Bs w am cm bm om mid) (he : Bs w ae ce be oe es) :
    Calls Try.prog 6 #[.slice a0 n0 c0, .slice a1 n1 c1, .slice al lo.length cl, .slice am mid.length cm, .slice ae es.length ce] w fun e w' => e = .returned (.bool true) ∧ Below w.heap.size w w' := by
  have hl63 := hl.max
  have hm63 := hm.max
  have he63 := he.max
  unfold maxLen at hl63 hm63 he63
  obtain ⟨ll, hll⟩ : ∃ x, lo.length = x := ⟨_, rfl⟩
  obtain ⟨ml, hml⟩ : ∃ x, mid.length = x := ⟨_, rfl⟩
  obtain ⟨el, hel⟩ : ∃ x, es.length = x := ⟨_, rfl⟩
  have HLEN : Hid (lo.length = ll ∧ mid.length = ml ∧ es.length = el) := ⟨hll, hml, hel⟩
  rw [hll] at hl63
  rw [hml] at hm63
  rw [hel] at he63
  rw [hll, hml, hel]
  clear hll hml hel
  go_enter Try.func6, Try.ntmps6
  go_wp2_with fail
  refine (bytes28_any a0 a1 n0 n1 c0 c1 b0 b1 o0 o1 K0 V0 kb vb al ll cl am ml cm ae el ce w m0 m1 (by omega) (by omega) (by omega) h0 h1).mono ?_
  rintro e w' ⟨⟨r, rfl⟩, rfl⟩
  cases r with
  | false =>
    go_wp2
    go_ret
    exact ⟨rfl, Below.refl _ _⟩
  | true =>
  by_cases k0 : n0 ≤ 65536
  case neg =>
    go_wp2
    go_ret
    exact ⟨rfl, Below.refl _ _⟩
  by_cases k1 : n1 ≤ 65536
  case neg =>
    go_wp2
    go_ret
    exact ⟨rfl, Below.refl _ _⟩
  by_cases k2 : ll ≤ 1048576
  case neg =>
    go_wp2
    go_ret
    exact ⟨rfl, Below.refl _ _⟩
  by_cases k3 : ml ≤ 1048576
  case neg =>
    go_wp2
    go_ret
    exact ⟨rfl, Below.refl _ _⟩
  by_cases k4 : el ≤ 1048576
  case neg =>
    go_wp2
    go_ret
    exact ⟨rfl, Below.refl _ _⟩
  have hwi := within_any a0 a1 n0 n1 c0 c1 b0 b1 o0 o1 (ll + ml + el) K0 V0 kb vb w' k0 k1 (by omega) h0 h1
  rw [show ((ll + ml + el : Nat) : Int) = (ll : Int) + ml + el by omega] at hwi
  go_wp2_with fail
  refine hwi.mono ?_
  rintro e w ⟨⟨r, rfl, hr⟩, rfl⟩
  cases r with
  | false =>
    go_wp2
    go_ret
    exact ⟨rfl, Below.refl _ _⟩
  | true =>
  obtain ⟨hsz, hkl, hvl⟩ := hr rfl
  have HKL : Hid ((∀ i, i < n0 → (kb i).length ≤ 1048576) ∧ ∀ i, i < n1 → (vb i).length ≤ 1048576) := ⟨hkl, hvl⟩
  clear hr hwi hkl hvl
  by_cases hnn : n1 = n0
  case neg =>
    have hnn2 : ¬((n1 : Int) = (n0 : Int)) := by omega
    have hnn3 : ((n1 : Int) != (n0 : Int)) = true := by simpa using hnn2
    go_wp2
    go_ret
    exact ⟨rfl, Below.refl _ _⟩
  subst hnn
  go_wp2_with fail
  refine (asc_any a0 n1 c0 b0 o0 K0 kb w k0 HKL.out.1 h0).mono ?_
  rintro e wA ⟨⟨r, rfl, hr⟩, hbA⟩
  cases r with
  | false =>
    go_wp2
    go_ret
    exact ⟨rfl, hbA⟩
  | true =>
  have HASC : Hid (AscB kb n1) := (hr rfl).asc
  clear hr
  have he39 := fun (wx : World) (a : Option Addr) (n c : Nat) => Lib.run_eql_slice_nil (P := Try.prog) wx 39 5 a n c 0 0 Try.underlying39
  have hn39 := fun (wx : World) (a : Option Addr) (n c : Nat) => run_neq_slice_nil_any (P := Try.prog) wx 39 5 a n c 0 0 Try.underlying39
  go_upto_region 9 with fail
  go_cut [93] (fun v wx => Below w.heap.size w wx ∧ (v = .bool true ∨ (v = .bool false ∧ Hid (am ≠ none ∧ cmpB lo mid ≤ 0 ∧ (ae ≠ none → cmpB mid es ≤ 0)))))
  case first =>
    cases am with
    | none =>
      go_wp2
      go_meet
      case rel => exact ⟨hbA, .inl rfl⟩
    | some xm =>
      have hc1 := cmp_any wA al (some xm) cl bl ol cm bm om lo mid (hl.below hbA) (hm.below hbA) (by rw [HLEN.out.1]; exact k2) (by rw [HLEN.out.2.1]; exact k3)
      obtain ⟨q1, hq1⟩ : ∃ q, cmpB lo mid = q := ⟨_, rfl⟩
      rw [HLEN.out.1, HLEN.out.2.1, hq1] at hc1
      have HQ1 : Hid (cmpB lo mid = q1) := hq1
      clear hq1
      go_wp2_with fail
      refine hc1.mono ?_
      rintro e wB ⟨rfl, hbB⟩
      have hb2 : Below w.heap.size w wB := hbA.trans (hbB.mono hbA.size)
      clear hc1
      by_cases hg : 0 < q1
      · go_wp2
        go_meet
        case rel => exact ⟨hb2, .inl rfl⟩
      · cases ae with
        | none =>
          go_wp2
          go_meet
          case rel => exact ⟨hb2, .inr ⟨(by simp; omega), (by simp), by rw [HQ1.out]; omega, fun h => absurd rfl h⟩⟩
        | some xe =>
          have hc2 := cmp_any wB (some xm) (some xe) cm bm om ce be oe mid es (hm.below hb2) (he.below hb2) (by rw [HLEN.out.2.1]; exact k3) (by rw [HLEN.out.2.2]; exact k4)
          obtain ⟨q2, hq2⟩ : ∃ q, cmpB mid es = q := ⟨_, rfl⟩
          rw [HLEN.out.2.1, HLEN.out.2.2, hq2] at hc2
          have HQ2 : Hid (cmpB mid es = q2) := hq2
          clear hq2
          go_wp2_with fail
          refine hc2.mono ?_
          rintro e wC ⟨rfl, hbC⟩
          have hb3 : Below w.heap.size w wC := hb2.trans (hbC.mono hb2.size)
          by_cases hg2 : 0 < q2
          · go_wp2
            go_meet
            case rel => exact ⟨hb3, .inl rfl⟩
          · go_wp2
            go_meet
            case rel => exact ⟨hb3, .inr ⟨(by simp; omega), (by simp), by rw [HQ1.out]; omega, fun _ => by rw [HQ2.out]; omega⟩⟩
  case rest =>
    obtain ⟨hbc, hv⟩ := hcut
    rcases hv with rfl | ⟨rfl, hF⟩
    · go_wp2
      go_ret
      exact ⟨rfl, hbc⟩
    · have h0 := h0.below hbc
      have h1 := h1.below hbc
      have hl := hl.below hbc
      have hm := hm.below hbc
      have he := he.below hbc
      obtain ⟨wP, hwP⟩ : ∃ wP : World, wP = wc := ⟨_, rfl⟩
      subst hwP
      go_wp2_with fail
      refine (cloneAll_any a0 n1 c0 b0 o0 K0 kb wP k0 HKL.out.1 h0).mono ?_
      rintro e w1 ⟨a2, g2, K, rfl, h2, hb1⟩
      go_wp2_with fail
      refine (cloneAll_any a1 n1 c1 b1 o1 V0 vb w1 k0 HKL.out.2 (h1.below hb1)).mono ?_
      rintro e w2 ⟨a3, g3, V, rfl, h3, hb2⟩
      have hb02 := hb1.trans (hb2.mono hb1.size)
      have hcl := cloneB_any al cl bl ol lo w2 (by rw [HLEN.out.1]; exact k2) (hl.below hb02)
      rw [HLEN.out.1] at hcl
      go_wp2_with fail
      refine hcl.mono ?_
      rintro e w3 ⟨al', gl, rfl, hl3, hb3, -⟩
      rw [HLEN.out.1]
      clear hcl
      have hb03 := hb02.trans (hb3.mono hb02.size)
      have hcm := cloneB_any am cm bm om mid w3 (by rw [HLEN.out.2.1]; exact k3) (hm.below hb03)
      rw [HLEN.out.2.1] at hcm
      go_wp2_with fail
      refine hcm.mono ?_
      rintro e w4 ⟨am', gm, rfl, hm4, hb4, hmi⟩
      rw [HLEN.out.2.1]
      clear hcm
      have hb04 := hb03.trans (hb4.mono hb03.size)
      have hce := cloneB_any ae ce be oe es w4 (by rw [HLEN.out.2.2]; exact k4) (he.below hb04)
      rw [HLEN.out.2.2] at hce
      go_wp2_with fail
      refine hce.mono ?_
      rintro e w5 ⟨ae', ge, rfl, he5, hb5, hei⟩
      rw [HLEN.out.2.2]
      clear hce
      have hb05 := hb04.trans (hb5.mono hb04.size)
      have h25 : KIn w5 a2 n1 n1 g2 0 K kb := (((h2.below hb2).below hb3).below hb4).below hb5
      have h35 : KIn w5 a3 n1 n1 g3 0 V vb := ((h3.below hb3).below hb4).below hb5
      have hl5 : Bs w5 al' lo.length gl 0 lo := (hl3.below hb4).below hb5
      have hm5 : Bs w5 am' mid.length gm 0 mid := hm4.below hb5
      have HEE : Hid (endOf ae' es = endOf ae es ∧ am' ≠ none) := ⟨endOf_congr hei es, fun e => hF.out.1 (hmi.1 e)⟩
      clear h2 h3 hl3 hm4 hb1 hb2 hb3 hb4 hb5 hb02 hb03 hb04 h0 h1 hl hm he hmi hei
      have hbld := build_any a2 a3 n1 n1 g2 0 n1 g3 0 K V kb vb w5 h25 h35 (by omega) HKL.out.1 (asc_pos HASC.out)
      go_wp2_with fail
      refine hbld.mono ?_
      rintro e w6 ⟨d, h, low, rfl, hT, hR⟩
      obtain ⟨B, hB⟩ : ∃ B, w5.heap.size + 2 = B := ⟨_, rfl⟩
      rw [hB] at hT
      rw [hB]
      clear hbld hB
      have hb6 : Below w5.heap.size w5 w6 := hT.bel
      have HBV : Hid ((∀ i, i < n1 → BV w6 (K i) (kb i)) ∧ (∀ i, i < n1 → BV w6 (V i) (vb i)) ∧ ∀ i, i < n1 → ∃ a l c, V i = .slice a l c) := ⟨fun i hi => (h25.bv i hi).below hb6, fun i hi => (h35.bv i hi).below hb6, fun i hi => by obtain ⟨a, c, _, _, e, _⟩ := h35.bv i hi; exact ⟨a, _, c, e⟩⟩
      have hl6 := hl5.below hb6
      have hm6 := hm5.below hb6
      have he6 := he5.below hb6
      have hn3 : n1 ≤ 30000 := by omega
      have HEV : Hid (EV w6 (.slice ae' el el) (endOf ae es)) := by
        have h2 := ev_of he6
        rw [HEE.out.1, HLEN.out.2.2] at h2
        exact h2
      have HMV : Hid (EV w6 (.slice am' ml ml) (some mid)) := by
        cases am' with
        | none => exact absurd rfl HEE.out.2
        | some x => exact ⟨x, ml, gm, 0, by rw [HLEN.out.2.1], by rw [← HLEN.out.2.1]; exact hm6⟩
      have HRes : Hid (Rest K V kb d h low n1) := hR
      have hb06 := hb05.trans (hb6.mono hb05.size)
      clear hl5 hm5 he5 h25 h35 hb6 hb05 hR he6
      have wk : ∀ wx : World, Below w6.heap.size w6 wx → ∀ (ax : Option Addr) (gx : Nat) (lx : List UInt8) (ey : Option Addr) (ly cy : Nat) (eb : Option (List UInt8)), Bs w6 ax lx.length gx 0 lx → lx.length ≤ 1048576 → EV w6 (.slice ey ly cy) eb → Calls Try.prog 26 #[.pointer (some ⟨B, 0, none⟩), .slice ax lx.length lx.length, .slice ey ly cy, .int .i64 n1] wx fun e w' => WalkPost K V kb n1 lx eb wx wx.heap.size e w' := fun wx hb ax gx lx ey ly cy eb h1 h2 h3 =>
        walkR_any K V kb w5 wx w5.heap.size wx.heap.size B h n1 d low ax ey lx.length gx 0 ly cy lx eb rfl (hT.below hb) HRes.out hn3 (fun i hi => (HBV.out.1 i hi).below hb) HBV.out.2.2 HKL.out.1 HASC.out (h1.below hb) h2 (h3.below hb)
      have WK : Hid (∀ wx : World, Below w6.heap.size w6 wx → (Calls Try.prog 26 #[.pointer (some ⟨B, 0, none⟩), .slice al' ll ll, .slice am' ml ml, .int .i64 n1] wx fun e w' => WalkPost K V kb n1 lo (some mid) wx wx.heap.size e w') ∧ (Calls Try.prog 26 #[.pointer (some ⟨B, 0, none⟩), .slice am' ml ml, .slice ae' el el, .int .i64 n1] wx fun e w' => WalkPost K V kb n1 mid (endOf ae es) wx wx.heap.size e w') ∧ (Calls Try.prog 26 #[.pointer (some ⟨B, 0, none⟩), .slice al' ll ll, .slice ae' el el, .int .i64 n1] wx fun e w' => WalkPost K V kb n1 lo (endOf ae es) wx wx.heap.size e w')) := fun wx hb => by
        have e1 := HLEN.out
        refine ⟨?_, ?_, ?_⟩
        · have := wk wx hb al' gl lo am' ml ml (some mid) hl6 (by omega) HMV.out
          rwa [e1.1] at this
        · have := wk wx hb am' gm mid ae' el el (endOf ae es) hm6 (by omega) HEV.out
          rwa [e1.2.1] at this
        · have := wk wx hb al' gl lo ae' el el (endOf ae es) hl6 (by omega) HEV.out
          rwa [e1.1] at this
      clear wk HEV HMV hl6 hm6 hT
      go_wp2_with fail
      refine (WK.out w6 (Below.refl _ _)).1.mono ?_
      rintro e w7 ⟨p1, q1, kv1, vv1, rfl, lp1, hp1, ok1, ov1, hb7⟩
      go_wp2_with fail
      refine (WK.out w7 hb7).2.1.mono ?_
      rintro e w8 ⟨p2, q2, kv2, vv2, rfl, lp2, hp2, ok2, ov2, hb8⟩
      have hb68 := hb7.trans (hb8.mono hb7.size)
      go_wp2_with fail
      refine (WK.out w8 hb68).2.2.mono ?_
      rintro e w9 ⟨p3, q3, kv3, vv3, rfl, lp3, hp3, ok3, ov3, hb9⟩
      obtain ⟨e1, e2, e3⟩ := range_cat HASC.out lp1 hp1 lp2 hp2 lp3 hp3 hF.out.2.1 (fun x hx => by
        unfold endOf at hx
        split at hx
        · cases hx
        · injection hx with hx; subst hx; exact hF.out.2.2 (by assumption))
      subst e1
      subst e2
      subst e3
      have hq := hp1.1
      have hq2 := hp2.1
      have hq3 := hp2.2.1
      clear lp1 hp1 lp2 hp2 lp3 hp3 WK
      have hb69 := hb68.trans (hb9.mono hb68.size)
      have hb79 : Below w7.heap.size w7 w9 := hb8.trans (hb9.mono hb8.size)
      obtain ⟨oa1, ca1, rfl, hk1⟩ := own_cell ok1
      obtain ⟨oa2, ca2, rfl, hv1⟩ := own_cell ov1
      obtain ⟨ob1, cb1, rfl, hk2⟩ := own_cell ok2
      obtain ⟨ob2, cb2, rfl, hv2⟩ := own_cell ov2
      obtain ⟨oc1, cc1, rfl, hk3⟩ := own_cell ok3
      obtain ⟨oc2, cc2, rfl, hv3⟩ := own_cell ov3
      obtain ⟨A, hA⟩ : ∃ A, q1 - p3 = A := ⟨_, rfl⟩
      obtain ⟨D2, hD⟩ : ∃ D2, q3 - q1 = D2 := ⟨_, rfl⟩
      obtain ⟨C, hC⟩ : ∃ C, q3 - p3 = C := ⟨_, rfl⟩
      have hAC : A + D2 = C := by omega
      have HC1 : Hid ((0 < A → ∃ g, oa1 = some ⟨g, 0, none⟩ ∧ ∀ i, i < A → w9.cell? ⟨g, i, none⟩ = some (K (p3 + i))) ∧ (0 < A → ∃ g, oa2 = some ⟨g, 0, none⟩ ∧ ∀ i, i < A → w9.cell? ⟨g, i, none⟩ = some (V (p3 + i)))) := by
        rw [← hA]
        exact ⟨fun hp => by obtain ⟨g, e, hc⟩ := hk1 hp; exact ⟨g, e, fun i hi => cellOf (hc i hi) hb79⟩, fun hp => by obtain ⟨g, e, hc⟩ := hv1 hp; exact ⟨g, e, fun i hi => cellOf (hc i hi) hb79⟩⟩
      have HC2 : Hid ((0 < D2 → ∃ g, ob1 = some ⟨g, 0, none⟩ ∧ ∀ i, i < D2 → w9.cell? ⟨g, i, none⟩ = some (K (q1 + i))) ∧ (0 < D2 → ∃ g, ob2 = some ⟨g, 0, none⟩ ∧ ∀ i, i < D2 → w9.cell? ⟨g, i, none⟩ = some (V (q1 + i)))) := by
        rw [← hD]
        exact ⟨fun hp => by obtain ⟨g, e, hc⟩ := hk2 hp; exact ⟨g, e, fun i hi => cellOf (hc i hi) hb9⟩, fun hp => by obtain ⟨g, e, hc⟩ := hv2 hp; exact ⟨g, e, fun i hi => cellOf (hc i hi) hb9⟩⟩
      have HC3 : Hid ((0 < C → ∃ g, oc1 = some ⟨g, 0, none⟩ ∧ ∀ i, i < C → w9.cell? ⟨g, i, none⟩ = some (K (p3 + i))) ∧ (0 < C → ∃ g, oc2 = some ⟨g, 0, none⟩ ∧ ∀ i, i < C → w9.cell? ⟨g, i, none⟩ = some (V (p3 + i)))) := by
        rw [← hC]
        exact ⟨hk3, hv3⟩
      rw [hA, hD, hC]
      have HAQ : Hid (q1 = p3 + A ∧ p3 + C ≤ n1) := ⟨by omega, by omega⟩
      have hC30 : C ≤ 30000 := by omega
      have hb09 := hb06.trans (hb69.mono hb06.size)
      have HBV9 : Hid ((∀ i, i < n1 → BV w9 (K i) (kb i)) ∧ ∀ i, i < n1 → BV w9 (V i) (vb i)) := ⟨fun i hi => (HBV.out.1 i hi).below hb69, fun i hi => (HBV.out.2.1 i hi).below hb69⟩
      clear hA hD hC hk1 hv1 hk2 hv2 hk3 hv3 ok1 ov1 ok2 ov2 ok3 ov3 hb7 hb8 hb9 hb68 hb79 hq hq2 hq3 HBV
      have hac2 : (A : Int) + (D2 : Int) = (C : Int) := by omega
      go_wp2
      go_loopw [21, 22, 23] (fun i _ _ wr => ∃ k : Nat, k ≤ C ∧ i = .int .i64 k ∧ Below w9.heap.size w9 wr) (fun i _ _ _ => C - (intOf i).toNat)
      case atStart => exact ⟨0, Nat.zero_le _, rfl, Below.refl _ _⟩
      case round =>
        obtain ⟨k, hk, rfl, hbr⟩ := hrel
        by_cases hkc : k < C
        · obtain ⟨g3, rfl, hg3⟩ := HC3.out.1 (by omega)
          obtain ⟨g4, rfl, hg4⟩ := HC3.out.2 (by omega)
          obtain ⟨ka, kc, kbk, kof, hKe, hKs⟩ := HBV9.out.1 (p3 + k) (by have := HAQ.out; omega)
          obtain ⟨va, vc, vbk, vof, hVe, hVs⟩ := HBV9.out.2 (p3 + k) (by have := HAQ.out; omega)
          have c3 := cellOf (hg3 k hkc) hbr
          have c4 := cellOf (hg4 k hkc) hbr
          have heq1 := equal_any wr ka ka kc kbk kof kc kbk kof (kb (p3 + k)) (hKs.below hbr) (hKs.below hbr) (HKL.out.1 _ (by have := HAQ.out; omega))
          have heq2 : ∀ wx : World, Below w9.heap.size w9 wx → Calls Try.prog 29 #[.slice va (vb (p3 + k)).length vc, .slice va (vb (p3 + k)).length vc] wx fun e w' => e = .returned (.bool true) ∧ Below wx.heap.size wx w' := fun wx hb => equal_any wx va va vc vbk vof vc vbk vof (vb (p3 + k)) (hVs.below hb) (hVs.below hb) (HKL.out.2 _ (by have := HAQ.out; omega))
          obtain ⟨kl, hkl⟩ : ∃ kl, (kb (p3 + k)).length = kl := ⟨_, rfl⟩
          obtain ⟨vl, hvl⟩ : ∃ vl, (vb (p3 + k)).length = vl := ⟨_, rfl⟩
          rw [hKe] at c3
          rw [hVe] at c4
          rw [hkl] at c3 heq1 hKe
          simp only [hvl] at c4 heq2 hVe
          have HQ2 : Hid (∀ wx : World, Below w9.heap.size w9 wx → (Calls Try.prog 29 #[.slice va vl vc, .slice va vl vc] wx fun e w' => e = .returned (.bool true) ∧ Below wx.heap.size wx w') ∧ wx.cell? ⟨g4, k, none⟩ = some (.slice va vl vc)) := fun wx hb => ⟨heq2 wx hb, by rw [← hVe]; exact cellOf (hg4 k hkc) hb⟩
          have HKV : Hid (K (p3 + k) = .slice ka kl kc ∧ V (p3 + k) = .slice va vl vc) := ⟨hKe, hVe⟩
          clear hkl hvl hKe hVe heq2 hKs hVs hg3 hg4 c4
          by_cases hka : k < A
          · obtain ⟨g1, rfl, hg1⟩ := HC1.out.1 (by omega)
            obtain ⟨g2, rfl, hg2⟩ := HC1.out.2 (by omega)
            have c1 := cellOf (hg1 k hka) hbr
            have c2 := cellOf (hg2 k hka) hbr
            rw [HKV.out.1] at c1
            rw [HKV.out.2] at c2
            clear hg1 hg2
            have j0 : (k : Int) < (A : Int) := by omega
            go_wp2_with fail
            refine heq1.mono ?_
            rintro e wE ⟨rfl, hbE⟩
            have hbr2 := hbr.trans (hbE.mono hbr.size)
            have c4 := (HQ2.out wE hbr2).2
            go_wp2_with fail
            refine (HQ2.out wE hbr2).1.mono ?_
            rintro e wF ⟨rfl, hbF⟩
            have hbr3 := hbr2.trans (hbF.mono hbr2.size)
            go_wp2
            go_roundw
            case rel => exact ⟨k + 1, by omega, by go_num, hbr3⟩
            case measure => simp [intOf]; omega
          · obtain ⟨g1, rfl, hg1⟩ := HC2.out.1 (by omega)
            obtain ⟨g2, rfl, hg2⟩ := HC2.out.2 (by omega)
            have c1 := cellOf (hg1 (k - A) (by omega)) hbr
            have c2 := cellOf (hg2 (k - A) (by omega)) hbr
            rw [show q1 + (k - A) = p3 + k by have := HAQ.out; omega] at c1 c2
            rw [HKV.out.1] at c1
            rw [HKV.out.2] at c2
            clear hg1 hg2
            have j0 : ¬((k : Int) < (A : Int)) := by omega
            have j1 : (0 : Int) ≤ (k : Int) - (A : Int) := by omega
            have j2 : (k : Int) - (A : Int) < (D2 : Int) := by omega
            have j3 : ((k : Int) - (A : Int)).toNat = k - A := by omega
            go_wp2_with fail
            refine heq1.mono ?_
            rintro e wE ⟨rfl, hbE⟩
            have hbr2 := hbr.trans (hbE.mono hbr.size)
            have c4 := (HQ2.out wE hbr2).2
            go_wp2_with fail
            refine (HQ2.out wE hbr2).1.mono ?_
            rintro e wF ⟨rfl, hbF⟩
            have hbr3 := hbr2.trans (hbF.mono hbr2.size)
            go_wp2
            go_roundw
            case rel => exact ⟨k + 1, by omega, by go_num, hbr3⟩
            case measure => simp [intOf]; omega
        · go_wp2
          go_ret
          exact ⟨rfl, (hbc.trans (hb09.mono hbc.size)).trans (hbr.mono (hbc.trans (hb09.mono hbc.size)).size)⟩

end Go.Proofs.Qxb6604003a
