import Derived.Test.Qxb6602514aGapP
import Derived.Test.Qxb6602514aLawA
set_option linter.unusedVariables false
namespace Go.Proofs.Qxb6602514a
open Go.RowKit

/-- The call answered a bool: true exactly when P. -/
def RetB (P : Prop) (e : Ending) : Prop := ∃ r : Bool, e = .returned (.bool r) ∧ (r = true ↔ P)
theorem RetB.t {P : Prop} (h : P) : RetB P (.returned (.bool true)) := ⟨true, rfl, by simp [h]⟩
theorem RetB.f {P : Prop} (h : ¬ P) : RetB P (.returned (.bool false)) := ⟨false, rfl, by simp [h]⟩

theorem min_any (a b : Nat) (w : World) : Calls Try.prog 15 #[.int .i64 a, .int .i64 b] w fun e w' => e = .returned (.int .i64 ((min a b : Nat) : Int)) ∧ w' = w := by
  by_cases h : a < b
  · go_enter Try.func15, Try.ntmps15
    go_wp2
    go_ret
    rw [show min a b = a by omega]; exact ⟨rfl, rfl⟩
  · go_enter Try.func15, Try.ntmps15
    go_wp2
    go_ret
    rw [show min a b = b by omega]; exact ⟨rfl, rfl⟩

theorem ends_any (w : World) (R n m U nu lu cu ub t u k : Nat) (a0 : Option Addr) (us : List Int) (ua : Nat → List Bool) (hm : m ≤ 65536) (hlu : lu ≤ 1048576) (hU : IRow .i64 w U 3 us) (hul : us.length = m * m) (hur : ∀ j, j < m * m → us.getD j 0 = -1 ∨ (0 ≤ us.getD j 0 ∧ us.getD j 0 < (nu : Int))) (hM : MaskIn w a0 lu ub nu ua)
    (ht : t < m) (hu : u < m) (hk : 1 ≤ k) (hk2 : k ≤ 65536) :
    Calls Try.prog 48 #[.agg #[.int .i64 m, .slice (some ⟨R + 3, 0, none⟩) n n, .slice (some ⟨R + 4, 0, none⟩) m m, .slice (some ⟨R + 5, 0, none⟩) n n, .slice (some ⟨R + 6, 0, none⟩) n n, .slice (some ⟨U, 0, none⟩) (m * m) (m * m)], .slice a0 lu cu, .int .i64 t, .int .i64 u, .int .i64 k] w fun e w' =>
      e = .returned (.bool (EndsB m us ua t u k)) ∧ Below w.heap.size w w' := by
  have hix := idx_bd t u m ht hu
  have sq := sq_bd m hm
  have sqi : ((m * m : Nat) : Int) = (m : Int) * (m : Int) := Int.natCast_mul m m
  have hixi : ((t * m + u : Nat) : Int) = (t : Int) * (m : Int) + (u : Int) := by simp
  have i0 : (0 : Int) ≤ (t : Int) * (m : Int) := by omega
  have i1 : (t : Int) * (m : Int) + (u : Int) < (m : Int) * (m : Int) := by omega
  have i2 : (m : Int) * (m : Int) ≤ 4294967296 := by omega
  clear sqi hixi
  have hUl := Row.lt hU
  have c1 := hU.cell (t * m + u) (by omega)
  have hr := hur (t * m + u) hix
  have hE : EndsB m us ua t u k = if us.getD (t * m + u) 0 < 0 then false else decide (k ≤ (ua (us.getD (t * m + u) 0).toNat).length) && (ua (us.getD (t * m + u) 0).toNat).getD (k - 1) false := rfl
  obtain ⟨x, hx⟩ : ∃ x, us.getD (t * m + u) 0 = x := ⟨_, rfl⟩
  rw [hx] at c1 hr hE
  clear hx
  have HE : Hid (EndsB m us ua t u k = if x < 0 then false else decide (k ≤ (ua x.toNat).length) && (ua x.toNat).getD (k - 1) false) := hE
  clear hE
  by_cases hx0 : x < 0
  · go_enter Try.func48, Try.ntmps48
    go_wp2
    go_ret
    exact ⟨by rw [HE.out, if_pos hx0]; rfl, (Below.refl _ _).alloc (Nat.le_refl _) _⟩
  · obtain ⟨i, rfl⟩ : ∃ i : Nat, x = i := ⟨x.toNat, by omega⟩
    have hin : i < nu := by omega
    obtain rfl := hM.a0 (by omega)
    have hle := hM.le
    obtain ⟨oa, cap, g, m1, m2, m3⟩ := hM.row i hin
    have hml := hM.len i hin
    rw [Int.toNat_natCast, if_neg hx0] at HE
    have hubl := World.block_lt_of_cell? w _ m1
    simp at hubl
    have hil : (i : Int) < (lu : Int) := by omega
    by_cases hkl : k ≤ (ua i).length
    · obtain rfl := m2 (by omega)
      have c3 := m3 (k - 1) (by omega)
      have hgl := World.block_lt_of_cell? w _ c3
      simp at hgl
      obtain ⟨q, rfl⟩ : ∃ q, k = q + 1 := ⟨k - 1, by omega⟩
      simp only [Nat.add_sub_cancel] at c3 HE
      have hq1 : (1 : Int) ≤ ((q + 1 : Nat) : Int) := by omega
      have hq2 : ((q + 1 : Nat) : Int) ≤ ((ua i).length : Int) := by omega
      obtain ⟨bv, hbv⟩ : ∃ bv, (ua i).getD q false = bv := ⟨_, rfl⟩
      rw [hbv] at c3 HE
      clear hbv
      go_enter Try.func48, Try.ntmps48
      go_wp2
      go_ret
      refine ⟨?_, (Below.refl _ _).alloc (Nat.le_refl _) _⟩
      rw [HE.out]
      simp [hkl]
    · have hq2 : ¬ (k : Int) ≤ ((ua i).length : Int) := by omega
      go_enter Try.func48, Try.ntmps48
      go_wp2
      go_ret
      refine ⟨?_, (Below.refl _ _).alloc (Nat.le_refl _) _⟩
      rw [HE.out]
      simp [hkl]

theorem MaskIn.below {w w' : World} {a0 : Option Addr} {lu ub nu : Nat} {ua : Nat → List Bool} (h : MaskIn w a0 lu ub nu ua) (hb : Below w.heap.size w w') : MaskIn w' a0 lu ub nu ua := by
  refine ⟨h.le, h.a0, fun i hi => ?_, h.len⟩
  obtain ⟨oa, cap, g, h1, h2, h3⟩ := h.row i hi
  exact ⟨oa, cap, g, cellOf h1 hb, h2, fun j hj => cellOf (h3 j hj) hb⟩

theorem MaskIn.drew {w : World} {a0 : Option Addr} {lu ub nu : Nat} {ua : Nat → List Bool} (h : MaskIn w a0 lu ub nu ua) : MaskIn w.drew a0 lu ub nu ua := ⟨h.le, h.a0, h.row, h.len⟩

set_option maxRecDepth 100000 in
set_option maxHeartbeats 2000000 in
theorem gapModel_any (w : World) (R n m U nu lu cu ub : Nat) (a0 : Option Addr) (zs ids nx pv us : List Int) (st : List Value) (ua : Nat → List Bool) (hn : n ≤ 65536) (hmn : m ≤ n) (hlu : lu ≤ 1048576)
    (hidl : ids.length = n) (hidr : ∀ i, i < n → 0 ≤ ids.getD i 0 ∧ ids.getD i 0 < (m : Int)) (hR : RelOk w R n m U nu zs ids nx pv us st) (hM : MaskIn w a0 lu ub nu ua) :
    Calls Try.prog 18 #[.agg #[.int .i64 m, .slice (some ⟨R + 3, 0, none⟩) n n, .slice (some ⟨R + 4, 0, none⟩) m m, .slice (some ⟨R + 5, 0, none⟩) n n, .slice (some ⟨R + 6, 0, none⟩) n n, .slice (some ⟨U, 0, none⟩) (m * m) (m * m)], .slice a0 lu cu] w fun e w' =>
      RetB (GapP m ids us n ua) e ∧ Below w.heap.size w w' := by
  have hm : m ≤ 65536 := by omega
  obtain ⟨rc, hrc⟩ : ∃ rc : List Value, [Value.int .i64 m, .slice (some ⟨R + 3, 0, none⟩) n n, .slice (some ⟨R + 4, 0, none⟩) m m, .slice (some ⟨R + 5, 0, none⟩) n n, .slice (some ⟨R + 6, 0, none⟩) n n, .slice (some ⟨U, 0, none⟩) (m * m) (m * m)] = rc := ⟨_, rfl⟩
  have hrow0 : Row (w.alloc (.cells #[.int .i64 m, .slice (some ⟨R + 3, 0, none⟩) n n, .slice (some ⟨R + 4, 0, none⟩) m m, .slice (some ⟨R + 5, 0, none⟩) n n, .slice (some ⟨R + 6, 0, none⟩) n n, .slice (some ⟨U, 0, none⟩) (m * m) (m * m)] 32)) w.heap.size 32 rc := by rw [← hrc]; exact Row.alloc_new _ _ _
  have HSx : Hid (∀ wr : World, Row wr w.heap.size 32 rc → wr.cell? ⟨w.heap.size, 0, none⟩ = some (.int .i64 m) ∧ wr.cell? ⟨w.heap.size, 1, none⟩ = some (.slice (some ⟨R + 3, 0, none⟩) n n) ∧ wr.cell? ⟨w.heap.size, 2, none⟩ = some (.slice (some ⟨R + 4, 0, none⟩) m m) ∧ wr.cell? ⟨w.heap.size, 3, none⟩ = some (.slice (some ⟨R + 5, 0, none⟩) n n) ∧ wr.cell? ⟨w.heap.size, 4, none⟩ = some (.slice (some ⟨R + 6, 0, none⟩) n n) ∧ wr.cell? ⟨w.heap.size, 5, none⟩ = some (.slice (some ⟨U, 0, none⟩) (m * m) (m * m))) := fun wr h => by
    rw [← hrc] at h
    exact ⟨h.cell 0, h.cell 1, h.cell 2, h.cell 3, h.cell 4, h.cell 5⟩
  clear hrc
  go_enter Try.func18, Try.ntmps18
  go_wp2
  -- loop 1
  go_loopw [5] (fun i wr => ∃ t : Nat, t ≤ m ∧ i = .int .i64 t ∧ Below w.heap.size w wr ∧ Row wr w.heap.size 32 rc ∧ Hid (∀ t', t' < t → ∀ j, j + 1 < (pos ids t' n).length → ∀ q : Nat, (pos ids t' n).getD j 0 < (q : Int) → (q : Int) < (pos ids t' n).getD (j + 1) 0 → EndsB m us ua t' (ids.getD q 0).toNat (j + 1) = true)) (fun i _ => m - (intOf i).toNat)
  case atStart => exact ⟨0, Nat.zero_le _, rfl, (Below.refl _ _).alloc (Nat.le_refl _) _, hrow0, fun t' h => by omega⟩
  case round =>
    clear hrow0
    obtain ⟨t, ht, rfl, hb, hrw, hg1⟩ := hrel
    obtain ⟨c0, c1, c2, c3, c4, c5⟩ := HSx.out wr hrw
    by_cases hlt : t < m
    · obtain ⟨oas, caps, gs, hsv, hrd⟩ := own_read (hR.steps.own t hlt)
      have hstw : w.cell? ⟨R + 4, t, none⟩ = some (.slice oas (pos ids t n).length caps) := by
        have h1 := hR.seg.cell 1 rfl t
        have h2 : st[t]? = some (st.getD t nilS) := by simp [List.getD, hR.steps.len, hlt]
        rw [h2, hsv] at h1
        exact h1
      have hstv := cellOf hstw hb
      have hslb := pos_le ids t n
      have hpr : ∀ j, j < (pos ids t n).length → 0 ≤ (pos ids t n).getD j 0 ∧ (pos ids t n).getD j 0 < (n : Int) := fun j hj => by
        obtain ⟨q, a1, a2, _⟩ := (pos_mem ids t n _).1 (getD_mem hj); omega
      have hpc : ∀ j, j < (pos ids t n).length → oas = some ⟨gs, 0, none⟩ ∧ w.cell? ⟨gs, j, none⟩ = some (.int .i64 ((pos ids t n).getD j 0)) := fun j hj => by
        obtain ⟨h1, _, _, _, h5⟩ := hrd (by omega)
        refine ⟨h1, ?_⟩
        rw [h5 j hj]; simp [List.getD, hj]
      obtain ⟨P, hP⟩ : ∃ P, pos ids t n = P := ⟨_, rfl⟩
      rw [hP] at hstw hstv hslb hpr hpc
      have HP : Hid (pos ids t n = P) := hP
      clear hP hsv hrd
      go_wp2
      -- loop 2
      go_loopw [7] (fun i wr => ∃ j : Nat, j ≤ P.length ∧ i = .int .i64 j ∧ Below w.heap.size w wr ∧ Row wr w.heap.size 32 rc ∧ Hid (∀ j', j' < j → j' + 1 < P.length → ∀ q : Nat, P.getD j' 0 < (q : Int) → (q : Int) < P.getD (j' + 1) 0 → EndsB m us ua t (ids.getD q 0).toNat (j' + 1) = true)) (fun i _ => P.length - (intOf i).toNat)
      case atStart => exact ⟨0, Nat.zero_le _, rfl, hb, hrw, fun j' h => by omega⟩
      case round =>
        clear hb hrw c0 c1 c2 c3 c4 c5 hstv
        obtain ⟨j, hj, rfl, hb, hrw, hg2⟩ := hrel
        by_cases hltj : j + 1 < P.length
        · obtain ⟨rfl, y1⟩ := hpc j (by omega)
          obtain ⟨_, y2⟩ := hpc (j + 1) hltj
          have y1' := cellOf y1 hb
          have r1 := hpr j (by omega)
          have r2 := hpr (j + 1) hltj
          obtain ⟨A, hA⟩ : ∃ A : Nat, P.getD j 0 = A := ⟨(P.getD j 0).toNat, by omega⟩
          obtain ⟨D, hD⟩ : ∃ D : Nat, P.getD (j + 1) 0 = D := ⟨(P.getD (j + 1) 0).toNat, by omega⟩
          rw [hA] at y1' r1
          rw [hD] at y2 r2
          have HA : Hid (P.getD j 0 = A) := hA
          have HD : Hid (P.getD (j + 1) 0 = D) := hD
          clear hA hD
          have hAD : A < D := by
            have := pos_lt (ids := ids) (t := t) (n := n) (show j < j + 1 by omega) (by rw [HP.out]; exact hltj)
            rw [HP.out, HA.out, HD.out] at this; omega
          go_wp2
          -- loop 3
          go_loopw [8] (fun i wr => ∃ q : Nat, A < q ∧ q ≤ D ∧ i = .int .i64 q ∧ Below w.heap.size w wr ∧ Row wr w.heap.size 32 rc ∧ Hid (∀ q' : Nat, A < q' → q' < q → EndsB m us ua t (ids.getD q' 0).toNat (j + 1) = true)) (fun i _ => D - (intOf i).toNat)
          case atStart => exact ⟨A + 1, by omega, by omega, by go_num, hb, hrw, fun q' h1 h2 => by omega⟩
          case round =>
            clear hb hrw y1'
            obtain ⟨q, hq1, hq2, rfl, hb, hrw, hg3⟩ := hrel
            have y2' := cellOf y2 hb
            obtain ⟨c0, c1, c2, c3, c4, c5⟩ := HSx.out wr hrw
            by_cases hltq : q < D
            · have hidq := hidr q (by omega)
              obtain ⟨u, hu⟩ : ∃ u : Nat, ids.getD q 0 = u := ⟨(ids.getD q 0).toNat, by omega⟩
              have hum : u < m := by omega
              have hrowi : IRow .i64 w (R + 3) 3 ids := hR.seg.row 0 rfl
              have ci := cellOf (hrowi.cell q (by omega)) hb
              rw [hu] at ci
              have HU : Hid (ids.getD q 0 = u) := hu
              clear hu hidq
              have hUr : IRow .i64 wr U 3 us := Row.below hR.units hb (Row.lt hR.units)
              have hMr := (hM.below hb).drew
              have q0 : (0 : Int) ≤ (q : Int) := by omega
              have q1 : (q : Int) < (n : Int) := by omega
              have hbs := hb.size
              have HK : Hid (∀ w5 : World, Below wr.heap.size wr w5 → (w5.cell? ⟨w.heap.size, 0, none⟩ = some (.int .i64 m) ∧ w5.cell? ⟨w.heap.size, 1, none⟩ = some (.slice (some ⟨R + 3, 0, none⟩) n n) ∧ w5.cell? ⟨w.heap.size, 2, none⟩ = some (.slice (some ⟨R + 4, 0, none⟩) m m) ∧ w5.cell? ⟨w.heap.size, 3, none⟩ = some (.slice (some ⟨R + 5, 0, none⟩) n n) ∧ w5.cell? ⟨w.heap.size, 4, none⟩ = some (.slice (some ⟨R + 6, 0, none⟩) n n) ∧ w5.cell? ⟨w.heap.size, 5, none⟩ = some (.slice (some ⟨U, 0, none⟩) (m * m) (m * m))) ∧ w5.cell? ⟨R + 3, q, none⟩ = some (.int .i64 u)) := fun w5 h5 => ⟨⟨cellOf c0 h5, cellOf c1 h5, cellOf c2 h5, cellOf c3 h5, cellOf c4 h5, cellOf c5 h5⟩, cellOf ci h5⟩
              have hends := ends_any wr.drew R n m U nu lu cu ub t u (j + 1) a0 us ua hm hlu hUr hR.ulen hR.urng hMr hlt hum (by omega) (by omega)
              rw [show ((j + 1 : Nat) : Int) = (j : Int) + 1 by omega] at hends
              have HEN : Hid (Calls Try.prog 48 #[.agg #[.int .i64 m, .slice (some ⟨R + 3, 0, none⟩) n n, .slice (some ⟨R + 4, 0, none⟩) m m, .slice (some ⟨R + 5, 0, none⟩) n n, .slice (some ⟨R + 6, 0, none⟩) n n, .slice (some ⟨U, 0, none⟩) (m * m) (m * m)], .slice a0 lu cu, .int .i64 t, .int .i64 u, .int .i64 ((j : Int) + 1)] wr.drew fun e w' => e = .returned (.bool (EndsB m us ua t u (j + 1))) ∧ Below wr.drew.heap.size wr.drew w') := hends
              clear hends
              have hwr : IntKind.i64.wrap ((j : Int) + 1) = (j : Int) + 1 := IntWalk.i64_in _ ⟨by omega, by omega⟩
              go_upto_region 11 with fail
              go_region_held3 (fun w' => (w'.cell? ⟨w.heap.size, 0, none⟩ = some (.int .i64 m) ∧ w'.cell? ⟨w.heap.size, 1, none⟩ = some (.slice (some ⟨R + 3, 0, none⟩) n n) ∧ w'.cell? ⟨w.heap.size, 2, none⟩ = some (.slice (some ⟨R + 4, 0, none⟩) m m) ∧ w'.cell? ⟨w.heap.size, 3, none⟩ = some (.slice (some ⟨R + 5, 0, none⟩) n n) ∧ w'.cell? ⟨w.heap.size, 4, none⟩ = some (.slice (some ⟨R + 6, 0, none⟩) n n) ∧ w'.cell? ⟨w.heap.size, 5, none⟩ = some (.slice (some ⟨U, 0, none⟩) (m * m) (m * m))) ∧ w'.cell? ⟨R + 3, q, none⟩ = some (.int .i64 u)) (first | exact HK.out _ hb5 | go_keep) (first | (go_at_call 48; refine HEN.out.mono ?_; rintro e w5 ⟨rfl, hb5⟩; have hb5 : Below wr.heap.size wr w5 := bel_drew hb5))
              have hrw5 := hrw.below hb5 (hrw.lt)
              have hbw5 := hb.trans (hb5.mono hbs)
              obtain ⟨bv, hbv⟩ : ∃ bv, EndsB m us ua t u (j + 1) = bv := ⟨_, rfl⟩
              rw [hbv]
              have HBV : Hid (EndsB m us ua t u (j + 1) = bv) := hbv
              clear hbv hb5
              cases bv with
              | true =>
                go_wp2
                go_roundw
                case rel =>
                  refine ⟨q + 1, by omega, by omega, by go_num, hbw5, hrw5, fun q' h1 h2 => ?_⟩
                  by_cases e : q' = q
                  · subst e; rw [HU.out, Int.toNat_natCast]; exact HBV.out
                  · exact hg3.out q' h1 (by omega)
                case measure => simp [intOf]; omega
              | false =>
                go_wp2
                go_ret
                refine ⟨RetB.f ?_, hbw5⟩
                intro hgap
                have := hgap t hlt j (by rw [HP.out]; exact hltj) q (by rw [HP.out, HA.out]; omega) (by rw [HP.out, HD.out]; omega)
                rw [HU.out, Int.toNat_natCast, HBV.out] at this
                cases this
            · go_wp2
              go_roundw
              case rel =>
                refine ⟨j + 1, by omega, by go_num, hb, hrw, fun j' h1 h2 q' h3 h4 => ?_⟩
                by_cases e : j' = j
                · subst e; rw [HA.out] at h3; rw [HD.out] at h4; exact hg3.out q' (by omega) (by omega)
                · exact hg2.out j' (by omega) h2 q' h3 h4
              case measure => simp [intOf]; omega
        · go_wp2
          go_roundw
          case rel =>
            refine ⟨t + 1, by omega, by go_num, hb, hrw, fun t' h1 j' h2 q' h3 h4 => ?_⟩
            by_cases e : t' = t
            · subst e
              rw [HP.out] at h2 h3 h4
              exact hg2.out j' (by omega) h2 q' h3 h4
            · exact hg1.out t' (by omega) j' h2 q' h3 h4
          case measure => simp [intOf]; omega
    · go_wp2
      go_ret
      exact ⟨RetB.t (fun t' h1 => hg1.out t' (by omega)), hb⟩

end Go.Proofs.Qxb6602514a
