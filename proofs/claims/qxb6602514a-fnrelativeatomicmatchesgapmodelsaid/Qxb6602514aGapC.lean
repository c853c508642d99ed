import Derived.Test.Qxb6602514aGapB
set_option linter.unusedVariables false
namespace Go.Proofs.Qxb6602514a
open Go.RowKit

/-- No row is longer than the limit. -/
def Fits (n0 n1 n2 n : Nat) (L : Nat → Nat) : Prop := (n0 ≤ 1048576 ∧ n1 ≤ 1048576 ∧ n2 ≤ 1048576 ∧ n ≤ 1048576) ∧ ∀ i, i < n → L i ≤ 1048576

theorem bytes3_any (a0 a1 a2 a : Option Addr) (n0 n1 n2 c0 c1 c2 : Nat) (b off n c : Nat) (A : Nat → Option Addr) (L C : Nat → Nat) (B : Nat → Nat → Bool) (w : World) (m0 : n0 ≤ maxLen) (m1 : n1 ≤ maxLen) (m2 : n2 ≤ maxLen) (m3 : n ≤ maxLen)
    (hM : MIn w a n c b off A L C B) :
    Calls Try.prog 11 #[.slice a0 n0 c0, .slice a1 n1 c1, .slice a2 n2 c2, .slice a n c] w fun e w' => RetT (Fits n0 n1 n2 n L) e ∧ w' = w := by
  unfold maxLen at m0 m1 m2 m3
  have HG : Hid (∀ P : Prop, RetT P (.returned (.bool false))) := fun P => RetT.f
  by_cases h0 : n0 ≤ 1048576
  · by_cases h1 : n1 ≤ 1048576
    · by_cases s1 : n0 + n1 ≤ 1048576
      · by_cases h2 : n2 ≤ 1048576
        · by_cases s2 : n0 + n1 + n2 ≤ 1048576
          · by_cases h3 : n ≤ 1048576
            · by_cases s3 : n0 + n1 + n2 + n ≤ 1048576
              · go_enter Try.func11, Try.ntmps11
                go_wp2
                go_loop [9, 10] (fun s i => ∃ k x : Nat, k ≤ n ∧ i = .int .i64 k ∧ s = .int .i64 x ∧ x ≤ 1048576 ∧ Hid (∀ j, j < k → L j ≤ 1048576)) (fun _ i => n - (intOf i).toNat)
                case atStart => exact ⟨0, n0 + n1 + n2 + n, Nat.zero_le _, rfl, by go_num, by omega, fun j hj => by omega⟩
                case round =>
                  obtain ⟨k, x, hk, rfl, rfl, hx, hall⟩ := hrel
                  by_cases hlt : k < n
                  · obtain rfl := hM.at' (by omega)
                    have g1 := hM.cell k hlt
                    have hLm := hM.max k hlt
                    unfold maxLen at hLm
                    obtain ⟨Ak, hAk⟩ : ∃ x, A k = x := ⟨_, rfl⟩
                    obtain ⟨Lk, hLk'⟩ : ∃ x, L k = x := ⟨_, rfl⟩
                    obtain ⟨Ck, hCk⟩ : ∃ x, C k = x := ⟨_, rfl⟩
                    rw [hAk, hLk', hCk] at g1
                    rw [hLk'] at hLm
                    have HL : Hid (L k = Lk) := hLk'
                    clear hAk hLk' hCk
                    by_cases p1 : Lk ≤ 1048576
                    · by_cases p2 : x + Lk ≤ 1048576
                      · go_wp2
                        go_round
                        case rel =>
                          refine ⟨k + 1, x + Lk, by omega, by go_num, by go_num, by omega, fun j hj => ?_⟩
                          by_cases e : j = k
                          · subst e; rw [HL.out]; exact p1
                          · exact hall.out j (by omega)
                        case measure => simp [intOf]; omega
                      · go_wp2
                        go_ret
                        exact ⟨RetT.f, rfl⟩
                    · go_wp2
                      go_ret
                      exact ⟨RetT.f, rfl⟩
                  · go_wp2
                    go_ret
                    exact ⟨RetT.t ⟨⟨h0, h1, h2, h3⟩, fun i hi => hall.out i (by omega)⟩, rfl⟩
              · go_enter Try.func11, Try.ntmps11
                go_wp2
                go_ret
                exact ⟨RetT.f, rfl⟩
            · go_enter Try.func11, Try.ntmps11
              go_wp2
              go_ret
              exact ⟨RetT.f, rfl⟩
          · go_enter Try.func11, Try.ntmps11
            go_wp2
            go_ret
            exact ⟨RetT.f, rfl⟩
        · go_enter Try.func11, Try.ntmps11
          go_wp2
          go_ret
          exact ⟨RetT.f, rfl⟩
      · go_enter Try.func11, Try.ntmps11
        go_wp2
        go_ret
        exact ⟨RetT.f, rfl⟩
    · go_enter Try.func11, Try.ntmps11
      go_wp2
      go_ret
      exact ⟨RetT.f, rfl⟩
  · go_enter Try.func11, Try.ntmps11
    go_wp2
    go_ret
    exact ⟨RetT.f, rfl⟩

theorem RelOk.below {w w' : World} {B n m U nu : Nat} {zs ids nx pv us : List Int} {st : List Value} (h : RelOk w B n m U nu zs ids nx pv us st) (hb : Below w.heap.size w w') : RelOk w' B n m U nu zs ids nx pv us st :=
  ⟨h.hids, h.links, h.steps.keep (hb.mono (Nat.le_of_lt h.Ult)) h.stepsU, h.stepsU, h.seg.below hb (by have := h.BU; have := h.Ult; simp; omega), Row.below h.units hb h.Ult, h.ulen, h.urng, h.BU, by have := h.Ult; have := hb.size; omega⟩

theorem MaskIn.less {w : World} {a0 : Option Addr} {lu ub nu nu' : Nat} {ua : Nat → List Bool} (h : MaskIn w a0 lu ub nu ua) (hl : nu' ≤ nu) : MaskIn w a0 lu ub nu' ua :=
  ⟨Nat.le_trans hl h.le, fun hp => h.a0 (by omega), fun i hi => h.row i (by omega), fun i hi => h.len i (by omega)⟩

/-- A []uint8 that came in. -/
def BIn (w : World) (a : Option Addr) (n c : Nat) (zs : List Int) : Prop :=
  (a = none ∧ n = 0 ∧ c = 0 ∧ zs = []) ∨ ∃ x, a = some x ∧ n ≤ zs.length ∧ ∀ i, i < zs.length → w.cell? (x.add i) = some (.int .u8 (zs.getD i 0))
theorem BIn.below {w w' : World} {a : Option Addr} {n c : Nat} {zs : List Int} (h : BIn w a n c zs) (hb : Below w.heap.size w w') : BIn w' a n c zs := by
  rcases h with h | ⟨x, h1, h2, h3⟩
  · exact .inl h
  · exact .inr ⟨x, h1, h2, fun i hi => cellOf (h3 i hi) hb⟩
theorem BIn.le {w : World} {a : Option Addr} {n c : Nat} {zs : List Int} (h : BIn w a n c zs) : n ≤ zs.length := by
  rcases h with ⟨_, rfl, _, _⟩ | ⟨x, _, h2, _⟩ <;> omega

theorem take_rng {zs : List Int} {n : Nat} (h : ∀ j, j < zs.length → 0 ≤ zs.getD j 0 ∧ zs.getD j 0 < 256) (hn : n ≤ zs.length) : ∀ j, j < n → 0 ≤ (zs.take n).getD j 0 ∧ (zs.take n).getD j 0 < 256 := by
  intro j hj
  have := h j (by omega)
  simpa [List.getD, List.getElem?_take, hj] using this

set_option maxRecDepth 100000 in
set_option maxHeartbeats 2000000 in
theorem law_b_in (a0 a1 a2 a : Option Addr) (n0 n1 n2 c0 c1 c2 : Nat) (z0 z1 z2 : List Int) (b off n c : Nat) (A : Nat → Option Addr) (L C : Nat → Nat) (B : Nat → Nat → Bool) (w : World)
    (m0 : n0 ≤ maxLen) (m1 : n1 ≤ maxLen) (m2 : n2 ≤ maxLen) (m3 : n ≤ maxLen) (i0 : BIn w a0 n0 c0 z0) (i1 : BIn w a1 n1 c1 z1) (i2 : BIn w a2 n2 c2 z2) (r0 : ∀ j, j < z0.length → 0 ≤ z0.getD j 0 ∧ z0.getD j 0 < 256) (r1 : ∀ j, j < z1.length → 0 ≤ z1.getD j 0 ∧ z1.getD j 0 < 256) (r2 : ∀ j, j < z2.length → 0 ≤ z2.getD j 0 ∧ z2.getD j 0 < 256)
    (hM : MIn w a n c b off A L C B) (k0 : n0 ≤ 65536) (k1 : n1 ≤ 65536) (k2 : n2 ≤ 65536) (k3 : n ≤ 65536) :
    Calls Try.prog 3 #[.slice a0 n0 c0, .slice a1 n1 c1, .slice a2 n2 c2, .slice a n c] w fun e w' => e = .returned (.bool true) ∧ Below w.heap.size w w' := by
  have g0 := take_rng r0 i0.le
  have g1 := take_rng r1 i1.le
  have g2 := take_rng r2 i2.le
  go_enter Try.func3, Try.ntmps3
  go_wp2_with fail
  refine (bytes3_any a0 a1 a2 a n0 n1 n2 c0 c1 c2 b off n c A L C B w m0 m1 m2 m3 hM).mono ?_
  rintro e w' ⟨⟨r, rfl, hr⟩, rfl⟩
  cases r with
  | false =>
    go_wp2
    go_ret
    exact ⟨rfl, Below.refl _ _⟩
  | true =>
    obtain ⟨⟨l0, l1, l2, l3⟩, hL⟩ := hr rfl
    clear hr
    go_wp2_with fail
    refine (relBytes_any a0 a1 a2 a n0 n1 n2 c0 c1 c2 b off n c A L C B w' l0 l1 l2 l3 hL hM).mono ?_
    rintro e w ⟨⟨x, rfl, hx⟩, rfl⟩
    by_cases hx1 : x ≤ 1048576
    · go_wp2_with fail
      refine (cloneBytes_any a0 n0 c0 c0 z0 w l0 i0).mono ?_
      rintro e w1 ⟨b0, rfl, hc0, hs1, hb1⟩
      go_wp2_with fail
      refine (cloneBytes_any a1 n1 c1 c1 z1 w1 l1 (i1.below hb1)).mono ?_
      rintro e w2 ⟨b1, rfl, hc1, hs2, hb2⟩
      have hb02 := hb1.trans (hb2.mono hs1)
      go_wp2_with fail
      refine (cloneBytes_any a2 n2 c2 c2 z2 w2 l2 (i2.below hb02)).mono ?_
      rintro e w3 ⟨b2, rfl, hc2, hs3, hb3⟩
      have hb03 := hb02.trans (hb3.mono hb02.size)
      go_wp2_with fail
      refine (cloneMasks_any a b off n c A L C B w3 l3 hL (hM.below hb03)).mono ?_
      rintro e w4 ⟨b3, ub, rfl, hMk, hb4⟩
      have hb04 := hb03.trans (hb4.mono hb03.size)
      go_wp2_with fail
      refine (min_any n1 n2 w4).mono ?_
      rintro e w' ⟨rfl, rfl⟩
      go_wp2_with fail
      refine (min_any (min n1 n2) n w').mono ?_
      rintro e w4 ⟨rfl, rfl⟩
      obtain ⟨nu, hnu⟩ : ∃ nu : Nat, min (min n1 n2) n = nu := ⟨_, rfl⟩
      rw [hnu]
      have q1 : nu ≤ n1 := by omega
      have q2 : nu ≤ n2 := by omega
      have q3 : nu ≤ n := by omega
      clear hnu
      go_wp2_with fail
      have hbd := build_any b0 w.heap.size n0 n0 (z0.take n0) b1 b2 w1.heap.size w2.heap.size n1 n2 n1 n2 nu (z1.take n1) (z2.take n2) w4 k0 (by have := i0.le; simp; omega)
        (fun hp => ⟨(hc0 hp).1, Row.below (hc0 hp).2 (hb2.trans ((hb3.trans (hb4.mono hs3)).mono hs2)) (Row.lt (hc0 hp).2)⟩) g0 (by omega) q1 q2 (by have := i1.le; simp; omega) (by have := i2.le; simp; omega)
        (fun hp => ⟨(hc1 (by omega)).1, Row.below (hc1 (by omega)).2 (hb3.trans (hb4.mono hs3)) (Row.lt (hc1 (by omega)).2)⟩)
        (fun hp => ⟨(hc2 (by omega)).1, Row.below (hc2 (by omega)).2 hb4 (Row.lt (hc2 (by omega)).2)⟩) (fun j hj => g1 j (by omega)) (fun j hj => g2 j (by omega))
      refine hbd.mono ?_
      rintro e w5 ⟨m, U, ids, nx, pv, us, st, rfl, hb5, hR⟩
      clear hbd
      have hb05 := hb04.trans (hb5.mono hb04.size)
      simp only [slc]
      go_upto_region 13 with fail
      have hmn : m ≤ n0 := by obtain ⟨ds, hI⟩ := hR.hids; exact hI.mle
      have hids : ids.length = n0 ∧ ∀ i, i < n0 → 0 ≤ ids.getD i 0 ∧ ids.getD i 0 < (m : Int) := by
        obtain ⟨ds, hI⟩ := hR.hids
        refine ⟨hI.lenI.trans (by have := i0.le; simp; omega), fun i hi => ?_⟩
        have e1 := hI.eq i hi
        have e2 := hI.nonneg i hi
        have e3 := g0 i hi
        have e4 := hI.rng ((z0.take n0).getD i 0).toNat (by omega)
        omega
      have hlaw := gap_law (us := us) (ua := fun i => (List.range (L i)).map (B i)) hids.1 hids.2 hR.links
      have hMk5 := (hMk.less q3).below hb5
      have hzl : (z0.take n0).length = n0 := by have := i0.le; simp; omega
      obtain ⟨R, hRe⟩ : ∃ R : Nat, w4.heap.size = R := ⟨_, rfl⟩
      obtain ⟨H, hHe⟩ : ∃ H : Nat, w5.heap.size = H := ⟨_, rfl⟩
      rw [hRe] at hR
      rw [hHe, hRe]
      have hRa := hR.alloc (.cells #[.int .i64 m, .slice (some ⟨R + 3, 0, none⟩) n0 n0, .slice (some ⟨R + 4, 0, none⟩) m m, .slice (some ⟨R + 5, 0, none⟩) n0 n0, .slice (some ⟨R + 6, 0, none⟩) n0 n0, .slice (some ⟨U, 0, none⟩) (m * m) (m * m)] 32)
      have hrow := Row.alloc_new w5 32 #[.int .i64 m, .slice (some ⟨R + 3, 0, none⟩) n0 n0, .slice (some ⟨R + 4, 0, none⟩) m m, .slice (some ⟨R + 5, 0, none⟩) n0 n0, .slice (some ⟨R + 6, 0, none⟩) n0 n0, .slice (some ⟨U, 0, none⟩) (m * m) (m * m)]
      have hb5W : Below w5.heap.size w5 (w5.alloc (.cells #[.int .i64 m, .slice (some ⟨R + 3, 0, none⟩) n0 n0, .slice (some ⟨R + 4, 0, none⟩) m m, .slice (some ⟨R + 5, 0, none⟩) n0 n0, .slice (some ⟨R + 6, 0, none⟩) n0 n0, .slice (some ⟨U, 0, none⟩) (m * m) (m * m)] 32)) := (Below.refl _ _).alloc (Nat.le_refl _) _
      have hMW := hMk5.below hb5W
      have hb0W := hb05.trans (hb5W.mono hb05.size)
      clear hb5W hMk5 hR hb5 hb05
      rw [hHe] at hrow
      obtain ⟨W, hW⟩ : ∃ W : World, w5.alloc (.cells #[.int .i64 m, .slice (some ⟨R + 3, 0, none⟩) n0 n0, .slice (some ⟨R + 4, 0, none⟩) m m, .slice (some ⟨R + 5, 0, none⟩) n0 n0, .slice (some ⟨R + 6, 0, none⟩) n0 n0, .slice (some ⟨U, 0, none⟩) (m * m) (m * m)] 32) = W := ⟨_, rfl⟩
      rw [hW] at hRa hrow hMW hb0W
      rw [hW]
      clear hW hHe hRe
      obtain ⟨g, hg⟩ : ∃ g : Bool, (g = true ↔ GapP m ids us n0 fun i => (List.range (L i)).map (B i)) := by
        by_cases hG : GapP m ids us n0 fun i => (List.range (L i)).map (B i)
        · exact ⟨true, by simp [hG]⟩
        · exact ⟨false, by simp [hG]⟩
      have H17 : Hid (∀ wx : World, Below W.heap.size W wx → Calls Try.prog 17 #[.agg #[.int .i64 m, .slice (some ⟨R + 3, 0, none⟩) n0 n0, .slice (some ⟨R + 4, 0, none⟩) m m, .slice (some ⟨R + 5, 0, none⟩) n0 n0, .slice (some ⟨R + 6, 0, none⟩) n0 n0, .slice (some ⟨U, 0, none⟩) (m * m) (m * m)], .slice b3 n n] wx fun e w' => e = .returned (.bool g) ∧ Below W.heap.size W w') := fun wx hb => by
        refine (zzAtomic_any wx R n0 m U nu n n ub b3 (z0.take n0) ids nx pv us st _ k0 hmn (by omega) l3 hzl g0 (hRa.below hb) (hMW.below hb)).mono ?_
        rintro e w' ⟨r, rfl, h1, h2⟩
        refine ⟨?_, hb.trans (h2.mono hb.size)⟩
        have : r = true ↔ g = true := h1.trans (hlaw.trans hg.symm)
        cases r <;> cases g <;> simp_all
      have H18 : Hid (∀ wx : World, Below W.heap.size W wx → Calls Try.prog 18 #[.agg #[.int .i64 m, .slice (some ⟨R + 3, 0, none⟩) n0 n0, .slice (some ⟨R + 4, 0, none⟩) m m, .slice (some ⟨R + 5, 0, none⟩) n0 n0, .slice (some ⟨R + 6, 0, none⟩) n0 n0, .slice (some ⟨U, 0, none⟩) (m * m) (m * m)], .slice b3 n n] wx fun e w' => e = .returned (.bool g) ∧ Below W.heap.size W w') := fun wx hb => by
        refine (gapModel_any wx R n0 m U nu n n ub b3 (z0.take n0) ids nx pv us st _ k0 hmn l3 hids.1 hids.2 (hRa.below hb) (hMW.below hb)).mono ?_
        rintro e w' ⟨⟨r, rfl, h1⟩, h2⟩
        refine ⟨?_, hb.trans (h2.mono hb.size)⟩
        have : r = true ↔ g = true := h1.trans hg.symm
        cases r <;> cases g <;> simp_all
      have hd : Below W.heap.size W W.drew := ⟨rfl, rfl, rfl, Nat.le_refl _, fun _ _ => rfl⟩
      obtain ⟨e0, e1, e2, e3, e4, e5⟩ : W.cell? ⟨H, 0, none⟩ = some (.int .i64 m) ∧ W.cell? ⟨H, 1, none⟩ = some (.slice (some ⟨R + 3, 0, none⟩) n0 n0) ∧ W.cell? ⟨H, 2, none⟩ = some (.slice (some ⟨R + 4, 0, none⟩) m m) ∧ W.cell? ⟨H, 3, none⟩ = some (.slice (some ⟨R + 5, 0, none⟩) n0 n0) ∧ W.cell? ⟨H, 4, none⟩ = some (.slice (some ⟨R + 6, 0, none⟩) n0 n0) ∧ W.cell? ⟨H, 5, none⟩ = some (.slice (some ⟨U, 0, none⟩) (m * m) (m * m)) := ⟨hrow.cell 0, hrow.cell 1, hrow.cell 2, hrow.cell 3, hrow.cell 4, hrow.cell 5⟩
      have HK : Hid (∀ wx : World, Below W.heap.size W wx → wx.cell? ⟨H, 0, none⟩ = some (.int .i64 m) ∧ wx.cell? ⟨H, 1, none⟩ = some (.slice (some ⟨R + 3, 0, none⟩) n0 n0) ∧ wx.cell? ⟨H, 2, none⟩ = some (.slice (some ⟨R + 4, 0, none⟩) m m) ∧ wx.cell? ⟨H, 3, none⟩ = some (.slice (some ⟨R + 5, 0, none⟩) n0 n0) ∧ wx.cell? ⟨H, 4, none⟩ = some (.slice (some ⟨R + 6, 0, none⟩) n0 n0) ∧ wx.cell? ⟨H, 5, none⟩ = some (.slice (some ⟨U, 0, none⟩) (m * m) (m * m))) := fun wx h5 => ⟨cellOf e0 h5, cellOf e1 h5, cellOf e2 h5, cellOf e3 h5, cellOf e4 h5, cellOf e5 h5⟩
      clear hlaw hg hMW hRa hrow hids g0 g1 g2 hMk hL hM i0 i1 i2 hc0 hc1 hc2
      go_region_held3 (fun w' => w'.cell? ⟨H, 0, none⟩ = some (.int .i64 m) ∧ w'.cell? ⟨H, 1, none⟩ = some (.slice (some ⟨R + 3, 0, none⟩) n0 n0) ∧ w'.cell? ⟨H, 2, none⟩ = some (.slice (some ⟨R + 4, 0, none⟩) m m) ∧ w'.cell? ⟨H, 3, none⟩ = some (.slice (some ⟨R + 5, 0, none⟩) n0 n0) ∧ w'.cell? ⟨H, 4, none⟩ = some (.slice (some ⟨R + 6, 0, none⟩) n0 n0) ∧ w'.cell? ⟨H, 5, none⟩ = some (.slice (some ⟨U, 0, none⟩) (m * m) (m * m))) (first | exact HK.out _ hd | exact HK.out _ hb17 | exact HK.out _ hb18 | go_keep) (first | (go_at_call 17; refine Calls.mono (H17.out _ (by first | exact hd | exact hb18)) ?_; rintro e w17 ⟨rfl, hb17⟩) | (go_at_call 18; refine Calls.mono (H18.out _ (by first | exact hd | exact hb17)) ?_; rintro e w18 ⟨rfl, hb18⟩))
      go_wp2
      go_ret
      exact ⟨by simp, hb0W.trans (hb18.mono hb0W.size)⟩
    · go_wp2
      go_ret
      exact ⟨rfl, Below.refl _ _⟩

theorem law_b (a0 a1 a2 a : Option Addr) (n0 n1 n2 c0 c1 c2 : Nat) (z0 z1 z2 : List Int) (b off n c : Nat) (A : Nat → Option Addr) (L C : Nat → Nat) (B : Nat → Nat → Bool) (w : World)
    (m0 : n0 ≤ maxLen) (m1 : n1 ≤ maxLen) (m2 : n2 ≤ maxLen) (m3 : n ≤ maxLen) (i0 : BIn w a0 n0 c0 z0) (i1 : BIn w a1 n1 c1 z1) (i2 : BIn w a2 n2 c2 z2) (r0 : ∀ j, j < z0.length → 0 ≤ z0.getD j 0 ∧ z0.getD j 0 < 256) (r1 : ∀ j, j < z1.length → 0 ≤ z1.getD j 0 ∧ z1.getD j 0 < 256) (r2 : ∀ j, j < z2.length → 0 ≤ z2.getD j 0 ∧ z2.getD j 0 < 256)
    (hM : MIn w a n c b off A L C B) :
    Calls Try.prog 3 #[.slice a0 n0 c0, .slice a1 n1 c1, .slice a2 n2 c2, .slice a n c] w fun e w' => e = .returned (.bool true) ∧ Below w.heap.size w w' := by
  by_cases k0 : n0 ≤ 65536
  · by_cases k1 : n1 ≤ 65536
    · by_cases k2 : n2 ≤ 65536
      · by_cases k3 : n ≤ 65536
        · exact law_b_in a0 a1 a2 a n0 n1 n2 c0 c1 c2 z0 z1 z2 b off n c A L C B w m0 m1 m2 m3 i0 i1 i2 r0 r1 r2 hM k0 k1 k2 k3
        · go_enter Try.func3, Try.ntmps3
          go_wp2_with fail
          refine (bytes3_any a0 a1 a2 a n0 n1 n2 c0 c1 c2 b off n c A L C B w m0 m1 m2 m3 hM).mono ?_
          rintro e w' ⟨⟨r, rfl, hr⟩, rfl⟩
          cases r with
          | false =>
            go_wp2
            go_ret
            exact ⟨rfl, Below.refl _ _⟩
          | true =>
            obtain ⟨⟨l0, l1, l2, l3⟩, hL⟩ := hr rfl
            clear hr
            go_wp2_with fail
            refine (relBytes_any a0 a1 a2 a n0 n1 n2 c0 c1 c2 b off n c A L C B w' l0 l1 l2 l3 hL hM).mono ?_
            rintro e w ⟨⟨x, rfl, hx⟩, rfl⟩
            by_cases hx1 : x ≤ 1048576
            · go_wp2
              go_ret
              exact ⟨rfl, Below.refl _ _⟩
            · go_wp2
              go_ret
              exact ⟨rfl, Below.refl _ _⟩
      · go_enter Try.func3, Try.ntmps3
        go_wp2_with fail
        refine (bytes3_any a0 a1 a2 a n0 n1 n2 c0 c1 c2 b off n c A L C B w m0 m1 m2 m3 hM).mono ?_
        rintro e w' ⟨⟨r, rfl, hr⟩, rfl⟩
        cases r with
        | false =>
          go_wp2
          go_ret
          exact ⟨rfl, Below.refl _ _⟩
        | true =>
          obtain ⟨⟨l0, l1, l2, l3⟩, hL⟩ := hr rfl
          clear hr
          go_wp2_with fail
          refine (relBytes_any a0 a1 a2 a n0 n1 n2 c0 c1 c2 b off n c A L C B w' l0 l1 l2 l3 hL hM).mono ?_
          rintro e w ⟨⟨x, rfl, hx⟩, rfl⟩
          by_cases hx1 : x ≤ 1048576
          · go_wp2
            go_ret
            exact ⟨rfl, Below.refl _ _⟩
          · go_wp2
            go_ret
            exact ⟨rfl, Below.refl _ _⟩
    · go_enter Try.func3, Try.ntmps3
      go_wp2_with fail
      refine (bytes3_any a0 a1 a2 a n0 n1 n2 c0 c1 c2 b off n c A L C B w m0 m1 m2 m3 hM).mono ?_
      rintro e w' ⟨⟨r, rfl, hr⟩, rfl⟩
      cases r with
      | false =>
        go_wp2
        go_ret
        exact ⟨rfl, Below.refl _ _⟩
      | true =>
        obtain ⟨⟨l0, l1, l2, l3⟩, hL⟩ := hr rfl
        clear hr
        go_wp2_with fail
        refine (relBytes_any a0 a1 a2 a n0 n1 n2 c0 c1 c2 b off n c A L C B w' l0 l1 l2 l3 hL hM).mono ?_
        rintro e w ⟨⟨x, rfl, hx⟩, rfl⟩
        by_cases hx1 : x ≤ 1048576
        · go_wp2
          go_ret
          exact ⟨rfl, Below.refl _ _⟩
        · go_wp2
          go_ret
          exact ⟨rfl, Below.refl _ _⟩
  · go_enter Try.func3, Try.ntmps3
    go_wp2_with fail
    refine (bytes3_any a0 a1 a2 a n0 n1 n2 c0 c1 c2 b off n c A L C B w m0 m1 m2 m3 hM).mono ?_
    rintro e w' ⟨⟨r, rfl, hr⟩, rfl⟩
    cases r with
    | false =>
      go_wp2
      go_ret
      exact ⟨rfl, Below.refl _ _⟩
    | true =>
      obtain ⟨⟨l0, l1, l2, l3⟩, hL⟩ := hr rfl
      clear hr
      go_wp2_with fail
      refine (relBytes_any a0 a1 a2 a n0 n1 n2 c0 c1 c2 b off n c A L C B w' l0 l1 l2 l3 hL hM).mono ?_
      rintro e w ⟨⟨x, rfl, hx⟩, rfl⟩
      by_cases hx1 : x ≤ 1048576
      · go_wp2
        go_ret
        exact ⟨rfl, Below.refl _ _⟩
      · go_wp2
        go_ret
        exact ⟨rfl, Below.refl _ _⟩

end Go.Proofs.Qxb6602514a
