import Derived.Test.Qxb6604003aBd
set_option linter.unusedVariables false
namespace Go.Proofs.Qxb6604003a
open Go.RowKit

/-- The call answered a bool. -/
def RetA (e : Ending) : Prop := ∃ r : Bool, e = .returned (.bool r)
/-- The call answered a bool: P, where it is true. -/
def RetT (P : Prop) (e : Ending) : Prop := ∃ r : Bool, e = .returned (.bool r) ∧ (r = true → P)
theorem RetT.f {P : Prop} : RetT P (.returned (.bool false)) := ⟨false, rfl, fun h => by cases h⟩
theorem RetT.t {P : Prop} (h : P) : RetT P (.returned (.bool true)) := ⟨true, rfl, fun _ => h⟩

/-- An element's header. -/
theorem KIn.hd {w : World} {a : Option Addr} {n c b off : Nat} {F : Nat → Value} {kb : Nat → List UInt8} (h : KIn w a n c b off F kb) {i : Nat} (hi : i < n) : ∃ ka kl kc, w.cell? ⟨b, off + i, none⟩ = some (.slice ka kl kc) ∧ (kb i).length = kl ∧ kl ≤ 9223372036854775807 := by
  obtain ⟨ka, kc, kbk, kof, hKe, hKs⟩ := h.bv i hi
  have := h.cell i hi
  rw [hKe] at this
  exact ⟨ka, _, kc, this, rfl, by have := hKs.max; unfold maxLen at this; omega⟩

theorem bytes28_any (a0 a1 : Option Addr) (n0 n1 c0 c1 b0 b1 o0 o1 : Nat) (K V : Nat → Value) (kb vb : Nat → List UInt8) (all : Option Addr) (ll cll : Nat) (aml : Option Addr) (ml cml : Nat) (ael : Option Addr) (el cel : Nat) (w : World) (m0 : n0 ≤ 9223372036854775807) (m1 : n1 ≤ 9223372036854775807) (mll : ll ≤ 9223372036854775807) (mml : ml ≤ 9223372036854775807) (mel : el ≤ 9223372036854775807) (h0 : KIn w a0 n0 c0 b0 o0 K kb) (h1 : KIn w a1 n1 c1 b1 o1 V vb) :
    Calls Try.prog 28 #[.slice a0 n0 c0, .slice a1 n1 c1, .slice all ll cll, .slice aml ml cml, .slice ael el cel] w fun e w' => RetA e ∧ w' = w := by
  by_cases k0 : n0 ≤ 1048576
  · go_enter Try.func28, Try.ntmps28
    go_wp2
    go_loop [11, 12] (fun s i => ∃ k x : Nat, k ≤ n0 ∧ i = .int .i64 k ∧ s = .int .i64 x ∧ x ≤ 1048576) (fun _ i => n0 - (intOf i).toNat)
    case atStart => exact ⟨0, n0, Nat.zero_le _, rfl, by go_num, by omega⟩
    case round =>
      obtain ⟨k, x, hk, rfl, rfl, hx⟩ := hrel
      by_cases hlt : k < n0
      · obtain rfl := h0.at' (by omega)
        obtain ⟨ka, kl, kc, g1, -, hm⟩ := h0.hd hlt
        by_cases p2 : kl ≤ 1048576
        · by_cases p3 : x + kl ≤ 1048576
          · go_wp2
            go_round
            case rel => exact ⟨k + 1, x + kl, by omega, by go_num, by go_num, by omega⟩
            case measure => simp [intOf]; omega
          · go_wp2
            go_ret
            exact ⟨⟨false, rfl⟩, rfl⟩
        · go_wp2
          go_ret
          exact ⟨⟨false, rfl⟩, rfl⟩
      · by_cases k1 : n1 ≤ 1048576
        · by_cases p4 : x + n1 ≤ 1048576
          · go_wp2
            go_loop [11, 13] (fun s i => ∃ k x : Nat, k ≤ n1 ∧ i = .int .i64 k ∧ s = .int .i64 x ∧ x ≤ 1048576) (fun _ i => n1 - (intOf i).toNat)
            case atStart => exact ⟨0, x + n1, Nat.zero_le _, rfl, by go_num, by omega⟩
            case round =>
              clear hx p4
              obtain ⟨k, x, hk, rfl, rfl, hx⟩ := hrel
              by_cases hlt : k < n1
              · obtain rfl := h1.at' (by omega)
                obtain ⟨ka, kl, kc, g1, -, hm⟩ := h1.hd hlt
                by_cases p2 : kl ≤ 1048576
                · by_cases p3 : x + kl ≤ 1048576
                  · go_wp2
                    go_round
                    case rel => exact ⟨k + 1, x + kl, by omega, by go_num, by go_num, by omega⟩
                    case measure => simp [intOf]; omega
                  · go_wp2
                    go_ret
                    exact ⟨⟨false, rfl⟩, rfl⟩
                · go_wp2
                  go_ret
                  exact ⟨⟨false, rfl⟩, rfl⟩
              · by_cases s0 : ll ≤ 1048576
                · by_cases t0 : x + ll ≤ 1048576
                  · by_cases s1 : ml ≤ 1048576
                    · by_cases t1 : x + ll + ml ≤ 1048576
                      · by_cases s2 : el ≤ 1048576
                        · by_cases t2 : x + ll + ml + el ≤ 1048576
                          · go_wp2
                            go_ret
                            exact ⟨⟨true, rfl⟩, rfl⟩
                          · go_wp2
                            go_ret
                            exact ⟨⟨false, rfl⟩, rfl⟩
                        · go_wp2
                          go_ret
                          exact ⟨⟨false, rfl⟩, rfl⟩
                      · go_wp2
                        go_ret
                        exact ⟨⟨false, rfl⟩, rfl⟩
                    · go_wp2
                      go_ret
                      exact ⟨⟨false, rfl⟩, rfl⟩
                  · go_wp2
                    go_ret
                    exact ⟨⟨false, rfl⟩, rfl⟩
                · go_wp2
                  go_ret
                  exact ⟨⟨false, rfl⟩, rfl⟩
          · go_wp2
            go_ret
            exact ⟨⟨false, rfl⟩, rfl⟩
        · go_wp2
          go_ret
          exact ⟨⟨false, rfl⟩, rfl⟩
  · go_enter Try.func28, Try.ntmps28
    go_wp2
    go_ret
    exact ⟨⟨false, rfl⟩, rfl⟩

theorem bytes24_any (a0 a1 : Option Addr) (n0 n1 c0 c1 b0 b1 o0 o1 : Nat) (K V : Nat → Value) (kb vb : Nat → List UInt8) (all : Option Addr) (ll cll : Nat) (ael : Option Addr) (el cel : Nat) (w : World) (m0 : n0 ≤ 9223372036854775807) (m1 : n1 ≤ 9223372036854775807) (mll : ll ≤ 9223372036854775807) (mel : el ≤ 9223372036854775807) (h0 : KIn w a0 n0 c0 b0 o0 K kb) (h1 : KIn w a1 n1 c1 b1 o1 V vb) :
    Calls Try.prog 24 #[.slice a0 n0 c0, .slice a1 n1 c1, .slice all ll cll, .slice ael el cel] w fun e w' => RetA e ∧ w' = w := by
  by_cases k0 : n0 ≤ 1048576
  · go_enter Try.func24, Try.ntmps24
    go_wp2
    go_loop [9, 10] (fun s i => ∃ k x : Nat, k ≤ n0 ∧ i = .int .i64 k ∧ s = .int .i64 x ∧ x ≤ 1048576) (fun _ i => n0 - (intOf i).toNat)
    case atStart => exact ⟨0, n0, Nat.zero_le _, rfl, by go_num, by omega⟩
    case round =>
      obtain ⟨k, x, hk, rfl, rfl, hx⟩ := hrel
      by_cases hlt : k < n0
      · obtain rfl := h0.at' (by omega)
        obtain ⟨ka, kl, kc, g1, -, hm⟩ := h0.hd hlt
        by_cases p2 : kl ≤ 1048576
        · by_cases p3 : x + kl ≤ 1048576
          · go_wp2
            go_round
            case rel => exact ⟨k + 1, x + kl, by omega, by go_num, by go_num, by omega⟩
            case measure => simp [intOf]; omega
          · go_wp2
            go_ret
            exact ⟨⟨false, rfl⟩, rfl⟩
        · go_wp2
          go_ret
          exact ⟨⟨false, rfl⟩, rfl⟩
      · by_cases k1 : n1 ≤ 1048576
        · by_cases p4 : x + n1 ≤ 1048576
          · go_wp2
            go_loop [9, 11] (fun s i => ∃ k x : Nat, k ≤ n1 ∧ i = .int .i64 k ∧ s = .int .i64 x ∧ x ≤ 1048576) (fun _ i => n1 - (intOf i).toNat)
            case atStart => exact ⟨0, x + n1, Nat.zero_le _, rfl, by go_num, by omega⟩
            case round =>
              clear hx p4
              obtain ⟨k, x, hk, rfl, rfl, hx⟩ := hrel
              by_cases hlt : k < n1
              · obtain rfl := h1.at' (by omega)
                obtain ⟨ka, kl, kc, g1, -, hm⟩ := h1.hd hlt
                by_cases p2 : kl ≤ 1048576
                · by_cases p3 : x + kl ≤ 1048576
                  · go_wp2
                    go_round
                    case rel => exact ⟨k + 1, x + kl, by omega, by go_num, by go_num, by omega⟩
                    case measure => simp [intOf]; omega
                  · go_wp2
                    go_ret
                    exact ⟨⟨false, rfl⟩, rfl⟩
                · go_wp2
                  go_ret
                  exact ⟨⟨false, rfl⟩, rfl⟩
              · by_cases s0 : ll ≤ 1048576
                · by_cases t0 : x + ll ≤ 1048576
                  · by_cases s1 : el ≤ 1048576
                    · by_cases t1 : x + ll + el ≤ 1048576
                      · go_wp2
                        go_ret
                        exact ⟨⟨true, rfl⟩, rfl⟩
                      · go_wp2
                        go_ret
                        exact ⟨⟨false, rfl⟩, rfl⟩
                    · go_wp2
                      go_ret
                      exact ⟨⟨false, rfl⟩, rfl⟩
                  · go_wp2
                    go_ret
                    exact ⟨⟨false, rfl⟩, rfl⟩
                · go_wp2
                  go_ret
                  exact ⟨⟨false, rfl⟩, rfl⟩
          · go_wp2
            go_ret
            exact ⟨⟨false, rfl⟩, rfl⟩
        · go_wp2
          go_ret
          exact ⟨⟨false, rfl⟩, rfl⟩
  · go_enter Try.func24, Try.ntmps24
    go_wp2
    go_ret
    exact ⟨⟨false, rfl⟩, rfl⟩

/-- What ordB1WithinBytes makes sure of. -/
def Within (n0 n1 : Nat) (kb vb : Nat → List UInt8) : Prop := 24 * n0 + 24 * n1 ≤ 1048576 ∧ (∀ i, i < n0 → (kb i).length ≤ 1048576) ∧ ∀ i, i < n1 → (vb i).length ≤ 1048576

theorem within_any (a0 a1 : Option Addr) (n0 n1 c0 c1 b0 b1 o0 o1 x : Nat) (K V : Nat → Value) (kb vb : Nat → List UInt8) (w : World) (m0 : n0 ≤ 65536) (m1 : n1 ≤ 65536) (hx4 : x ≤ 4194304) (h0 : KIn w a0 n0 c0 b0 o0 K kb) (h1 : KIn w a1 n1 c1 b1 o1 V vb) :
    Calls Try.prog 8 #[.slice a0 n0 c0, .slice a1 n1 c1, .int .i64 x] w fun e w' => RetT (Within n0 n1 kb vb) e ∧ w' = w := by
  by_cases k0 : x + 24 * n0 + 24 * n1 ≤ 1048576
  · go_enter Try.func8, Try.ntmps8
    go_wp2
    go_loop [7, 8] (fun s i => ∃ k y : Nat, k ≤ n0 ∧ i = .int .i64 k ∧ s = .int .i64 y ∧ y ≤ 1048576 ∧ Hid (∀ i, i < k → (kb i).length ≤ 1048576)) (fun _ i => n0 - (intOf i).toNat)
    case atStart => exact ⟨0, x + 24 * n0 + 24 * n1, Nat.zero_le _, rfl, by go_num, by omega, fun i hi => by omega⟩
    case round =>
      obtain ⟨k, y, hk, rfl, rfl, hy, hall⟩ := hrel
      by_cases hlt : k < n0
      · obtain rfl := h0.at' (by omega)
        obtain ⟨ka, kl, kc, g1, hkl, hm⟩ := h0.hd hlt
        have HKL : Hid ((kb k).length = kl) := hkl
        clear hkl
        by_cases p2 : (kl : Int) ≤ 1048576 - (y : Int)
        · go_wp2
          go_round
          case rel =>
            refine ⟨k + 1, y + kl, by omega, by go_num, by go_num, by omega, fun i hi => ?_⟩
            by_cases e : i = k
            · subst e; rw [HKL.out]; omega
            · exact hall.out i (by omega)
          case measure => simp [intOf]; omega
        · go_wp2
          go_ret
          exact ⟨RetT.f, rfl⟩
      · have HA : Hid (∀ i, i < n0 → (kb i).length ≤ 1048576) := fun i hi => hall.out i (by omega)
        go_wp2
        go_loop [7, 9] (fun s i => ∃ k y : Nat, k ≤ n1 ∧ i = .int .i64 k ∧ s = .int .i64 y ∧ y ≤ 1048576 ∧ Hid (∀ i, i < k → (vb i).length ≤ 1048576)) (fun _ i => n1 - (intOf i).toNat)
        case atStart => exact ⟨0, y, Nat.zero_le _, rfl, rfl, hy, fun i hi => by omega⟩
        case round =>
          clear hy hall
          obtain ⟨k, y, hk, rfl, rfl, hy, hall⟩ := hrel
          by_cases hlt : k < n1
          · obtain rfl := h1.at' (by omega)
            obtain ⟨ka, kl, kc, g1, hkl, hm⟩ := h1.hd hlt
            have HKL : Hid ((vb k).length = kl) := hkl
            clear hkl
            by_cases p2 : (kl : Int) ≤ 1048576 - (y : Int)
            · go_wp2
              go_round
              case rel =>
                refine ⟨k + 1, y + kl, by omega, by go_num, by go_num, by omega, fun i hi => ?_⟩
                by_cases e : i = k
                · subst e; rw [HKL.out]; omega
                · exact hall.out i (by omega)
              case measure => simp [intOf]; omega
            · go_wp2
              go_ret
              exact ⟨RetT.f, rfl⟩
          · go_wp2
            go_ret
            exact ⟨RetT.t ⟨by omega, HA.out, fun i hi => hall.out i (by omega)⟩, rfl⟩
  · go_enter Try.func8, Try.ntmps8
    go_wp2
    go_ret
    exact ⟨RetT.f, rfl⟩

/-- Neighbours ascend. -/
def Adj (kb : Nat → List UInt8) (n : Nat) : Prop := ∀ i, i + 1 < n → cmpB (kb i) (kb (i + 1)) < 0

theorem asc_any (a : Option Addr) (n c b off : Nat) (K : Nat → Value) (kb : Nat → List UInt8) (w : World) (hn : n ≤ 65536) (hm : ∀ i, i < n → (kb i).length ≤ 1048576) (h : KIn w a n c b off K kb) :
    Calls Try.prog 9 #[.slice a n c] w fun e w' => RetT (Adj kb n) e ∧ Below w.heap.size w w' := by
  have HM : Hid (∀ i, i < n → (kb i).length ≤ 1048576) := hm
  clear hm
  go_enter Try.func9, Try.ntmps9
  go_wp2
  go_loopw [3] (fun i wr => ∃ q : Nat, (q + 1 ≤ n ∨ q = 0) ∧ i = .int .i64 ((q : Int) + 1) ∧ Below w.heap.size w wr ∧ Hid (Adj kb (q + 1))) (fun i _ => n + 1 - (intOf i).toNat)
  case atStart => exact ⟨0, .inr rfl, rfl, Below.refl _ _, fun k hk => by omega⟩
  case round =>
    obtain ⟨q, hq, rfl, hbr, hasc⟩ := hrel
    by_cases hlt : q + 1 < n
    · obtain rfl := h.at' (by omega)
      obtain ⟨ka, kc, kbk, kof, hKe, hKs⟩ := h.bv q (by omega)
      obtain ⟨la, lc, lbk, lof, hLe, hLs⟩ := h.bv (q + 1) hlt
      have g0 := cellOf (h.cell q (by omega)) hbr
      have g1 := cellOf (h.cell (q + 1) hlt) hbr
      rw [hKe] at g0
      rw [hLe] at g1
      have hcall := cmp_any wr.drew ka la kc kbk kof lc lbk lof (kb q) (kb (q + 1)) ((hKs.below hbr).below (bel_to_drew (Below.refl _ _))) ((hLs.below hbr).below (bel_to_drew (Below.refl _ _))) (HM.out q (by omega)) (HM.out (q + 1) hlt)
      obtain ⟨cm, hcm⟩ : ∃ cm, cmpB (kb q) (kb (q + 1)) = cm := ⟨_, rfl⟩
      have HCM : Hid (cmpB (kb q) (kb (q + 1)) = cm) := hcm
      rw [hcm] at hcall
      obtain ⟨kl, hkl⟩ : ∃ kl, (kb q).length = kl := ⟨_, rfl⟩
      obtain ⟨l2, hl2⟩ : ∃ l2, (kb (q + 1)).length = l2 := ⟨_, rfl⟩
      rw [hkl] at g0 hcall
      rw [hl2] at g1 hcall
      have HC : Hid (∀ wx : World, wx = wr.drew → Calls Try.prog 27 #[.slice ka kl kc, .slice la l2 lc] wx fun e w' => e = .returned (.int .i64 cm) ∧ Below wr.drew.heap.size wr.drew w') := fun wx hx => by subst hx; exact hcall
      have KP : Hid (∀ wx : World, Below wr.drew.heap.size wr.drew wx → wx.cell? ⟨b, off + q, none⟩ = some (.slice ka kl kc) ∧ wx.cell? ⟨b, off + (q + 1), none⟩ = some (.slice la l2 lc)) := fun wx hb => ⟨cellOf (w := wr.drew) g0 hb, cellOf (w := wr.drew) g1 hb⟩
      have hdd := Below.refl wr.drew.heap.size wr.drew
      clear hKe hLe hKs hLs hcm hcall hkl hl2
      have j0 : (0 : Int) ≤ (q : Int) := by omega
      have j1 : (q : Int) < (n : Int) := by omega
      have j2 : (q : Int) + 1 < (n : Int) := by omega
      have j3 : (0 : Int) ≤ (q : Int) + 1 := by omega
      have hw2 : IntKind.i64.wrap (q : Int) = (q : Int) := IntWalk.i64_in _ ⟨by omega, by omega⟩
      have hw3 : (q : Int) + 1 - 1 = (q : Int) := by omega
      go_upto_region 4 with fail
      go_region_held3 (fun w' => w'.cell? ⟨b, off + q, none⟩ = some (.slice ka kl kc) ∧ w'.cell? ⟨b, off + (q + 1), none⟩ = some (.slice la l2 lc)) (first | exact KP.out _ hdd | exact KP.out _ hb7 | go_keep) (first | (go_at_call 27; refine Calls.mono (HC.out _ (by first | rfl | assumption)) ?_; rintro e w7 ⟨rfl, hb7⟩))
      have hb8 : Below w.heap.size w w7 := hbr.trans ((bel_to_drew (Below.refl wr.heap.size wr)).mono hbr.size |>.trans (hb7.mono hbr.size))
      by_cases hc : cm < 0
      · have hc2 : ¬(0 ≤ cm) := by omega
        go_wp2
        go_roundw
        case rel =>
          refine ⟨q + 1, .inl (by omega), by go_num, hb8, fun k hk => ?_⟩
          by_cases e : k = q
          · subst e; rw [HCM.out]; exact hc
          · exact hasc.out k (by omega)
        case measure => simp [intOf]; omega
      · have hc2 : 0 ≤ cm := by omega
        go_wp2
        go_ret
        exact ⟨RetT.f, hb8⟩
    · go_wp2
      go_ret
      exact ⟨RetT.t (fun i hi => hasc.out i (by omega)), hbr⟩

/-- What a clone hands back, and where. -/
def Cloned2 (w : World) (a : Option Addr) (ks : List UInt8) (e : Ending) (w' : World) : Prop := ∃ a' g, e = .returned (.slice a' ks.length ks.length) ∧ Bs w' a' ks.length g 0 ks ∧ Below w.heap.size w w' ∧ (a' = none ↔ a = none) ∧ ∀ b off, a' = some ⟨b, off, none⟩ → w.heap.size ≤ b

theorem cloneC_some (x : Addr) (c b off : Nat) (ks : List UInt8) (w : World) (hm : ks.length ≤ 1048576) (h : Bs w (some x) c b off ks) :
    Calls Try.prog 25 #[.slice (some x) ks.length c] w fun e w' => Cloned2 w (some x) ks e w' := by
  obtain ⟨n, hn⟩ : ∃ n, ks.length = n := ⟨_, rfl⟩
  have HN : Hid (ks.length = n) := hn
  have hc : Hid (∀ i, i < n → w.cell? ⟨b, off + i, none⟩ = some (.int .u8 ((ks.getD i 0).toNat : Nat))) := fun i hi => h.cell i (by omega)
  have hat : Hid (0 < n → some x = some ⟨b, off, none⟩) := fun hp => h.at' (by omega)
  rw [hn] at hm
  rw [hn]
  clear h hn
  have he := fun wx : World => Lib.run_eql_slice_nil (P := Try.prog) wx 39 5 (some x) n c 0 0 Try.underlying39
  go_enter Try.func25, Try.ntmps25
  go_wp2_with (at_make; refine wpList_make_row _ rfl _ _ 39 rfl 5 (.int .u8 0) 1 1 Try.underlying39 info5 _ _ _ _ n rfl rfl rfl rfl (by omega) (by unfold maxLen; omega) _ (made_one _ rfl n) _ rfl ?_; intro w1 hrow hsz hbel)
  go_loopw [4] (fun i wr => ∃ k : Nat, k ≤ n ∧ i = .int .i64 k ∧ Below w.heap.size w wr ∧ ∃ vs : List Value, vs.length = n ∧ Row wr w.heap.size 5 vs ∧ Hid (∀ j, j < k → vs[j]? = some (.int .u8 ((ks.getD j 0).toNat : Nat)))) (fun i _ => n - (intOf i).toNat)
  case atStart => exact ⟨0, Nat.zero_le _, rfl, hbel, List.replicate n (.int .u8 0), by simp, hrow, fun j hj => by omega⟩
  case round =>
    obtain ⟨k, hk, rfl, hbr, vs, hvl, hvr, hvz⟩ := hrel
    clear hrow hsz hbel
    by_cases hlt : k < n
    · obtain rfl := Option.some.inj (hat.out (by omega))
      have g1 := cellOf (hc.out k hlt) hbr
      have g2 : wr.cell? ⟨w.heap.size, k, none⟩ = some (vs[k]'(by omega)) := by rw [hvr.cell k]; simp [hvl, hlt]
      have g3 := hvr.frozen k
      go_wp2
      go_roundw
      case rel =>
        refine ⟨k + 1, by omega, by go_num, hbr.setCell (by simp) _, vs.set k (.int .u8 ((ks.getD k 0).toNat : Nat)), by simpa using hvl, hvr.set k _, fun j hj => ?_⟩
        by_cases e : j = k
        · subst e; rw [List.getElem?_set_self (by omega)]
        · rw [List.getElem?_set_ne (by omega)]; exact hvz.out j (by omega)
      case measure => simp [intOf]; omega
    · have : k = n := by omega
      subst this
      go_wp2
      go_ret
      unfold Cloned2
      rw [HN.out]
      refine ⟨some ⟨w.heap.size, 0, none⟩, w.heap.size, rfl, ⟨(fun h => by cases h), fun _ => rfl, fun i hi => ?_, by rw [HN.out]; unfold maxLen; omega⟩, hbr, by simp, fun b off e => by injection e with e; injection e with e; omega⟩
      rw [Nat.zero_add, hvr.cell]
      exact hvz.out i (by rw [HN.out] at hi; exact hi)

theorem cloneC_any (a : Option Addr) (c b off : Nat) (ks : List UInt8) (w : World) (hm : ks.length ≤ 1048576) (h : Bs w a c b off ks) :
    Calls Try.prog 25 #[.slice a ks.length c] w fun e w' => Cloned2 w a ks e w' := by
  cases a with
  | some x => exact cloneC_some x c b off ks w hm h
  | none =>
    obtain ⟨h1, rfl⟩ := h.nil rfl
    obtain rfl : ks = [] := by simpa using h1
    have he := fun wx : World => Lib.run_eql_slice_nil (P := Try.prog) wx 39 5 none 0 0 0 0 Try.underlying39
    go_enter Try.func25, Try.ntmps25
    go_wp2
    go_ret
    exact ⟨none, 0, rfl, ⟨fun _ => ⟨rfl, rfl⟩, (fun h => by simp at h), (fun i h => by simp at h), by simp⟩, Below.refl _ _, by simp, fun b off e => by cases e⟩

theorem BV.setOther {w : World} {a : Option Addr} {c b off H k : Nat} {u : Value} {ks : List UInt8} (h : Bs w a c b off ks) (hb : 0 < ks.length → b ≠ H) : Bs (w.setCell ⟨H, k, none⟩ u) a c b off ks :=
  ⟨h.nil, h.at', fun i hi => by
    have e : (w.setCell ⟨H, k, none⟩ u).heap[b]? = w.heap[b]? := Below.heap_setCell _ _ _ _ (hb (by omega))
    rw [World.cell?_of_block (w := w) (a := ⟨b, off + i, none⟩) e]
    exact h.cell i hi, h.max⟩

theorem info39' : (Try.prog.info? 39).map (fun i => (i.zero, i.size, i.bytes)) = some (some (.slice none 0 0), 1, 24) := by kernel_rfl

/-- What ordB1CloneAll hands back. -/
def ClonedAll (w : World) (n : Nat) (kb : Nat → List UInt8) (e : Ending) (w' : World) : Prop := ∃ a' g F, e = .returned (.slice a' n n) ∧ KIn w' a' n n g 0 F kb ∧ Below w.heap.size w w'

theorem cloneAll_any (a : Option Addr) (n c b off : Nat) (K : Nat → Value) (kb : Nat → List UInt8) (w : World) (hn : n ≤ 65536) (hm : ∀ i, i < n → (kb i).length ≤ 1048576) (h : KIn w a n c b off K kb) :
    Calls Try.prog 10 #[.slice a n c] w fun e w' => ClonedAll w n kb e w' := by
  cases a with
  | none =>
    obtain ⟨rfl, rfl⟩ := h.nil rfl
    have he := fun wx : World => Lib.run_eql_slice_nil (P := Try.prog) wx 22 39 none 0 0 0 0 Try.underlying22
    go_enter Try.func10, Try.ntmps10
    go_wp2
    go_ret
    exact ⟨none, 0, K, rfl, ⟨fun _ => ⟨rfl, rfl⟩, fun h => by omega, fun i h => by omega, fun i h => by omega⟩, Below.refl _ _⟩
  | some x =>
    have he := fun wx : World => Lib.run_eql_slice_nil (P := Try.prog) wx 22 39 (some x) n c 0 0 Try.underlying22
    have HM : Hid (∀ i, i < n → (kb i).length ≤ 1048576) := hm
    clear hm
    go_enter Try.func10, Try.ntmps10
    go_wp2_with (at_make; refine wpList_make_row _ rfl _ _ 22 rfl 39 (.slice none 0 0) 1 24 Try.underlying22 info39' _ _ _ _ n rfl rfl rfl rfl (by omega) (by unfold maxLen; omega) _ (made_one _ rfl n) _ rfl ?_; intro w1 hrow hsz hbel)
    go_loopw [4] (fun i wr => ∃ k : Nat, k ≤ n ∧ i = .int .i64 k ∧ Below w.heap.size w wr ∧ ∃ vs : List Value, vs.length = n ∧ Row wr w.heap.size 39 vs ∧ Hid (∀ j, j < k → ∃ a c b off, vs[j]? = some (.slice a (kb j).length c) ∧ Bs wr a c b off (kb j) ∧ (0 < (kb j).length → b ≠ w.heap.size))) (fun i _ => n - (intOf i).toNat)
    case atStart => exact ⟨0, Nat.zero_le _, rfl, hbel, List.replicate n (.slice none 0 0), by simp, hrow, fun j hj => by omega⟩
    case round =>
      obtain ⟨k, hk, rfl, hbr, vs, hvl, hvr, hvz⟩ := hrel
      clear hrow hsz hbel
      by_cases hlt : k < n
      · obtain rfl := Option.some.inj (h.at' (by omega))
        obtain ⟨ka, kc, kbk, kof, hKe, hKs⟩ := h.bv k hlt
        have g1 := cellOf (h.cell k hlt) hbr
        rw [hKe] at g1
        have hcall := cloneC_any ka kc kbk kof (kb k) wr (HM.out k hlt) (hKs.below hbr)
        obtain ⟨kl, hkl⟩ : ∃ kl, (kb k).length = kl := ⟨_, rfl⟩
        rw [hkl] at g1 hcall
        have HKL : Hid ((kb k).length = kl) := hkl
        clear hKe hKs hkl
        have hlt7 := hvr.lt
        go_wp2_with fail
        refine hcall.mono ?_
        rintro e w7 ⟨a', g, rfl, hcl, hb7, -, hnw⟩
        rw [HKL.out]
        have hvr7 := hvr.below hb7 hlt7
        have g2 : w7.cell? ⟨w.heap.size, k, none⟩ = some (vs[k]'(by omega)) := by rw [hvr7.cell k]; simp [hvl, hlt]
        have g3 := hvr7.frozen k
        have hbr7 := hbr.trans (hb7.mono hbr.size)
        clear hcall
        go_wp2
        go_roundw
        case rel =>
          refine ⟨k + 1, by omega, by go_num, hbr7.setCell (by simp) _, vs.set k (.slice a' kl kl), by simpa using hvl, hvr7.set k _, fun j hj => ?_⟩
          by_cases e : j = k
          · subst e
            have hkk := HKL.out
            rw [hkk] at hcl
            refine ⟨a', kl, g, 0, ?_, BV.setOther hcl fun hp => ?_, fun hp => ?_⟩
            · rw [List.getElem?_set_self (by omega), hkk]
            · have := hnw g 0 (hcl.at' hp); omega
            · have := hnw g 0 (hcl.at' hp); omega
          · obtain ⟨aj, cj, bj, oj, p1, p2, p3⟩ := hvz.out j (by omega)
            exact ⟨aj, cj, bj, oj, by rw [List.getElem?_set_ne (by omega)]; exact p1, BV.setOther (p2.below hb7) p3, p3⟩
        case measure => simp [intOf]; omega
      · have hkn : k = n := by omega
        subst hkn
        go_wp2
        go_ret
        have hF : ∀ i, i < k → ∃ v, vs[i]? = some v ∧ BV wr v (kb i) := fun i hi => by
          obtain ⟨aj, cj, bj, oj, p1, p2, _⟩ := hvz.out i hi
          exact ⟨_, p1, aj, cj, bj, oj, rfl, p2⟩
        refine ⟨some ⟨w.heap.size, 0, none⟩, w.heap.size, fun i => (vs[i]?).getD (.slice none 0 0), rfl, ⟨(fun h => by cases h), fun _ => rfl, fun i hi => ?_, fun i hi => ?_⟩, hbr⟩
        · obtain ⟨v, e1, _⟩ := hF i hi
          rw [Nat.zero_add, hvr.cell, e1]; rfl
        · obtain ⟨v, e1, e2⟩ := hF i hi
          simp only [e1, Option.getD_some]
          exact e2

end Go.Proofs.Qxb6604003a
