import Derived.Test.Qxb6602514aTbL
import Derived.Test.Qxb6602514aTbV
set_option linter.unusedVariables false
namespace Go.Proofs.Qxb6602514a.Tb
open Go.RowKit

theorem bytes6_any (a0 a1 : Option Addr) (n0 n1 c0 c1 b0 b1 o0 o1 : Nat) (tn : Bool) (X Y : ByteArray) (S0 S1 : Nat → ByteArray) (w : World) (m0 : n0 ≤ maxLen) (m1 : n1 ≤ maxLen) (m2 : X.size ≤ maxLen) (m3 : Y.size ≤ maxLen) (h0 : SIn w a0 n0 c0 b0 o0 S0) (h1 : SIn w a1 n1 c1 b1 o1 S1) :
    Calls Try.prog 23 #[.slice a0 n0 c0, .slice a1 n1 c1, .bool tn, .string X, .string Y] w fun e w' => RetT (Fits2 n0 n1) e ∧ w' = w := by
  unfold maxLen at m0 m1 m2 m3
  by_cases k0 : n0 ≤ 1048576
  · go_enter Try.func23, Try.ntmps23
    go_wp2
    go_loop [11, 12] (fun s i => ∃ k x : Nat, k ≤ n0 ∧ i = .int .i64 k ∧ s = .int .i64 x ∧ x ≤ 1048576) (fun _ i => n0 - (intOf i).toNat)
    case atStart => exact ⟨0, n0, Nat.zero_le _, rfl, by go_num, by omega⟩
    case round =>
      obtain ⟨k, x, hk, rfl, rfl, hx⟩ := hrel
      by_cases hlt : k < n0
      · obtain rfl := h0.at' (by omega)
        have g1 := h0.cell k hlt
        have hm := h0.max k hlt
        unfold maxLen at hm
        obtain ⟨s, hs⟩ : ∃ s, S0 k = s := ⟨_, rfl⟩
        rw [hs] at g1 hm
        clear hs
        by_cases p2 : s.size ≤ 1048576
        · by_cases p3 : x + s.size ≤ 1048576
          · go_wp2
            go_round
            case rel => exact ⟨k + 1, x + s.size, by omega, by go_num, by go_num, by omega⟩
            case measure => simp [intOf]; omega
          · go_wp2
            go_ret
            exact ⟨RetT.f, rfl⟩
        · go_wp2
          go_ret
          exact ⟨RetT.f, rfl⟩
      · by_cases k1 : n1 ≤ 1048576
        · by_cases p4 : x + n1 ≤ 1048576
          · go_wp2
            go_loop [11, 13] (fun s i => ∃ k x : Nat, k ≤ n1 ∧ i = .int .i64 k ∧ s = .int .i64 x ∧ x ≤ 1048576) (fun _ i => n1 - (intOf i).toNat)
            case atStart => exact ⟨0, x + n1, Nat.zero_le _, rfl, by go_num, by omega⟩
            case round =>
              clear hx p4
              obtain ⟨k, x, hk, rfl, rfl, hx⟩ := hrel
              by_cases hlt : k < n1
              · obtain rfl := h1.at' (by omega)
                have g1 := h1.cell k hlt
                have hm := h1.max k hlt
                unfold maxLen at hm
                obtain ⟨s, hs⟩ : ∃ s, S1 k = s := ⟨_, rfl⟩
                rw [hs] at g1 hm
                clear hs
                by_cases p2 : s.size ≤ 1048576
                · by_cases p3 : x + s.size ≤ 1048576
                  · go_wp2
                    go_round
                    case rel => exact ⟨k + 1, x + s.size, by omega, by go_num, by go_num, by omega⟩
                    case measure => simp [intOf]; omega
                  · go_wp2
                    go_ret
                    exact ⟨RetT.f, rfl⟩
                · go_wp2
                  go_ret
                  exact ⟨RetT.f, rfl⟩
              · by_cases p5 : X.size ≤ 1048576
                · by_cases p6 : x + X.size ≤ 1048576
                  · by_cases p7 : Y.size ≤ 1048576
                    · by_cases p8 : x + X.size + Y.size ≤ 1048576
                      · go_wp2
                        go_ret
                        exact ⟨RetT.t ⟨k0, k1⟩, rfl⟩
                      · go_wp2
                        go_ret
                        exact ⟨RetT.f, rfl⟩
                    · go_wp2
                      go_ret
                      exact ⟨RetT.f, rfl⟩
                  · go_wp2
                    go_ret
                    exact ⟨RetT.f, rfl⟩
                · go_wp2
                  go_ret
                  exact ⟨RetT.f, rfl⟩
          · go_wp2
            go_ret
            exact ⟨RetT.f, rfl⟩
        · go_wp2
          go_ret
          exact ⟨RetT.f, rfl⟩
  · go_enter Try.func23, Try.ntmps23
    go_wp2
    go_ret
    exact ⟨RetT.f, rfl⟩

theorem kindOf_any (w : World) (T mb LB EB c : Nat) (f : ByteArray → Option Int) (cf : Nat → Nat → Bool) (s : ByteArray) (hs : s.size ≤ maxLen) (h : Tab w T mb LB EB c f cf) :
    Calls Try.prog 30 #[.pointer (some ⟨T, 0, none⟩), .string s] w fun e w' => e = .returned (.int .i64 (kOf f s : Nat)) ∧ w' = w := by
  have hr : ∀ k, f s = some k → 0 ≤ k := fun k hk => (h.rng s k hk).1
  go_enter Try.func30, Try.ntmps30
  go_wp2_with fail
  refine (kind_any w T mb LB EB c f cf s hs h).mono ?_
  rintro e w' ⟨rfl, rfl⟩
  cases hf : f s with
  | none =>
    simp only [Option.getD_none, Option.isSome_none]
    go_wp2
    go_ret
    simp [kOf, hf]
  | some v =>
    have := hr v hf
    simp only [Option.getD_some, Option.isSome_some]
    go_wp2
    go_ret
    simp [kOf, hf]
    omega

/-- The call answered whether P. -/
def RetP (P : Prop) (e : Ending) : Prop := ∃ r : Bool, e = .returned (.bool r) ∧ (r = true ↔ P)

theorem tl_iff (X Y : ByteArray) : X.toList = Y.toList ↔ X = Y := by
  rw [Go.ByteArray.toList_eq, Go.ByteArray.toList_eq]
  constructor
  · intro h; exact ByteArray.ext (Array.toList_inj.1 h)
  · rintro rfl; rfl

theorem tl_r (X : ByteArray) : X.toList = [114] ↔ X = rOp := by
  have h : rOp.toList = [114] := by rw [Go.ByteArray.toList_eq]; rfl
  rw [← h, tl_iff]

theorem ext_no {P : Nat → Prop} {k : Nat} (h : Hid (∀ i, i < k → ¬P i)) (hk : ¬P k) : Hid (∀ i, i < k + 1 → ¬P i) := fun i hi => by
  by_cases e : i = k
  · subst e; exact hk
  · exact h.out i (by omega)

theorem wordC_any (a0 a1 : Option Addr) (n0 n1 c0 c1 b0 b1 o0 o1 n : Nat) (tn : Bool) (X Y : ByteArray) (S0 S1 : Nat → ByteArray) (w : World) (h0 : SIn w a0 n0 c0 b0 o0 S0) (h1 : SIn w a1 n1 c1 b1 o1 S1) (k0 : n ≤ n0) (k1 : n ≤ n1) (hn : n ≤ 256) :
    Calls Try.prog 28 #[.slice a0 n0 c0, .slice a1 n1 c1, .int .i64 n, .bool tn, .string X, .string Y] w fun e w' => RetP (WordC S0 S1 n tn X Y) e ∧ w' = w := by
  cases tn with
  | false =>
    by_cases p0 : X.toList = [114]
    · by_cases p1 : Y.toList = [114]
      · go_enter Try.func28, Try.ntmps28
        go_wp2
        go_ret
        exact ⟨⟨false, rfl, by simp [WordC, (tl_r X).1 p0, (tl_r Y).1 p1]⟩, rfl⟩
      · have p1' : (Y.toList == [114]) = false := by simpa using p1
        go_enter Try.func28, Try.ntmps28
        go_wp2
        go_loop [13, 14, 15] (fun i _ _ => ∃ k : Nat, k ≤ n ∧ i = .int .i64 k ∧ Hid (∀ i, i < k → ¬(S0 i = X ∧ S1 i = Y))) (fun i _ _ => n - (intOf i).toNat)
        case atStart => exact ⟨0, Nat.zero_le _, rfl, fun i hi => by omega⟩
        case round =>
          clear p0
          obtain ⟨k, hk, rfl, hno⟩ := hrel
          by_cases hlt : k < n
          · obtain rfl := h0.at' (by omega)
            obtain rfl := h1.at' (by omega)
            have g0 := h0.cell k (by omega)
            have g1 := h1.cell k (by omega)
            by_cases q0 : X.toList = (S0 k).toList
            · by_cases q1 : Y.toList = (S1 k).toList
              · go_wp2
                go_ret
                refine ⟨⟨false, rfl, ?_⟩, rfl⟩
                constructor
                · intro h; cases h
                · intro h
                  exact absurd (And.intro ((tl_iff _ _).1 q0).symm ((tl_iff _ _).1 q1).symm) (h.2 k hlt)
              · have q1' : (Y.toList == (S1 k).toList) = false := by simpa using q1
                go_wp2
                go_round
                case rel => exact ⟨k + 1, by omega, by go_num, ext_no hno fun h => q1 (by rw [h.2])⟩
                case measure => simp [intOf]; omega
            · have q0' : (X.toList == (S0 k).toList) = false := by simpa using q0
              go_wp2
              go_round
              case rel => exact ⟨k + 1, by omega, by go_num, ext_no hno fun h => q0 (by rw [h.1])⟩
              case measure => simp [intOf]; omega
          · go_wp2
            go_ret
            have : k = n := by omega
            subst this
            refine ⟨⟨true, rfl, ?_⟩, rfl⟩
            simp only [true_iff]
            exact ⟨fun h => p1 ((tl_r _).2 h.2), fun i hi => by simpa using hno.out i hi⟩
    · have p0' : (X.toList == [114]) = false := by simpa using p0
      go_enter Try.func28, Try.ntmps28
      go_wp2
      go_loop [13, 14, 15] (fun i _ _ => ∃ k : Nat, k ≤ n ∧ i = .int .i64 k ∧ Hid (∀ i, i < k → ¬(S0 i = X ∧ S1 i = Y))) (fun i _ _ => n - (intOf i).toNat)
      case atStart => exact ⟨0, Nat.zero_le _, rfl, fun i hi => by omega⟩
      case round =>
        obtain ⟨k, hk, rfl, hno⟩ := hrel
        by_cases hlt : k < n
        · obtain rfl := h0.at' (by omega)
          obtain rfl := h1.at' (by omega)
          have g0 := h0.cell k (by omega)
          have g1 := h1.cell k (by omega)
          by_cases q0 : X.toList = (S0 k).toList
          · by_cases q1 : Y.toList = (S1 k).toList
            · go_wp2
              go_ret
              refine ⟨⟨false, rfl, ?_⟩, rfl⟩
              constructor
              · intro h; cases h
              · intro h
                exact absurd (And.intro ((tl_iff _ _).1 q0).symm ((tl_iff _ _).1 q1).symm) (h.2 k hlt)
            · have q1' : (Y.toList == (S1 k).toList) = false := by simpa using q1
              go_wp2
              go_round
              case rel => exact ⟨k + 1, by omega, by go_num, ext_no hno fun h => q1 (by rw [h.2])⟩
              case measure => simp [intOf]; omega
          · have q0' : (X.toList == (S0 k).toList) = false := by simpa using q0
            go_wp2
            go_round
            case rel => exact ⟨k + 1, by omega, by go_num, ext_no hno fun h => q0 (by rw [h.1])⟩
            case measure => simp [intOf]; omega
        · go_wp2
          go_ret
          have : k = n := by omega
          subst this
          refine ⟨⟨true, rfl, ?_⟩, rfl⟩
          simp only [true_iff]
          exact ⟨fun h => p0 ((tl_r _).2 h.1), fun i hi => by simpa using hno.out i hi⟩
  | true =>
    by_cases p0 : X.toList = [114]
    · by_cases p1 : Y.toList = [114]
      · go_enter Try.func28, Try.ntmps28
        go_wp2
        go_ret
        exact ⟨⟨false, rfl, by simp [WordC, (tl_r X).1 p0, (tl_r Y).1 p1]⟩, rfl⟩
      · have p1' : (Y.toList == [114]) = false := by simpa using p1
        go_enter Try.func28, Try.ntmps28
        go_wp2
        go_loop [13, 14, 15] (fun i _ _ => ∃ k : Nat, k ≤ n ∧ i = .int .i64 k ∧ Hid (∀ i, i < k → ¬(S1 i = X ∧ S0 i = Y))) (fun i _ _ => n - (intOf i).toNat)
        case atStart => exact ⟨0, Nat.zero_le _, rfl, fun i hi => by omega⟩
        case round =>
          clear p0
          obtain ⟨k, hk, rfl, hno⟩ := hrel
          by_cases hlt : k < n
          · obtain rfl := h0.at' (by omega)
            obtain rfl := h1.at' (by omega)
            have g0 := h0.cell k (by omega)
            have g1 := h1.cell k (by omega)
            by_cases q0 : X.toList = (S1 k).toList
            · by_cases q1 : Y.toList = (S0 k).toList
              · go_wp2
                go_ret
                refine ⟨⟨false, rfl, ?_⟩, rfl⟩
                constructor
                · intro h; cases h
                · intro h
                  exact absurd (And.intro ((tl_iff _ _).1 q0).symm ((tl_iff _ _).1 q1).symm) (h.2 k hlt)
              · have q1' : (Y.toList == (S0 k).toList) = false := by simpa using q1
                go_wp2
                go_round
                case rel => exact ⟨k + 1, by omega, by go_num, ext_no hno fun h => q1 (by rw [h.2])⟩
                case measure => simp [intOf]; omega
            · have q0' : (X.toList == (S1 k).toList) = false := by simpa using q0
              go_wp2
              go_round
              case rel => exact ⟨k + 1, by omega, by go_num, ext_no hno fun h => q0 (by rw [h.1])⟩
              case measure => simp [intOf]; omega
          · go_wp2
            go_ret
            have : k = n := by omega
            subst this
            refine ⟨⟨true, rfl, ?_⟩, rfl⟩
            simp only [true_iff]
            exact ⟨fun h => p1 ((tl_r _).2 h.2), fun i hi => by simpa using hno.out i hi⟩
    · have p0' : (X.toList == [114]) = false := by simpa using p0
      go_enter Try.func28, Try.ntmps28
      go_wp2
      go_loop [13, 14, 15] (fun i _ _ => ∃ k : Nat, k ≤ n ∧ i = .int .i64 k ∧ Hid (∀ i, i < k → ¬(S1 i = X ∧ S0 i = Y))) (fun i _ _ => n - (intOf i).toNat)
      case atStart => exact ⟨0, Nat.zero_le _, rfl, fun i hi => by omega⟩
      case round =>
        obtain ⟨k, hk, rfl, hno⟩ := hrel
        by_cases hlt : k < n
        · obtain rfl := h0.at' (by omega)
          obtain rfl := h1.at' (by omega)
          have g0 := h0.cell k (by omega)
          have g1 := h1.cell k (by omega)
          by_cases q0 : X.toList = (S1 k).toList
          · by_cases q1 : Y.toList = (S0 k).toList
            · go_wp2
              go_ret
              refine ⟨⟨false, rfl, ?_⟩, rfl⟩
              constructor
              · intro h; cases h
              · intro h
                exact absurd (And.intro ((tl_iff _ _).1 q0).symm ((tl_iff _ _).1 q1).symm) (h.2 k hlt)
            · have q1' : (Y.toList == (S0 k).toList) = false := by simpa using q1
              go_wp2
              go_round
              case rel => exact ⟨k + 1, by omega, by go_num, ext_no hno fun h => q1 (by rw [h.2])⟩
              case measure => simp [intOf]; omega
          · have q0' : (X.toList == (S1 k).toList) = false := by simpa using q0
            go_wp2
            go_round
            case rel => exact ⟨k + 1, by omega, by go_num, ext_no hno fun h => q0 (by rw [h.1])⟩
            case measure => simp [intOf]; omega
        · go_wp2
          go_ret
          have : k = n := by omega
          subst this
          refine ⟨⟨true, rfl, ?_⟩, rfl⟩
          simp only [true_iff]
          exact ⟨fun h => p0 ((tl_r _).2 h.1), fun i hi => by simpa using hno.out i hi⟩

end Go.Proofs.Qxb6602514a.Tb
