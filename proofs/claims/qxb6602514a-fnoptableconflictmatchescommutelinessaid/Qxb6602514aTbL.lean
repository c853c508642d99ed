import Derived.Test.Qxb6602514aTbN
set_option linter.unusedVariables false
namespace Go.Proofs.Qxb6602514a.Tb
open Go.RowKit

theorem zzNew_any (w : World) (cb n : Nat) (tn : Bool) (S0 S1 : Nat → ByteArray) (hn : n ≤ 256) (hC : CIn w cb n S0 S1) :
    Calls Try.prog 26 #[.slice (some ⟨cb, 0, none⟩) n n, .bool tn] w fun e w' => TabNew w n tn S0 S1 e w' := by
  go_enter Try.func26, Try.ntmps26
  go_wp2_with fail
  refine (newTab_any w cb n tn S0 S1 hn hC).mono ?_
  rintro e w' ⟨LB, EB, rfl, hb, ht⟩
  go_wp2
  go_ret
  exact ⟨LB, EB, rfl, hb, ht⟩

theorem cfl_turn (S0 S1 : Nat → ByteArray) (n a b : Nat) : cfl (swp (kx S0 S1 n true) (ky S0 S1 n true) n) b a = cfl (swp (kx S0 S1 n false) (ky S0 S1 n false) n) a b := by
  have h1 : kx S0 S1 n true = ky S0 S1 n false := by funext i; simp [kx, ky]
  have h2 : ky S0 S1 n true = kx S0 S1 n false := by funext i; simp [kx, ky]
  unfold cfl
  rw [h1, h2, swp_turn, Bool.or_comm]

set_option maxRecDepth 100000 in
set_option maxHeartbeats 4000000 in
theorem law_7 (a0 a1 : Option Addr) (n0 n1 c0 c1 b0 b1 o0 o1 : Nat) (S0 S1 : Nat → ByteArray) (w : World) (m0 : n0 ≤ maxLen) (m1 : n1 ≤ maxLen) (h0 : SIn w a0 n0 c0 b0 o0 S0) (h1 : SIn w a1 n1 c1 b1 o1 S1) :
    Calls Try.prog 7 #[.slice a0 n0 c0, .slice a1 n1 c1] w fun e w' => e = .returned (.bool true) ∧ Below w.heap.size w w' := by
  go_enter Try.func7, Try.ntmps7
  go_wp2_with fail
  refine (bytes7_any a0 a1 n0 n1 c0 c1 b0 b1 o0 o1 S0 S1 w m0 m1 h0 h1).mono ?_
  rintro e w' ⟨⟨r, rfl, hr⟩, rfl⟩
  cases r with
  | false =>
    go_wp2
    go_ret
    exact ⟨rfl, Below.refl _ _⟩
  | true =>
  obtain ⟨l0, l1⟩ := hr rfl
  clear hr
  go_wp2_with fail
  refine (opBytes_any a0 a1 n0 n1 c0 c1 b0 b1 o0 o1 S0 S1 w' h0 h1 l0 l1).mono ?_
  rintro e w ⟨⟨x, rfl, hx⟩, rfl⟩
  by_cases hx1 : x ≤ 1048576
  · go_wp2_with fail
    refine (min_any n0 n1 w).mono ?_
    rintro e w' ⟨rfl, rfl⟩
    obtain ⟨n, hnn⟩ : ∃ n, min n0 n1 = n := ⟨_, rfl⟩
    rw [hnn]
    have q0 : n ≤ n0 := by omega
    have q1 : n ≤ n1 := by omega
    by_cases hn : n ≤ 256
    · go_wp2_with fail
      refine (cloneS_any a0 b0 o0 n0 c0 S0 w' l0 h0).mono ?_
      rintro e w1 ⟨a2, g2, rfl, h2, hb1⟩
      go_wp2_with fail
      refine (cloneS_any a1 b1 o1 n1 c1 S1 w1 l1 (h1.below hb1)).mono ?_
      rintro e w2 ⟨a3, g3, rfl, h3, hb2⟩
      have h2' := h2.below hb2
      go_wp2_with fail
      refine (min_any n0 n1 w2).mono ?_
      rintro e w3 ⟨rfl, rfl⟩
      rw [hnn]
      go_wp2_with fail
      refine (commutes_any a2 a3 n0 n1 n0 n1 g2 g3 0 0 n S0 S1 w3 h2' h3 q0 q1 hn).mono ?_
      rintro e w4 ⟨rfl, hC, hb4⟩
      obtain ⟨cb, hcb⟩ : ∃ cb, w3.heap.size = cb := ⟨_, rfl⟩
      rw [hcb] at hC
      rw [hcb]
      go_wp2_with fail
      refine (zzNew_any w4 cb n false S0 S1 hn hC).mono ?_
      rintro e w5 ⟨L1, E1, rfl, hb5, hT1⟩
      go_wp2_with fail
      refine (zzNew_any w5 cb n true S0 S1 hn (hC.below hb5)).mono ?_
      rintro e w6 ⟨L2, E2, rfl, hb6, hT2⟩
      have hT1 := hT1.below hb6
      have hct := cfl_turn S0 S1 n
      obtain ⟨c, hc⟩ : ∃ c, (kst S0 S1 (2 * n)).2 = c := ⟨_, rfl⟩
      obtain ⟨f, hf⟩ : ∃ f, (kst S0 S1 (2 * n)).1 = f := ⟨_, rfl⟩
      obtain ⟨X, hX⟩ : ∃ X, cfl (swp (kx S0 S1 n false) (ky S0 S1 n false) n) = X := ⟨_, rfl⟩
      obtain ⟨Y, hY⟩ : ∃ Y, cfl (swp (kx S0 S1 n true) (ky S0 S1 n true) n) = Y := ⟨_, rfl⟩
      rw [hc, hf, hX] at hT1
      rw [hc, hf, hY] at hT2
      rw [hX, hY] at hct
      clear hc hf hX hY
      have hct : Hid (∀ a b, Y b a = X a b) := hct
      obtain ⟨T1, hT1e⟩ : ∃ T, w4.heap.size + 1 = T := ⟨_, rfl⟩
      obtain ⟨T2, hT2e⟩ : ∃ T, w5.heap.size + 1 = T := ⟨_, rfl⟩
      obtain ⟨M1, hM1e⟩ : ∃ T, w4.heap.size = T := ⟨_, rfl⟩
      obtain ⟨M2, hM2e⟩ : ∃ T, w5.heap.size = T := ⟨_, rfl⟩
      rw [hT1e] at hT1
      rw [hT2e] at hT2
      rw [hM1e] at hT1
      rw [hM2e] at hT2
      rw [hT1e, hT2e]
      clear hT1e hT2e hM1e hM2e hcb hC
      have h26 := (h2'.below hb4).below (hb5.trans (hb6.mono hb5.size))
      have h36 := (h3.below hb4).below (hb5.trans (hb6.mono hb5.size))
      have hb06 : Below w'.heap.size w' w6 := hb1.trans ((hb2.trans ((hb4.trans ((hb5.trans (hb6.mono hb5.size)).mono hb4.size)).mono hb2.size)).mono hb1.size)
      clear hb1 hb2 hb4 hb5 hb6 h2 h2' h3 h0 h1
      go_wp2_with fail
      refine (count_any w6 T1 M1 L1 E1 c f X hT1).mono ?_
      rintro e w7 ⟨rfl, rfl⟩
      go_wp2_with fail
      refine (count_any w7 T2 M2 L2 E2 c f Y hT2).mono ?_
      rintro e w6 ⟨rfl, rfl⟩
      go_wp2_with fail
      refine (same_any w6 T1 M1 L1 E1 c T2 M2 L2 E2 f X Y rOp (by decide) hT1 hT2).mono ?_
      rintro e w7 ⟨rfl, rfl⟩
      go_wp2
      go_loopw [10] (fun i wr => ∃ k : Nat, k ≤ n ∧ i = .int .i64 k ∧ Below w7.heap.size w7 wr) (fun i _ => n - (intOf i).toNat)
      case atStart => exact ⟨0, Nat.zero_le _, rfl, Below.refl _ _⟩
      case round =>
        obtain ⟨k, hk, rfl, hbr⟩ := hrel
        by_cases hlt : k < n
        · obtain rfl := h26.at' (by omega)
          obtain rfl := h36.at' (by omega)
          have g0 : wr.cell? ⟨g2, k, none⟩ = some (.string (S0 k)) := by simpa using cellOf (h26.cell k (by omega)) hbr
          have g1 : wr.cell? ⟨g3, k, none⟩ = some (.string (S1 k)) := by simpa using cellOf (h36.cell k (by omega)) hbr
          have j0 : (0 : Int) ≤ (k : Int) := by omega
          have j2 : (k : Int) < (n0 : Int) := by omega
          have j3 : (k : Int) < (n1 : Int) := by omega
          go_wp2_with fail
          refine (same_any wr T1 M1 L1 E1 c T2 M2 L2 E2 f X Y (S0 k) (h26.max k (by omega)) (hT1.below hbr) (hT2.below hbr)).mono ?_
          rintro e w8 ⟨rfl, rfl⟩
          go_wp2_with fail
          refine (same_any w8 T1 M1 L1 E1 c T2 M2 L2 E2 f X Y (S1 k) (h36.max k (by omega)) (hT1.below hbr) (hT2.below hbr)).mono ?_
          rintro e w9 ⟨rfl, rfl⟩
          go_wp2
          go_roundw
          case rel => exact ⟨k + 1, by omega, by go_num, hbr⟩
          case measure => simp [intOf]; omega
        · have hTa := hT1.below hbr
          have hTb := hT2.below hbr
          have hbA : Below w'.heap.size w' wr := hb06.trans (hbr.mono hb06.size)
          clear hT1 hT2 hb06
          have hc2 := hTa.lo
          have hc5 := hTa.hi
          obtain ⟨wA, hwA⟩ : ∃ wA : World, wA = wr := ⟨_, rfl⟩
          subst hwA
          go_wp2
          go_loopw [11] (fun i wr => ∃ a : Nat, a ≤ c ∧ i = .int .i64 a ∧ Below wA.heap.size wA wr) (fun i _ => c - (intOf i).toNat)
          case atStart => exact ⟨0, Nat.zero_le _, rfl, Below.refl _ _⟩
          case round =>
            obtain ⟨a, ha, rfl, hbr⟩ := hrel
            by_cases hac : a < c
            · obtain ⟨wB, hwB⟩ : ∃ wB : World, wB = wr := ⟨_, rfl⟩
              subst hwB
              go_wp2
              go_loopw [12] (fun i wr => ∃ b : Nat, b ≤ c ∧ i = .int .i64 b ∧ Below wA.heap.size wA wr) (fun i _ => c - (intOf i).toNat)
              case atStart => exact ⟨0, Nat.zero_le _, rfl, hbr⟩
              case round =>
                obtain ⟨b, hb, rfl, hbr⟩ := hrel
                by_cases hbc : b < c
                · go_wp2_with fail
                  refine (later_any wr T1 M1 L1 E1 c a b f X (hTa.below hbr) hac hbc).mono ?_
                  rintro e wC ⟨rfl, hbC⟩
                  have hb1 : Below wA.heap.size wA wC := hbr.trans (hbC.mono hbr.size)
                  obtain ⟨q, hq⟩ : ∃ q, X a b = q := ⟨_, rfl⟩
                  have hq' : Y b a = q := (hct.out a b).trans hq
                  rw [hq]
                  go_wp2_with fail
                  refine (later_any wC T2 M2 L2 E2 c b a f Y (hTb.below hb1) hbc hac).mono ?_
                  rintro e wD ⟨rfl, hbD⟩
                  rw [hq']
                  have hb2 : Below wA.heap.size wA wD := hb1.trans (hbD.mono hb1.size)
                  have u1 : (q != q) = false := by simp
                  go_wp2_with fail
                  refine (earlier_any wD T1 M1 L1 E1 c b a f X (hTa.below hb2) hbc hac).mono ?_
                  rintro e wE ⟨rfl, hbE⟩
                  rw [hq]
                  have hb3 : Below wA.heap.size wA wE := hb2.trans (hbE.mono hb2.size)
                  go_wp2_with fail
                  refine (earlier_any wE T2 M2 L2 E2 c a b f Y (hTb.below hb3) hac hbc).mono ?_
                  rintro e wF ⟨rfl, hbF⟩
                  rw [hq']
                  have hb4 : Below wA.heap.size wA wF := hb3.trans (hbF.mono hb3.size)
                  go_wp2
                  go_roundw
                  case rel => exact ⟨b + 1, by omega, by go_num, hb4⟩
                  case measure => simp [intOf]; omega
                · go_wp2
                  go_roundw
                  case rel => exact ⟨a + 1, by omega, by go_num, hbr⟩
                  case measure => simp [intOf]; omega
            · go_wp2
              go_ret
              exact ⟨rfl, hbA.trans (hbr.mono hbA.size)⟩
    · go_wp2
      go_ret
      exact ⟨rfl, Below.refl _ _⟩
  · go_wp2
    go_ret
    exact ⟨rfl, Below.refl _ _⟩

end Go.Proofs.Qxb6602514a.Tb
