import Derived.Test.Qxb6602514aTbW
set_option linter.unusedVariables false
namespace Go.Proofs.Qxb6602514a.Tb
open Go.RowKit

set_option maxRecDepth 100000 in
set_option maxHeartbeats 4000000 in
theorem law_6 (a0 a1 : Option Addr) (n0 n1 c0 c1 b0 b1 o0 o1 : Nat) (tn : Bool) (x y : ByteArray) (S0 S1 : Nat → ByteArray) (w : World) (m0 : n0 ≤ maxLen) (m1 : n1 ≤ maxLen) (m2 : x.size ≤ maxLen) (m3 : y.size ≤ maxLen) (h0 : SIn w a0 n0 c0 b0 o0 S0) (h1 : SIn w a1 n1 c1 b1 o1 S1) :
    Calls Try.prog 6 #[.slice a0 n0 c0, .slice a1 n1 c1, .bool tn, .string x, .string y] w fun e w' => e = .returned (.bool true) ∧ Below w.heap.size w w' := by
  have m2' := m2
  have m3' := m3
  unfold maxLen at m2' m3'
  go_enter Try.func6, Try.ntmps6
  go_wp2_with fail
  refine (bytes6_any a0 a1 n0 n1 c0 c1 b0 b1 o0 o1 tn x y S0 S1 w m0 m1 m2 m3 h0 h1).mono ?_
  rintro e w' ⟨⟨r, rfl, hr⟩, rfl⟩
  cases r with
  | false =>
    go_wp2
    go_ret
    exact ⟨rfl, Below.refl _ _⟩
  | true =>
  obtain ⟨l0, l1⟩ := hr rfl
  clear hr
  by_cases s0 : x.size ≤ 65536
  · by_cases s1 : y.size ≤ 65536
    · go_wp2_with fail
      refine (opBytes_any a0 a1 n0 n1 c0 c1 b0 b1 o0 o1 S0 S1 w' h0 h1 l0 l1).mono ?_
      rintro e w ⟨⟨z, rfl, hz⟩, rfl⟩
      by_cases hz1 : (z : Int) ≤ 1048576 - (x.size : Int) - (y.size : Int)
      · go_wp2_with fail
        refine (min_any n0 n1 w).mono ?_
        rintro e w' ⟨rfl, rfl⟩
        obtain ⟨n, hnn⟩ : ∃ n, min n0 n1 = n := ⟨_, rfl⟩
        rw [hnn]
        have q0 : n ≤ n0 := by omega
        have q1 : n ≤ n1 := by omega
        by_cases hn : n ≤ 256
        · go_wp2_with fail
          refine (cloneS_any a0 b0 o0 n0 c0 S0 w' l0 h0).mono ?_
          rintro e w1 ⟨a2, g2, rfl, h2, hb1⟩
          go_wp2_with fail
          refine (cloneS_any a1 b1 o1 n1 c1 S1 w1 l1 (h1.below hb1)).mono ?_
          rintro e w2 ⟨a3, g3, rfl, h3, hb2⟩
          have h2' := h2.below hb2
          go_wp2_with fail
          refine (min_any n0 n1 w2).mono ?_
          rintro e w3 ⟨rfl, rfl⟩
          rw [hnn]
          go_wp2_with fail
          refine (commutes_any a2 a3 n0 n1 n0 n1 g2 g3 0 0 n S0 S1 w3 h2' h3 q0 q1 hn).mono ?_
          rintro e w4 ⟨rfl, hC, hb4⟩
          obtain ⟨cb, hcb⟩ : ∃ cb, w3.heap.size = cb := ⟨_, rfl⟩
          rw [hcb] at hC
          rw [hcb]
          go_wp2_with fail
          refine (zzNew_any w4 cb n tn S0 S1 hn hC).mono ?_
          rintro e w5 ⟨L1, E1, rfl, hb5, hT1⟩
          have hpl := conf_plain S0 S1 n tn x y
          have hk1 := kOf_lt (kst_inv S0 S1 (2 * n)) x
          have hk2 := kOf_lt (kst_inv S0 S1 (2 * n)) y
          obtain ⟨c, hc⟩ : ∃ c, (kst S0 S1 (2 * n)).2 = c := ⟨_, rfl⟩
          obtain ⟨f, hf⟩ : ∃ f, (kst S0 S1 (2 * n)).1 = f := ⟨_, rfl⟩
          obtain ⟨X, hX⟩ : ∃ X, cfl (swp (kx S0 S1 n tn) (ky S0 S1 n tn) n) = X := ⟨_, rfl⟩
          rw [hc, hf, hX] at hT1
          rw [hc, hf] at hk1 hk2
          rw [hf, hX] at hpl
          clear hc hf hX
          obtain ⟨T1, hT1e⟩ : ∃ T, w4.heap.size + 1 = T := ⟨_, rfl⟩
          obtain ⟨M1, hM1e⟩ : ∃ T, w4.heap.size = T := ⟨_, rfl⟩
          rw [hT1e, hM1e] at hT1
          rw [hT1e]
          clear hT1e hM1e hcb hC
          have h25 := (h2'.below hb4).below hb5
          have h35 := (h3.below hb4).below hb5
          have hb05 : Below w'.heap.size w' w5 := hb1.trans ((hb2.trans ((hb4.trans (hb5.mono hb4.size)).mono hb2.size)).mono hb1.size)
          clear hb1 hb2 hb4 hb5 h2 h2' h3 h0 h1
          go_wp2_with fail
          refine (wordC_any a2 a3 n0 n1 n0 n1 g2 g3 0 0 n tn x y S0 S1 w5 h25 h35 q0 q1 hn).mono ?_
          rintro e w6 ⟨⟨r, rfl, hr⟩, rfl⟩
          have hHr : Hid (X (kOf f x) (kOf f y) = r) := by
            have : X (kOf f x) (kOf f y) = true ↔ r = true := hpl.trans hr.symm
            show X (kOf f x) (kOf f y) = r
            cases r <;> simp_all
          clear hpl hr
          go_wp2_with fail
          refine (count_any w6 T1 M1 L1 E1 c f X hT1).mono ?_
          rintro e w5 ⟨rfl, rfl⟩
          go_wp2_with fail
          refine (kindOf_any w5 T1 M1 L1 E1 c f X x m2 hT1).mono ?_
          rintro e w6 ⟨rfl, rfl⟩
          go_wp2_with fail
          refine (kindOf_any w6 T1 M1 L1 E1 c f X y m3 hT1).mono ?_
          rintro e w5 ⟨rfl, rfl⟩
          obtain ⟨a, ha⟩ : ∃ a, kOf f x = a := ⟨_, rfl⟩
          obtain ⟨b, hb⟩ : ∃ b, kOf f y = b := ⟨_, rfl⟩
          rw [ha, hb] at hHr
          rw [ha] at hk1
          rw [hb] at hk2
          rw [ha, hb]
          clear ha hb
          have hlo := hT1.lo
          have hhi := hT1.hi
          go_wp2_with fail
          refine (later_any w5 T1 M1 L1 E1 c a b f X hT1 hk1 hk2).mono ?_
          rintro e wC ⟨rfl, hbC⟩
          rw [hHr.out]
          have u1 : (r != r) = false := by simp
          go_wp2_with fail
          refine (earlier_any wC T1 M1 L1 E1 c b a f X (hT1.below hbC) hk2 hk1).mono ?_
          rintro e wD ⟨rfl, hbD⟩
          rw [hHr.out]
          go_wp2
          go_ret
          exact ⟨by simp, hb05.trans ((hbC.trans (hbD.mono hbC.size)).mono hb05.size)⟩
        · go_wp2
          go_ret
          exact ⟨rfl, Below.refl _ _⟩
      · go_wp2
        go_ret
        exact ⟨rfl, Below.refl _ _⟩
    · go_wp2
      go_ret
      exact ⟨rfl, Below.refl _ _⟩
  · go_wp2
    go_ret
    exact ⟨rfl, Below.refl _ _⟩

end Go.Proofs.Qxb6602514a.Tb
