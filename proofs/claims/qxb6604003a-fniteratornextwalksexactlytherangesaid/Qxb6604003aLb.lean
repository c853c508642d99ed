import Derived.Test.Qxb6604003aLc
set_option linter.unusedVariables false
namespace Go.Proofs.Qxb6604003a
open Go.RowKit
open Go.Proofs.Qxb6604003a.Lb (endOf ev_of endOf_congr TW sameList_any)

set_option maxRecDepth 100000 in
set_option maxHeartbeats 8000000 in
theorem law_5 (a0 a1 al ae : Option Addr) (n0 n1 c0 c1 cl ce b0 b1 bl be o0 o1 ol oe : Nat) (K0 V0 : Nat → Value) (kb vb : Nat → List UInt8) (lo es : List UInt8) (w : World) (m0 : n0 ≤ 9223372036854775807) (m1 : n1 ≤ 9223372036854775807)
    (h0 : KIn w a0 n0 c0 b0 o0 K0 kb) (h1 : KIn w a1 n1 c1 b1 o1 V0 vb) (hl : Bs w al cl bl ol lo) (he : Bs w ae ce be oe es) :
    Calls Try.prog 5 #[.slice a0 n0 c0, .slice a1 n1 c1, .slice al lo.length cl, .slice ae es.length ce] w fun e w' => e = .returned (.bool true) ∧ Below w.heap.size w w' := by
  have hl63 := hl.max
  have he63 := he.max
  unfold maxLen at hl63 he63
  obtain ⟨ll, hll⟩ : ∃ x, lo.length = x := ⟨_, rfl⟩
  obtain ⟨el, hel⟩ : ∃ x, es.length = x := ⟨_, rfl⟩
  have HLEN : Hid (lo.length = ll ∧ es.length = el) := ⟨hll, hel⟩
  rw [hll] at hl63
  rw [hel] at he63
  rw [hll, hel]
  clear hll hel
  go_enter Try.func5, Try.ntmps5
  go_wp2_with fail
  refine (bytes24_any a0 a1 n0 n1 c0 c1 b0 b1 o0 o1 K0 V0 kb vb al ll cl ae el ce w m0 m1 (by omega) (by omega) h0 h1).mono ?_
  rintro e w' ⟨⟨r, rfl⟩, rfl⟩
  cases r with
  | false =>
    go_wp2
    go_ret
    exact ⟨rfl, Below.refl _ _⟩
  | true =>
  by_cases k0 : n0 ≤ 65536
  case neg =>
    go_wp2
    go_ret
    exact ⟨rfl, Below.refl _ _⟩
  by_cases k1 : n1 ≤ 65536
  case neg =>
    go_wp2
    go_ret
    exact ⟨rfl, Below.refl _ _⟩
  by_cases k2 : ll ≤ 1048576
  case neg =>
    go_wp2
    go_ret
    exact ⟨rfl, Below.refl _ _⟩
  by_cases k4 : el ≤ 1048576
  case neg =>
    go_wp2
    go_ret
    exact ⟨rfl, Below.refl _ _⟩
  have hwi := within_any a0 a1 n0 n1 c0 c1 b0 b1 o0 o1 (ll + el) K0 V0 kb vb w' k0 k1 (by omega) h0 h1
  rw [show ((ll + el : Nat) : Int) = (ll : Int) + el by omega] at hwi
  go_wp2_with fail
  refine hwi.mono ?_
  rintro e w ⟨⟨r, rfl, hr⟩, rfl⟩
  cases r with
  | false =>
    go_wp2
    go_ret
    exact ⟨rfl, Below.refl _ _⟩
  | true =>
  obtain ⟨hsz, hkl, hvl⟩ := hr rfl
  have HKL : Hid ((∀ i, i < n0 → (kb i).length ≤ 1048576) ∧ ∀ i, i < n1 → (vb i).length ≤ 1048576) := ⟨hkl, hvl⟩
  clear hr hwi hkl hvl
  by_cases hnn : n1 = n0
  case neg =>
    have hnn2 : ¬((n1 : Int) = (n0 : Int)) := by omega
    have hnn3 : ((n1 : Int) != (n0 : Int)) = true := by simpa using hnn2
    go_wp2
    go_ret
    exact ⟨rfl, Below.refl _ _⟩
  subst hnn
  go_wp2_with fail
  refine (asc_any a0 n1 c0 b0 o0 K0 kb w k0 HKL.out.1 h0).mono ?_
  rintro e wP ⟨⟨r, rfl, hr⟩, hbc⟩
  cases r with
  | false =>
    go_wp2
    go_ret
    exact ⟨rfl, hbc⟩
  | true =>
  have HASC : Hid (AscB kb n1) := (hr rfl).asc
  clear hr
  have h0 := h0.below hbc
  have h1 := h1.below hbc
  have hl := hl.below hbc
  have he := he.below hbc
  go_wp2_with fail
  refine (cloneAll_any a0 n1 c0 b0 o0 K0 kb wP k0 HKL.out.1 h0).mono ?_
  rintro e w1 ⟨a2, g2, K1, rfl, h2, hb1⟩
  go_wp2_with fail
  refine (cloneAll_any a1 n1 c1 b1 o1 V0 vb w1 k0 HKL.out.2 (h1.below hb1)).mono ?_
  rintro e w2 ⟨a3, g3, V1, rfl, h3, hb2⟩
  have hb02 := hb1.trans (hb2.mono hb1.size)
  have hcl := cloneB_any al cl bl ol lo w2 (by rw [HLEN.out.1]; exact k2) (hl.below hb02)
  rw [HLEN.out.1] at hcl
  go_wp2_with fail
  refine hcl.mono ?_
  rintro e w3 ⟨al', gl, rfl, hl3, hb3, -⟩
  rw [HLEN.out.1]
  clear hcl
  have hb03 := hb02.trans (hb3.mono hb02.size)
  have hce := cloneB_any ae ce be oe es w3 (by rw [HLEN.out.2]; exact k4) (he.below hb03)
  rw [HLEN.out.2] at hce
  go_wp2_with fail
  refine hce.mono ?_
  rintro e w4 ⟨ae', ge, rfl, he4, hb4, hei⟩
  rw [HLEN.out.2]
  clear hce
  have hb04 := hb03.trans (hb4.mono hb03.size)
  have h24 : KIn w4 a2 n1 n1 g2 0 K1 kb := ((h2.below hb2).below hb3).below hb4
  have h34 : KIn w4 a3 n1 n1 g3 0 V1 vb := (h3.below hb3).below hb4
  have hl4 : Bs w4 al' lo.length gl 0 lo := hl3.below hb4
  clear h2 h3 hl3 hb1 hb2 hb3 hb4 hb02 hb03 h0 h1 hl he hei
  go_wp2_with fail
  refine (cloneAll_any a2 n1 n1 g2 0 K1 kb w4 k0 HKL.out.1 h24).mono ?_
  rintro e w5 ⟨a4, g4, K, rfl, h4, hb5⟩
  go_wp2_with fail
  refine (cloneAll_any a3 n1 n1 g3 0 V1 vb w5 k0 HKL.out.2 (h34.below hb5)).mono ?_
  rintro e w6 ⟨a5, g5, V, rfl, h5, hb6⟩
  have hb46 := hb5.trans (hb6.mono hb5.size)
  have hbld := build_any a4 a5 n1 n1 g4 0 n1 g5 0 K V kb vb w6 (h4.below hb6) h5 (by omega) HKL.out.1 (asc_pos HASC.out)
  go_wp2_with fail
  refine hbld.mono ?_
  rintro e w7 ⟨d, h, low, rfl, hT, hR⟩
  obtain ⟨B, hB⟩ : ∃ B, w6.heap.size + 2 = B := ⟨_, rfl⟩
  rw [hB] at hT
  rw [hB]
  clear hbld hB
  have hb7 : Below w6.heap.size w6 w7 := hT.bel
  have hb47 := hb46.trans (hb7.mono hb46.size)
  have hb07 := hb04.trans (hb47.mono hb04.size)
  have h27 := h24.below hb47
  have h37 := h34.below hb47
  have hl7 := hl4.below hb47
  have he7 := he4.below hb47
  have h47 := (h4.below hb6).below hb7
  have h57 := h5.below hb7
  have hn3 : n1 ≤ 30000 := by omega
  have hev := ev_of he7
  have hwk := walkR_any K V kb w6 w7 w6.heap.size w7.heap.size B h n1 d low al' ae' lo.length gl 0 es.length es.length lo (endOf ae' es) rfl hT hR hn3 h47.bv (fun i hi => by obtain ⟨a, c, _, _, e, _⟩ := h57.bv i hi; exact ⟨a, _, c, e⟩) HKL.out.1 HASC.out hl7 (by rw [HLEN.out.1]; exact k2) hev
  rw [HLEN.out.1, HLEN.out.2] at hwk
  go_wp2_with fail
  refine hwk.mono ?_
  rintro e w9 ⟨p, q, kv, vv, rfl, lp, hp, ok, ov, hb9⟩
  clear hwk hT hR hev
  have hb09 := (hbc.trans (hb07.mono hbc.size)).trans (hb9.mono (hbc.trans (hb07.mono hbc.size)).size)
  obtain ⟨oa1, ca1, rfl, hk1⟩ := own_cell ok
  obtain ⟨oa2, ca2, rfl, hv1⟩ := own_cell ov
  have HG : Hid ((0 < q - p → ∃ g, oa1 = some ⟨g, 0, none⟩ ∧ ∀ i, i < q - p → w9.cell? ⟨g, i, none⟩ = some (K (p + i))) ∧ (0 < q - p → ∃ g, oa2 = some ⟨g, 0, none⟩ ∧ ∀ i, i < q - p → w9.cell? ⟨g, i, none⟩ = some (V (p + i)))) := ⟨hk1, hv1⟩
  have h29 := h27.below hb9
  have h39 := h37.below hb9
  have hl9 := hl7.below hb9
  have he9 := he7.below hb9
  have HBV : Hid ((∀ i, i < n1 → BV w9 (K i) (kb i)) ∧ ∀ i, i < n1 → BV w9 (V i) (vb i)) := ⟨fun i hi => (h47.bv i hi).below hb9, fun i hi => (h57.bv i hi).below hb9⟩
  have HP : Hid (LoP kb n1 lo p ∧ HiP kb n1 (endOf ae' es) p q) := ⟨lp, hp⟩
  have hpq := hp.1
  have hqn := hp.2.1
  have hn39 := fun (wx : World) (a : Option Addr) (n c : Nat) => run_neq_slice_nil_any (P := Try.prog) wx 39 5 a n c 0 0 Try.underlying39
  clear lp hp ok ov hk1 hv1 h27 h37 hl7 he7 h47 h57 hb9 hb07 hb47 h24 h34 hl4 he4 h4 h5 hb5 hb6 hb46 hb7 hb04
  have HC1 : Hid (∀ wx : World, Below w9.heap.size w9 wx → ∀ i, i < n1 → ∃ a c, K1 i = .slice a (kb i).length c ∧ (Calls Try.prog 27 #[.slice a (kb i).length c, .slice al' ll ll] wx fun e w' => e = .returned (.int .i64 (cmpB (kb i) lo)) ∧ Below wx.heap.size wx w') ∧ Calls Try.prog 27 #[.slice a (kb i).length c, .slice ae' el el] wx fun e w' => e = .returned (.int .i64 (cmpB (kb i) es)) ∧ Below wx.heap.size wx w') := fun wx hb i hi => by
    obtain ⟨a, c, b, off, hKe, hKs⟩ := h29.bv i hi
    have e1 := HLEN.out
    refine ⟨a, c, hKe, ?_, ?_⟩
    · rw [← e1.1]
      exact cmp_any wx a al' c b off lo.length gl 0 (kb i) lo (hKs.below hb) (hl9.below hb) (HKL.out.1 i hi) (by omega)
    · rw [← e1.2]
      exact cmp_any wx a ae' c b off es.length ge 0 (kb i) es (hKs.below hb) (he9.below hb) (HKL.out.1 i hi) (by omega)
  have htw : TW w9 w9 w9.heap.size (.slice none 0 0) (.slice none 0 0) (sub K1 p (Lb.cnt p q 0)) (sub V1 p (Lb.cnt p q 0)) := by
    have e0 : Lb.cnt p q 0 = 0 := by unfold Lb.cnt; omega
    rw [e0]
    exact ⟨Below.refl _ _, World.ownsRow_nil _ _ _ _, World.ownsRow_nil _ _ _ _, fun g hg => by simp [Value.ownBlock] at hg⟩
  go_wp2
  go_loopw [13, 14, 15] (fun kv vv i wr => ∃ k : Nat, k ≤ n1 ∧ i = .int .i64 k ∧ TW w9 wr w9.heap.size kv vv (sub K1 p (Lb.cnt p q k)) (sub V1 p (Lb.cnt p q k))) (fun _ _ i _ => n1 - (intOf i).toNat)
  case atStart => exact ⟨0, Nat.zero_le _, rfl, htw⟩
  case round =>
    clear htw
    obtain ⟨k, hk, rfl, hW⟩ := hrel
    by_cases hkn : k < n1
    · obtain rfl := h29.at' (by omega)
      obtain rfl := h39.at' (by omega)
      obtain ⟨ka, kc, hKe, hc1, hc2⟩ := HC1.out wr hW.bel k hkn
      have g0 := cellOf (h29.cell k hkn) hW.bel
      have g1 := cellOf (h39.cell k hkn) hW.bel
      obtain ⟨va, vc, _, _, hVe, _⟩ := h39.bv k hkn
      rw [hKe] at g0
      rw [hVe] at g1
      have HKV : Hid (K1 k = .slice ka (kb k).length kc ∧ V1 k = .slice va (vb k).length vc) := ⟨hKe, hVe⟩
      obtain ⟨m1, hm1⟩ : ∃ m, cmpB (kb k) lo = m := ⟨_, rfl⟩
      obtain ⟨m2, hm2⟩ : ∃ m, cmpB (kb k) es = m := ⟨_, rfl⟩
      rw [hm1] at hc1
      have HM : Hid (cmpB (kb k) lo = m1 ∧ cmpB (kb k) es = m2) := ⟨hm1, hm2⟩
      obtain ⟨kl, hkl⟩ : ∃ kl, (kb k).length = kl := ⟨_, rfl⟩
      obtain ⟨vl, hvl⟩ : ∃ vl, (vb k).length = vl := ⟨_, rfl⟩
      rw [hkl] at g0 hc1 hc2 HKV
      rw [hvl] at g1 HKV
      have HC2 : Hid (∀ wx : World, Below w9.heap.size w9 wx → (Calls Try.prog 27 #[.slice ka kl kc, .slice ae' el el] wx fun e w' => e = .returned (.int .i64 m2) ∧ Below wx.heap.size wx w') ∧ wx.cell? ⟨g2, 0 + k, none⟩ = some (.slice ka kl kc) ∧ wx.cell? ⟨g3, 0 + k, none⟩ = some (.slice va vl vc)) := fun wx hb => by
        obtain ⟨ka', kc', hKe', _, hc2'⟩ := HC1.out wx hb k hkn
        have e1 := hKe.symm.trans hKe'
        injection e1 with e1 e2 e3
        subst e1
        subst e3
        rw [hkl, hm2] at hc2'
        refine ⟨hc2', ?_, ?_⟩
        · have := cellOf (h29.cell k hkn) hb
          rw [hKe, hkl] at this
          exact this
        · have := cellOf (h39.cell k hkn) hb
          rw [hVe, hvl] at this
          exact this
      have hck : k < n1 := hkn
      clear hKe hVe hm1 hm2 hkl hvl hc2
      rw [Nat.zero_add] at g0 g1
      go_wp2_with fail
      refine hc1.mono ?_
      rintro e wA ⟨rfl, hbA⟩
      have hWA := hW.below rfl hbA
      clear hc1 g0 g1
      have hlp := HP.out
      by_cases hlt : m1 < 0
      · have hkp : k < p := by
          rcases Nat.lt_or_ge k p with h1 | h1
          · exact h1
          · exact absurd (show cmpB (kb k) lo < 0 by rw [HM.out.1]; exact hlt) (hlp.1.2.2 k h1 hkn)
        have ec : Lb.cnt p q (k + 1) = Lb.cnt p q k := by unfold Lb.cnt; omega
        have EC : Hid (Lb.cnt p q (k + 1) = Lb.cnt p q k) := ec
        clear ec hlp
        go_wp2
        go_roundw
        case rel => exact ⟨k + 1, by omega, by go_num, by rw [EC.out]; exact hWA⟩
        case measure => simp [intOf]; omega
      · have hkp : p ≤ k := by
          rcases Nat.lt_or_ge k p with h1 | h1
          · exact absurd (hlp.1.2.1 k h1) (by rw [HM.out.1]; exact hlt)
          · exact h1
        by_cases hkq : k < q
        · have ec : Lb.cnt p q k = k - p := by unfold Lb.cnt; omega
          have ec1 : Lb.cnt p q (k + 1) = k - p + 1 := by unfold Lb.cnt; omega
          have EC1 : Hid (Lb.cnt p q (k + 1) = k - p + 1 ∧ p + (k - p) = k) := ⟨ec1, by omega⟩
          have hlte := hlp.2.2.2.1 k hkp hkq
          rw [ec] at hWA
          obtain ⟨t, htt⟩ : ∃ t, k - p = t := ⟨_, rfl⟩
          rw [htt] at hWA EC1
          have ht30 : t ≤ 30000 := by omega
          have hko := hWA.ko
          have hvo := hWA.vo
          rw [sub_len] at hko hvo
          obtain ⟨oa, cap, hkv⟩ := own_form hko
          obtain ⟨ob, capb, hvv⟩ := own_form hvo
          subst hkv
          subst hvv
          obtain ⟨i0, hi0, hz0, hz1, hz2⟩ := info_parts info39
          have HLE : Hid (ltE (kb k) (endOf ae' es) = true) := hlte
          clear hlte hlp ec ec1 htt hW
          have hcases : ae' = none ∨ (ae' ≠ none ∧ m2 < 0) := by
            by_cases e : ae' = none
            · exact .inl e
            · right
              refine ⟨e, ?_⟩
              have h2 := HLE.out
              unfold endOf at h2
              rw [if_neg e] at h2
              have h3 : cmpB (kb k) es < 0 := by simpa [ltE] using h2
              rw [HM.out.2] at h3
              exact h3
          go_upto_region 22 with fail
          go_cut [107] (fun v wx => v = .bool false ∧ TW w9 wx w9.heap.size (.slice oa t cap) (.slice ob t capb) (sub K1 p t) (sub V1 p t))
          case first =>
            rcases hcases with e | ⟨e, hm2⟩
            · subst e
              go_wp2
              go_meet
              case rel => exact ⟨rfl, hWA⟩
            · cases ae' with
              | none => exact absurd rfl e
              | some xe =>
                have hx := (HC2.out wA hWA.bel)
                have gA := hx.2.1
                rw [Nat.zero_add] at gA
                go_wp2_with fail
                refine hx.1.mono ?_
                rintro e wB ⟨rfl, hbB⟩
                have hWB := hWA.below rfl hbB
                have hm3 : ¬(0 ≤ m2) := by omega
                clear hx
                go_wp2
                go_meet
                case rel => exact ⟨by simp; omega, hWB⟩
          case rest =>
            obtain ⟨rfl, hWB⟩ := hcut
            clear hWA hko hvo
            have hcc := (HC2.out wc hWB.bel).2
            rw [Nat.zero_add] at hcc
            obtain ⟨cK, cV⟩ := hcc
            have hsz2 : w9.heap.size ≤ wc.heap.size := hWB.bel.size
            have hko := hWB.ko
            rw [sub_len] at hko
            have hkoA := hko.alloc (.cells #[.slice ka kl kc] 39)
            have hszB : w9.heap.size ≤ (wc.alloc (.cells #[.slice ka kl kc] 39)).heap.size := by simp; omega
            go_upto_region 24 with (at_builtin; refine wpList_append_lies _ rfl (.tmp 108) (.tmp 113) 22 rfl w9.heap.size 39 i0 _ 1 24 Try.underlying22 hi0 hz0 hz1 hz2 rfl (by omega) _ t _ (by rfl) hkoA ⟨wc.heap.size, 0, none⟩ 1 1 [.slice ka kl kc] (by rfl) (by rfl) (World.news_of_block (cs := #[.slice ka kl kc]) (t := 39) (fr := (0, 0)) (heap_alloc_new wc _)) (by simp [Value.oneCell']) (by omega) (by unfold maxLen; omega) (by omega) hszB (wc.heap.size + 1) (by simp) ?_; intro gA capA wE hownA hgrowA hatA hltA)
            have hWE := hWB.addK hsz2 hgrowA hownA (by simp [sub_len]) (by rcases hatA with h2 | h2; exact .inl h2; right; omega)
            clear hownA hgrowA hatA hltA hkoA hszB hko hWB cK cV hsz2
            have hcc := (HC2.out wE hWE.bel).2
            rw [Nat.zero_add] at hcc
            obtain ⟨cK, cV⟩ := hcc
            have hsz2 : w9.heap.size ≤ wE.heap.size := hWE.bel.size
            have hvo := hWE.vo
            rw [sub_len] at hvo
            have hvoA := hvo.alloc (.cells #[.slice va vl vc] 39)
            have hszB : w9.heap.size ≤ (wE.alloc (.cells #[.slice va vl vc] 39)).heap.size := by simp; omega
            go_wp2_with (at_builtin; refine wpList_append_lies _ rfl (.tmp 115) (.tmp 120) 22 rfl w9.heap.size 39 i0 _ 1 24 Try.underlying22 hi0 hz0 hz1 hz2 rfl (by omega) _ t _ (by rfl) hvoA ⟨wE.heap.size, 0, none⟩ 1 1 [.slice va vl vc] (by rfl) (by rfl) (World.news_of_block (cs := #[.slice va vl vc]) (t := 39) (fr := (0, 0)) (heap_alloc_new wE _)) (by simp [Value.oneCell']) (by omega) (by unfold maxLen; omega) (by omega) hszB (wE.heap.size + 1) (by simp) ?_; intro gB capB wG hownB hgrowB hatB hltB)
            have hWG := hWE.addV hsz2 hgrowB hownB (by simp [sub_len]) (by rcases hatB with h2 | h2; exact .inl h2; right; omega)
            go_roundw
            case rel =>
              refine ⟨k + 1, by omega, by go_num, ?_⟩
              rw [EC1.out.1]
              rw [← HKV.out.1, ← HKV.out.2] at hWG
              simp only [sub]
              rw [EC1.out.2]
              exact hWG
            case measure => simp [intOf]; omega
        · have ec : Lb.cnt p q (k + 1) = Lb.cnt p q k := by unfold Lb.cnt; omega
          have EC : Hid (Lb.cnt p q (k + 1) = Lb.cnt p q k) := ec
          obtain ⟨es', he1, he2⟩ := Lb.HiP.rest HASC.out hlp.2 k (by omega) hkn
          have hae : ae' ≠ none := fun e => by unfold endOf at he1; rw [if_pos e] at he1; cases he1
          have hm2 : 0 ≤ m2 := by
            unfold endOf at he1
            rw [if_neg hae] at he1
            injection he1 with he1
            subst he1
            rw [HM.out.2] at he2
            omega
          clear ec hlp he1 he2
          cases ae' with
          | none => exact absurd rfl hae
          | some xe =>
            have hx := (HC2.out wA hWA.bel)
            have gA := hx.2.1
            rw [Nat.zero_add] at gA
            go_wp2_with fail
            refine hx.1.mono ?_
            rintro e wB ⟨rfl, hbB⟩
            have hWB := hWA.below rfl hbB
            clear hx
            go_wp2
            go_roundw
            case rel => exact ⟨k + 1, by omega, by go_num, by rw [EC.out]; exact hWB⟩
            case measure => simp [intOf]; omega
    · have ec : Lb.cnt p q k = q - p := by unfold Lb.cnt; omega
      rw [ec] at hW
      have hko := hW.ko
      have hvo := hW.vo
      rw [sub_len] at hko hvo
      obtain ⟨ob1, cb1, rfl, hk2⟩ := own_cell hko
      obtain ⟨ob2, cb2, rfl, hv2⟩ := own_cell hvo
      have hm16 : q - p ≤ 65536 := by omega
      have hs1 := sameList_any wr oa1 ob1 (q - p) ca1 cb1 p K K1 kb hm16 (fun hp => by obtain ⟨g, e, hc⟩ := HG.out.1 hp; exact ⟨g, e, fun i hi => cellOf (hc i hi) hW.bel⟩) hk2 (fun i hi => (HBV.out.1 _ (by omega)).below hW.bel) (fun i hi => (h29.bv _ (by omega)).below hW.bel) (fun i hi => HKL.out.1 _ (by omega))
      have hs2 : ∀ wx : World, Below wr.heap.size wr wx → Calls Try.prog 15 #[.slice oa2 (q - p) ca2, .slice ob2 (q - p) cb2] wx fun e w' => e = .returned (.bool true) ∧ Below wx.heap.size wx w' := fun wx hb => by
        have hbb := hW.bel.trans (hb.mono hW.bel.size)
        exact sameList_any wx oa2 ob2 (q - p) ca2 cb2 p V V1 vb hm16 (fun hp => by obtain ⟨g, e, hc⟩ := HG.out.2 hp; exact ⟨g, e, fun i hi => cellOf (hc i hi) hbb⟩) (fun hp => by obtain ⟨g, e, hc⟩ := hv2 hp; exact ⟨g, e, fun i hi => cellOf (hc i hi) hb⟩) (fun i hi => (HBV.out.2 _ (by omega)).below hbb) (fun i hi => (h39.bv _ (by omega)).below hbb) (fun i hi => HKL.out.2 _ (by omega))
      have HS2 : Hid (∀ wx : World, Below wr.heap.size wr wx → Calls Try.prog 15 #[.slice oa2 (q - p) ca2, .slice ob2 (q - p) cb2] wx fun e w' => e = .returned (.bool true) ∧ Below wx.heap.size wx w') := hs2
      have hbW := hW.bel
      clear hs2 hko hvo hk2 hv2 hW ec
      go_wp2_with fail
      refine hs1.mono ?_
      rintro e wA ⟨rfl, hbA⟩
      clear hs1
      go_wp2_with fail
      refine (HS2.out wA hbA).mono ?_
      rintro e wB ⟨rfl, hbB⟩
      go_wp2
      go_ret
      have hb1 := hbW.trans ((hbA.trans (hbB.mono hbA.size)).mono hbW.size)
      exact ⟨rfl, hb09.trans (hb1.mono hb09.size)⟩

end Go.Proofs.Qxb6604003a
