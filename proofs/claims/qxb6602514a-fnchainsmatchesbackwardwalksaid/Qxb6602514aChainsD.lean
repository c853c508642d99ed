import Derived.Test.Qxb6602514aChainsC
set_option linter.unusedVariables false
namespace Go.Proofs.Qxb6602514a.Ch
open Go.RowKit

theorem info86 : (Try.prog.info? 86).map (fun i => (i.zero, i.size, i.bytes)) = some (some (.agg #[.int .i32 0, .int .i32 0, .int .i32 0]), 3, 12) := by kernel_rfl
theorem info4 : (Try.prog.info? 4).map (fun i => (i.zero, i.size, i.bytes)) = some (some (.bool false), 1, 1) := by kernel_rfl

theorem WCells.step {es fs : List Int} {k n : Nat} {ws : List Value} (h : WCells es fs k n ws) (hk : k < n) :
    WCells es fs (k + 1) n (((ws.set (k * 3) (.int .i32 0)).set (k * 3 + 1) (.int .i32 (es.getD k 0))).set (k * 3 + 2) (.int .i32 (fs.getD k 0))) := by
  have hl := h.len
  have l0 : k * 3 < ws.length := by omega
  have l1 : k * 3 + 1 < ws.length := by omega
  have l2 : k * 3 + 2 < ws.length := by omega
  refine ⟨by simpa using hl, ?_, ?_, ?_⟩ <;>
  · intro i hi
    by_cases e : i = k
    · subst e; simp [l0, l1, l2]
    · have n0 : ¬ k * 3 = i * 3 := by omega
      have n1 : ¬ k * 3 + 1 = i * 3 := by omega
      have n2 : ¬ k * 3 + 2 = i * 3 := by omega
      have m0 : ¬ k * 3 = i * 3 + 1 := by omega
      have m1 : ¬ k * 3 = i * 3 + 2 := by omega
      have p1 : ¬ k * 3 + 1 = i * 3 + 1 := by omega
      have p2 : ¬ k * 3 + 1 = i * 3 + 2 := by omega
      have q1 : ¬ k * 3 + 2 = i * 3 + 1 := by omega
      have q2 : ¬ k * 3 + 2 = i * 3 + 2 := by omega
      simp only [List.getElem?_set, n0, n1, n2, m0, m1, p1, p2, q1, q2, if_false]
      first | exact h.c0 i (by omega) | exact h.c1 i (by omega) | exact h.c2 i (by omega)

set_option maxRecDepth 100000 in
set_option maxHeartbeats 1000000 in
theorem zz_chains (a1 a2 : Option Addr) (b1 b2 n c1 c2 N : Nat) (es fs : List Int) (w : World) (hn : n ≤ 4096) (hN : N ≤ 65536) (hl1 : n ≤ es.length) (hl2 : n ≤ fs.length)
    (h1 : 0 < n → a1 = some ⟨b1, 0, none⟩ ∧ IRow .i32 w b1 21 es) (h2 : 0 < n → a2 = some ⟨b2, 0, none⟩ ∧ IRow .i32 w b2 21 fs) (hd : DomP es fs n N) :
    Calls Try.prog 41 #[.slice a1 n c1, .slice a2 n c2, .int .i64 N] w fun e w' => ∃ (r : Bool) (v1 v2 v3 : Value), e = .returned (.tuple #[.bool r, v1, v2, v3]) ∧ (r = true ↔ ModelP es fs n N) ∧ Below w.heap.size w w' := by
  go_enter Try.func41, Try.ntmps41
  go_wp2_with (first | (at_make; refine wpList_make_row _ rfl (.tmp 15) (.tmp 15) 84 rfl 86 (.agg #[.int .i32 0, .int .i32 0, .int .i32 0]) 3 12 Try.underlying84 info86 _ _ _ _ n rfl rfl rfl rfl (by omega) (by unfold maxLen; omega) _ rfl w.heap.size rfl ?_; intro w1 hrow1 hsz1 hbel1))
  have hml : (madeCells (Value.agg #[.int .i32 0, .int .i32 0, .int .i32 0]).cells (n * 3)).toList.length = n * 3 := by rw [Array.length_toList, size_madeCells]
  go_loopw [19] (fun i wr => ∃ k : Nat, k ≤ n ∧ i = .int .i64 k ∧ Below w.heap.size w wr ∧ wr.heap.size = w.heap.size + 1 ∧ ∃ ws, WCells es fs k n ws ∧ Row wr w.heap.size 86 ws) (fun i _ => n - (intOf i).toNat)
  case atStart => exact ⟨0, Nat.zero_le _, rfl, hbel1, by simpa using hsz1, _, ⟨hml, fun i hi => by omega, fun i hi => by omega, fun i hi => by omega⟩, hrow1⟩
  case round =>
    clear hrow1 hsz1 hbel1 hml
    obtain ⟨k, hk, rfl, hbr, hsr, ws, hws, hr⟩ := hrel
    by_cases hlt : k < n
    · obtain ⟨rfl, r1⟩ := h1 (by omega)
      obtain ⟨rfl, r2⟩ := h2 (by omega)
      have hblt1 := Row.lt r1
      have hblt2 := Row.lt r2
      have g1 : wr.cell? ⟨b1, k, none⟩ = some (.int .i32 (es.getD k 0)) := (hbr.cell (by exact hblt1)).trans (r1.cell k (by omega))
      have g2 : wr.cell? ⟨b2, k, none⟩ = some (.int .i32 (fs.getD k 0)) := (hbr.cell (by exact hblt2)).trans (r2.cell k (by omega))
      have hwl := hws.len
      have s0 : wr.cell? ⟨w.heap.size, k * 3, none⟩ = some (ws[k * 3]'(by omega)) := (hr.cell _).trans (List.getElem?_eq_getElem _)
      have s1 : wr.cell? ⟨w.heap.size, k * 3 + 1, none⟩ = some (ws[k * 3 + 1]'(by omega)) := (hr.cell _).trans (List.getElem?_eq_getElem _)
      have s2 : wr.cell? ⟨w.heap.size, k * 3 + 2, none⟩ = some (ws[k * 3 + 2]'(by omega)) := (hr.cell _).trans (List.getElem?_eq_getElem _)
      have fr := hr.frozen
      have hst := hws.step hlt
      obtain ⟨e, he⟩ : ∃ e, es.getD k 0 = e := ⟨_, rfl⟩
      obtain ⟨f, hf⟩ : ∃ f, fs.getD k 0 = f := ⟨_, rfl⟩
      rw [he] at g1
      rw [hf] at g2
      rw [he, hf] at hst
      clear he hf hws
      have k0 : (0 : Int) ≤ (k : Int) := by omega
      have k1 : (k : Int) < (n : Int) := by omega
      go_wp2
      go_region
      go_wp2
      go_roundw
      case rel => exact ⟨k + 1, by omega, by go_num, (((hbr.setCell (by simp) _).setCell (by simp) _).setCell (by simp) _).drew, by simpa using hsr, _, hst, (((hr.set _ _).set _ _).set _ _).drew⟩
      case measure => simp [intOf]; omega
    · have hkn : n = k := by omega
      subst hkn
      go_wp2_with (first | (at_make; refine wpList_make_row _ rfl (.tmp 36) (.tmp 36) 38 rfl 4 (.bool false) 1 1 Try.underlying38 info4 _ _ _ _ N rfl rfl rfl rfl (by omega) (by unfold maxLen; omega) _ (made_one _ rfl N) (w.heap.size + 1) hsr ?_; intro w2 hrow2 hsz2 hbel2))
      have hsg : Seg (w2.alloc (.cells #[.pointer none, .slice none 0 0, .slice none 0 0, .slice (some ⟨w.heap.size, 0, none⟩) n n, .slice none 0 0, .slice none 0 0, .slice none 0 0, .slice none 0 0, .slice (some ⟨w.heap.size + 1, 0, none⟩) N N, .slice none 0 0, .slice none 0 0] 93)) w.heap.size [(86, ws), (4, (List.replicate N false).map Value.bool), (93, sa w.heap.size n N (.slice none 0 0) (.slice none 0 0))] := by
        rw [List.map_replicate]
        have h0 : Seg wr w.heap.size [(86, ws)] := by
          intro i p hp
          cases i with
          | zero => simp at hp; subst hp; exact hr
          | succ i => simp at hp
        exact (h0.push (by simp) hbel2 hrow2).pushAlloc (by simpa using hsz2) 93 _
      have hb2 : Below w.heap.size w (w2.alloc (.cells #[.pointer none, .slice none 0 0, .slice none 0 0, .slice (some ⟨w.heap.size, 0, none⟩) n n, .slice none 0 0, .slice none 0 0, .slice none 0 0, .slice none 0 0, .slice (some ⟨w.heap.size + 1, 0, none⟩) N N, .slice none 0 0, .slice none 0 0] 93)) := (hbr.trans (hbel2.mono (by omega))).alloc (by omega) _
      rw [show w.heap.size + 1 + 1 = w.heap.size + 2 from rfl]
      refine (chains_any _ w.heap.size n N ws es fs hn hN hd hws (by simp [hsz2]) hsg).mono ?_
      rintro e w5 ⟨⟨r, rfl, hret⟩, hb5, nb, fb, k8, k9, k10⟩
      have HRET : Hid (r = true ↔ ModelP es fs n N) := hret
      clear hret hsg
      go_wp2
      go_quiet (fail)
      go_wp2
      exact bodyPost_ret (v := .tuple #[.bool r, .slice (some ⟨nb, 0, none⟩) n n, .slice (some ⟨fb, 0, none⟩) N N, .slice (some ⟨w.heap.size + 1, 0, none⟩) N N]) (by simp [results, Try.results41]) rfl ⟨r, _, _, _, rfl, HRET.out, below_drewN (hb2.trans hb5) _⟩

/-- A slice that came in. -/
def InRow (w : World) (a : Option Addr) (n c : Nat) (zs : List Int) : Prop :=
  (a = none ∧ n = 0 ∧ c = 0 ∧ zs = []) ∨ ∃ x, a = some x ∧ n ≤ zs.length ∧ ∀ i, i < zs.length → w.cell? (x.add i) = some (.int .i32 (zs.getD i 0))
theorem InRow.le {w : World} {a : Option Addr} {n c : Nat} {zs : List Int} (h : InRow w a n c zs) : n ≤ zs.length := by
  rcases h with ⟨_, rfl, _, _⟩ | ⟨x, _, h, _⟩
  · exact Nat.zero_le _
  · exact h
theorem InRow.below {w w' : World} {a : Option Addr} {n c : Nat} {zs : List Int} (h : InRow w a n c zs) (hb : Below w.heap.size w w') : InRow w' a n c zs := by
  rcases h with h | ⟨x, h1, h2, h3⟩
  · exact .inl h
  · exact .inr ⟨x, h1, h2, fun i hi => (hb.cell (World.block_lt_of_cell? w _ (h3 i hi))).trans (h3 i hi)⟩

set_option maxRecDepth 100000 in
set_option maxHeartbeats 1000000 in
theorem law_core (e1 e2 : Option Addr) (b1 b2 m k1 k2 N : Nat) (es fs : List Int) (w : World) (hm : m ≤ 4096) (hN : N ≤ 65536) (hl1 : m ≤ es.length) (hl2 : m ≤ fs.length)
    (r1 : 0 < m → e1 = some ⟨b1, 0, none⟩ ∧ IRow .i32 w b1 21 es) (r2 : 0 < m → e2 = some ⟨b2, 0, none⟩ ∧ IRow .i32 w b2 21 fs) (hd : DomP es fs m N) :
    ∀ w1 : World, Below w.heap.size w w1 → Calls Try.prog 42 #[.slice e1 m k1, .slice e2 m k2, .int .i64 N] w1 fun e w' => RetB (ModelP es fs m N) e ∧ Below w1.heap.size w1 w' := fun w1 hb =>
  model_any e1 e2 b1 b2 m k1 k2 N es fs w1 hm hN hl1 hl2 (fun hp => ⟨(r1 hp).1, Row.below (r1 hp).2 hb (Row.lt (r1 hp).2)⟩) (fun hp => ⟨(r2 hp).1, Row.below (r2 hp).2 hb (Row.lt (r2 hp).2)⟩) hd

set_option maxRecDepth 100000 in
set_option maxHeartbeats 1000000 in
theorem law_ch (a1 a2 : Option Addr) (n1 n2 c1 c2 : Nat) (N : Int) (z1 z2 : List Int) (w : World) (hm1 : n1 ≤ maxLen) (hm2 : n2 ≤ maxLen) (h1 : InRow w a1 n1 c1 z1) (h2 : InRow w a2 n2 c2 z2)
    (hz1 : ∀ j, -2147483648 ≤ z1.getD j 0 ∧ z1.getD j 0 ≤ 2147483647) (hz2 : ∀ j, -2147483648 ≤ z2.getD j 0 ∧ z2.getD j 0 ≤ 2147483647) :
    Calls Try.prog 9 #[.slice a1 n1 c1, .slice a2 n2 c2, .int .i64 N] w fun e w' => e = .returned (.bool true) ∧ Below w.heap.size w w' := by
  by_cases q1 : n1 + n2 ≤ 1048576
  · by_cases q2 : 4 * (n1 : Int) + 4 * (n2 : Int) ≤ 1048576
    · by_cases q3 : n1 ≤ 4096
      · by_cases q4 : n2 ≤ 4096
        · by_cases q5 : 0 ≤ N
          · by_cases q6 : N ≤ 65536
            · obtain ⟨N, rfl⟩ : ∃ N' : Nat, N = N' := ⟨N.toNat, by omega⟩
              go_enter Try.func9, Try.ntmps9
              go_wp2_with fail
              refine (bytes37 _ _ _ _ _ _ _ _ hm1 hm2).mono ?_
              rintro e w' ⟨rfl, hw⟩
              have hw' := hw.symm
              subst hw'
              clear hw
              simp only [q1, decide_true]
              go_wp2_with fail
              refine (chainBytes _ _ _ _ _ _ _ (by omega) (by omega)).mono ?_
              rintro e w' ⟨rfl, hw⟩
              have hw' := hw.symm
              subst hw'
              clear hw
              go_wp2_with fail
              refine (clone_any _ n1 c1 z1 _ (by omega) h1).mono ?_
              rintro e w1 ⟨x1, rfl, hx1, hr1, hs1, hb1⟩
              go_wp2_with fail
              refine (clone_any _ n2 c2 z2 _ (by omega) (h2.below hb1)).mono ?_
              rintro e w2 ⟨x2, rfl, hx2, hr2, hs2, hb2⟩
              go_wp2_with fail
              refine (min_any n1 n2 _).mono ?_
              rintro e w' ⟨rfl, hw⟩
              have hw' := hw.symm
              subst hw'
              clear hw
              obtain ⟨m, hm⟩ : ∃ m, min n1 n2 = m := ⟨_, rfl⟩
              rw [hm]
              have hmn1 : m ≤ n1 := by omega
              have hmn2 : m ≤ n2 := by omega
              clear hm
              have hb12 : Below w.heap.size w w2 := hb1.trans (hb2.mono hs1)
              have R1 : 0 < m → x1 = some ⟨w.heap.size, 0, none⟩ ∧ IRow .i32 w2 w.heap.size 21 (z1.take n1) := fun hp => ⟨(hr1 (by omega)).1, Row.below (hr1 (by omega)).2 hb2 (Row.lt (hr1 (by omega)).2)⟩
              have R2 : 0 < m → x2 = some ⟨w1.heap.size, 0, none⟩ ∧ IRow .i32 w2 w1.heap.size 21 (z2.take n2) := fun hp => hr2 (by omega)
              have hl1 : m ≤ (z1.take n1).length := by have := h1.le; simp; omega
              have hl2 : m ≤ (z2.take n2).length := by have := h2.le; simp; omega
              have hy1 : ∀ j, j < m → -2147483648 ≤ (z1.take n1).getD j 0 ∧ (z1.take n1).getD j 0 ≤ 2147483647 := fun j hj => by
                rw [show (z1.take n1).getD j 0 = z1.getD j 0 by simp [List.getD, show j < n1 by omega]]; exact hz1 j
              have hy2 : ∀ j, j < m → -2147483648 ≤ (z2.take n2).getD j 0 ∧ (z2.take n2).getD j 0 ≤ 2147483647 := fun j hj => by
                rw [show (z2.take n2).getD j 0 = z2.getD j 0 by simp [List.getD, show j < n2 by omega]]; exact hz2 j
              obtain ⟨E, hE⟩ : ∃ E, z1.take n1 = E := ⟨_, rfl⟩
              obtain ⟨F, hF⟩ : ∃ F, z2.take n2 = F := ⟨_, rfl⟩
              rw [hE] at R1 hl1 hy1
              rw [hF] at R2 hl2 hy2
              have hm4 : m ≤ 4096 := by omega
              have hN4 : N ≤ 65536 := by omega
              clear hE hF hz1 hz2 hr1 hr2
              go_wp2_with fail
              refine (domain_any x1 x2 w.heap.size w1.heap.size m n1 n2 N E F w2 hm4 hN4 hl1 hl2 R1 R2 hy1 hy2).mono ?_
              rintro e w' ⟨⟨r, rfl, hdom⟩, hw⟩
              have hw' := hw.symm
              subst hw'
              clear hw
              cases r with
              | false =>
                clear hdom
                go_wp2
                go_ret
                exact ⟨rfl, hb12⟩
              | true =>
                have hD : DomP E F m N := hdom.1 rfl
                have HD : Hid (DomP E F m N) := hD
                clear hdom hD
                go_wp2_with fail
                refine (zz_chains x1 x2 w.heap.size w1.heap.size m n1 n2 N E F w2 hm4 hN4 hl1 hl2 R1 R2 HD.out).mono ?_
                rintro e w3 ⟨r3, v1, v2, v3, rfl, hr3, hb3⟩
                have HR3 : Hid (r3 = true ↔ ModelP E F m N) := hr3
                clear hr3
                go_wp2_with fail
                refine (law_core x1 x2 w.heap.size w1.heap.size m n1 n2 N E F w2 hm4 hN4 hl1 hl2 R1 R2 HD.out _ hb3).mono ?_
                rintro e w4 ⟨⟨r4, rfl, hr4⟩, hb4⟩
                have hrr : (r3 == r4) = true := by
                  have : r3 = true ↔ r4 = true := HR3.out.trans hr4.symm
                  cases r3 <;> cases r4 <;> simp_all
                clear hr4
                go_wp2
                go_ret
                refine ⟨by rw [← hrr]; rfl, ?_⟩
                have h13 : Below w.heap.size w w3 := hb12.trans (hb3.mono hb12.size)
                exact h13.trans (hb4.mono h13.size)
            · go_enter Try.func9, Try.ntmps9
              go_wp2_with fail
              refine (bytes37 _ _ _ _ _ _ _ _ hm1 hm2).mono ?_
              rintro e w' ⟨rfl, hw⟩
              have hw' := hw.symm
              subst hw'
              clear hw
              simp only [q1, decide_true]
              go_wp2_with fail
              refine (chainBytes _ _ _ _ _ _ _ (by omega) (by omega)).mono ?_
              rintro e w' ⟨rfl, hw⟩
              have hw' := hw.symm
              subst hw'
              clear hw
              go_wp2
              go_ret
              exact ⟨rfl, Below.refl _ _⟩
          · go_enter Try.func9, Try.ntmps9
            go_wp2_with fail
            refine (bytes37 _ _ _ _ _ _ _ _ hm1 hm2).mono ?_
            rintro e w' ⟨rfl, hw⟩
            have hw' := hw.symm
            subst hw'
            clear hw
            simp only [q1, decide_true]
            go_wp2_with fail
            refine (chainBytes _ _ _ _ _ _ _ (by omega) (by omega)).mono ?_
            rintro e w' ⟨rfl, hw⟩
            have hw' := hw.symm
            subst hw'
            clear hw
            go_wp2
            go_ret
            exact ⟨rfl, Below.refl _ _⟩
        · go_enter Try.func9, Try.ntmps9
          go_wp2_with fail
          refine (bytes37 _ _ _ _ _ _ _ _ hm1 hm2).mono ?_
          rintro e w' ⟨rfl, hw⟩
          have hw' := hw.symm
          subst hw'
          clear hw
          simp only [q1, decide_true]
          go_wp2_with fail
          refine (chainBytes _ _ _ _ _ _ _ (by omega) (by omega)).mono ?_
          rintro e w' ⟨rfl, hw⟩
          have hw' := hw.symm
          subst hw'
          clear hw
          go_wp2
          go_ret
          exact ⟨rfl, Below.refl _ _⟩
      · go_enter Try.func9, Try.ntmps9
        go_wp2_with fail
        refine (bytes37 _ _ _ _ _ _ _ _ hm1 hm2).mono ?_
        rintro e w' ⟨rfl, hw⟩
        have hw' := hw.symm
        subst hw'
        clear hw
        simp only [q1, decide_true]
        go_wp2_with fail
        refine (chainBytes _ _ _ _ _ _ _ (by omega) (by omega)).mono ?_
        rintro e w' ⟨rfl, hw⟩
        have hw' := hw.symm
        subst hw'
        clear hw
        go_wp2
        go_ret
        exact ⟨rfl, Below.refl _ _⟩
    · go_enter Try.func9, Try.ntmps9
      go_wp2_with fail
      refine (bytes37 _ _ _ _ _ _ _ _ hm1 hm2).mono ?_
      rintro e w' ⟨rfl, hw⟩
      have hw' := hw.symm
      subst hw'
      clear hw
      simp only [q1, decide_true]
      go_wp2_with fail
      refine (chainBytes _ _ _ _ _ _ _ (by omega) (by omega)).mono ?_
      rintro e w' ⟨rfl, hw⟩
      have hw' := hw.symm
      subst hw'
      clear hw
      go_wp2
      go_ret
      exact ⟨rfl, Below.refl _ _⟩
  · go_enter Try.func9, Try.ntmps9
    go_wp2_with fail
    refine (bytes37 _ _ _ _ _ _ _ _ hm1 hm2).mono ?_
    rintro e w' ⟨rfl, hw⟩
    have hw' := hw.symm
    subst hw'
    clear hw
    simp only [q1, decide_false]
    go_wp2
    go_ret
    exact ⟨rfl, Below.refl _ _⟩

end Go.Proofs.Qxb6602514a.Ch
