import Derived.Test.Qxb6602514aChainsA
set_option linter.unusedVariables false
namespace Go.Proofs.Qxb6602514a.Ch
open Go.RowKit

theorem info3 : (Try.prog.info? 3).map (fun i => (i.zero, i.size, i.bytes)) = some (some (.int .i64 0), 1, 8) := by kernel_rfl

theorem set_same (l : List Int) (i : Nat) (v : Int) (h : i < l.length) : (l.set i v).getD i 0 = v := by simp [List.getD, h]
theorem set_ne (l : List Int) (i j : Nat) (v : Int) (h : i ≠ j) : (l.set i v).getD j 0 = l.getD j 0 := by simp [List.getD, h]

/-- Of the first b writes: how many follow q; how many read the initial value of e. -/
def cF (fs : List Int) (q : Nat) : Nat → Int
  | 0 => 0
  | b + 1 => cF fs q b + if fs.getD b 0 = (q : Int) then 1 else 0
def cI (es fs : List Int) (e : Nat) : Nat → Int
  | 0 => 0
  | b + 1 => cI es fs e b + if fs.getD b 0 = -1 ∧ es.getD b 0 = (e : Int) then 1 else 0
theorem cF_bd (fs : List Int) (q b : Nat) : 0 ≤ cF fs q b ∧ cF fs q b ≤ b := by
  induction b with
  | zero => simp [cF]
  | succ b ih => simp only [cF]; split <;> omega
theorem cI_bd (es fs : List Int) (q b : Nat) : 0 ≤ cI es fs q b ∧ cI es fs q b ≤ b := by
  induction b with
  | zero => simp [cI]
  | succ b ih => simp only [cI]; split <;> omega

def ModelP (es fs : List Int) (n N : Nat) : Prop := (∀ k, k < n → cF fs k n ≤ 1 ∧ 0 ≤ hd fs (n + 1) k) ∧ ∀ e, e < N → cI es fs e n ≤ 1

/-- The two rows of counts behind b writes. -/
structure Cnt (es fs : List Int) (n N b : Nat) (fl il : List Int) : Prop where
  l1 : fl.length = n
  l2 : il.length = N
  f : ∀ q, q < n → fl.getD q 0 = cF fs q b
  i : ∀ e, e < N → il.getD e 0 = cI es fs e b

theorem Cnt.blind {es fs : List Int} {n N b : Nat} {fl il : List Int} (h : Cnt es fs n N b fl il) (hf : fs.getD b 0 = -2) : Cnt es fs n N (b + 1) fl il :=
  ⟨h.l1, h.l2, fun q hq => by simp only [cF]; rw [if_neg (by omega), h.f q hq]; omega, fun e he => by simp only [cI]; rw [if_neg (by omega), h.i e he]; omega⟩
theorem Cnt.init {es fs : List Int} {n N b e : Nat} {fl il : List Int} (h : Cnt es fs n N b fl il) (hf : fs.getD b 0 = -1) (he : es.getD b 0 = e) (heN : e < N) : Cnt es fs n N (b + 1) fl (il.set e (cI es fs e b + 1)) := by
  refine ⟨h.l1, by simpa using h.l2, fun q hq => by simp only [cF]; rw [if_neg (by omega), h.f q hq]; omega, fun e' he' => ?_⟩
  simp only [cI]
  have := h.l2
  by_cases hee : e = e'
  · subst hee; rw [set_same _ _ _ (by omega), if_pos ⟨hf, he⟩]
  · rw [set_ne _ _ _ _ hee, if_neg (by omega), h.i e' he']; omega
theorem Cnt.foll {es fs : List Int} {n N b q : Nat} {fl il : List Int} (h : Cnt es fs n N b fl il) (hf : fs.getD b 0 = q) (hq : q < n) : Cnt es fs n N (b + 1) (fl.set q (cF fs q b + 1)) il := by
  refine ⟨by simpa using h.l1, h.l2, fun q' hq' => ?_, fun e he => by simp only [cI]; rw [if_neg (by omega), h.i e he]; omega⟩
  simp only [cF]
  have := h.l1
  by_cases hee : q = q'
  · subst hee; rw [set_same _ _ _ (by omega), if_pos hf]
  · rw [set_ne _ _ _ _ hee, if_neg (by omega), h.f q' hq']; omega

set_option maxRecDepth 100000 in
set_option maxHeartbeats 1000000 in
theorem model_any (a1 a2 : Option Addr) (b1 b2 n c1 c2 N : Nat) (es fs : List Int) (w : World) (hn : n ≤ 4096) (hN : N ≤ 65536) (hl1 : n ≤ es.length) (hl2 : n ≤ fs.length)
    (h1 : 0 < n → a1 = some ⟨b1, 0, none⟩ ∧ IRow .i32 w b1 21 es) (h2 : 0 < n → a2 = some ⟨b2, 0, none⟩ ∧ IRow .i32 w b2 21 fs) (hd : DomP es fs n N) :
    Calls Try.prog 42 #[.slice a1 n c1, .slice a2 n c2, .int .i64 N] w fun e w' => RetB (ModelP es fs n N) e ∧ Below w.heap.size w w' := by
  go_enter Try.func42, Try.ntmps42
  go_wp2_with (first | (at_make; refine wpList_make_row _ rfl (.tmp 16) (.tmp 16) 29 rfl 3 (.int .i64 0) 1 8 Try.underlying29 info3 _ _ _ _ n rfl rfl rfl rfl (by omega) (by unfold maxLen; omega) _ (made_one _ rfl n) w.heap.size rfl ?_; intro w1 hrow1 hsz1 hbel1) | (at_make; refine wpList_make_row _ rfl (.tmp 18) (.tmp 18) 29 rfl 3 (.int .i64 0) 1 8 Try.underlying29 info3 _ _ _ _ N rfl rfl rfl rfl (by omega) (by unfold maxLen; omega) _ (made_one _ rfl N) (w.heap.size + 1) (by simp [hsz1]) ?_; intro w2 hrow2 hsz2 hbel2))
  have hsg0 : Seg w2 w.heap.size [(3, (List.replicate n (0 : Int)).map (Value.int .i64)), (3, (List.replicate N (0 : Int)).map (Value.int .i64))] := by
    rw [List.map_replicate, List.map_replicate]
    exact ((Seg.nil w _).push rfl hbel1 hrow1).push (by simp) hbel2 hrow2
  have hb0 : Below w.heap.size w w2 := hbel1.trans (hbel2.mono (by omega))
  clear hrow1 hsz1 hbel1 hrow2 hsz2 hbel2
  go_loopw [10] (fun i wr => ∃ k : Nat, k ≤ n ∧ i = .int .i64 k ∧ Below w.heap.size w wr ∧ ∃ fl il, Cnt es fs n N k fl il ∧ Seg wr w.heap.size [(3, fl.map (Value.int .i64)), (3, il.map (Value.int .i64))]) (fun i _ => n - (intOf i).toNat)
  case atStart => exact ⟨0, Nat.zero_le _, rfl, hb0, _, _, ⟨by simp, by simp, fun q hq => by simp [List.getD, hq, cF], fun e he => by simp [List.getD, he, cI]⟩, hsg0⟩
  case round =>
    clear hsg0 hb0
    obtain ⟨k, hk, rfl, hbr, fl, il, hC, hsg⟩ := hrel
    by_cases hlt : k < n
    · obtain ⟨rfl, r1⟩ := h1 (by omega)
      obtain ⟨rfl, r2⟩ := h2 (by omega)
      have hblt1 := Row.lt r1
      have hblt2 := Row.lt r2
      have g1 : wr.cell? ⟨b1, k, none⟩ = some (.int .i32 (es.getD k 0)) := (hbr.cell (by exact hblt1)).trans (r1.cell k (by omega))
      have g2 : wr.cell? ⟨b2, k, none⟩ = some (.int .i32 (fs.getD k 0)) := (hbr.cell (by exact hblt2)).trans (r2.cell k (by omega))
      have hdk := hd k hlt
      obtain ⟨e, he⟩ : ∃ e : Nat, es.getD k 0 = e := ⟨(es.getD k 0).toNat, by omega⟩
      obtain ⟨f, hf⟩ : ∃ f, fs.getD k 0 = f := ⟨_, rfl⟩
      rw [he] at g1 hdk
      rw [hf] at g2 hdk
      have heN : e < N := by omega
      have hcl1 := hC.l1
      have hcl2 := hC.l2
      rcases (show f = -2 ∨ f = -1 ∨ 0 ≤ f by omega) with rfl | rfl | hf0
      · have hC' := hC.blind hf
        clear hC hdk
        have HE : Hid (es.getD k 0 = e) := he
        clear he hf
        go_wp2
        go_roundw
        case rel => exact ⟨k + 1, by omega, by go_num, hbr, fl, il, hC', hsg⟩
        case measure => simp [intOf]; omega
      · have hC' := hC.init hf he heN
        have g3 := hsg.icell 1 rfl e (by omega)
        rw [hC.i e heN] at g3
        have f3 := hsg.frozen 1 (by simp) e
        have hbd := cI_bd es fs e k
        clear hC hdk he hf
        go_wp2
        go_roundw
        case rel => exact ⟨k + 1, by omega, by go_num, hbr.setCell (by simp) _, fl, _, hC', hsg.iset 1 rfl e _⟩
        case measure => simp [intOf]; omega
      · obtain ⟨q, rfl⟩ : ∃ q : Nat, f = q := ⟨f.toNat, by omega⟩
        have hqn : q < n := by omega
        have hC' := hC.foll hf hqn
        have g3 : wr.cell? ⟨w.heap.size, q, none⟩ = some (.int .i64 (fl.getD q 0)) := hsg.icell 0 rfl q (by omega)
        rw [hC.f q hqn] at g3
        have f3 : wr.frozen? ⟨w.heap.size, q, none⟩ = false := hsg.frozen 0 (by simp) q
        have hbd := cF_bd fs q k
        have hs' : Seg (wr.setCell ⟨w.heap.size, q, none⟩ (.int .i64 (cF fs q k + 1))) w.heap.size [(3, (fl.set q (cF fs q k + 1)).map (Value.int .i64)), (3, il.map (Value.int .i64))] := hsg.iset 0 rfl q _
        clear hC hdk he hf
        go_wp2
        go_roundw
        case rel => exact ⟨k + 1, by omega, by go_num, hbr.setCell (by simp) _, _, il, hC', hs'⟩
        case measure => simp [intOf]; omega
    · have hkn : n = k := by omega
      subst hkn
      obtain ⟨wE, hwE⟩ : ∃ wE : World, wE = wr := ⟨_, rfl⟩
      subst hwE
      clear hlt hk
      go_wp2
      -- loop 2
      go_loop [12] (fun i => ∃ k : Nat, k ≤ n ∧ i = .int .i64 k ∧ Hid (∀ j, j < k → cF fs j n ≤ 1 ∧ 0 ≤ Ch.hd fs (n + 1) j)) (fun i => n - (intOf i).toNat)
      case atStart => exact ⟨0, Nat.zero_le _, rfl, fun j hj => by omega⟩
      case round =>
        obtain ⟨k, hk, rfl, hok⟩ := hrel
        by_cases hlt : k < n
        · obtain ⟨rfl, r2⟩ := h2 (by omega)
          have r2E : IRow .i32 wE b2 21 fs := Row.below r2 hbr (Row.lt r2)
          have g3 : wE.cell? ⟨w.heap.size, k, none⟩ = some (.int .i64 (fl.getD k 0)) := hsg.icell 0 rfl k (by have := hC.l1; omega)
          rw [hC.f k hlt] at g3
          have hbd := cF_bd fs k n
          by_cases hc1 : 1 < cF fs k n
          · go_wp2
            go_ret
            refine ⟨RetB.f ?_, hbr⟩
            intro hm
            have := (hm.1 k hlt).1
            omega
          · go_wp2_with fail
            refine (head_any _ b2 n c2 k fs _ hn hl2 hlt (fun _ => ⟨rfl, r2E⟩) (fun j hj => (hd j hj).2)).mono ?_
            rintro e w' ⟨rfl, rfl⟩
            obtain ⟨x, hx⟩ : ∃ x, Ch.hd fs (n + 1) k = x := ⟨_, rfl⟩
            rw [hx]
            have HX : Hid (Ch.hd fs (n + 1) k = x) := hx
            clear hx
            by_cases hx0 : x < 0
            · go_wp2
              go_ret
              refine ⟨RetB.f ?_, hbr⟩
              intro hm
              have := (hm.1 k hlt).2
              rw [HX.out] at this
              omega
            · go_wp2
              go_round
              case rel =>
                refine ⟨k + 1, by omega, by go_num, fun j hj => ?_⟩
                by_cases e : j = k
                · subst e; rw [HX.out]; omega
                · exact hok.out j (by omega)
              case measure => simp [intOf]; omega
        · have hok' : ∀ j, j < n → cF fs j n ≤ 1 ∧ 0 ≤ Ch.hd fs (n + 1) j := fun j hj => hok.out j (by omega)
          have HOK : Hid (∀ j, j < n → cF fs j n ≤ 1 ∧ 0 ≤ Ch.hd fs (n + 1) j) := hok'
          clear hok hok' hk
          go_wp2
          -- loop 3
          go_loop [13] (fun i => ∃ k : Nat, k ≤ N ∧ i = .int .i64 k ∧ Hid (∀ e, e < k → cI es fs e n ≤ 1)) (fun i => N - (intOf i).toNat)
          case atStart => exact ⟨0, Nat.zero_le _, rfl, fun j hj => by omega⟩
          case round =>
            obtain ⟨k, hk, rfl, hok⟩ := hrel
            by_cases hlt : k < N
            · have g3 := hsg.icell 1 rfl k (by have := hC.l2; omega)
              rw [hC.i k hlt] at g3
              by_cases hc1 : 1 < cI es fs k n
              · go_wp2
                go_ret
                refine ⟨RetB.f ?_, hbr⟩
                intro hm
                have := hm.2 k hlt
                omega
              · go_wp2
                go_round
                case rel =>
                  refine ⟨k + 1, by omega, by go_num, fun j hj => ?_⟩
                  by_cases e : j = k
                  · subst e; omega
                  · exact hok.out j (by omega)
                case measure => simp [intOf]; omega
            · go_wp2
              go_ret
              refine ⟨RetB.t ⟨HOK.out, fun e he => hok.out e (by omega)⟩, hbr⟩

end Go.Proofs.Qxb6602514a.Ch
