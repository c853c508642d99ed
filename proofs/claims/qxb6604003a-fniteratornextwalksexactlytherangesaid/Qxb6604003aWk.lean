import Derived.Test.Qxb6604003aAc
set_option linter.unusedVariables false
namespace Go.Proofs.Qxb6604003a
open Go.RowKit

variable {K V : Nat → Value} {kb : Nat → List UInt8}

/-! ### The range, plain -/
def AscB (kb : Nat → List UInt8) (n : Nat) : Prop := ∀ i j, i < j → j < n → cmpB (kb i) (kb j) < 0
/-- p is the first key that is not below lo. -/
def LoP (kb : Nat → List UInt8) (n : Nat) (lo : List UInt8) (p : Nat) : Prop := p ≤ n ∧ (∀ i, i < p → cmpB (kb i) lo < 0) ∧ ∀ i, p ≤ i → i < n → ¬cmpB (kb i) lo < 0
/-- From p on, the keys below the end reach up to q. -/
def HiP (kb : Nat → List UInt8) (n : Nat) (eb : Option (List UInt8)) (p q : Nat) : Prop := p ≤ q ∧ q ≤ n ∧ (∀ i, p ≤ i → i < q → ltE (kb i) eb = true) ∧ (q < n → ltE (kb q) eb = false)

theorem AscB.below {n : Nat} (ha : AscB kb n) {lo : List UInt8} {j : Nat} (hj : j < n) (h : cmpB (kb j) lo ≤ 0) : ∀ i, i < j → cmpB (kb i) lo < 0 := fun i hi => cmp_lt_le (ha i j hi hj) h
theorem AscB.above {n : Nat} (ha : AscB kb n) {lo : List UInt8} {j : Nat} (h : ¬cmpB (kb j) lo < 0) : ∀ i, j ≤ i → i < n → ¬cmpB (kb i) lo < 0 := fun i hi hn hlt => by
  rcases Nat.lt_or_eq_of_le hi with h1 | h1
  · exact h (cmp_trans (ha j i h1 hn) hlt)
  · subst h1; exact h hlt

/-- On the way down at level l, node x: all keys before it are below lo, none behind it is. -/
def Dn (kb : Nat → List UInt8) (n : Nat) (lo : List UInt8) (a b : Nat) : Prop := (∀ i, i < a → i < n → cmpB (kb i) lo < 0) ∧ ∀ i, b ≤ i → i < n → ¬cmpB (kb i) lo < 0

def upst (d : D) (h l x : Nat) : List Value := if l + 1 = h then [] else pth d.adr (h - 1 - (l + 1)) (l + 1) (x / 16) (x % 16)
theorem upst_push (d : D) (h l x j : Nat) (hl : l < h) : upst d h l x ++ [ptr (d.adr l x), .int .i64 (j : Nat)] = pth d.adr (h - 1 - l) l x j := by
  unfold upst
  by_cases e : l + 1 = h
  · rw [if_pos e, show h - 1 - l = 0 by omega]; rfl
  · rw [if_neg e, show h - 1 - l = h - 1 - (l + 1) + 1 by omega]; rfl
theorem upst_len (d : D) (h l x : Nat) (hl : l < h) : (upst d h l x).length = (h - 1 - l) * 2 := by
  unfold upst
  split
  · rw [show h - 1 - l = 0 by omega]; rfl
  · rw [pth_len]; omega
theorem upst_down (d : D) (h l x j : Nat) (hl : l + 1 < h) (hj : j < 16) : upst d h l (16 * x + j) = pth d.adr (h - 1 - (l + 1)) (l + 1) x j := by
  unfold upst
  rw [if_neg (by omega), show (16 * x + j) / 16 = x by omega, show (16 * x + j) % 16 = j by omega]

theorem mul16 (a l : Nat) : a * 16 ^ (l + 1) = 16 * a * 16 ^ l := by rw [Nat.pow_succ, Nat.mul_comm (16 ^ l) 16, ← Nat.mul_assoc, Nat.mul_comm a 16]

/-- The child that the way down takes. -/
theorem Dn.child {d : D} {h n l x j : Nat} {low : Nat → Nat → Value} {lo : List UInt8} (r : Rest K V kb d h low n) (ha : AscB kb n) (hl : l + 1 < h) (hd : Dn kb n lo (x * 16 ^ (l + 2)) ((x + 1) * 16 ^ (l + 2))) (hj : j < min 16 (d.nd l - 16 * x))
    (h1 : j = 0 ∨ cmpB (kb ((16 * x + j) * 16 ^ (l + 1))) lo ≤ 0) (h2 : j + 1 = min 16 (d.nd l - 16 * x) ∨ ¬cmpB (kb ((16 * x + (j + 1)) * 16 ^ (l + 1))) lo ≤ 0) (hn : 0 < n) :
    Dn kb n lo ((16 * x + j) * 16 ^ (l + 1)) ((16 * x + j + 1) * 16 ^ (l + 1)) := by
  have hfj := r.first hn (show l < h by omega) (show 16 * x + j < d.nd l by omega)
  constructor
  · rcases h1 with e | h1
    · subst e
      intro i hi hin
      refine hd.1 i ?_ hin
      rw [mul16 x (l + 1)]; exact hi
    · exact fun i hi _ => ha.below hfj h1 i hi
  · intro i hi hin
    rcases h2 with e | h2
    · by_cases e16 : j = 15
      · refine hd.2 i ?_ hin
        rw [mul16 (x + 1) (l + 1), show 16 * (x + 1) = 16 * x + j + 1 by omega]; exact hi
      · have := r.beyond (j := 16 * x + j + 1) (show l < h by omega) (by omega)
        omega
    · have hge : ¬cmpB (kb ((16 * x + j + 1) * 16 ^ (l + 1))) lo < 0 := fun h => h2 (by rw [← Nat.add_assoc]; omega)
      exact ha.above hge i hi hin

/-- .. and the leaf's entry. -/
theorem Dn.leaf {d : D} {h n x i : Nat} {low : Nat → Nat → Value} {lo : List UInt8} (r : Rest K V kb d h low n) (ha : AscB kb n) (hx : x < d.nd 0) (hd : Dn kb n lo (x * 16 ^ 1) ((x + 1) * 16 ^ 1)) (hi : i ≤ em n x) (h1 : ∀ t, t < i → cmpB (kb (16 * x + t)) lo < 0) (h2 : i = em n x ∨ ¬cmpB (kb (16 * x + i)) lo < 0) : LoP kb n lo (16 * x + i) := by
  have hle := r.leaf_le hx
  have hem : em n x = min 16 (n - 16 * x) := rfl
  have e1 : x * 16 ^ 1 = 16 * x := by rw [Nat.pow_one]; omega
  have e2 : (x + 1) * 16 ^ 1 = 16 * x + 16 := by rw [Nat.pow_one]; omega
  rw [e1, e2] at hd
  refine ⟨by omega, fun t ht => ?_, fun t ht htn => ?_⟩
  · by_cases e : t < 16 * x
    · exact hd.1 t e (by omega)
    · have := h1 (t - 16 * x) (by omega)
      rwa [show 16 * x + (t - 16 * x) = t by omega] at this
  · rcases h2 with e | h2
    · exact hd.2 t (by omega) htn
    · exact ha.above h2 t ht htn

/-! ### The iterator and the two lists that are being built -/
structure WS (w1 wr : World) (base IT : Nat) (sv ev cv : Value) (st : List Value) (kv vv : Value) (Ks Vs : List Value) : Prop where
  is : IS wr base IT sv ev cv st
  bel : Below base w1 wr
  ko : wr.ownsRow base 39 1 kv Ks.length Ks
  vo : wr.ownsRow base 39 1 vv Vs.length Vs
  n1 : kv.ownBlock ≠ some IT
  n2 : vv.ownBlock ≠ some IT
  n3 : ∀ g, kv.ownBlock = some g → sv.ownBlock ≠ some g
  n4 : ∀ g, vv.ownBlock = some g → sv.ownBlock ≠ some g
  n5 : ∀ g, kv.ownBlock = some g → vv.ownBlock ≠ some g

section
variable {w1 wr : World} {base IT : Nat} {sv ev cv : Value} {st : List Value} {kv vv : Value} {Ks Vs : List Value}

theorem WS.next (h : WS w1 wr base IT sv ev cv st kv vv Ks Vs) {wx : World} {sv' cv' : Value} {st' : List Value} (hN : NI w1 wr wx base IT sv sv' ev cv' st') : WS w1 wx base IT sv' ev cv' st' kv vv Ks Vs := by
  refine ⟨hN.is, hN.bel, hN.tch.own h.ko fun g hg s => ?_, hN.tch.own h.vo fun g hg s => ?_, h.n1, h.n2, fun g hg e => ?_, fun g hg e => ?_, h.n5⟩
  · have := (h.ko.lt g hg).2
    rcases s with rfl | s | s
    · exact h.n1 hg
    · exact h.n3 g hg s
    · omega
  · have := (h.vo.lt g hg).2
    rcases s with rfl | s | s
    · exact h.n2 hg
    · exact h.n4 g hg s
    · omega
  · have := (h.ko.lt g hg).2
    rcases hN.blk g e with s | s
    · exact h.n3 g hg s
    · omega
  · have := (h.vo.lt g hg).2
    rcases hN.blk g e with s | s
    · exact h.n4 g hg s
    · omega

theorem WS.below (h : WS w1 wr base IT sv ev cv st kv vv Ks Vs) (hb1 : w1.heap.size = base) {wx : World} (hb : Below wr.heap.size wr wx) : WS w1 wx base IT sv ev cv st kv vv Ks Vs :=
  h.next ((NI.start h.is h.bel).belowN hb (by rw [← hb1]; exact h.bel.size))

theorem WS.addK (h : WS w1 wr base IT sv ev cv st kv vv Ks Vs) (hbase : base ≤ wr.heap.size) {o : Obj} {w5 : World} {g n' cap' : Nat} {a : Value} (hg : (wr.alloc o).grownBy w5 kv.ownBlock) (hown : w5.ownsRow base 39 1 (.slice (some ⟨g, 0, none⟩) n' cap') n' (Ks ++ [a])) (hn : n' = (Ks ++ [a]).length) (hat : kv.ownBlock = some g ∨ wr.heap.size < g) :
    WS w1 w5 base IT sv ev cv st (.slice (some ⟨g, 0, none⟩) n' cap') vv (Ks ++ [a]) Vs := by
  have t : Tch wr w5 fun k => kv.ownBlock = some k := (tch_alloc wr o _).trans (tch_grown hg fun k hk => hk)
  have hIT := h.is.row.lt
  have hgne : ∀ k, k < wr.heap.size → kv.ownBlock ≠ some k → g ≠ k := fun k hk hne e => by
    subst e
    rcases hat with h1 | h1
    · exact hne h1
    · omega
  refine ⟨⟨t.row h.is.row fun s => h.n1 s, t.own h.is.own fun k hk s => h.n3 k s hk, h.is.ne, h.is.lo⟩, t.bel h.bel hbase fun k hk => (h.ko.lt k hk).1, by rw [← hn]; exact hown, t.own h.vo fun k hk s => h.n5 k s hk, ?_, h.n2, fun k hk e => ?_, h.n4, fun k hk e => ?_⟩
  · intro e
    exact hgne IT hIT h.n1 (by simpa [Value.ownBlock] using e)
  · have e1 : g = k := by simpa [Value.ownBlock] using hk
    exact hgne k (h.is.own.lt k e).2 (fun s => h.n3 k s e) e1
  · have e1 : g = k := by simpa [Value.ownBlock] using hk
    exact hgne k (h.vo.lt k e).2 (fun s => h.n5 k s e) e1

theorem WS.addV (h : WS w1 wr base IT sv ev cv st kv vv Ks Vs) (hbase : base ≤ wr.heap.size) {o : Obj} {w5 : World} {g n' cap' : Nat} {a : Value} (hg : (wr.alloc o).grownBy w5 vv.ownBlock) (hown : w5.ownsRow base 39 1 (.slice (some ⟨g, 0, none⟩) n' cap') n' (Vs ++ [a])) (hn : n' = (Vs ++ [a]).length) (hat : vv.ownBlock = some g ∨ wr.heap.size < g) :
    WS w1 w5 base IT sv ev cv st kv (.slice (some ⟨g, 0, none⟩) n' cap') Ks (Vs ++ [a]) := by
  have t : Tch wr w5 fun k => vv.ownBlock = some k := (tch_alloc wr o _).trans (tch_grown hg fun k hk => hk)
  have hIT := h.is.row.lt
  have hgne : ∀ k, k < wr.heap.size → vv.ownBlock ≠ some k → g ≠ k := fun k hk hne e => by
    subst e
    rcases hat with h1 | h1
    · exact hne h1
    · omega
  refine ⟨⟨t.row h.is.row fun s => h.n2 s, t.own h.is.own fun k hk s => h.n4 k s hk, h.is.ne, h.is.lo⟩, t.bel h.bel hbase fun k hk => (h.vo.lt k hk).1, t.own h.ko fun k hk s => h.n5 k hk s, by rw [← hn]; exact hown, h.n1, ?_, h.n3, fun k hk e => ?_, fun k hk e => ?_⟩
  · intro e
    exact hgne IT hIT h.n2 (by simpa [Value.ownBlock] using e)
  · have e1 : g = k := by simpa [Value.ownBlock] using hk
    exact hgne k (h.is.own.lt k e).2 (fun s => h.n4 k s e) e1
  · have e1 : g = k := by simpa [Value.ownBlock] using e
    exact hgne k (h.ko.lt k hk).2 (fun s => h.n5 k hk s) e1

end

/-- The values from p on. -/
def sub (F : Nat → Value) (p : Nat) : Nat → List Value
  | 0 => []
  | k + 1 => sub F p k ++ [F (p + k)]
theorem sub_len (F : Nat → Value) (p k : Nat) : (sub F p k).length = k := by
  induction k with
  | zero => rfl
  | succ k ih => simp [sub, ih]
theorem sub_at (F : Nat → Value) (p k i : Nat) (hi : i < k) : (sub F p k)[i]? = some (F (p + i)) := by
  induction k with
  | zero => omega
  | succ k ih =>
    have := sub_len F p k
    simp only [sub]
    by_cases e : i = k
    · subst e; rw [List.getElem?_append_right (by omega), this, Nat.sub_self]; rfl
    · rw [List.getElem?_append_left (by omega)]; exact ih (by omega)

end Go.Proofs.Qxb6604003a
