import Derived.Test.Qxb6604003aBx
set_option linter.unusedVariables false
namespace Go.Proofs.Qxb6604003a
open Go.RowKit

/-- w' is w but at the blocks of S, and with more blocks. -/
structure Tch (w w' : World) (S : Nat → Prop) : Prop where
  os : w'.os = w.os
  tape : w'.tape = w.tape
  output : w'.output = w.output
  size : w.heap.size ≤ w'.heap.size
  block : ∀ k, k < w.heap.size → ¬S k → w'.heap[k]? = w.heap[k]?

theorem Tch.refl (w : World) (S : Nat → Prop) : Tch w w S := ⟨rfl, rfl, rfl, Nat.le_refl _, fun _ _ _ => rfl⟩
theorem Tch.trans {a b c : World} {S : Nat → Prop} (h1 : Tch a b S) (h2 : Tch b c S) : Tch a c S :=
  ⟨h2.os.trans h1.os, h2.tape.trans h1.tape, h2.output.trans h1.output, Nat.le_trans h1.size h2.size, fun k hk hs => (h2.block k (by have := h1.size; omega) hs).trans (h1.block k hk hs)⟩
theorem Tch.mono {a b : World} {S T : Nat → Prop} (h : Tch a b S) (hs : ∀ k, S k → T k) : Tch a b T := ⟨h.os, h.tape, h.output, h.size, fun k hk ht => h.block k hk fun s => ht (hs k s)⟩
theorem tch_set (w : World) (a : Addr) (v : Value) {S : Nat → Prop} (hS : S a.block) : Tch w (w.setCell a v) S :=
  ⟨rfl, rfl, rfl, by simp, fun k hk hs => Below.heap_setCell _ _ _ _ (fun e => hs (e ▸ hS))⟩
theorem tch_alloc (w : World) (o : Obj) (S : Nat → Prop) : Tch w (w.alloc o) S := ⟨rfl, rfl, rfl, by simp, fun k hk _ => Below.heap_alloc _ _ _ hk⟩
theorem tch_grown {w w' : World} {row : Option Nat} (h : w.grownBy w' row) {S : Nat → Prop} (hS : ∀ k, row = some k → S k) : Tch w w' S :=
  ⟨h.os, h.tape, h.output, h.size, fun k hk hs => h.block k hk fun e => hs (hS k e.symm)⟩
theorem tch_below {w w' : World} (h : Below w.heap.size w w') (S : Nat → Prop) : Tch w w' S := ⟨h.os, h.tape, h.output, h.size, fun k hk _ => h.block k hk⟩

theorem Tch.row {w w' : World} {S : Nat → Prop} {b : Nat} {e : TypeId} {vs : List Value} (t : Tch w w' S) (h : Row w b e vs) (hb : ¬S b) : Row w' b e vs := by
  have := h.lt
  unfold Row at h ⊢
  rw [t.block b this hb]; exact h
theorem Tch.own {w w' : World} {S : Nat → Prop} {base : Nat} {e : TypeId} {size : Nat} {v : Value} {n : Nat} {xs : List Value} (t : Tch w w' S) (h : w.ownsRow base e size v n xs) (hb : ∀ g, v.ownBlock = some g → ¬S g) : w'.ownsRow base e size v n xs := by
  refine ⟨h.1, ?_⟩
  rcases h.2 with hn | ⟨g, cap, cur, rfl, hb', hgg, rest⟩
  · exact .inl hn
  · refine .inr ⟨g, cap, cur, rfl, hb', ?_, rest⟩
    rw [t.block g (Array.getElem?_eq_some_iff.1 hgg).1 (hb g rfl)]
    exact hgg
theorem Tch.bel {w0 w w' : World} {S : Nat → Prop} {B : Nat} (t : Tch w w' S) (h : Below B w0 w) (hB : B ≤ w.heap.size) (hS : ∀ k, S k → B ≤ k) : Below B w0 w' :=
  h.trans ⟨t.os, t.tape, t.output, t.size, fun k hk => t.block k (by omega) (fun s => by have := hS k s; omega)⟩

/-- The tree that a Builder holds, and its book-keeping. nd l: how many nodes at level l (0: the leaves); adr: their blocks; slv: a node's slice; it: the slice's cells; col: whose a block is. -/
structure D where
  nd : Nat → Nat
  adr : Nat → Nat → Nat
  slv : Nat → Nat → Value
  it : Nat → Nat → List Value
  root : Value
  len : Nat
  spv : Value
  sp : List Value
  col : Nat → Option (Nat × Nat × Nat)
  lows : List (Value × List UInt8)

def nrow (l : Nat) (v : Value) : List Value := if l = 0 then [v, .slice none 0 0, .int .u64 1] else [.slice none 0 0, v, .int .u64 1]
def ety (l : Nat) : TypeId := if l = 0 then 72 else 61
def foff (l : Nat) : Nat := if l = 0 then 0 else 1

def upd2 {α : Type} (f : Nat → Nat → α) (l q : Nat) (v : α) : Nat → Nat → α := fun l' q' => if l' = l ∧ q' = q then v else f l' q'
theorem upd2_same {α : Type} (f : Nat → Nat → α) (l q : Nat) (v : α) : upd2 f l q v l q = v := by simp [upd2]
theorem upd2_ne {α : Type} (f : Nat → Nat → α) (l q : Nat) (v : α) {l' q' : Nat} (h : ¬(l' = l ∧ q' = q)) : upd2 f l q v l' q' = f l' q' := by simp [upd2, h]
def upd1 {α : Type} (f : Nat → α) (l : Nat) (v : α) : Nat → α := fun l' => if l' = l then v else f l'
theorem upd1_same {α : Type} (f : Nat → α) (l : Nat) (v : α) : upd1 f l v l = v := by simp [upd1]
theorem upd1_ne {α : Type} (f : Nat → α) (l : Nat) (v : α) {l' : Nat} (h : l' ≠ l) : upd1 f l v l' = f l' := by simp [upd1, h]

/-- A low key's own copy. -/
def LowV (w : World) (col : Nat → Option (Nat × Nat × Nat)) (v : Value) (ks : List UInt8) : Prop := ∃ g cap, v = .slice (some ⟨g, 0, none⟩) ks.length cap ∧ Bs w (some ⟨g, 0, none⟩) cap g 0 ks ∧ col g = none ∧ g < w.heap.size

structure TS (w0 w : World) (base B : Nat) (d : D) : Prop where
  bel : Below base w0 w
  lo : base ≤ w.heap.size
  bld : Row w B 54 [d.root, .int .i64 (d.len : Nat), .int .u64 1, d.spv]
  spo : w.ownsRow base 32 1 d.spv d.sp.length d.sp
  node : ∀ l q, q < d.nd l → Row w (d.adr l q) 59 (nrow l (d.slv l q))
  own : ∀ l q, q < d.nd l → w.ownsRow base (ety l) 2 (d.slv l q) ((d.it l q).length / 2) (d.it l q)
  cB : d.col B = some (9, 0, 0)
  cS : ∀ g, d.spv.ownBlock = some g → d.col g = some (8, 0, 0)
  cN : ∀ l q, q < d.nd l → d.col (d.adr l q) = some (0, l, q)
  cA : ∀ l q, q < d.nd l → ∀ g, (d.slv l q).ownBlock = some g → d.col g = some (1, l, q)
  cnew : ∀ g, w.heap.size ≤ g → d.col g = none
  clo : ∀ g, d.col g ≠ none → base ≤ g
  lw : ∀ p, p ∈ d.lows → LowV w d.col p.1 p.2

theorem LowV.tch {w w' : World} {S : Nat → Prop} {col : Nat → Option (Nat × Nat × Nat)} {v : Value} {ks : List UInt8} (h : LowV w col v ks) (t : Tch w w' S) (hS : ∀ k, S k → col k ≠ none) (col' : Nat → Option (Nat × Nat × Nat)) (hc : ∀ g, g < w.heap.size → col g = none → col' g = none) : LowV w' col' v ks := by
  obtain ⟨g, cap, rfl, hb, hn, hlt⟩ := h
  have e : w'.heap[g]? = w.heap[g]? := t.block g hlt fun s => hS g s hn
  refine ⟨g, cap, rfl, ⟨hb.nil, hb.at', fun i hi => ?_, hb.max⟩, hc g hlt hn, by have := t.size; omega⟩
  rw [World.cell?_of_block (w := w) e]
  exact hb.cell i hi

/-- Nothing of the tree is touched. -/
theorem TS.keep {w0 w w' : World} {base B : Nat} {d : D} (h : TS w0 w base B d) (t : Tch w w' fun _ => False) : TS w0 w' base B d := by
  refine ⟨t.bel h.bel h.lo fun k hk => hk.elim, Nat.le_trans h.lo t.size, t.row h.bld id, t.own h.spo fun _ _ => id, fun l q hq => t.row (h.node l q hq) id, fun l q hq => t.own (h.own l q hq) fun _ _ => id, h.cB, h.cS, h.cN, h.cA, fun g hg => h.cnew g (Nat.le_trans t.size hg), h.clo, fun p hp => (h.lw p hp).tch t (fun k hk => hk.elim) _ fun g _ hn => hn⟩

theorem TS.alloc {w0 w : World} {base B : Nat} {d : D} (h : TS w0 w base B d) (o : Obj) : TS w0 (w.alloc o) base B d := h.keep (tch_alloc w o _)
theorem TS.below {w0 w w' : World} {base B : Nat} {d : D} (h : TS w0 w base B d) (hb : Below w.heap.size w w') : TS w0 w' base B d := h.keep (tch_below hb _)
theorem TS.drewN {w0 w : World} {base B : Nat} {d : D} (h : TS w0 w base B d) (n : Nat) : TS w0 (w.drewN n) base B d := h.below ⟨rfl, rfl, rfl, Nat.le_refl _, fun _ _ => rfl⟩
theorem TS.drew {w0 w : World} {base B : Nat} {d : D} (h : TS w0 w base B d) : TS w0 w.drew base B d := h.below ⟨rfl, rfl, rfl, Nat.le_refl _, fun _ _ => rfl⟩

theorem TS.hB {w0 w : World} {base B : Nat} {d : D} (h : TS w0 w base B d) : base ≤ B := h.clo B (by rw [h.cB]; simp)
theorem TS.hN {w0 w : World} {base B : Nat} {d : D} (h : TS w0 w base B d) {l q : Nat} (hq : q < d.nd l) : base ≤ d.adr l q := h.clo _ (by rw [h.cN l q hq]; simp)

/-- One more low. -/
theorem TS.addLow {w0 w : World} {base B : Nat} {d : D} (h : TS w0 w base B d) {v : Value} {ks : List UInt8} (hl : LowV w d.col v ks) : TS w0 w base B { d with lows := (v, ks) :: d.lows } := by
  refine ⟨h.bel, h.lo, h.bld, h.spo, h.node, h.own, h.cB, h.cS, h.cN, h.cA, h.cnew, h.clo, fun p hp => ?_⟩
  rcases List.mem_cons.1 hp with rfl | hp
  · exact hl
  · exact h.lw p hp

/-- The builder's own cells. -/
theorem TS.setB {w0 w : World} {base B : Nat} {d : D} (h : TS w0 w base B d) (r : Value) (k : Nat) (sv : Value) (sp : List Value) (i : Nat) (v : Value) (hs : [d.root, .int .i64 (d.len : Nat), .int .u64 1, d.spv].set i v = [r, .int .i64 (k : Nat), .int .u64 1, sv]) (ho : w.ownsRow base 32 1 sv sp.length sp) (hc : ∀ g, sv.ownBlock = some g → d.col g = some (8, 0, 0)) :
    TS w0 (w.setCell ⟨B, i, none⟩ v) base B { d with root := r, len := k, spv := sv, sp := sp } := by
  have t : Tch w (w.setCell ⟨B, i, none⟩ v) fun g => g = B := tch_set w _ v rfl
  have hS : ∀ k, k = B → d.col k ≠ none := fun k hk => by rw [hk, h.cB]; simp
  refine ⟨t.bel h.bel h.lo fun k hk => by rw [hk]; exact h.hB, Nat.le_trans h.lo t.size, ?_, t.own ho fun g hg e => ?_, fun l q hq => t.row (h.node l q hq) fun e => ?_, fun l q hq => t.own (h.own l q hq) fun g hg e => ?_, h.cB, hc, h.cN, h.cA, fun g hg => h.cnew g (Nat.le_trans t.size hg), h.clo, fun p hp => (h.lw p hp).tch t hS _ fun g _ hn => hn⟩
  · have := h.bld.set i v
    rw [hs] at this
    exact this
  · have h1 := hc g hg; rw [e, h.cB] at h1; simp at h1
  · have h1 := h.cN l q hq; rw [e, h.cB] at h1; simp at h1
  · have h1 := h.cA l q hq g hg; rw [e, h.cB] at h1; simp at h1

/-- A node's slice is replaced (behind an append, or a make). -/
theorem TS.put {w0 w w1 : World} {base B : Nat} {d : D} (h : TS w0 w base B d) {l q : Nat} (hq : q < d.nd l) (hg : w.grownBy w1 (d.slv l q).ownBlock) {g n cap : Nat} {xs : List Value} (hn : n = xs.length / 2)
    (hown : w1.ownsRow base (ety l) 2 (.slice (some ⟨g, 0, none⟩) n cap) n xs) (hat : (d.slv l q).ownBlock = some g ∨ w.heap.size ≤ g) (hlt : g < w1.heap.size) :
    TS w0 (w1.setCell ⟨d.adr l q, foff l, none⟩ (.slice (some ⟨g, 0, none⟩) n cap)) base B { d with slv := upd2 d.slv l q (.slice (some ⟨g, 0, none⟩) n cap), it := upd2 d.it l q xs, col := fun k => if k = g then some (1, l, q) else d.col k } := by
  have hbg := (hown.lt g rfl).1
  have t1 : Tch w w1 fun k => (d.slv l q).ownBlock = some k ∨ k = d.adr l q := tch_grown hg fun k hk => .inl hk
  have t2 : Tch w1 (w1.setCell ⟨d.adr l q, foff l, none⟩ (.slice (some ⟨g, 0, none⟩) n cap)) fun k => (d.slv l q).ownBlock = some k ∨ k = d.adr l q := tch_set w1 _ _ (.inr rfl)
  have t := t1.trans t2
  have hS : ∀ k, ((d.slv l q).ownBlock = some k ∨ k = d.adr l q) → d.col k = some (1, l, q) ∨ d.col k = some (0, l, q) := fun k hk => by
    rcases hk with hk | rfl
    · exact .inl (h.cA l q hq k hk)
    · exact .inr (h.cN l q hq)
  have hgc : ∀ k, d.col k ≠ none → d.col k ≠ some (1, l, q) → k ≠ g := fun k hk h1 e => by
    subst e
    rcases hat with h2 | h2
    · exact h1 (h.cA l q hq k h2)
    · exact hk (h.cnew k h2)
  have hcol : ∀ k, d.col k ≠ none → d.col k ≠ some (1, l, q) → (if k = g then some (1, l, q) else d.col k) = d.col k := fun k hk h1 => if_neg (hgc k hk h1)
  refine ⟨t.bel h.bel h.lo fun k hk => h.clo k (by rcases hS k hk with e | e <;> rw [e] <;> simp), Nat.le_trans h.lo t.size, t.row h.bld fun s => ?_, t.own h.spo fun g' hg' s => ?_, fun l' q' hq' => ?_, fun l' q' hq' => ?_, ?_, fun g' hg' => ?_, fun l' q' hq' => ?_, fun l' q' hq' g' hg' => ?_, fun g' hg' => ?_, fun g' hg' => ?_, fun p hp => (h.lw p hp).tch t (fun k hk => by rcases hS k hk with e | e <;> rw [e] <;> simp) _ fun g' hlt' hn' => ?_⟩
  · rcases hS B s with e | e <;> rw [h.cB] at e <;> simp at e
  · have h1 := h.cS g' hg'
    rcases hS g' s with e | e <;> rw [h1] at e <;> simp at e
  · by_cases e : l' = l ∧ q' = q
    · obtain ⟨rfl, rfl⟩ := e
      have hr : Row w1 (d.adr l' q') 59 (nrow l' (d.slv l' q')) := Row.grown (h.node l' q' hq') hg (fun e => by have h1 := h.cA l' q' hq' _ e.symm; rw [h.cN l' q' hq'] at h1; simp at h1)
      have hr2 := hr.set (foff l') (.slice (some ⟨g, 0, none⟩) n cap)
      have e2 : (nrow l' (d.slv l' q')).set (foff l') (.slice (some ⟨g, 0, none⟩) n cap) = nrow l' (upd2 d.slv l' q' (.slice (some ⟨g, 0, none⟩) n cap) l' q') := by
        rw [upd2_same]; unfold nrow foff; split <;> rfl
      rw [e2] at hr2
      exact hr2
    · show Row _ (d.adr l' q') 59 (nrow l' (upd2 d.slv l q (.slice (some ⟨g, 0, none⟩) n cap) l' q'))
      rw [upd2_ne _ _ _ _ e]
      refine t.row (h.node l' q' hq') fun s => ?_
      have h1 := h.cN l' q' hq'
      rcases hS _ s with e' | e' <;> rw [h1] at e' <;> simp at e'
      exact e e'
  · by_cases e : l' = l ∧ q' = q
    · obtain ⟨rfl, rfl⟩ := e
      show World.ownsRow _ base (ety l') 2 (upd2 d.slv l' q' _ l' q') ((upd2 d.it l' q' xs l' q').length / 2) (upd2 d.it l' q' xs l' q')
      rw [upd2_same, upd2_same, ← hn]
      refine (tch_set w1 ⟨d.adr l' q', foff l', none⟩ (.slice (some ⟨g, 0, none⟩) n cap) (S := fun k => k = d.adr l' q') rfl).own hown fun g' hg' e => ?_
      obtain rfl : g = g' := by simpa [Value.ownBlock] using hg'
      exact hgc (d.adr l' q') (by rw [h.cN l' q' hq']; simp) (by rw [h.cN l' q' hq']; simp) e.symm
    · show World.ownsRow _ base (ety l') 2 (upd2 d.slv l q _ l' q') ((upd2 d.it l q xs l' q').length / 2) (upd2 d.it l q xs l' q')
      rw [upd2_ne _ _ _ _ e, upd2_ne _ _ _ _ e]
      refine t.own (h.own l' q' hq') fun g' hg' s => ?_
      have h1 := h.cA l' q' hq' g' hg'
      rcases hS _ s with e' | e' <;> rw [h1] at e' <;> simp at e'
      exact e e'
  · exact (hcol B (by rw [h.cB]; simp) (by rw [h.cB]; simp)).trans h.cB
  · have h1 := h.cS g' hg'
    exact (hcol g' (by rw [h1]; simp) (by rw [h1]; simp)).trans h1
  · have h1 := h.cN l' q' hq'
    exact (hcol _ (by rw [h1]; simp) (by rw [h1]; simp)).trans h1
  · by_cases e : l' = l ∧ q' = q
    · obtain ⟨rfl, rfl⟩ := e
      have hg2 : (upd2 d.slv l' q' (.slice (some ⟨g, 0, none⟩) n cap) l' q').ownBlock = some g' := hg'
      rw [upd2_same] at hg2
      obtain rfl : g = g' := by simpa [Value.ownBlock] using hg2
      exact if_pos rfl
    · have hg2 : (upd2 d.slv l q (.slice (some ⟨g, 0, none⟩) n cap) l' q').ownBlock = some g' := hg'
      rw [upd2_ne _ _ _ _ e] at hg2
      have h1 := h.cA l' q' hq' g' hg2
      exact (hcol g' (by rw [h1]; simp) (by rw [h1]; simp; exact fun a b => e ⟨a, b⟩)).trans h1
  · have hs : w1.heap.size ≤ g' := by simpa using hg'
    show (if g' = g then some (1, l, q) else d.col g') = none
    rw [if_neg (by omega)]
    exact h.cnew g' (by have := t1.size; omega)
  · by_cases e : g' = g
    · subst e; exact hbg
    · have hg2 : (if g' = g then some (1, l, q) else d.col g') ≠ none := hg'
      rw [if_neg e] at hg2
      exact h.clo g' hg2
  · show (if g' = g then some (1, l, q) else d.col g') = none
    rw [if_neg fun e => ?_]
    · exact hn'
    · subst e
      rcases hat with h2 | h2
      · rw [h.cA l q hq g' h2] at hn'; simp at hn'
      · omega

/-- A new node, empty, at level l. -/
theorem TS.newNode {w0 w : World} {base B : Nat} {d : D} (h : TS w0 w base B d) (l : Nat) :
    TS w0 (w.alloc (.cells #[.slice none 0 0, .slice none 0 0, .int .u64 1] 59)) base B { d with nd := upd1 d.nd l (d.nd l + 1), adr := upd2 d.adr l (d.nd l) w.heap.size, slv := upd2 d.slv l (d.nd l) (.slice none 0 0), it := upd2 d.it l (d.nd l) [], col := fun k => if k = w.heap.size then some (0, l, d.nd l) else d.col k } := by
  have t : Tch w (w.alloc (.cells #[.slice none 0 0, .slice none 0 0, .int .u64 1] 59)) fun _ => False := tch_alloc w _ _
  have hcol : ∀ k, d.col k ≠ none → (if k = w.heap.size then some (0, l, d.nd l) else d.col k) = d.col k := fun k hk => if_neg fun e => hk (h.cnew k (by omega))
  have hcase : ∀ l' q', q' < upd1 d.nd l (d.nd l + 1) l' → (l' = l ∧ q' = d.nd l) ∨ (¬(l' = l ∧ q' = d.nd l) ∧ q' < d.nd l') := fun l' q' hq' => by
    by_cases e : l' = l
    · subst e
      rw [upd1_same] at hq'
      by_cases e2 : q' = d.nd l'
      · exact .inl ⟨rfl, e2⟩
      · exact .inr ⟨fun x => e2 x.2, by omega⟩
    · rw [upd1_ne _ _ _ e] at hq'
      exact .inr ⟨fun x => e x.1, hq'⟩
  refine ⟨t.bel h.bel h.lo fun k hk => hk.elim, Nat.le_trans h.lo t.size, t.row h.bld id, t.own h.spo fun _ _ => id, fun l' q' hq' => ?_, fun l' q' hq' => ?_, ?_, fun g' hg' => ?_, fun l' q' hq' => ?_, fun l' q' hq' g' hg' => ?_, fun g' hg' => ?_, fun g' hg' => ?_, fun p hp => (h.lw p hp).tch t (fun k hk => hk.elim) _ fun g' hlt' hn' => ?_⟩
  · show Row _ (upd2 d.adr l (d.nd l) w.heap.size l' q') 59 (nrow l' (upd2 d.slv l (d.nd l) (.slice none 0 0) l' q'))
    rcases hcase l' q' hq' with ⟨rfl, rfl⟩ | ⟨e, hq2⟩
    · rw [upd2_same, upd2_same]
      have := Row.alloc_new w 59 #[.slice none 0 0, .slice none 0 0, .int .u64 1]
      unfold nrow
      split <;> exact this
    · rw [upd2_ne _ _ _ _ e, upd2_ne _ _ _ _ e]
      exact t.row (h.node l' q' hq2) id
  · show World.ownsRow _ base (ety l') 2 (upd2 d.slv l (d.nd l) _ l' q') ((upd2 d.it l (d.nd l) [] l' q').length / 2) (upd2 d.it l (d.nd l) [] l' q')
    rcases hcase l' q' hq' with ⟨rfl, rfl⟩ | ⟨e, hq2⟩
    · rw [upd2_same, upd2_same]
      exact World.ownsRow_nil _ _ _ _
    · rw [upd2_ne _ _ _ _ e, upd2_ne _ _ _ _ e]
      exact t.own (h.own l' q' hq2) fun _ _ => id
  · exact (hcol B (by rw [h.cB]; simp)).trans h.cB
  · have h1 := h.cS g' hg'
    exact (hcol g' (by rw [h1]; simp)).trans h1
  · show (if upd2 d.adr l (d.nd l) w.heap.size l' q' = w.heap.size then some (0, l, d.nd l) else d.col (upd2 d.adr l (d.nd l) w.heap.size l' q')) = some (0, l', q')
    rcases hcase l' q' hq' with ⟨rfl, rfl⟩ | ⟨e, hq2⟩
    · rw [upd2_same, if_pos rfl]
    · rw [upd2_ne _ _ _ _ e]
      have h1 := h.cN l' q' hq2
      exact (hcol _ (by rw [h1]; simp)).trans h1
  · have hg2 : (upd2 d.slv l (d.nd l) (.slice none 0 0) l' q').ownBlock = some g' := hg'
    rcases hcase l' q' hq' with ⟨rfl, rfl⟩ | ⟨e, hq2⟩
    · rw [upd2_same] at hg2; simp [Value.ownBlock] at hg2
    · rw [upd2_ne _ _ _ _ e] at hg2
      have h1 := h.cA l' q' hq2 g' hg2
      exact (hcol _ (by rw [h1]; simp)).trans h1
  · have hs : w.heap.size + 1 ≤ g' := by simpa using hg'
    show (if g' = w.heap.size then some (0, l, d.nd l) else d.col g') = none
    rw [if_neg (by omega)]
    exact h.cnew g' (by omega)
  · by_cases e : g' = w.heap.size
    · rw [e]; exact h.lo
    · have hg2 : (if g' = w.heap.size then some (0, l, d.nd l) else d.col g') ≠ none := hg'
      rw [if_neg e] at hg2
      exact h.clo g' hg2
  · show (if g' = w.heap.size then some (0, l, d.nd l) else d.col g') = none
    rw [if_neg (by omega)]
    exact hn'

/-- The spine's slice is replaced (behind an append). -/
theorem TS.spine {w0 w w1 : World} {base B : Nat} {d : D} (h : TS w0 w base B d) {row : Option Nat} (hg : w.grownBy w1 row) (hrow : ∀ k, row = some k → d.col k = some (8, 0, 0)) {g n cap : Nat} {sp : List Value} (hn : n = sp.length)
    (hown : w1.ownsRow base 32 1 (.slice (some ⟨g, 0, none⟩) n cap) n sp) (hat : row = some g ∨ w.heap.size ≤ g) (hlt : g < w1.heap.size) :
    TS w0 (w1.setCell ⟨B, 3, none⟩ (.slice (some ⟨g, 0, none⟩) n cap)) base B { d with spv := .slice (some ⟨g, 0, none⟩) n cap, sp := sp, col := fun k => if k = g then some (8, 0, 0) else d.col k } := by
  have hbg := (hown.lt g rfl).1
  have t1 : Tch w w1 fun k => row = some k ∨ k = B := tch_grown hg fun k hk => .inl hk
  have t2 : Tch w1 (w1.setCell ⟨B, 3, none⟩ (.slice (some ⟨g, 0, none⟩) n cap)) fun k => row = some k ∨ k = B := tch_set w1 _ _ (.inr rfl)
  have t := t1.trans t2
  have hS : ∀ k, (row = some k ∨ k = B) → d.col k = some (8, 0, 0) ∨ d.col k = some (9, 0, 0) := fun k hk => by
    rcases hk with hk | rfl
    · exact .inl (hrow k hk)
    · exact .inr h.cB
  have hgc : ∀ k, d.col k ≠ none → d.col k ≠ some (8, 0, 0) → k ≠ g := fun k hk h1 e => by
    subst e
    rcases hat with h2 | h2
    · exact h1 (hrow k h2)
    · exact hk (h.cnew k h2)
  have hcol : ∀ k, d.col k ≠ none → d.col k ≠ some (8, 0, 0) → (if k = g then some (8, 0, 0) else d.col k) = d.col k := fun k hk h1 => if_neg (hgc k hk h1)
  refine ⟨t.bel h.bel h.lo fun k hk => h.clo k (by rcases hS k hk with e | e <;> rw [e] <;> simp), Nat.le_trans h.lo t.size, ?_, ?_, fun l' q' hq' => t.row (h.node l' q' hq') fun s => ?_, fun l' q' hq' => t.own (h.own l' q' hq') fun g' hg' s => ?_, ?_, fun g' hg' => ?_, fun l' q' hq' => ?_, fun l' q' hq' g' hg' => ?_, fun g' hg' => ?_, fun g' hg' => ?_, fun p hp => (h.lw p hp).tch t (fun k hk => by rcases hS k hk with e | e <;> rw [e] <;> simp) _ fun g' hlt' hn' => ?_⟩
  · have hr : Row w1 B 54 [d.root, .int .i64 (d.len : Nat), .int .u64 1, d.spv] := Row.grown h.bld hg (fun e => by have h1 := hrow _ e.symm; rw [h.cB] at h1; simp at h1)
    exact hr.set 3 _
  · show World.ownsRow _ base 32 1 (.slice (some ⟨g, 0, none⟩) n cap) sp.length sp
    rw [← hn]
    refine (tch_set w1 ⟨B, 3, none⟩ (.slice (some ⟨g, 0, none⟩) n cap) (S := fun k => k = B) rfl).own hown fun g' hg' e => ?_
    obtain rfl : g = g' := by simpa [Value.ownBlock] using hg'
    exact hgc B (by rw [h.cB]; simp) (by rw [h.cB]; simp) e.symm
  · have h1 := h.cN l' q' hq'
    rcases hS _ s with e' | e' <;> rw [h1] at e' <;> simp at e'
  · have h1 := h.cA l' q' hq' g' hg'
    rcases hS _ s with e' | e' <;> rw [h1] at e' <;> simp at e'
  · exact (hcol B (by rw [h.cB]; simp) (by rw [h.cB]; simp)).trans h.cB
  · obtain rfl : g = g' := by simpa [Value.ownBlock] using hg'
    exact if_pos rfl
  · have h1 := h.cN l' q' hq'
    exact (hcol _ (by rw [h1]; simp) (by rw [h1]; simp)).trans h1
  · have h1 := h.cA l' q' hq' g' hg'
    exact (hcol _ (by rw [h1]; simp) (by rw [h1]; simp)).trans h1
  · have hs : w1.heap.size ≤ g' := by simpa using hg'
    show (if g' = g then some (8, 0, 0) else d.col g') = none
    rw [if_neg (by omega)]
    exact h.cnew g' (by have := t1.size; omega)
  · by_cases e : g' = g
    · subst e; exact hbg
    · have hg2 : (if g' = g then some (8, 0, 0) else d.col g') ≠ none := hg'
      rw [if_neg e] at hg2
      exact h.clo g' hg2
  · show (if g' = g then some (8, 0, 0) else d.col g') = none
    rw [if_neg fun e => ?_]
    · exact hn'
    · subst e
      rcases hat with h2 | h2
      · rw [hrow g' h2] at hn'; simp at hn'
      · omega

/-- Only new blocks are touched. -/
theorem Tch.out {w w' : World} (t : Tch w w' fun k => w.heap.size ≤ k) : Tch w w' fun _ => False := ⟨t.os, t.tape, t.output, t.size, fun k hk _ => t.block k hk (by omega)⟩

/-- A new node at level l over a slice of its own. -/
theorem TS.newNodeV {w0 w w1 : World} {base B : Nat} {d : D} (h : TS w0 w base B d) (t1 : Tch w w1 fun _ => False) (l : Nat) {g n cap : Nat} {xs : List Value} (hn : n = xs.length / 2)
    (hown : w1.ownsRow base (ety l) 2 (.slice (some ⟨g, 0, none⟩) n cap) n xs) (hgn : w.heap.size ≤ g) :
    TS w0 (w1.alloc (.cells (nrow l (.slice (some ⟨g, 0, none⟩) n cap)).toArray 59)) base B { d with nd := upd1 d.nd l (d.nd l + 1), adr := upd2 d.adr l (d.nd l) w1.heap.size, slv := upd2 d.slv l (d.nd l) (.slice (some ⟨g, 0, none⟩) n cap), it := upd2 d.it l (d.nd l) xs, col := fun k => if k = w1.heap.size then some (0, l, d.nd l) else if k = g then some (1, l, d.nd l) else d.col k } := by
  have hgl := hown.lt g rfl
  have ht := t1.size
  have t : Tch w (w1.alloc (.cells (nrow l (.slice (some ⟨g, 0, none⟩) n cap)).toArray 59)) fun _ => False := t1.trans (tch_alloc w1 _ _)
  have hcol : ∀ k, k < w.heap.size → (if k = w1.heap.size then some (0, l, d.nd l) else if k = g then some (1, l, d.nd l) else d.col k) = d.col k := fun k hk => by rw [if_neg (by omega), if_neg (by omega)]
  have hlt : ∀ k, d.col k ≠ none → k < w.heap.size := fun k hk => by
    rcases Nat.lt_or_ge k w.heap.size with h1 | h1
    · exact h1
    · exact absurd (h.cnew k h1) hk
  have hcase : ∀ l' q', q' < upd1 d.nd l (d.nd l + 1) l' → (l' = l ∧ q' = d.nd l) ∨ (¬(l' = l ∧ q' = d.nd l) ∧ q' < d.nd l') := fun l' q' hq' => by
    by_cases e : l' = l
    · subst e
      rw [upd1_same] at hq'
      by_cases e2 : q' = d.nd l'
      · exact .inl ⟨rfl, e2⟩
      · exact .inr ⟨fun x => e2 x.2, by omega⟩
    · rw [upd1_ne _ _ _ e] at hq'
      exact .inr ⟨fun x => e x.1, hq'⟩
  refine ⟨t.bel h.bel h.lo fun k hk => hk.elim, Nat.le_trans h.lo t.size, t.row h.bld id, t.own h.spo fun _ _ => id, fun l' q' hq' => ?_, fun l' q' hq' => ?_, ?_, fun g' hg' => ?_, fun l' q' hq' => ?_, fun l' q' hq' g' hg' => ?_, fun g' hg' => ?_, fun g' hg' => ?_, fun p hp => (h.lw p hp).tch t (fun k hk => hk.elim) _ fun g' hlt' hn' => ?_⟩
  · show Row _ (upd2 d.adr l (d.nd l) w1.heap.size l' q') 59 (nrow l' (upd2 d.slv l (d.nd l) (.slice (some ⟨g, 0, none⟩) n cap) l' q'))
    rcases hcase l' q' hq' with ⟨rfl, rfl⟩ | ⟨e, hq2⟩
    · rw [upd2_same, upd2_same]
      have := Row.alloc_new w1 59 (nrow l' (.slice (some ⟨g, 0, none⟩) n cap)).toArray
      simpa using this
    · rw [upd2_ne _ _ _ _ e, upd2_ne _ _ _ _ e]
      exact t.row (h.node l' q' hq2) id
  · show World.ownsRow _ base (ety l') 2 (upd2 d.slv l (d.nd l) _ l' q') ((upd2 d.it l (d.nd l) xs l' q').length / 2) (upd2 d.it l (d.nd l) xs l' q')
    rcases hcase l' q' hq' with ⟨rfl, rfl⟩ | ⟨e, hq2⟩
    · rw [upd2_same, upd2_same, ← hn]
      exact hown.alloc _
    · rw [upd2_ne _ _ _ _ e, upd2_ne _ _ _ _ e]
      exact t.own (h.own l' q' hq2) fun _ _ => id
  · exact (hcol B (hlt B (by rw [h.cB]; simp))).trans h.cB
  · have h1 := h.cS g' hg'
    exact (hcol g' (hlt _ (by rw [h1]; simp))).trans h1
  · show (if upd2 d.adr l (d.nd l) w1.heap.size l' q' = w1.heap.size then some (0, l, d.nd l) else if upd2 d.adr l (d.nd l) w1.heap.size l' q' = g then some (1, l, d.nd l) else d.col (upd2 d.adr l (d.nd l) w1.heap.size l' q')) = some (0, l', q')
    rcases hcase l' q' hq' with ⟨rfl, rfl⟩ | ⟨e, hq2⟩
    · rw [upd2_same, if_pos rfl]
    · rw [upd2_ne _ _ _ _ e]
      have h1 := h.cN l' q' hq2
      exact (hcol _ (hlt _ (by rw [h1]; simp))).trans h1
  · have hg2 : (upd2 d.slv l (d.nd l) (.slice (some ⟨g, 0, none⟩) n cap) l' q').ownBlock = some g' := hg'
    rcases hcase l' q' hq' with ⟨rfl, rfl⟩ | ⟨e, hq2⟩
    · rw [upd2_same] at hg2
      obtain rfl : g = g' := by simpa [Value.ownBlock] using hg2
      show (if g = w1.heap.size then _ else if g = g then _ else _) = _
      rw [if_neg (by omega), if_pos rfl]
    · rw [upd2_ne _ _ _ _ e] at hg2
      have h1 := h.cA l' q' hq2 g' hg2
      exact (hcol _ (hlt _ (by rw [h1]; simp))).trans h1
  · have hs : w1.heap.size + 1 ≤ g' := by simpa using hg'
    show (if g' = w1.heap.size then some (0, l, d.nd l) else if g' = g then some (1, l, d.nd l) else d.col g') = none
    rw [if_neg (by omega), if_neg (by omega)]
    exact h.cnew g' (by omega)
  · have hlo := h.lo
    by_cases e : g' = w1.heap.size
    · omega
    · by_cases e2 : g' = g
      · omega
      · have hg2 : (if g' = w1.heap.size then some (0, l, d.nd l) else if g' = g then some (1, l, d.nd l) else d.col g') ≠ none := hg'
        rw [if_neg e, if_neg e2] at hg2
        exact h.clo g' hg2
  · exact (hcol g' hlt').trans hn'

end Go.Proofs.Qxb6604003a
