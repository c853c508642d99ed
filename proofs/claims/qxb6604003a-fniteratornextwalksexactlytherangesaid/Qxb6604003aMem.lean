/-
  MEMORY, PLAIN: a block of cells known whole, and what each step of a walk does to it. By an AI agent (seat b6604003a).
-/
import Derived.WalkKit
import Derived.Deep.AppendLies
import Derived.Deep.Draws
namespace Go.Proofs.Qxb6604003a
open Go.RowKit

/-- Block b of w is a row of cells vs of element type e; none is frozen. -/
def Row (w : World) (b : Nat) (e : TypeId) (vs : List Value) : Prop := w.heap[b]? = some (.cells vs.toArray e (0, 0))

theorem Row.lt {w : World} {b : Nat} {e : TypeId} {vs : List Value} (h : Row w b e vs) : b < w.heap.size := (Array.getElem?_eq_some_iff.1 h).1

theorem Row.cell {w : World} {b : Nat} {e : TypeId} {vs : List Value} (h : Row w b e vs) (i : Nat) : w.cell? ⟨b, i, none⟩ = vs[i]? := by
  rw [cell_of_row w b i vs.toArray e (0, 0) h]; simp

theorem Row.frozen {w : World} {b : Nat} {e : TypeId} {vs : List Value} (h : Row w b e vs) (i : Nat) : w.frozen? ⟨b, i, none⟩ = false := by
  unfold Row at h
  simp [World.frozen?, h]

theorem Row.shape {w : World} {b : Nat} {e : TypeId} {vs : List Value} (h : Row w b e vs) : w.shape? b = some (e, vs.length) := by
  unfold Row at h
  simp [World.shape?, h]

theorem Row.set {w : World} {b : Nat} {e : TypeId} {vs : List Value} (h : Row w b e vs) (i : Nat) (v : Value) : Row (w.setCell ⟨b, i, none⟩ v) b e (vs.set i v) := by
  unfold Row at h ⊢
  simp [World.setCell, Array.getElem?_modify, h]

theorem Row.set_ne {w : World} {b : Nat} {e : TypeId} {vs : List Value} (h : Row w b e vs) {a : Addr} (hne : b ≠ a.block) (v : Value) : Row (w.setCell a v) b e vs := by
  unfold Row at h ⊢
  rw [Below.heap_setCell _ _ _ _ hne]; exact h

theorem Row.alloc {w : World} {b : Nat} {e : TypeId} {vs : List Value} (h : Row w b e vs) (o : Obj) : Row (w.alloc o) b e vs := by
  have := h.lt
  unfold Row at h ⊢
  rw [Below.heap_alloc _ _ _ this]; exact h

theorem Row.alloc_new (w : World) (e : TypeId) (cs : Array Value) : Row (w.alloc (.cells cs e)) w.heap.size e cs.toList := by
  unfold Row
  rw [heap_alloc_new]

theorem Row.alloc_new' {w : World} {e : TypeId} {cs : Array Value} {b : Nat} (hb : b = w.heap.size) : Row (w.alloc (.cells cs e)) b e cs.toList := by
  subst hb; exact Row.alloc_new w e cs

theorem Row.drew {w : World} {b : Nat} {e : TypeId} {vs : List Value} (h : Row w b e vs) : Row w.drew b e vs := h
theorem Row.drewN {w : World} {b : Nat} {e : TypeId} {vs : List Value} (h : Row w b e vs) (n : Nat) : Row (w.drewN n) b e vs := h

theorem Row.below {B : Nat} {w w' : World} {b : Nat} {e : TypeId} {vs : List Value} (h : Row w b e vs) (hb : Below B w w') (hlt : b < B) : Row w' b e vs := by
  unfold Row at h ⊢
  rw [hb.block b hlt]; exact h

theorem Row.grown {w w' : World} {row : Option Nat} {b : Nat} {e : TypeId} {vs : List Value} (h : Row w b e vs) (hg : w.grownBy w' row) (hne : some b ≠ row) : Row w' b e vs := by
  have := h.lt
  unfold Row at h ⊢
  rw [hg.block b this hne]; exact h

theorem below_drewN {B : Nat} {a w : World} (h : Below B a w) (n : Nat) : Below B a (w.drewN n) := h.trans ⟨rfl, rfl, rfl, Nat.le_refl _, fun _ _ => rfl⟩

theorem size_drewN (w : World) (n : Nat) : (w.drewN n).heap.size = w.heap.size := rfl

/-- A row of integers. -/
def IRow (k : IntKind) (w : World) (b : Nat) (e : TypeId) (zs : List Int) : Prop := Row w b e (zs.map (Value.int k))

theorem IRow.cell {k : IntKind} {w : World} {b : Nat} {e : TypeId} {zs : List Int} (h : IRow k w b e zs) (i : Nat) (hi : i < zs.length) : w.cell? ⟨b, i, none⟩ = some (.int k (zs.getD i 0)) := by
  rw [Row.cell h]; simp [List.getD, hi]
theorem IRow.set {k : IntKind} {w : World} {b : Nat} {e : TypeId} {zs : List Int} (h : IRow k w b e zs) (i : Nat) (v : Int) : IRow k (w.setCell ⟨b, i, none⟩ (.int k v)) b e (zs.set i v) := by
  have := Row.set h i (.int k v)
  unfold IRow
  rwa [List.map_set]

/-- 'make([]T, n)': the new block, written as a row. -/
theorem wpList_make_row {P : Program} (w : World) {ops : Array Oper} {rest : List Oper} {o : Oper} {a : Act} {Q : Exit → Act → World → Prop}
    (hg : o.guard = none) (l c : Operand) (t : TypeId) (hop : o.op = Op.makeSlice t l c)
    (e : TypeId) (z : Value) (size bytes : Nat) (h1 : P.underlying t = some (.slice e)) (hinfo : (P.info? e).map (fun i => (i.zero, i.size, i.bytes)) = some (some z, size, bytes))
    (kl kc : IntKind) (L C : Int) (n : Nat) (hl : a.eval l = .int kl L) (hc : a.eval c = .int kc C) (hL : L = (n : Int)) (hC : C = (n : Int)) (b2 : bytes * n ≤ 281474976710656) (b3 : n ≤ maxLen)
    (vs : List Value) (hvs : (madeCells z.cells (n * size)).toList = vs)
    (H : Nat) (hH : w.heap.size = H)
    (hK : ∀ w', Row w' H e vs → w'.heap.size = H + 1 → Below H w w' → wpList P ops Q rest (a.put o.dst (.slice (some ⟨H, 0, none⟩) n n)) w') :
    wpList P ops Q (o :: rest) a w := by
  refine wpList_plain hg fun K hK' => ?_
  obtain ⟨i, hi, hz, hs, hb⟩ := info_parts hinfo
  subst hL
  subst hC
  subst hs
  subst hb
  subst hH
  subst hvs
  have h63' : (n : Int) ≤ 9223372036854775807 := by
    have h := b3
    simp [maxLen] at h
    omega
  have hb' : (i.bytes : Int) * (n : Int) ≤ 281474976710656 := by
    have h : ((i.bytes * n : Nat) : Int) ≤ 281474976710656 := by omega
    rwa [Int.natCast_mul] at h
  have hr := run_make (P := P) w t e i z h1 hi hz kl kc n n (by omega) (Int.le_refl _) hb' h63'
  simp only [Int.toNat_natCast] at hr
  unfold Oper.wp
  simp [execOp, hop, hl, hc, hr, Result.andThen]
  refine hK' _ _ (hK _ (Row.alloc_new _ _ _) (by simp) ((Below.refl _ _).alloc (Nat.le_refl _) _))

theorem made_one (z : Value) (hz : z.cells = #[z]) (n : Nat) : (madeCells z.cells (n * 1)).toList = List.replicate n z := by
  rw [hz, Nat.mul_one]; exact toList_madeCells_one z n

/-! ### A RUN OF BLOCKS KNOWN WHOLE: blocks B, B + 1, .. are the rows of L. -/
def Seg (w : World) (B : Nat) (L : List (TypeId × List Value)) : Prop := ∀ i p, L[i]? = some p → Row w (B + i) p.1 p.2

theorem Seg.nil (w : World) (B : Nat) : Seg w B [] := by intro i p h; simp at h

theorem Seg.row {w : World} {B : Nat} {L : List (TypeId × List Value)} (h : Seg w B L) (i : Nat) {e : TypeId} {vs : List Value} (hi : L[i]? = some (e, vs)) : Row w (B + i) e vs := h i _ hi

theorem Seg.cell {w : World} {B : Nat} {L : List (TypeId × List Value)} (h : Seg w B L) (i : Nat) {e : TypeId} {vs : List Value} (hi : L[i]? = some (e, vs)) (off : Nat) : w.cell? ⟨B + i, off, none⟩ = vs[off]? := (h.row i hi).cell off

theorem Seg.icell {k : IntKind} {w : World} {B : Nat} {L : List (TypeId × List Value)} (h : Seg w B L) (i : Nat) {e : TypeId} {zs : List Int} (hi : L[i]? = some (e, zs.map (Value.int k))) (off : Nat) (ho : off < zs.length) :
    w.cell? ⟨B + i, off, none⟩ = some (.int k (zs.getD off 0)) := IRow.cell (h.row i hi) off ho

theorem Seg.frozen {w : World} {B : Nat} {L : List (TypeId × List Value)} (h : Seg w B L) (i : Nat) (hi : i < L.length) (off : Nat) : w.frozen? ⟨B + i, off, none⟩ = false :=
  (h i L[i] (by simp [hi])).frozen off

theorem Seg.drew {w : World} {B : Nat} {L : List (TypeId × List Value)} (h : Seg w B L) : Seg w.drew B L := h
theorem Seg.drewN {w : World} {B : Nat} {L : List (TypeId × List Value)} (h : Seg w B L) (n : Nat) : Seg (w.drewN n) B L := h

theorem Seg.alloc {w : World} {B : Nat} {L : List (TypeId × List Value)} (h : Seg w B L) (o : Obj) : Seg (w.alloc o) B L := fun i p hp => (h i p hp).alloc o

theorem Seg.below {B' : Nat} {w w' : World} {B : Nat} {L : List (TypeId × List Value)} (h : Seg w B L) (hb : Below B' w w') (hlt : B + L.length ≤ B') : Seg w' B L := fun i p hp =>
  (h i p hp).below hb (by have := (List.getElem?_eq_some_iff.1 hp).1; omega)

theorem Seg.grown {w w' : World} {row : Option Nat} {B : Nat} {L : List (TypeId × List Value)} (h : Seg w B L) (hg : w.grownBy w' row) (hr : ∀ k, row = some k → B + L.length ≤ k) : Seg w' B L := fun i p hp =>
  (h i p hp).grown hg (fun e => by have := hr _ e.symm; have := (List.getElem?_eq_some_iff.1 hp).1; omega)

theorem Seg.far {w : World} {B : Nat} {L : List (TypeId × List Value)} (h : Seg w B L) {a : Addr} (ha : B + L.length ≤ a.block) (v : Value) : Seg (w.setCell a v) B L := fun i p hp =>
  (h i p hp).set_ne (by have := (List.getElem?_eq_some_iff.1 hp).1; omega) v

theorem Seg.set {w : World} {B : Nat} {L : List (TypeId × List Value)} (h : Seg w B L) (i : Nat) {e : TypeId} {vs : List Value} (hi : L[i]? = some (e, vs)) (off : Nat) (v : Value) :
    Seg (w.setCell ⟨B + i, off, none⟩ v) B (L.set i (e, vs.set off v)) := by
  intro j p hp
  by_cases hj : i = j
  · subst hj
    have hlt := (List.getElem?_eq_some_iff.1 hi).1
    rw [List.getElem?_set, if_pos rfl, if_pos hlt] at hp
    obtain rfl := Option.some.inj hp
    exact (h.row i hi).set off v
  · rw [List.getElem?_set, if_neg hj] at hp
    exact (h j p hp).set_ne (by simp; omega) v

theorem Seg.iset {k : IntKind} {w : World} {B : Nat} {L : List (TypeId × List Value)} (h : Seg w B L) (i : Nat) {e : TypeId} {zs : List Int} (hi : L[i]? = some (e, zs.map (Value.int k))) (off : Nat) (v : Int) :
    Seg (w.setCell ⟨B + i, off, none⟩ (.int k v)) B (L.set i (e, (zs.set off v).map (Value.int k))) := by
  have := h.set i hi off (.int k v)
  rwa [← List.map_set] at this

theorem Seg.lo {w : World} {B : Nat} {L : List (TypeId × List Value)} (h : Seg w B L) {a : Addr} (ha : a.block < B) (v : Value) : Seg (w.setCell a v) B L := fun i p hp =>
  (h i p hp).set_ne (by omega) v

theorem Seg.drop {w : World} {B : Nat} {L : List (TypeId × List Value)} (h : Seg w B L) (j : Nat) : Seg w (B + j) (L.drop j) := by
  intro i p hp
  rw [List.getElem?_drop] at hp
  rw [Nat.add_assoc]; exact h _ p hp

theorem Seg.left {w : World} {B : Nat} {L M : List (TypeId × List Value)} (h : Seg w B (L ++ M)) : Seg w B L := by
  intro i p hp
  refine h i p ?_
  rw [List.getElem?_append_left (List.getElem?_eq_some_iff.1 hp).1]; exact hp

/-- A new block behind the run. -/
theorem Seg.push {w w' : World} {B : Nat} {L : List (TypeId × List Value)} (h : Seg w B L) {H : Nat} (hH : H = B + L.length) {e : TypeId} {vs : List Value} (hb : Below H w w') (hr : Row w' H e vs) : Seg w' B (L ++ [(e, vs)]) := by
  intro j p hp
  by_cases hj : j < L.length
  · rw [List.getElem?_append_left hj] at hp
    exact (h j p hp).below hb (by omega)
  · have hlt := (List.getElem?_eq_some_iff.1 hp).1
    have : j = L.length := by simp at hlt; omega
    subst this
    simp at hp
    subst hp
    rw [← hH]; exact hr

theorem Seg.pushAlloc {w : World} {B : Nat} {L : List (TypeId × List Value)} (h : Seg w B L) (hH : w.heap.size = B + L.length) (e : TypeId) (cs : Array Value) : Seg (w.alloc (.cells cs e)) B (L ++ [(e, cs.toList)]) :=
  h.push hH ((Below.refl _ _).alloc (Nat.le_refl _) _) (Row.alloc_new _ _ _)

end Go.Proofs.Qxb6604003a
