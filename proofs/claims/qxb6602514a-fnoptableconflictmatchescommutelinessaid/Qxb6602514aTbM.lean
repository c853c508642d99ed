import Derived.Test.Qxb6602514aTbS
import Derived.Maps.OwnSet
import Derived.WideKeyPair
set_option linter.unusedVariables false
namespace Go.Proofs.Qxb6602514a.Tb
open Go.RowKit Go.Maps Go.WideMaps

theorem lawS : Keyed Try.prog 9 := string_keyed Try.underlying9
theorem zero82 (w : World) : (zeroValue 82).run Try.prog w = .ok (.int .i32 0) w := by kernel_rfl
theorem zero4 (w : World) : (zeroValue 4).run Try.prog w = .ok (.bool false) w := by kernel_rfl
theorem arr118 : ArrKey Try.prog 118 82 2 := ⟨Try.underlying118, by kernel_rfl, by kernel_rfl, by kernel_rfl⟩
theorem lawP : Keyed Try.prog 118 := Keyed.of_law arr118.law
theorem types_pos : ∃ m, Try.prog.types.size = m + 1 := ⟨Try.prog.types.size - 1, by kernel_rfl⟩

/-- Block b is a map from strings to numbers: f. -/
def KM (w : World) (b n : Nat) (f : ByteArray → Option Int) : Prop :=
  ∃ D : DataW Unit, w.ownsMap Try.prog 9 (plainElem Try.prog 82) b n D ∧ ∀ s : ByteArray, s.size ≤ maxLen → Maps.has D (.string s.data.toList) = (f s).isSome ∧ D.atKey (.string s.data.toList) (.lit (.int .i32 0)) = .lit (.int .i32 ((f s).getD 0))

theorem KM.made (w : World) : KM (w.alloc (.map #[] 0)) w.heap.size 0 (fun _ => none) :=
  ⟨.map [], World.ownsMap_made _ _ _ _, fun s _ => ⟨rfl, rfl⟩⟩

theorem KM.kept {w w' : World} {b n : Nat} {f : ByteArray → Option Int} {row : Option Nat} (h : KM w b n f) (hg : w.grownBy w' row) (hne : some b ≠ row) : KM w' b n f := by
  obtain ⟨D, h1, h2⟩ := h
  exact ⟨D, h1.kept hg hne, h2⟩
theorem KM.alloc {w : World} {b n : Nat} {f : ByteArray → Option Int} (h : KM w b n f) (o : Obj) : KM (w.alloc o) b n f := by
  obtain ⟨D, h1, h2⟩ := h
  exact ⟨D, h1.alloc o, h2⟩
theorem KM.drew {w : World} {b n : Nat} {f : ByteArray → Option Int} (h : KM w b n f) : KM w.drew b n f := h
theorem KM.setCell {w : World} {b n : Nat} {f : ByteArray → Option Int} (h : KM w b n f) {a : Addr} (ha : b ≠ a.block) (u : Value) : KM (w.setCell a u) b n f := by
  obtain ⟨D, h1, h2⟩ := h
  exact ⟨D, h1.setCell ha u, h2⟩
theorem KM.lt {w : World} {b n : Nat} {f : ByteArray → Option Int} (h : KM w b n f) : b < w.heap.size := by
  obtain ⟨D, h1, h2⟩ := h
  exact h1.lt
theorem KM.below {w w' : World} {b n B : Nat} {f : ByteArray → Option Int} (h : KM w b n f) (hb : Below B w w') (hB : b < B) : KM w' b n f := by
  obtain ⟨D, ⟨es, clock, h3, h4⟩, h2⟩ := h
  exact ⟨D, ⟨es, clock, by rw [hb.block b hB]; exact h3, h4⟩, h2⟩
theorem KM.mono {w : World} {b n n' : Nat} {f : ByteArray → Option Int} (h : KM w b n f) (hn : n ≤ n') : KM w b n' f := by
  obtain ⟨D, h1, h2⟩ := h
  exact ⟨D, h1.mono hn, h2⟩

theorem KM.look_ok {w : World} {b n : Nat} {f : ByteArray → Option Int} (h : KM w b n f) {s : ByteArray} (hs : s.size ≤ maxLen) :
    (Instr.lookup 73 (.map (some b)) (.string s) true).run Try.prog w = .ok (.tuple #[.int .i32 ((f s).getD 0), .bool (f s).isSome]) w := by
  obtain ⟨D, h1, h2⟩ := h
  obtain ⟨v, ps, hrun, hv⟩ := h1.look_ok lawS Try.underlying73 (zero82 w) (plainElem_int Try.underlying82 (by decide)) (keyOf_string_mk Try.underlying9 hs)
  obtain ⟨c, rfl, hc, hwc⟩ := plainElem_int_inv Try.underlying82 hv
  simp only [Prod.mk.injEq] at hc
  rw [(h2 s hs).2] at hc
  have := hc.1
  simp at this
  rw [hrun, (h2 s hs).1, this]
theorem KM.look {w : World} {b n : Nat} {f : ByteArray → Option Int} (h : KM w b n f) {s : ByteArray} (hs : s.size ≤ maxLen) :
    (Instr.lookup 73 (.map (some b)) (.string s) false).run Try.prog w = .ok (.int .i32 ((f s).getD 0)) w := by
  obtain ⟨D, h1, h2⟩ := h
  obtain ⟨c, hrun, hat, _⟩ := h1.lookup_int lawS Try.underlying73 Try.underlying82 (zero82 w) (keyOf_string_mk Try.underlying9 hs)
  rw [(h2 s hs).2] at hat
  simp at hat
  rw [hrun, hat]

/-- f, but v at s. -/
def fput (f : ByteArray → Option Int) (s : ByteArray) (v : Int) : ByteArray → Option Int := fun x => if x = s then some v else f x

theorem bytes_ne {s x : ByteArray} (h : x ≠ s) : (Lit.string x.data.toList) ≠ .string s.data.toList := by
  intro e
  simp at e
  exact h (by cases x; cases s; simp_all)

theorem KM.put {w : World} {b n : Nat} {f : ByteArray → Option Int} (h : KM w b n f) (hn : n < maxLen) {s : ByteArray} (hs : s.size ≤ maxLen) {v : Int} (hv : (Lit.int .i32 v).wf = true) :
    ∃ w', (Instr.mapUpdate 73 (.map (some b)) (.string s) (.int .i32 v)).run Try.prog w = .ok () w' ∧ KM w' b (n + 1) (fput f s v) ∧ w.mapTurned w' b := by
  obtain ⟨D, h1, h2⟩ := h
  obtain ⟨w', hrun, r1, r2⟩ := h1.store lawS Try.underlying73 hn (keyOf_string_mk Try.underlying9 hs) (plainElem_int Try.underlying82 hv)
  refine ⟨w', hrun, ⟨_, r1, fun x hx => ?_⟩, r2⟩
  by_cases e : x = s
  · subst e
    have hkk := lawS.key (keyOf_string_mk Try.underlying9 hs)
    rw [has_put_same h1.isMap hkk, atKey_put_same h1.isMap hkk]
    simp [fput]
  · rw [has_put_other (bytes_ne e), atKey_put_other (bytes_ne e)]
    simpa [fput, e] using h2 x hx

/-- Block b is a map from pairs of kinds to bools: g. -/
def PM (w : World) (b n : Nat) (g : Int → Int → Bool) : Prop :=
  ∃ D : DataW Unit, w.ownsMap Try.prog 118 (plainElem Try.prog 4) b n D ∧ ∀ x y : Int, (Lit.int .i32 x).wf = true → (Lit.int .i32 y).wf = true → ∀ kl, keyOf Try.prog 118 (.agg #[.int .i32 x, .int .i32 y]) = some kl → D.atKey kl (.lit (.bool false)) = .lit (.bool (g x y))

theorem PM.made (w : World) : PM (w.alloc (.map #[] 0)) w.heap.size 0 (fun _ _ => false) :=
  ⟨.map [], World.ownsMap_made _ _ _ _, fun _ _ _ _ _ _ => rfl⟩
theorem PM.kept {w w' : World} {b n : Nat} {g : Int → Int → Bool} {row : Option Nat} (h : PM w b n g) (hg : w.grownBy w' row) (hne : some b ≠ row) : PM w' b n g := by
  obtain ⟨D, h1, h2⟩ := h
  exact ⟨D, h1.kept hg hne, h2⟩
theorem PM.alloc {w : World} {b n : Nat} {g : Int → Int → Bool} (h : PM w b n g) (o : Obj) : PM (w.alloc o) b n g := by
  obtain ⟨D, h1, h2⟩ := h
  exact ⟨D, h1.alloc o, h2⟩
theorem PM.drew {w : World} {b n : Nat} {g : Int → Int → Bool} (h : PM w b n g) : PM w.drew b n g := h
theorem PM.setCell {w : World} {b n : Nat} {g : Int → Int → Bool} (h : PM w b n g) {a : Addr} (ha : b ≠ a.block) (u : Value) : PM (w.setCell a u) b n g := by
  obtain ⟨D, h1, h2⟩ := h
  exact ⟨D, h1.setCell ha u, h2⟩
theorem PM.lt {w : World} {b n : Nat} {g : Int → Int → Bool} (h : PM w b n g) : b < w.heap.size := by
  obtain ⟨D, h1, h2⟩ := h
  exact h1.lt
theorem PM.below {w w' : World} {b n B : Nat} {g : Int → Int → Bool} (h : PM w b n g) (hb : Below B w w') (hB : b < B) : PM w' b n g := by
  obtain ⟨D, ⟨es, clock, h3, h4⟩, h2⟩ := h
  exact ⟨D, ⟨es, clock, by rw [hb.block b hB]; exact h3, h4⟩, h2⟩

theorem plainElem_bool_inv {P : Program} {e : TypeId} (he : P.underlying e = some .bool) {v : Value} {z : DataW Unit × List MemPlace} (h : plainElem P e v = some z) : ∃ x, v = .bool x ∧ z = (.lit (.bool x), []) := by
  unfold plainElem at h
  rw [he] at h
  cases v <;> simp at h
  exact ⟨_, rfl, h.symm⟩

theorem PM.look {w : World} {b n : Nat} {g : Int → Int → Bool} (h : PM w b n g) {x y : Int} (hx : (Lit.int .i32 x).wf = true) (hy : (Lit.int .i32 y).wf = true) :
    (Instr.lookup 117 (.map (some b)) (.agg #[.int .i32 x, .int .i32 y]) false).run Try.prog w = .ok (.bool (g x y)) w := by
  obtain ⟨D, h1, h2⟩ := h
  have hk := keyOf_pair arr118 Try.underlying82 types_pos hx hy
  obtain ⟨v, ps, hrun, hv⟩ := h1.lookup lawP Try.underlying117 (zero4 w) (plainElem_bool Try.underlying4 false) hk
  rw [h2 x y hx hy _ hk] at hv
  obtain ⟨q, rfl, hq⟩ := plainElem_bool_inv Try.underlying4 hv
  simp at hq
  rw [hrun, hq.1]

/-- g, but true at (x, y). -/
def gput (g : Int → Int → Bool) (x y : Int) : Int → Int → Bool := fun a b => if a = x ∧ b = y then true else g a b

theorem PM.put {w : World} {b n : Nat} {g : Int → Int → Bool} (h : PM w b n g) (hn : n < maxLen) {x y : Int} (hx : (Lit.int .i32 x).wf = true) (hy : (Lit.int .i32 y).wf = true) :
    ∃ w', (Instr.mapUpdate 117 (.map (some b)) (.agg #[.int .i32 x, .int .i32 y]) (.bool true)).run Try.prog w = .ok () w' ∧ PM w' b (n + 1) (gput g x y) ∧ w.mapTurned w' b := by
  obtain ⟨D, h1, h2⟩ := h
  obtain ⟨kl0, hk⟩ : ∃ kl0, keyOf Try.prog 118 (.agg #[.int .i32 x, .int .i32 y]) = some kl0 := ⟨_, keyOf_pair arr118 Try.underlying82 types_pos hx hy⟩
  obtain ⟨w', hrun, r1, r2⟩ := h1.store lawP Try.underlying117 hn hk (plainElem_bool Try.underlying4 true)
  refine ⟨w', hrun, ⟨_, r1, fun a c ha hc kl hkl => ?_⟩, r2⟩
  by_cases e : a = x ∧ c = y
  · obtain ⟨rfl, rfl⟩ := e
    rw [hk] at hkl
    obtain rfl := Option.some.inj hkl
    rw [atKey_put_same h1.isMap (lawP.key hk)]
    simp [gput]
  · have hne : kl ≠ kl0 := fun e2 => by
      subst e2
      have := lawP.inj hkl hk
      simp at this
      exact e this
    rw [atKey_put_other hne, h2 a c ha hc kl hkl]
    simp [gput, e]

end Go.Proofs.Qxb6602514a.Tb
