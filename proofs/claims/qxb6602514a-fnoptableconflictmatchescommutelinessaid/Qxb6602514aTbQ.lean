import Derived.Test.Qxb6602514aTbP
set_option linter.unusedVariables false
namespace Go.Proofs.Qxb6602514a.Tb
open Go.RowKit

/-- The table's memory from the last two loops on: H: the kinds' map, H + 1: the table, pb: the swaps' map, pb + 1: its variable, LB, EB: the two lists of sets. -/
structure N0 (w wr : World) (H pb M c nm np LB EB : Nat) (f : ByteArray → Option Int) (g : Int → Int → Bool) : Prop where
  hp : H + 2 ≤ pb
  pm' : pb + 2 ≤ M
  lb : M ≤ LB ∧ LB < M + 2
  eb : M ≤ EB ∧ EB < M + 2
  ne : LB ≠ EB
  bel : Below H w wr
  sz : M + 2 ≤ wr.heap.size
  km : KM wr H nm f
  pm : PM wr pb np g
  vr : Row wr (pb + 1) 117 [Value.map (some pb)]
  tr : Row wr (H + 1) 76 [Value.map (some H), Value.int IntKind.i64 c, Value.slice (some ⟨LB, 0, none⟩) c c, Value.slice (some ⟨EB, 0, none⟩) c c]
  lr : ∃ vl : List Value, vl.length = c * 2 ∧ Row wr LB 121 vl
  er : ∃ vl : List Value, vl.length = c * 2 ∧ Row wr EB 121 vl

section
variable {w wr : World} {H pb M c nm np LB EB : Nat} {f : ByteArray → Option Int} {g : Int → Int → Bool}

theorem N0.set (h : N0 w wr H pb M c nm np LB EB f g) (p : Addr) (hs : p.spot = none) (v : Value) (hp : M ≤ p.block) : N0 w (wr.setCell p v) H pb M c nm np LB EB f g := by
  have h1 := h.hp
  have h2 := h.pm'
  refine ⟨h1, h2, h.lb, h.eb, h.ne, h.bel.setCell (by omega) _, by have := h.sz; simpa using this, h.km.setCell (by omega) _, h.pm.setCell (by omega) _, h.vr.set_ne (by omega) _, h.tr.set_ne (by omega) _, ?_, ?_⟩
  · obtain ⟨vl, l1, l2⟩ := h.lr
    by_cases e : LB = p.block
    · obtain ⟨pb', off, spot⟩ := p
      simp at e hs
      subst e
      subst hs
      exact ⟨vl.set off v, by simpa using l1, l2.set off v⟩
    · exact ⟨vl, l1, l2.set_ne e v⟩
  · obtain ⟨vl, l1, l2⟩ := h.er
    by_cases e : EB = p.block
    · obtain ⟨pb', off, spot⟩ := p
      simp at e hs
      subst e
      subst hs
      exact ⟨vl.set off v, by simpa using l1, l2.set off v⟩
    · exact ⟨vl, l1, l2.set_ne e v⟩

theorem N0.drew (h : N0 w wr H pb M c nm np LB EB f g) : N0 w wr.drew H pb M c nm np LB EB f g :=
  ⟨h.hp, h.pm', h.lb, h.eb, h.ne, bel_to_drew h.bel, h.sz, h.km, h.pm, h.vr, h.tr, h.lr, h.er⟩

theorem N0.below {w' : World} (h : N0 w wr H pb M c nm np LB EB f g) (hb : Below wr.heap.size wr w') : N0 w w' H pb M c nm np LB EB f g := by
  have h1 := h.hp
  have h2 := h.pm'
  have h3 := h.sz
  have h4 := hb.size
  refine ⟨h1, h2, h.lb, h.eb, h.ne, h.bel.trans (hb.mono (by omega)), by omega, h.km.below hb (by omega), h.pm.below hb (by omega), h.vr.below hb (by omega), h.tr.below hb (by omega), ?_, ?_⟩
  · obtain ⟨vl, l1, l2⟩ := h.lr; exact ⟨vl, l1, l2.below hb (by have := h.lb; omega)⟩
  · obtain ⟨vl, l1, l2⟩ := h.er; exact ⟨vl, l1, l2.below hb (by have := h.eb; omega)⟩
end

/-- .. and the sets of the first A kinds. -/
structure NT (w wr : World) (H pb M c nm np LB EB A : Nat) (f : ByteArray → Option Int) (g : Int → Int → Bool) (hB : Nat → Nat) (PL PE : Nat → Nat → Bool) : Prop where
  base : N0 w wr H pb M c nm np LB EB f g
  hb : ∀ t, t < 2 * A → M + 2 ≤ hB t ∧ hB t < wr.heap.size
  inj : ∀ t t', t < 2 * A → t' < 2 * A → hB t = hB t' → t = t'
  sL : ∀ a, a < A → SetAt wr LB (a * 2) (hB (2 * a)) ((c - 1) / 64) (PL a)
  sE : ∀ a, a < A → SetAt wr EB (a * 2) (hB (2 * a + 1)) ((c - 1) / 64) (PE a)

section
variable {w wr : World} {H pb M c nm np LB EB A : Nat} {f : ByteArray → Option Int} {g : Int → Int → Bool} {hB : Nat → Nat} {PL PE : Nat → Nat → Bool}

theorem NT.congr {PL' PE' : Nat → Nat → Bool} (h : NT w wr H pb M c nm np LB EB A f g hB PL PE) (h1 : ∀ a, a < A → ∀ j, PL a j = PL' a j) (h2 : ∀ a, a < A → ∀ j, PE a j = PE' a j) : NT w wr H pb M c nm np LB EB A f g hB PL' PE' :=
  ⟨h.base, h.hb, h.inj, fun a ha => (h.sL a ha).congr (h1 a ha), fun a ha => (h.sE a ha).congr (h2 a ha)⟩

theorem wordOf_block {p : Addr} {b off h nh : Nat} (hp : WordOf p b off h nh) : p.spot = none ∧ (p.block = b ∨ p.block = h) := by
  rcases hp with rfl | ⟨j, _, rfl⟩
  · exact ⟨rfl, .inl rfl⟩
  · exact ⟨rfl, .inr rfl⟩

/-- Another set does not see a word of this one written. -/
theorem SetAt.apart {wr : World} {b off h nh b' off' h' : Nat} {P : Nat → Bool} (hs : SetAt wr b' off' h' nh P) {p : Addr} (hp : WordOf p b off h nh) (v : Value) (e1 : b ≠ b' ∨ (off ≠ off' ∧ off ≠ off' + 1)) (e2 : h ≠ h') (e3 : b ≠ h') (e4 : h ≠ b') : SetAt (wr.setCell p v) b' off' h' nh P := by
  rcases hp with rfl | ⟨j, _, rfl⟩
  · refine hs.other v ?_ ?_ ?_
    · intro e
      have i1 := congrArg Addr.block e
      have i2 := congrArg Addr.off e
      simp at i1 i2
      omega
    · intro e
      have i1 := congrArg Addr.block e
      have i2 := congrArg Addr.off e
      simp at i1 i2
      omega
    · intro j hj e; exact e3 (congrArg Addr.block e)
  · exact hs.far v (by simpa using e4) (by simpa using e2)

/-- A word of a's later set is written. -/
theorem NT.addL (h : NT w wr H pb M c nm np LB EB A f g hB PL PE) {a : Nat} (ha : a < A) {p : Addr} {v : Value} (hp : WordOf p LB (a * 2) (hB (2 * a)) ((c - 1) / 64)) {P' : Nat → Bool} (hs : SetAt (wr.setCell p v).drew LB (a * 2) (hB (2 * a)) ((c - 1) / 64) P') :
    NT w (wr.setCell p v).drew H pb M c nm np LB EB A f g hB (fun a' => if a' = a then P' else PL a') PE := by
  have hba := h.hb (2 * a) (by omega)
  have hlb := h.base.lb
  have heb := h.base.eb
  have hne := h.base.ne
  obtain ⟨q1, q2⟩ := wordOf_block hp
  refine ⟨(h.base.set p q1 v (by omega)).drew, fun t ht => by have := h.hb t ht; simpa using this, h.inj, fun a' ha' => ?_, fun a' ha' => ?_⟩
  · by_cases e : a' = a
    · subst e; simpa using hs
    · simp only [e, if_false]
      have hba' := h.hb (2 * a') (by omega)
      exact (h.sL a' ha').apart hp v (.inr ⟨by omega, by omega⟩) (fun e' => by have := h.inj _ _ (by omega) (by omega) e'; omega) (by omega) (by omega)
  · have hba' := h.hb (2 * a' + 1) (by omega)
    exact (h.sE a' ha').apart hp v (.inl hne) (fun e' => by have := h.inj _ _ (by omega) (by omega) e'; omega) (by omega) (by omega)

theorem NT.addE (h : NT w wr H pb M c nm np LB EB A f g hB PL PE) {a : Nat} (ha : a < A) {p : Addr} {v : Value} (hp : WordOf p EB (a * 2) (hB (2 * a + 1)) ((c - 1) / 64)) {P' : Nat → Bool} (hs : SetAt (wr.setCell p v).drew EB (a * 2) (hB (2 * a + 1)) ((c - 1) / 64) P') :
    NT w (wr.setCell p v).drew H pb M c nm np LB EB A f g hB PL (fun a' => if a' = a then P' else PE a') := by
  have hba := h.hb (2 * a + 1) (by omega)
  have hlb := h.base.lb
  have heb := h.base.eb
  have hne := h.base.ne
  obtain ⟨q1, q2⟩ := wordOf_block hp
  refine ⟨(h.base.set p q1 v (by omega)).drew, fun t ht => by have := h.hb t ht; simpa using this, h.inj, fun a' ha' => ?_, fun a' ha' => ?_⟩
  · have hba' := h.hb (2 * a') (by omega)
    exact (h.sL a' ha').apart hp v (.inl (Ne.symm hne)) (fun e' => by have := h.inj _ _ (by omega) (by omega) e'; omega) (by omega) (by omega)
  · by_cases e : a' = a
    · subst e; simpa using hs
    · simp only [e, if_false]
      have hba' := h.hb (2 * a' + 1) (by omega)
      exact (h.sE a' ha').apart hp v (.inr ⟨by omega, by omega⟩) (fun e' => by have := h.inj _ _ (by omega) (by omega) e'; omega) (by omega) (by omega)

theorem NT.below {w' : World} (h : NT w wr H pb M c nm np LB EB A f g hB PL PE) (hb : Below wr.heap.size wr w') : NT w w' H pb M c nm np LB EB A f g hB PL PE :=
  ⟨h.base.below hb, fun t ht => by have := h.hb t ht; have := hb.size; omega, h.inj, fun a ha => (h.sL a ha).below hb, fun a ha => (h.sE a ha).below hb⟩

/-- A fresh set's memory. -/
theorem SetAt.fresh {w : World} {b off h nh : Nat} {oa : Option Addr} {v0 v1 : Value} (c0 : w.cell? ⟨b, off, none⟩ = some v0) (f0 : w.frozen? ⟨b, off, none⟩ = false) (c1 : w.cell? ⟨b, off + 1, none⟩ = some v1) (hbh : 0 < nh → b ≠ h)
    (ho : 0 < nh → oa = some ⟨h, 0, none⟩ ∧ Row w h 77 (List.replicate nh (.int .u64 0))) : SetAt ((w.setCell ⟨b, off, none⟩ (.int .u64 0)).setCell ⟨b, off + 1, none⟩ (.slice oa nh nh)) b off h nh (fun _ => false) := by
  refine ⟨0, oa, by omega, ?_, ?_, ?_, fun hp => (ho hp).1, fun j hj => by simp, fun j hj => ?_⟩
  · rw [World.cell?_setCell_other _ _ _ _ (by simp)]
    exact World.cell?_setCell_same _ _ _ c0
  · rw [World.frozen?_setCell, World.frozen?_setCell]; exact f0
  · exact World.cell?_setCell_same _ _ _ (by rw [World.cell?_setCell_other _ _ _ _ (by simp)]; exact c1)
  · obtain ⟨_, hr⟩ := ho (by omega)
    have hne := hbh (by omega)
    have hr2 := (hr.set_ne (a := ⟨b, off, none⟩) (by simpa using Ne.symm hne) (.int .u64 0)).set_ne (a := ⟨b, off + 1, none⟩) (by simpa using Ne.symm hne) (.slice oa nh nh)
    refine ⟨0, by omega, ?_, hr2.frozen j, fun i hi => by simp⟩
    rw [hr2.cell j]
    simp [hj]

/-- The sets of one more kind are laid. -/
theorem NT.push (h : NT w wr H pb M c nm np LB EB A f g hB PL PE) (hA : A < c) {w6 : World} (hb6 : Below wr.heap.size wr w6) {h1 h2 : Nat} {oa1 oa2 : Option Addr} (q1 : wr.heap.size ≤ h1 ∧ h1 < w6.heap.size) (q2 : wr.heap.size ≤ h2 ∧ h2 < w6.heap.size) (q3 : h1 ≠ h2)
    (o1 : 0 < (c - 1) / 64 → oa1 = some ⟨h1, 0, none⟩ ∧ Row w6 h1 77 (List.replicate ((c - 1) / 64) (.int .u64 0))) (o2 : 0 < (c - 1) / 64 → oa2 = some ⟨h2, 0, none⟩ ∧ Row w6 h2 77 (List.replicate ((c - 1) / 64) (.int .u64 0))) :
    NT w ((((w6.setCell ⟨LB, A * 2, none⟩ (.int .u64 0)).setCell ⟨LB, A * 2 + 1, none⟩ (.slice oa1 ((c - 1) / 64) ((c - 1) / 64))).setCell ⟨EB, A * 2, none⟩ (.int .u64 0)).setCell ⟨EB, A * 2 + 1, none⟩ (.slice oa2 ((c - 1) / 64) ((c - 1) / 64))) H pb M c nm np LB EB (A + 1) f g
      (fun t => if t = 2 * A then h1 else if t = 2 * A + 1 then h2 else hB t) (fun a' => if a' = A then fun _ => false else PL a') (fun a' => if a' = A then fun _ => false else PE a') := by
  have h6 := h.below hb6
  have hlb := h.base.lb
  have heb := h.base.eb
  have hne := h.base.ne
  have hsz := h.base.sz
  have b1 := (((h6.base.set ⟨LB, A * 2, none⟩ rfl (.int .u64 0) (by simp; omega)).set ⟨LB, A * 2 + 1, none⟩ rfl (.slice oa1 ((c - 1) / 64) ((c - 1) / 64)) (by simp; omega)).set ⟨EB, A * 2, none⟩ rfl (.int .u64 0) (by simp; omega)).set ⟨EB, A * 2 + 1, none⟩ rfl (.slice oa2 ((c - 1) / 64) ((c - 1) / 64)) (by simp; omega)
  obtain ⟨vl, l1, l2⟩ := h6.base.lr
  obtain ⟨ve, e1, e2⟩ := h6.base.er
  have hold : ∀ a, a < A → 2 * a ≠ 2 * A ∧ 2 * a ≠ 2 * A + 1 ∧ 2 * a + 1 ≠ 2 * A ∧ 2 * a + 1 ≠ 2 * A + 1 := fun a ha => by omega
  refine ⟨b1, fun t ht => ?_, fun t t' ht ht' he => ?_, fun a ha => ?_, fun a ha => ?_⟩
  · by_cases i1 : t = 2 * A
    · simp [i1]; omega
    · by_cases i2 : t = 2 * A + 1
      · simp [i2]; omega
      · simp only [i1, i2, if_false]
        have := h6.hb t (by omega)
        simpa using this
  · have k1 : ∀ t, t < 2 * A → hB t < wr.heap.size := fun t ht => (h.hb t ht).2
    by_cases i1 : t = 2 * A
    · by_cases j1 : t' = 2 * A
      · omega
      · by_cases j2 : t' = 2 * A + 1
        · simp [i1, j2] at he; omega
        · simp [i1, j1, j2] at he; have := k1 t' (by omega); omega
    · by_cases i2 : t = 2 * A + 1
      · by_cases j1 : t' = 2 * A
        · simp [i2, j1] at he; omega
        · by_cases j2 : t' = 2 * A + 1
          · omega
          · simp [i2, j1, j2] at he; have := k1 t' (by omega); omega
      · by_cases j1 : t' = 2 * A
        · simp [i1, i2, j1] at he; have := k1 t (by omega); omega
        · by_cases j2 : t' = 2 * A + 1
          · simp [i1, i2, j2] at he; have := k1 t (by omega); omega
          · simp only [i1, i2, j1, j2, if_false] at he
            exact h.inj t t' (by omega) (by omega) he
  · by_cases e : a = A
    · subst e
      simp only [if_true]
      have s1 := SetAt.fresh (oa := oa1) (h := h1) (nh := (c - 1) / 64) (by rw [l2.cell]; exact List.getElem?_eq_getElem (by omega)) (l2.frozen (a * 2)) (by rw [l2.cell]; exact List.getElem?_eq_getElem (by omega)) (fun _ => by omega) o1
      exact (s1.far (p := ⟨EB, a * 2, none⟩) (.int .u64 0) (by simp; omega) (by simp; omega)).far (p := ⟨EB, a * 2 + 1, none⟩) (.slice oa2 ((c - 1) / 64) ((c - 1) / 64)) (by simp; omega) (by simp; omega)
    · obtain ⟨i1, i2, i3, i4⟩ := hold a (by omega)
      simp only [e, i1, i2, if_false]
      have hba := h.hb (2 * a) (by omega)
      have s := h6.sL a (by omega)
      exact (((s.other (p := ⟨LB, A * 2, none⟩) _ (by first | (simp; done) | (simp; omega)) (by first | (simp; done) | (simp; omega)) (fun j _ => by first | (simp; done) | (simp; omega))).other (p := ⟨LB, A * 2 + 1, none⟩) _ (by first | (simp; done) | (simp; omega)) (by first | (simp; done) | (simp; omega)) (fun j _ => by first | (simp; done) | (simp; omega))).far (p := ⟨EB, A * 2, none⟩) _ (by first | (simp; done) | (simp; omega)) (by first | (simp; done) | (simp; omega))).far (p := ⟨EB, A * 2 + 1, none⟩) _ (by first | (simp; done) | (simp; omega)) (by first | (simp; done) | (simp; omega))
  · by_cases e : a = A
    · subst e
      simp only [if_true]
      have hne' : ¬ (2 * a + 1 = 2 * a) := by omega
      simp only [hne', if_false]
      have ex := (e2.set_ne (a := ⟨LB, a * 2, none⟩) (by simp; omega) (.int .u64 0)).set_ne (a := ⟨LB, a * 2 + 1, none⟩) (by simp; omega) (.slice oa1 ((c - 1) / 64) ((c - 1) / 64))
      exact SetAt.fresh (oa := oa2) (h := h2) (nh := (c - 1) / 64) (by rw [ex.cell]; exact List.getElem?_eq_getElem (by omega)) (ex.frozen (a * 2)) (by rw [ex.cell]; exact List.getElem?_eq_getElem (by omega)) (fun _ => by omega) (fun hp => ⟨(o2 hp).1, (((o2 hp).2).set_ne (by simp; omega) _).set_ne (by simp; omega) _⟩)
    · obtain ⟨i1, i2, i3, i4⟩ := hold a (by omega)
      simp only [e, i3, i4, if_false]
      have hba := h.hb (2 * a + 1) (by omega)
      have s := h6.sE a (by omega)
      exact (((s.far (p := ⟨LB, A * 2, none⟩) _ (by first | (simp; done) | (simp; omega)) (by first | (simp; done) | (simp; omega))).far (p := ⟨LB, A * 2 + 1, none⟩) _ (by first | (simp; done) | (simp; omega)) (by first | (simp; done) | (simp; omega))).other (p := ⟨EB, A * 2, none⟩) _ (by first | (simp; done) | (simp; omega)) (by first | (simp; done) | (simp; omega)) (fun j _ => by first | (simp; done) | (simp; omega))).other (p := ⟨EB, A * 2 + 1, none⟩) _ (by first | (simp; done) | (simp; omega)) (by first | (simp; done) | (simp; omega)) (fun j _ => by first | (simp; done) | (simp; omega))

end
end Go.Proofs.Qxb6602514a.Tb
