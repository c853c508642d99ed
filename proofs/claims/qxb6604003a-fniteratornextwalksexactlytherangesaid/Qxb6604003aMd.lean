import Derived.Test.Qxb6604003aPl
set_option linter.unusedVariables false
namespace Go.Proofs.Qxb6604003a
open Go.RowKit

variable {K V : Nat → Value} {kb : Nat → List UInt8}

theorem Rest.h4 {d : D} {h n : Nat} {low : Nat → Nat → Value} (r : Rest K V kb d h low n) (hn : n ≤ 30000) : h ≤ 4 := by
  rcases r.lo with h1 | h1
  · omega
  · rcases Nat.lt_or_ge (h - 1) 4 with h2 | h2
    · omega
    · have : 16 ^ 4 ≤ 16 ^ (h - 1) := Nat.pow_le_pow_right (by omega) h2
      omega

theorem dv_same {n : Nat} (h : n = 0 ∨ n % 16 ≠ 0) (l : Nat) : dv (n - 1) (l + 1) = dv n (l + 1) := by
  rcases h with rfl | h
  · rfl
  · have hf : Full n 0 := fun l hl => by omega
    exact hf.above (by omega) (by rw [dv_zero]; exact h) (l + 1) (by omega)

theorem pow_mod (h : Nat) (h1 : 1 ≤ h) : 16 ^ h % 16 = 0 := by
  rw [show h = h - 1 + 1 by omega, Nat.pow_succ]; omega

theorem cnt_len {d : D} {h n : Nat} {low : Nat → Nat → Value} (r : Rest K V kb d h low n) : (d.it 0 (dv (n - 1) 1)).length / 2 = n - 16 * dv (n - 1) 1 := by
  have h1 := r.pt.h1
  have hnd : d.nd 0 = dv (n - 1) 1 + 1 := r.nd 0 (by omega)
  rw [r.pt.leaf _ (by omega), its_len]
  show 2 * min 16 (n - 16 * dv (n - 1) 1) / 2 = _
  rw [show dv (n - 1) 1 = (n - 1) / 16 by rw [dv_succ, dv_zero]]
  omega

theorem Rest.key {d : D} {h n : Nat} {low : Nat → Nat → Value} (r : Rest K V kb d h low n) (q : Nat) (hq : q = (n - 1) / 16) (hm : n - 16 * q < 16) (g k cap : Nat) (col' : Nat → Option (Nat × Nat × Nat)) :
    Rest K V kb { d with len := n + 1, slv := upd2 d.slv 0 q (.slice (some ⟨g, 0, none⟩) k cap), it := upd2 d.it 0 q (d.it 0 q ++ [K n, V n]), col := col' } h low (n + 1) := by
  have h1 := r.pt.h1
  have hnd : d.nd 0 = dv (n - 1) 1 + 1 := r.nd 0 (by omega)
  rw [dv_succ, dv_zero, ← hq] at hnd
  have hne : n = 0 ∨ n % 16 ≠ 0 := by omega
  have p : PT K V kb { d with slv := upd2 d.slv 0 q (.slice (some ⟨g, 0, none⟩) k cap), it := upd2 d.it 0 q (d.it 0 q ++ [K n, V n]), col := col' } h (upd1 (cv n) 0 (n + 1)) low := r.pt.key q g k cap col' hnd (show 16 * q ≤ n by omega) (show n < 16 * q + 16 by omega)
  have e : upd1 (cv n) 0 (n + 1) = cv (n + 1) := by
    funext l
    cases l with
    | zero => rfl
    | succ l =>
      rw [upd1_ne _ _ _ (by omega)]
      show dv (n - 1) (l + 1) + 1 = dv (n + 1 - 1) (l + 1) + 1
      rw [dv_same hne, Nat.add_sub_cancel]
  rw [e] at p
  refine ⟨⟨p.h1, p.nd0, p.cl, p.leaf, p.inn, p.low0, p.lowk, p.some'⟩, fun l hl => ?_, r.root, rfl, r.sp, ?_, ?_⟩
  · show d.nd l = dv (n + 1 - 1) (l + 1) + 1
    rw [r.nd l hl, dv_same hne, Nat.add_sub_cancel]
  · have := r.hi
    rcases hne with rfl | hne
    · have := Nat.pow_le_pow_right (show 0 < 16 by omega) h1; omega
    · have h2 : n ≠ 16 ^ h := fun e => by rw [e] at hne; exact hne (pow_mod h h1)
      omega
  · rcases r.lo with h2 | h2
    · exact .inl h2
    · exact .inr (by omega)

/-- Key n is being put: the nodes of the levels from r on have been made. -/
def cm (n r : Nat) : Nat → Nat
  | 0 => if r = 0 then n + 1 else n
  | l + 1 => if l < r then dv (n - 1) (l + 1) + 1 else dv n (l + 1) + 1

structure Mid (K V : Nat → Value) (kb : Nat → List UInt8) (d : D) (h r m : Nat) (low : Nat → Nat → Value) (n : Nat) : Prop where
  pt : PT K V kb d h (cm n r) low
  nd : ∀ l, l < h → d.nd l = cm n r (l + 1)
  root : d.root = ptr (d.adr (h - 1) 0)
  len : d.len = n + 1
  sp : d.sp = spl d.adr d.nd h m
  full : Full n r
  rh : r < h
  hi : n + 1 ≤ 16 ^ h
  lo : h = 1 ∨ 16 ^ (h - 1) < n + 1

theorem PT.cc {d : D} {h : Nat} {c c' : Nat → Nat} {low : Nat → Nat → Value} (p : PT K V kb d h c low) (e : ∀ l, l ≤ h → c' l = c l) : PT K V kb d h c' low := by
  refine ⟨p.h1, p.nd0, fun l hl => by rw [e _ (by omega)]; exact p.cl l hl, fun q hq => by rw [e _ (by omega)]; exact p.leaf q hq, fun l q hq => ?_, p.low0, fun l j a b => p.lowk l j a (by rw [e _ (by omega)] at b; exact b), fun l q a b a3 => p.some' l q a (by rw [e _ (by omega)] at b; exact b) a3⟩
  have hlt : l + 1 < h := by
    rcases Nat.lt_or_ge (l + 1) h with h2 | h2
    · exact h2
    · rw [p.nd0 (l + 1) h2] at hq; omega
  rw [e _ (by omega)]; exact p.inn l q hq

/-- The start, where a node has room. -/
theorem Rest.mid {d : D} {h n k : Nat} {low : Nat → Nat → Value} (r : Rest K V kb d h low n) (hn : 0 < n) (hk1 : 1 ≤ k) (hk : k < h) (hf : Full n k) (hd : dv n k % 16 ≠ 0) : Mid K V kb { d with len := n + 1 } h k h low n := by
  have e : ∀ l, cm n k l = cv n l := fun l => by
    cases l with
    | zero => show (if k = 0 then n + 1 else n) = n; rw [if_neg (by omega)]
    | succ l =>
      show (if l < k then dv (n - 1) (l + 1) + 1 else dv n (l + 1) + 1) = dv (n - 1) (l + 1) + 1
      split
      · rfl
      · rw [hf.above hn hd (l + 1) (by omega)]
  have p := r.pt.cc (c' := cm n k) fun l _ => e l
  refine ⟨⟨p.h1, p.nd0, p.cl, p.leaf, p.inn, p.low0, p.lowk, p.some'⟩, fun l hl => ?_, r.root, rfl, r.sp, hf, hk, ?_, ?_⟩
  · rw [e]; exact r.nd l hl
  · have := Full.ne_top hk hd r.hi; omega
  · rcases r.lo with h2 | h2
    · exact .inl h2
    · exact .inr (by omega)

/-- The end. -/
theorem Mid.rest {d : D} {h n : Nat} {low : Nat → Nat → Value} (r : Mid K V kb d h 0 h low n) : Rest K V kb d h low (n + 1) := by
  have e : ∀ l, cv (n + 1) l = cm n 0 l := fun l => by
    cases l with
    | zero => rfl
    | succ l => show dv (n + 1 - 1) (l + 1) + 1 = (if l < 0 then dv (n - 1) (l + 1) + 1 else dv n (l + 1) + 1); rw [if_neg (by omega), Nat.add_sub_cancel]
  refine ⟨r.pt.cc fun l _ => e l, fun l hl => ?_, r.root, r.len, r.sp, r.hi, r.lo⟩
  rw [r.nd l hl, ← e]; rfl

/-- The cut of the spine. -/
theorem Mid.cut {d : D} {h k m n : Nat} {low : Nat → Nat → Value} (r : Mid K V kb d h k m low n) (sv : Value) (sp : List Value) (m' : Nat) (hs : sp = spl d.adr d.nd h m') : Mid K V kb { d with root := d.root, len := d.len, spv := sv, sp := sp } h k m' low n := by
  have p := r.pt
  exact ⟨⟨p.h1, p.nd0, p.cl, p.leaf, p.inn, p.low0, p.lowk, p.some'⟩, r.nd, r.root, r.len, hs, r.full, r.rh, r.hi, r.lo⟩

theorem cm_next {n r : Nat} (h1 : 1 ≤ r) (hf : Full n (r + 1)) (hn : 0 < n) : ∀ l, cm n r l = upd1 (cm n (r + 1)) (r + 1) (cm n (r + 1) (r + 1) + 1) l := fun l => by
  cases l with
  | zero =>
    rw [upd1_ne _ _ _ (by omega)]
    show (if r = 0 then n + 1 else n) = (if r + 1 = 0 then n + 1 else n)
    rw [if_neg (by omega), if_neg (by omega)]
  | succ l =>
    by_cases e : l = r
    · subst e
      rw [upd1_same]
      show (if l < l then dv (n - 1) (l + 1) + 1 else dv n (l + 1) + 1) = (if l < l + 1 then dv (n - 1) (l + 1) + 1 else dv n (l + 1) + 1) + 1
      rw [if_neg (by omega), if_pos (by omega), hf.pred hn]
      have := hf.pos hn
      omega
    · rw [upd1_ne _ _ _ (by omega)]
      show (if l < r then dv (n - 1) (l + 1) + 1 else dv n (l + 1) + 1) = (if l < r + 1 then dv (n - 1) (l + 1) + 1 else dv n (l + 1) + 1)
      by_cases e2 : l < r
      · rw [if_pos e2, if_pos (by omega)]
      · rw [if_neg e2, if_neg (by omega)]

/-- The numbers of a round: the new node's place q, its father's qp. -/
theorem Mid.nums {d : D} {h r m n : Nat} {low : Nat → Nat → Value} (M : Mid K V kb d h (r + 1) m low n) (hn : 0 < n) :
    d.nd r = dv n (r + 1) ∧ d.nd (r + 1) = dv n (r + 1) / 16 + 1 ∧ cm n (r + 1) (r + 1) = dv n (r + 1) ∧ cm n (r + 1) r = 16 * dv n (r + 1) ∧ 0 < dv n (r + 1) := by
  have hf := M.full
  have hp := hf.pos hn
  have e1 : cm n (r + 1) (r + 1) = dv n (r + 1) := by
    show (if r < r + 1 then dv (n - 1) (r + 1) + 1 else dv n (r + 1) + 1) = _
    rw [if_pos (by omega), hf.pred hn]; omega
  have h1 := M.nd r (by have := M.rh; omega)
  have h2 := M.nd (r + 1) M.rh
  rw [e1] at h1
  refine ⟨h1, ?_, e1, ?_, hp⟩
  · rw [h2]
    show (if r + 1 < r + 1 then dv (n - 1) (r + 1 + 1) + 1 else dv n (r + 1 + 1) + 1) = _
    rw [if_neg (by omega), dv_succ]
  · have hr := hf r (by omega)
    have hr2 := dv_succ n r
    cases r with
    | zero =>
      show (if 0 + 1 = 0 then n + 1 else n) = _
      rw [if_neg (by omega)]
      rw [dv_zero] at hr hr2
      omega
    | succ r =>
      show (if r < r + 1 + 1 then dv (n - 1) (r + 1) + 1 else dv n (r + 1) + 1) = _
      rw [if_pos (by omega), (hf.less (show r + 1 ≤ r + 1 + 1 by omega)).pred hn]
      have := (hf.less (show r + 1 ≤ r + 1 + 1 by omega)).pos hn
      omega

/-- In the midst of a round: the new node (level r, place q, block A) is there. -/
structure Mx (K V : Nat → Value) (kb : Nat → List UInt8) (d : D) (h r : Nat) (c : Nat → Nat) (low : Nat → Nat → Value) (n q A : Nat) : Prop where
  pt : PT K V kb d h c low
  nd : ∀ l, l < h → l ≠ r → d.nd l = cm n (r + 1) (l + 1)
  ndr : d.nd r = q + 1
  hq : q = dv n (r + 1)
  adr : d.adr r q = A
  root : d.root = ptr (d.adr (h - 1) 0)
  len : d.len = n + 1
  sp : d.sp = spl d.adr d.nd h (h - (r + 1))
  full : Full n (r + 1)
  rh : r + 1 < h
  hi : n + 1 ≤ 16 ^ h
  lo : h = 1 ∨ 16 ^ (h - 1) < n + 1

theorem Mid.new {d : D} {h r n : Nat} {low : Nat → Nat → Value} (M : Mid K V kb d h (r + 1) (h - (r + 1)) low n) (hn : 0 < n) (H : Nat) (col' : Nat → Option (Nat × Nat × Nat)) :
    Mx K V kb { d with nd := upd1 d.nd r (d.nd r + 1), adr := upd2 d.adr r (d.nd r) H, slv := upd2 d.slv r (d.nd r) (.slice none 0 0), it := upd2 d.it r (d.nd r) [], col := col' } h r (cm n (r + 1)) low n (dv n (r + 1)) H := by
  have hrh := M.rh
  obtain ⟨n1, n2, n3, n4, n5⟩ := M.nums hn
  refine ⟨M.pt.node r H col' (by omega) (by rw [n4, n1]; exact Nat.le_refl _), fun l hl hne => ?_, ?_, rfl, ?_, ?_, M.len, ?_, M.full, hrh, M.hi, M.lo⟩
  · show upd1 d.nd r (d.nd r + 1) l = _
    rw [upd1_ne _ _ _ hne]; exact M.nd l hl
  · show upd1 d.nd r (d.nd r + 1) r = _
    rw [upd1_same, n1]
  · show upd2 d.adr r (d.nd r) H r (dv n (r + 1)) = H
    rw [n1, upd2_same]
  · show d.root = ptr (upd2 d.adr r (d.nd r) H (h - 1) 0)
    rw [upd2_ne _ _ _ _ (by rintro ⟨e, _⟩; omega)]; exact M.root
  · show d.sp = spl (upd2 d.adr r (d.nd r) H) (upd1 d.nd r (d.nd r + 1)) h (h - (r + 1))
    rw [M.sp]
    refine spl_congr fun s hs => ?_
    rw [upd1_ne _ _ _ (by omega), upd2_ne _ _ _ _ (by rintro ⟨e, _⟩; omega)]

theorem Mx.put {d : D} {h r : Nat} {c c' : Nat → Nat} {low low' : Nat → Nat → Value} {n q A : Nat} (M : Mx K V kb d h r c low n q A) {slv : Nat → Nat → Value} {it : Nat → Nat → List Value} {col : Nat → Option (Nat × Nat × Nat)} {lows : List (Value × List UInt8)}
    (p : PT K V kb { d with slv := slv, it := it, col := col, lows := lows } h c' low') : Mx K V kb { d with slv := slv, it := it, col := col, lows := lows } h r c' low' n q A :=
  ⟨p, M.nd, M.ndr, M.hq, M.adr, M.root, M.len, M.sp, M.full, M.rh, M.hi, M.lo⟩

theorem Mx.done {d : D} {h r : Nat} {c : Nat → Nat} {low : Nat → Nat → Value} {n q A : Nat} (M : Mx K V kb d h r c low n q A) (hc : ∀ l, l ≤ h → cm n r l = c l) (sv : Value) (col : Nat → Option (Nat × Nat × Nat)) :
    Mid K V kb { d with spv := sv, sp := d.sp ++ [ptr A], col := col } h r (h - r) low n := by
  have p := M.pt.cc hc
  have hrh := M.rh
  refine ⟨⟨p.h1, p.nd0, p.cl, p.leaf, p.inn, p.low0, p.lowk, p.some'⟩, fun l hl => ?_, M.root, M.len, ?_, M.full.less (by omega), by omega, M.hi, M.lo⟩
  · show d.nd l = cm n r (l + 1)
    by_cases e : l = r
    · subst e
      rw [M.ndr, M.hq]
      show dv n (l + 1) + 1 = (if l < l then dv (n - 1) (l + 1) + 1 else dv n (l + 1) + 1)
      rw [if_neg (by omega)]
    · rw [M.nd l hl e]
      show (if l < r + 1 then dv (n - 1) (l + 1) + 1 else dv n (l + 1) + 1) = (if l < r then dv (n - 1) (l + 1) + 1 else dv n (l + 1) + 1)
      by_cases e2 : l < r
      · rw [if_pos e2, if_pos (by omega)]
      · rw [if_neg e2, if_neg (by omega)]
  · show d.sp ++ [ptr A] = spl d.adr d.nd h (h - r)
    rw [show h - r = h - (r + 1) + 1 by omega, M.sp]
    simp only [spl]
    rw [show h - 1 - (h - (r + 1)) = r by omega, M.ndr, Nat.add_sub_cancel, M.adr]

/-- The new node is hung into its father. -/
theorem Mx.child {d : D} {h r : Nat} {c : Nat → Nat} {low : Nat → Nat → Value} {n q A : Nat} (M : Mx K V kb d h r c low n q A) (lows : List (Value × List UInt8)) (hp : PT K V kb { d with lows := lows } h c low) (hcq : c (r + 1) = q)
    (hs : 1 ≤ r → ∃ g n cap, d.slv r q = .slice (some ⟨g, 0, none⟩) n cap) (lv : Value) (hl0 : q % 16 = 0 → lv = .slice none 0 0) (hlk : q % 16 ≠ 0 → (lv, kb (q * 16 ^ (r + 1))) ∈ lows) (g k cap : Nat) (col : Nat → Option (Nat × Nat × Nat)) (qp : Nat) (hqp : d.nd (r + 1) = qp + 1) (hq2 : q / 16 = qp) :
    Mx K V kb { d with slv := upd2 d.slv (r + 1) qp (.slice (some ⟨g, 0, none⟩) k cap), it := upd2 d.it (r + 1) qp (d.it (r + 1) qp ++ [lv, ptr A]), col := col, lows := lows } h r (upd1 c (r + 1) (q + 1)) (upd2 low r q lv) n q A := by
  have hrh := M.rh
  have hndr := M.ndr
  have hadr := M.adr
  subst hcq
  have h2 := hp.child r qp g k cap lv col hrh hqp (by omega) (by omega) (by show c (r + 1) < d.nd r; omega) hs hl0 hlk
  have e : ({ d with lows := lows } : D).adr r (c (r + 1)) = A := hadr
  rw [e] at h2
  exact M.put h2

/-- The leaf's round in numbers. -/
theorem cm_leaf {n : Nat} (hf : Full n 1) (hn : 0 < n) : ∀ l, cm n 0 l = upd1 (upd1 (cm n 1) 0 (n + 1)) 1 (cm n 1 1 + 1) l := fun l => by
  cases l with
  | zero => rfl
  | succ l =>
    by_cases e : l = 0
    · subst e
      rw [upd1_same]
      show (if 0 < 0 then dv (n - 1) 1 + 1 else dv n 1 + 1) = (if 0 < 1 then dv (n - 1) 1 + 1 else dv n 1 + 1) + 1
      rw [if_neg (by omega), if_pos (by omega), hf.pred hn]
      have := hf.pos hn
      omega
    · rw [upd1_ne _ _ _ (by omega), upd1_ne _ _ _ (by omega)]
      show (if l < 0 then dv (n - 1) (l + 1) + 1 else dv n (l + 1) + 1) = (if l < 1 then dv (n - 1) (l + 1) + 1 else dv n (l + 1) + 1)
      rw [if_neg (by omega), if_neg (by omega)]

/-- The start, where no node has room: the new root. -/
theorem Rest.midRoot {d : D} {h n : Nat} {low : Nat → Nat → Value} (r : Rest K V kb d h low n) (hn : 0 < n) (hf : Full n h) (H g k cap : Nat) (sv rt : Value) (col' : Nat → Option (Nat × Nat × Nat)) (hrt : rt = ptr H) :
    Mid K V kb { d with nd := upd1 d.nd h (d.nd h + 1), adr := upd2 d.adr h (d.nd h) H, slv := upd2 d.slv h (d.nd h) (.slice (some ⟨g, 0, none⟩) k cap), it := upd2 d.it h (d.nd h) [.slice none 0 0, ptr (d.adr (h - 1) 0)], root := rt, len := n + 1, spv := sv, sp := [ptr H], col := col' } (h + 1) h 1 low n := by
  have h1 := r.pt.h1
  have hnd := r.pt.nd0 h (Nat.le_refl _)
  have htop := hf.top hn r.hi
  have hd : dv n (h + 1) = 0 := dv_lt_of_lt (by rw [htop]; exact Nat.pow_lt_pow_right (by omega) (by omega))
  have hch : cv n h = 1 := by
    obtain ⟨h', rfl⟩ : ∃ h', h = h' + 1 := ⟨h - 1, by omega⟩
    show dv (n - 1) (h' + 1) + 1 = 1
    have : dv (n - 1) (h' + 1) = 0 := dv_lt_of_lt (by omega)
    omega
  have e : ∀ l, l ≤ h + 1 → cm n h l = upd1 (cv n) (h + 1) 1 l := fun l hl => by
    cases l with
    | zero => rw [upd1_ne _ _ _ (by omega)]; show (if h = 0 then n + 1 else n) = n; rw [if_neg (by omega)]
    | succ l =>
      show (if l < h then dv (n - 1) (l + 1) + 1 else dv n (l + 1) + 1) = _
      by_cases e : l = h
      · subst e; rw [upd1_same, if_neg (by omega), hd]
      · rw [upd1_ne _ _ _ (by omega), if_pos (by omega)]; rfl
  have p := (r.pt.root H g k cap col' hch).cc e
  refine ⟨⟨p.h1, p.nd0, p.cl, p.leaf, p.inn, p.low0, p.lowk, p.some'⟩, fun l hl => ?_, ?_, rfl, ?_, hf, by omega, ?_, .inr ?_⟩
  · show upd1 d.nd h (d.nd h + 1) l = cm n h (l + 1)
    rw [e _ (by omega)]
    by_cases e2 : l = h
    · subst e2; rw [upd1_same, upd1_same, hnd]
    · rw [upd1_ne _ _ _ e2, upd1_ne _ _ _ (by omega), r.nd l (by omega)]; rfl
  · show rt = ptr (upd2 d.adr h (d.nd h) H (h + 1 - 1) 0)
    rw [hrt, hnd, Nat.add_sub_cancel, upd2_same]
  · show [ptr H] = spl (upd2 d.adr h (d.nd h) H) (upd1 d.nd h (d.nd h + 1)) (h + 1) 1
    simp only [spl, Nat.sub_zero, Nat.add_sub_cancel, List.nil_append]
    rw [upd1_same, hnd, upd2_same]
  · rw [htop, Nat.pow_succ]
    have : 0 < 16 ^ h := Nat.pow_pos (by omega)
    omega
  · rw [Nat.add_sub_cancel, htop]; omega

end Go.Proofs.Qxb6604003a
