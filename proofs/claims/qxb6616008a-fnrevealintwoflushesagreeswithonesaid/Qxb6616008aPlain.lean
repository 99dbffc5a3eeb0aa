namespace Go.Proofs.Qxb6616008a.Pos

/-- One pending record: where it begins, where it ends, whether it is settled. -/
structure Rec where
  ai : Int
  ao : Int
  ei : Int
  eo : Int
  st : Bool

def zero : Rec := ⟨0, 0, 0, 0, false⟩

/-- 'posBefore'. -/
def pb (ai ao bi bo : Int) : Bool := if ai = bi then decide (ao < bo) else decide (ai < bi)

theorem pb_iff (ai ao bi bo : Int) : pb ai ao bi bo = true ↔ ai < bi ∨ (ai = bi ∧ ao < bo) := by
  unfold pb
  by_cases h : ai = bi
  · simp [h]
  · simp [h]

theorem pb_not (ai ao bi bo : Int) : pb ai ao bi bo = false ↔ bi < ai ∨ (ai = bi ∧ bo ≤ ao) := by
  have := pb_iff ai ao bi bo
  cases h : pb ai ao bi bo with
  | true => rw [h] at this; simp at this ⊢; omega
  | false => rw [h] at this; simp at this ⊢; omega

/-- The position that readers see: the earlier of the flushed position and the first unsettled record's start. -/
def seen (fi fo : Int) : List Rec → Int × Int
  | [] => (fi, fo)
  | r :: rs => if r.st then seen fi fo rs else if pb r.ai r.ao fi fo then (r.ai, r.ao) else (fi, fo)

theorem seen_nil (fi fo : Int) : seen fi fo [] = (fi, fo) := rfl

/-- The records that stay pending behind a reveal whose seen position is (si, so). -/
def rest (si so : Int) : List Rec → List Rec
  | [] => []
  | r :: rs => if pb r.ai r.ao si so then rest si so rs else r :: rs
/-- How many are let go. -/
def gone (si so : Int) : List Rec → Nat
  | [] => 0
  | r :: rs => if pb r.ai r.ao si so then gone si so rs + 1 else 0

theorem gone_le (si so : Int) (rs : List Rec) : gone si so rs ≤ rs.length := by
  induction rs with
  | nil => simp [gone]
  | cons r rs ih => unfold gone; split <;> simp <;> omega

theorem rest_eq (si so : Int) (rs : List Rec) : rest si so rs = rs.drop (gone si so rs) := by
  induction rs with
  | nil => rfl
  | cons r rs ih =>
    unfold rest gone
    by_cases h : pb r.ai r.ao si so = true
    · rw [if_pos h, if_pos h, List.drop_succ_cons, ih]
    · rw [if_neg h, if_neg h]; rfl

/-- Each of the first 'gone' records starts ahead of the seen position. -/
theorem gone_lt (si so : Int) : ∀ (rs : List Rec) (k : Nat), k < gone si so rs → pb (rs.getD k zero).ai (rs.getD k zero).ao si so = true := by
  intro rs
  induction rs with
  | nil => intro k hk; simp [gone] at hk
  | cons r rs ih =>
    intro k hk
    unfold gone at hk
    by_cases h : pb r.ai r.ao si so = true
    · rw [if_pos h] at hk
      cases k with
      | zero => simpa using h
      | succ k => simpa using ih k (by omega)
    · rw [if_neg h] at hk; omega

/-- The record at place 'gone', if there is one, does not. -/
theorem gone_at (si so : Int) : ∀ (rs : List Rec), gone si so rs < rs.length → pb (rs.getD (gone si so rs) zero).ai (rs.getD (gone si so rs) zero).ao si so = false := by
  intro rs
  induction rs with
  | nil => intro h; simp at h
  | cons r rs ih =>
    intro hk
    unfold gone at hk ⊢
    by_cases h : pb r.ai r.ao si so = true
    · rw [if_pos h] at hk ⊢
      simp only [List.getD_cons_succ]
      exact ih (by simp at hk; exact hk)
    · rw [if_neg h] at hk ⊢
      simpa using h

/-- If no record among the first n stops the count and the n-th does (or there is none), n is 'gone'. -/
theorem gone_of (si so : Int) (rs : List Rec) (n : Nat) (hn : n ≤ rs.length) (h1 : ∀ k, k < n → pb (rs.getD k zero).ai (rs.getD k zero).ao si so = true)
    (h2 : n < rs.length → pb (rs.getD n zero).ai (rs.getD n zero).ao si so = false) : n = gone si so rs := by
  rcases Nat.lt_trichotomy n (gone si so rs) with h | h | h
  · have a := gone_lt si so rs n h
    have b := h2 (Nat.lt_of_lt_of_le h (gone_le si so rs))
    rw [a] at b; cases b
  · exact h
  · have a := h1 _ h
    have b := gone_at si so rs (by omega)
    rw [a] at b; cases b

/-- The first unsettled record, as an index: the scan's answer. -/
theorem seen_of_all (fi fo : Int) (rs : List Rec) (h : ∀ k, k < rs.length → (rs.getD k zero).st = true) : seen fi fo rs = (fi, fo) := by
  induction rs with
  | nil => rfl
  | cons r rs ih =>
    unfold seen
    have h0 := h 0 (by simp)
    simp at h0
    rw [if_pos h0]
    exact ih fun k hk => by simpa using h (k + 1) (by simp; omega)

theorem seen_at (fi fo : Int) : ∀ (rs : List Rec) (n : Nat), n < rs.length → (∀ k, k < n → (rs.getD k zero).st = true) → (rs.getD n zero).st = false →
    seen fi fo rs = if pb (rs.getD n zero).ai (rs.getD n zero).ao fi fo then ((rs.getD n zero).ai, (rs.getD n zero).ao) else (fi, fo) := by
  intro rs
  induction rs with
  | nil => intro n hn; simp at hn
  | cons r rs ih =>
    intro n hn h1 h2
    cases n with
    | zero =>
      simp at h2
      simp [seen, h2]
    | succ n =>
      have h0 := h1 0 (by omega)
      simp at h0
      unfold seen
      rw [if_pos h0]
      have := ih n (by simp at hn; omega) (fun k hk => by simpa using h1 (k + 1) (by omega)) (by simpa using h2)
      simpa using this

/-- Records in order: each nonempty, none begins before the one ahead of it ends. -/
def Ordered (rs : List Rec) : Prop :=
  (∀ k, k < rs.length → pb (rs.getD k zero).ai (rs.getD k zero).ao (rs.getD k zero).ei (rs.getD k zero).eo = true) ∧
  (∀ k, k + 1 < rs.length → pb (rs.getD (k + 1) zero).ai (rs.getD (k + 1) zero).ao (rs.getD k zero).ei (rs.getD k zero).eo = false)

/-- In ordered records whatever stands behind one that is not ahead of the seen position is not either. -/
theorem ordered_past (si so : Int) (rs : List Rec) (ho : Ordered rs) (n : Nat) (hn : pb (rs.getD n zero).ai (rs.getD n zero).ao si so = false) :
    ∀ d, n + d < rs.length → pb (rs.getD (n + d) zero).ai (rs.getD (n + d) zero).ao si so = false := by
  intro d
  induction d with
  | zero => intro _; exact hn
  | succ d ih =>
    intro h
    have a := ih (by omega)
    have b := ho.1 (n + d) (by omega)
    have c := ho.2 (n + d) (by omega)
    rw [show n + (d + 1) = n + d + 1 by omega]
    rw [pb_not] at a c ⊢
    rw [pb_iff] at b
    omega

theorem ordered_gone (si so : Int) (rs : List Rec) (ho : Ordered rs) (k : Nat) (hk : k < rs.length) (hg : gone si so rs ≤ k) : pb (rs.getD k zero).ai (rs.getD k zero).ao si so = false := by
  have := ordered_past si so rs ho (gone si so rs) (gone_at si so rs (by omega)) (k - gone si so rs) (by omega)
  rwa [show gone si so rs + (k - gone si so rs) = k by omega] at this

/-! ### Two flushes -/

theorem seen_rest_aux (fi fo mi mo : Int) : ∀ (rs : List Rec) (si so : Int), (seen mi mo rs = (si, so)) → seen fi fo (rest si so rs) = seen fi fo rs := by
  intro rs
  induction rs with
  | nil => intro si so _; rfl
  | cons r rs ih =>
    intro si so hs
    unfold rest
    by_cases h : pb r.ai r.ao si so = true
    · rw [if_pos h]
      by_cases hst : r.st = true
      · have e : seen mi mo rs = (si, so) := by unfold seen at hs; rwa [if_pos hst] at hs
        have := ih si so e
        rw [this]
        conv => rhs; unfold seen
        rw [if_pos hst]
      · exfalso
        unfold seen at hs
        rw [if_neg hst] at hs
        by_cases hp : pb r.ai r.ao mi mo = true
        · rw [if_pos hp] at hs
          simp at hs
          obtain ⟨rfl, rfl⟩ := hs
          rw [pb_iff] at h
          omega
        · rw [if_neg hp] at hs
          simp at hs
          obtain ⟨rfl, rfl⟩ := hs
          exact hp h
    · rw [if_neg h]

/-- Letting go of what is seen does not turn the seen position of any flush. -/
theorem seen_rest (fi fo mi mo : Int) (rs : List Rec) : seen fi fo (rest (seen mi mo rs).1 (seen mi mo rs).2 rs) = seen fi fo rs :=
  seen_rest_aux fi fo mi mo rs _ _ rfl

/-- The seen position moves with the flushed one. -/
theorem seen_mono (fi fo ti to : Int) (h : pb ti to fi fo = false) : ∀ rs : List Rec, pb (seen ti to rs).1 (seen ti to rs).2 (seen fi fo rs).1 (seen fi fo rs).2 = false := by
  intro rs
  induction rs with
  | nil => exact h
  | cons r rs ih =>
    unfold seen
    by_cases hst : r.st = true
    · rw [if_pos hst, if_pos hst]; exact ih
    · rw [if_neg hst, if_neg hst]
      have a := pb_iff r.ai r.ao ti to
      have b := pb_iff r.ai r.ao fi fo
      rw [pb_not] at h
      by_cases h1 : pb r.ai r.ao ti to = true
      · rw [if_pos h1]
        by_cases h2 : pb r.ai r.ao fi fo = true
        · rw [if_pos h2, pb_not]; omega
        · rw [if_neg h2, pb_not]
          have : ¬ (r.ai < fi ∨ r.ai = fi ∧ r.ao < fo) := fun x => h2 (b.2 x)
          simp only; omega
      · rw [if_neg h1]
        have : ¬ (r.ai < ti ∨ r.ai = ti ∧ r.ao < to) := fun x => h1 (a.2 x)
        by_cases h2 : pb r.ai r.ao fi fo = true
        · have := b.1 h2
          rw [if_pos h2, pb_not]; simp only; omega
        · rw [if_neg h2, pb_not]; simp only; omega

theorem rest_pos {si so : Int} {r : Rec} {rs : List Rec} (h : pb r.ai r.ao si so = true) : rest si so (r :: rs) = rest si so rs := by
  conv => lhs; unfold rest
  rw [if_pos h]
theorem rest_neg {si so : Int} {r : Rec} {rs : List Rec} (h : ¬ pb r.ai r.ao si so = true) : rest si so (r :: rs) = r :: rs := by
  conv => lhs; unfold rest
  rw [if_neg h]

theorem rest_rest (ai ao bi bo : Int) (h : pb bi bo ai ao = false) (rs : List Rec) : rest bi bo (rest ai ao rs) = rest bi bo rs := by
  induction rs with
  | nil => rfl
  | cons r rs ih =>
    by_cases hr : pb r.ai r.ao ai ao = true
    · have : pb r.ai r.ao bi bo = true := by
        rw [pb_iff] at hr ⊢
        rw [pb_not] at h
        omega
      rw [rest_pos hr, rest_pos this, ih]
    · rw [rest_neg hr]

/-- Moved forward twice, or not at all twice: moved forward overall, or not at all. -/
theorem moved (ai ao bi bo ci co : Int) (h1 : pb bi bo ai ao = false) (h2 : pb ci co bi bo = false) : (pb ai ao bi bo || pb bi bo ci co) = pb ai ao ci co := by
  rw [Bool.eq_iff_iff, Bool.or_eq_true, pb_iff, pb_iff, pb_iff]
  rw [pb_not] at h1 h2
  omega
end Go.Proofs.Qxb6616008a.Pos
