namespace Go.Proofs.Qxb6616045a.Ln

/-- The sorted list, as the library's contract names it. -/
def srt (zs : List Int) : List Int := zs.mergeSort fun x y => decide (x ≤ y)

theorem srt_perm (zs : List Int) : (srt zs).Perm zs := List.mergeSort_perm _ _
theorem srt_length (zs : List Int) : (srt zs).length = zs.length := (srt_perm zs).length_eq
theorem pw_of {R S : Int → Int → Prop} (h : ∀ a b, R a b → S a b) : ∀ {l : List Int}, l.Pairwise R → l.Pairwise S
  | [], _ => List.Pairwise.nil
  | a :: l, hl => by
    rw [List.pairwise_cons] at hl ⊢
    exact ⟨fun b hb => h a b (hl.1 b hb), pw_of h hl.2⟩

theorem srt_sorted (zs : List Int) : (srt zs).Pairwise (· ≤ ·) := by
  have := List.pairwise_mergeSort (le := fun x y : Int => decide (x ≤ y)) (fun a b c h1 h2 => by simp at *; omega) (fun a b => by simp; omega) zs
  exact pw_of (fun a b h => by simpa using h) this

theorem eq_of_sorted {l m : List Int} (hp : l.Perm m) (h1 : l.Pairwise (· ≤ ·)) (h2 : m.Pairwise (· ≤ ·)) : l = m :=
  List.Perm.eq_of_pairwise (le := fun a b : Int => a ≤ b) (fun a b _ _ h3 h4 => by omega) h1 h2 hp

theorem srt_of_perm {l m : List Int} (h : l.Perm m) : srt l = srt m :=
  eq_of_sorted ((srt_perm l).trans (h.trans (srt_perm m).symm)) (srt_sorted l) (srt_sorted m)

/-- How many leading elements are not above v. -/
def cut (v : Int) : List Int → Nat
  | [] => 0
  | z :: zs => if z ≤ v then cut v zs + 1 else 0

theorem cut_le (v : Int) (zs : List Int) : cut v zs ≤ zs.length := by
  induction zs with
  | nil => simp [cut]
  | cons z zs ih => unfold cut; split <;> simp <;> omega

theorem cut_lt (v : Int) : ∀ (zs : List Int) (k : Nat), k < cut v zs → zs.getD k 0 ≤ v := by
  intro zs
  induction zs with
  | nil => intro k hk; simp [cut] at hk
  | cons z zs ih =>
    intro k hk
    unfold cut at hk
    by_cases h : z ≤ v
    · rw [if_pos h] at hk
      cases k with
      | zero => simpa using h
      | succ k => simpa using ih k (by omega)
    · rw [if_neg h] at hk; omega

theorem cut_at (v : Int) : ∀ zs : List Int, cut v zs < zs.length → v < zs.getD (cut v zs) 0 := by
  intro zs
  induction zs with
  | nil => intro h; simp at h
  | cons z zs ih =>
    intro hk
    unfold cut at hk ⊢
    by_cases h : z ≤ v
    · rw [if_pos h] at hk ⊢
      simp only [List.getD_cons_succ]
      exact ih (by simp at hk; exact hk)
    · rw [if_neg h] at hk ⊢
      simp; omega

/-- v put in at its sorted place. -/
def ins (v : Int) (zs : List Int) : List Int := zs.take (cut v zs) ++ v :: zs.drop (cut v zs)

theorem ins_perm (v : Int) (zs : List Int) : (ins v zs).Perm (v :: zs) := by
  unfold ins
  refine List.perm_middle.trans ?_
  rw [List.take_append_drop]

theorem ins_length (v : Int) (zs : List Int) : (ins v zs).length = zs.length + 1 := by
  have := (ins_perm v zs).length_eq; simpa using this

theorem ins_sorted (v : Int) (zs : List Int) (h : zs.Pairwise (· ≤ ·)) : (ins v zs).Pairwise (· ≤ ·) := by
  unfold ins
  have h' : (zs.take (cut v zs) ++ zs.drop (cut v zs)).Pairwise (· ≤ ·) := by rw [List.take_append_drop]; exact h
  rw [List.pairwise_append] at h' ⊢
  obtain ⟨h1, h2, h3⟩ := h'
  have ha : ∀ a ∈ zs.take (cut v zs), a ≤ v := by
    intro a ha
    obtain ⟨i, hi, rfl⟩ := List.getElem_of_mem ha
    have hi' : i < cut v zs := by simp at hi; omega
    have := cut_lt v zs i hi'
    rw [List.getElem_take]
    rw [List.getD_eq_getElem?_getD, List.getElem?_eq_getElem (by simp at hi; omega)] at this
    simpa using this
  have hb : ∀ b ∈ zs.drop (cut v zs), v ≤ b := by
    intro b hb
    obtain ⟨i, hi, rfl⟩ := List.getElem_of_mem hb
    have hl : cut v zs < zs.length := by simp at hi; omega
    have hc := cut_at v zs hl
    rw [List.getD_eq_getElem?_getD, List.getElem?_eq_getElem hl] at hc
    simp only [Option.getD_some] at hc
    rw [List.getElem_drop]
    by_cases h0 : i = 0
    · subst h0; simp; omega
    · have := (List.pairwise_iff_getElem.1 h) (cut v zs) (cut v zs + i) hl (by simp at hi; omega) (by omega)
      omega
  refine ⟨h1, ?_, ?_⟩
  · rw [List.pairwise_cons]; exact ⟨hb, h2⟩
  · intro a haa b hbb
    rcases List.mem_cons.1 hbb with rfl | hbb
    · exact ha a haa
    · exact h3 a haa b hbb

/-- One more element: the old answer with it put in at its sorted place. -/
theorem srt_ins (v : Int) (zs ys : List Int) (h : ys.Perm (v :: zs)) : srt ys = ins v (srt zs) :=
  eq_of_sorted ((srt_perm ys).trans (h.trans (((srt_perm zs).symm.cons v).trans (ins_perm v (srt zs)).symm))) (srt_sorted ys) (ins_sorted v _ (srt_sorted zs))

/-- The merge. -/
def mrg (xs ys : List Int) : List Int := xs.merge ys (fun x y => decide (x ≤ y))

theorem srt_mrg (zs xs ys : List Int) (h : zs.Perm (xs ++ ys)) : srt zs = mrg (srt xs) (srt ys) := by
  refine eq_of_sorted ((srt_perm zs).trans (h.trans (((srt_perm xs).symm.append (srt_perm ys).symm).trans (List.merge_perm_append _).symm))) (srt_sorted zs) ?_
  have := List.pairwise_merge (le := fun x y : Int => decide (x ≤ y)) (fun a b c h1 h2 => by simp at *; omega) (fun a b => by simp; omega) (srt xs) (srt ys)
    (pw_of (fun a b h => by simpa using h) (srt_sorted xs)) (pw_of (fun a b h => by simpa using h) (srt_sorted ys))
  exact pw_of (fun a b h => by simpa using h) this
end Go.Proofs.Qxb6616045a.Ln
