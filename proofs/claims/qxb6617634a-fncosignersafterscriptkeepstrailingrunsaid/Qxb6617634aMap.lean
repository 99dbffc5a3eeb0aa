/-
  DERIVED (proof work on the seat Qxb6617634a). A map[string]bool by what it holds at each key.
-/
import Derived.Lib.SlMapMerge
import Derived.Maps.OwnSet
import Derived.Maps.Ext
namespace Go.Proofs.Qxb6617634a.Mp
open Go.Maps

def key (s : ByteArray) : Lit := .string s.data.toList

theorem key_inj {s t : ByteArray} (h : key s = key t) : s = t := by
  injection h with h
  cases s; cases t
  congr 1
  exact Array.toList_inj.1 h

theorem key_lit (s : ByteArray) : WideAt.IsKeyLit (key s) := trivial

/-- D holds just what f says. -/
structure Rf (D : DataW Unit) (f : ByteArray → Option Bool) : Prop where
  hs : ∀ s, Maps.has D (key s) = (f s).isSome
  at_ : ∀ s b, f s = some b → ∀ z, D.atKey (key s) z = .lit (.bool b)
  str : ∀ k, Maps.has D k = true → ∃ s, k = key s

theorem rf_nil : Rf .nil (fun _ => none) := ⟨fun _ => rfl, (fun _ _ h => by cases h), (fun _ h => by cases h)⟩
theorem rf_empty : Rf (.map []) (fun _ => none) := ⟨fun _ => rfl, (fun _ _ h => by cases h), (fun _ h => by cases h)⟩

theorem rf_put {D : DataW Unit} {f : ByteArray → Option Bool} (h : Rf D f) (hm : IsMap D) (s : ByteArray) (b : Bool) :
    Rf (D.put (key s) (.lit (.bool b))) (fun x => if x = s then some b else f x) := by
  refine ⟨fun x => ?_, fun x c hx z => ?_, fun k hk => ?_⟩
  · by_cases e : x = s
    · subst e; rw [has_put_same hm (key_lit x)]; simp
    · rw [has_put_other (fun he => e (key_inj he)), h.hs x]; simp [e]
  · by_cases e : x = s
    · subst e
      rw [atKey_put_same hm (key_lit x)]
      simp at hx; rw [hx]
    · rw [atKey_put_other (fun he => e (key_inj he))]
      simp [e] at hx
      exact h.at_ x c hx z
  · by_cases e : k = key s
    · exact ⟨s, e⟩
    · rw [has_put_other e] at hk
      exact h.str k hk

theorem rf_merge {Dd Ds : DataW Unit} {f g : ByteArray → Option Bool} (hd : Rf Dd f) (hg : Rf Ds g) (hm : IsMap Dd) (hs : Ds = .nil ∨ Canon Ds) :
    Rf (Lib.mergeD Dd Ds) (fun x => (g x).or (f x)) := by
  rcases hs with rfl | ⟨es, rfl, hr, hk⟩
  · have g0 : ∀ x, g x = none := fun x => by
      have := hg.hs x
      cases e : g x with
      | none => rfl
      | some b => rw [e] at this; cases this
    have e : (fun x => (g x).or (f x)) = f := by funext x; rw [g0 x]; rfl
    rw [e]
    exact hd
  · have H1 : ∀ k, Maps.has (Lib.mergeD Dd (.map es)) k = (Maps.has Dd k || Maps.has (.map es) k) := fun k => by
      show Maps.has (es.foldl (fun D p => D.put p.1 p.2) Dd) k = _
      rw [has_foldPut k es Dd hm hk, has_eq]
    refine ⟨fun x => ?_, fun x c hx z => ?_, fun k hk => ?_⟩
    · rw [H1, hd.hs, hg.hs]
      cases g x <;> cases f x <;> rfl
    · have H2 := atKey_foldPut (key x) z es Dd hm hk (apart_of_rising hr)
      show (es.foldl (fun D p => D.put p.1 p.2) Dd).atKey (key x) z = _
      rw [H2]
      cases hf : es.find? (fun p => p.1.sameKey (key x)) with
      | none =>
        have h0 : Maps.has (.map es) (key x) = false := by
          rw [has_eq]
          exact List.any_eq_false.2 (fun p hp => by simpa using List.find?_eq_none.1 hf p hp)
        have gx : g x = none := by
          have := hg.hs x
          rw [h0] at this
          cases e : g x with
          | none => rfl
          | some b => rw [e] at this; cases this
        rw [gx] at hx
        exact hd.at_ x c hx z
      | some p =>
        have h1 : Maps.has (.map es) (key x) = true := by
          rw [has_eq]
          exact List.any_eq_true.2 ⟨p, List.mem_of_find?_eq_some hf, List.find?_some (p := fun (q : Lit × DataW Unit) => q.1.sameKey (key x)) hf⟩
        have h2 : (DataW.map es).atKey (key x) z = p.2 := by
          simp only [DataW.atKey, hf]
        have gx : g x = some c := by
          have := hg.hs x
          rw [h1] at this
          cases e : g x with
          | none => rw [e] at this; cases this
          | some b => rw [e] at hx; simpa using hx
        show p.2 = _
        rw [← h2]
        exact hg.at_ x c gx z
    · rw [H1] at hk
      cases e : Maps.has Dd k with
      | true => exact hd.str k e
      | false => rw [e] at hk; exact hg.str k hk

theorem length_le_of_sub {α : Type} : ∀ (l m : List α), l.Pairwise (· ≠ ·) → (∀ x ∈ l, x ∈ m) → l.length ≤ m.length
  | [], _, _, _ => Nat.zero_le _
  | a :: l, m, hp, hs => by
    classical
    obtain ⟨h1, h2⟩ := List.pairwise_cons.1 hp
    have ha : a ∈ m := hs a (by simp)
    have := length_le_of_sub l (m.erase a) h2 (fun x hx => by
      have hne : x ≠ a := (h1 x hx).symm
      exact (List.mem_erase_of_ne hne).2 (hs x (List.mem_cons_of_mem _ hx)))
    have hl := List.length_erase_of_mem ha
    have : 0 < m.length := List.length_pos_of_mem ha
    simp only [List.length_cons]
    omega

/-- How many entries D has, by a list of its keys. -/
theorem rf_size {D : DataW Unit} {f : ByteArray → Option Bool} (h : Rf D f) (ht : D = .nil ∨ Canon D) (l : List ByteArray) (hl : l.Pairwise (· ≠ ·)) (hf : ∀ s, (f s).isSome = true ↔ s ∈ l) :
    Maps.size D = l.length := by
  rcases ht with rfl | ⟨es, rfl, hp0, hkl⟩
  · cases l with
    | nil => rfl
    | cons a r =>
      have := (hf a).2 (by simp)
      rw [← h.hs a] at this
      cases this
  · have hp := apart_of_rising hp0
    rw [size_eq]
    have hm : ∀ k, k ∈ es.map (·.1) ↔ k ∈ l.map key := by
      intro k
      constructor
      · intro hk
        obtain ⟨p, hp1, rfl⟩ := List.mem_map.1 hk
        have h1 : Maps.has (.map es) p.1 = true := by
          rw [has_eq]
          exact List.any_eq_true.2 ⟨p, hp1, WideAt.sameKey_self (hkl p hp1)⟩
        obtain ⟨s, hs⟩ := h.str _ h1
        rw [hs] at h1 ⊢
        exact List.mem_map.2 ⟨s, (hf s).1 (by rw [← h.hs s]; exact h1), rfl⟩
      · intro hk
        obtain ⟨s, hs, rfl⟩ := List.mem_map.1 hk
        have h1 : Maps.has (.map es) (key s) = true := by rw [h.hs s]; exact (hf s).2 hs
        rw [has_eq] at h1
        obtain ⟨p, hp1, hp2⟩ := List.any_eq_true.1 h1
        exact List.mem_map.2 ⟨p, hp1, WideAt.sameKey_eq hp2⟩
    have n1 : (es.map (·.1)).Pairwise (· ≠ ·) := List.pairwise_map.2 hp
    have n2 : (l.map key).Pairwise (· ≠ ·) := List.pairwise_map.2 ((List.Pairwise.iff (fun a b => ⟨fun hne he => hne (key_inj he), fun hne he => hne (by rw [he])⟩)).1 hl)
    have a1 := length_le_of_sub _ _ n1 (fun x hx => (hm x).1 hx)
    have a2 := length_le_of_sub _ _ n2 (fun x hx => (hm x).2 hx)
    simp at a1 a2
    omega

end Go.Proofs.Qxb6617634a.Mp
