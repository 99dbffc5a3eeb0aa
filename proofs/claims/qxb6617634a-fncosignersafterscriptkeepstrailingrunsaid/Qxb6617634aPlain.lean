/-
  DERIVED (proof work on the seat Qxb6617634a). THE PLAIN LAW: what the names are behind the script, and the list of them that the law reckons.
-/
import Derived.Test.Qxb6617634aRead
namespace Go.Proofs.Qxb6617634a.Mp

/-- The starting map, k entries laid. -/
def f0 (nm : Nat → ByteArray) (vl : Nat → Bool) : Nat → ByteArray → Option Bool
  | 0 => fun _ => none
  | k + 1 => fun x => if x = nm k then some (vl k) else f0 nm vl k x

/-- The size behind k steps. -/
def zk (s0 : Int) (sz : Nat → Int) : Nat → Int
  | 0 => s0
  | k + 1 => sz k

/-- The names behind k steps. -/
def fk (s0 : Int) (sz : Nat → Int) (wt : Nat → ByteArray) (f : ByteArray → Option Bool) : Nat → ByteArray → Option Bool
  | 0 => f
  | k + 1 => stepf (fk s0 sz wt f k) (sz k == zk s0 sz k) (wt k)

/-- The list kv has just what f holds, each key once. -/
def Fin (kv : List (ByteArray × Bool)) (f : ByteArray → Option Bool) : Prop :=
  (kv.map (·.1)).Pairwise (· ≠ ·) ∧ ∀ s b, f s = some b ↔ (s, b) ∈ kv

theorem Fin.congr {kv : List (ByteArray × Bool)} {f g : ByteArray → Option Bool} (h : Fin kv f) (e : ∀ s, g s = f s) : Fin kv g :=
  ⟨h.1, fun s b => by rw [e s]; exact h.2 s b⟩

theorem fin_nil {f : ByteArray → Option Bool} (e : ∀ s, f s = none) : Fin [] f := ⟨List.Pairwise.nil, fun s b => by rw [e s]; simp⟩

theorem Fin.snoc {kv : List (ByteArray × Bool)} {f g : ByteArray → Option Bool} (h : Fin kv f) {s0 : ByteArray} {b0 : Bool} (hn : f s0 = none) (e : ∀ s, g s = if s = s0 then some b0 else f s) : Fin (kv ++ [(s0, b0)]) g := by
  refine ⟨?_, fun s b => ?_⟩
  · rw [List.map_append, List.pairwise_append]
    refine ⟨h.1, by simp, fun x hx y hy => ?_⟩
    simp at hy
    subst hy
    rintro rfl
    obtain ⟨p, hp, rfl⟩ := List.mem_map.1 hx
    rw [(h.2 p.1 p.2).2 hp] at hn
    cases hn
  · rw [e s, List.mem_append]
    by_cases hs : s = s0
    · subst hs
      rw [if_pos rfl]
      constructor
      · intro hb; cases hb; exact .inr (by simp)
      · rintro (hb | hb)
        · rw [← h.2 s b, hn] at hb; cases hb
        · simp at hb; rw [hb]
    · rw [if_neg hs, h.2 s b]
      constructor
      · exact .inl
      · rintro (hb | hb)
        · exact hb
        · simp at hb; exact absurd hb.1 hs

theorem Fin.isSome {kv : List (ByteArray × Bool)} {f : ByteArray → Option Bool} (h : Fin kv f) (s : ByteArray) : (f s).isSome = true ↔ s ∈ kv.map (·.1) := by
  constructor
  · intro hs
    obtain ⟨b, hb⟩ := Option.isSome_iff_exists.1 hs
    exact List.mem_map.2 ⟨(s, b), (h.2 s b).1 hb, rfl⟩
  · intro hs
    obtain ⟨p, hp, rfl⟩ := List.mem_map.1 hs
    rw [(h.2 p.1 p.2).2 hp]; rfl

/-- Entry j is not the last of its name. -/
def later (nm : Nat → ByteArray) (n j : Nat) : Bool := ex (fun i => decide (nm i = nm j)) (j + 1) n

theorem f0_some (nm : Nat → ByteArray) (vl : Nat → Bool) (s : ByteArray) (b : Bool) : ∀ n, f0 nm vl n s = some b ↔ ∃ j, j < n ∧ later nm n j = false ∧ nm j = s ∧ vl j = b
  | 0 => by simp [f0]
  | n + 1 => by
    show (if s = nm n then some (vl n) else f0 nm vl n s) = some b ↔ _
    by_cases h : s = nm n
    · subst h
      rw [if_pos rfl]
      constructor
      · intro e
        refine ⟨n, by omega, ex_false (fun j h0 h1 => by omega), rfl, by simpa using e⟩
      · rintro ⟨j, hj, hl, hn, hv⟩
        by_cases hjn : j = n
        · subst hjn; rw [hv]
        · have : later nm (n + 1) j = true := ex_true (j := n) (by omega) (by omega) (by simp [hn])
          rw [this] at hl; cases hl
    · rw [if_neg h, f0_some nm vl s b n]
      constructor
      · rintro ⟨j, hj, hl, hn, hv⟩
        refine ⟨j, by omega, ex_false (fun i h0 h1 => ?_), hn, hv⟩
        by_cases hi : i = n
        · subst hi; simp [hn]; exact fun e => h e.symm
        · cases e : decide (nm i = nm j) with
          | false => rfl
          | true =>
            have : later nm n j = true := ex_true (j := i) h0 (by omega) e
            rw [this] at hl; cases hl
      · rintro ⟨j, hj, hl, hn, hv⟩
        have hjn : j ≠ n := fun e => h (by rw [← hn, e])
        refine ⟨j, by omega, ex_false (fun i h0 h1 => ?_), hn, hv⟩
        cases e : decide (nm i = nm j) with
        | false => rfl
        | true =>
          have : later nm (n + 1) j = true := ex_true (j := i) h0 (by omega) e
          rw [this] at hl; cases hl

theorem f0_last (nm : Nat → ByteArray) (vl : Nat → Bool) (n i : Nat) (hi : i < n) (h : later nm n i = false) : f0 nm vl n (nm i) = some (vl i) :=
  (f0_some nm vl _ _ n).2 ⟨i, hi, h, rfl, rfl⟩

theorem f0_isSome (nm : Nat → ByteArray) (vl : Nat → Bool) (s : ByteArray) : ∀ n, (f0 nm vl n s).isSome = ex (fun j => decide (nm j = s)) 0 n
  | 0 => rfl
  | n + 1 => by
    show (if s = nm n then some (vl n) else f0 nm vl n s).isSome = _
    by_cases h : s = nm n
    · rw [if_pos h]
      exact (ex_true (j := n) (Nat.zero_le _) (by omega) (by simp [h])).symm
    · rw [if_neg h, f0_isSome nm vl s n]
      cases e : ex (fun j => decide (nm j = s)) 0 n with
      | true =>
        obtain ⟨j, h0, h1, h2⟩ := (ex_iff _ _ _).1 e
        exact (ex_true h0 (by omega) h2).symm
      | false =>
        refine (ex_false (fun j h0 h1 => ?_)).symm
        by_cases hj : j = n
        · subst hj; simp; exact fun e => h e.symm
        · cases e2 : decide (nm j = s) with
          | false => rfl
          | true => rw [ex_true h0 (by omega) e2] at e; cases e

/-- What the last entries of the first i hold. -/
def g6 (nm : Nat → ByteArray) (vl : Nat → Bool) (n i : Nat) (s : ByteArray) : Option Bool :=
  if ex (fun j => decide (nm j = s) && !later nm n j) 0 i then f0 nm vl n s else none

theorem ex_succ (p : Nat → Bool) (i : Nat) (lo : Nat) (hlo : lo ≤ i) : ex p lo (i + 1) = (ex p lo i || p i) := by
  cases h : ex p lo i with
  | true =>
    obtain ⟨j, h0, h1, h2⟩ := (ex_iff _ _ _).1 h
    rw [ex_true h0 (by omega) h2]; rfl
  | false =>
    cases hp : p i with
    | true => rw [ex_true hlo (by omega) hp]; rfl
    | false =>
      refine ex_false (fun j h0 h1 => ?_)
      by_cases hj : j = i
      · subst hj; exact hp
      · cases e : p j with
        | false => rfl
        | true => rw [ex_true h0 (by omega) e] at h; cases h

theorem g6_zero (nm : Nat → ByteArray) (vl : Nat → Bool) (n : Nat) (s : ByteArray) : g6 nm vl n 0 s = none := if_neg (by simp [ex])

theorem g6_later (nm : Nat → ByteArray) (vl : Nat → Bool) (n i : Nat) (h : later nm n i = true) (s : ByteArray) : g6 nm vl n (i + 1) s = g6 nm vl n i s := by
  unfold g6
  rw [ex_succ _ _ _ (Nat.zero_le _), h]
  simp

theorem g6_last (nm : Nat → ByteArray) (vl : Nat → Bool) (n i : Nat) (hi : i < n) (h : later nm n i = false) (s : ByteArray) : g6 nm vl n (i + 1) s = if s = nm i then some (vl i) else g6 nm vl n i s := by
  unfold g6
  rw [ex_succ _ _ _ (Nat.zero_le _), h]
  by_cases hs : s = nm i
  · subst hs
    simp [f0_last nm vl n i hi h]
  · have : ¬ nm i = s := fun e => hs e.symm
    simp [hs, this]

theorem g6_none (nm : Nat → ByteArray) (vl : Nat → Bool) (n i : Nat) (hi : i < n) : g6 nm vl n i (nm i) = none := by
  unfold g6
  rw [if_neg]
  rw [ex_false]
  · simp
  · intro j h0 h1
    by_cases e : nm j = nm i
    · have : later nm n j = true := ex_true (j := i) (by omega) hi (by simp [e])
      rw [this]; simp
    · simp [e]

theorem g6_end (nm : Nat → ByteArray) (vl : Nat → Bool) (n : Nat) (s : ByteArray) : g6 nm vl n n s = f0 nm vl n s := by
  unfold g6
  split
  · rfl
  · rename_i h
    cases e : f0 nm vl n s with
    | none => rfl
    | some b =>
      obtain ⟨j, hj, hl, hn, hv⟩ := (f0_some nm vl s b n).1 e
      exact absurd (ex_true (j := j) (Nat.zero_le _) hj (by simp [hn, hl])) h

/-- The starting map, and the witnesses of the first i steps. -/
def gA (f : ByteArray → Option Bool) (wt : Nat → ByteArray) (i : Nat) (s : ByteArray) : Option Bool := (f s).or (if ex (fun j => decide (wt j = s)) 0 i then some true else none)
/-- The witnesses of the steps from a on, below i. -/
def gB (wt : Nat → ByteArray) (a i : Nat) (s : ByteArray) : Option Bool := if ex (fun j => decide (wt j = s)) a i then some true else none

theorem gA_zero (f : ByteArray → Option Bool) (wt : Nat → ByteArray) (s : ByteArray) : gA f wt 0 s = f s := by
  unfold gA; rw [if_neg (by simp [ex])]; cases f s <;> rfl

theorem gA_old (f : ByteArray → Option Bool) (wt : Nat → ByteArray) (i : Nat) (h : (f (wt i)).isSome = true ∨ ex (fun j => decide (wt j = wt i)) 0 i = true) (s : ByteArray) : gA f wt (i + 1) s = gA f wt i s := by
  unfold gA
  rw [ex_succ _ _ _ (Nat.zero_le _)]
  by_cases hs : wt i = s
  · subst hs
    rcases h with h | h
    · cases e : f (wt i) with
      | none => rw [e] at h; cases h
      | some b => rfl
    · rw [h]; simp
  · simp [hs]

theorem gA_new (f : ByteArray → Option Bool) (wt : Nat → ByteArray) (i : Nat) (h : (f (wt i)).isSome = false) (s : ByteArray) : gA f wt (i + 1) s = if s = wt i then some true else gA f wt i s := by
  unfold gA
  rw [ex_succ _ _ _ (Nat.zero_le _)]
  by_cases hs : s = wt i
  · subst hs
    cases e : f (wt i) with
    | none => simp
    | some b => rw [e] at h; cases h
  · have : ¬ wt i = s := fun e => hs e.symm
    simp [hs, this]

theorem gA_none (f : ByteArray → Option Bool) (wt : Nat → ByteArray) (i : Nat) (h : (f (wt i)).isSome = false) (h2 : ex (fun j => decide (wt j = wt i)) 0 i = false) : gA f wt i (wt i) = none := by
  unfold gA
  rw [h2]
  cases e : f (wt i) with
  | none => rfl
  | some b => rw [e] at h; cases h

theorem gB_start (wt : Nat → ByteArray) (a : Nat) (s : ByteArray) : gB wt a a s = none := if_neg (by rw [ex_false (fun j h0 h1 => by omega)]; simp)
theorem gB_old (wt : Nat → ByteArray) (a i : Nat) (ha : a ≤ i) (h : ex (fun j => decide (wt j = wt i)) a i = true) (s : ByteArray) : gB wt a (i + 1) s = gB wt a i s := by
  unfold gB
  rw [ex_succ _ _ _ ha]
  by_cases hs : wt i = s
  · subst hs; rw [h]; simp
  · simp [hs]
theorem gB_new (wt : Nat → ByteArray) (a i : Nat) (ha : a ≤ i) (s : ByteArray) : gB wt a (i + 1) s = if s = wt i then some true else gB wt a i s := by
  unfold gB
  rw [ex_succ _ _ _ ha]
  by_cases hs : s = wt i
  · subst hs; simp
  · have : ¬ wt i = s := fun e => hs e.symm
    simp [hs, this]
theorem gB_none (wt : Nat → ByteArray) (a i : Nat) (h2 : ex (fun j => decide (wt j = wt i)) a i = false) : gB wt a i (wt i) = none := by
  unfold gB; rw [h2]; rfl

/-- WHERE EVERY STEP HAS THE STARTING SIZE. -/
theorem fk_keeps (s0 : Int) (sz : Nat → Int) (wt : Nat → ByteArray) (f : ByteArray → Option Bool) (m : Nat) (h : ∀ j, j < m → sz j = s0) : ∀ k, k ≤ m → ∀ s, fk s0 sz wt f k s = gA f wt k s
  | 0, _, s => (gA_zero f wt s).symm
  | k + 1, hk, s => by
    have hz : zk s0 sz k = s0 := by
      cases k with
      | zero => rfl
      | succ j => exact h j (by omega)
    show stepf (fk s0 sz wt f k) (sz k == zk s0 sz k) (wt k) s = _
    have hb : (sz k == zk s0 sz k) = true := by rw [hz, h k (by omega)]; simp
    rw [hb]
    show (fk s0 sz wt f k s).or (if s = wt k then some true else none) = _
    rw [fk_keeps s0 sz wt f m h k (by omega) s]
    unfold gA
    rw [ex_succ _ _ _ (Nat.zero_le _)]
    by_cases hs : s = wt k
    · subst hs
      cases f (wt k) <;> cases ex (fun j => decide (wt j = wt k)) 0 k <;> simp
    · have : ¬ wt k = s := fun e => hs e.symm
      simp [hs, this]

/-- ELSE: the trailing run alone. -/
theorem fk_run (s0 : Int) (sz : Nat → Int) (wt : Nat → ByteArray) (f : ByteArray → Option Bool) (m a : Nat) (want : Int) (h : ∀ j, a ≤ j → j < m → sz j = want) (hz : zk s0 sz a ≠ want) : ∀ k, a < k → k ≤ m → ∀ s, fk s0 sz wt f k s = gB wt a k s
  | 0, h0, _, _ => by omega
  | k + 1, h0, hk, s => by
    show stepf (fk s0 sz wt f k) (sz k == zk s0 sz k) (wt k) s = _
    by_cases ha : k = a
    · subst ha
      have hb : (sz k == zk s0 sz k) = false := by
        rw [h k (by omega) (by omega)]
        simp
        exact fun e => hz e.symm
      rw [hb, gB_new wt k k (Nat.le_refl _), gB_start]
      rfl
    · have hzk : zk s0 sz k = want := by
        cases k with
        | zero => omega
        | succ j => exact h j (by omega) (by omega)
      have hb : (sz k == zk s0 sz k) = true := by rw [hzk, h k (by omega) (by omega)]; simp
      rw [hb, gB_new wt a k (by omega)]
      show (fk s0 sz wt f k s).or (if s = wt k then some true else none) = _
      rw [fk_run s0 sz wt f m a want h hz k (by omega) (by omega) s]
      unfold gB
      by_cases hs : s = wt k
      · rw [if_pos hs, if_pos hs]
        split <;> rfl
      · rw [if_neg hs, if_neg hs]
        split <;> rfl

end Go.Proofs.Qxb6617634a.Mp
