import Derived.Test.Qxb6616045aEq
namespace Go.Proofs.Qxb6616045a.Ln
open Go.RowKit

theorem Owns.row {base : Nat} {w : World} {g n c : Nat} {zs : List Int} (h : Owns base w (.slice (some ⟨g, 0, none⟩) n c) zs) : RowIs w ⟨some ⟨g, 0, none⟩, c, zs⟩ := by
  refine Or.inr ⟨⟨g, 0, none⟩, rfl, fun i hi => ?_⟩
  have := h.cell i hi
  have e : (⟨g, 0, none⟩ : Addr).add i = ⟨g, i, none⟩ := by unfold Addr.add; by_cases h0 : i = 0 <;> simp [h0]
  rw [e]; exact this

/-- How often x stands in zs. -/
def cnt (x : Int) : List Int → Nat
  | [] => 0
  | z :: zs => (if z = x then 1 else 0) + cnt x zs

theorem cnt_append (x : Int) (a b : List Int) : cnt x (a ++ b) = cnt x a + cnt x b := by
  induction a with
  | nil => simp [cnt]
  | cons z zs ih => simp only [List.cons_append, cnt, ih]; omega
theorem cnt_perm (x : Int) {a b : List Int} (h : a.Perm b) : cnt x a = cnt x b := by
  induction h with
  | nil => rfl
  | cons z _ ih => simp only [cnt, ih]
  | swap y z l => simp only [cnt]; omega
  | trans _ _ h1 h2 => omega
theorem cnt_le (x : Int) (a : List Int) : cnt x a ≤ a.length := by
  induction a with
  | nil => simp [cnt]
  | cons z zs ih => simp only [cnt, List.length_cons]; split <;> omega

theorem cnt_take (x : Int) (zs : List Int) (k : Nat) (h : k < zs.length) : cnt x (zs.take (k + 1)) = cnt x (zs.take k) + (if zs.getD k 0 = x then 1 else 0) := by
  rw [take_snoc zs k h, cnt_append]; simp [cnt]

set_option maxHeartbeats 400000 in
theorem count8s (ad : Addr) (c : Nat) (x : Int) (zs : List Int) (w : World) (h : ∀ i, i < zs.length → w.cell? (ad.add i) = some (.int .i64 (zs.getD i 0))) (hsz : zs.length ≤ 9223372036854775807) :
    Calls Try.prog 8 #[.slice (some ad) zs.length c, .int .i64 x] w fun e w' => e = .returned (.int .i64 (cnt x zs : Nat)) ∧ w' = w := by
  have HC : Hid (∀ i, i < zs.length → w.cell? (ad.add i) = some (.int .i64 (zs.getD i 0))) := h
  clear h
  go_enter Try.func8, Try.ntmps8
  go_wp2
  go_loop [5, 9] (fun n i => ∃ k : Nat, k ≤ zs.length ∧ i = .int .i64 k ∧ n = .int .i64 (cnt x (zs.take k) : Nat)) (fun _ i => zs.length - (intOf i).toNat)
  case atStart => exact ⟨0, Nat.zero_le _, rfl, rfl⟩
  case round =>
    obtain ⟨k, hk, rfl, rfl⟩ := hrel
    by_cases hlt : k < zs.length
    · have hkz : (k : Int) < (zs.length : Int) := by omega
      have c0 := HC.out k hlt
      have hsp : ad.spot = none := by
        have h0 := HC.out 0 (by omega)
        unfold World.cell? Addr.add at h0
        simp only [if_true] at h0
        split at h0
        · split at h0
          · cases h0
          · rename_i hs; simpa using hs
        · cases h0
      obtain ⟨blk, off, sp⟩ := ad
      simp only at hsp
      subst hsp
      have e : (⟨blk, off, none⟩ : Addr).add k = ⟨blk, off + k, none⟩ := by unfold Addr.add; by_cases h0 : k = 0 <;> simp [h0]
      rw [e] at c0
      clear e
      have ct : Hid (cnt x (zs.take (k + 1)) = cnt x (zs.take k) + (if zs.getD k 0 = x then 1 else 0)) := cnt_take x zs k hlt
      have cl := cnt_le x (zs.take k)
      rw [List.length_take] at cl
      generalize zs.getD k 0 = z at *
      generalize hcn : cnt x (zs.take k) = n0 at *
      clear hcn
      by_cases hz : z = x
      · have hb : (z == x) = true := by simpa using hz
        have HZ : Hid (z = x) := hz
        clear hz
        go_wp2
        go_round
        case rel => exact ⟨k + 1, by omega, by go_num, by rw [ct.out, if_pos HZ.out]; go_num⟩
        case measure => simp [intOf]; omega
      · have hb : (z == x) = false := by simpa using hz
        have HZ : Hid (¬ z = x) := hz
        clear hz
        go_wp2
        go_round
        case rel => exact ⟨k + 1, by omega, by go_num, by rw [ct.out, if_neg HZ.out]; go_num⟩
        case measure => simp [intOf]; omega
    · have hkn : k = zs.length := by omega
      rw [hkn, List.take_length]
      clear hkn hlt hk
      go_wp2
      go_ret
      exact ⟨rfl, rfl⟩

set_option maxHeartbeats 400000 in
theorem count8n (x : Int) (w : World) :
    Calls Try.prog 8 #[.slice none 0 0, .int .i64 x] w fun e w' => e = .returned (.int .i64 0) ∧ w' = w := by
  go_enter Try.func8, Try.ntmps8
  go_wp2
  go_loop [5, 9] (fun n i => i = .int .i64 0 ∧ n = .int .i64 0) (fun _ _ => 0)
  case atStart => exact ⟨rfl, rfl⟩
  case round =>
    obtain ⟨rfl, rfl⟩ := hrel
    go_wp2
    go_ret
    exact ⟨rfl, rfl⟩

/-- zzCount, at a row. -/
theorem count8 (r : Row) (x : Int) (w : World) (h : RowIs w r) (hsz : r.zs.length ≤ 9223372036854775807) :
    Calls Try.prog 8 #[.slice r.ad r.zs.length r.cap, .int .i64 x] w fun e w' => e = .returned (.int .i64 (cnt x r.zs : Nat)) ∧ w' = w := by
  obtain ⟨ad, c, zs⟩ := r
  rcases h with ⟨h1, h2, h3⟩ | ⟨a, h1, h2⟩
  · simp only at h1 h2 h3
    subst h1 h2 h3
    exact count8n x w
  · simp only at h1 h2
    subst h1
    exact count8s a c x zs w h2 hsz

set_option maxHeartbeats 400000 in
theorem nested9 (a : Option Addr) (cap : Nat) (x : Int) (rs : List Row) (w : World) (hm : rs.length ≤ 4096) (hf : (flat rs).length ≤ 4096) (hp : LsIs w a rs) :
    Calls Try.prog 9 #[.slice a rs.length cap, .int .i64 x] w fun e w' => e = .returned (.int .i64 (cnt x (flat rs) : Nat)) ∧ w' = w := by
  have HP : Hid (LsIs w a rs) := hp
  clear hp
  go_enter Try.func9, Try.ntmps9
  go_wp2
  go_loop [5, 9] (fun n i => ∃ k : Nat, k ≤ rs.length ∧ i = .int .i64 k ∧ n = .int .i64 (cnt x (flat (rs.take k)) : Nat)) (fun _ i => rs.length - (intOf i).toNat)
  case atStart => exact ⟨0, Nat.zero_le _, rfl, rfl⟩
  case round =>
    obtain ⟨k, hk, rfl, rfl⟩ := hrel
    by_cases hlt : k < rs.length
    · have hkz : (k : Int) < (rs.length : Int) := by omega
      obtain ⟨blk, off, rfl, c0, hrow⟩ := HP.out k hlt
      have ct : Hid (cnt x (flat (rs.take (k + 1))) = cnt x (flat (rs.take k)) + cnt x (rs.getD k nilRow).zs) := by unfold Hid; rw [flat_take rs k hlt, cnt_append]
      have cl := cnt_le x (flat (rs.take (k + 1)))
      have fl := flat_take_le rs (k + 1)
      have fl2 : (flat (rs.take (k + 1))).length = (flat (rs.take k)).length + (rs.getD k nilRow).zs.length := by rw [flat_take rs k hlt, List.length_append]
      rw [ct.out] at cl
      have hzl : (rs.getD k nilRow).zs.length ≤ 4096 := by omega
      have hcl : cnt x (flat (rs.take k)) + cnt x (rs.getD k nilRow).zs ≤ 4096 := by omega
      clear cl fl fl2
      generalize rs.getD k nilRow = r at *
      have HR : Hid (RowIs w r) := hrow
      clear hrow
      generalize hcn : cnt x (flat (rs.take k)) = n0 at *
      clear hcn
      unfold Row.v at c0
      go_wp2_with fail
      refine (count8 r x w HR.out (by omega)).mono ?_
      rintro e w' ⟨rfl, hw'⟩
      subst w'
      generalize cnt x r.zs = n1 at *
      go_wp2
      go_round
      case rel => exact ⟨k + 1, by omega, by go_num, by rw [ct.out]; go_num⟩
      case measure => simp [intOf]; omega
    · have hkn : k = rs.length := by omega
      rw [hkn, List.take_length]
      clear hkn hlt hk
      go_wp2
      go_ret
      exact ⟨rfl, rfl⟩

/-! ### the merge, a step -/
theorem drop_cons (zs : List Int) (i : Nat) (h : i < zs.length) : zs.drop i = zs.getD i 0 :: zs.drop (i + 1) := by
  rw [List.drop_eq_getElem_cons h]; simp [List.getD, h]

theorem mrg_b_out (za zb : List Int) (i j : Nat) (hi : i < za.length) (hj : zb.length ≤ j) : mrg (za.drop i) (zb.drop j) = za.getD i 0 :: mrg (za.drop (i + 1)) (zb.drop j) := by
  unfold mrg
  rw [List.drop_of_length_le hj, List.merge_right, List.merge_right, drop_cons za i hi]
theorem mrg_a_out (za zb : List Int) (i j : Nat) (hi : za.length ≤ i) (hj : j < zb.length) : mrg (za.drop i) (zb.drop j) = zb.getD j 0 :: mrg (za.drop i) (zb.drop (j + 1)) := by
  unfold mrg
  rw [List.drop_of_length_le hi, List.nil_merge, List.nil_merge, drop_cons zb j hj]
theorem mrg_a (za zb : List Int) (i j : Nat) (hi : i < za.length) (hj : j < zb.length) (h : za.getD i 0 ≤ zb.getD j 0) : mrg (za.drop i) (zb.drop j) = za.getD i 0 :: mrg (za.drop (i + 1)) (zb.drop j) := by
  unfold mrg
  rw [drop_cons za i hi, drop_cons zb j hj, List.cons_merge_cons_pos _ _ _ (by simpa using h)]
theorem mrg_b (za zb : List Int) (i j : Nat) (hi : i < za.length) (hj : j < zb.length) (h : ¬ za.getD i 0 ≤ zb.getD j 0) : mrg (za.drop i) (zb.drop j) = zb.getD j 0 :: mrg (za.drop i) (zb.drop (j + 1)) := by
  unfold mrg
  rw [drop_cons za i hi, drop_cons zb j hj, List.cons_merge_cons_neg _ _ _ (by simpa using h)]
end Go.Proofs.Qxb6616045a.Ln
