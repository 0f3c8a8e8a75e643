/- The walks of the laws' functions on orders: same, count, isOrder, inverse. -/
import Derived.Test.YtgjackalcajmjaaAt
namespace Go.Proofs.Ytgjackalcajmjaa
open Go.RowKit

/-- The numbers f 0, f 1, .. -/
def tab (f : Nat → Nat) (n : Nat) : List Int := (List.range n).map fun i => (f i : Int)
theorem tab_len (f : Nat → Nat) (n : Nat) : (tab f n).length = n := by simp [tab]
theorem tab_get (f : Nat → Nat) {n k : Nat} (h : k < n) : (tab f n)[k]'(by rw [tab_len]; exact h) = (f k : Int) := by simp [tab]
theorem tab_get? (f : Nat → Nat) {n k : Nat} (h : k < n) : (tab f n)[k]? = some (f k : Int) := by simp [tab, h]
theorem tab_set (f : Nat → Nat) (n k v : Nat) : (tab f n).set k (v : Int) = tab (fun i => if i = k then v else f i) n := by
  apply List.ext_getElem (by simp [tab_len])
  intro i h1 h2
  rw [tab_len] at h2
  rw [List.getElem_set]
  by_cases h : k = i
  · subst h; rw [if_pos rfl, tab_get _ h2, if_pos rfl]
  · rw [if_neg h, tab_get _ h2, tab_get _ h2, if_neg (fun e => h e.symm)]
theorem tab_congr {f g : Nat → Nat} {n : Nat} (h : ∀ i, i < n → f i = g i) : tab f n = tab g n := by
  unfold tab
  apply List.map_congr_left
  intro i hi
  rw [h i (List.mem_range.1 hi)]

/-- Each number is there once. -/
theorem tab_count {n : Nat} (f g : Nat → Nat) (hg : ∀ i, i < n → g i < n) (hgf : ∀ i, i < n → g (f i) = i) (hfg : ∀ i, i < n → f (g i) = i) (k : Nat) (hk : k < n) : (tab f n).count (k : Int) = 1 := by
  have h1 : ∀ m, m ≤ n → (tab f m).count (k : Int) = if g k < m then 1 else 0 := by
    intro m
    induction m with
    | zero => intro _; simp [tab]
    | succ m ih =>
      intro hm
      have e : tab f (m + 1) = tab f m ++ [(f m : Int)] := by simp [tab, List.range_succ]
      rw [e, List.count_append, ih (by omega), List.count_singleton]
      by_cases hgm : g k = m
      · have : f m = k := by rw [← hgm, hfg k hk]
        rw [if_neg (by omega), if_pos (by simp [this]), if_pos (by omega)]
      · have : f m ≠ k := fun e => hgm (by rw [← e, hgf m (by omega)])
        rw [if_neg (c := (((f m : Int) == (k : Int)) = true)) (by simp; omega)]
        by_cases h : g k < m
        · rw [if_pos h, if_pos (by omega)]
        · rw [if_neg h, if_neg (by omega)]
  rw [h1 n (Nat.le_refl _), if_pos (hg k hk)]

set_option maxHeartbeats 400000 in
theorem same_true (v u : Value) (xs : List Int) (w : World) (hv : Ints w v xs) (hu : Ints w u xs) :
    Calls Try.prog 12 #[v, u] w fun e w' => e = .returned (.bool true) ∧ Bl w w' := by
  obtain ⟨A, c, rfl, hc, hm, hv⟩ := hv.open
  obtain ⟨B, d, rfl, hd, hm2, hu⟩ := hu.open
  have HV := Lib.hid hv
  have HU := Lib.hid hu
  clear hv hu
  unfold maxLen at hm hm2
  go_enter Try.func12, Try.ntmps12
  go_wp2
  go_loopw [5, 13] (fun _ i wr => ∃ k : Nat, k ≤ xs.length ∧ i = .int .i64 k ∧ ∃ n, wr = w.drewN n) (fun _ i _ => xs.length - (intOf i).toNat)
  case atStart => exact ⟨0, Nat.zero_le _, rfl, 0, rfl⟩
  case round =>
    obtain ⟨k, hk, rfl, n, rfl⟩ := hrel
    by_cases hlt : k < xs.length
    · obtain ⟨b, off, rfl, hc1⟩ := HV.out k hlt
      obtain ⟨b2, off2, rfl, hc2⟩ := HU.out k hlt
      go_wp2
      go_quiet (fail)
      go_wp2
      go_roundw
      case rel => exact ⟨k + 1, by omega, by go_num, _, rfl⟩
      case measure => simp [intOf]; omega
    · go_wp2
      go_ret
      exact ⟨rfl, bl_drewN (bl_refl _) _⟩

theorem count_take (xs : List Int) (x : Int) (k : Nat) (hk : k < xs.length) : ((xs.take (k + 1)).count x : Int) = ((xs.take k).count x : Int) + if (xs[k] == x) = true then 1 else 0 := by
  rw [List.take_succ_eq_append_getElem hk, List.count_append, List.count_singleton]
  split <;> simp
theorem count_le (xs : List Int) (x : Int) (k : Nat) : (xs.take k).count x ≤ k :=
  Nat.le_trans List.count_le_length (List.length_take_le k xs)

set_option maxHeartbeats 400000 in
theorem count_any (v : Value) (xs : List Int) (x : Int) (w : World) (hv : Ints w v xs) :
    Calls Try.prog 22 #[v, .int .i64 x] w fun e w' => e = .returned (.int .i64 (xs.count x)) ∧ w = w' := by
  obtain ⟨A, c, rfl, hc, hm, hv⟩ := hv.open
  have HV := Lib.hid hv
  clear hv
  unfold maxLen at hm
  go_enter Try.func22, Try.ntmps22
  go_wp2
  go_loop [5, 7, 10] (fun t _ i => ∃ k : Nat, k ≤ xs.length ∧ i = .int .i64 k ∧ t = .int .i64 ((xs.take k).count x)) (fun _ _ i => xs.length - (intOf i).toNat)
  case atStart => exact ⟨0, Nat.zero_le _, rfl, rfl⟩
  case round =>
    obtain ⟨k, hk, rfl, rfl⟩ := hrel
    have hcl := count_le xs x k
    by_cases hlt : k < xs.length
    · obtain ⟨b, off, rfl, hc1⟩ := HV.out k hlt
      have HC := Lib.hid (count_take xs x k hlt)
      by_cases he : xs[k] = x
      · have hb : (xs[k] == x) = true := by simpa using he
        clear he
        generalize xs[k] = y at *
        go_wp2
        go_round
        case rel => exact ⟨k + 1, by omega, by go_num, by rw [HC.out, if_pos hb]⟩
        case measure => simp [intOf]; omega
      · have hb : (xs[k] == x) = false := by simpa using he
        clear he
        generalize xs[k] = y at *
        go_wp2
        go_round
        case rel => exact ⟨k + 1, by omega, by go_num, by rw [HC.out, if_neg (by simp [hb])]; simp⟩
        case measure => simp [intOf]; omega
    · obtain rfl : k = xs.length := by omega
      go_wp2
      go_ret
      exact ⟨by simp, rfl⟩



end Go.Proofs.Ytgjackalcajmjaa
