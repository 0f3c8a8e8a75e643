/- The walks of the laws' functions on orders: same, count, isOrder, inverse. -/
import Derived.Test.YthgghafndabpfaaAt
namespace Go.Proofs.Ythgghafndabpfaa
open Go.RowKit

/-- The numbers f 0, f 1, .. -/
def tab (f : Nat → Nat) (n : Nat) : List Int := (List.range n).map fun i => (f i : Int)
theorem tab_len (f : Nat → Nat) (n : Nat) : (tab f n).length = n := by simp [tab]
theorem tab_get (f : Nat → Nat) {n k : Nat} (h : k < n) : (tab f n)[k]'(by rw [tab_len]; exact h) = (f k : Int) := by simp [tab]
theorem tab_get? (f : Nat → Nat) {n k : Nat} (h : k < n) : (tab f n)[k]? = some (f k : Int) := by simp [tab, h]
theorem tab_set (f : Nat → Nat) (n k v : Nat) : (tab f n).set k (v : Int) = tab (fun i => if i = k then v else f i) n := by
  apply List.ext_getElem (by simp [tab_len])
  intro i h1 h2
  rw [tab_len] at h2
  rw [List.getElem_set]
  by_cases h : k = i
  · subst h; rw [if_pos rfl, tab_get _ h2, if_pos rfl]
  · rw [if_neg h, tab_get _ h2, tab_get _ h2, if_neg (fun e => h e.symm)]
theorem tab_congr {f g : Nat → Nat} {n : Nat} (h : ∀ i, i < n → f i = g i) : tab f n = tab g n := by
  unfold tab
  apply List.map_congr_left
  intro i hi
  rw [h i (List.mem_range.1 hi)]

/-- Each number is there once. -/
theorem tab_count {n : Nat} (f g : Nat → Nat) (hg : ∀ i, i < n → g i < n) (hgf : ∀ i, i < n → g (f i) = i) (hfg : ∀ i, i < n → f (g i) = i) (k : Nat) (hk : k < n) : (tab f n).count (k : Int) = 1 := by
  have h1 : ∀ m, m ≤ n → (tab f m).count (k : Int) = if g k < m then 1 else 0 := by
    intro m
    induction m with
    | zero => intro _; simp [tab]
    | succ m ih =>
      intro hm
      have e : tab f (m + 1) = tab f m ++ [(f m : Int)] := by simp [tab, List.range_succ]
      rw [e, List.count_append, ih (by omega), List.count_singleton]
      by_cases hgm : g k = m
      · have : f m = k := by rw [← hgm, hfg k hk]
        rw [if_neg (by omega), if_pos (by simp [this]), if_pos (by omega)]
      · have : f m ≠ k := fun e => hgm (by rw [← e, hgf m (by omega)])
        rw [if_neg (c := (((f m : Int) == (k : Int)) = true)) (by simp; omega)]
        by_cases h : g k < m
        · rw [if_pos h, if_pos (by omega)]
        · rw [if_neg h, if_neg (by omega)]
  rw [h1 n (Nat.le_refl _), if_pos (hg k hk)]

set_option maxRecDepth 100000 in
set_option maxHeartbeats 400000 in
theorem same_true (v u : Value) (xs : List Int) (w : World) (hv : Ints w v xs) (hu : Ints w u xs) :
    Calls Try.prog 9 #[v, u] w fun e w' => e = .returned (.bool true) ∧ Bl w w' := by
  obtain ⟨A, c, rfl, hc, hm, hv⟩ := hv.open
  obtain ⟨B, d, rfl, hd, hm2, hu⟩ := hu.open
  have HV := Lib.hid hv
  have HU := Lib.hid hu
  clear hv hu
  unfold maxLen at hm hm2
  go_enter Try.func9, Try.ntmps9
  go_wp2
  go_loopw [5, 13] (fun _ i wr => ∃ k : Nat, k ≤ xs.length ∧ i = .int .i64 k ∧ ∃ n, wr = w.drewN n) (fun _ i _ => xs.length - (intOf i).toNat)
  case atStart => exact ⟨0, Nat.zero_le _, rfl, 0, rfl⟩
  case round =>
    obtain ⟨k, hk, rfl, n, rfl⟩ := hrel
    by_cases hlt : k < xs.length
    · obtain ⟨b, off, rfl, hc1⟩ := HV.out k hlt
      obtain ⟨b2, off2, rfl, hc2⟩ := HU.out k hlt
      go_wp2
      go_quiet (fail)
      go_wp2
      go_roundw
      case rel => exact ⟨k + 1, by omega, by go_num, _, rfl⟩
      case measure => simp [intOf]; omega
    · go_wp2
      go_ret
      exact ⟨rfl, bl_drewN (bl_refl _) _⟩

theorem count_take (xs : List Int) (x : Int) (k : Nat) (hk : k < xs.length) : ((xs.take (k + 1)).count x : Int) = ((xs.take k).count x : Int) + if (xs[k] == x) = true then 1 else 0 := by
  rw [List.take_succ_eq_append_getElem hk, List.count_append, List.count_singleton]
  split <;> simp
theorem count_le (xs : List Int) (x : Int) (k : Nat) : (xs.take k).count x ≤ k :=
  Nat.le_trans List.count_le_length (List.length_take_le k xs)

set_option maxRecDepth 100000 in
set_option maxHeartbeats 400000 in
theorem count_any (v : Value) (xs : List Int) (x : Int) (w : World) (hv : Ints w v xs) :
    Calls Try.prog 23 #[v, .int .i64 x] w fun e w' => e = .returned (.int .i64 (xs.count x)) ∧ w = w' := by
  obtain ⟨A, c, rfl, hc, hm, hv⟩ := hv.open
  have HV := Lib.hid hv
  clear hv
  unfold maxLen at hm
  go_enter Try.func23, Try.ntmps23
  go_wp2
  go_loop [5, 7, 10] (fun t _ i => ∃ k : Nat, k ≤ xs.length ∧ i = .int .i64 k ∧ t = .int .i64 ((xs.take k).count x)) (fun _ _ i => xs.length - (intOf i).toNat)
  case atStart => exact ⟨0, Nat.zero_le _, rfl, rfl⟩
  case round =>
    obtain ⟨k, hk, rfl, rfl⟩ := hrel
    have hcl := count_le xs x k
    by_cases hlt : k < xs.length
    · obtain ⟨b, off, rfl, hc1⟩ := HV.out k hlt
      have HC := Lib.hid (count_take xs x k hlt)
      by_cases he : xs[k] = x
      · have hb : (xs[k] == x) = true := by simpa using he
        clear he
        generalize xs[k] = y at *
        go_wp2
        go_round
        case rel => exact ⟨k + 1, by omega, by go_num, by rw [HC.out, if_pos hb]⟩
        case measure => simp [intOf]; omega
      · have hb : (xs[k] == x) = false := by simpa using he
        clear he
        generalize xs[k] = y at *
        go_wp2
        go_round
        case rel => exact ⟨k + 1, by omega, by go_num, by rw [HC.out, if_neg (by simp [hb])]; simp⟩
        case measure => simp [intOf]; omega
    · obtain rfl : k = xs.length := by omega
      go_wp2
      go_ret
      exact ⟨by simp, rfl⟩

set_option maxRecDepth 100000 in
set_option maxHeartbeats 400000 in
theorem isOrder_true (v : Value) (xs : List Int) (a : Int) (w : World) (hv : Ints w v xs) (hl : xs.length = ix a 200) (h1 : ∀ k : Nat, k < xs.length → xs.count (k : Int) = 1) :
    Calls Try.prog 6 #[v, .int .i64 a] w fun e w' => e = .returned (.bool true) ∧ w = w' := by
  have HV := Lib.hid hv
  have HL := Lib.hid hl
  have H1 := Lib.hid h1
  have hN := ix_lt a (n := 200) (by omega)
  rw [← hl] at hN
  obtain ⟨A, c, rfl, hc, hm, hv⟩ := hv.open
  clear hv hl h1
  unfold maxLen at hm
  go_enter Try.func6, Try.ntmps6
  go_wp2_with fail
  refine (At_ix a 200 _ (by omega) (by omega)).mono ?_
  rintro e w1 ⟨rfl, rfl⟩
  rw [← HL.out]
  go_wp2
  go_loop [5, 13] (fun _ i => ∃ k : Nat, k ≤ xs.length ∧ i = .int .i64 k) (fun _ i => xs.length - (intOf i).toNat)
  case atStart => exact ⟨0, Nat.zero_le _, rfl⟩
  case round =>
    obtain ⟨k, hk, rfl⟩ := hrel
    by_cases hlt : k < xs.length
    · go_wp2_with fail
      refine (count_any _ xs k _ HV.out).mono ?_
      rintro e w2 ⟨rfl, rfl⟩
      rw [H1.out k hlt]
      go_wp2
      go_round
      case rel => exact ⟨k + 1, by omega, by go_num⟩
      case measure => simp [intOf]; omega
    · go_wp2
      go_ret
      exact ⟨rfl, rfl⟩

set_option maxRecDepth 100000 in
set_option maxHeartbeats 400000 in
theorem inverse_any (v : Value) (n : Nat) (f g : Nat → Nat) (w : World) (hv : Ints w v (tab f n)) (hn : n ≤ 1048576) (hf : ∀ i, i < n → f i < n) (hg : ∀ i, i < n → g i < n) (hgf : ∀ i, i < n → g (f i) = i) (hfg : ∀ i, i < n → f (g i) = i) :
    Calls Try.prog 13 #[v] w (NewInts w (tab g n)) := by
  obtain ⟨A, c, rfl, hc, hm, hv⟩ := hv.open
  obtain ⟨i0, hi, hz0, hz1, hz2⟩ := info_parts intInfo
  have HV := Lib.hid hv
  have HF := Lib.hid hf
  have HGF := Lib.hid hgf
  have HFG := Lib.hid hfg
  have HG := Lib.hid hg
  clear hv hf hgf hfg hg
  unfold maxLen at hm
  rw [tab_len] at *
  go_enter Try.func13, Try.ntmps13
  go_wp2_with (at_make; refine wpList_make_full _ rfl _ _ 23 rfl w.heap.size 3 i0 _ 1 Try.underlying23 hi hz0 hz1 _ _ _ _ n rfl rfl rfl rfl (by rw [hz2]; omega) (by unfold maxLen; omega) (Nat.le_refl _) ?_; intro w1 hown hg)
  have hz : (madeCells (Value.int .i64 0).cells (n * 1)).toList = (tab (fun j => if g j < 0 then g j else 0) n).map (Value.int .i64) := by
    apply List.ext_getElem
    · simp [size_madeCells, tab_len]
    · intro i h1 h2
      simp [madeCells, Value.cells, tab, Nat.mod_one]
  rw [hz] at hown
  have HO := Lib.hid hown
  have HB := Lib.hid ((Below.refl _ _).grown hg (Nat.le_refl _) (by simp))
  clear hown hg hz
  go_loopw [4, 5, 11] (fun _ _ i wr => ∃ k : Nat, k ≤ n ∧ i = .int .i64 k ∧ wr.ownsRow w.heap.size 3 1 (.slice (some ⟨w.heap.size, 0, none⟩) n n) n ((tab (fun j => if g j < k then g j else 0) n).map (Value.int .i64)) ∧ Bl w wr) (fun _ _ i _ => n - (intOf i).toNat)
  case atStart => exact ⟨0, Nat.zero_le _, rfl, HO.out, HB.out⟩
  case round =>
    obtain ⟨k, hk, rfl, hown, hbl⟩ := hrel
    have HO1 := Lib.hid hown
    have HB1 := Lib.hid hbl
    clear hown hbl
    by_cases hlt : k < n
    · obtain ⟨b, off, rfl, hc1⟩ := HV.out k (by rw [tab_len]; exact hlt)
      rw [tab_get f hlt] at hc1
      have hr1 := (HB1.out.cell (World.block_lt_of_cell? _ _ hc1)).trans hc1
      clear hc1
      have hfk := HF.out k hlt
      obtain ⟨x1, hx1⟩ : ∃ x, wr.cell? ⟨w.heap.size, f k, none⟩ = some x := ⟨_, own_cell HO1.out (by omega)⟩
      have hf1 := own_frozen HO1.out (f k)
      have H1 := own_set (k := f k) HO1.out (.int .i64 k)
      rw [← List.map_set, tab_set] at H1
      have HH := Lib.hid H1
      have HB2 := Lib.hid (bl_set (p := ⟨w.heap.size, f k, none⟩) HB1.out (Nat.le_refl _) (.int .i64 k))
      clear H1
      go_wp2
      go_roundw
      case rel =>
        refine ⟨k + 1, by omega, by go_num, ?_, HB2.out⟩
        have h := HH.out
        rw [tab_congr (g := fun j => if g j < k + 1 then g j else 0)] at h
        · exact h
        · intro i hin
          show (if i = f k then k else if g i < k then g i else 0) = if g i < k + 1 then g i else 0
          by_cases hif : i = f k
          · subst hif
            rw [HGF.out k hlt, if_pos rfl, if_pos (by omega)]
          · rw [if_neg hif]
            have hne : g i ≠ k := fun e => hif (by rw [← HFG.out i hin, e])
            by_cases hgi : g i < k
            · rw [if_pos hgi, if_pos (by omega)]
            · rw [if_neg hgi, if_neg (by omega)]
      case measure => simp [intOf]; omega
    · obtain rfl : k = n := by omega
      go_wp2
      go_ret
      refine ⟨_, rfl, ?_, HB1.out⟩
      have h := HO1.out
      rw [tab_congr (g := g) (fun i hin => by rw [if_pos (HG.out i hin)])] at h
      rw [tab_len]
      exact h

end Go.Proofs.Ythgghafndabpfaa
