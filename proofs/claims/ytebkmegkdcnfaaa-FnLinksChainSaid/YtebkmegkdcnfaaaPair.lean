/- The walks of the laws' functions on slices of pairs. -/
import Derived.Test.YtebkmegkdcnfaaaMem
import Derived.StillTailTactics
namespace Go.Proofs.Ytebkmegkdcnfaaa
open Go.RowKit

/-- The cells of pairs. -/
def pcells : List (Int × Int) → List Value
  | [] => []
  | p :: ps => .int .i64 p.1 :: .int .i64 p.2 :: pcells ps
theorem pcells_len (ps : List (Int × Int)) : (pcells ps).length = ps.length * 2 := by
  induction ps with
  | nil => rfl
  | cons p ps ih => simp [pcells, ih]; omega
theorem pcells_append (ps qs : List (Int × Int)) : pcells (ps ++ qs) = pcells ps ++ pcells qs := by
  induction ps with
  | nil => rfl
  | cons p ps ih => simp [pcells, ih]
theorem pcells_get0 (ps : List (Int × Int)) (k : Nat) (hk : k < ps.length) : (pcells ps)[k * 2]? = some (.int .i64 ps[k].1) := by
  induction ps generalizing k with
  | nil => simp at hk
  | cons p ps ih =>
    cases k with
    | zero => rfl
    | succ k => rw [Nat.succ_mul]; simp [pcells]; exact ih k (by simpa using hk)
theorem pcells_get1 (ps : List (Int × Int)) (k : Nat) (hk : k < ps.length) : (pcells ps)[k * 2 + 1]? = some (.int .i64 ps[k].2) := by
  induction ps generalizing k with
  | nil => simp at hk
  | cons p ps ih =>
    cases k with
    | zero => rfl
    | succ k => rw [Nat.succ_mul]; simp [pcells]; exact ih k (by simpa using hk)

theorem pcells_take_succ (ps : List (Int × Int)) (k : Nat) (hk : k < ps.length) : pcells (ps.take (k + 1)) = pcells (ps.take k) ++ [.int .i64 ps[k].1, .int .i64 ps[k].2] := by
  rw [List.take_succ_eq_append_getElem hk, pcells_append]; rfl
theorem set2_mid {α : Type} (xs ys : List α) (k : Nat) (u1 u2 : α) (h : xs.length = k * 2) (hk : k * 2 + 1 < ys.length) :
    ((xs ++ ys.drop (k * 2)).set (k * 2) u1).set (k * 2 + 1) u2 = (xs ++ [u1, u2]) ++ ys.drop ((k + 1) * 2) := by
  rw [set_mid xs ys _ u1 h (by omega), set_mid (xs ++ [u1]) ys _ u2 (by simp [h]) hk, Nat.succ_mul]
  simp

/-- A slice of pairs. -/
def Prs (w : World) (v : Value) (ps : List (Int × Int)) : Prop := Sl w 2 v ps.length (pcells ps)
theorem Prs.bl {w w' : World} {v : Value} {xs : List (Int × Int)} (h : Prs w v xs) (hb : Bl w w') : Prs w' v xs := Sl.bl h hb
theorem Prs.open {w : World} {v : Value} {xs : List (Int × Int)} (h : Prs w v xs) : ∃ A c, v = .slice A xs.length c ∧ xs.length ≤ c ∧ c ≤ maxLen ∧
    ∀ k (hk : k < xs.length), ∃ b off, A = some ⟨b, off, none⟩ ∧ w.cell? ⟨b, off + k * 2, none⟩ = some (.int .i64 xs[k].1) ∧ w.cell? ⟨b, off + k * 2 + 1, none⟩ = some (.int .i64 xs[k].2) := by
  obtain ⟨h1, A, c, rfl, h2, h3, h4⟩ := h
  refine ⟨A, c, rfl, h2, h3, fun k hk => ?_⟩
  obtain ⟨b, off, e, h5⟩ := h4 (by omega)
  exact ⟨b, off, e, h5 _ _ (pcells_get0 _ _ hk), by rw [Nat.add_assoc]; exact h5 _ _ (pcells_get1 _ _ hk)⟩

set_option maxRecDepth 100000 in
set_option maxHeartbeats 400000 in
theorem toPair_any (a b : Int) (w : World) :
    Calls Try.prog 59 #[.agg #[.int .i64 a, .int .i64 b]] w fun e w' => e = .returned (.agg #[.int .i64 a, .int .i64 b]) ∧ Bl w w' := by
  go_enter Try.func59, Try.ntmps59
  go_wp2
  exact bodyPost_ret (v := .agg #[.int .i64 a, .int .i64 b]) (by simp [results, Try.results59, go_sem]) rfl ⟨rfl, bl_alloc (bl_alloc (bl_alloc (bl_refl _) _) _) _⟩

theorem pairInfo : (Try.prog.info? 47).map (fun i => (i.zero, i.size, i.bytes)) = some (some (.agg #[.int .i64 0, .int .i64 0]), 2, 16) := by kernel_rfl

abbrev OwnP (w : World) (base : Nat) (v : Value) (ps : List (Int × Int)) : Prop := w.ownsRow base 47 2 v ps.length (pcells ps)
def NewPrs (w : World) (ps : List (Int × Int)) (e : Ending) (w' : World) : Prop := ∃ v, e = .returned v ∧ OwnP w' w.heap.size v ps ∧ Bl w w'

set_option maxRecDepth 100000 in
set_option maxHeartbeats 400000 in
theorem toPairS_any (v : Value) (ps : List (Int × Int)) (w : World) (hv : Prs w v ps) (hl : ps.length ≤ 1048576) :
    Calls Try.prog 21 #[v] w (NewPrs w ps) := by
  obtain ⟨A, c, rfl, hc, hm, hv⟩ := hv.open
  obtain ⟨i0, hi, hz0, hz1, hz2⟩ := info_parts pairInfo
  have HV := Lib.hid hv
  clear hv
  unfold maxLen at hm
  go_enter Try.func21, Try.ntmps21
  go_wp2_with (at_make; refine wpList_make_full _ rfl _ _ 37 rfl w.heap.size 47 i0 _ 2 Try.underlying37 hi hz0 hz1 _ _ _ _ ps.length rfl rfl rfl rfl (by rw [hz2]; omega) (by unfold maxLen; omega) (Nat.le_refl _) ?_; intro w1 hown hg)
  have hlen : (madeCells (Value.agg #[.int .i64 0, .int .i64 0]).cells (ps.length * 2)).toList.length = ps.length * 2 := by simp [size_madeCells]
  generalize (madeCells (Value.agg #[.int .i64 0, .int .i64 0]).cells (ps.length * 2)).toList = Z at hown hlen
  have HZ := Lib.hid hlen
  have HO := Lib.hid hown
  have HB := Lib.hid ((Below.refl _ _).grown hg (Nat.le_refl _) (by simp))
  clear hown hg hlen
  go_loopw [4] (fun i wr => ∃ k : Nat, k ≤ ps.length ∧ i = .int .i64 k ∧ wr.ownsRow w.heap.size 47 2 (.slice (some ⟨w.heap.size, 0, none⟩) ps.length ps.length) ps.length (pcells (ps.take k) ++ Z.drop (k * 2)) ∧ Bl w wr) (fun i _ => ps.length - (intOf i).toNat)
  case atStart => exact ⟨0, Nat.zero_le _, rfl, HO.out, HB.out⟩
  case round =>
    obtain ⟨k, hk, rfl, hown, hbl⟩ := hrel
    by_cases hlt : k < ps.length
    · obtain ⟨b, off, rfl, hc1, hc2⟩ := HV.out k hlt
      have HO1 := Lib.hid hown
      have HB1 := Lib.hid hbl
      clear hown hbl
      have hr1 : wr.cell? ⟨b, off + k * 2, none⟩ = some (.int .i64 ps[k].1) := (HB1.out.cell (World.block_lt_of_cell? _ _ hc1)).trans hc1
      have hr2 : wr.cell? ⟨b, off + k * 2 + 1, none⟩ = some (.int .i64 ps[k].2) := (HB1.out.cell (World.block_lt_of_cell? _ _ hc2)).trans hc2
      go_wp2_with fail
      refine (toPair_any _ _ _).mono ?_
      rintro e w2 ⟨rfl, hb2⟩
      have HO2 := Lib.hid (own_bl HO1.out hb2)
      have HB2 := Lib.hid (bl_trans HB1.out hb2)
      clear hb2
      obtain ⟨x1, hx1⟩ : ∃ x, w2.cell? ⟨w.heap.size, k * 2, none⟩ = some x := ⟨_, own_cell HO2.out (by omega)⟩
      obtain ⟨x2, hx2⟩ : ∃ x, w2.cell? ⟨w.heap.size, k * 2 + 1, none⟩ = some x := ⟨_, own_cell HO2.out (by omega)⟩
      have hf1 := own_frozen HO2.out (k * 2)
      have hf2 := own_frozen HO2.out (k * 2 + 1)
      go_wp2
      go_roundw
      case rel =>
        refine ⟨k + 1, by omega, by go_num, ?_, bl_set (bl_set HB2.out (by simp) _) (by simp) _⟩
        have := own_set (own_set HO2.out (k := k * 2) (.int .i64 ps[k].1)) (k := k * 2 + 1) (.int .i64 ps[k].2)
        rwa [set2_mid _ _ _ _ _ (by rw [pcells_len, List.length_take]; omega) (by rw [HZ.out]; omega), ← pcells_take_succ] at this
      case measure => simp [intOf]; omega
    · obtain rfl : k = ps.length := by omega
      have HO1 := Lib.hid hown
      have HB1 := Lib.hid hbl
      clear hown hbl
      go_wp2
      go_ret
      refine ⟨_, rfl, ?_, HB1.out⟩
      have := HO1.out
      rwa [List.take_length, ← HZ.out, List.drop_length, List.append_nil] at this

set_option maxRecDepth 100000 in
set_option maxHeartbeats 400000 in
theorem eqPair_true (a b : Int) (w : World) :
    Calls Try.prog 62 #[.agg #[.int .i64 a, .int .i64 b], .agg #[.int .i64 a, .int .i64 b]] w fun e w' => e = .returned (.bool true) ∧ Bl w w' := by
  go_enter Try.func62, Try.ntmps62
  go_wp2
  go_ret
  exact ⟨rfl, bl_alloc (bl_alloc (bl_refl _) _) _⟩

set_option maxRecDepth 100000 in
set_option maxHeartbeats 400000 in
theorem eqPairS_true (v u : Value) (xs : List (Int × Int)) (w : World) (hv : Prs w v xs) (hu : Prs w u xs) :
    Calls Try.prog 24 #[v, u] w fun e w' => e = .returned (.bool true) ∧ Bl w w' := by
  obtain ⟨A, c, rfl, hc, hm, hv⟩ := hv.open
  obtain ⟨B, d, rfl, hd, hm2, hu⟩ := hu.open
  have HV := Lib.hid hv
  have HU := Lib.hid hu
  clear hv hu
  unfold maxLen at hm hm2
  go_enter Try.func24, Try.ntmps24
  go_wp2
  go_loopw [5] (fun i wr => ∃ k : Nat, k ≤ xs.length ∧ i = .int .i64 k ∧ Bl w wr) (fun i _ => xs.length - (intOf i).toNat)
  case atStart => exact ⟨0, Nat.zero_le _, rfl, bl_refl _⟩
  case round =>
    obtain ⟨k, hk, rfl, hb⟩ := hrel
    have HB := Lib.hid hb
    clear hb
    by_cases hlt : k < xs.length
    · obtain ⟨b, off, rfl, hc1, hc2⟩ := HV.out k hlt
      obtain ⟨b2, off2, rfl, hc3, hc4⟩ := HU.out k hlt
      have r1 := (HB.out.cell (World.block_lt_of_cell? _ _ hc1)).trans hc1
      have r2 := (HB.out.cell (World.block_lt_of_cell? _ _ hc2)).trans hc2
      have r3 := (HB.out.cell (World.block_lt_of_cell? _ _ hc3)).trans hc3
      have r4 := (HB.out.cell (World.block_lt_of_cell? _ _ hc4)).trans hc4
      go_wp2
      go_still_tail 8, (by kernel_rfl)
      go_wp2_with fail
      refine (eqPair_true _ _ _).mono ?_
      rintro e w2 ⟨rfl, hb2⟩
      have HB2 := Lib.hid (bl_trans (bl_drew HB.out) hb2)
      clear hb2
      go_wp2
      go_roundw
      case rel => exact ⟨k + 1, by omega, by go_num, HB2.out⟩
      case measure => simp [intOf]; omega
    · go_wp2
      go_ret
      exact ⟨rfl, HB.out⟩

set_option maxRecDepth 100000 in
set_option maxHeartbeats 400000 in
theorem markPairS_own (v : Value) (base n : Nat) (cs : List Value) (k : Int) (w : World) (hv : w.ownsRow base 47 2 v n cs) (h0 : 0 ≤ k) (hk : k + 2 * n ≤ 4611686018427387904) :
    Calls Try.prog 25 #[v, .int .i64 k] w fun e w' => e = .returned (.int .i64 (k + 2 * n)) ∧ Chg (fun b => v.ownBlock = some b) w w' := by
  obtain ⟨A, c, rfl, hc, hm, hA⟩ := own_open hv
  have HV := Lib.hid hv
  have HA := Lib.hid hA
  clear hv hA
  go_enter Try.func25, Try.ntmps25
  go_wp2
  go_loopw [1, 5] (fun t i wr => ∃ j : Nat, j ≤ n ∧ i = .int .i64 j ∧ t = .int .i64 (k + 2 * j) ∧ (∃ ds, wr.ownsRow base 47 2 (.slice A n c) n ds) ∧ Chg (fun b => (Value.slice A n c).ownBlock = some b) w wr) (fun _ i _ => n - (intOf i).toNat)
  case atStart => exact ⟨0, Nat.zero_le _, rfl, by simp, ⟨_, HV.out⟩, Chg.refl _ _⟩
  case round =>
    obtain ⟨j, hj, rfl, rfl, ⟨ds, hown⟩, hchg⟩ := hrel
    by_cases hlt : j < n
    · obtain ⟨g, rfl, hg, _⟩ := HA.out (by omega)
      have hf1 := own_frozen hown (j * 2)
      have hf2 := own_frozen hown (j * 2 + 1)
      obtain ⟨x1, hc1⟩ : ∃ x, wr.cell? ⟨g, j * 2, none⟩ = some x := ⟨_, own_cell hown (by omega)⟩
      obtain ⟨x2, hc2⟩ : ∃ x, wr.cell? ⟨g, j * 2 + 1, none⟩ = some x := ⟨_, own_cell hown (by omega)⟩
      have H1 := Lib.hid (own_set (own_set hown (k := j * 2) (.int .i64 (k + 2 * j))) (k := j * 2 + 1) (.int .i64 (k + 2 * j + 1)))
      have H2 := Lib.hid ((hchg.setCell (p := ⟨g, j * 2, none⟩) (by simp [Value.ownBlock]) (.int .i64 (k + 2 * j))).setCell (p := ⟨g, j * 2 + 1, none⟩) (by simp [Value.ownBlock]) (.int .i64 (k + 2 * j + 1)))
      clear hown hchg
      go_wp2
      go_roundw
      case rel => exact ⟨j + 1, by omega, by go_num, by go_num, ⟨_, H1.out⟩, H2.out⟩
      case measure => simp [intOf]; omega
    · obtain rfl : j = n := by omega
      have H2 := Lib.hid hchg
      clear hown hchg
      go_wp2
      go_ret
      exact ⟨rfl, H2.out⟩

set_option maxRecDepth 100000 in
set_option maxHeartbeats 400000 in
theorem szPairS_in (v : Value) (ps : List (Int × Int)) (k : Int) (w : World) (hv : Prs w v ps) (hk : k ≤ 4611686018427387904) (h : ps.length ≤ k) :
    Calls Try.prog 19 #[v, .int .i64 k] w fun e w' => e = .returned (.int .i64 (k - ps.length)) ∧ Bl w w' := by
  obtain ⟨A, c, rfl, hc, hm, _⟩ := hv.open
  unfold maxLen at hm
  go_enter Try.func19, Try.ntmps19
  go_wp2
  go_ret
  exact ⟨rfl, bl_refl _⟩

set_option maxRecDepth 100000 in
set_option maxHeartbeats 400000 in
theorem szPairS_out (v : Value) (ps : List (Int × Int)) (k : Int) (w : World) (hv : Prs w v ps) (h0 : 0 ≤ k) (h : k < ps.length) :
    Calls Try.prog 19 #[v, .int .i64 k] w fun e w' => e = .returned (.int .i64 (-1)) ∧ Bl w w' := by
  obtain ⟨A, c, rfl, hc, hm, _⟩ := hv.open
  unfold maxLen at hm
  go_enter Try.func19, Try.ntmps19
  go_wp2
  go_ret
  exact ⟨rfl, bl_refl _⟩

end Go.Proofs.Ytebkmegkdcnfaaa
