/- The contracts of container/ring, further: Move, Len, Unlink, New. -/
import Derived.Test.YthgghafndabpfaaRing
import Derived.LaidEqlPtr
namespace Go.Proofs.Ythgghafndabpfaa
open Go.RowKit

section
variable {w w' : World} {D : Nat → Prop} {ad nx pv : Nat → Nat} {val : Nat → Value}

theorem iterD {f : Nat → Nat} (h : ∀ i, D i → D (f i)) {i : Nat} (hi : D i) (n : Nat) : D (iter f n i) := by
  induction n generalizing i with
  | zero => exact hi
  | succ n ih => exact ih (h i hi)

theorem Ring.inited_iter_nx (h : Ring w D ad nx pv val) {i : Nat} (hd : D i) (hi : Inited w (ad i)) (n : Nat) : Inited w (ad (iter nx n i)) := by
  induction n generalizing i with
  | zero => exact hi
  | succ n ih => exact ih (h.nxD i hd) (h.inited_nx hd hi)
theorem Ring.inited_iter_pv (h : Ring w D ad nx pv val) {i : Nat} (hd : D i) (hi : Inited w (ad i)) (n : Nat) : Inited w (ad (iter pv n i)) := by
  induction n generalizing i with
  | zero => exact hi
  | succ n ih => exact ih (h.pvD i hd) (h.inited_pv hd hi)

theorem iter_fix {f : Nat → Nat} {i : Nat} (h : f i = i) (n : Nat) : iter f n i = i := by
  induction n with
  | zero => rfl
  | succ n ih => show iter f n (f i) = i; rw [h]; exact ih

theorem INode.cell0 {w : World} {b n p : Nat} {v : Value} (h : INode w b n p v) : w.cell? ⟨b, 0, none⟩ = some (P n) := by rw [cell_of_heap h]; rfl
theorem INode.cell1 {w : World} {b n p : Nat} {v : Value} (h : INode w b n p v) : w.cell? ⟨b, 1, none⟩ = some (P p) := by rw [cell_of_heap h]; rfl

set_option maxRecDepth 100000 in
set_option maxHeartbeats 400000 in
/-- Move forward. -/
theorem move_fwd (hr : Ring w D ad nx pv val) {i : Nat} (hd : D i) (n : Nat) (hn : n ≤ 4611686018427387904) :
    Calls Try.prog 41 #[P (ad i), .int .i64 n] w fun e w' => e = .returned (P (ad (iter nx n i))) ∧ Kept w D ad nx pv val w' ∧ Inited w' (ad i) := by
  obtain ⟨a, c, hh, hac⟩ := hr.node i hd
  have c0 : w.cell? ⟨ad i, 0, none⟩ = some a := by simp [World.cell?, hh]
  rcases hac with ⟨rfl, rfl⟩ | ⟨rfl, rfl, hnx, hpv⟩
  · have hi : Inited w (ad i) := ⟨_, _, _, hh⟩
    have R := Lib.hid hr
    have HI := Lib.hid hi
    clear hr hh hi
    rcases Nat.eq_zero_or_pos n with h0 | h0
    · subst h0
      go_enter Try.func41, Try.ntmps41
      go_wp2
      go_ret
      exact ⟨rfl, Kept.refl R.out, HI.out⟩
    · have h1 : ¬ (n : Int) < 0 := by omega
      have h2 : (0 : Int) < n := by omega
      go_enter Try.func41, Try.ntmps41
      go_wp2
      go_loop [0, 1] (fun p t => ∃ k : Nat, k ≤ n ∧ t = .int .i64 ((n : Int) - k) ∧ p = P (ad (iter nx k i))) (fun _ t => (intOf t).toNat)
      case atStart => exact ⟨0, Nat.zero_le _, by simp, rfl⟩
      case round =>
        obtain ⟨k, hk, rfl, rfl⟩ := hrel
        by_cases hlt : k < n
        · have hdk := iterD R.out.nxD hd k
          have c1 := (R.out.inode hdk (R.out.inited_iter_nx hd HI.out k)).cell0
          have hs := Lib.hid (iter_succ nx k i)
          generalize iter nx k i = j at *
          go_wp2
          go_round
          case rel => exact ⟨k + 1, by omega, by go_num, by rw [hs.out]⟩
          case measure => simp [intOf]; omega
        · obtain rfl : k = n := by omega
          go_wp2
          go_ret
          exact ⟨rfl, Kept.refl R.out, HI.out⟩
  · have HH := Lib.hid hh
    have e := hr.inj _ _ (hr.nxD i hd) hd hnx
    have R := Lib.hid (hr.init hd hh hnx hpv)
    have N := Lib.hid (iter_fix e n)
    clear hh hnx hpv hr e
    go_enter Try.func41, Try.ntmps41
    go_wp2_with (go_at_call 35; refine (init_any _ _ _ _ _ HH.out).mono ?_; rintro e w' ⟨rfl, rfl⟩)
    go_ret
    exact ⟨by rw [N.out]; rfl, R.out⟩

set_option maxRecDepth 100000 in
set_option maxHeartbeats 400000 in
/-- Move backward. -/
theorem move_bwd (hr : Ring w D ad nx pv val) {i : Nat} (hd : D i) (n : Nat) (h0 : 0 < n) (hn : n ≤ 4611686018427387904) :
    Calls Try.prog 41 #[P (ad i), .int .i64 (-(n : Int))] w fun e w' => e = .returned (P (ad (iter pv n i))) ∧ Kept w D ad nx pv val w' ∧ Inited w' (ad i) := by
  obtain ⟨a, c, hh, hac⟩ := hr.node i hd
  have c0 : w.cell? ⟨ad i, 0, none⟩ = some a := by simp [World.cell?, hh]
  rcases hac with ⟨rfl, rfl⟩ | ⟨rfl, rfl, hnx, hpv⟩
  · have hi : Inited w (ad i) := ⟨_, _, _, hh⟩
    have R := Lib.hid hr
    have HI := Lib.hid hi
    clear hr hh hi
    have h1 : -(n : Int) < 0 := by omega
    go_enter Try.func41, Try.ntmps41
    go_wp2
    go_loop [0, 1] (fun p t => ∃ k : Nat, k ≤ n ∧ t = .int .i64 (-(n : Int) + k) ∧ p = P (ad (iter pv k i))) (fun _ t => (-(intOf t)).toNat)
    case atStart => exact ⟨0, Nat.zero_le _, by simp, rfl⟩
    case round =>
      obtain ⟨k, hk, rfl, rfl⟩ := hrel
      by_cases hlt : k < n
      · have hdk := iterD R.out.pvD hd k
        have c1 := (R.out.inode hdk (R.out.inited_iter_pv hd HI.out k)).cell1
        have hs := Lib.hid (iter_succ pv k i)
        generalize iter pv k i = j at *
        go_wp2
        go_round
        case rel => exact ⟨k + 1, by omega, by go_num, by rw [hs.out]⟩
        case measure => simp [intOf]; omega
      · obtain rfl : k = n := by omega
        go_wp2
        go_ret
        exact ⟨rfl, Kept.refl R.out, HI.out⟩
  · have HH := Lib.hid hh
    have e := hr.inj _ _ (hr.pvD i hd) hd hpv
    have R := Lib.hid (hr.init hd hh hnx hpv)
    have N := Lib.hid (iter_fix e n)
    clear hh hnx hpv hr e
    go_enter Try.func41, Try.ntmps41
    go_wp2_with (go_at_call 35; refine (init_any _ _ _ _ _ HH.out).mono ?_; rintro e w' ⟨rfl, rfl⟩)
    go_ret
    exact ⟨by rw [N.out]; rfl, R.out⟩

theorem Ring.heap (h : Ring w D ad nx pv val) {i : Nat} (hd : D i) : ∃ cs, w.heap[ad i]? = some (.cells cs 50 (0, 0)) := by
  obtain ⟨a, c, e, _⟩ := h.node i hd
  exact ⟨_, e⟩

theorem ringSize : ∃ j, Try.prog.info? 50 = some j ∧ j.size ≠ 0 := by
  have h : (Try.prog.info? 50).map (fun i => i.size) = some 3 := by kernel_rfl
  cases hi : Try.prog.info? 50 with
  | none => rw [hi] at h; cases h
  | some j => rw [hi] at h; simp at h; exact ⟨j, rfl, by omega⟩

/-- Two elements' pointers compared. -/
theorem Ring.neq (h : Ring w D ad nx pv val) {i j : Nat} (hi : D i) (hj : D j) (hij : i ≠ j) :
    (binOp .neq 47 (P (ad i)) (P (ad j))).run Try.prog w = .ok (.bool true) w := by
  obtain ⟨jj, hte, hsz⟩ := ringSize
  obtain ⟨ci, ei⟩ := h.heap hi
  obtain ⟨cj, ej⟩ := h.heap hj
  have hne : (⟨ad i, 0, none⟩ : Addr) ≠ ⟨ad j, 0, none⟩ := fun e => hij (h.inj i j hi hj (by injection e))
  have hq : ∀ d : Nat, (Op.equalIn (d + 1) 47 (.pointer (some ⟨ad i, 0, none⟩)) (.pointer (some ⟨ad j, 0, none⟩))).run Try.prog w = .ok false w := fun d => by
    simp [Op.equalIn, run_underlying Try.underlying47, sizeOf, typeInfo, hte, hsz, run_sameAddr_other w hne ei ej]
  simp only [binOp]
  simp [Op.equal, Op.maxDepth, hq 9999]
theorem run_neq_same (b : Nat) (w : World) : (binOp .neq 47 (P b) (P b)).run Try.prog w = .ok (.bool false) w := by
  obtain ⟨jj, hte, _⟩ := ringSize
  have hq : ∀ d : Nat, (Op.equalIn (d + 1) 47 (P b) (P b)).run Try.prog w = .ok true w := fun d => by
    simp [Op.equalIn, run_underlying Try.underlying47, sizeOf, typeInfo, hte, sameAddr]
  simp only [binOp]
  simp [Op.equal, Op.maxDepth, hq 9999]

set_option maxRecDepth 100000 in
set_option maxHeartbeats 400000 in
/-- Unlink: the elements behind r, n of them, are out. -/
theorem unlink_ring (hr : Ring w D ad nx pv val) {r : Nat} (hd : D r) (n : Nat) (h0 : 0 < n) (hn : n ≤ 1073741824) :
    Calls Try.prog 36 #[P (ad r), .int .i64 n] w fun e w' => e = .returned (P (ad (nx r))) ∧ Kept w D ad (lnx nx pv r (iter nx (n + 1) r)) (lpv nx pv r (iter nx (n + 1) r)) val w' ∧ Inited w' (ad r) := by
  have HR := Lib.hid hr
  clear hr
  go_enter Try.func36, Try.ntmps36
  go_wp2_with fail
  have e : (n : Int) + 1 = ((n + 1 : Nat) : Int) := by omega
  rw [e]
  clear e
  refine (move_fwd HR.out hd (n + 1) (by omega)).mono ?_
  rintro e w1 ⟨rfl, k1, i1⟩
  have K1 := Lib.hid k1
  clear k1 i1
  go_wp2_with fail
  refine (link_ring K1.out.ring hd (iterD K1.out.ring.nxD hd (n + 1))).mono ?_
  rintro e w2 ⟨rfl, k2, i2, _⟩
  have K2 := Lib.hid (K1.out.after k2)
  have I2 := Lib.hid i2
  clear k2 i2
  go_wp2
  go_ret
  exact ⟨rfl, K2.out, I2.out⟩


end

end Go.Proofs.Ythgghafndabpfaa
