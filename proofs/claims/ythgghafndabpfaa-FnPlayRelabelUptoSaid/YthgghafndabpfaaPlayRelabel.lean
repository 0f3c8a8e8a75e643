/- Moves of numbers by other names: the plain law, and the walks of renamed and through. -/
import Derived.Test.YthgghafndabpfaaPlayLaws
namespace Go.Proofs.Ythgghafndabpfaa
open Go.RowKit

def renM (N : Nat) (g : Nat → Nat) (m : Mv) : Mv := (m.1, (g (ix m.2.1 N) : Nat), (g (ix m.2.2 N) : Nat))
def renMs (N : Nat) (g : Nat → Nat) (ms : List Mv) : List Mv := if N = 0 then [] else ms.map (renM N g)
/-- The number at a place of an order. -/
def atO (x : List Int) (v : Int) : Int := x.getD v.toNat 0

/-- An order, and where each number stands in it. -/
theorem ord_tab {N : Nat} {x : List Int} (h : Ord N x) : ∃ f g : Nat → Nat, x = tab f N ∧ (∀ i, i < N → f i < N) ∧ (∀ i, i < N → g i < N) ∧ (∀ i, i < N → g (f i) = i) ∧ (∀ i, i < N → f (g i) = i) := by
  have hl := h.len
  have hget : ∀ i (hi : i < N), 0 ≤ x[i]'(by omega) ∧ x[i]'(by omega) < N := fun i hi => (h.mem _).1 (List.getElem_mem _)
  have hfx : ∀ i (hi : i < N), (((x.getD i 0).toNat : Nat) : Int) = x[i]'(by omega) := fun i hi => by
    rw [List.getD_eq_getElem?_getD, List.getElem?_eq_getElem (by omega)]
    have := hget i hi
    simp only [Option.getD_some]
    omega
  have hgl : ∀ j, j < N → x.idxOf (j : Int) < x.length := fun j hj => List.idxOf_lt_length_of_mem (h.has hj)
  refine ⟨fun i => (x.getD i 0).toNat, fun j => x.idxOf (j : Int), ?_, fun i hi => ?_, fun j hj => ?_, fun i hi => ?_, fun j hj => ?_⟩
  · apply List.ext_getElem (by rw [tab_len, hl])
    intro i h1 h2
    rw [tab_get _ (by omega), hfx i (by omega)]
  · have h1 := hfx i hi
    have h2 := hget i hi
    show (x.getD i 0).toNat < N
    omega
  · have := hgl j hj
    show x.idxOf (j : Int) < N
    omega
  · show x.idxOf (((x.getD i 0).toNat : Nat) : Int) = i
    rw [hfx i hi]
    have hm : x[i]'(by omega) ∈ x := List.getElem_mem _
    have h1 := List.idxOf_lt_length_of_mem hm
    have h2 : x[x.idxOf (x[i]'(by omega))] = x[i]'(by omega) := List.getElem_idxOf h1
    exact (List.getElem_inj h.nodup).1 h2
  · have h1 := hgl j hj
    have h2 : x[x.idxOf (j : Int)] = (j : Int) := List.getElem_idxOf h1
    have h3 := hfx (x.idxOf (j : Int)) (by omega)
    show (x.getD (x.idxOf (j : Int)) 0).toNat = j
    rw [h2] at h3
    omega
theorem atO_tab {N : Nat} {f : Nat → Nat} {i : Nat} (hi : i < N) : atO (tab f N) (i : Int) = (f i : Int) := by
  unfold atO
  rw [Int.toNat_natCast, List.getD_eq_getElem?_getD, tab_get? f hi]; rfl
theorem tab_atO (N : Nat) (f : Nat → Nat) : (nums N).map (atO (tab f N)) = tab f N := by
  rw [nums_map]
  unfold tab
  rw [List.map_map]
  apply List.map_congr_left
  intro i hi
  exact atO_tab (List.mem_range.1 hi)

theorem ren_step {N : Nat} (hN : 0 < N) {f g : Nat → Nat} (hg : ∀ i, i < N → g i < N) (hgf : ∀ i, i < N → g (f i) = i) (hfg : ∀ i, i < N → f (g i) = i) {y : List Int} (hy : Ord N y) (m : Mv) :
    playStep N (y.map (atO (tab f N))) m = (playStep N y (renM N g m)).map (atO (tab f N)) := by
  have he := ix_lt m.2.1 hN
  have hm := ix_lt m.2.2 hN
  rw [playStep_raw, playStep_raw]
  unfold renM
  simp only
  rw [ix_self (hg _ he), ix_self (hg _ hm)]
  have e1 : ((ix m.2.1 N : Nat) : Int) = atO (tab f N) ((g (ix m.2.1 N) : Nat) : Int) := by rw [atO_tab (hg _ he), hfg _ he]
  have e2 : ((ix m.2.2 N : Nat) : Int) = atO (tab f N) ((g (ix m.2.2 N) : Nat) : Int) := by rw [atO_tab (hg _ hm), hfg _ hm]
  rw [e1, e2]
  have hinj : ∀ a b : Int, (0 ≤ a ∧ a < N) → (0 ≤ b ∧ b < N) → atO (tab f N) a = atO (tab f N) b → a = b := by
    intro a b ha hb e
    obtain ⟨i, rfl⟩ : ∃ i : Nat, a = i := ⟨a.toNat, by omega⟩
    obtain ⟨j, rfl⟩ : ∃ j : Nat, b = j := ⟨b.toNat, by omega⟩
    rw [atO_tab (by omega), atO_tab (by omega)] at e
    have e' : f i = f j := by omega
    have h1 := hgf i (by omega)
    have h2 := hgf j (by omega)
    rw [e', h2] at h1
    omega
  have hge := hg _ he
  have hgm := hg _ hm
  exact raw_map (fun a ha e => hinj a _ ((hy.mem a).1 ha) (by omega) e) (fun a ha e => hinj a _ ((hy.mem a).1 ha) (by omega) e) (fun e => hinj _ _ (by omega) (by omega) e)
theorem ren_fold {N : Nat} (hN : 0 < N) {f g : Nat → Nat} (hg : ∀ i, i < N → g i < N) (hgf : ∀ i, i < N → g (f i) = i) (hfg : ∀ i, i < N → f (g i) = i) (ms : List Mv) : ∀ y, Ord N y →
    ms.foldl (playStep N) (y.map (atO (tab f N))) = ((ms.map (renM N g)).foldl (playStep N) y).map (atO (tab f N)) := by
  induction ms with
  | nil => intro y _; rfl
  | cons m ms ih =>
    intro y hy
    rw [List.foldl_cons, ren_step hN hg hgf hfg hy, ih _ (hy.step hN _), List.map_cons, List.foldl_cons]
theorem play_relabel {N : Nat} (ms more : List Mv) {f g : Nat → Nat} (hx : play N ms = tab f N) (hg : ∀ i, i < N → g i < N) (hgf : ∀ i, i < N → g (f i) = i) (hfg : ∀ i, i < N → f (g i) = i) :
    play N (ms ++ more) = (play N (renMs N g more)).map (atO (play N ms)) := by
  by_cases h0 : N = 0
  · subst h0; rfl
  · have hN : 0 < N := by omega
    rw [hx]
    have h1 : play N (ms ++ more) = more.foldl (playStep N) (play N ms) := by
      unfold play
      rw [if_neg h0, if_neg h0, List.foldl_append]
    have h2 : play N (renMs N g more) = (more.map (renM N g)).foldl (playStep N) (nums N) := by
      unfold play renMs
      rw [if_neg h0, if_neg h0]
    rw [h1, h2, hx]
    conv => lhs; rw [← tab_atO N f]
    exact ren_fold hN hg hgf hfg more (nums N) (nums_ord N)

theorem renMs_nil (n : Nat) (g : Nat → Nat) : renMs n g [] = [] := by unfold renMs; split <;> rfl
theorem renMs_len (n : Nat) (g : Nat → Nat) (ms : List Mv) : (renMs n g ms).length ≤ ms.length := by unfold renMs; split <;> simp
theorem renMs_take (n : Nat) (g : Nat → Nat) (ms : List Mv) (k : Nat) (hk : k < ms.length) : renMs n g (ms.take (k + 1)) = if n = 0 then renMs n g (ms.take k) else renMs n g (ms.take k) ++ [renM n g ms[k]] := by
  unfold renMs
  by_cases h : n = 0
  · rw [if_pos h, if_pos h, if_pos h]
  · rw [if_neg h, if_neg h, if_neg h, List.take_succ_eq_append_getElem hk, List.map_append]; rfl

set_option maxRecDepth 100000 in
set_option maxHeartbeats 1000000 in
theorem through_any (v u : Value) (xs ys : List Int) (w : World) (hv : Ints w v xs) (hu : Ints w u ys) (hy : ∀ y ∈ ys, 0 ≤ y ∧ y < xs.length) (hl : ys.length ≤ 1048576) :
    Calls Try.prog 14 #[v, u] w (NewInts w (ys.map (atO xs))) := by
  obtain ⟨i0, hi, hz0, hz1, hz2⟩ := info_parts intInfo
  obtain ⟨A, c, rfl, hc, hm, hv⟩ := hv.open
  obtain ⟨B, d, rfl, hd, hm2, hu⟩ := hu.open
  have HV := Lib.hid hv
  have HU := Lib.hid hu
  have HY := Lib.hid hy
  clear hv hu hy
  unfold maxLen at hm hm2
  go_enter Try.func14, Try.ntmps14
  go_wp2
  go_loopw [5, 7, 11] (fun ov _ i wr => ∃ k : Nat, k ≤ ys.length ∧ i = .int .i64 k ∧ OwnI wr w.heap.size ov ((ys.take k).map (atO xs)) ∧ Bl w wr) (fun _ _ i _ => ys.length - (intOf i).toNat)
  case atStart => exact ⟨0, Nat.zero_le _, rfl, own_empty _ _ _, bl_alloc (bl_refl _) _⟩
  case round =>
    obtain ⟨k, hk, rfl, hown, hbl⟩ := hrel
    have HO := Lib.hid hown
    have HB := Lib.hid hbl
    clear hown hbl
    have HLK : Hid (((ys.take k).map (atO xs)).length = k) := by
      show _ = _
      rw [List.length_map, List.length_take]; omega
    by_cases hlt : k < ys.length
    · obtain ⟨b2, off2, rfl, hc2⟩ := HU.out k hlt
      have r2 := (HB.out.cell (World.block_lt_of_cell? _ _ hc2)).trans hc2
      have hyk := HY.out _ (List.getElem_mem hlt)
      have HT := Lib.hid (List.take_succ_eq_append_getElem hlt)
      generalize ys[k] = y at *
      obtain ⟨m, rfl⟩ : ∃ m : Nat, y = m := ⟨y.toNat, by omega⟩
      have hmx : m < xs.length := by omega
      obtain ⟨b, off, rfl, hc1⟩ := HV.out m hmx
      have r1 := (HB.out.cell (World.block_lt_of_cell? _ _ hc1)).trans hc1
      have HAT : Hid (atO xs (m : Int) = xs[m]) := by
        show _ = _
        unfold atO
        rw [Int.toNat_natCast, List.getD_eq_getElem?_getD, List.getElem?_eq_getElem hmx]; rfl
      clear hc1 hc2
      generalize xs[m] = x at *
      go_wp2_with (at_builtin; go_must (refine wpList_push wr rfl (.tmp 23) (.tmp 28) _ rfl w.heap.size 3 i0 _ 8 Try.underlying23 hi hz0 hz1 hz2 rfl u5 _ _ rfl HO.out (.int .i64 x) rfl rfl rfl (by rw [HLK.out]; omega) (by rw [HLK.out]; omega) HB.out.size ?_); intro v4 w4 hown4 hchg4 hloc4)
      have O4 := Lib.hid (OwnI.snoc hown4)
      have HB4 := Lib.hid (bl_own HB.out HO.out hchg4)
      clear hown4 hchg4 hloc4
      go_roundw
      case rel => exact ⟨k + 1, by omega, by go_num, by rw [HT.out, List.map_append, List.map_cons, List.map_nil, HAT.out]; exact O4.out, HB4.out⟩
      case measure => simp [intOf]; omega
    · obtain rfl : k = ys.length := by omega
      rw [List.take_length] at HO
      go_wp2
      go_ret
      exact ⟨_, rfl, HO.out, HB.out⟩

end Go.Proofs.Ythgghafndabpfaa
