/- Mirror images of moves: the plain law, and the walk of mirrored. -/
import Derived.Test.YtoodmppijlfaoaaPlayLaws
namespace Go.Proofs.Ytoodmppijlfaoaa
open Go.RowKit

def mirM (n : Nat) (m : Mv) : Mv := ((mirQ (ix m.1 4) : Nat), (n : Int) - 1 - (ix m.2.1 n : Nat), (n : Int) - 1 - (ix m.2.2 n : Nat))
def mir (n : Nat) (x : List Int) : List Int := (x.map fun v => (n : Int) - 1 - v).reverse
theorem mirQ_lt {q : Nat} (h : q < 4) : mirQ q < 4 := by unfold mirQ; omega
theorem mir_nums (n : Nat) : mir n (nums n) = nums n := by
  unfold mir
  apply List.ext_getElem
  · simp [nums_len]
  · intro i h1 h2
    rw [nums_len] at h2
    have hl : (nums n).length = n := nums_len n
    rw [List.getElem_reverse, List.getElem_map]
    have e : ((nums n).map fun v => (n : Int) - 1 - v).length - 1 - i = n - 1 - i := by rw [List.length_map, hl]
    simp only [e]
    rw [nums_get (by omega), nums_get (by omega)]
    omega
theorem mir_step {n : Nat} {x : List Int} (h : Ord n x) (hn : 0 < n) (m : Mv) : playStep n (mir n x) (mirM n m) = mir n (playStep n x m) := by
  have hq := ix_lt m.1 (n := 4) (by omega)
  have he := ix_lt m.2.1 hn
  have hm := ix_lt m.2.2 hn
  rw [playStep_raw, playStep_raw]
  unfold mirM
  simp only
  rw [ix_self (mirQ_lt hq)]
  have e1 : ((ix ((n : Int) - 1 - (ix m.2.1 n : Nat)) n : Nat) : Int) = (n : Int) - 1 - (ix m.2.1 n : Nat) := by
    rw [show (n : Int) - 1 - (ix m.2.1 n : Nat) = ((n - 1 - ix m.2.1 n : Nat) : Int) by omega, ix_self (by omega)]
  have e2 : ((ix ((n : Int) - 1 - (ix m.2.2 n : Nat)) n : Nat) : Int) = (n : Int) - 1 - (ix m.2.2 n : Nat) := by
    rw [show (n : Int) - 1 - (ix m.2.2 n : Nat) = ((n - 1 - ix m.2.2 n : Nat) : Int) by omega, ix_self (by omega)]
  rw [e1, e2]
  unfold mir
  have hnd : (x.map fun v => (n : Int) - 1 - v).Nodup := by
    have := h.nodup
    exact List.pairwise_map.2 (this.imp (fun hab e => hab (by omega)))
  rw [raw_reverse hq hnd (List.mem_map.2 ⟨_, h.has he, rfl⟩) (List.mem_map.2 ⟨_, h.has hm, rfl⟩)]
  rw [raw_map (σ := fun v => (n : Int) - 1 - v) (fun a _ e => by omega) (fun a _ e => by omega) (fun e => by omega)]
theorem mir_fold {n : Nat} (hn : 0 < n) (ms : List Mv) : ∀ x, Ord n x → (ms.map (mirM n)).foldl (playStep n) (mir n x) = mir n (ms.foldl (playStep n) x) := by
  induction ms with
  | nil => intro x _; rfl
  | cons m ms ih =>
    intro x h
    rw [List.map_cons, List.foldl_cons, List.foldl_cons, mir_step h hn, ih _ (h.step hn m)]
def mirMs (n : Nat) (ms : List Mv) : List Mv := if n = 0 then [] else ms.map (mirM n)
theorem play_mirror (n : Nat) (ms : List Mv) : play n (mirMs n ms) = mir n (play n ms) := by
  unfold play mirMs
  by_cases h0 : n = 0
  · subst h0; rfl
  · rw [if_neg h0, if_neg h0, if_neg h0]
    have := mir_fold (n := n) (by omega) ms (nums n) (nums_ord n)
    rwa [mir_nums] at this

theorem mirMs_nil (n : Nat) : mirMs n [] = [] := by unfold mirMs; split <;> rfl
theorem mirMs_len (n : Nat) (ms : List Mv) : (mirMs n ms).length ≤ ms.length := by unfold mirMs; split <;> simp
theorem mirMs_take (n : Nat) (ms : List Mv) (k : Nat) (hk : k < ms.length) : mirMs n (ms.take (k + 1)) = if n = 0 then mirMs n (ms.take k) else mirMs n (ms.take k) ++ [mirM n ms[k]] := by
  unfold mirMs
  by_cases h : n = 0
  · rw [if_pos h, if_pos h, if_pos h]
  · rw [if_neg h, if_neg h, if_neg h, List.take_succ_eq_append_getElem hk, List.map_append]; rfl

set_option maxHeartbeats 2000000 in
theorem mirrored_any (u : Value) (ms : List Mv) (N : Nat) (w : World) (hu : Mvs w u ms) (hl : ms.length * 24 ≤ 140737488351232) (hN : N < 200) :
    Calls Try.prog 24 #[u, .int .i64 N] w (NewMvs w (mirMs N ms)) := by
  obtain ⟨i0, hi, hz0, hz1, hz2⟩ := info_parts moveParts
  obtain ⟨A, c, rfl, hc, hm, hv⟩ := hu.open
  have HV := Lib.hid hv
  clear hu hv
  unfold maxLen at hm
  go_enter Try.func24, Try.ntmps24
  go_wp2
  go_loopw [5, 7, 8, 12] (fun ov _ _ i wr => ∃ k : Nat, k ≤ ms.length ∧ i = .int .i64 k ∧ OwnM wr w.heap.size ov (mirMs N (ms.take k)) ∧ Bl w wr) (fun _ _ _ i _ => ms.length - (intOf i).toNat)
  case atStart => exact ⟨0, Nat.zero_le _, rfl, by rw [List.take_zero, mirMs_nil]; exact own_empty _ _ _, bl_alloc (bl_refl _) _⟩
  case round =>
    obtain ⟨k, hk, rfl, hown, hbl⟩ := hrel
    have HO := Lib.hid hown
    have HB := Lib.hid hbl
    clear hown hbl
    by_cases hlt : k < ms.length
    · obtain ⟨b, off, rfl, hc1', hc2', hc3'⟩ := HV.out k hlt
      have r1 := (HB.out.cell (World.block_lt_of_cell? _ _ hc1')).trans hc1'
      have r2 := (HB.out.cell (World.block_lt_of_cell? _ _ hc2')).trans hc2'
      have r3 := (HB.out.cell (World.block_lt_of_cell? _ _ hc3')).trans hc3'
      have HT := Lib.hid (mirMs_take N ms k hlt)
      have HLN := Lib.hid (mirMs_len N (ms.take k))
      clear hc1' hc2' hc3'
      generalize ms[k] = m at *
      obtain ⟨op, em, mm⟩ := m
      rcases Nat.eq_zero_or_pos N with hN0 | hN0
      · subst hN0
        go_wp2
        go_roundw
        case rel => exact ⟨k + 1, by omega, by go_num, by rw [HT.out]; exact own_bl HO.out (bl_alloc (bl_refl _) _), bl_alloc HB.out _⟩
        case measure => simp [intOf]; omega
      · have hN1 : (0 : Int) < (N : Int) := by omega
        have l1 := ix_lt em hN0
        have l2 := ix_lt mm hN0
        have l4 := ix_lt op (n := 4) (by omega)
        have hlen : (mirMs N (ms.take k)).length ≤ k := by
          have := HLN.out
          rw [List.length_take] at this
          omega
        have hbW : Bl wr (wr.alloc (.cells #[.int .i64 op, .int .i64 em, .int .i64 mm] 27)) := bl_alloc (bl_refl _) _
        go_wp2_with fail
        refine (At_ix op 4 _ (by omega) (by omega)).mono ?_
        rintro e w2 ⟨rfl, rfl⟩
        generalize hQ : ix op 4 = Q at *
        have HQ := Lib.hid hQ
        clear hQ
        rcases (by omega : Q = 0 ∨ Q = 1 ∨ Q = 2 ∨ Q = 3) with rfl | rfl | rfl | rfl
        · have HMQ : Hid (mirM N (op, em, mm) = (1, (N : Int) - 1 - (ix em N : Nat), (N : Int) - 1 - (ix mm N : Nat))) := by
            show mirM N (op, em, mm) = _
            unfold mirM
            simp only [HQ.out]
            rfl
          have HE := Lib.hid (fun w => At_ix em N w hN0 (by omega))
          have HM := Lib.hid (fun w => At_ix mm N w hN0 (by omega))
          generalize ix em N = E at *
          generalize ix mm N = M at *
          have hwE : IntKind.i64.wrap (IntKind.i64.wrap ((N : Int) - 1) - (E : Int)) = (N : Int) - 1 - E := by rw [IntWalk.i64_in ((N : Int) - 1) (by omega), IntWalk.i64_in _ (by omega)]
          have hwM : IntKind.i64.wrap (IntKind.i64.wrap ((N : Int) - 1) - (M : Int)) = (N : Int) - 1 - M := by rw [IntWalk.i64_in ((N : Int) - 1) (by omega), IntWalk.i64_in _ (by omega)]
          go_wp2_with fail
          go_region_law (first
            | (go_simp; go_at_call_of 18 em; refine (HE.out _).mono ?_; rintro e w3 ⟨rfl, rfl⟩)
            | (go_simp; go_at_call_of 18 mm; refine (HM.out _).mono ?_; rintro e w3 ⟨rfl, rfl⟩)
            | (refine step_cat _ rfl (.tmp 21) (.tmp 44) _ rfl w.heap.size 27 i0 _ 3 24 Try.underlying22 hi hz0 hz1 hz2 rfl (by decide) u5 _ _ rfl (own_bl HO.out (bl_drew (bl_alloc (bl_alloc (bl_refl wr) _) _))) _ 1 (mcells [((1 : Int), (N : Int) - 1 - E, (N : Int) - 1 - M)]) rfl (sl_move ((cell_of_heap (heap_two_1 wr _ _)).trans (congrArg (fun x => some (Value.int .i64 x)) (by first | rfl | decide))) ((cell_of_heap (heap_two_1 wr _ _)).trans (congrArg (fun x => some (Value.int .i64 x)) (by first | rfl | exact hwE))) ((cell_of_heap (heap_two_1 wr _ _)).trans (congrArg (fun x => some (Value.int .i64 x)) (by first | rfl | exact hwM)))) (one_moves _) (by unfold maxLen; omega) (by omega) (Nat.le_trans HB.out.size (bl_drew (bl_alloc (bl_alloc (bl_refl wr) _) _)).size) ?_
               intro v3 w3 hown3 hchg3 hloc3
               have HO3 : Hid (OwnM w3 w.heap.size v3 (mirMs N (ms.take (k + 1)))) := OwnM.cat hown3 (by rw [HT.out, if_neg (by omega), mcells_append, HMQ.out]) (by rw [HT.out, if_neg (by omega), List.length_append]; rfl)
               have HB3 := Lib.hid (bl_own (bl_trans HB.out (bl_drew (bl_alloc (bl_alloc (bl_refl wr) _) _))) (own_bl HO.out (bl_drew (bl_alloc (bl_alloc (bl_refl wr) _) _))) hchg3)
               clear hown3 hchg3 hloc3))
          all_goals
            go_wp2
            go_roundw
            case rel => exact ⟨k + 1, by omega, by go_num, HO3.out, HB3.out⟩
            case measure => simp [intOf]; omega
        · have HMQ : Hid (mirM N (op, em, mm) = (0, (N : Int) - 1 - (ix em N : Nat), (N : Int) - 1 - (ix mm N : Nat))) := by
            show mirM N (op, em, mm) = _
            unfold mirM
            simp only [HQ.out]
            rfl
          have HE := Lib.hid (fun w => At_ix em N w hN0 (by omega))
          have HM := Lib.hid (fun w => At_ix mm N w hN0 (by omega))
          generalize ix em N = E at *
          generalize ix mm N = M at *
          have hwE : IntKind.i64.wrap (IntKind.i64.wrap ((N : Int) - 1) - (E : Int)) = (N : Int) - 1 - E := by rw [IntWalk.i64_in ((N : Int) - 1) (by omega), IntWalk.i64_in _ (by omega)]
          have hwM : IntKind.i64.wrap (IntKind.i64.wrap ((N : Int) - 1) - (M : Int)) = (N : Int) - 1 - M := by rw [IntWalk.i64_in ((N : Int) - 1) (by omega), IntWalk.i64_in _ (by omega)]
          go_wp2_with fail
          go_region_law (first
            | (go_simp; go_at_call_of 18 em; refine (HE.out _).mono ?_; rintro e w3 ⟨rfl, rfl⟩)
            | (go_simp; go_at_call_of 18 mm; refine (HM.out _).mono ?_; rintro e w3 ⟨rfl, rfl⟩)
            | (refine step_cat _ rfl (.tmp 21) (.tmp 44) _ rfl w.heap.size 27 i0 _ 3 24 Try.underlying22 hi hz0 hz1 hz2 rfl (by decide) u5 _ _ rfl (own_bl HO.out (bl_drew (bl_alloc (bl_alloc (bl_refl wr) _) _))) _ 1 (mcells [((0 : Int), (N : Int) - 1 - E, (N : Int) - 1 - M)]) rfl (sl_move ((cell_of_heap (heap_two_1 wr _ _)).trans (congrArg (fun x => some (Value.int .i64 x)) (by first | rfl | decide))) ((cell_of_heap (heap_two_1 wr _ _)).trans (congrArg (fun x => some (Value.int .i64 x)) (by first | rfl | exact hwE))) ((cell_of_heap (heap_two_1 wr _ _)).trans (congrArg (fun x => some (Value.int .i64 x)) (by first | rfl | exact hwM)))) (one_moves _) (by unfold maxLen; omega) (by omega) (Nat.le_trans HB.out.size (bl_drew (bl_alloc (bl_alloc (bl_refl wr) _) _)).size) ?_
               intro v3 w3 hown3 hchg3 hloc3
               have HO3 : Hid (OwnM w3 w.heap.size v3 (mirMs N (ms.take (k + 1)))) := OwnM.cat hown3 (by rw [HT.out, if_neg (by omega), mcells_append, HMQ.out]) (by rw [HT.out, if_neg (by omega), List.length_append]; rfl)
               have HB3 := Lib.hid (bl_own (bl_trans HB.out (bl_drew (bl_alloc (bl_alloc (bl_refl wr) _) _))) (own_bl HO.out (bl_drew (bl_alloc (bl_alloc (bl_refl wr) _) _))) hchg3)
               clear hown3 hchg3 hloc3))
          all_goals
            go_wp2
            go_roundw
            case rel => exact ⟨k + 1, by omega, by go_num, HO3.out, HB3.out⟩
            case measure => simp [intOf]; omega
        · have HMQ : Hid (mirM N (op, em, mm) = (3, (N : Int) - 1 - (ix em N : Nat), (N : Int) - 1 - (ix mm N : Nat))) := by
            show mirM N (op, em, mm) = _
            unfold mirM
            simp only [HQ.out]
            rfl
          have HE := Lib.hid (fun w => At_ix em N w hN0 (by omega))
          have HM := Lib.hid (fun w => At_ix mm N w hN0 (by omega))
          generalize ix em N = E at *
          generalize ix mm N = M at *
          have hwE : IntKind.i64.wrap (IntKind.i64.wrap ((N : Int) - 1) - (E : Int)) = (N : Int) - 1 - E := by rw [IntWalk.i64_in ((N : Int) - 1) (by omega), IntWalk.i64_in _ (by omega)]
          have hwM : IntKind.i64.wrap (IntKind.i64.wrap ((N : Int) - 1) - (M : Int)) = (N : Int) - 1 - M := by rw [IntWalk.i64_in ((N : Int) - 1) (by omega), IntWalk.i64_in _ (by omega)]
          go_wp2_with fail
          go_region_law (first
            | (go_simp; go_at_call_of 18 em; refine (HE.out _).mono ?_; rintro e w3 ⟨rfl, rfl⟩)
            | (go_simp; go_at_call_of 18 mm; refine (HM.out _).mono ?_; rintro e w3 ⟨rfl, rfl⟩)
            | (refine step_cat _ rfl (.tmp 21) (.tmp 44) _ rfl w.heap.size 27 i0 _ 3 24 Try.underlying22 hi hz0 hz1 hz2 rfl (by decide) u5 _ _ rfl (own_bl HO.out (bl_drew (bl_alloc (bl_alloc (bl_refl wr) _) _))) _ 1 (mcells [((3 : Int), (N : Int) - 1 - E, (N : Int) - 1 - M)]) rfl (sl_move ((cell_of_heap (heap_two_1 wr _ _)).trans (congrArg (fun x => some (Value.int .i64 x)) (by first | rfl | decide))) ((cell_of_heap (heap_two_1 wr _ _)).trans (congrArg (fun x => some (Value.int .i64 x)) (by first | rfl | exact hwE))) ((cell_of_heap (heap_two_1 wr _ _)).trans (congrArg (fun x => some (Value.int .i64 x)) (by first | rfl | exact hwM)))) (one_moves _) (by unfold maxLen; omega) (by omega) (Nat.le_trans HB.out.size (bl_drew (bl_alloc (bl_alloc (bl_refl wr) _) _)).size) ?_
               intro v3 w3 hown3 hchg3 hloc3
               have HO3 : Hid (OwnM w3 w.heap.size v3 (mirMs N (ms.take (k + 1)))) := OwnM.cat hown3 (by rw [HT.out, if_neg (by omega), mcells_append, HMQ.out]) (by rw [HT.out, if_neg (by omega), List.length_append]; rfl)
               have HB3 := Lib.hid (bl_own (bl_trans HB.out (bl_drew (bl_alloc (bl_alloc (bl_refl wr) _) _))) (own_bl HO.out (bl_drew (bl_alloc (bl_alloc (bl_refl wr) _) _))) hchg3)
               clear hown3 hchg3 hloc3))
          all_goals
            go_wp2
            go_roundw
            case rel => exact ⟨k + 1, by omega, by go_num, HO3.out, HB3.out⟩
            case measure => simp [intOf]; omega
        · have HMQ : Hid (mirM N (op, em, mm) = (2, (N : Int) - 1 - (ix em N : Nat), (N : Int) - 1 - (ix mm N : Nat))) := by
            show mirM N (op, em, mm) = _
            unfold mirM
            simp only [HQ.out]
            rfl
          have HE := Lib.hid (fun w => At_ix em N w hN0 (by omega))
          have HM := Lib.hid (fun w => At_ix mm N w hN0 (by omega))
          generalize ix em N = E at *
          generalize ix mm N = M at *
          have hwE : IntKind.i64.wrap (IntKind.i64.wrap ((N : Int) - 1) - (E : Int)) = (N : Int) - 1 - E := by rw [IntWalk.i64_in ((N : Int) - 1) (by omega), IntWalk.i64_in _ (by omega)]
          have hwM : IntKind.i64.wrap (IntKind.i64.wrap ((N : Int) - 1) - (M : Int)) = (N : Int) - 1 - M := by rw [IntWalk.i64_in ((N : Int) - 1) (by omega), IntWalk.i64_in _ (by omega)]
          go_wp2_with fail
          go_region_law (first
            | (go_simp; go_at_call_of 18 em; refine (HE.out _).mono ?_; rintro e w3 ⟨rfl, rfl⟩)
            | (go_simp; go_at_call_of 18 mm; refine (HM.out _).mono ?_; rintro e w3 ⟨rfl, rfl⟩)
            | (refine step_cat _ rfl (.tmp 21) (.tmp 44) _ rfl w.heap.size 27 i0 _ 3 24 Try.underlying22 hi hz0 hz1 hz2 rfl (by decide) u5 _ _ rfl (own_bl HO.out (bl_drew (bl_alloc (bl_alloc (bl_refl wr) _) _))) _ 1 (mcells [((2 : Int), (N : Int) - 1 - E, (N : Int) - 1 - M)]) rfl (sl_move ((cell_of_heap (heap_two_1 wr _ _)).trans (congrArg (fun x => some (Value.int .i64 x)) (by first | rfl | decide))) ((cell_of_heap (heap_two_1 wr _ _)).trans (congrArg (fun x => some (Value.int .i64 x)) (by first | rfl | exact hwE))) ((cell_of_heap (heap_two_1 wr _ _)).trans (congrArg (fun x => some (Value.int .i64 x)) (by first | rfl | exact hwM)))) (one_moves _) (by unfold maxLen; omega) (by omega) (Nat.le_trans HB.out.size (bl_drew (bl_alloc (bl_alloc (bl_refl wr) _) _)).size) ?_
               intro v3 w3 hown3 hchg3 hloc3
               have HO3 : Hid (OwnM w3 w.heap.size v3 (mirMs N (ms.take (k + 1)))) := OwnM.cat hown3 (by rw [HT.out, if_neg (by omega), mcells_append, HMQ.out]) (by rw [HT.out, if_neg (by omega), List.length_append]; rfl)
               have HB3 := Lib.hid (bl_own (bl_trans HB.out (bl_drew (bl_alloc (bl_alloc (bl_refl wr) _) _))) (own_bl HO.out (bl_drew (bl_alloc (bl_alloc (bl_refl wr) _) _))) hchg3)
               clear hown3 hchg3 hloc3))
          all_goals
            go_wp2
            go_roundw
            case rel => exact ⟨k + 1, by omega, by go_num, HO3.out, HB3.out⟩
            case measure => simp [intOf]; omega
    · obtain rfl : k = ms.length := by omega
      rw [List.take_length] at HO
      go_wp2
      go_ret
      exact ⟨_, rfl, HO.out, HB.out⟩

end Go.Proofs.Ytoodmppijlfaoaa
