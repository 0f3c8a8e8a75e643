/- The contracts of container/list, further: MoveToFront, MoveToBack, MoveAfter, MoveBefore, Prev. -/
import Derived.Test.YthgghafndabpfaaListMove
namespace Go.Proofs.Ythgghafndabpfaa
open Go.RowKit

section
variable {w w' : World} {l : Nat} {es : List Nat} {nx pv : Nat → Nat} {val : Nat → Value} {vs : List Value}

theorem Lk.pv_head (h : Lk l es nx pv) : pv l = (l :: es)[es.length] := by
  have h1 := h.path.get_last (by simp)
  have h2 := h.pn _ (List.getElem_mem (l := l :: es) (n := (l :: es).length - 1) (by simp))
  rw [h1] at h2
  exact h2
theorem Lk.nx_head (h : Lk l es nx pv) (h0 : 0 < es.length) : nx l = es[0] := h.path.get_succ 0 (by simpa using h0)
/-- The one ahead of the element at i. -/
theorem Lk.pv_at (h : Lk l es nx pv) {i : Nat} (hi : i < es.length) : pv es[i] = (l :: es)[i]'(by simp; omega) := by
  have h1 : nx ((l :: es)[i]'(by simp; omega)) = es[i] := h.path.get_succ i (by simpa using hi)
  rw [← h1]; exact h.pn _ (List.getElem_mem _)
/-- The last one. -/
theorem Lk.last (h : Lk l es nx pv) (h0 : 0 < es.length) : pv l = es[es.length - 1] := by
  rw [h.pv_head]
  obtain ⟨n, hn⟩ : ∃ n, es.length = n + 1 := ⟨es.length - 1, by omega⟩
  simp only [hn, List.getElem_cons_succ, Nat.add_sub_cancel]

/-- Put in at a place. -/
def put {α : Type} (xs : List α) (i : Nat) (x : α) : List α := xs.take i ++ x :: xs.drop i
theorem map_put {α β : Type} (f : α → β) (xs : List α) (i : Nat) (x : α) : (put xs i x).map f = put (xs.map f) i (f x) := by
  unfold put; rw [List.map_append, List.map_cons, List.map_take, List.map_drop]
theorem put_erase {α : Type} (xs : List α) {i : Nat} (hi : i < xs.length) : put (xs.eraseIdx i) i xs[i] = xs := by
  unfold put
  have h1 : (xs.take i).length = i := by rw [List.length_take]; omega
  rw [List.eraseIdx_eq_take_drop_succ, List.take_append_of_le_length (by omega), List.take_of_length_le (by omega), List.drop_append_of_le_length (by omega), List.drop_of_length_le (by omega : (xs.take i).length ≤ i), List.nil_append, ← List.drop_eq_getElem_cons hi, List.take_append_drop]
theorem put_split {l : Nat} {es : List Nat} {j : Nat} (hj : j ≤ es.length) (e : Nat) :
    l :: es = (l :: es).take j ++ (l :: es)[j]'(by simp; omega) :: es.drop j ∧ l :: put es j e = (l :: es).take j ++ (l :: es)[j]'(by simp; omega) :: e :: es.drop j := by
  have h1 : j < (l :: es).length := by simp; omega
  have h2 : (l :: es).take j ++ [(l :: es)[j]] = l :: es.take j := by rw [← List.take_succ_eq_append_getElem h1]; rfl
  constructor
  · have h3 := List.drop_eq_getElem_cons h1
    rw [List.drop_succ_cons] at h3
    rw [← h3, List.take_append_drop]
  · unfold put
    rw [← List.cons_append, ← h2, List.append_assoc]; rfl

/-- move, to a place: behind the one ahead of it. -/
theorem move_to (h : LSt w l es nx pv val) {i : Nat} (hi : i < es.length) {j a : Nat} (hj : j ≤ (es.eraseIdx i).length) (ha : a = (l :: es.eraseIdx i)[j]'(by simp; omega)) :
    Calls Try.prog 32 #[P l, P es[i], P a] w fun r w' => r = .returned (.tuple #[]) ∧ LC w' l (put (es.eraseIdx i) j es[i]) (put ((es.map val).eraseIdx i) j (val es[i])) ∧ Chg (· ∈ l :: es) w w' := by
  subst ha
  obtain ⟨h1, h2⟩ := put_split (l := l) hj es[i]
  have := move_st h hi _ _ h1 _ h2
  rw [map_put, map_eraseIdx'] at this
  exact this

theorem LSt.eql_elem (h : LSt w l es nx pv val) {a b : Nat} (ha : a ∈ l :: es) (hb : b ∈ l :: es) : (binOp .eql 40 (P a) (P b)).run Try.prog w = .ok (.bool (a == b)) w := by
  obtain ⟨jj, hte, hsz⟩ := elemSize
  by_cases hab : a = b
  · subst hab
    rw [(run_equal_same a w Try.underlying40 hte).2]; simp
  · obtain ⟨cs, t, e1⟩ := h.blk ha
    obtain ⟨cs2, t2, e2⟩ := h.blk hb
    rw [(run_equal_other Try.underlying40 hte hsz hab e1 e2).2]
    have : (a == b) = false := by rw [beq_eq_false_iff_ne]; exact hab
    rw [this]
theorem neq_list (b : Nat) (w : World) : (binOp .neq 37 (P b) (P b)).run Try.prog w = .ok (.bool false) w := by
  obtain ⟨jj, hte, _⟩ := listSize
  exact (run_equal_same b w Try.underlying37 hte).1

set_option maxRecDepth 100000 in
set_option maxHeartbeats 400000 in
theorem moveToBack_lc (h : LC w l es vs) {i e : Nat} {v : Value} (he : es[i]? = some e) (hv : vs[i]? = some v) :
    Calls Try.prog 19 #[P l, P e] w fun r w' => r = .returned (.tuple #[]) ∧ LC w' l (es.eraseIdx i ++ [e]) (vs.eraseIdx i ++ [v]) ∧ Chg (· ∈ l :: es) w w' := by
  obtain ⟨nx, pv, val, hst, rfl⟩ := h
  obtain ⟨hi, rfl⟩ := List.getElem?_eq_some_iff.1 he
  obtain ⟨_, rfl⟩ := List.getElem?_eq_some_iff.1 hv
  simp only [List.getElem_map]
  have c2 := (hst.own _ (List.getElem_mem hi)).1
  have c1 := (hst.lk l (by simp)).2
  have hq := neq_list l w
  have hq2 := hst.eql_elem (hst.pvD (b := l) (by simp)) (b := es[i]) (by simp)
  have hlen : (es.eraseIdx i).length = es.length - 1 := by rw [List.length_eraseIdx, if_pos hi]
  by_cases hlast : pv l = es[i]
  · have hb : (pv l == es[i]) = true := by rw [hlast]; simp
    rw [hb] at hq2
    have hil : i = es.length - 1 := by
      rw [hst.pure.last (by omega)] at hlast
      exact ((List.getElem_inj (List.nodup_cons.1 hst.nodup).2).1 hlast).symm
    have e1 : es.eraseIdx i ++ [es[i]] = es := by
      have := put_erase es hi
      unfold put at this
      rw [List.take_of_length_le (by omega), List.drop_of_length_le (by omega)] at this
      exact this
    have e2 : (es.map val).eraseIdx i ++ [val es[i]] = es.map val := by
      rw [← map_eraseIdx']; exact (List.map_append (l₂ := [es[i]])).symm.trans (congrArg _ e1)
    rw [e1, e2]
    have HS := Lib.hid hst
    clear hst he hv hlen e1 e2 hil hlast hb
    generalize es[i] = e at *
    generalize pv l = z at *
    go_enter Try.func19, Try.ntmps19
    go_wp2
    refine bodyPost_ret (results_none rfl _ _ _) rfl ?_
    exact ⟨rfl, ⟨_, _, _, HS.out, rfl⟩, Chg.refl _ _⟩
  · have hb : (pv l == es[i]) = false := by rw [beq_eq_false_iff_ne]; exact hlast
    rw [hb] at hq2
    have ha : pv l = (l :: es.eraseIdx i)[(es.eraseIdx i).length]'(by simp) := by
      rw [← (hst.pure.out hi).pv_head, upd_other _ _ (fun x => hlast (by rw [x]; exact hst.pn _ (by simp)))]
    have HC := Lib.hid (move_to hst hi (Nat.le_refl _) ha)
    have e1 : ∀ (α : Type) (xs : List α) (k : Nat) (x : α), xs.length ≤ k → put xs k x = xs ++ [x] := fun α xs k x hk => by
      unfold put; rw [List.take_of_length_le hk, List.drop_of_length_le hk]
    rw [e1 _ _ _ _ (Nat.le_refl _), e1 _ _ _ _ (by rw [← map_eraseIdx']; simp)] at HC
    clear hst he hv hlen e1 hlast hb ha
    generalize es[i] = e at *
    generalize pv l = z at *
    go_enter Try.func19, Try.ntmps19
    go_wp2_with fail
    refine HC.out.mono ?_
    rintro _ w2 ⟨rfl, h2, c2⟩
    have H2 := Lib.hid h2
    have C2 := Lib.hid c2
    clear h2 c2
    go_wp2
    go_end0
    exact ⟨rfl, H2.out, C2.out⟩

set_option maxRecDepth 100000 in
set_option maxHeartbeats 400000 in
theorem moveToFront_lc (h : LC w l es vs) {i e : Nat} {v : Value} (he : es[i]? = some e) (hv : vs[i]? = some v) :
    Calls Try.prog 18 #[P l, P e] w fun r w' => r = .returned (.tuple #[]) ∧ LC w' l (e :: es.eraseIdx i) (v :: vs.eraseIdx i) ∧ Chg (· ∈ l :: es) w w' := by
  obtain ⟨nx, pv, val, hst, rfl⟩ := h
  obtain ⟨hi, rfl⟩ := List.getElem?_eq_some_iff.1 he
  obtain ⟨_, rfl⟩ := List.getElem?_eq_some_iff.1 hv
  simp only [List.getElem_map]
  have c2 := (hst.own _ (List.getElem_mem hi)).1
  have c1 := (hst.lk l (by simp)).1
  have hq := neq_list l w
  have hq2 := hst.eql_elem (hst.nxD (b := l) (by simp)) (b := es[i]) (by simp)
  by_cases hlast : nx l = es[i]
  · have hb : (nx l == es[i]) = true := by rw [hlast]; simp
    rw [hb] at hq2
    have hil : 0 = i := by
      rw [hst.pure.nx_head (by omega)] at hlast
      exact (List.getElem_inj (List.nodup_cons.1 hst.nodup).2).1 hlast
    subst hil
    have e1 : es[0] :: es.eraseIdx 0 = es := by
      have := put_erase es hi
      unfold put at this
      simpa using this
    have e2 : val es[0] :: (es.map val).eraseIdx 0 = es.map val := by
      rw [← map_eraseIdx']; exact (List.map_cons).symm.trans (congrArg _ e1)
    rw [e1, e2]
    have HS := Lib.hid hst
    clear hst he hv e1 e2 hlast hb
    generalize es[0] = e at *
    generalize nx l = z at *
    go_enter Try.func18, Try.ntmps18
    go_wp2
    refine bodyPost_ret (results_none rfl _ _ _) rfl ?_
    exact ⟨rfl, ⟨_, _, _, HS.out, rfl⟩, Chg.refl _ _⟩
  · have hb : (nx l == es[i]) = false := by rw [beq_eq_false_iff_ne]; exact hlast
    rw [hb] at hq2
    have HC := Lib.hid (move_to hst hi (Nat.zero_le _) (a := l) rfl)
    clear hst he hv hlast hb
    generalize es[i] = e at *
    generalize nx l = z at *
    go_enter Try.func18, Try.ntmps18
    go_wp2_with fail
    refine HC.out.mono ?_
    rintro _ w2 ⟨rfl, h2, c2⟩
    have H2 := Lib.hid h2
    have C2 := Lib.hid c2
    clear h2 c2
    go_wp2
    go_end0
    exact ⟨rfl, H2.out, C2.out⟩

set_option maxRecDepth 100000 in
set_option maxHeartbeats 400000 in
theorem moveAfter_lc (h : LC w l es vs) {i j e m : Nat} {v : Value} (he : es[i]? = some e) (hv : vs[i]? = some v) (hm : (es.eraseIdx i)[j]? = some m) :
    Calls Try.prog 20 #[P l, P e, P m] w fun r w' => r = .returned (.tuple #[]) ∧ LC w' l (put (es.eraseIdx i) (j + 1) e) (put (vs.eraseIdx i) (j + 1) v) ∧ Chg (· ∈ l :: es) w w' := by
  obtain ⟨nx, pv, val, hst, rfl⟩ := h
  obtain ⟨hi, rfl⟩ := List.getElem?_eq_some_iff.1 he
  obtain ⟨_, rfl⟩ := List.getElem?_eq_some_iff.1 hv
  obtain ⟨hj, rfl⟩ := List.getElem?_eq_some_iff.1 hm
  simp only [List.getElem_map]
  have hmm := (mem_eraseIdx (List.nodup_cons.1 hst.nodup).2 hi _).1 (List.getElem_mem hj)
  have c2 := (hst.own _ (List.getElem_mem hi)).1
  have c3 := (hst.own _ hmm.1).1
  have hq := neq_list l w
  have hq2 := hst.eql_elem (a := es[i]) (by simp) (List.mem_cons_of_mem _ hmm.1)
  have hb : (es[i] == (es.eraseIdx i)[j]) = false := by rw [beq_eq_false_iff_ne]; exact hmm.2.symm
  rw [hb] at hq2
  have HC := Lib.hid (move_to hst hi (j := j + 1) (a := (es.eraseIdx i)[j]) (by omega) rfl)
  clear hst he hv hb hmm hm
  generalize (es.eraseIdx i)[j] = m at *
  generalize es[i] = e at *
  go_enter Try.func20, Try.ntmps20
  go_wp2_with fail
  refine HC.out.mono ?_
  rintro _ w2 ⟨rfl, h2, c2⟩
  have H2 := Lib.hid h2
  have C2 := Lib.hid c2
  clear h2 c2
  go_wp2
  go_end0
  exact ⟨rfl, H2.out, C2.out⟩

set_option maxRecDepth 100000 in
set_option maxHeartbeats 400000 in
theorem moveAfter_same (h : LC w l es vs) {e : Nat} (he : e ∈ es) :
    Calls Try.prog 20 #[P l, P e, P e] w fun r w' => r = .returned (.tuple #[]) ∧ w = w' := by
  obtain ⟨nx, pv, val, hst, rfl⟩ := h
  have c2 := (hst.own _ he).1
  have hq := neq_list l w
  have hq2 := hst.eql_elem (a := e) (b := e) (by simp [he]) (by simp [he])
  rw [beq_self_eq_true] at hq2
  clear hst he
  go_enter Try.func20, Try.ntmps20
  go_wp2
  refine bodyPost_ret (results_none rfl _ _ _) rfl ?_
  exact ⟨rfl, rfl⟩

set_option maxRecDepth 100000 in
set_option maxHeartbeats 400000 in
theorem move_same (l e : Nat) (w : World) :
    Calls Try.prog 32 #[P l, P e, P e] w fun r w' => r = .returned (.tuple #[]) ∧ w = w' := by
  obtain ⟨jj, hte, _⟩ := elemSize
  have hq := (run_equal_same e w Try.underlying40 hte).2
  clear hte
  go_enter Try.func32, Try.ntmps32
  go_wp2
  refine bodyPost_ret (results_none rfl _ _ _) rfl ?_
  exact ⟨rfl, rfl⟩

set_option maxRecDepth 100000 in
set_option maxHeartbeats 400000 in
theorem moveBefore_lc (h : LC w l es vs) {i j e m : Nat} {v : Value} (he : es[i]? = some e) (hv : vs[i]? = some v) (hm : (es.eraseIdx i)[j]? = some m) :
    Calls Try.prog 21 #[P l, P e, P m] w fun r w' => r = .returned (.tuple #[]) ∧ LC w' l (put (es.eraseIdx i) j e) (put (vs.eraseIdx i) j v) ∧ Chg (· ∈ l :: es) w w' := by
  obtain ⟨nx, pv, val, hst, rfl⟩ := h
  obtain ⟨hi, rfl⟩ := List.getElem?_eq_some_iff.1 he
  obtain ⟨_, rfl⟩ := List.getElem?_eq_some_iff.1 hv
  obtain ⟨hj, rfl⟩ := List.getElem?_eq_some_iff.1 hm
  simp only [List.getElem_map]
  have hnd := (List.nodup_cons.1 hst.nodup).2
  have hmm := (mem_eraseIdx hnd hi _).1 (List.getElem_mem hj)
  have c2 := (hst.own _ (List.getElem_mem hi)).1
  have c3 := (hst.own _ hmm.1).1
  have c4 := (hst.lk _ (List.mem_cons_of_mem _ hmm.1)).2
  have hq := neq_list l w
  have hq2 := hst.eql_elem (a := es[i]) (by simp) (List.mem_cons_of_mem _ hmm.1)
  have hb : (es[i] == (es.eraseIdx i)[j]) = false := by rw [beq_eq_false_iff_ne]; exact hmm.2.symm
  rw [hb] at hq2
  have HC : Hid (Calls Try.prog 32 #[P l, P es[i], P (pv (es.eraseIdx i)[j])] w fun r w' => r = .returned (.tuple #[]) ∧ LC w' l (put (es.eraseIdx i) j es[i]) (put ((es.map val).eraseIdx i) j (val es[i])) ∧ Chg (· ∈ l :: es) w w') := by
    by_cases hp : pv (es.eraseIdx i)[j] = es[i]
    · -- e stands ahead of m already
      have hji : j = i := by
        have h1 := hst.np _ (List.mem_cons_of_mem _ hmm.1)
        rw [hp] at h1
        have hi1 : i + 1 < es.length := by
          apply Nat.lt_of_not_le; intro hge
          have h2 := hst.pure.last (by omega)
          have h3 : es.length - 1 = i := by omega
          simp only [h3] at h2
          have h4 := hst.np l (by simp)
          rw [h2, h1] at h4
          exact (List.nodup_cons.1 hst.nodup).1 (h4 ▸ hmm.1)
        have h2 : nx es[i] = es[i + 1] := hst.path.get_succ (i + 1) (by simpa using hi1)
        rw [h2] at h1
        have h3 : (es.eraseIdx i)[i]? = some es[i + 1] := by
          rw [List.getElem?_eraseIdx, if_neg (by omega)]; exact List.getElem?_eq_getElem hi1
        obtain ⟨h4, h5⟩ := List.getElem?_eq_some_iff.1 h3
        rw [← h5] at h1
        exact ((List.getElem_inj (hnd.eraseIdx i)).1 h1).symm
      rw [hp]
      refine (move_same l es[i] w).mono ?_
      rintro r w1 ⟨rfl, rfl⟩
      subst hji
      refine ⟨rfl, ?_, Chg.refl _ _⟩
      have e1 := put_erase es hi
      have e2 := congrArg (List.map val) e1
      rw [map_put, map_eraseIdx'] at e2
      rw [e1, e2]
      exact ⟨_, _, _, hst, rfl⟩
    · refine move_to hst hi (Nat.le_of_lt hj) ?_
      rw [← (hst.pure.out hi).pv_at hj, upd_other _ _ ?_]
      intro x
      exact hp (by rw [x]; exact hst.pn _ (by simp))
  clear hst he hv hb hmm hm
  generalize hg : (es.eraseIdx i)[j] = m at *
  clear hg
  generalize pv m = z at *
  generalize es[i] = e at *
  go_enter Try.func21, Try.ntmps21
  go_wp2_with fail
  refine HC.out.mono ?_
  rintro _ w2 ⟨rfl, h2, c2⟩
  have H2 := Lib.hid h2
  have C2 := Lib.hid c2
  clear h2 c2
  go_wp2
  go_end0
  exact ⟨rfl, H2.out, C2.out⟩

set_option maxRecDepth 100000 in
set_option maxHeartbeats 400000 in
theorem moveBefore_same (h : LC w l es vs) {e : Nat} (he : e ∈ es) :
    Calls Try.prog 21 #[P l, P e, P e] w fun r w' => r = .returned (.tuple #[]) ∧ w = w' := by
  obtain ⟨nx, pv, val, hst, rfl⟩ := h
  have c2 := (hst.own _ he).1
  have hq := neq_list l w
  have hq2 := hst.eql_elem (a := e) (b := e) (by simp [he]) (by simp [he])
  rw [beq_self_eq_true] at hq2
  clear hst he
  go_enter Try.func21, Try.ntmps21
  go_wp2
  refine bodyPost_ret (results_none rfl _ _ _) rfl ?_
  exact ⟨rfl, rfl⟩

end

end Go.Proofs.Ythgghafndabpfaa
