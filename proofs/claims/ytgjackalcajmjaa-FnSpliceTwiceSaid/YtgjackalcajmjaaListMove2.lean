/- The contracts of container/list, further: MoveToFront, MoveToBack, MoveAfter, MoveBefore, Prev. -/
import Derived.Test.YtgjackalcajmjaaListMove
namespace Go.Proofs.Ytgjackalcajmjaa
open Go.RowKit

section
variable {w w' : World} {l : Nat} {es : List Nat} {nx pv : Nat → Nat} {val : Nat → Value} {vs : List Value}

theorem Lk.pv_head (h : Lk l es nx pv) : pv l = (l :: es)[es.length] := by
  have h1 := h.path.get_last (by simp)
  have h2 := h.pn _ (List.getElem_mem (l := l :: es) (n := (l :: es).length - 1) (by simp))
  rw [h1] at h2
  exact h2
theorem Lk.nx_head (h : Lk l es nx pv) (h0 : 0 < es.length) : nx l = es[0] := h.path.get_succ 0 (by simpa using h0)
/-- The one ahead of the element at i. -/
theorem Lk.pv_at (h : Lk l es nx pv) {i : Nat} (hi : i < es.length) : pv es[i] = (l :: es)[i]'(by simp; omega) := by
  have h1 : nx ((l :: es)[i]'(by simp; omega)) = es[i] := h.path.get_succ i (by simpa using hi)
  rw [← h1]; exact h.pn _ (List.getElem_mem _)
/-- The last one. -/
theorem Lk.last (h : Lk l es nx pv) (h0 : 0 < es.length) : pv l = es[es.length - 1] := by
  rw [h.pv_head]
  obtain ⟨n, hn⟩ : ∃ n, es.length = n + 1 := ⟨es.length - 1, by omega⟩
  simp only [hn, List.getElem_cons_succ, Nat.add_sub_cancel]

/-- Put in at a place. -/
def put {α : Type} (xs : List α) (i : Nat) (x : α) : List α := xs.take i ++ x :: xs.drop i
theorem map_put {α β : Type} (f : α → β) (xs : List α) (i : Nat) (x : α) : (put xs i x).map f = put (xs.map f) i (f x) := by
  unfold put; rw [List.map_append, List.map_cons, List.map_take, List.map_drop]
theorem put_erase {α : Type} (xs : List α) {i : Nat} (hi : i < xs.length) : put (xs.eraseIdx i) i xs[i] = xs := by
  unfold put
  have h1 : (xs.take i).length = i := by rw [List.length_take]; omega
  rw [List.eraseIdx_eq_take_drop_succ, List.take_append_of_le_length (by omega), List.take_of_length_le (by omega), List.drop_append_of_le_length (by omega), List.drop_of_length_le (by omega : (xs.take i).length ≤ i), List.nil_append, ← List.drop_eq_getElem_cons hi, List.take_append_drop]
theorem put_split {l : Nat} {es : List Nat} {j : Nat} (hj : j ≤ es.length) (e : Nat) :
    l :: es = (l :: es).take j ++ (l :: es)[j]'(by simp; omega) :: es.drop j ∧ l :: put es j e = (l :: es).take j ++ (l :: es)[j]'(by simp; omega) :: e :: es.drop j := by
  have h1 : j < (l :: es).length := by simp; omega
  have h2 : (l :: es).take j ++ [(l :: es)[j]] = l :: es.take j := by rw [← List.take_succ_eq_append_getElem h1]; rfl
  constructor
  · have h3 := List.drop_eq_getElem_cons h1
    rw [List.drop_succ_cons] at h3
    rw [← h3, List.take_append_drop]
  · unfold put
    rw [← List.cons_append, ← h2, List.append_assoc]; rfl

/-- move, to a place: behind the one ahead of it. -/
theorem move_to (h : LSt w l es nx pv val) {i : Nat} (hi : i < es.length) {j a : Nat} (hj : j ≤ (es.eraseIdx i).length) (ha : a = (l :: es.eraseIdx i)[j]'(by simp; omega)) :
    Calls Try.prog 62 #[P l, P es[i], P a] w fun r w' => r = .returned (.tuple #[]) ∧ LC w' l (put (es.eraseIdx i) j es[i]) (put ((es.map val).eraseIdx i) j (val es[i])) ∧ Chg (· ∈ l :: es) w w' := by
  subst ha
  obtain ⟨h1, h2⟩ := put_split (l := l) hj es[i]
  have := move_st h hi _ _ h1 _ h2
  rw [map_put, map_eraseIdx'] at this
  exact this

theorem LSt.eql_elem (h : LSt w l es nx pv val) {a b : Nat} (ha : a ∈ l :: es) (hb : b ∈ l :: es) : (binOp .eql 41 (P a) (P b)).run Try.prog w = .ok (.bool (a == b)) w := by
  obtain ⟨jj, hte, hsz⟩ := elemSize
  by_cases hab : a = b
  · subst hab
    rw [(run_equal_same a w Try.underlying41 hte).2]; simp
  · obtain ⟨cs, t, e1⟩ := h.blk ha
    obtain ⟨cs2, t2, e2⟩ := h.blk hb
    rw [(run_equal_other Try.underlying41 hte hsz hab e1 e2).2]
    have : (a == b) = false := by rw [beq_eq_false_iff_ne]; exact hab
    rw [this]
theorem neq_list (b : Nat) (w : World) : (binOp .neq 39 (P b) (P b)).run Try.prog w = .ok (.bool false) w := by
  obtain ⟨jj, hte, _⟩ := listSize
  exact (run_equal_same b w Try.underlying39 hte).1

set_option maxHeartbeats 400000 in
theorem moveToBack_lc (h : LC w l es vs) {i e : Nat} {v : Value} (he : es[i]? = some e) (hv : vs[i]? = some v) :
    Calls Try.prog 35 #[P l, P e] w fun r w' => r = .returned (.tuple #[]) ∧ LC w' l (es.eraseIdx i ++ [e]) (vs.eraseIdx i ++ [v]) ∧ Chg (· ∈ l :: es) w w' := by
  obtain ⟨nx, pv, val, hst, rfl⟩ := h
  obtain ⟨hi, rfl⟩ := List.getElem?_eq_some_iff.1 he
  obtain ⟨_, rfl⟩ := List.getElem?_eq_some_iff.1 hv
  simp only [List.getElem_map]
  have c2 := (hst.own _ (List.getElem_mem hi)).1
  have c1 := (hst.lk l (by simp)).2
  have hq := neq_list l w
  have hq2 := hst.eql_elem (hst.pvD (b := l) (by simp)) (b := es[i]) (by simp)
  have hlen : (es.eraseIdx i).length = es.length - 1 := by rw [List.length_eraseIdx, if_pos hi]
  by_cases hlast : pv l = es[i]
  · have hb : (pv l == es[i]) = true := by rw [hlast]; simp
    rw [hb] at hq2
    have hil : i = es.length - 1 := by
      rw [hst.pure.last (by omega)] at hlast
      exact ((List.getElem_inj (List.nodup_cons.1 hst.nodup).2).1 hlast).symm
    have e1 : es.eraseIdx i ++ [es[i]] = es := by
      have := put_erase es hi
      unfold put at this
      rw [List.take_of_length_le (by omega), List.drop_of_length_le (by omega)] at this
      exact this
    have e2 : (es.map val).eraseIdx i ++ [val es[i]] = es.map val := by
      rw [← map_eraseIdx']; exact (List.map_append (l₂ := [es[i]])).symm.trans (congrArg _ e1)
    rw [e1, e2]
    have HS := Lib.hid hst
    clear hst he hv hlen e1 e2 hil hlast hb
    generalize es[i] = e at *
    generalize pv l = z at *
    go_enter Try.func35, Try.ntmps35
    go_wp2
    refine bodyPost_ret (results_none rfl _ _ _) rfl ?_
    exact ⟨rfl, ⟨_, _, _, HS.out, rfl⟩, Chg.refl _ _⟩
  · have hb : (pv l == es[i]) = false := by rw [beq_eq_false_iff_ne]; exact hlast
    rw [hb] at hq2
    have ha : pv l = (l :: es.eraseIdx i)[(es.eraseIdx i).length]'(by simp) := by
      rw [← (hst.pure.out hi).pv_head, upd_other _ _ (fun x => hlast (by rw [x]; exact hst.pn _ (by simp)))]
    have HC := Lib.hid (move_to hst hi (Nat.le_refl _) ha)
    have e1 : ∀ (α : Type) (xs : List α) (k : Nat) (x : α), xs.length ≤ k → put xs k x = xs ++ [x] := fun α xs k x hk => by
      unfold put; rw [List.take_of_length_le hk, List.drop_of_length_le hk]
    rw [e1 _ _ _ _ (Nat.le_refl _), e1 _ _ _ _ (by rw [← map_eraseIdx']; simp)] at HC
    clear hst he hv hlen e1 hlast hb ha
    generalize es[i] = e at *
    generalize pv l = z at *
    go_enter Try.func35, Try.ntmps35
    go_wp2_with fail
    refine HC.out.mono ?_
    rintro _ w2 ⟨rfl, h2, c2⟩
    have H2 := Lib.hid h2
    have C2 := Lib.hid c2
    clear h2 c2
    go_wp2
    go_end0
    exact ⟨rfl, H2.out, C2.out⟩




set_option maxHeartbeats 400000 in
theorem eprev_some (h : LC w l es vs) {i : Nat} (hi : i + 1 < es.length) : Calls Try.prog 51 #[P es[i + 1]] w fun r w' => r = .returned (P (es[i]'(by omega))) ∧ w = w' := by
  obtain ⟨nx, pv, val, hst, hv⟩ := h
  have hm : es[i + 1] ∈ es := List.getElem_mem _
  have hm2 : es[i]'(by omega) ∈ es := List.getElem_mem _
  have c0 := (hst.lk es[i + 1] (by simp)).2
  rw [hst.pure.pv_at hi, List.getElem_cons_succ] at c0
  have c2 := (hst.own _ hm).1
  have hne := hst.neq_head hm2
  clear hst hv hm hm2
  generalize es[i]'(by omega) = a at *
  generalize es[i + 1] = b at *
  go_enter Try.func51, Try.ntmps51
  go_wp2
  go_ret
  exact ⟨rfl, rfl⟩
set_option maxHeartbeats 400000 in
theorem eprev_none (h : LC w l es vs) (h0 : 0 < es.length) : Calls Try.prog 51 #[P es[0]] w fun r w' => r = .returned (.pointer none) ∧ w = w' := by
  obtain ⟨nx, pv, val, hst, hv⟩ := h
  have hm : es[0] ∈ es := List.getElem_mem _
  have c0 := (hst.lk es[0] (by simp)).2
  rw [hst.pure.pv_at h0, List.getElem_cons_zero] at c0
  have c2 := (hst.own _ hm).1
  have hne := neq_self l w
  clear hst hv hm
  generalize es[0] = a at *
  go_enter Try.func51, Try.ntmps51
  go_wp2
  go_ret
  exact ⟨rfl, rfl⟩
end

end Go.Proofs.Ytgjackalcajmjaa
