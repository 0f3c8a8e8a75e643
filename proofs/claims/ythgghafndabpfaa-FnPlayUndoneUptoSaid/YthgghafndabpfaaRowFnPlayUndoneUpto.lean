/- The given statement on FnPlayUndone, proved: for every input that can be read the law returns true, and its arguments are as they were. -/
import Derived.Test.YthgghafndabpfaaOpen
import Derived.JoinedCond
import Derived.Test.YthgghafndabpfaaUndone
namespace Go.Proofs.Ythgghafndabpfaa
open Go.ChangeShapes Go.WideShapes Go.ChangeAt Go.RowKit Go.Deep Go.Joins

set_option maxRecDepth 100000 in
theorem fnPlayUndoneUpto_lifted (os : Os) (started : os.Started) (H : Type) (enc : TypeId × Value → H) (F : Stop.Interp) :
    ReturnsInHanded {} Try.checked os 3 .any ((Rows.OpenSpec.upto Rows.fnPlayUndoneSpec).pre6 enc Try.prog Try.f3 Rows.fnPlayUndoneUptoRow.domain false) (((Rows.OpenSpec.upto Rows.fnPlayUndoneSpec).at F).post enc Try.prog Try.f3 false true false false) := by
  refine returnsInHanded_of_cond (C := Try.checked) (s := Rows.OpenSpec.upto Rows.fnPlayUndoneSpec) (k := Rows.uptoSmall) rfl Try.own started (by kernel_rfl) Try.func3
    (OpenSpec.witness (enc := enc) (C := Try.checked) (s := Rows.OpenSpec.upto Rows.fnPlayUndoneSpec) (k := Rows.uptoSmall) rfl false ⟨#[], #[.int .i64 0, .slice none 0 0], []⟩ 8 (by kernel_rfl) (by kernel_rfl) (by kernel_rfl)
      (x := ([.lit (.int .i64 0), .nil], [], [])) (by kernel_rfl) rfl (by kernel_rfl)) ?_
  intro W base args ds gs before hval0 hW _ hk0 _
  have hk : Rows.uptoBulkAll (ds ++ gs) ≤ 1048576 := of_decide_eq_true hk0
  clear hk0
  have hval : ∀ (j : Nat) t v, Try.f3.params[j]? = some t → args[j]? = some v → Value.okWide Try.prog W .any base t v := hval0
  have hW' := hW
  obtain ⟨p, q, hA0, hV, rfl, hfz, hnd⟩ := hW
  have hA : DataW.TrodAll enc Try.prog W 0 (fun _ => true) true Try.f3.params.toList args.toList ds p := hA0
  rw [Try.params3] at hA hval
  obtain ⟨v0, vs0, d0, ds0, p0, q0, hargs, rfl, rfl, h0, r00⟩ := trodAll_cons hA
  obtain ⟨v1, vs1, d1, ds1, p1, q1, rfl, rfl, rfl, h1, r01⟩ := trodAll_cons r00
  obtain ⟨rfl, rfl, rfl⟩ := trodAll_nil r01
  obtain rfl : args = #[v0, v1] := by cases args; simp_all
  obtain ⟨rfl, rfl⟩ := trodVars_none hV
  have k0 := h0
  have lt0 : ∀ x ∈ p0, x.block < W.heap.size := by obtain ⟨m, hm⟩ := k0; exact DataW.trod_lt m _ _ _ hm
  obtain ⟨a0, e0, _, _, b0⟩ := open_int Try.underlying3 (hval 0 3 v0 rfl rfl) h0
  subst e0
  have k1 := h1
  have lt1 : ∀ x ∈ p1, x.block < W.heap.size := by obtain ⟨m, hm⟩ := k1; exact DataW.trod_lt m _ _ _ hm
  obtain ⟨xs1, rd1, fm1⟩ := open_movesS Try.underlying22 Try.underlying27 rfl rfl rfl rfl rfl rfl (by kernel_rfl) (by kernel_rfl) (hval 1 22 v1 rfl rfl) h1
  simp only [List.append_nil, Rows.uptoBulkAll] at hk
  have up1 : xs1.length ≤ 1048576 := by have h := fm1.upto; omega
  clear hA0 hval0 hA hval
  refine (playUndone_any a0 v1 xs1 W rd1 up1).mono fun e W' ⟨he, bel⟩ => ?_
  subst he
  exact ⟨_, rfl, _, _, _, [], _, [], hW', trodAll_mk1 (shut_bool Try.underlying4 _), (trodAll_cons_mk (Below.trod Try.laidOut (by kernel_rfl) (of_decide_eq_true (by kernel_rfl)) k0 bel lt0) (trodAll_cons_mk (Below.trod Try.laidOut (by kernel_rfl) (of_decide_eq_true (by kernel_rfl)) k1 bel lt1) trodAll_mk0)), rfl, bel.frame _, fun h => by cases h⟩

theorem fnPlayUndoneUpto_said : Rows.FnPlayUndoneUptoSaid :=
  OpenClaim.holds_of_cond 3 Try.f3 rfl rfl rfl rfl rfl rfl rfl ⟨rfl, rfl, rfl, rfl, rfl⟩ rfl rfl rfl rfl rfl (by kernel_rfl) Try.func3 (by kernel_rfl)
    (of_decide_eq_true (by kernel_rfl)) (by unfold Func.isWrapper; first | (rw [if_pos (by decide +kernel)]; kernel_rfl) | (rw [if_neg (by decide +kernel)]; exact ⟨rfl, rfl⟩))
    (fun os started H enc _ F => fnPlayUndoneUpto_lifted os started H enc F)

#print axioms fnPlayUndoneUpto_said

end Go.Proofs.Ythgghafndabpfaa
