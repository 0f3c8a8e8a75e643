/- The given statement on FnGatherBoth, proved: for every input that can be read the law returns true, and its arguments are as they were. -/
import Derived.Test.YtgjackalcajmjaaOpen
import Derived.JoinedCond
import Derived.Test.YtgjackalcajmjaaGatherBoth
namespace Go.Proofs.Ytgjackalcajmjaa
open Go.ChangeShapes Go.WideShapes Go.ChangeAt Go.RowKit Go.Deep Go.Joins

set_option maxRecDepth 100000 in
theorem fnGatherBothUpto_lifted (os : Os) (started : os.Started) (H : Type) (enc : TypeId × Value → H) (F : Stop.Interp) :
    ReturnsInHanded {} Try.checked os 5 .any ((Rows.OpenSpec.upto Rows.fnGatherBothSpec).pre6 enc Try.prog Try.f5 Rows.fnGatherBothUptoRow.domain false) (((Rows.OpenSpec.upto Rows.fnGatherBothSpec).at F).post enc Try.prog Try.f5 false true false false) := by
  refine returnsInHanded_of_cond (C := Try.checked) (s := Rows.OpenSpec.upto Rows.fnGatherBothSpec) (k := Rows.uptoSmall) rfl Try.own started (by kernel_rfl) Try.func5
    (OpenSpec.witness (enc := enc) (C := Try.checked) (s := Rows.OpenSpec.upto Rows.fnGatherBothSpec) (k := Rows.uptoSmall) rfl false ⟨#[], #[.slice none 0 0], []⟩ 8 (by kernel_rfl) (by kernel_rfl) (by kernel_rfl)
      (x := ([.nil], [], [])) (by kernel_rfl) rfl (by kernel_rfl)) ?_
  intro W base args ds gs before hval0 hW _ hk0 _
  have hk : Rows.uptoBulkAll (ds ++ gs) ≤ 1048576 := of_decide_eq_true hk0
  clear hk0
  have hval : ∀ (j : Nat) t v, Try.f5.params[j]? = some t → args[j]? = some v → Value.okWide Try.prog W .any base t v := hval0
  have hW' := hW
  obtain ⟨p, q, hA0, hV, rfl, hfz, hnd⟩ := hW
  have hA : DataW.TrodAll enc Try.prog W 0 (fun _ => true) true Try.f5.params.toList args.toList ds p := hA0
  rw [Try.params5] at hA hval
  obtain ⟨v0, vs0, d0, ds0, p0, q0, hargs, rfl, rfl, h0, r00⟩ := trodAll_cons hA
  obtain ⟨rfl, rfl, rfl⟩ := trodAll_nil r00
  obtain rfl : args = #[v0] := by cases args; simp_all
  obtain ⟨rfl, rfl⟩ := trodVars_none hV
  have k0 := h0
  have lt0 : ∀ x ∈ p0, x.block < W.heap.size := by obtain ⟨m, hm⟩ := k0; exact DataW.trod_lt m _ _ _ hm
  obtain ⟨xs0, rd0, fm0⟩ := open_rowsS Try.underlying25 (hval 0 25 v0 rfl rfl) h0
  simp only [List.append_nil, Rows.uptoBulkAll] at hk
  have up0 : bulk xs0 ≤ 1048576 := by have h : bulk xs0 ≤ Rows.uptoBulk d0 := fm0; omega
  clear hA0 hval0 hA hval
  refine (gatherBoth_any v0 xs0 W rd0 up0).mono fun e W' ⟨he, bel⟩ => ?_
  subst he
  exact ⟨_, rfl, _, _, _, [], _, [], hW', trodAll_mk1 (shut_bool Try.underlying4 _), (trodAll_cons_mk (Below.trod Try.laidOut (by kernel_rfl) (of_decide_eq_true (by kernel_rfl)) k0 bel lt0) trodAll_mk0), rfl, bel.frame _, fun h => by cases h⟩

theorem fnGatherBothUpto_said : Rows.FnGatherBothUptoSaid :=
  OpenClaim.holds_of_cond 5 Try.f5 rfl rfl rfl rfl rfl rfl rfl ⟨rfl, rfl, rfl, rfl, rfl⟩ rfl rfl rfl rfl rfl (by kernel_rfl) Try.func5 (by kernel_rfl)
    (of_decide_eq_true (by kernel_rfl)) (by unfold Func.isWrapper; first | (rw [if_pos (by decide +kernel)]; kernel_rfl) | (rw [if_neg (by decide +kernel)]; exact ⟨rfl, rfl⟩))
    (fun os started H enc _ F => fnGatherBothUpto_lifted os started H enc F)

#print axioms fnGatherBothUpto_said

end Go.Proofs.Ytgjackalcajmjaa
