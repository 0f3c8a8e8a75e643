/- Rings beside each other, and one ring of two. -/
import Derived.Test.YtebkmegkdcnfaaaRingId
import Derived.Test.YtebkmegkdcnfaaaAround
namespace Go.Proofs.Ytebkmegkdcnfaaa
open Go.RowKit

section
variable {w w' : World} {D : Nat → Prop} {nx pv : Nat → Nat} {val : Nat → Value}

/-- A ring whose blocks lie one behind the other, told by its blocks. -/
theorem Ring.toId {B n : Nat} (h : Ring w (· < n) (B + ·) nx pv val) : Ring w (fun b => B ≤ b ∧ b < B + n) id (fun b => B + nx (b - B)) (fun b => B + pv (b - B)) (fun b => val (b - B)) := by
  refine ⟨fun i hi => ?_, fun i j _ _ e => e, fun i hi => ?_, fun i hi => ?_, fun i hi => ?_, fun i hi => ?_⟩
  · have := h.node (i - B) (by omega)
    simp only [id]
    rw [show B + (i - B) = i by omega] at this
    exact this
  · have : nx (i - B) < n := h.nxD (i - B) (by omega); omega
  · have : pv (i - B) < n := h.pvD (i - B) (by omega); omega
  · have := h.pn (i - B) (by omega)
    rw [show B + nx (i - B) - B = nx (i - B) by omega, this]; omega
  · have := h.np (i - B) (by omega)
    rw [show B + pv (i - B) - B = pv (i - B) by omega, this]; omega

theorem Path.shift {f : Nat → Nat} {a b B : Nat} {l : List Nat} (h : Path f a l b) : Path (fun c => B + f (c - B)) (B + a) (l.map (B + ·)) (B + b) := by
  induction l generalizing a with
  | nil => have : a = b := h; subst this; exact rfl
  | cons x l ih =>
    obtain ⟨rfl, h2⟩ := h
    refine ⟨rfl, ?_⟩
    have := ih h2
    show Path _ (B + f (B + a - B)) _ _
    rw [show B + a - B = a by omega]
    exact this

/-- Two rings beside each other. -/
theorem Ring.union {L : List Nat} {D2 : Nat → Prop} {nx2 pv2 : Nat → Nat} {val2 : Nat → Value} (h : Ring w (· ∈ L) id nx pv val) (h2 : Ring w D2 id nx2 pv2 val2) (hd : ∀ b ∈ L, ¬ D2 b) :
    Ring w (fun b => b ∈ L ∨ D2 b) id (fun b => if b ∈ L then nx b else nx2 b) (fun b => if b ∈ L then pv b else pv2 b) (fun b => if b ∈ L then val b else val2 b) := by
  have hn : ∀ b, D2 b → b ∉ L := fun b h h' => hd b h' h
  refine ⟨fun i hi => ?_, fun i j _ _ e => e, fun i hi => ?_, fun i hi => ?_, fun i hi => ?_, fun i hi => ?_⟩
  · rcases hi with hi | hi
    · simp only [if_pos hi]; exact h.node i hi
    · simp only [if_neg (hn i hi)]; exact h2.node i hi
  · rcases hi with hi | hi
    · simp only [if_pos hi]; exact .inl (h.nxD i hi)
    · simp only [if_neg (hn i hi)]; exact .inr (h2.nxD i hi)
  · rcases hi with hi | hi
    · simp only [if_pos hi]; exact .inl (h.pvD i hi)
    · simp only [if_neg (hn i hi)]; exact .inr (h2.pvD i hi)
  · rcases hi with hi | hi
    · simp only [if_pos hi, if_pos (h.nxD i hi)]; exact h.pn i hi
    · simp only [if_neg (hn i hi), if_neg (hn _ (h2.nxD i hi))]; exact h2.pn i hi
  · rcases hi with hi | hi
    · simp only [if_pos hi, if_pos (h.pvD i hi)]; exact h.np i hi
    · simp only [if_neg (hn i hi), if_neg (hn _ (h2.pvD i hi))]; exact h2.np i hi

/-- Two circles, the end of the first one linked to the second one: one circle. -/
theorem Path.joinEnd {f : Nat → Nat} {a s p q : Nat} {L M : List Nat} (h1 : Path f a (L ++ [p]) a) (h2 : Path f s (M ++ [q]) s) (hp : p ∉ L) (hq : q ∉ M) (hpM : p ∉ M ++ [q]) (hqL : q ∉ L ++ [p]) :
    Path (upd (upd f p s) q a) a ((L ++ [p]) ++ (M ++ [q])) a := by
  refine Path.append ((h1.upd_last hp s).upd_far hqL a) ?_
  exact (h2.upd_far hpM s).upd_last hq a
end

end Go.Proofs.Ytebkmegkdcnfaaa
