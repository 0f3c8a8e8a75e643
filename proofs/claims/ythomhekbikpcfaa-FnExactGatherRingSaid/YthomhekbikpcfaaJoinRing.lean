/- The walk of JoinRing. -/
import Derived.Test.YthomhekbikpcfaaJoinSpec
import Derived.Test.YthomhekbikpcfaaRingJoin
import Derived.Test.YthomhekbikpcfaaDo
import Derived.Test.YthomhekbikpcfaaOwnX
namespace Go.Proofs.Ythomhekbikpcfaa
open Go.RowKit

/-- A ring that begins with root and holds the numbers l behind it; its blocks came since w. -/
def HoldsJ (w wr : World) (root : Nat) (l : List Int) : Prop :=
  ∃ bs nx pv iv, Ring wr (· ∈ root :: bs) id nx pv (fun b => I (iv b)) ∧ Path nx root (root :: bs) root ∧ (root :: bs).Nodup ∧ bs.map iv = l ∧ (∀ b ∈ root :: bs, w.heap.size ≤ b) ∧ Bl w wr

/-- What Link makes of it and of a new ring. -/
theorem holds_join {w wr w1 w2 w3 : World} {root : Nat} {bs : List Nat} {nx pv : Nat → Nat} {iv : Nat → Int} {l row : List Int} {B : Nat} (hring : Ring w1 (· ∈ root :: bs) id nx pv (fun b => I (iv b))) (hp : Path nx root (root :: bs) root) (hnd : (root :: bs).Nodup) (hv : bs.map iv = l)
    (hge : ∀ b ∈ root :: bs, w.heap.size ≤ b) (hlt : ∀ b ∈ root :: bs, b < B) (hB : w.heap.size ≤ B) (hb : Bl w wr) (hb1 : Bl wr w1) (h0 : 0 < row.length) (hB1 : wr.heap.size = B)
    (k2 : Chg (At (fun b => b ∈ root :: bs ∨ (B ≤ b ∧ b < B + row.length)) id) w1 w2)
    (hk : Kept w2 (fun b => b ∈ root :: bs ∨ (B ≤ b ∧ b < B + row.length)) id
      (lnx (fun b => if b ∈ root :: bs then nx b else B + nxc row.length (b - B)) (fun b => if b ∈ root :: bs then pv b else B + pvc row.length (b - B)) (pv root) B)
      (lpv (fun b => if b ∈ root :: bs then nx b else B + nxc row.length (b - B)) (fun b => if b ∈ root :: bs then pv b else B + pvc row.length (b - B)) (pv root) B)
      (fun b => if b ∈ root :: bs then I (iv b) else I (row.getD (b - B) 0)) w3) :
    HoldsJ w w3 root (l ++ row) := by
  have hmr : ∀ b, b ∈ (List.range row.length).map (B + ·) ↔ B ≤ b ∧ b < B + row.length := by
    intro b
    simp only [List.mem_map, List.mem_range]
    constructor
    · rintro ⟨j, hj, rfl⟩; omega
    · intro h; exact ⟨b - B, by omega, by omega⟩
  have hdis : ∀ b, B ≤ b → b ∉ root :: bs := fun b hb h => by have := hlt b h; omega
  -- the first circle
  have hlast : root :: bs = (root :: bs).take bs.length ++ [pv root] := by
    have e := hring.pv_head hp (fun _ h => h) (by simp)
    have e2 : (root :: bs)[(root :: bs).length - 1]'(by simp) = (root :: bs)[bs.length]'(by simp) := by simp only [List.length_cons, Nat.add_sub_cancel]
    rw [e, e2, ← List.take_succ_eq_append_getElem (by simp)]
    rw [List.take_of_length_le (by simp)]
  have hpm : pv root ∈ root :: bs := hring.pvD root (by simp)
  have hnp : nx (pv root) = root := hring.np root (by simp)
  have p1 : Path (fun b => if b ∈ root :: bs then nx b else B + nxc row.length (b - B)) root (root :: bs) root := hp.congr fun x hx => if_pos hx
  have p2 : Path (fun b => if b ∈ root :: bs then nx b else B + nxc row.length (b - B)) B ((List.range row.length).map (B + ·)) B := by
    have := (path_nxc row.length h0).shift (B := B)
    rw [Nat.add_zero] at this
    exact this.congr fun x hx => if_neg (hdis x ((hmr x).1 hx).1)
  have hr2 : (List.range row.length).map (B + ·) = (List.range (row.length - 1)).map (B + ·) ++ [B + (row.length - 1)] := by
    obtain ⟨m, hm⟩ : ∃ m, row.length = m + 1 := ⟨row.length - 1, by omega⟩
    rw [hm, List.range_succ, List.map_append]; rfl
  have hnd2 : ((List.range row.length).map (B + ·)).Nodup := by
    exact List.pairwise_map.2 (List.nodup_range.imp (fun h e => h (by omega)))
  refine ⟨bs ++ (List.range row.length).map (B + ·), _, _, fun b => if b ∈ root :: bs then iv b else row.getD (b - B) 0, hk.ring.conv (fun i => ?_) (fun _ _ => rfl) (fun _ _ => rfl) (fun i _ => ?_), ?_, ?_, ?_, ?_, ?_⟩
  · rw [← List.cons_append, List.mem_append, hmr]
  · by_cases h : i ∈ root :: bs
    · simp only [if_pos h]
    · simp only [if_neg h]
  · have e1 : (if B ∈ root :: bs then pv B else B + pvc row.length (B - B)) = B + (row.length - 1) := by
      rw [if_neg (hdis B (Nat.le_refl _)), Nat.sub_self]; rfl
    have e2 : (if pv root ∈ root :: bs then nx (pv root) else B + nxc row.length (pv root - B)) = root := by
      rw [if_pos hpm, hnp]
    unfold lnx
    simp only [e1, e2]
    have hnd1 := hnd
    rw [hlast] at hnd1
    rw [hr2] at hnd2
    rw [← List.cons_append]
    have p3 := p1
    rw [hr2] at p2 ⊢
    have hj := Path.joinEnd (p := pv root) (q := B + (row.length - 1)) (L := (root :: bs).take bs.length) (M := (List.range (row.length - 1)).map (B + ·)) (s := B) (a := root) (f := fun b => if b ∈ root :: bs then nx b else B + nxc row.length (b - B))
      (by rw [← hlast]; exact p1) p2 (fun h => (List.nodup_append.1 hnd1).2.2 _ h _ (by simp) rfl) (fun h => (List.nodup_append.1 hnd2).2.2 _ h _ (by simp) rfl)
      (fun h => by rw [← hr2] at h; have := ((hmr _).1 h).1; have := hlt _ hpm; omega)
      (fun h => by rw [← hlast] at h; have := hlt _ h; omega)
    rw [← hlast] at hj
    exact hj
  · rw [← List.cons_append, List.nodup_append]
    refine ⟨hnd, hnd2, fun a ha b hb' e => ?_⟩
    have := hlt a ha
    have := ((hmr b).1 hb').1
    omega
  · rw [List.map_append, ← hv]
    congr 1
    · exact List.map_congr_left fun x hx => if_pos (by simp [hx])
    · rw [List.map_map]
      have : (List.range row.length).map ((fun b => if b ∈ root :: bs then iv b else row.getD (b - B) 0) ∘ (B + ·)) = (List.range row.length).map (fun j => row.getD j 0) := by
        apply List.map_congr_left
        intro j _
        show (if B + j ∈ root :: bs then _ else row.getD (B + j - B) 0) = _
        rw [if_neg (hdis _ (by omega)), show B + j - B = j by omega]
      rw [this, range_get]
  · intro b hb'
    rw [← List.cons_append, List.mem_append] at hb'
    rcases hb' with h | h
    · exact hge b h
    · have := ((hmr b).1 h).1; omega
  · have hge2 : ∀ i, At (fun b => b ∈ root :: bs ∨ (B ≤ b ∧ b < B + row.length)) id i → w.heap.size ≤ i := by
      intro i hi
      rcases (At_id i).1 hi with h | h
      · exact hge i h
      · omega
    exact bl_chg (bl_chg (bl_trans hb hb1) k2 hge2) hk.chg hge2

theorem holds_one (w : World) (x : Int) : HoldsJ w (w.alloc (.cells #[.pointer none, .pointer none, I x] 78)) w.heap.size [] := by
  have h0 : Ring w (fun _ => False) id id id (fun _ => I x) := ⟨fun i hi => hi.elim, fun i j hi => hi.elim, fun i hi => hi.elim, fun i hi => hi.elim, fun i hi => hi.elim, fun i hi => hi.elim⟩
  refine ⟨[], _, _, fun _ => x, (h0.add (I x)).conv (fun i => by simp) (fun _ _ => rfl) (fun _ _ => rfl) (fun i _ => by simp), ⟨rfl, by rw [upd_same]; exact rfl⟩, by simp, rfl, fun b hb => ?_, bl_alloc (bl_refl w) _⟩
  simp at hb; omega


end Go.Proofs.Ythomhekbikpcfaa
