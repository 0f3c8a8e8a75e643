/- The walk of JoinRing. -/
import Derived.Test.YtgjackalcajmjaaJoinSpec
import Derived.Test.YtgjackalcajmjaaRingJoin
import Derived.Test.YtgjackalcajmjaaDo
import Derived.Test.YtgjackalcajmjaaOwnX
namespace Go.Proofs.Ytgjackalcajmjaa
open Go.RowKit

/-- A ring that begins with root and holds the numbers l behind it; its blocks came since w. -/
def HoldsJ (w wr : World) (root : Nat) (l : List Int) : Prop :=
  ∃ bs nx pv iv, Ring wr (· ∈ root :: bs) id nx pv (fun b => I (iv b)) ∧ Path nx root (root :: bs) root ∧ (root :: bs).Nodup ∧ bs.map iv = l ∧ (∀ b ∈ root :: bs, w.heap.size ≤ b) ∧ Bl w wr

/-- What Link makes of it and of a new ring. -/
theorem holds_join {w wr w1 w2 w3 : World} {root : Nat} {bs : List Nat} {nx pv : Nat → Nat} {iv : Nat → Int} {l row : List Int} {B : Nat} (hring : Ring w1 (· ∈ root :: bs) id nx pv (fun b => I (iv b))) (hp : Path nx root (root :: bs) root) (hnd : (root :: bs).Nodup) (hv : bs.map iv = l)
    (hge : ∀ b ∈ root :: bs, w.heap.size ≤ b) (hlt : ∀ b ∈ root :: bs, b < B) (hB : w.heap.size ≤ B) (hb : Bl w wr) (hb1 : Bl wr w1) (h0 : 0 < row.length) (hB1 : wr.heap.size = B)
    (k2 : Chg (At (fun b => b ∈ root :: bs ∨ (B ≤ b ∧ b < B + row.length)) id) w1 w2)
    (hk : Kept w2 (fun b => b ∈ root :: bs ∨ (B ≤ b ∧ b < B + row.length)) id
      (lnx (fun b => if b ∈ root :: bs then nx b else B + nxc row.length (b - B)) (fun b => if b ∈ root :: bs then pv b else B + pvc row.length (b - B)) (pv root) B)
      (lpv (fun b => if b ∈ root :: bs then nx b else B + nxc row.length (b - B)) (fun b => if b ∈ root :: bs then pv b else B + pvc row.length (b - B)) (pv root) B)
      (fun b => if b ∈ root :: bs then I (iv b) else I (row.getD (b - B) 0)) w3) :
    HoldsJ w w3 root (l ++ row) := by
  have hmr : ∀ b, b ∈ (List.range row.length).map (B + ·) ↔ B ≤ b ∧ b < B + row.length := by
    intro b
    simp only [List.mem_map, List.mem_range]
    constructor
    · rintro ⟨j, hj, rfl⟩; omega
    · intro h; exact ⟨b - B, by omega, by omega⟩
  have hdis : ∀ b, B ≤ b → b ∉ root :: bs := fun b hb h => by have := hlt b h; omega
  -- the first circle
  have hlast : root :: bs = (root :: bs).take bs.length ++ [pv root] := by
    have e := hring.pv_head hp (fun _ h => h) (by simp)
    have e2 : (root :: bs)[(root :: bs).length - 1]'(by simp) = (root :: bs)[bs.length]'(by simp) := by simp only [List.length_cons, Nat.add_sub_cancel]
    rw [e, e2, ← List.take_succ_eq_append_getElem (by simp)]
    rw [List.take_of_length_le (by simp)]
  have hpm : pv root ∈ root :: bs := hring.pvD root (by simp)
  have hnp : nx (pv root) = root := hring.np root (by simp)
  have p1 : Path (fun b => if b ∈ root :: bs then nx b else B + nxc row.length (b - B)) root (root :: bs) root := hp.congr fun x hx => if_pos hx
  have p2 : Path (fun b => if b ∈ root :: bs then nx b else B + nxc row.length (b - B)) B ((List.range row.length).map (B + ·)) B := by
    have := (path_nxc row.length h0).shift (B := B)
    rw [Nat.add_zero] at this
    exact this.congr fun x hx => if_neg (hdis x ((hmr x).1 hx).1)
  have hr2 : (List.range row.length).map (B + ·) = (List.range (row.length - 1)).map (B + ·) ++ [B + (row.length - 1)] := by
    obtain ⟨m, hm⟩ : ∃ m, row.length = m + 1 := ⟨row.length - 1, by omega⟩
    rw [hm, List.range_succ, List.map_append]; rfl
  have hnd2 : ((List.range row.length).map (B + ·)).Nodup := by
    exact List.pairwise_map.2 (List.nodup_range.imp (fun h e => h (by omega)))
  refine ⟨bs ++ (List.range row.length).map (B + ·), _, _, fun b => if b ∈ root :: bs then iv b else row.getD (b - B) 0, hk.ring.conv (fun i => ?_) (fun _ _ => rfl) (fun _ _ => rfl) (fun i _ => ?_), ?_, ?_, ?_, ?_, ?_⟩
  · rw [← List.cons_append, List.mem_append, hmr]
  · by_cases h : i ∈ root :: bs
    · simp only [if_pos h]
    · simp only [if_neg h]
  · have e1 : (if B ∈ root :: bs then pv B else B + pvc row.length (B - B)) = B + (row.length - 1) := by
      rw [if_neg (hdis B (Nat.le_refl _)), Nat.sub_self]; rfl
    have e2 : (if pv root ∈ root :: bs then nx (pv root) else B + nxc row.length (pv root - B)) = root := by
      rw [if_pos hpm, hnp]
    unfold lnx
    simp only [e1, e2]
    have hnd1 := hnd
    rw [hlast] at hnd1
    rw [hr2] at hnd2
    rw [← List.cons_append]
    have p3 := p1
    rw [hr2] at p2 ⊢
    have hj := Path.joinEnd (p := pv root) (q := B + (row.length - 1)) (L := (root :: bs).take bs.length) (M := (List.range (row.length - 1)).map (B + ·)) (s := B) (a := root) (f := fun b => if b ∈ root :: bs then nx b else B + nxc row.length (b - B))
      (by rw [← hlast]; exact p1) p2 (fun h => (List.nodup_append.1 hnd1).2.2 _ h _ (by simp) rfl) (fun h => (List.nodup_append.1 hnd2).2.2 _ h _ (by simp) rfl)
      (fun h => by rw [← hr2] at h; have := ((hmr _).1 h).1; have := hlt _ hpm; omega)
      (fun h => by rw [← hlast] at h; have := hlt _ h; omega)
    rw [← hlast] at hj
    exact hj
  · rw [← List.cons_append, List.nodup_append]
    refine ⟨hnd, hnd2, fun a ha b hb' e => ?_⟩
    have := hlt a ha
    have := ((hmr b).1 hb').1
    omega
  · rw [List.map_append, ← hv]
    congr 1
    · exact List.map_congr_left fun x hx => if_pos (by simp [hx])
    · rw [List.map_map]
      have : (List.range row.length).map ((fun b => if b ∈ root :: bs then iv b else row.getD (b - B) 0) ∘ (B + ·)) = (List.range row.length).map (fun j => row.getD j 0) := by
        apply List.map_congr_left
        intro j _
        show (if B + j ∈ root :: bs then _ else row.getD (B + j - B) 0) = _
        rw [if_neg (hdis _ (by omega)), show B + j - B = j by omega]
      rw [this, range_get]
  · intro b hb'
    rw [← List.cons_append, List.mem_append] at hb'
    rcases hb' with h | h
    · exact hge b h
    · have := ((hmr b).1 h).1; omega
  · have hge2 : ∀ i, At (fun b => b ∈ root :: bs ∨ (B ≤ b ∧ b < B + row.length)) id i → w.heap.size ≤ i := by
      intro i hi
      rcases (At_id i).1 hi with h | h
      · exact hge i h
      · omega
    exact bl_chg (bl_chg (bl_trans hb hb1) k2 hge2) hk.chg hge2

theorem holds_one (w : World) (x : Int) : HoldsJ w (w.alloc (.cells #[.pointer none, .pointer none, I x] 55)) w.heap.size [] := by
  have h0 : Ring w (fun _ => False) id id id (fun _ => I x) := ⟨fun i hi => hi.elim, fun i j hi => hi.elim, fun i hi => hi.elim, fun i hi => hi.elim, fun i hi => hi.elim, fun i hi => hi.elim⟩
  refine ⟨[], _, _, fun _ => x, (h0.add (I x)).conv (fun i => by simp) (fun _ _ => rfl) (fun _ _ => rfl) (fun i _ => by simp), ⟨rfl, by rw [upd_same]; exact rfl⟩, by simp, rfl, fun b hb => ?_, bl_alloc (bl_refl w) _⟩
  simp at hb; omega

set_option maxHeartbeats 2000000 in
theorem JoinRing_impl (v : Value) (rows : List (List Int)) (w : World) (hv : Rowss w v rows) (hl : sumLen rows < 17592186043904) :
    Calls Try.prog 19 #[v] w (NewX w rows.flatten) := by
  obtain ⟨A, c, rfl, hc, hm, hv⟩ := hv.open
  have HV := Lib.hid hv
  clear hv
  unfold maxLen at hm
  go_enter Try.func19, Try.ntmps19
  have H1 := Lib.hid (holds_one w 0)
  go_wp2
  generalize hroot : w.heap.size = root at *
  have HR := Lib.hid hroot
  clear hroot
  go_loopw [5, 6, 12] (fun _ _ i wr => ∃ k : Nat, k ≤ rows.length ∧ i = .int .i64 k ∧ HoldsJ w wr root (rows.take k).flatten) (fun _ _ i _ => rows.length - (intOf i).toNat)
  case atStart => exact ⟨0, Nat.zero_le _, rfl, H1.out⟩
  case round =>
    obtain ⟨k, hk, rfl, hh⟩ := hrel
    by_cases hlt : k < rows.length
    · obtain ⟨b, off, u, rfl, hc1, hu⟩ := HV.out k hlt
      obtain ⟨bs, nx, pv, iv, hring, hpath, hnd, hval, hge, hbl⟩ := hh
      have r1 := (hbl.cell (World.block_lt_of_cell? _ _ hc1)).trans hc1
      have HU := Lib.hid (hu.bl hbl)
      obtain ⟨A2, c2, hu2, _, _, _⟩ := hu.open
      subst hu2
      have HF := Lib.hid (flatten_take rows k hlt)
      have hrk : rows[k].length ≤ sumLen rows := le_sum (List.mem_map.2 ⟨_, List.getElem_mem hlt, rfl⟩)
      clear hc1 hu
      have HRI := Lib.hid hring
      have HP := Lib.hid hpath
      have HND := Lib.hid hnd
      have HVL := Lib.hid hval
      have HG := Lib.hid hge
      have HB := Lib.hid hbl
      clear hring hpath hnd hval hge hbl
      generalize rows[k] = row at *
      rcases Nat.eq_zero_or_pos row.length with h0 | h0
      · obtain rfl : row = [] := List.eq_nil_of_length_eq_zero h0
        go_wp2_with fail
        refine (ringOf_none _ _ HU.out).mono ?_
        rintro e w2 ⟨rfl, rfl⟩
        go_wp2
        go_roundw
        case rel => exact ⟨k + 1, by omega, by go_num, by rw [HF.out, List.append_nil]; exact ⟨bs, nx, pv, iv, HRI.out, HP.out, HND.out, HVL.out, HG.out, HB.out⟩⟩
        case measure => simp [intOf]; omega
      · go_wp2_with fail
        refine (ringOf_some _ row _ HU.out h0 (by omega)).mono ?_
        rintro e w2 ⟨rfl, r2⟩
        have hlt2 : ∀ b ∈ root :: bs, b < wr.heap.size := fun b hb => HRI.out.lt hb
        have hU := (HRI.out.bl r2.bl).union r2.ring.toId (fun b hb h => by have := hlt2 b hb; omega)
        have HLT := Lib.hid hlt2
        have HUN := Lib.hid hU
        have B2 := Lib.hid r2.bl
        clear r2 hU hlt2
        go_wp2_with fail
        refine (prev_id HUN.out (i := root) (.inl (by simp))).mono ?_
        rintro e w3 ⟨rfl, k3, _⟩
        rw [if_pos (List.mem_cons_self ..)]
        have K3 := Lib.hid k3
        clear k3
        go_wp2_with fail
        refine (link_id K3.out.ring (r := pv root) (s := wr.heap.size) (.inl (HRI.out.pvD root (by simp))) (.inr (by omega))).mono ?_
        rintro e w4 ⟨rfl, k4, _⟩
        have H4 := Lib.hid (holds_join (HRI.out.bl B2.out) HP.out HND.out HVL.out HG.out HLT.out HB.out.size HB.out B2.out h0 rfl K3.out.chg k4)
        clear k4
        go_wp2
        go_roundw
        case rel => exact ⟨k + 1, by omega, by go_num, by rw [HF.out]; exact H4.out⟩
        case measure => simp [intOf]; omega
    · obtain rfl : k = rows.length := by omega
      rw [List.take_length] at hh
      obtain ⟨bs, nx, pv, iv, hring, hpath, hnd, hval, hge, hbl⟩ := hh
      have hlen : bs.length < 17592186043904 := by
        have := congrArg List.length hval
        rw [List.length_map, flatten_len] at this
        omega
      have HVL := Lib.hid hval
      have HG := Lib.hid hge
      have HB := Lib.hid hbl
      have HA := Lib.hid (around_any hring (r := root) (by simp) bs hpath (List.nodup_cons.1 hnd).1 (fun x hx => by simp [hx]) iv (fun _ _ => rfl) hlen)
      clear hring hpath hnd hval hge hbl
      go_wp2_with fail
      refine HA.out.mono ?_
      rintro e w3 ⟨v3, rfl, o3, _, _, c3⟩
      rw [List.map_cons, HVL.out] at o3
      obtain ⟨A3, c4, rfl, hc4, hm4, hA3⟩ := own_open o3
      obtain ⟨g3, rfl, _⟩ := hA3 (by simp)
      have O3 := Lib.hid (own_base o3 HB.out.size)
      have B3 := Lib.hid (bl_chg HB.out c3 fun i hi => HG.out i ((At_id i).1 hi))
      clear o3 c3 hA3
      rw [List.length_cons] at *
      unfold maxLen at hm4
      generalize rows.flatten = ys at *
      by_cases hc5 : c4 = 1
      · subst hc5
        obtain rfl : ys = [] := List.eq_nil_of_length_eq_zero (by omega)
        go_wp2
        go_ret
        exact ⟨_, rfl, OwnX.of_own (off := 0) O3.out rfl, B3.out⟩
      · go_wp2
        go_ret
        exact ⟨_, rfl, OwnX.of_own O3.out (by rw [if_neg hc5]), B3.out⟩

end Go.Proofs.Ytgjackalcajmjaa
