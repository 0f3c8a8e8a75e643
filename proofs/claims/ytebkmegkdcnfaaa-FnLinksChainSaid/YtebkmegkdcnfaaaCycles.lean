/- The walks of Cycles, of the program. -/
import Derived.Test.YtebkmegkdcnfaaaLinks
import Derived.Test.YtebkmegkdcnfaaaCycPure
import Derived.Test.YtebkmegkdcnfaaaDo
import Derived.Test.YtebkmegkdcnfaaaSnoc
namespace Go.Proofs.Ytebkmegkdcnfaaa
open Go.RowKit

/-- Which numbers have been seen. -/
def seenL (n : Nat) (L : List Nat) : List Value := (List.range n).map fun j => .bool (decide (j ∈ L))
theorem seenL_len (n : Nat) (L : List Nat) : (seenL n L).length = n := by simp [seenL]
theorem seenL_get {n : Nat} (L : List Nat) {k : Nat} (hk : k < n) : (seenL n L).getD k undef = .bool (decide (k ∈ L)) := by
  rw [List.getD_eq_getElem?_getD]
  simp [seenL, hk]
theorem seenL_set (n : Nat) (L : List Nat) (k : Nat) : (seenL n L).set k (.bool true) = seenL n (L ++ [k]) := by
  apply List.ext_getElem (by simp [seenL_len])
  intro i h1 h2
  rw [seenL_len] at h2
  rw [List.getElem_set]
  by_cases h : k = i
  · subst h; rw [if_pos rfl]; simp [seenL]
  · rw [if_neg h]
    have h' : ¬ i = k := fun e => h e.symm
    simp [seenL, h']
theorem seenL_none (n : Nat) : seenL n [] = List.replicate n (.bool false) := by
  apply List.ext_getElem (by simp [seenL_len])
  intro i h1 h2
  simp [seenL]

def natI (l : List Nat) : List Int := l.map (fun x : Nat => (x : Int))
theorem natI_len (l : List Nat) : (natI l).length = l.length := by simp [natI]
theorem natI_get (l : List Nat) {j : Nat} (hj : j < l.length) : (natI l)[j]'(by rw [natI_len]; exact hj) = (l[j] : Int) := by simp [natI]
def rowsI (cs : List (List Nat)) : List (List Int) := cs.map natI
/-- The rings. -/
def cyclesOf (n : Nat) (ps : List (Int × Int)) : List (List Int) := rowsI (cycs n (linkAll n (id, id) ps).1)

theorem linkAll_perm (n : Nat) (ps : List (Int × Int)) : Perm2 n (linkAll n (id, id) ps).1 (linkAll n (id, id) ps).2 := by
  rcases Nat.eq_zero_or_pos n with h | h
  · subst h
    exact ⟨fun b hb => absurd hb (by omega), fun b hb => absurd hb (by omega), fun b hb => absurd hb (by omega), fun b hb => absurd hb (by omega)⟩
  · obtain ⟨h1, h2, h3, h4⟩ := linkAll_inv n h ps (id, id) (fun _ h => h) (fun _ h => h) (fun _ _ => rfl) (fun _ _ => rfl)
    exact ⟨h1, h2, h3, h4⟩

theorem OwnSS.snoc2 {w w2 : World} {base : Nat} {v v' : Value} {rows : List (List Int)} {us : List Value} {u : Value} {xs : List Int} (h : OwnSS w base v rows us) (hu : OwnI w base u xs) (hsep : ∀ g, SSb v us g → ¬ u.ownBlock = some g)
    (ho : w2.ownsRow base 23 1 v' (rows.length + 1) (us ++ [u])) (hc : Chg (fun k => v.ownBlock = some k) w w2) : OwnSS w2 base v' (rows ++ [xs]) (us ++ [u]) := by
  have hus : us.length = rows.length := by have := h.own.1; omega
  refine ⟨by rw [List.length_append]; exact ho, fun k hk => ?_, fun i j a b hij hi hj g hg hg' => ?_⟩
  · rw [List.length_append] at hk
    simp only [List.length_cons, List.length_nil] at hk
    rcases (by omega : k < rows.length ∨ k = rows.length) with h1 | h1
    · obtain ⟨y, e, hy⟩ := h.row k h1
      refine ⟨y, by rw [List.getElem?_append_left (by omega)]; exact e, ?_⟩
      rw [List.getElem_append_left h1]
      exact own_chg hy hc (own_ne hy h.own (by decide))
    · subst h1
      refine ⟨u, by rw [List.getElem?_append_right (by omega), hus]; simp, ?_⟩
      rw [List.getElem_append_right (by omega)]
      simp only [Nat.sub_self, List.getElem_cons_zero]
      exact own_chg hu hc (own_ne hu h.own (by decide))
  · have hjl : j < us.length + 1 := by
      have := (List.getElem?_eq_some_iff.1 hj).1
      simpa using this
    rw [List.getElem?_append_left (by omega)] at hi
    rcases (by omega : j < us.length ∨ j = us.length) with h1 | h1
    · rw [List.getElem?_append_left h1] at hj
      exact h.sep i j a b hij hi hj g hg hg'
    · subst h1
      rw [List.getElem?_append_right (Nat.le_refl _)] at hj
      simp at hj
      subst hj
      exact hsep g (.inr ⟨a, List.mem_of_getElem? hi, hg⟩) hg'
theorem own_heap {w : World} {base : Nat} {e : TypeId} {sz n : Nat} {v : Value} {cs : List Value} (h : w.ownsRow base e sz v n cs) {g : Nat} (hg : v.ownBlock = some g) : ∃ cur, w.heap[g]? = some (.cells cur e (0, 0)) := by
  rcases h.2 with ⟨rfl, _⟩ | ⟨g', cap, cur, rfl, hb, hh, _⟩
  · simp [Value.ownBlock] at hg
  · simp [Value.ownBlock] at hg
    subst hg
    exact ⟨cur, hh⟩
/-- The blocks of rows of one's own hold slices or ints. -/
theorem OwnSS.kind {w : World} {base : Nat} {v : Value} {rows : List (List Int)} {us : List Value} (h : OwnSS w base v rows us) {g : Nat} (hg : SSb v us g) : ∃ cur t, w.heap[g]? = some (.cells cur t (0, 0)) ∧ (t = 23 ∨ t = 3) := by
  rcases hg with hg | ⟨u, hu, hg⟩
  · obtain ⟨cur, e⟩ := own_heap h.own hg
    exact ⟨cur, _, e, .inl rfl⟩
  · obtain ⟨k, hk, e⟩ := List.getElem_of_mem hu
    have hkr : k < rows.length := by have := h.own.1; omega
    obtain ⟨u', e', hu'⟩ := h.row k hkr
    rw [List.getElem?_eq_getElem hk, e] at e'
    simp at e'
    subst e'
    obtain ⟨cur, e⟩ := own_heap hu' hg
    exact ⟨cur, _, e, .inr rfl⟩
theorem OwnSS.ne_ring {w : World} {base : Nat} {v : Value} {rows : List (List Int)} {us : List Value} (h : OwnSS w base v rows us) {D : Nat → Prop} {ad nx pv : Nat → Nat} {val : Nat → Value} (hr : Ring w D ad nx pv val) : ∀ g, SSb v us g → ¬ At D ad g := by
  rintro g hg ⟨i, hi, rfl⟩
  obtain ⟨cur, t, e, ht⟩ := h.kind hg
  obtain ⟨a, c, e', _⟩ := hr.node i hi
  rw [e] at e'
  simp at e'
  rcases ht with rfl | rfl
  · exact absurd e'.2 (by decide)
  · exact absurd e'.2 (by decide)
theorem OwnSS.ne_own {w : World} {base base' : Nat} {v v' : Value} {rows : List (List Int)} {us : List Value} {n : Nat} {cs : List Value} (h : OwnSS w base v rows us) {e : TypeId} (h' : w.ownsRow base' e 1 v' n cs) (h1 : e ≠ 23) (h2 : e ≠ 3) : ∀ g, SSb v us g → ¬ v'.ownBlock = some g := by
  intro g hg hg'
  obtain ⟨cur, t, e, ht⟩ := h.kind hg
  obtain ⟨cur', e'⟩ := own_heap h' hg'
  rw [e] at e'
  simp at e'
  rcases ht with rfl | rfl
  · exact h1 e'.2.symm
  · exact h2 e'.2.symm

theorem own_int_get {w : World} {base n c : Nat} {A : Option Addr} {xs : List Int} (h : OwnI w base (.slice A n c) xs) {j : Nat} (hj : j < xs.length) : ∃ g, A = some ⟨g, 0, none⟩ ∧ w.cell? ⟨g, j, none⟩ = some (.int .i64 xs[j]) := by
  obtain ⟨A', c', e, _, _, hA⟩ := own_open h
  simp only [Value.slice.injEq] at e
  obtain ⟨rfl, rfl, rfl⟩ := e
  obtain ⟨g, rfl, _, _⟩ := hA (by omega)
  refine ⟨g, rfl, ?_⟩
  rw [own_cell h (by omega), List.getD_eq_getElem?_getD]
  simp [hj]
theorem len_le_flatten : ∀ out : List (List Nat), (∀ c ∈ out, c ≠ []) → out.length ≤ out.flatten.length := by
  intro out
  induction out with
  | nil => intro _; exact Nat.le_refl _
  | cons c out ih =>
    intro h
    have h1 := ih (fun d hd => h d (by simp [hd]))
    have h2 := List.length_pos_iff.2 (h c (by simp))
    rw [List.length_cons, List.flatten_cons, List.length_append]
    omega
theorem CInv.len_le {n : Nat} {f : Nat → Nat} {k : Nat} {out : List (List Nat)} (h : CInv n f k out) : out.length ≤ n := by
  refine Nat.le_trans (len_le_flatten out fun c hc => ?_) (nodup_le n _ h.nodup h.lt)
  obtain ⟨j, A, e, _⟩ := h.cyc c hc
  rw [e]; simp
theorem rowsI_len (out : List (List Nat)) : (rowsI out).length = out.length := by simp [rowsI]
theorem rowsI_snoc (out : List (List Nat)) (c : List Nat) : rowsI (out ++ [c]) = rowsI out ++ [natI c] := by simp [rowsI]

theorem boolInfo : (Try.prog.info? 4).map (fun i => (i.zero, i.size, i.bytes)) = some (some (.bool false), 1, 1) := by kernel_rfl

set_option maxRecDepth 100000 in
set_option maxHeartbeats 2000000 in
theorem Cycles_impl (a : Int) (u : Value) (ps : List (Int × Int)) (w : World) (hu : Prs w u ps) :
    Calls Try.prog 22 #[.int .i64 a, u] w (NewSS w (cyclesOf (ix a 200) ps)) := by
  obtain ⟨i0, hi, hz0, hz1, hz2⟩ := info_parts rowInfo
  obtain ⟨i1, hi1, hy0, hy1, hy2⟩ := info_parts boolInfo
  have HU := Lib.hid hu
  clear hu
  have hN := ix_lt a (n := 200) (by omega)
  generalize hNN : ix a 200 = N at *
  have HN := Lib.hid hNN
  clear hNN
  go_enter Try.func22, Try.ntmps22
  go_wp2_with fail
  refine (at_ix a 200 _ (by omega) (by omega)).mono ?_
  rintro e w' ⟨rfl, rfl⟩
  rw [HN.out]
  go_wp2_with fail
  refine (singles_any N _ (by omega)).mono ?_
  rintro e w1 ⟨v, ad, rfl, hown, hring, had, hbl⟩
  have HO := Lib.hid hown
  have HB := Lib.hid hbl
  have HR := Lib.hid hring
  have HA := Lib.hid had
  clear hown hbl hring had
  go_wp2_with fail
  refine (linked_any v u _ N ad id id _ ps w' w1 (by omega) HO.out HU.out HB.out HA.out HR.out).mono ?_
  rintro e w2 ⟨rfl, hring, hchg⟩
  have HO2 := Lib.hid (own_chg HO.out hchg fun g hg ⟨j, hj, e⟩ => by subst e; exact HR.out.ne_own HO.out (by decide) j hj hg)
  have HB2 := Lib.hid (bl_chg HB.out hchg fun i ⟨j, hj, e⟩ => by subst e; exact HA.out j hj)
  have HR2 := Lib.hid hring
  clear hring hchg
  obtain ⟨A, c, hv, _, hm, hAx⟩ := own_open HO2.out
  clear hAx
  unfold maxLen at hm
  subst hv
  have HC : Hid (cyclesOf N ps = rowsI (cycs N (linkAll N (id, id) ps).1)) := rfl
  have HP := Lib.hid (linkAll_perm N ps)
  generalize linkAll N (id, id) ps = s at *
  have hb0 := HB2.out.size
  go_wp2_with (at_make; refine wpList_make_full _ rfl _ _ 78 rfl w'.heap.size 4 i1 _ 1 Try.underlying78 hi1 hy0 hy1 _ _ _ _ N rfl rfl rfl rfl (by rw [hy2]; omega) (by unfold maxLen; omega) hb0 ?_; intro w3 hown hg)
  have hz : (madeCells (Value.bool false).cells (N * 1)).toList = List.replicate N (Value.bool false) := by
    apply List.ext_getElem
    · simp [size_madeCells]
    · intro i h1 h2
      simp [madeCells, Value.cells, Nat.mod_one]
  rw [hz, ← seenL_none] at hown
  have hb3 : Bl w2 w3 := (Below.refl _ _).grown hg (Nat.le_refl _) (by simp)
  generalize w2.heap.size = sb at hown ⊢
  have HS3 := Lib.hid (hown.alloc (.cells #[] 23))
  have HB3 := Lib.hid (bl_alloc (bl_trans HB2.out hb3) (.cells #[] 23))
  have HR3 := Lib.hid ((HR2.out.bl hb3).bl (bl_alloc (bl_refl w3) (.cells #[] 23)))
  have HE3 := Lib.hid (own_bl (own_bl HO2.out hb3) (bl_alloc (bl_refl w3) (.cells #[] 23)))
  have HX3 : Hid (OwnSS (w3.alloc (.cells #[] 23)) w'.heap.size (.slice (some ⟨w3.heap.size, 0, none⟩) 0 0) (rowsI (cycsTo N s.1 0)) []) := ⟨own_base (own_empty _ _ _) (bl_trans HB2.out hb3).size, fun k hk => absurd hk (by simp [rowsI, cycsTo]), fun i j a b hij hi hj => by simp at hi⟩
  clear hown hg hz hb3 HO HB HR HO2 HB2 HR2
  go_wp2
  go_loopw [7, 8, 9, 10, 12, 25] (fun v _ _ _ _ i wr => ∃ k : Nat, k ≤ N ∧ i = .int .i64 k ∧ (∃ us, OwnSS wr w'.heap.size v (rowsI (cycsTo N s.1 k)) us) ∧ wr.ownsRow w'.heap.size 4 1 (.slice (some ⟨sb, 0, none⟩) N N) N (seenL N (cycsTo N s.1 k).flatten) ∧ Ring wr (· < N) ad s.1 s.2 (fun k => I k) ∧ wr.ownsRow w'.heap.size 71 1 (.slice A N c) N (ptrs ad N) ∧ Bl w' wr) (fun _ _ _ _ _ i _ => N - (intOf i).toNat)
  case atStart => exact ⟨0, Nat.zero_le _, rfl, ⟨[], HX3.out⟩, HS3.out, HR3.out, HE3.out, HB3.out⟩
  case round =>
    clear HS3 HB3 HR3 HE3 HX3
    obtain ⟨k, hk, rfl, ⟨us, hss⟩, hseen, hring, helem, hbl⟩ := hrel
    have HSS := Lib.hid hss
    have HSE := Lib.hid hseen
    have HRK := Lib.hid hring
    have HEK := Lib.hid helem
    have HBK := Lib.hid hbl
    clear hss hseen hring helem hbl
    by_cases hlt : k < N
    · obtain ⟨g, rfl, e1⟩ := elem_cell HEK.out hlt
      have hc1 := own_cell HSE.out (k := k) (by omega)
      rw [seenL_get _ hlt] at hc1
      have HST := Lib.hid (cycsTo_succ N s.1 k)
      unfold cycStep at HST
      have HIN := Lib.hid (cycsTo_inv HP.out k hk)
      generalize cycsTo N s.1 k = out at *
      by_cases hmem : k ∈ out.flatten
      · rw [decide_eq_true hmem] at hc1
        rw [if_pos hmem] at HST
        clear hmem
        go_wp2
        go_roundw
        case rel => exact ⟨k + 1, by omega, by go_num, ⟨us, by rw [HST.out]; exact HSS.out⟩, by rw [HST.out]; exact HSE.out, HRK.out, HEK.out, HBK.out⟩
        case measure => simp [intOf]; omega
      · rw [decide_eq_false hmem] at hc1
        rw [if_neg hmem] at HST
        clear hmem
        obtain ⟨L, hL⟩ := HP.out.cyc hlt
        rw [hL.eq] at HST
        have hLn := nodup_le N _ hL.nodup hL.lt
        have hLlt := hL.lt
        go_wp2_with fail
        refine (around_any HRK.out hlt L hL.path (List.nodup_cons.1 hL.nodup).1 (fun x hx => hL.lt x (by simp [hx])) (fun x => (x : Int)) (fun x _ => rfl) (by simp at hLn; omega)).mono ?_
        rintro e w5 ⟨v5, rfl, o5, r5, _, c5⟩
        have hzn : natI (k :: L) = (k :: L).map (fun x : Nat => (x : Int)) := rfl
        rw [← hzn] at o5
        clear hzn hL
        generalize k :: L = zs at *
        have O5 := Lib.hid o5
        have R5 := Lib.hid r5
        have C5 := Lib.hid c5
        have HZ := Lib.hid hLlt
        obtain ⟨A5, d5, hv5, hd5, hm5, hx5⟩ := own_open o5
        unfold maxLen at hm5
        rw [natI_len] at hv5 hd5
        subst hv5
        clear hx5 o5 r5 c5 hLlt
        have HSE5 := Lib.hid (own_chg HSE.out C5.out fun g hg ⟨j, hj, e⟩ => by subst e; exact HRK.out.ne_own HSE.out (by decide) j hj hg)
        have HEK5 := Lib.hid (own_chg HEK.out C5.out fun g hg ⟨j, hj, e⟩ => by subst e; exact HRK.out.ne_own HEK.out (by decide) j hj hg)
        have HSS5 := Lib.hid (HSS.out.chg C5.out (HSS.out.ne_ring HRK.out))
        have HBK5 := Lib.hid (bl_chg HBK.out C5.out fun i ⟨j, hj, e⟩ => by subst e; exact HA.out j hj)
        have HSP5 : Hid (∀ g, SSb u7 us g → ¬ (Value.slice A5 zs.length d5).ownBlock = some g) := fun g h1 h2 => by
          have l1 := (HSS.out.lt g h1).2
          have l2 := (own_lt O5.out g h2).1
          omega
        have OB5 := Lib.hid (own_base O5.out HBK.out.size)
        clear HSE HEK HSS HBK C5 HRK
        go_wp2
        go_loopw [12, 38] (fun _ i ws => ∃ j : Nat, j ≤ zs.length ∧ i = .int .i64 j ∧ ws.ownsRow w'.heap.size 4 1 (.slice (some ⟨sb, 0, none⟩) N N) N (seenL N (out.flatten ++ zs.take j)) ∧ Chg (fun b => (Value.slice (some ⟨sb, 0, none⟩) N N).ownBlock = some b) w5 ws) (fun _ i _ => zs.length - (intOf i).toNat)
        case atStart => exact ⟨0, Nat.zero_le _, rfl, by rw [List.take_zero, List.append_nil]; exact HSE5.out, Chg.refl _ _⟩
        case round =>
          obtain ⟨j, hj, rfl, hse, hch⟩ := hrel
          have HSJ := Lib.hid hse
          have HCJ := Lib.hid hch
          clear hse hch
          have OJ := Lib.hid (own_chg O5.out HCJ.out (own_ne O5.out HSE5.out (by decide)))
          by_cases hjl : j < zs.length
          · obtain ⟨g5, rfl, e5⟩ := own_int_get OJ.out (j := j) (by rw [natI_len]; exact hjl)
            rw [natI_get _ hjl] at e5
            have hzl := HZ.out _ (List.getElem_mem hjl)
            obtain ⟨x1, hx1⟩ : ∃ x, wr.cell? ⟨sb, zs[j], none⟩ = some x := ⟨_, own_cell (k := zs[j]) HSJ.out (by omega)⟩
            have hf1 := own_frozen HSJ.out zs[j]
            have hs1 := own_set (k := zs[j]) HSJ.out (.bool true)
            rw [seenL_set, List.append_assoc, ← List.take_succ_eq_append_getElem hjl] at hs1
            have HS1 := Lib.hid hs1
            have HC1 := Lib.hid (HCJ.out.setCell (p := ⟨sb, zs[j], none⟩) rfl (.bool true))
            clear hs1 e1 hc1
            generalize zs[j] = z at *
            go_wp2
            go_roundw
            case rel => exact ⟨j + 1, by omega, by go_num, HS1.out, HC1.out⟩
            case measure => simp [intOf]; omega
          · obtain rfl : j = zs.length := by omega
            have RJ := Lib.hid (R5.out.chg HCJ.out (R5.out.ne_own HSE5.out (by decide)))
            have EJ := Lib.hid (own_chg HEK5.out HCJ.out (own_ne HEK5.out HSE5.out (by decide)))
            have SJ := Lib.hid (HSS5.out.chg HCJ.out (HSS5.out.ne_own HSE5.out (by decide) (by decide)))
            have BJ := Lib.hid (bl_chg HBK5.out HCJ.out fun i hi => (own_lt HSE5.out i hi).1)
            have UJ := Lib.hid (own_chg OB5.out HCJ.out (own_ne OB5.out HSE5.out (by decide)))
            have hol := HIN.out.len_le
            rw [← rowsI_len] at hol
            rw [List.take_length] at HSJ
            have HSN := Lib.hid (rowsI_snoc out zs)
            clear OJ e1 hc1 hjl hj
            go_wp2_with (at_builtin; go_must (refine wpList_push wr rfl (.tmp 46) (.tmp 48) _ rfl w'.heap.size 23 i0 _ 24 Try.underlying35 hi hz0 hz1 hz2 rfl u7 _ us rfl SJ.out.own (.slice A5 zs.length d5) rfl rfl rfl (by omega) (by omega) BJ.out.size ?_); intro v6 w6 hown6 hchg6 hloc6)
            have X6 := Lib.hid (SJ.out.snoc2 UJ.out HSP5.out hown6 hchg6)
            have S6 := Lib.hid (own_chg HSJ.out hchg6 (own_ne HSJ.out SJ.out.own (by decide)))
            have R6 := Lib.hid (RJ.out.chg hchg6 (RJ.out.ne_own SJ.out.own (by decide)))
            have E6 := Lib.hid (own_chg EJ.out hchg6 (own_ne EJ.out SJ.out.own (by decide)))
            have B6 := Lib.hid (bl_own BJ.out SJ.out.own hchg6)
            have HFL : Hid ((out ++ [zs]).flatten = out.flatten ++ zs) := by show _ = _; simp
            clear hown6 hchg6 hloc6
            go_roundw
            case rel => exact ⟨k + 1, by omega, by go_num, ⟨_, by rw [HST.out, HSN.out]; exact X6.out⟩, by rw [HST.out, HFL.out]; exact S6.out, R6.out, E6.out, B6.out⟩
            case measure => simp [intOf]; omega
    · obtain rfl : k = N := by omega
      go_wp2
      go_ret
      exact ⟨_, us, rfl, by rw [HC.out]; exact HSS.out, HBK.out⟩

end Go.Proofs.Ytebkmegkdcnfaaa
