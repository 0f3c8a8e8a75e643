/- Words for memory: slices that read as lists, worlds in which little has changed. -/
import Derived.Test.YthgghafndabpfaaProg
import Derived.WalkKit
import Derived.WalkSpells
import Derived.WalkLawsBesides
import Derived.Lib.Hide
import Derived.Deep.Draws
import Derived.Deep.QuietTactic
import Derived.BigQuiet
import Derived.Maps.AppendAt
import Derived.Deep.DeepMust
import Derived.Deep.DeepFit
import Derived.StillTailTactics
import Derived.Deep.RegionLaw
import Derived.Deep.RegionHeld3
import Derived.Deep.DeepCutAuto
import Derived.Deep.LoopGhost
namespace Go.Proofs.Ythgghafndabpfaa
open Go.RowKit

/-- A pointer to the head of a block. -/
abbrev P (b : Nat) : Value := .pointer (some ⟨b, 0, none⟩)

/-- All that was there is as it was; new blocks may have come. -/
abbrev Bl (w w' : World) : Prop := Below w.heap.size w w'

theorem bl_refl (w : World) : Bl w w := Below.refl _ _
theorem bl_trans {a b c : World} (h : Bl a b) (k : Bl b c) : Bl a c := h.trans (k.mono h.size)
theorem bl_drewN {a w : World} (h : Bl a w) (n : Nat) : Bl a (w.drewN n) := ⟨h.os, h.tape, h.output, h.size, h.block⟩
theorem bl_drew {a w : World} (h : Bl a w) : Bl a w.drew := ⟨h.os, h.tape, h.output, h.size, h.block⟩
theorem bl_alloc {a w : World} (h : Bl a w) (o : Obj) : Bl a (w.alloc o) := Below.alloc h h.size o
theorem bl_set {a w : World} (h : Bl a w) {p : Addr} (hp : a.heap.size ≤ p.block) (u : Value) : Bl a (w.setCell p u) := Below.setCell h hp u

/-- Nothing but the blocks in S has changed; new blocks may have come. -/
structure Chg (S : Nat → Prop) (w w' : World) : Prop where
  os : w'.os = w.os
  tape : w'.tape = w.tape
  output : w'.output = w.output
  size : w.heap.size ≤ w'.heap.size
  block : ∀ k, k < w.heap.size → ¬ S k → w'.heap[k]? = w.heap[k]?

theorem Chg.refl (S : Nat → Prop) (w : World) : Chg S w w := ⟨rfl, rfl, rfl, Nat.le_refl _, fun _ _ _ => rfl⟩
theorem Chg.trans {S : Nat → Prop} {a b c : World} (h : Chg S a b) (k : Chg S b c) : Chg S a c :=
  ⟨k.os.trans h.os, k.tape.trans h.tape, k.output.trans h.output, Nat.le_trans h.size k.size, fun i hi hn => (k.block i (Nat.lt_of_lt_of_le hi h.size) hn).trans (h.block i hi hn)⟩
/-- Two changes, one behind the other; what came between does not count. -/
theorem Chg.then {S S' : Nat → Prop} {a b c : World} (h : Chg S a b) (k : Chg S' b c) (hs : ∀ i, S' i → i < a.heap.size → S i) : Chg S a c :=
  ⟨k.os.trans h.os, k.tape.trans h.tape, k.output.trans h.output, Nat.le_trans h.size k.size, fun i hi hn => (k.block i (Nat.lt_of_lt_of_le hi h.size) (fun e => hn (hs i e hi))).trans (h.block i hi hn)⟩
theorem Chg.mono {S S' : Nat → Prop} {a b : World} (h : Chg S a b) (hs : ∀ k, S k → k < a.heap.size → S' k) : Chg S' a b :=
  ⟨h.os, h.tape, h.output, h.size, fun k hk hn => h.block k hk (fun e => hn (hs k e hk))⟩
theorem Chg.setCell {S : Nat → Prop} {a w : World} (h : Chg S a w) {p : Addr} (hp : S p.block) (u : Value) : Chg S a (w.setCell p u) :=
  h.trans ⟨rfl, rfl, rfl, by simp, fun k _ hn => Below.heap_setCell _ _ _ _ (fun e => hn (e ▸ hp))⟩
theorem chg_of_bl {a b : World} (h : Bl a b) (S : Nat → Prop) : Chg S a b := ⟨h.os, h.tape, h.output, h.size, fun k hk _ => h.block k hk⟩
theorem Chg.bl {S : Nat → Prop} {a b : World} (h : Chg S a b) (hs : ∀ k, S k → a.heap.size ≤ k) : Bl a b :=
  ⟨h.os, h.tape, h.output, h.size, fun k hk => h.block k hk (fun e => by have := hs k e; omega)⟩
/-- A change of blocks that came later is no change of what was there. -/
theorem bl_chg {S : Nat → Prop} {a b c : World} (h : Bl a b) (k : Chg S b c) (hs : ∀ i, S i → a.heap.size ≤ i) : Bl a c :=
  ⟨k.os.trans h.os, k.tape.trans h.tape, k.output.trans h.output, Nat.le_trans h.size k.size, fun i hi => (k.block i (Nat.lt_of_lt_of_le hi h.size) (fun e => by have := hs i e; omega)).trans (h.block i hi)⟩
theorem chg_grown {a b : World} {row : Option Nat} (h : a.grownBy b row) : Chg (fun k => row = some k) a b := ⟨h.os, h.tape, h.output, h.size, fun k hk hn => h.block k hk (fun e => hn e.symm)⟩

theorem heap_setCell_same {w : World} {b i : Nat} {cs : Array Value} {t : TypeId} {fz : Nat × Nat} (h : w.heap[b]? = some (.cells cs t fz)) (u : Value) :
    (w.setCell ⟨b, i, none⟩ u).heap[b]? = some (.cells (cs.setIfInBounds i u) t fz) := by
  simp [World.setCell, Array.getElem?_modify, h]
theorem cell_of_heap {w : World} {b i : Nat} {cs : Array Value} {t : TypeId} {fz : Nat × Nat} (h : w.heap[b]? = some (.cells cs t fz)) : w.cell? ⟨b, i, none⟩ = cs[i]? := by
  simp [World.cell?, h]
theorem frozen_of_heap {w : World} {b i : Nat} {cs : Array Value} {t : TypeId} (h : w.heap[b]? = some (.cells cs t (0, 0))) : w.frozen? ⟨b, i, none⟩ = false := by
  simp [World.frozen?, h]
theorem lt_of_heap {w : World} {b : Nat} {o : Obj} (h : w.heap[b]? = some o) : b < w.heap.size := by
  rcases Nat.lt_or_ge b w.heap.size with h' | h'
  · exact h'
  · rw [Array.getElem?_eq_none h'] at h; cases h

/-- A slice value that reads as n elements of sz cells. -/
def Sl (w : World) (sz : Nat) (v : Value) (n : Nat) (cs : List Value) : Prop :=
  cs.length = n * sz ∧ ∃ A c, v = .slice A n c ∧ n ≤ c ∧ c ≤ maxLen ∧ (0 < n → ∃ b off, A = some ⟨b, off, none⟩ ∧ ∀ j u, cs[j]? = some u → w.cell? ⟨b, off + j, none⟩ = some u)

theorem Sl.cells {w w' : World} {sz n : Nat} {v : Value} {cs : List Value} (h : Sl w sz v n cs) (hc : ∀ p u, w.cell? p = some u → w'.cell? p = some u) : Sl w' sz v n cs := by
  obtain ⟨h1, A, c, rfl, h2, h3, h4⟩ := h
  refine ⟨h1, A, c, rfl, h2, h3, fun h => ?_⟩
  obtain ⟨b, off, e, h5⟩ := h4 h
  exact ⟨b, off, e, fun j u hu => hc _ _ (h5 j u hu)⟩
theorem Sl.bl {w w' : World} {sz n : Nat} {v : Value} {cs : List Value} (h : Sl w sz v n cs) (hb : Bl w w') : Sl w' sz v n cs :=
  h.cells fun p _ hu => (hb.cell (World.block_lt_of_cell? w p hu)).trans hu

theorem Sl.of_own {w : World} {base : Nat} {e : TypeId} {sz n : Nat} {v : Value} {cs : List Value} (h : w.ownsRow base e sz v n cs) : Sl w sz v n cs := by
  obtain ⟨h1, h2⟩ := h
  refine ⟨h1, ?_⟩
  rcases h2 with ⟨rfl, rfl⟩ | ⟨g, cap, cur, rfl, _, hg, h3, h4, h5, h6⟩
  · exact ⟨_, _, rfl, Nat.le_refl _, Nat.zero_le _, fun h => absurd h (by omega)⟩
  · refine ⟨_, _, rfl, h3, h4, fun _ => ⟨g, 0, rfl, fun j u hu => ?_⟩⟩
    rw [cell_of_heap hg, ← Array.getElem?_toList]
    rw [← h6, List.getElem?_take] at hu
    split at hu
    · simpa using hu
    · cases hu

/-- A slice of ints. -/
def Ints (w : World) (v : Value) (xs : List Int) : Prop := Sl w 1 v xs.length (xs.map (Value.int .i64))
theorem Ints.bl {w w' : World} {v : Value} {xs : List Int} (h : Ints w v xs) (hb : Bl w w') : Ints w' v xs := Sl.bl h hb
theorem Ints.len {w : World} {v : Value} {xs : List Int} (h : Ints w v xs) : xs.length ≤ maxLen := by
  obtain ⟨_, A, c, _, h1, h2, _⟩ := h; omega
/-- What a walk over it wants. -/
theorem Ints.open {w : World} {v : Value} {xs : List Int} (h : Ints w v xs) : ∃ A c, v = .slice A xs.length c ∧ xs.length ≤ c ∧ c ≤ maxLen ∧
    ∀ k (hk : k < xs.length), ∃ b off, A = some ⟨b, off, none⟩ ∧ w.cell? ⟨b, off + k, none⟩ = some (.int .i64 xs[k]) := by
  obtain ⟨h1, A, c, rfl, h2, h3, h4⟩ := h
  refine ⟨A, c, rfl, h2, h3, fun k hk => ?_⟩
  obtain ⟨b, off, e, h5⟩ := h4 (by omega)
  exact ⟨b, off, e, h5 k _ (by simp [hk])⟩

section
variable {w w' : World} {base : Nat} {e : TypeId} {sz n : Nat} {v : Value} {cs : List Value}

theorem own_open (h : w.ownsRow base e sz v n cs) : ∃ A c, v = .slice A n c ∧ n ≤ c ∧ c ≤ maxLen ∧ (0 < n → ∃ g, A = some ⟨g, 0, none⟩ ∧ base ≤ g ∧ g < w.heap.size) := by
  rcases h.2 with ⟨rfl, rfl⟩ | ⟨g, cap, cur, rfl, hb, hg, h3, h4, _⟩
  · exact ⟨_, _, rfl, Nat.le_refl _, Nat.zero_le _, fun h => absurd h (by omega)⟩
  · exact ⟨_, _, rfl, h3, h4, fun _ => ⟨g, rfl, hb, lt_of_heap hg⟩⟩

theorem own_cell {g c k : Nat} (h : w.ownsRow base e sz (.slice (some ⟨g, 0, none⟩) n c) n cs) (hk : k < n * sz) : w.cell? ⟨g, k, none⟩ = some (cs.getD k undef) := by
  rcases h.2 with ⟨h1, _⟩ | ⟨g', cap, cur, h1, hb, hg, h3, h4, h5, h6⟩
  · simp at h1
  · simp at h1
    obtain ⟨rfl, rfl⟩ := h1
    rw [cell_of_heap hg, ← Array.getElem?_toList]
    have hkl : k < cs.length := by rw [h.1]; exact hk
    have h7 : cs[k]? = cur.toList[k]? := by rw [← h6, List.getElem?_take, if_pos hk]
    rw [← h7, List.getElem?_eq_getElem hkl, List.getD_eq_getElem?_getD, List.getElem?_eq_getElem hkl]
    rfl

theorem own_frozen {g c : Nat} (h : w.ownsRow base e sz (.slice (some ⟨g, 0, none⟩) n c) n cs) (k : Nat) : w.frozen? ⟨g, k, none⟩ = false := by
  rcases h.2 with ⟨h1, _⟩ | ⟨g', cap, cur, h1, hb, hg, h3, h4, h5, h6⟩
  · simp at h1
  · simp at h1
    obtain ⟨rfl, rfl⟩ := h1
    exact frozen_of_heap hg

theorem own_set {g c k : Nat} (h : w.ownsRow base e sz (.slice (some ⟨g, 0, none⟩) n c) n cs) (u : Value) : (w.setCell ⟨g, k, none⟩ u).ownsRow base e sz (.slice (some ⟨g, 0, none⟩) n c) n (cs.set k u) := by
  refine ⟨by rw [List.length_set]; exact h.1, ?_⟩
  rcases h.2 with ⟨h1, _⟩ | ⟨g', cap, cur, h1, hb, hg, h3, h4, h5, h6⟩
  · simp at h1
  · simp at h1
    obtain ⟨rfl, rfl⟩ := h1
    refine .inr ⟨g, c, _, rfl, hb, heap_setCell_same hg u, h3, h4, by simpa using h5, ?_⟩
    rw [Array.toList_setIfInBounds, ← h6, List.take_set]

theorem own_keep (h : w.ownsRow base e sz v n cs) (hk : ∀ g, v.ownBlock = some g → w'.heap[g]? = w.heap[g]?) : w'.ownsRow base e sz v n cs := by
  refine ⟨h.1, ?_⟩
  rcases h.2 with h1 | ⟨g', cap, cur, rfl, hb, hg, h3⟩
  · exact .inl h1
  · exact .inr ⟨g', cap, cur, rfl, hb, (hk g' rfl).trans hg, h3⟩

theorem own_lt (h : w.ownsRow base e sz v n cs) : ∀ g, v.ownBlock = some g → base ≤ g ∧ g < w.heap.size := by
  intro g hg
  rcases h.2 with ⟨rfl, _⟩ | ⟨g', cap, cur, rfl, hb, hh, _⟩
  · simp [Value.ownBlock] at hg
  · simp [Value.ownBlock] at hg
    subst hg
    exact ⟨hb, lt_of_heap hh⟩

theorem own_bl (h : w.ownsRow base e sz v n cs) (hb : Bl w w') : w'.ownsRow base e sz v n cs := own_keep h fun g hg => hb.block g (own_lt h g hg).2
theorem own_chg {S : Nat → Prop} (h : w.ownsRow base e sz v n cs) (hb : Chg S w w') (hs : ∀ g, v.ownBlock = some g → ¬ S g) : w'.ownsRow base e sz v n cs := own_keep h fun g hg => hb.block g (own_lt h g hg).2 (hs g hg)
theorem own_base {base' : Nat} (h : w.ownsRow base e sz v n cs) (hb : base' ≤ base) : w.ownsRow base' e sz v n cs := by
  refine ⟨h.1, ?_⟩
  rcases h.2 with h1 | ⟨g', cap, cur, rfl, hb', h3⟩
  · exact .inl h1
  · exact .inr ⟨g', cap, cur, rfl, by omega, h3⟩
/-- What came later lies elsewhere. -/
theorem own_sep {v' : Value} (h : w.ownsRow base e sz v n cs) (h' : ∀ g, v'.ownBlock = some g → w.heap.size ≤ g) : ∀ g, v.ownBlock = some g → ¬ v'.ownBlock = some g := by
  intro g hg hg'
  have := (own_lt h g hg).2
  have := h' g hg'
  omega
theorem sep_of {A B : Nat → Prop} {n : Nat} (h1 : ∀ g, A g → g < n) (h2 : ∀ g, B g → n ≤ g) : ∀ g, A g → ¬ B g := fun g a b => by have := h1 g a; have := h2 g b; omega
/-- Blocks of different element types are different. -/
theorem own_ne {base' : Nat} {e' : TypeId} {sz' n' : Nat} {v' : Value} {cs' : List Value} (h : w.ownsRow base e sz v n cs) (h' : w.ownsRow base' e' sz' v' n' cs') (hne : e ≠ e') : ∀ g, v.ownBlock = some g → v'.ownBlock ≠ some g := by
  intro g hg hg'
  rcases h.2 with ⟨rfl, _⟩ | ⟨g1, cap, cur, rfl, _, hh, _⟩
  · simp [Value.ownBlock] at hg
  · rcases h'.2 with ⟨rfl, _⟩ | ⟨g2, cap', cur', rfl, _, hh', _⟩
    · simp [Value.ownBlock] at hg'
    · simp [Value.ownBlock] at hg hg'
      subst hg hg'
      rw [hh] at hh'
      simp at hh'
      exact hne hh'.2
end

theorem own_empty (w : World) (e : TypeId) (sz : Nat) : (w.alloc (.cells #[] e)).ownsRow w.heap.size e sz (.slice (some ⟨w.heap.size, 0, none⟩) 0 0) 0 [] :=
  ⟨by simp, .inr ⟨w.heap.size, 0, #[], rfl, Nat.le_refl _, heap_alloc_new w _, Nat.le_refl _, Nat.zero_le _, by simp, by simp⟩⟩

theorem own_empty_at {w : World} {base g : Nat} {e : TypeId} {sz : Nat} (h : w.heap[g]? = some (.cells #[] e (0, 0))) (hb : base ≤ g) : w.ownsRow base e sz (.slice (some ⟨g, 0, none⟩) 0 0) 0 [] :=
  ⟨by simp, .inr ⟨g, 0, #[], rfl, hb, h, Nat.le_refl _, Nat.zero_le _, by simp, by simp⟩⟩
theorem heap_two_0 (w : World) (a b : Obj) : ((w.alloc a).alloc b).drew.heap[w.heap.size]? = some a := (Below.heap_alloc (w.alloc a) b _ (by simp)).trans (heap_alloc_new w a)
theorem heap_two_1 (w : World) (a b : Obj) : ((w.alloc a).alloc b).drew.heap[w.heap.size + 1]? = some b := by
  have := heap_alloc_new (w.alloc a) b
  rwa [World.size_alloc] at this
theorem sl_one {w : World} {g : Nat} {u : Value} (h : w.cell? ⟨g, 0, none⟩ = some u) : Sl w 1 (.slice (some ⟨g, 0, none⟩) 1 1) 1 [u] := by
  refine ⟨rfl, _, _, rfl, Nat.le_refl _, by unfold maxLen; omega, fun _ => ⟨g, 0, rfl, fun j y hy => ?_⟩⟩
  cases j with
  | zero => simp at hy; subst hy; exact h
  | succ j => simp at hy
theorem chg_cell {S : Nat → Prop} {w w' : World} (hc : Chg S w w') {p : Addr} {u : Value} (h : w.cell? p = some u) (hs : ¬ S p.block) : w'.cell? p = some u :=
  (World.cell?_of_block (hc.block p.block (World.block_lt_of_cell? w p h) hs)).trans h

/-- 'v = append(v, u)': one element more. -/
theorem wpList_push {P : Program} (w0 : World) {ops : Array Oper} {rest : List Oper} {o : Oper} {a : Act} {Q : Exit → Act → World → Prop} (hgd : o.guard = none) (s x : Operand) (t : TypeId)
    (ho : o.op = .call { callee := .builtin .append, args := #[s, x], argTypes := #[t, t] })
    (base : Nat) (e : TypeId) (i : TypeInfo) (z : Value) (bytes : Nat) (ht : P.underlying t = some (.slice e)) (hi : P.info? e = some i) (hz : i.zero = some z)
    (hsize : i.size = 1) (hby : i.bytes = bytes) (hzs : z.cells.size = 1)
    (v : Value) (n : Nat) (xs : List Value) (hs : a.eval s = v) (hown : w0.ownsRow base e 1 v n xs) (u : Value) (hu : u.oneCell' = true)
    {bn : Nat} (hx : a.eval x = .slice (some ⟨bn, 0, none⟩) 1 1) (hbn : bn = w0.heap.size) (hbytes : (n + 1) * bytes ≤ 140737488355328) (hn : n + 1 ≤ 140737488355328) (hbase : base ≤ w0.heap.size)
    (h : ∀ v' w', w'.ownsRow base e 1 v' (n + 1) (xs ++ [u]) → Chg (fun k => v.ownBlock = some k) w0 w' → (∀ g, v'.ownBlock = some g → v.ownBlock = some g ∨ w0.heap.size ≤ g) → wpList P ops Q rest (a.put o.dst v') w') :
    wpList P ops Q (o :: rest) a (w0.alloc (.cells #[u] e)) := by
  subst hbn
  refine wpList_append_own_at (w0.alloc (.cells #[u] e)) hgd s x t ho base e i z 1 bytes ht hi hz hsize hby hzs (by decide) v n xs hs (hown.alloc _) ⟨w0.heap.size, 0, none⟩ 1 1 [u] hx rfl ?_ ?_ (by unfold maxLen; omega) hbytes (by simp; omega) ?_
  · intro j y hj
    cases j with
    | zero => simp at hj; subst hj; simp [Addr.add]
    | succ j => simp at hj
  · intro y hy; simp at hy; subst hy; exact hu
  · intro v' w' h1 h2 _ h4
    refine h v' w' h1 ?_ ?_
    · have h5 := chg_grown h2
      exact ⟨h5.os, h5.tape, h5.output, Nat.le_trans (by simp) h5.size, fun k hk hne => (h5.block k (by simp; omega) hne).trans (Below.heap_alloc _ _ _ hk)⟩
    · intro g hg
      rcases h4 with h4 | h4
      · exact .inl (h4 ▸ hg)
      · rw [h4] at hg
        simp at hg
        exact .inr (by omega)

/-- append of all elements of a slice that reads as cs (nil and empty ones too) onto a row of one's own. -/
theorem run_cat {P : Program} (w : World) (base : Nat) (t ty e : TypeId) (i : TypeInfo) (z : Value) (size bytes : Nat) (ht : P.underlying t = some (.slice e)) (hi : P.info? e = some i) (hz : i.zero = some z)
    (hsize : i.size = size) (hby : i.bytes = bytes) (hzs : z.cells.size = size) (hsz : 0 < size)
    (v : Value) (n : Nat) (xs : List Value) (hown : w.ownsRow base e size v n xs) (u : Value) (m : Nat) (cs : List Value) (hu : Sl w size u m cs) (h1 : ∀ y ∈ cs, y.oneCell' = true)
    (h63 : n + m ≤ maxLen) (hbytes : (n + m) * bytes ≤ 140737488355328) (hbase : base ≤ w.heap.size) :
    ∃ v' w', (Builtin.append_ #[t, t] ty #[v, u]).run P w = .ok v' w' ∧ w'.ownsRow base e size v' (n + m) (xs ++ cs) ∧ Chg (fun k => v.ownBlock = some k) w w' ∧ (∀ g, v'.ownBlock = some g → v.ownBlock = some g ∨ w.heap.size ≤ g) := by
  obtain ⟨hl, A, c, rfl, hmc, _, hA⟩ := hu
  rcases A with _ | ad
  · have hm : m = 0 := by
      rcases Nat.eq_zero_or_pos m with h0 | h0
      · exact h0
      · obtain ⟨b, off, h, _⟩ := hA h0
        cases h
    subst hm
    have hn : cs = [] := List.eq_nil_of_length_eq_zero (by simpa using hl)
    subst hn
    refine ⟨v, w, ?_, by simpa using hown, Chg.refl _ _, fun g hg => .inl hg⟩
    rcases hown.2 with ⟨rfl, rfl⟩ | ⟨g, cap, cur, rfl, _, _, hnc, _⟩
    · simp [Builtin.append_, run_underlying ht, sizeOf, typeInfo, hi, Builtin.lenOf, Builtin.firstCells]
    · simp [Builtin.append_, run_underlying ht, sizeOf, typeInfo, hi, Builtin.lenOf, Builtin.firstCells, hnc, storeCells]
  · have hcells : ∀ j y, cs[j]? = some y → w.cell? (ad.add j) = some y := by
      intro j y hy
      rcases Nat.eq_zero_or_pos m with h0 | h0
      · subst h0
        have hn : cs = [] := List.eq_nil_of_length_eq_zero (by simpa using hl)
        subst hn
        simp at hy
      · obtain ⟨b, off, h, hc⟩ := hA h0
        injection h with h
        subst h
        have := hc j y hy
        unfold Addr.add
        split
        · subst_vars; exact this
        · exact this
    obtain ⟨v', w', hrun, h2, h3, _, h5⟩ := run_append_own_at (P := P) w base t ty e i z size bytes ht hi hz hsize hby hzs hsz v n xs hown ad m c cs hl hcells h1 h63 hbytes hbase
    refine ⟨v', w', hrun, h2, chg_grown h3, fun g hg => ?_⟩
    rcases h5 with h5 | h5
    · exact .inl (h5 ▸ hg)
    · rw [h5] at hg; simp at hg; exact .inr (by omega)

theorem wp_cat {P : Program} (w : World) {o : Oper} {a : Act} {K : Act → World → Prop} {Q : Exit → Act → World → Prop} (s x : Operand) (t : TypeId)
    (ho : o.op = .call { callee := .builtin .append, args := #[s, x], argTypes := #[t, t] })
    (base : Nat) (e : TypeId) (i : TypeInfo) (z : Value) (size bytes : Nat) (ht : P.underlying t = some (.slice e)) (hi : P.info? e = some i) (hz : i.zero = some z)
    (hsize : i.size = size) (hby : i.bytes = bytes) (hzs : z.cells.size = size) (hsz : 0 < size)
    (v : Value) (n : Nat) (xs : List Value) (hs : a.eval s = v) (hown : w.ownsRow base e size v n xs) (u : Value) (m : Nat) (cs : List Value) (hx : a.eval x = u) (hu : Sl w size u m cs) (h1 : ∀ y ∈ cs, y.oneCell' = true)
    (h63 : n + m ≤ maxLen) (hbytes : (n + m) * bytes ≤ 140737488355328) (hbase : base ≤ w.heap.size)
    (h : ∀ v' w', w'.ownsRow base e size v' (n + m) (xs ++ cs) → Chg (fun k => v.ownBlock = some k) w w' → (∀ g, v'.ownBlock = some g → v.ownBlock = some g ∨ w.heap.size ≤ g) → K (a.put o.dst v') w') : o.wp P a w K Q := by
  obtain ⟨v', w', hrun, h2, h3, h4⟩ := run_cat (P := P) w base t o.type e i z size bytes ht hi hz hsize hby hzs hsz v n xs hown u m cs hu h1 h63 hbytes hbase
  unfold Oper.wp execOp
  simp only [ho, resolve, invoke, builtin, Sem.run_bind, Sem.run_pure, Result.andThen_ok, List.map_toArray, List.map_cons, List.map_nil, hs, hx, hrun]
  exact h v' w' h2 h3 h4

/-- the same, as an operation of a list of operations. -/
theorem wpList_cat {P : Program} (w : World) {ops : Array Oper} {rest : List Oper} {o : Oper} {a : Act} {Q : Exit → Act → World → Prop} (hgd : o.guard = none) (s x : Operand) (t : TypeId)
    (ho : o.op = .call { callee := .builtin .append, args := #[s, x], argTypes := #[t, t] })
    (base : Nat) (e : TypeId) (i : TypeInfo) (z : Value) (size bytes : Nat) (ht : P.underlying t = some (.slice e)) (hi : P.info? e = some i) (hz : i.zero = some z)
    (hsize : i.size = size) (hby : i.bytes = bytes) (hzs : z.cells.size = size) (hsz : 0 < size)
    (v : Value) (n : Nat) (xs : List Value) (hs : a.eval s = v) (hown : w.ownsRow base e size v n xs) (u : Value) (m : Nat) (cs : List Value) (hx : a.eval x = u) (hu : Sl w size u m cs) (h1 : ∀ y ∈ cs, y.oneCell' = true)
    (h63 : n + m ≤ maxLen) (hbytes : (n + m) * bytes ≤ 140737488355328) (hbase : base ≤ w.heap.size)
    (h : ∀ v' w', w'.ownsRow base e size v' (n + m) (xs ++ cs) → Chg (fun k => v.ownBlock = some k) w w' → (∀ g, v'.ownBlock = some g → v.ownBlock = some g ∨ w.heap.size ≤ g) → wpList P ops Q rest (a.put o.dst v') w') : wpList P ops Q (o :: rest) a w :=
  wpList_plain hgd fun _ hK => wp_cat w s x t ho base e i z size bytes ht hi hz hsize hby hzs hsz v n xs hs hown u m cs hx hu h1 h63 hbytes hbase fun v' w' h2 h3 h4 => hK _ _ (h v' w' h2 h3 h4)

/-- the same, as a step of a region that draws its order. -/
theorem step_cat {P : Program} (w : World) {ops : Array Oper} {o : Oper} {a : Act} {K : Act → World → Prop} {Q : Exit → Act → World → Prop} {E : Prop} (hgd : o.guard = none) (s x : Operand) (t : TypeId)
    (ho : o.op = .call { callee := .builtin .append, args := #[s, x], argTypes := #[t, t] })
    (base : Nat) (e : TypeId) (i : TypeInfo) (z : Value) (size bytes : Nat) (ht : P.underlying t = some (.slice e)) (hi : P.info? e = some i) (hz : i.zero = some z)
    (hsize : i.size = size) (hby : i.bytes = bytes) (hzs : z.cells.size = size) (hsz : 0 < size)
    (v : Value) (n : Nat) (xs : List Value) (hs : a.eval s = v) (hown : w.ownsRow base e size v n xs) (u : Value) (m : Nat) (cs : List Value) (hx : a.eval x = u) (hu : Sl w size u m cs) (h1 : ∀ y ∈ cs, y.oneCell' = true)
    (h63 : n + m ≤ maxLen) (hbytes : (n + m) * bytes ≤ 140737488355328) (hbase : base ≤ w.heap.size)
    (h : ∀ v' w', w'.ownsRow base e size v' (n + m) (xs ++ cs) → Chg (fun k => v.ownBlock = some k) w w' → (∀ g, v'.ownBlock = some g → v.ownBlock = some g ∨ w.heap.size ≤ g) → K (a.put o.dst v') w') :
    if Region.wanted o (yielded ops a.tmps) = true then Oper.wp P o a w K Q else E := by
  have hw : Region.wanted o (yielded ops a.tmps) = true := by simp [Region.wanted, hgd]
  rw [if_pos hw]
  exact wp_cat w s x t ho base e i z size bytes ht hi hz hsize hby hzs hsz v n xs hs hown u m cs hx hu h1 h63 hbytes hbase h

/-- A region that draws its order: all but the last few operations leave the world alone. -/
theorem region_tail {P : Program} {id : Nat} {Q : Exit → Act → World → Prop} {a : Act} {w : World} {l : List Oper} (n : Nat) (hm : P.follows .mixedOrders = true) (hB : Region.lexTailB .any l.toArray n = true)
    (h : wpStill P l.toArray w.drew (fun a' => wpList P l.toArray Q (l.drop n) a' w.drew) (l.take n) a) : (Code.region id l.toArray true).wp P Q a w := wp_region_still_tail n hm hB h

/-- The call gives back a new slice of ints; nothing else has changed. -/
def NewInts (w : World) (xs : List Int) (e : Ending) (w' : World) : Prop :=
  ∃ v, e = .returned v ∧ w'.ownsRow w.heap.size 3 1 v xs.length (xs.map (Value.int .i64)) ∧ Bl w w'

/-- A slice of ints of one's own. -/
abbrev OwnI (w : World) (base : Nat) (v : Value) (xs : List Int) : Prop := w.ownsRow base 3 1 v xs.length (xs.map (Value.int .i64))

theorem OwnI.ints {w : World} {base : Nat} {v : Value} {xs : List Int} (h : OwnI w base v xs) : Ints w v xs := Sl.of_own h

theorem OwnI.snoc {w : World} {base : Nat} {v : Value} {xs : List Int} {x : Int} (h : w.ownsRow base 3 1 v (xs.length + 1) (xs.map (Value.int .i64) ++ [.int .i64 x])) : OwnI w base v (xs ++ [x]) := by
  unfold OwnI; rw [List.length_append, List.map_append]; exact h

/-- A change of a slice of one's own is no change of what was there. -/
theorem bl_own {a w w' : World} {e : TypeId} {sz n : Nat} {v : Value} {cs : List Value} (hb : Bl a w) (hv : w.ownsRow a.heap.size e sz v n cs) (hc : Chg (fun k => v.ownBlock = some k) w w') : Bl a w' :=
  bl_chg hb hc fun i hi => (own_lt hv i hi).1

theorem ret_num {k : IntKind} {a b : Int} (h : a = b) : Ending.returned (.int k a) = .returned (.int k b) := by rw [h]

theorem intInfo : (Try.prog.info? 3).map (fun i => (i.zero, i.size, i.bytes)) = some (some (.int .i64 0), 1, 8) := by kernel_rfl

/-- An int in an interface. -/
abbrev I (x : Int) : Value := .iface 3 (.int .i64 x)

/-- 'v.(int)' where v holds an int. -/
theorem run_assert_int (x : Int) (w : World) : (Instr.typeAssert (I x) 20 3 false).run Try.prog w = .ok (.int .i64 x) w := by
  simp [Instr.typeAssert, run_underlying Try.underlying3]

/-- k, k + 1, .. -/
def marks (k : Int) (n : Nat) : List Int := (List.range n).map fun (i : Nat) => k + i
theorem marks_len (k : Int) (n : Nat) : (marks k n).length = n := by simp [marks]
theorem marks_get (k : Int) {n i : Nat} (h : i < n) : (marks k n)[i]'(by rw [marks_len]; exact h) = k + i := by simp [marks]
theorem marks_succ (k : Int) (n : Nat) : marks k (n + 1) = marks k n ++ [k + n] := by simp [marks, List.range_succ]

theorem set_mid {α : Type} (xs ys : List α) (k : Nat) (u : α) (h : xs.length = k) (hk : k < ys.length) : (xs ++ ys.drop k).set k u = (xs ++ [u]) ++ ys.drop (k + 1) := by
  subst h
  rw [List.drop_eq_getElem_cons hk, List.set_append_right _ _ (Nat.le_refl _), Nat.sub_self, List.append_assoc]
  rfl

end Go.Proofs.Ythgghafndabpfaa
