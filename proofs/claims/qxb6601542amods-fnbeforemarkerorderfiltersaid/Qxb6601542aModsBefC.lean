import Derived.Test.Qxb6601542aModsBefB
set_option linter.unusedVariables false
namespace Go.Proofs.Qxb6601542aMods.bef
open Go.RowKit

/-! ### THE PLAIN LAW: the least first offset of each transaction and those after it -/
def sm : List Txn → List Int
  | [] => []
  | t :: ts => (match sm ts with | [] => t.f | m :: _ => min t.f m) :: sm ts
theorem sm_len : ∀ ts, (sm ts).length = ts.length
  | [] => rfl
  | t :: ts => by simp [sm, sm_len ts]
theorem sm_app : ∀ (ts : List Txn) (t : Txn), sm (ts ++ [t]) = (sm ts).map (min · t.f) ++ [t.f]
  | [], t => rfl
  | x :: ts, t => by
    have ih := sm_app ts t
    cases ts with
    | nil => simp [sm]
    | cons y ys =>
      simp only [List.cons_append, sm] at ih ⊢
      simp only [List.map_cons, List.cons_append, List.cons.injEq] at ih ⊢
      obtain ⟨h1, h2⟩ := ih
      rw [h1, h2]
      refine ⟨?_, rfl, rfl⟩
      omega
/-- It never falls. -/
theorem sm_mono : ∀ ts, (sm ts).Pairwise (· ≤ ·)
  | [] => List.Pairwise.nil
  | t :: ts => by
    have ih := sm_mono ts
    cases ts with
    | nil => simp [sm]
    | cons y ys =>
      rw [sm]
      simp only [sm] at ih ⊢
      rw [List.pairwise_cons] at ih ⊢
      rw [List.pairwise_cons]
      refine ⟨?_, ih⟩
      intro a ha
      rcases List.mem_cons.1 ha with rfl | ha
      · exact Int.min_le_right _ _
      · have := ih.1 a ha
        omega

/-- The row of minima while 'add' works backward: k of them still to be looked at. -/
def ffs (M : List Int) (f : Int) (k : Nat) : List Int := M.take k ++ (M.drop k).map (min · f) ++ [f]
theorem ffs_start (M : List Int) (f : Int) : ffs M f M.length = M ++ [f] := by simp [ffs]
theorem ffs_len (M : List Int) (f : Int) (k : Nat) (h : k ≤ M.length) : (ffs M f k).length = M.length + 1 := by simp [ffs]; omega
theorem ffs_get (M : List Int) (f : Int) (k : Nat) (h0 : 0 < k) (h : k ≤ M.length) : (ffs M f k).getD (k - 1) 0 = M.getD (k - 1) 0 := by
  unfold ffs
  rw [List.append_assoc]
  simp only [List.getD]
  rw [List.getElem?_append_left (by simp; omega), List.getElem?_take, if_pos (by omega)]
theorem ffs_step (M : List Int) (f : Int) (k : Nat) (h0 : 0 < k) (h : k ≤ M.length) (hf : f < M.getD (k - 1) 0) : (ffs M f k).set (k - 1) f = ffs M f (k - 1) := by
  obtain ⟨j, rfl⟩ : ∃ j, k = j + 1 := ⟨k - 1, by omega⟩
  simp only [Nat.add_sub_cancel] at hf ⊢
  have hj : j < M.length := by omega
  have e : M.getD j 0 = M[j] := by simp [List.getD, hj]
  rw [e] at hf
  unfold ffs
  rw [List.append_assoc, List.append_assoc, List.take_succ_eq_append_getElem hj, List.append_assoc, List.set_append_right _ _ (by simp; omega)]
  rw [List.drop_eq_getElem_cons hj]
  have e2 : j - (M.take j).length = 0 := by simp; omega
  rw [e2]
  simp only [List.set_cons_zero, List.map_cons, List.cons_append, List.nil_append]
  rw [show min M[j] f = f by omega]
theorem ffs_end (M : List Int) (f : Int) (k : Nat) (h : k ≤ M.length) (hm : M.Pairwise (· ≤ ·)) (hk : 0 < k → M.getD (k - 1) 0 ≤ f) : ffs M f k = M.map (min · f) ++ [f] := by
  unfold ffs
  congr 1
  rw [← List.take_append_drop k (M.map (min · f)), List.map_drop]
  congr 1
  rw [← List.map_take]
  conv => lhs; rw [← List.map_id (M.take k)]
  apply List.map_congr_left
  intro a ha
  obtain ⟨i, hi, rfl⟩ := List.mem_iff_getElem.1 ha
  simp at hi
  have hik : M[i] ≤ M.getD (k - 1) 0 := by
    have e : M.getD (k - 1) 0 = M[k - 1]'(by omega) := by simp [List.getD, show k - 1 < M.length by omega]
    rw [e]
    by_cases c : i = k - 1
    · subst c; exact Int.le_refl _
    · exact List.pairwise_iff_getElem.1 hm i (k - 1) (by omega) (by omega) (by omega)
  have := hk (by omega)
  simp
  omega
theorem add_law (ts : List Txn) (t : Txn) (k : Nat) (h : k ≤ ts.length) (hk : 0 < k → (sm ts).getD (k - 1) 0 ≤ t.f) : ffs (sm ts) t.f k = sm (ts ++ [t]) := by
  rw [sm_app]
  exact ffs_end _ _ k (by rw [sm_len]; exact h) (sm_mono ts) hk

/-! ### Blocks -/
/-- w' is w but for block gk and blocks from B on. -/
structure Fr (B gk : Nat) (w w' : World) : Prop where
  os : w'.os = w.os
  tape : w'.tape = w.tape
  output : w'.output = w.output
  size : w.heap.size ≤ w'.heap.size
  block : ∀ b, b < B → b ≠ gk → w'.heap[b]? = w.heap[b]?
theorem Fr.refl (B gk : Nat) (w : World) : Fr B gk w w := ⟨rfl, rfl, rfl, Nat.le_refl _, fun _ _ _ => rfl⟩
theorem Fr.trans {B gk : Nat} {a b c : World} (h : Fr B gk a b) (k : Fr B gk b c) : Fr B gk a c :=
  ⟨k.os.trans h.os, k.tape.trans h.tape, k.output.trans h.output, Nat.le_trans h.size k.size, fun i hi hn => (k.block i hi hn).trans (h.block i hi hn)⟩
theorem Fr.drew {B gk : Nat} {a w : World} (h : Fr B gk a w) : Fr B gk a w.drew := ⟨h.os, h.tape, h.output, h.size, h.block⟩
theorem Fr.drewN {B gk : Nat} {a w : World} (h : Fr B gk a w) (n : Nat) : Fr B gk a (w.drewN n) := ⟨h.os, h.tape, h.output, h.size, h.block⟩
theorem Fr.alloc {B gk : Nat} {a w : World} (h : Fr B gk a w) (hB : B ≤ w.heap.size) (o : Obj) : Fr B gk a (w.alloc o) :=
  h.trans ⟨rfl, rfl, rfl, by simp, fun b hb _ => Below.heap_alloc _ _ _ (by omega)⟩
theorem Fr.setCell {B gk : Nat} {a w : World} (h : Fr B gk a w) {p : Addr} (hp : p.block = gk ∨ B ≤ p.block) (u : Value) : Fr B gk a (w.setCell p u) :=
  h.trans ⟨rfl, rfl, rfl, by simp [World.setCell], fun b hb hn => Below.heap_setCell _ _ _ _ (by omega)⟩
theorem Fr.grown {B gk : Nat} {a w w' : World} {row : Option Nat} (h : Fr B gk a w) (hg : w.grownBy w' row) (hB : B ≤ w.heap.size) (hr : ∀ k, row = some k → B ≤ k) : Fr B gk a w' :=
  h.trans ⟨hg.os, hg.tape, hg.output, hg.size, fun k hk _ => hg.block k (by omega) (fun e => by have := hr k e.symm; omega)⟩
theorem Fr.below {B gk : Nat} {w w' : World} (h : Fr B gk w w') {A : Nat} (h1 : A ≤ B) (h2 : A ≤ gk) : Below A w w' :=
  ⟨h.os, h.tape, h.output, h.size, fun k hk => h.block k (by omega) (by omega)⟩

theorem grown_setCell (w : World) (g j : Nat) (u : Value) : w.grownBy (w.setCell ⟨g, j, none⟩ u) (some g) :=
  ⟨rfl, rfl, rfl, by simp, fun k _ hk => heap_setCell_other w ⟨g, j, none⟩ k u (fun e => hk (by simp [e]))⟩
theorem blk_ne {w : World} {B e size n g e' : Nat} {v : Value} {xs : List Value} {cs : Array Value} {fr : Nat × Nat} (h : w.ownsRow B e size v n xs) (hb : w.heap[g]? = some (.cells cs e' fr)) (hne : e ≠ e') : v.ownBlock ≠ some g := by
  rcases h.2 with ⟨rfl, _⟩ | ⟨g', cap, cur, rfl, _, hg, _⟩
  · simp [Value.ownBlock]
  · intro c
    simp [Value.ownBlock] at c
    subst c
    rw [hb] at hg
    simp at hg
    exact hne hg.2.1.symm
theorem own_apart {w : World} {B B' e e' s s' n n' : Nat} {v v' : Value} {xs xs' : List Value} (h : w.ownsRow B e s v n xs) (h' : w.ownsRow B' e' s' v' n' xs') (hne : e ≠ e') : v.ownBlock = none ∨ v.ownBlock ≠ v'.ownBlock := by
  rcases h'.2 with ⟨rfl, _⟩ | ⟨g', cap, cur, rfl, _, hg, _⟩
  · cases hv : v.ownBlock
    · exact .inl rfl
    · exact .inr (by simp [Value.ownBlock])
  · exact .inr (blk_ne h hg hne)
theorem blk_cell {w : World} {g j e : Nat} {cs : Array Value} {fr : Nat × Nat} {v : Value} (h : w.heap[g]? = some (.cells cs e fr)) (hj : cs[j]? = some v) : w.cell? ⟨g, j, none⟩ = some v := by
  rw [cell_of_row w g j cs e fr h]
  exact hj
theorem blk_free {w : World} {g j e : Nat} {cs : Array Value} (h : w.heap[g]? = some (.cells cs e (0, 0))) : w.frozen? ⟨g, j, none⟩ = false := frozen_of_row w g j cs e h
theorem blk_lt {w : World} {b : Nat} {o : Obj} (h : w.heap[b]? = some o) : b < w.heap.size := (Array.getElem?_eq_some_iff.1 h).1

/-- ONE FIELD OF THE STRUCT IN BLOCK gk IS APPENDED TO: 'p.f = append(p.f, x)'. -/
theorem field_step {w wA w1 : World} {o ob : Obj} {B gk bx j e e' s s' n m n1 : Nat} {cs : Array Value} {v u v1 : Value} {xs ys xs1 : List Value}
    (hk : wA.heap[gk]? = some (.cells cs 43 (0, 0))) (hv : wA.ownsRow B e s v n xs) (hu : wA.ownsRow B e' s' u m ys) (hb : wA.heap[bx]? = some ob) (hvb : v.ownBlock ≠ some bx) (hbk : bx ≠ gk)
    (h1 : e ≠ 43) (h2 : e' ≠ 43) (h3 : e' ≠ e) (hB : B ≤ wA.heap.size) (hg : (wA.alloc o).drew.grownBy w1 v.ownBlock) (hv1 : w1.ownsRow B e s v1 n1 xs1) (hf : Fr B gk w wA) :
    (w1.setCell ⟨gk, j, none⟩ v1).heap[gk]? = some (.cells (cs.setIfInBounds j v1) 43 (0, 0)) ∧ (w1.setCell ⟨gk, j, none⟩ v1).ownsRow B e s v1 n1 xs1 ∧
    (w1.setCell ⟨gk, j, none⟩ v1).ownsRow B e' s' u m ys ∧ (w1.setCell ⟨gk, j, none⟩ v1).heap[bx]? = some ob ∧ Fr B gk w (w1.setCell ⟨gk, j, none⟩ v1) := by
  have hsz : (wA.alloc o).drew.heap.size = wA.heap.size + 1 := by simp
  have hkA : (wA.alloc o).drew.heap[gk]? = some (.cells cs 43 (0, 0)) := (Below.heap_alloc wA o gk (blk_lt hk)).trans hk
  have hbA : (wA.alloc o).drew.heap[bx]? = some ob := (Below.heap_alloc wA o bx (blk_lt hb)).trans hb
  have hk1 : w1.heap[gk]? = some (.cells cs 43 (0, 0)) := (hg.block gk (blk_lt hkA) (fun c => blk_ne hv hk h1 c.symm)).trans hkA
  have hb1 : w1.heap[bx]? = some ob := (hg.block bx (blk_lt hbA) (fun c => hvb c.symm)).trans hbA
  have hu1 : w1.ownsRow B e' s' u m ys := ((hu.alloc o).drew).kept hg (own_apart hu hv h3)
  refine ⟨heap_setCell_same w1 gk j cs 43 v1 hk1, hv1.kept (grown_setCell w1 gk j v1) (.inr (blk_ne hv1 hk1 h1)), hu1.kept (grown_setCell w1 gk j v1) (.inr (blk_ne hu1 hk1 h2)), ?_, ?_⟩
  · rw [heap_setCell_other w1 ⟨gk, j, none⟩ bx v1 hbk]; exact hb1
  · exact ((hf.alloc hB o).drew.grown hg (by omega) (fun k hk => (hv.lt k hk).1)).setCell (.inl rfl) _
end Go.Proofs.Qxb6601542aMods.bef
