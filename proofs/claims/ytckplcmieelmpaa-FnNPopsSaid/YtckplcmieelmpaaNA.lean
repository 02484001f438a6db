/- Part 1 of the texts for the statement FnNPopsSaid: the package's tree of maps and sets, its functions' contracts. -/
import Derived.WalkKit
import Derived.Laws.IdiomCopy
import Derived.Deep.DeepAppendWide
import Derived.Deep.Draws
import Derived.Laws.Rows
import Derived.Orders
namespace Go.Wb.Heap

/-- In a heap no item is less than its parent (g: the items' ranks by place). -/
def Ok (n : Nat) (g : Nat → Int) : Prop := ∀ j, 0 < j → j < n → g ((j - 1) / 2) ≤ g j
/-- A heap but for the item at i, which may be too small. -/
def Up (n : Nat) (g : Nat → Int) (i : Nat) : Prop := (∀ j, 0 < j → j < n → j ≠ i → g ((j - 1) / 2) ≤ g j) ∧ ∀ j, 0 < j → j < n → (j - 1) / 2 = i → 0 < i → g ((i - 1) / 2) ≤ g j
/-- A heap but for the item at i, which may be too great. -/
def Down (n : Nat) (g : Nat → Int) (i : Nat) : Prop := (∀ j, 0 < j → j < n → (j - 1) / 2 ≠ i → g ((j - 1) / 2) ≤ g j) ∧ ∀ j, 0 < j → j < n → (j - 1) / 2 = i → 0 < i → g ((i - 1) / 2) ≤ g j
/-- Two places change their items. -/
def sw (g : Nat → Int) (a b : Nat) (j : Nat) : Int := if j = a then g b else if j = b then g a else g j

theorem Up.init {n : Nat} {g : Nat → Int} (h : Ok n g) : Up (n + 1) g n := ⟨fun j h1 h2 h3 => h j h1 (by omega), fun j h1 h2 h3 => by omega⟩
theorem Up.zero {n : Nat} {g : Nat → Int} (h : Up n g 0) : Ok n g := fun j h1 h2 => h.1 j h1 h2 (by omega)
theorem Up.done {n : Nat} {g : Nat → Int} {i : Nat} (h : Up n g i) (hl : ¬ g i < g ((i - 1) / 2)) : Ok n g := fun j h1 h2 => by
  by_cases e : j = i
  · subst e; omega
  · exact h.1 j h1 h2 e
theorem Up.step {n : Nat} {g : Nat → Int} {i : Nat} (h : Up n g i) (hi : 0 < i) (hn : i < n) (hl : g i < g ((i - 1) / 2)) : Up n (sw g i ((i - 1) / 2)) ((i - 1) / 2) := by
  obtain ⟨h1, h2⟩ := h
  generalize hp : (i - 1) / 2 = p at *
  have hpi : p < i := by omega
  refine ⟨fun j j1 j2 j3 => ?_, fun j j1 j2 j3 j4 => ?_⟩
  · unfold sw
    by_cases e : j = i
    · subst e
      rw [hp, if_neg (by omega), if_pos rfl, if_pos rfl]; omega
    · rw [if_neg e, if_neg j3]
      have hj := h1 j j1 j2 e
      by_cases e1 : (j - 1) / 2 = i
      · rw [if_pos e1]; exact h2 j j1 j2 e1 hi
      · rw [if_neg e1]
        by_cases e2 : (j - 1) / 2 = p
        · rw [if_pos e2]; rw [e2] at hj; omega
        · rw [if_neg e2]; exact hj
  · have hpp := h1 p j4 (by omega) (by omega)
    unfold sw
    rw [if_neg (by omega), if_neg (by omega)]
    by_cases e : j = i
    · subst e; rw [if_pos rfl]; exact hpp
    · rw [if_neg e, if_neg (by omega)]
      have hj := h1 j j1 j2 e
      rw [j3] at hj
      omega

theorem Down.init {n : Nat} {g g' : Nat → Int} (h : Ok (n + 1) g) (hg : ∀ j, 0 < j → j < n → g' j = g j) : Down n g' 0 := ⟨fun j h1 h2 h3 => by
  rw [hg j h1 h2, hg _ (by omega) (by omega)]
  exact h j h1 (by omega), fun j h1 h2 h3 h4 => by omega⟩
theorem Down.done {n : Nat} {g : Nat → Int} {i : Nat} (h : Down n g i) (hl : i * 2 + 1 < n → g i ≤ g (i * 2 + 1)) (hr : i * 2 + 2 < n → g i ≤ g (i * 2 + 2)) : Ok n g := fun j h1 h2 => by
  by_cases e : (j - 1) / 2 = i
  · rw [e]
    have : j = i * 2 + 1 ∨ j = i * 2 + 2 := by omega
    rcases this with rfl | rfl
    · exact hl h2
    · exact hr h2
  · exact h.1 j h1 h2 e
theorem Down.step {n : Nat} {g : Nat → Int} {i s : Nat} (h : Down n g i) (hs : s = i * 2 + 1 ∨ s = i * 2 + 2) (hn : s < n) (hl : i * 2 + 1 < n → g s ≤ g (i * 2 + 1)) (hr : i * 2 + 2 < n → g s ≤ g (i * 2 + 2)) (hi : g s ≤ g i) : Down n (sw g s i) s := by
  obtain ⟨h1, h2⟩ := h
  have hps : (s - 1) / 2 = i := by omega
  have his : i < s := by omega
  have kids : ∀ j, 0 < j → j < n → (j - 1) / 2 = i → g s ≤ g j := fun j h1 h2 h3 => by
    have : j = i * 2 + 1 ∨ j = i * 2 + 2 := by omega
    rcases this with rfl | rfl
    · exact hl h2
    · exact hr h2
  refine ⟨fun j j1 j2 j3 => ?_, fun j j1 j2 j3 j4 => ?_⟩
  · unfold sw
    by_cases e : j = s
    · subst e
      rw [hps, if_neg (by omega), if_pos rfl, if_pos rfl]; exact hi
    · rw [if_neg e, if_neg j3]
      by_cases e1 : j = i
      · subst e1
        rw [if_neg (by omega), if_pos rfl]
        exact h2 s (by omega) hn hps j1
      · rw [if_neg e1]
        by_cases e2 : (j - 1) / 2 = i
        · rw [if_pos e2]; exact kids j j1 j2 e2
        · rw [if_neg e2]; exact h1 j j1 j2 e2
  · unfold sw
    rw [hps, if_neg (by omega), if_pos rfl, if_neg (by omega), if_neg (by omega)]
    have := h1 j j1 j2 (by omega)
    rwa [j3] at this
theorem Ok.least {n : Nat} {g : Nat → Int} (h : Ok n g) : ∀ j, j < n → g 0 ≤ g j := by
  intro j
  induction j using Nat.strongRecOn with
  | _ j ih =>
    intro hj
    by_cases e : j = 0
    · subst e; omega
    · have h1 := ih ((j - 1) / 2) (by omega) (by omega)
      have h2 := h j (by omega) hj
      omega
theorem Ok.congr {n : Nat} {g g' : Nat → Int} (h : Ok n g) (e : ∀ j, j < n → g' j = g j) : Ok n g' := fun j h1 h2 => by
  rw [e j h2, e _ (by omega)]; exact h j h1 h2
theorem Up.congr {n i : Nat} {g g' : Nat → Int} (h : Up n g i) (hi : i < n) (e : ∀ j, j < n → g' j = g j) : Up n g' i :=
  ⟨fun j h1 h2 h3 => by rw [e j h2, e _ (by omega)]; exact h.1 j h1 h2 h3, fun j h1 h2 h3 h4 => by rw [e j h2, e _ (by omega)]; exact h.2 j h1 h2 h3 h4⟩
theorem Down.congr {n i : Nat} {g g' : Nat → Int} (h : Down n g i) (e : ∀ j, j < n → g' j = g j) : Down n g' i :=
  ⟨fun j h1 h2 h3 => by rw [e j h2, e _ (by omega)]; exact h.1 j h1 h2 h3, fun j h1 h2 h3 h4 => by rw [e j h2, e _ (by omega)]; exact h.2 j h1 h2 h3 h4⟩

/-! ### lists of items -/
abbrev Itm := Int × Int
def at_ (l : List Itm) (j : Nat) : Itm := l.getD j (0, 0)
def swap (l : List Itm) (a b : Nat) : List Itm := (l.set a (at_ l b)).set b (at_ l a)
theorem at_some {l : List Itm} {j : Nat} (h : j < l.length) : l[j]? = some (at_ l j) := by simp [at_, h]
theorem at_set {l : List Itm} {a : Nat} (x : Itm) (h : a < l.length) (j : Nat) : at_ (l.set a x) j = if j = a then x else at_ l j := by
  unfold at_
  rw [List.getD_eq_getElem?_getD, List.getD_eq_getElem?_getD, List.getElem?_set]
  by_cases e : a = j
  · subst e; simp [h]
  · rw [if_neg e, if_neg (fun h => e h.symm)]
theorem swap_length (l : List Itm) (a b : Nat) : (swap l a b).length = l.length := by simp [swap]
theorem at_swap {l : List Itm} {a b : Nat} (ha : a < l.length) (hb : b < l.length) (j : Nat) : at_ (swap l a b) j = if j = b then at_ l a else if j = a then at_ l b else at_ l j := by
  unfold swap
  rw [at_set _ (by simpa using hb), at_set _ ha]
theorem swap_comm (l : List Itm) {a b : Nat} (h : a ≠ b) : swap l a b = swap l b a := by
  unfold swap
  rw [List.set_comm _ _ h]
theorem swap_perm {l : List Itm} {a b : Nat} (ha : a < l.length) (hb : b < l.length) : (swap l a b).Perm l := by
  have e1 : at_ l b = l[b] := by simp [at_, hb]
  have e2 : at_ l a = l[a] := by simp [at_, ha]
  unfold swap
  rw [e1, e2]
  exact List.set_set_perm ha hb
theorem swap_sw (f : Itm → Int) {l : List Itm} {a b : Nat} (ha : a < l.length) (hb : b < l.length) (j : Nat) : f (at_ (swap l a b) j) = sw (fun j => f (at_ l j)) a b j := by
  rw [at_swap ha hb]
  unfold sw
  by_cases e2 : j = b
  · by_cases e1 : j = a
    · rw [if_pos e2, if_pos e1, ← e1, ← e2]
    · rw [if_pos e2, if_neg e1, if_pos e2]
  · by_cases e1 : j = a
    · rw [if_neg e2, if_pos e1, if_pos e1]
    · rw [if_neg e2, if_neg e1, if_neg e1, if_neg e2]

def IsHeap (f : Itm → Int) (l : List Itm) : Prop := Ok l.length fun j => f (at_ l j)
theorem IsHeap.nil (f : Itm → Int) : IsHeap f [] := fun j h1 h2 => by simp at h2
theorem IsHeap.least {f : Itm → Int} {l : List Itm} (h : IsHeap f l) : ∀ x ∈ l, f (at_ l 0) ≤ f x := by
  intro x hx
  obtain ⟨j, hj, rfl⟩ := List.getElem_of_mem hx
  have := Ok.least h j hj
  simpa [at_, hj] using this

/-- What an item pushed comes through. -/
structure Rising (f : Itm → Int) (l0 l : List Itm) (i : Nat) : Prop where
  up : Up l.length (fun j => f (at_ l j)) i
  lt : i < l.length
  perm : l.Perm l0
theorem at_append_left {l m : List Itm} {j : Nat} (h : j < l.length) : at_ (l ++ m) j = at_ l j := by
  unfold at_; rw [List.getD_eq_getElem?_getD, List.getD_eq_getElem?_getD, List.getElem?_append_left h]
theorem Rising.init {f : Itm → Int} {l : List Itm} (h : IsHeap f l) (x : Itm) : Rising f (l ++ [x]) (l ++ [x]) l.length := by
  refine ⟨?_, by simp, .refl _⟩
  have := Up.init (Ok.congr h (g' := fun j => f (at_ (l ++ [x]) j)) fun j hj => by rw [at_append_left hj])
  simpa using this
theorem Rising.step {f : Itm → Int} {l0 l : List Itm} {i : Nat} (h : Rising f l0 l i) (hi : 0 < i) (hl : f (at_ l i) < f (at_ l ((i - 1) / 2))) : Rising f l0 (swap l i ((i - 1) / 2)) ((i - 1) / 2) := by
  have h1 := h.lt
  have h2 : (i - 1) / 2 < l.length := by omega
  refine ⟨?_, by rw [swap_length]; exact h2, (swap_perm h1 h2).trans h.perm⟩
  rw [swap_length]
  exact (Up.step h.up hi h1 hl).congr h2 fun j _ => swap_sw f h1 h2 j
theorem Rising.done {f : Itm → Int} {l0 l : List Itm} {i : Nat} (h : Rising f l0 l i) (hl : i = 0 ∨ ¬ f (at_ l i) < f (at_ l ((i - 1) / 2))) : IsHeap f l := by
  rcases hl with rfl | hl
  · exact h.up.zero
  · exact h.up.done hl

/-- What the last item comes through that was put in the first one's place. -/
structure Sinking (f : Itm → Int) (l0 l : List Itm) (i : Nat) : Prop where
  down : Down l.length (fun j => f (at_ l j)) i
  lt : i < l.length ∨ l.length = 0 ∧ i = 0
  perm : l.Perm l0
/-- The last item in the place of the first one. -/
def lifted (l : List Itm) : List Itm := (l.set 0 (at_ l (l.length - 1))).take (l.length - 1)
theorem lifted_perm {l : List Itm} (h : 0 < l.length) : (at_ l 0 :: lifted l).Perm l := by
  match l, h with
  | x :: r, _ =>
    rcases List.eq_nil_or_concat r with rfl | ⟨q, y, rfl⟩
    · simp [lifted, at_]
    · have e : lifted (x :: (q ++ [y])) = y :: q := by
        simp only [lifted, at_, List.length_cons, List.length_append, List.length_nil, Nat.zero_add, Nat.add_sub_cancel, List.set_cons_zero, List.getD_cons_succ, List.take_succ_cons]
        rw [List.take_append_of_le_length (Nat.le_refl _), List.take_length, List.getD_eq_getElem?_getD, List.getElem?_append_right (Nat.le_refl _)]
        simp
      simp only [List.concat_eq_append] at *
      rw [e]
      show (x :: y :: q).Perm (x :: (q ++ [y]))
      exact List.Perm.cons _ (List.perm_append_comm (l₁ := [y]) (l₂ := q))
theorem lifted_length (l : List Itm) : (lifted l).length = l.length - 1 := by simp [lifted]
theorem at_lifted {l : List Itm} {j : Nat} (h : j < l.length - 1) : at_ (lifted l) j = if j = 0 then at_ l (l.length - 1) else at_ l j := by
  have hg : 0 < l.length := by omega
  rw [← at_set _ hg]
  unfold lifted at_
  simp only [List.getD_eq_getElem?_getD]
  rw [List.getElem?_take_of_lt h]
theorem Sinking.init {f : Itm → Int} {l : List Itm} (h : IsHeap f l) (hl : 0 < l.length) : Sinking f (lifted l) (lifted l) 0 := by
  refine ⟨?_, by rw [lifted_length]; omega, .refl _⟩
  have h' : Ok (lifted l).length.succ fun j => f (at_ l j) := by
    have e : (lifted l).length.succ = l.length := by rw [lifted_length]; omega
    rw [e]; exact h
  refine Down.init h' fun j h1 h2 => ?_
  rw [lifted_length] at h2
  show f (at_ (lifted l) j) = f (at_ l j)
  rw [at_lifted h2, if_neg (by omega)]
theorem Sinking.step {f : Itm → Int} {l0 l : List Itm} {i s : Nat} (h : Sinking f l0 l i) (hs : s = i * 2 + 1 ∨ s = i * 2 + 2) (hn : s < l.length) (hl : i * 2 + 1 < l.length → f (at_ l s) ≤ f (at_ l (i * 2 + 1))) (hr : i * 2 + 2 < l.length → f (at_ l s) ≤ f (at_ l (i * 2 + 2))) (hi : f (at_ l s) ≤ f (at_ l i)) :
    Sinking f l0 (swap l s i) s := by
  have h1 : i < l.length := by omega
  refine ⟨?_, .inl (by rw [swap_length]; exact hn), (swap_perm hn h1).trans h.perm⟩
  rw [swap_length]
  exact (Down.step h.down hs hn hl hr hi).congr fun j _ => swap_sw f hn h1 j
theorem Sinking.done {f : Itm → Int} {l0 l : List Itm} {i : Nat} (h : Sinking f l0 l i) (hl : i * 2 + 1 < l.length → f (at_ l i) ≤ f (at_ l (i * 2 + 1))) (hr : i * 2 + 2 < l.length → f (at_ l i) ≤ f (at_ l (i * 2 + 2))) : IsHeap f l := h.down.done hl hr

/-- What a pop does to a heap. -/
structure Popped (f : Itm → Int) (l : List Itm) (x : Itm) (l' : List Itm) : Prop where
  heap : IsHeap f l'
  perm : (x :: l').Perm l
  least : ∀ y ∈ l', f x ≤ f y
theorem Popped.mk_ {f : Itm → Int} {l l' : List Itm} (h : IsHeap f l) (hl : 0 < l.length) (h' : IsHeap f l') (hp : l'.Perm (lifted l)) : Popped f l (at_ l 0) l' := by
  have p : (at_ l 0 :: l').Perm l := (hp.cons _).trans (lifted_perm hl)
  exact ⟨h', p, fun y hy => h.least y (p.subset (List.mem_cons_of_mem _ hy))⟩

/-- No item of a list is before an earlier one. -/
def Asc (f : Itm → Int) (l : List Itm) : Prop := ∀ j, 0 < j → j < l.length → f (at_ l (j - 1)) ≤ f (at_ l j)
/-- Popping all: out, then what is left. -/
structure Drain (f : Itm → Int) (l0 out l : List Itm) : Prop where
  heap : IsHeap f l
  perm : (out ++ l).Perm l0
  asc : Asc f out
  le : ∀ x ∈ out, ∀ y ∈ l, f x ≤ f y
theorem Drain.init {f : Itm → Int} {l0 l : List Itm} (h : IsHeap f l) (p : l.Perm l0) : Drain f l0 [] l := ⟨h, by simpa using p, fun j h1 h2 => by simp at h2, fun x hx => by simp at hx⟩
theorem at_last (l : List Itm) (x : Itm) : at_ (l ++ [x]) l.length = x := by simp [at_]
theorem at_mem {l : List Itm} {j : Nat} (h : j < l.length) : at_ l j ∈ l := by simp [at_, h]
theorem Drain.step {f : Itm → Int} {l0 out l l' : List Itm} {x : Itm} (h : Drain f l0 out l) (p : Popped f l x l') : Drain f l0 (out ++ [x]) l' := by
  have hx : x ∈ l := p.perm.subset (List.mem_cons_self)
  refine ⟨p.heap, ?_, fun j h1 h2 => ?_, fun a ha y hy => ?_⟩
  · rw [List.append_assoc]
    exact (List.Perm.append_left out p.perm).trans h.perm
  · simp only [List.length_append, List.length_singleton] at h2
    by_cases e : j = out.length
    · subst e
      rw [at_last, at_append_left (by omega)]
      exact h.le _ (at_mem (by omega)) _ hx
    · rw [at_append_left (by omega), at_append_left (by omega)]
      exact h.asc j h1 (by omega)
  · have hy' : y ∈ l := p.perm.subset (List.mem_cons_of_mem _ hy)
    rcases List.mem_append.1 ha with ha | ha
    · exact h.le a ha y hy'
    · obtain rfl := List.mem_singleton.1 ha
      exact p.least y hy
end Go.Wb.Heap

namespace Go.Wb
open Go.RowKit

/-- w' is w but for cells in S (of blocks that were there) and new blocks. -/
structure Keep (S : Nat → Nat → Prop) (w w' : World) : Prop where
  os : w'.os = w.os
  tape : w'.tape = w.tape
  output : w'.output = w.output
  size : w.heap.size ≤ w'.heap.size
  block : ∀ b, b < w.heap.size → w'.heap[b]? = w.heap[b]? ∨ ∃ c c' t f, w.heap[b]? = some (.cells c t f) ∧ w'.heap[b]? = some (.cells c' t f) ∧ c'.size = c.size ∧ ∀ o, ¬ S b o → c'[o]? = c[o]?

theorem Keep.refl (S : Nat → Nat → Prop) (w : World) : Keep S w w := ⟨rfl, rfl, rfl, Nat.le_refl _, fun _ _ => .inl rfl⟩

theorem Keep.mono {S T : Nat → Nat → Prop} {w w' : World} (h : Keep S w w') (hs : ∀ b o, b < w.heap.size → S b o → T b o) : Keep T w w' :=
  ⟨h.os, h.tape, h.output, h.size, fun b hb => by
    rcases h.block b hb with e | ⟨c, c', t, f, e1, e2, e3, e4⟩
    · exact .inl e
    · exact .inr ⟨c, c', t, f, e1, e2, e3, fun o ho => e4 o fun hso => ho (hs b o hb hso)⟩⟩

theorem Keep.trans {S T : Nat → Nat → Prop} {a b c : World} (h : Keep S a b) (k : Keep T b c) (hT : ∀ x o, x < a.heap.size → T x o → S x o) : Keep S a c := by
  refine ⟨k.os.trans h.os, k.tape.trans h.tape, k.output.trans h.output, Nat.le_trans h.size k.size, fun x hx => ?_⟩
  rcases h.block x hx with e | ⟨c0, c1, t, f, e1, e2, e3, e4⟩
  · rcases k.block x (Nat.lt_of_lt_of_le hx h.size) with e' | ⟨d0, d1, t', f', e1', e2', e3', e4'⟩
    · exact .inl (e'.trans e)
    · exact .inr ⟨d0, d1, t', f', e ▸ e1', e2', e3', fun o ho => e4' o fun h' => ho (hT x o hx h')⟩
  · rcases k.block x (Nat.lt_of_lt_of_le hx h.size) with e' | ⟨d0, d1, t', f', e1', e2', e3', e4'⟩
    · exact .inr ⟨c0, c1, t, f, e1, e'.trans e2, e3, e4⟩
    · rw [e2] at e1'
      obtain ⟨rfl, rfl, rfl⟩ : c1 = d0 ∧ t = t' ∧ f = f' := by simpa using e1'
      exact .inr ⟨c0, d1, t, f, e1, e2', e3'.trans e3, fun o ho => (e4' o fun h' => ho (hT x o hx h')).trans (e4 o ho)⟩

theorem Keep.cell {S : Nat → Nat → Prop} {w w' : World} (h : Keep S w w') {b o : Nat} (hb : b < w.heap.size) (ho : ¬ S b o) : w'.cell? ⟨b, o, none⟩ = w.cell? ⟨b, o, none⟩ := by
  rcases h.block b hb with e | ⟨c, c', t, f, e1, e2, e3, e4⟩
  · simp only [World.cell?, e]
  · simp only [World.cell?, e1, e2]
    simpa using e4 o ho

theorem Keep.frozen {S : Nat → Nat → Prop} {w w' : World} (h : Keep S w w') {b o : Nat} (hb : b < w.heap.size) : w'.frozen? ⟨b, o, none⟩ = w.frozen? ⟨b, o, none⟩ := by
  rcases h.block b hb with e | ⟨c, c', t, f, e1, e2, e3, e4⟩
  · simp only [World.frozen?, e]
  · simp only [World.frozen?, e1, e2]

theorem Keep.shape {S : Nat → Nat → Prop} {w w' : World} (h : Keep S w w') {b : Nat} (hb : b < w.heap.size) : w'.shape? b = w.shape? b := by
  rcases h.block b hb with e | ⟨c, c', t, f, e1, e2, e3, e4⟩
  · simp only [World.shape?, e]
  · simp only [World.shape?, e1, e2, e3]

theorem Keep.whole {S : Nat → Nat → Prop} {w w' : World} (h : Keep S w w') {b : Nat} (hb : b < w.heap.size) (ho : ∀ o, ¬ S b o) : w'.heap[b]? = w.heap[b]? := by
  rcases h.block b hb with e | ⟨c, c', t, f, e1, e2, e3, e4⟩
  · exact e
  · rw [e1, e2]
    congr 2
    apply Array.ext_getElem?
    intro i
    exact e4 i (ho i)

theorem Keep.below {S : Nat → Nat → Prop} {w w' : World} {B : Nat} (h : Keep S w w') (hB : B ≤ w.heap.size) (hS : ∀ b o, b < B → ¬ S b o) : Below B w w' :=
  ⟨h.os, h.tape, h.output, h.size, fun k hk => h.whole (by omega) fun o => hS k o hk⟩

theorem lt_of_heap {w : World} {b : Nat} {o : Obj} (h : w.heap[b]? = some o) : b < w.heap.size := by
  rcases Nat.lt_or_ge b w.heap.size with h' | h'
  · exact h'
  · simp [Array.getElem?_eq_none h'] at h

theorem Keep.at_ {S : Nat → Nat → Prop} {w w' : World} (h : Keep S w w') {b : Nat} {c : Array Value} {t : TypeId} {f : Nat × Nat} (hb : w.heap[b]? = some (.cells c t f)) :
    ∃ c', w'.heap[b]? = some (.cells c' t f) ∧ c'.size = c.size ∧ ∀ o, ¬ S b o → c'[o]? = c[o]? := by
  rcases h.block b (lt_of_heap hb) with e | ⟨c0, c', t', f', e1, e2, e3, e4⟩
  · exact ⟨c, e.trans hb, rfl, fun _ _ => rfl⟩
  · rw [hb] at e1
    obtain ⟨rfl, rfl, rfl⟩ : c = c0 ∧ t = t' ∧ f = f' := by simpa using e1
    exact ⟨c', e2, e3, e4⟩

theorem Keep.alloc (S : Nat → Nat → Prop) (w : World) (o : Obj) : Keep S w (w.alloc o) :=
  ⟨rfl, rfl, rfl, by simp, fun b hb => .inl (Below.heap_alloc w o b hb)⟩

theorem Keep.drew (S : Nat → Nat → Prop) (w : World) : Keep S w w.drew := ⟨rfl, rfl, rfl, Nat.le_refl _, fun _ _ => .inl rfl⟩
theorem Keep.drewN (S : Nat → Nat → Prop) (w : World) (n : Nat) : Keep S w (w.drewN n) := ⟨rfl, rfl, rfl, Nat.le_refl _, fun _ _ => .inl rfl⟩

theorem Keep.setCell {S : Nat → Nat → Prop} (w : World) (b o : Nat) (v : Value) (hs : b < w.heap.size → S b o) : Keep S w (w.setCell ⟨b, o, none⟩ v) := by
  refine ⟨rfl, rfl, rfl, by simp, fun x hx => ?_⟩
  by_cases hb : x = b
  · subst hb
    simp only [World.setCell, Array.getElem?_modify, ↓reduceIte]
    cases hh : w.heap[x]? with
    | none => exact .inl rfl
    | some ob =>
      cases ob with
      | cells c t f =>
        refine .inr ⟨c, c.setIfInBounds o v, t, f, rfl, by simp, by simp, fun o' ho' => ?_⟩
        have : o ≠ o' := fun e => ho' (e ▸ hs hx)
        simp [this]
      | _ => exact .inl rfl
  · exact .inl (Below.heap_setCell w _ v x hb)

theorem Keep.setCells {S : Nat → Nat → Prop} (b : Nat) : ∀ (vs : List Value) (o : Nat) (w : World), (∀ j, j < vs.length → S b (o + j)) → Keep S w (w.setCells b o vs)
  | [], _, w, _ => Keep.refl _ _
  | v :: r, o, w, h => (Keep.setCell w b o v (fun _ => by simpa using h 0 (by simp))).trans
      (Keep.setCells b r (o + 1) _ (fun j hj => by have := h (j + 1) (by simp; omega); rwa [show o + (j + 1) = o + 1 + j by omega] at this)) (fun _ _ _ h => h)

theorem row_append {xs news : List Value} {n s : Nat} (hn : xs.length = n * s) {f : Nat → Option Value} {o j : Nat} {v : Value} (hj : (xs ++ news)[j]? = some v)
    (h1 : ∀ k u, xs[k]? = some u → f (o + k) = some u) (h2 : ∀ k u, news[k]? = some u → f (o + (n * s + k)) = some u) : f (o + j) = some v := by
  rw [List.getElem?_append] at hj
  split at hj
  · exact h1 j v hj
  · rename_i hlt
    have := h2 (j - xs.length) v hj
    rw [← hn, show xs.length + (j - xs.length) = j by omega] at this
    exact this

theorem Keep.set {S : Nat → Nat → Prop} {a w : World} (h : Keep S a w) (b o : Nat) (v : Value) (hs : b < a.heap.size → S b o) : Keep S a (w.setCell ⟨b, o, none⟩ v) :=
  h.trans (T := fun x y => x = b ∧ y = o) (Keep.setCell w b o v fun _ => ⟨rfl, rfl⟩) fun x y hx ⟨e1, e2⟩ => by subst e1; subst e2; exact hs hx
theorem Keep.al {S : Nat → Nat → Prop} {a w : World} (h : Keep S a w) (o : Obj) : Keep S a (w.alloc o) := h.trans (Keep.alloc S w o) fun _ _ _ h => h
theorem Keep.dr {S : Nat → Nat → Prop} {a w : World} (h : Keep S a w) : Keep S a w.drew := h.trans (Keep.drew S w) fun _ _ _ h => h
theorem Keep.drN {S : Nat → Nat → Prop} {a w : World} (h : Keep S a w) (n : Nat) : Keep S a (w.drewN n) := h.trans (Keep.drewN S w n) fun _ _ _ h => h

theorem blk_set {w : World} {b o : Nat} {cs : Array Value} {t : TypeId} {f : Nat × Nat} (v : Value) (h : w.heap[b]? = some (.cells cs t f)) : (w.setCell ⟨b, o, none⟩ v).heap[b]? = some (.cells (cs.setIfInBounds o v) t f) := by
  simp only [World.setCell, Array.getElem?_modify, ↓reduceIte, h, Option.map_some]; simp
theorem blk_far {w : World} {b x o : Nat} {ob : Obj} (v : Value) (h : w.heap[b]? = some ob) (hne : b ≠ x) : (w.setCell ⟨x, o, none⟩ v).heap[b]? = some ob := by
  rw [Below.heap_setCell w _ v b hne]; exact h
theorem blk_alloc {w : World} {b : Nat} {ob : Obj} (o : Obj) (h : w.heap[b]? = some ob) : (w.alloc o).heap[b]? = some ob := by
  rw [Below.heap_alloc w o b (lt_of_heap h)]; exact h
theorem blk_drew {w : World} {b : Nat} {ob : Obj} (h : w.heap[b]? = some ob) : w.drew.heap[b]? = some ob := h
theorem blk_keep {S : Nat → Nat → Prop} {w w' : World} {b : Nat} {ob : Obj} (h : w.heap[b]? = some ob) (hk : Keep S w w') (hS : ∀ o, ¬ S b o) : w'.heap[b]? = some ob := (hk.whole (lt_of_heap h) hS).trans h
theorem wp_world {P : Program} {c : Code} {Q : Exit → Act → World → Prop} {a : Act} {w : World} (h : ∀ W, W = w → c.wp P Q a W) : c.wp P Q a w := h w rfl

/-! ### rows: what a slice's value leads to -/
/-- The cells that a row takes. -/
def rowFp (a : Option Addr) (n : Nat) (b o : Nat) : Prop := ∃ x y, a = some ⟨x, y, none⟩ ∧ b = x ∧ y ≤ o ∧ o < y + n

/-- A row of cap elements of s cells, of element type ty, whose first cells are cs. -/
def Row (w : World) (ty s : Nat) (a : Option Addr) (cap : Nat) (cs : List Value) : Prop :=
  (a = none ∧ cap = 0 ∧ cs = []) ∨
  ∃ b o arr, a = some ⟨b, o, none⟩ ∧ w.heap[b]? = some (.cells arr ty (0, 0)) ∧ cs.length ≤ cap * s ∧ o + cap * s ≤ arr.size ∧ ∀ i v, cs[i]? = some v → arr[o + i]? = some v

theorem Row.len {w : World} {ty s : Nat} {a : Option Addr} {cap : Nat} {cs : List Value} (h : Row w ty s a cap cs) : cs.length ≤ cap * s := by
  rcases h with ⟨_, rfl, rfl⟩ | ⟨b, o, arr, _, _, h, _⟩
  · simp
  · exact h

theorem Row.form {w : World} {ty s : Nat} {a : Option Addr} {cap : Nat} {cs : List Value} (h : Row w ty s a cap cs) (hs : 0 < cs.length) : ∃ b o, a = some ⟨b, o, none⟩ ∧ b < w.heap.size ∧ w.shape? b ≠ none := by
  rcases h with ⟨_, _, rfl⟩ | ⟨b, o, arr, h1, h2, _⟩
  · simp at hs
  · refine ⟨b, o, h1, ?_, by simp [World.shape?, h2]⟩
    rcases Nat.lt_or_ge b w.heap.size with h' | h'
    · exact h'
    · simp [Array.getElem?_eq_none h'] at h2

theorem Row.cell {w : World} {ty s : Nat} {b o cap : Nat} {cs : List Value} (h : Row w ty s (some ⟨b, o, none⟩) cap cs) {i : Nat} {v : Value} (hi : cs[i]? = some v) : w.cell? ⟨b, o + i, none⟩ = some v := by
  rcases h with ⟨h, _⟩ | ⟨b', o', arr, h1, h2, _, _, h5⟩
  · cases h
  · obtain ⟨rfl, rfl⟩ : b = b' ∧ o = o' := by simpa using h1
    simp [World.cell?, h2, h5 i v hi]

theorem Row.there {w : World} {ty s : Nat} {b o cap : Nat} {cs : List Value} (h : Row w ty s (some ⟨b, o, none⟩) cap cs) {i : Nat} (hi : i < cap * s) : ∃ v, w.cell? ⟨b, o + i, none⟩ = some v := by
  rcases h with ⟨h, _⟩ | ⟨b', o', arr, h1, h2, _, h4, _⟩
  · cases h
  · obtain ⟨rfl, rfl⟩ : b = b' ∧ o = o' := by simpa using h1
    have : o + i < arr.size := by omega
    exact ⟨arr[o + i], by simp [World.cell?, h2, this]⟩

theorem Row.frozen {w : World} {ty s : Nat} {b o cap : Nat} {cs : List Value} (h : Row w ty s (some ⟨b, o, none⟩) cap cs) (i : Nat) : w.frozen? ⟨b, i, none⟩ = false := by
  rcases h with ⟨h, _⟩ | ⟨b', o', arr, h1, h2, _, h4, _⟩
  · cases h
  · obtain ⟨rfl, rfl⟩ : b = b' ∧ o = o' := by simpa using h1
    simp [World.frozen?, h2]

theorem Row.shape {w : World} {ty s : Nat} {b o cap : Nat} {cs : List Value} (h : Row w ty s (some ⟨b, o, none⟩) cap cs) : ∃ n, w.shape? b = some (ty, n) ∧ o + cap * s ≤ n := by
  rcases h with ⟨h, _⟩ | ⟨b', o', arr, h1, h2, _, h4, _⟩
  · cases h
  · obtain ⟨rfl, rfl⟩ : b = b' ∧ o = o' := by simpa using h1
    exact ⟨arr.size, by simp [World.shape?, h2], h4⟩

/-- A row is kept by what does not write its used cells. -/
theorem Row.keep {S : Nat → Nat → Prop} {w w' : World} {ty s : Nat} {a : Option Addr} {cap : Nat} {cs : List Value} (h : Row w ty s a cap cs) (hk : Keep S w w') (hS : ∀ b o, rowFp a cs.length b o → ¬ S b o) : Row w' ty s a cap cs := by
  rcases h with h | ⟨b, o, arr, h1, h2, h3, h4, h5⟩
  · exact .inl h
  · have hb : b < w.heap.size := by
      rcases Nat.lt_or_ge b w.heap.size with h' | h'
      · exact h'
      · simp [Array.getElem?_eq_none h'] at h2
    rcases hk.block b hb with e | ⟨c, c', t, f, e1, e2, e3, e4⟩
    · exact .inr ⟨b, o, arr, h1, e.trans h2, h3, h4, h5⟩
    · rw [h2] at e1
      obtain ⟨rfl, rfl, rfl⟩ : arr = c ∧ ty = t ∧ (0, 0) = f := by simpa using e1
      refine .inr ⟨b, o, c', h1, e2, h3, by omega, fun i v hi => ?_⟩
      have hil : i < cs.length := by
        rcases Nat.lt_or_ge i cs.length with h' | h'
        · exact h'
        · simp [List.getElem?_eq_none h'] at hi
      rw [e4 (o + i) (hS b (o + i) ⟨b, o, h1, rfl, by omega, by omega⟩)]
      exact h5 i v hi

theorem Row.take {w : World} {ty s : Nat} {a : Option Addr} {cap : Nat} {cs : List Value} (h : Row w ty s a cap cs) (n : Nat) : Row w ty s a cap (cs.take n) := by
  rcases h with ⟨h1, h2, rfl⟩ | ⟨b, o, arr, h1, h2, h3, h4, h5⟩
  · exact .inl ⟨h1, h2, by simp⟩
  · refine .inr ⟨b, o, arr, h1, h2, by simp; omega, h4, fun i v hi => h5 i v ?_⟩
    rw [List.getElem?_take] at hi
    split at hi
    · exact hi
    · cases hi

/-- The new row behind an append, and what has turned. -/
structure Grew (w w' : World) (ty s : Nat) (a a' : Option Addr) (n m cap cap' : Nat) (cs : List Value) : Prop where
  row : Row w' ty s a' cap' cs
  keep : Keep (fun b o => ∃ x y, a = some ⟨x, y, none⟩ ∧ b = x ∧ y + n * s ≤ o ∧ o < y + cap * s) w w'
  fp : ∀ b o, rowFp a' (cap' * s) b o → rowFp a (cap * s) b o ∨ (b = w.heap.size ∧ b < w'.heap.size)
  cap : n + m ≤ cap'

theorem run_append_row {P : Program} (w : World) (t ty e : TypeId) (i : TypeInfo) (z : Value) (ht : P.underlying t = some (.slice e)) (hi : P.info? e = some i) (hz : i.zero = some z)
    (hzs : z.cells.size = i.size)
    (a : Option Addr) (n cap : Nat) (xs : List Value) (hrow : Row w e i.size a cap xs) (hn : xs.length = n * i.size)
    (ad : Addr) (m c : Nat) (news : List Value) (hl : news.length = m * i.size) (hnews : ∀ j u, news[j]? = some u → w.cell? (ad.add j) = some u) (h1 : ∀ u ∈ news, u.oneCell' = true)
    (hm : 0 < m) (hle : n ≤ cap) (h63 : n + m ≤ maxLen) (hbytes : (n + m) * i.bytes ≤ 140737488355328) :
    ∃ a' cap' w', (Builtin.append_ #[t, t] ty #[.slice a n cap, .slice (some ad) m c]).run P w = .ok (.slice a' (n + m) cap') w' ∧ Grew w w' e i.size a a' n m cap cap' (xs ++ news) := by
  have hsmall : n + m ≤ 9223372036854775807 := by simp only [maxLen] at h63; omega
  have hlen : (xs ++ news).length = (n + m) * i.size := by rw [List.length_append, hn, hl, Nat.add_mul]
  have grown : ∀ (old : Nat), Grew w (w.drew.alloc (.cells (xs.toArray ++ news.toArray ++ Builtin.zeroCells z.cells (grownCap w (n + m) old e - (n + m))) e)) e i.size a (some ⟨w.heap.size, 0, none⟩) n m cap (grownCap w (n + m) old e) (xs ++ news) := by
    intro old
    have hge := grownCap_ge w (n + m) old e
    refine ⟨.inr ⟨w.heap.size, 0, _, rfl, heap_alloc_new w.drew _, ?_, ?_, ?_⟩, ?_, ?_, hge⟩
    · rw [hlen]; exact Nat.mul_le_mul_right _ hge
    · simp only [Array.size_append, List.size_toArray, size_zeroCells, hzs, hn, hl, ← Nat.add_mul, Nat.zero_add]
      apply Nat.le_of_eq
      congr 1
      omega
    · intro j v hj
      rw [Nat.zero_add]
      have hjl : j < (xs ++ news).length := by
        rcases Nat.lt_or_ge j (xs ++ news).length with h | h
        · exact h
        · simp [List.getElem?_eq_none h] at hj
      rw [Array.getElem?_append_left (by simp only [Array.size_append, List.size_toArray]; rw [List.length_append] at hjl; exact hjl)]
      simpa using hj
    · exact (Keep.drew _ w).trans (Keep.alloc _ _ _) (fun _ _ _ h => h)
    · rintro b o ⟨x, y, he, rfl, _, _⟩
      right
      obtain ⟨rfl, rfl⟩ : w.heap.size = b ∧ 0 = y := by simpa using he
      exact ⟨rfl, by simp⟩
  by_cases hroom : n + m ≤ cap
  · -- there is room
    rcases hrow with ⟨_, h0, _⟩ | ⟨b, o, arr, rfl, hb, hc, hsz, hcs⟩
    · omega
    · have hfit : n * i.size + news.length ≤ cap * i.size := by rw [hl, ← Nat.add_mul]; exact Nat.mul_le_mul_right _ hroom
      have hf := run_firstCells_some (P := P) w i.size m ad m c news hl hnews
      have hth : ∀ j, j < news.length → (w.cell? ⟨b, o + n * i.size + 0 + j, none⟩).isSome = true := by
        intro j hj
        have hlt : o + n * i.size + j < arr.size := by omega
        simp [World.cell?, hb, hlt]
      have hfz : ∀ j, j < news.length → w.frozen? ⟨b, o + n * i.size + 0 + j, none⟩ = false := by
        intro j hj
        simp [World.frozen?, hb]
      have hst := run_storeCells_cells (P := P) b (o + n * i.size) news 0 w hth hfz h1
      simp only [Nat.add_zero] at hst hth
      have hadd : (⟨b, o, none⟩ : Addr).add (n * i.size) = ⟨b, o + n * i.size, none⟩ := by unfold Addr.add; split <;> simp_all
      refine ⟨some ⟨b, o, none⟩, cap, w.setCells b (o + n * i.size) news, ?_, ?_⟩
      · simp [Builtin.append_, run_underlying ht, sizeOf, typeInfo, hi, Builtin.lenOf, hroom, hf, hadd, hst]
      · have hk := Keep.setCells (S := fun b' o' => ∃ x y, (some (⟨b, o, none⟩ : Addr)) = some ⟨x, y, none⟩ ∧ b' = x ∧ y + n * i.size ≤ o' ∧ o' < y + cap * i.size) b news (o + n * i.size) w (fun j hj => ⟨b, o, rfl, rfl, by omega, by omega⟩)
        refine ⟨?_, hk, fun _ _ h => .inl h, hroom⟩
        obtain ⟨c', e2, e3, _⟩ := hk.at_ hb
        have hlc : (xs ++ news).length ≤ cap * i.size := by rw [List.length_append]; omega
        refine .inr ⟨b, o, c', rfl, e2, hlc, by omega, fun j v hj => ?_⟩
        have hcell : ∀ q, (w.setCells b (o + n * i.size) news).cell? ⟨b, q, none⟩ = c'[q]? := by intro q; simp [World.cell?, e2]
        rw [← hcell]
        refine row_append (f := fun q => (w.setCells b (o + n * i.size) news).cell? ⟨b, q, none⟩) (o := o) hn hj (fun k u hk => ?_) (fun k u hk => ?_)
        · have hlt : k < xs.length := (List.getElem?_eq_some_iff.1 hk).1
          refine (World.cell?_setCells_out b news (o + n * i.size) w ⟨b, o + k, none⟩ (fun _ _ => .inl (by show o + k < o + n * i.size; omega))).trans ?_
          simp [World.cell?, hb, hcs k u hk]
        · obtain ⟨hk', rfl⟩ := List.getElem?_eq_some_iff.1 hk
          have := World.cell?_setCells_in b news (o + n * i.size) w (fun j hj => hth j hj) k hk'
          rwa [Nat.add_assoc] at this
  · rcases hrow with ⟨rfl, rfl, rfl⟩ | ⟨b, o, arr, rfl, hb, hc, hsz, hcs⟩
    · obtain rfl : n = 0 := by omega
      have hr := run_append_nil (P := P) w t ty e i z ht hi hz ad m c news hl hnews (by omega) (by omega) (by have hb := hbytes; simp only [Nat.zero_add] at hb; omega)
      have hg := grown 0
      simp only [Nat.zero_add, List.nil_append, Array.empty_append] at hg ⊢
      exact ⟨_, _, _, hr, hg⟩
    · have holds : ∀ j u, xs[j]? = some u → w.cell? ((⟨b, o, none⟩ : Addr).add j) = some u := by
        intro j u hj
        have hadd : (⟨b, o, none⟩ : Addr).add j = ⟨b, o + j, none⟩ := by unfold Addr.add; split <;> simp_all
        rw [hadd]
        simp [World.cell?, hb, hcs j u hj]
      have hr := run_append_grow (P := P) w t ty e i z ht hi hz ⟨b, o, none⟩ n cap xs hn holds ad m c news hl hnews (by omega) (by omega) (growslice_fits (by omega) hbytes)
      exact ⟨_, _, _, hr, grown cap⟩
end Go.Wb

namespace Go.Wb
open Go Go.RowKit

/-- What is asked of an element's type: s cells, b bytes, a zero of s cells. -/
def Elem (P : Program) (e : TypeId) (s b : Nat) : Prop :=
  (P.info? e).map (·.size) = some s ∧ (P.info? e).map (·.bytes) = some b ∧ ((P.info? e).bind (·.zero)).map (·.cells.size) = some s

theorem run_append_any {P : Program} (w : World) (t ty e : TypeId) (s b : Nat) (ht : P.underlying t = some (.slice e)) (he : Elem P e s b)
    (a : Option Addr) (n cap : Nat) (xs : List Value) (hrow : Row w e s a cap xs) (hn : xs.length = n * s)
    (ad : Addr) (m c : Nat) (news : List Value) (hl : news.length = m * s) (hnews : ∀ j u, news[j]? = some u → w.cell? (ad.add j) = some u) (h1 : ∀ u ∈ news, u.oneCell' = true)
    (hm : 0 < m) (hle : n ≤ cap) (h63 : n + m ≤ maxLen) (hbytes : (n + m) * b ≤ 140737488355328) :
    ∃ a' cap' w', (Builtin.append_ #[t, t] ty #[.slice a n cap, .slice (some ad) m c]).run P w = .ok (.slice a' (n + m) cap') w' ∧ Grew w w' e s a a' n m cap cap' (xs ++ news) := by
  obtain ⟨h2, h3, h4⟩ := he
  cases hi : P.info? e with
  | none => rw [hi] at h2; cases h2
  | some i =>
    rw [hi] at h2 h3 h4
    simp only [Option.map_some, Option.some.injEq, Option.bind_some] at h2 h3 h4
    subst h2
    subst h3
    cases hz : i.zero with
    | none => rw [hz] at h4; cases h4
    | some z =>
      rw [hz] at h4
      exact run_append_row w t ty e i z ht hi hz (by simpa using h4) a n cap xs hrow hn ad m c news hl hnews h1 hm hle h63 hbytes

theorem wp_append_any {P : Program} {w : World} {o : Oper} {a : Act} {K : Act → World → Prop} {Q : Exit → Act → World → Prop} (s x : Operand) (t : TypeId)
    (ho : o.op = .call { callee := .builtin .append, args := #[s, x], argTypes := #[t, t] })
    (e : TypeId) (sz b : Nat) (ht : P.underlying t = some (.slice e)) (he : Elem P e sz b)
    (aa : Option Addr) (n cap : Nat) (xs : List Value) (hs : a.eval s = .slice aa n cap) (hrow : Row w e sz aa cap xs) (hn : xs.length = n * sz)
    (ad : Addr) (m c : Nat) (news : List Value) (hx : a.eval x = .slice (some ad) m c) (hl : news.length = m * sz) (hnews : ∀ j u, news[j]? = some u → w.cell? (ad.add j) = some u) (h1 : ∀ u ∈ news, u.oneCell' = true)
    (hm : 0 < m) (hle : n ≤ cap) (h63 : n + m ≤ maxLen) (hbytes : (n + m) * b ≤ 140737488355328)
    (h : ∀ a' cap' w', Grew w w' e sz aa a' n m cap cap' (xs ++ news) → K (a.put o.dst (.slice a' (n + m) cap')) w') : o.wp P a w K Q := by
  obtain ⟨a', cap', w', hr, hg⟩ := run_append_any (P := P) w t o.type e sz b ht he aa n cap xs hrow hn ad m c news hl hnews h1 hm hle h63 hbytes
  unfold Oper.wp execOp
  simp only [ho, resolve, invoke, builtin, Sem.run_bind, Sem.run_pure, Result.andThen_ok, List.map_toArray, List.map_cons, List.map_nil, hs, hx, hr]
  exact h a' cap' w' hg

theorem step_append_any {P : Program} {w : World} {ops : Array Oper} {o : Oper} {a : Act} {K : Act → World → Prop} {Q : Exit → Act → World → Prop} {E : Prop} (hgd : o.guard = none) (s x : Operand) (t : TypeId)
    (ho : o.op = .call { callee := .builtin .append, args := #[s, x], argTypes := #[t, t] })
    (e : TypeId) (sz b : Nat) (ht : P.underlying t = some (.slice e)) (he : Elem P e sz b)
    (aa : Option Addr) (n cap : Nat) (xs : List Value) (hs : a.eval s = .slice aa n cap) (hrow : Row w e sz aa cap xs) (hn : xs.length = n * sz)
    (ad : Addr) (m c : Nat) (news : List Value) (hx : a.eval x = .slice (some ad) m c) (hl : news.length = m * sz) (hnews : ∀ j u, news[j]? = some u → w.cell? (ad.add j) = some u) (h1 : ∀ u ∈ news, u.oneCell' = true)
    (hm : 0 < m) (hle : n ≤ cap) (h63 : n + m ≤ maxLen) (hbytes : (n + m) * b ≤ 140737488355328)
    (h : ∀ a' cap' w', Grew w w' e sz aa a' n m cap cap' (xs ++ news) → K (a.put o.dst (.slice a' (n + m) cap')) w') :
    if Region.wanted o (yielded ops a.tmps) = true then Oper.wp P o a w K Q else E := by
  have hw : Region.wanted o (yielded ops a.tmps) = true := by simp [Region.wanted, hgd]
  rw [if_pos hw]
  exact wp_append_any s x t ho e sz b ht he aa n cap xs hs hrow hn ad m c news hx hl hnews h1 hm hle h63 hbytes h

theorem wpList_append_any {P : Program} {w : World} {ops : Array Oper} {rest : List Oper} {o : Oper} {a : Act} {Q : Exit → Act → World → Prop} (hgd : o.guard = none) (s x : Operand) (t : TypeId)
    (ho : o.op = .call { callee := .builtin .append, args := #[s, x], argTypes := #[t, t] })
    (e : TypeId) (sz b : Nat) (ht : P.underlying t = some (.slice e)) (he : Elem P e sz b)
    (aa : Option Addr) (n cap : Nat) (xs : List Value) (hs : a.eval s = .slice aa n cap) (hrow : Row w e sz aa cap xs) (hn : xs.length = n * sz)
    (ad : Addr) (m c : Nat) (news : List Value) (hx : a.eval x = .slice (some ad) m c) (hl : news.length = m * sz) (hnews : ∀ j u, news[j]? = some u → w.cell? (ad.add j) = some u) (h1 : ∀ u ∈ news, u.oneCell' = true)
    (hm : 0 < m) (hle : n ≤ cap) (h63 : n + m ≤ maxLen) (hbytes : (n + m) * b ≤ 140737488355328)
    (h : ∀ a' cap' w', Grew w w' e sz aa a' n m cap cap' (xs ++ news) → wpList P ops Q rest (a.put o.dst (.slice a' (n + m) cap')) w') : wpList P ops Q (o :: rest) a w :=
  wpList_plain hgd fun _ hK => wp_append_any s x t ho e sz b ht he aa n cap xs hs hrow hn ad m c news hx hl hnews h1 hm hle h63 hbytes fun a' cap' w' hg => hK _ _ (h a' cap' w' hg)
end Go.Wb

namespace Go.Wb
open Go Go.RowKit

/-- The types of a tree's nodes: a node's own, that of a pointer to it, an item's, that of a slice of children; and an item's cells. -/
structure Ty where
  node : TypeId
  nodeP : TypeId
  pair : TypeId
  kids : TypeId
  s : Nat

/-- A node: its count, its items, its children (none: a leaf). -/
structure NRec (α : Type) where
  iso : Int
  cnt : Int
  items : List α
  kids : Option (List Nat)

/-- Where a node's parts lie. -/
structure Lay where
  ia : Option Addr
  icap : Nat
  cb : Nat
  ka : Option Addr
  kcap : Nat

def ptr (n : Nat) : Value := .pointer (some ⟨n, 0, none⟩)
def kidsVal (k : Option (List Nat)) (cb : Nat) : Value := match k with | none => .pointer none | some _ => ptr cb

variable {α : Type}

/-- How an item lies in cells. -/
structure Enc (α : Type) where
  enc : α → List Value
  s : Nat
  len : ∀ x, (enc x).length = s
  one : ∀ x, ∀ v ∈ enc x, v.oneCell' = true
  pos : 0 < s

def Enc.all (E : Enc α) (l : List α) : List Value := l.flatMap E.enc
theorem Enc.all_len (E : Enc α) (l : List α) : (E.all l).length = l.length * E.s := by
  induction l with
  | nil => simp [Enc.all]
  | cons x l ih =>
    simp only [Enc.all, List.flatMap_cons, List.length_append, List.length_cons, E.len] at ih ⊢
    rw [ih, Nat.add_mul]; omega
theorem Enc.all_append (E : Enc α) (l k : List α) : E.all (l ++ k) = E.all l ++ E.all k := by simp [Enc.all]
theorem Enc.all_cons (E : Enc α) (x : α) (l : List α) : E.all (x :: l) = E.enc x ++ E.all l := by simp [Enc.all]

/-- A node's record lies at block n. -/
def NodeAt (T : Ty) (E : Enc α) (w : World) (n : Nat) (r : NRec α) (L : Lay) : Prop :=
  w.heap[n]? = some (.cells #[.int .u64 r.iso, .int .i64 r.cnt, .slice L.ia r.items.length L.icap, kidsVal r.kids L.cb] T.node (0, 0)) ∧
  Row w T.pair T.s L.ia L.icap (E.all r.items) ∧ r.items.length ≤ L.icap ∧
  ∀ ks, r.kids = some ks → w.heap[L.cb]? = some (.cells #[.slice L.ka ks.length L.kcap] T.kids (0, 0)) ∧ Row w T.nodeP 1 L.ka L.kcap (ks.map ptr) ∧ ks.length ≤ L.kcap

/-- The cells that are a node's own. -/
def fp (T : Ty) (n : Nat) (r : NRec α) (L : Lay) (b o : Nat) : Prop :=
  b = n ∨ rowFp L.ia (L.icap * T.s) b o ∨ (r.kids.isSome = true ∧ (b = L.cb ∨ rowFp L.ka L.kcap b o))

theorem rowFp_lt {w : World} {ty s : Nat} {a : Option Addr} {cap : Nat} {cs : List Value} (h : Row w ty s a cap cs) {b o : Nat} (hf : rowFp a (cap * s) b o) : b < w.heap.size := by
  obtain ⟨x, y, rfl, rfl, _, _⟩ := hf
  rcases h with ⟨h, _⟩ | ⟨b', o', arr, h1, h2, _⟩
  · cases h
  · obtain ⟨rfl, rfl⟩ : b = b' ∧ y = o' := by simpa using h1
    exact lt_of_heap h2

theorem NodeAt.lt {T : Ty} {E : Enc α} {w : World} {n : Nat} {r : NRec α} {L : Lay} (h : NodeAt T E w n r L) {b o : Nat} (hf : fp T n r L b o) : b < w.heap.size := by
  obtain ⟨h1, h2, _, h4⟩ := h
  rcases hf with rfl | hf | ⟨hk, hf⟩
  · exact lt_of_heap h1
  · exact rowFp_lt h2 hf
  · obtain ⟨ks, hks⟩ := Option.isSome_iff_exists.1 hk
    obtain ⟨h5, h6, _⟩ := h4 ks hks
    rcases hf with rfl | hf
    · exact lt_of_heap h5
    · exact rowFp_lt h6 (by simpa using hf)

theorem Row.keep' {S : Nat → Nat → Prop} {w w' : World} {ty s : Nat} {a : Option Addr} {cap : Nat} {cs : List Value} (h : Row w ty s a cap cs) (hk : Keep S w w') (hS : ∀ b o, rowFp a (cap * s) b o → ¬ S b o) : Row w' ty s a cap cs := by
  refine h.keep hk fun b o ⟨x, y, h1, h2, h3, h4⟩ => hS b o ⟨x, y, h1, h2, h3, ?_⟩
  have := h.len
  omega

theorem NodeAt.keep {T : Ty} {E : Enc α} {w w' : World} {n : Nat} {r : NRec α} {L : Lay} {S : Nat → Nat → Prop} (h : NodeAt T E w n r L) (hk : Keep S w w') (hS : ∀ b o, fp T n r L b o → ¬ S b o) : NodeAt T E w' n r L := by
  obtain ⟨h1, h2, h3, h4⟩ := h
  refine ⟨?_, h2.keep' hk fun b o hf => hS b o (.inr (.inl hf)), h3, fun ks hks => ?_⟩
  · rw [hk.whole (lt_of_heap h1) fun o => hS n o (.inl rfl)]; exact h1
  · obtain ⟨h5, h6, h7⟩ := h4 ks hks
    refine ⟨?_, h6.keep' hk fun b o hf => hS b o (.inr (.inr ⟨by simp [hks], .inr (by simpa using hf)⟩)), h7⟩
    rw [hk.whole (lt_of_heap h5) fun o => hS L.cb o (.inr (.inr ⟨by simp [hks], .inl rfl⟩))]; exact h5

abbrev Store (α : Type) := Nat → Option (NRec α)

/-- All nodes of H lie in w, apart from each other. -/
structure Mem (T : Ty) (E : Enc α) (w : World) (H : Store α) (L : Nat → Lay) : Prop where
  at_ : ∀ n r, H n = some r → NodeAt T E w n r (L n)
  sep : ∀ n m r q, n ≠ m → H n = some r → H m = some q → ∀ b o, fp T n r (L n) b o → fp T m q (L m) b o → False

/-- The cells of the nodes F. -/
def FP (T : Ty) (H : Store α) (L : Nat → Lay) (F : List Nat) (b o : Nat) : Prop := ∃ n r, n ∈ F ∧ H n = some r ∧ fp T n r (L n) b o

/-- The nodes of F have become those of F'; all else is as it was. -/
structure Step (T : Ty) (E : Enc α) (w : World) (H : Store α) (L : Nat → Lay) (F : List Nat) (w' : World) (H' : Store α) (L' : Nat → Lay) (F' : List Nat) : Prop where
  mem : Mem T E w' H' L'
  keep : Keep (FP T H L F) w w'
  out : ∀ m, m ∉ F → ∀ r, H m = some r → H' m = some r ∧ L' m = L m
  new : ∀ m, m ∈ F' → m ∈ F ∨ w.heap.size ≤ m
  fp : ∀ b o, b < w.heap.size → FP T H' L' F' b o → FP T H L F b o
  only : ∀ m r, H' m = some r → m ∈ F' ∨ (m ∉ F ∧ H m = some r ∧ L' m = L m)

theorem Step.refl {T : Ty} {E : Enc α} {w : World} {H : Store α} {L : Nat → Lay} (h : Mem T E w H L) (F : List Nat) : Step T E w H L F w H L F :=
  ⟨h, Keep.refl _ _, fun _ _ _ h => ⟨h, rfl⟩, fun _ h => .inl h, fun _ _ _ h => h, fun m _ h => (Classical.em (m ∈ F)).imp id fun hm => ⟨hm, h, rfl⟩⟩

theorem Step.trans {T : Ty} {E : Enc α} {w w1 w2 : World} {H H1 H2 : Store α} {L L1 L2 : Nat → Lay} {F F1 F2 : List Nat}
    (h : Step T E w H L F w1 H1 L1 F1) (k : Step T E w1 H1 L1 F1 w2 H2 L2 F2) (hin : ∀ m r, m ∈ F1 → H m = some r → m ∈ F) : Step T E w H L F w2 H2 L2 F2 := by
  refine ⟨k.mem, h.keep.trans k.keep fun b o hb hf => h.fp b o hb hf, fun m hm r hr => ?_, fun m hm => ?_, fun b o hb hf => ?_, fun m r hr => ?_⟩
  · obtain ⟨h1, h2⟩ := h.out m hm r hr
    obtain ⟨h3, h4⟩ := k.out m (fun hm1 => hm (hin m r hm1 hr)) r h1
    exact ⟨h3, h4.trans h2⟩
  · rcases k.new m hm with h1 | h1
    · exact h.new m h1
    · exact .inr (Nat.le_trans h.keep.size h1)
  · exact h.fp b o hb (k.fp b o (Nat.lt_of_lt_of_le hb h.keep.size) hf)
  · rcases k.only m r hr with h1 | ⟨h1, h2, h3⟩
    · exact .inl h1
    · rcases h.only m r h2 with h4 | ⟨h4, h5, h6⟩
      · exact absurd h4 h1
      · exact .inr ⟨h4, h5, h3.trans h6⟩

/-- A step of some nodes is one of more nodes. -/
theorem Step.frame {T : Ty} {E : Enc α} {w w' : World} {H H' : Store α} {L L' : Nat → Lay} {F F' : List Nat}
    (h : Step T E w H L F w' H' L' F') (A B : List Nat) (hA : ∀ m, m ∈ A ++ B → m ∉ F ∧ ∃ r, H m = some r) : Step T E w H L (A ++ F ++ B) w' H' L' (A ++ F' ++ B) := by
  refine ⟨h.mem, h.keep.mono fun b o _ ⟨n, r, hn, hr, hf⟩ => ⟨n, r, by simp [hn], hr, hf⟩, fun m hm r hr => h.out m (fun hf => hm (by simp [hf])) r hr, fun m hm => ?_, fun b o hb hf => ?_, fun m r hr => ?_⟩
  · simp only [List.mem_append] at hm ⊢
    rcases hm with (hm | hm) | hm
    · exact .inl (.inl (.inl hm))
    · rcases h.new m hm with h1 | h1
      · exact .inl (.inl (.inr h1))
      · exact .inr h1
    · exact .inl (.inr hm)
  · obtain ⟨n, r, hn, hr, hf⟩ := hf
    by_cases hAB : n ∈ A ++ B
    · obtain ⟨h1, q, hq⟩ := hA n hAB
      obtain ⟨h2, h3⟩ := h.out n h1 q hq
      rw [h2] at hr
      cases hr
      rw [h3] at hf
      exact ⟨n, r, by simp only [List.mem_append] at hAB ⊢; rcases hAB with h | h <;> simp [h], hq, hf⟩
    · have : n ∈ F' := by
        simp only [List.mem_append] at hn hAB
        rcases hn with (hn | hn) | hn
        · exact absurd (.inl hn) hAB
        · exact hn
        · exact absurd (.inr hn) hAB
      obtain ⟨m, q, hm, hq, hfm⟩ := h.fp b o hb ⟨n, r, this, hr, hf⟩
      exact ⟨m, q, by simp [hm], hq, hfm⟩
  · rcases h.only m r hr with h1 | ⟨h1, h2, h3⟩
    · exact .inl (by simp [h1])
    · by_cases hAB : m ∈ A ++ B
      · exact .inl (by simp only [List.mem_append] at hAB ⊢; rcases hAB with h | h <;> simp [h])
      · exact .inr ⟨by simp only [List.mem_append, not_or] at hAB ⊢; exact ⟨⟨hAB.1, h1⟩, hAB.2⟩, h2, h3⟩

/-- THE STEP, made: the nodes of F become those of F', each one laid anew; what they take lay in F's cells, or is new. -/
theorem Step.mk' {T : Ty} {E : Enc α} {w w' : World} {H H' : Store α} {L L' : Nat → Lay} {F F' : List Nat} (hm : Mem T E w H L)
    (hk : Keep (FP T H L F) w w')
    (hout : ∀ m, m ∉ F → m ∉ F' → H' m = H m ∧ L' m = L m)
    (hold : ∀ m, m ∈ F' → m ∉ F → H m = none)
    (hgone : ∀ m, m ∈ F → m ∉ F' → H' m = none)
    (hnew : ∀ m, m ∈ F' → m ∈ F ∨ w.heap.size ≤ m)
    (hin : ∀ m r, m ∈ F' → H' m = some r → NodeAt T E w' m r (L' m))
    (hfp : ∀ m r b o, m ∈ F' → H' m = some r → b < w.heap.size → Wb.fp T m r (L' m) b o → FP T H L F b o)
    (hsep : ∀ n m r q, n ∈ F' → m ∈ F' → n ≠ m → H' n = some r → H' m = some q → ∀ b o, Wb.fp T n r (L' n) b o → Wb.fp T m q (L' m) b o → False) :
    Step T E w H L F w' H' L' F' := by
  have old : ∀ m r, m ∉ F' → H' m = some r → m ∉ F ∧ H m = some r ∧ L' m = L m := fun m r hmF hr => by
    have h1 : m ∉ F := fun h => by rw [hgone m h hmF] at hr; cases hr
    obtain ⟨h2, h3⟩ := hout m h1 hmF
    exact ⟨h1, h2 ▸ hr, h3⟩
  have cross : ∀ n m r q, n ∈ F' → m ∉ F' → H' n = some r → H' m = some q → ∀ b o, Wb.fp T n r (L' n) b o → Wb.fp T m q (L' m) b o → False := fun n m r q hn hmF hr hq b o hf1 hf2 => by
    obtain ⟨h1, h2, h3⟩ := old m q hmF hq
    rw [h3] at hf2
    have hb : b < w.heap.size := (hm.at_ m q h2).lt hf2
    obtain ⟨k, x, hkF, hx, hfx⟩ := hfp n r b o hn hr hb hf1
    exact hm.sep k m x q (fun e => h1 (e ▸ hkF)) hx h2 b o hfx hf2
  refine ⟨⟨fun n r hr => ?_, fun n m r q hne hr hq b o hf1 hf2 => ?_⟩, hk, fun m hmF r hr => ?_, hnew, fun b o hb ⟨n, r, hn, hr, hf⟩ => hfp n r b o hn hr hb hf, fun m r hr => (Classical.em (m ∈ F')).imp id fun h => old m r h hr⟩
  · by_cases hn : n ∈ F'
    · exact hin n r hn hr
    · obtain ⟨h1, h2, h3⟩ := old n r hn hr
      rw [h3]
      refine (hm.at_ n r h2).keep hk fun b o hf ⟨k, x, hkF, hx, hfx⟩ => ?_
      exact hm.sep k n x r (fun e => h1 (e ▸ hkF)) hx h2 b o hfx hf
  · by_cases hn : n ∈ F' <;> by_cases hmF : m ∈ F'
    · exact hsep n m r q hn hmF hne hr hq b o hf1 hf2
    · exact cross n m r q hn hmF hr hq b o hf1 hf2
    · exact cross m n q r hmF hn hq hr b o hf2 hf1
    · obtain ⟨h1, h2, h3⟩ := old n r hn hr
      obtain ⟨h4, h5, h6⟩ := old m q hmF hq
      rw [h3] at hf1
      rw [h6] at hf2
      exact hm.sep n m r q hne h2 h5 b o hf1 hf2
  · by_cases h : m ∈ F'
    · rw [hold m h hmF] at hr; cases hr
    · obtain ⟨h1, h2⟩ := hout m hmF h
      exact ⟨h1.trans hr, h2⟩
end Go.Wb

namespace Go.Wb
variable {α : Type}

/-- A node: its items and its children (a leaf has none). -/
inductive Tr (α : Type) where
  | node (its : List α) (ks : List (Tr α))
def Tr.its : Tr α → List α | .node its _ => its
def Tr.ks : Tr α → List (Tr α) | .node _ ks => ks

/-- Children and items in turns: each child ahead of an item. -/
def wl : List (List α) → List α → List α
  | k :: ks, x :: its => k ++ x :: wl ks its
  | _, _ => []
/-- Items and children in turns: each child behind an item. -/
def wr : List α → List (List α) → List α
  | x :: its, k :: ks => x :: k ++ wr its ks
  | _, _ => []
def weave : List (List α) → List α → List α
  | k :: ks, its => k ++ wr its ks
  | [], its => its

theorem weave_cons (k : List α) (ks : List (List α)) (its : List α) : weave (k :: ks) its = k ++ wr its ks := rfl

theorem wl_wr : ∀ (K1 : List (List α)) (I1 : List α) (k : List α) (I2 : List α) (K2 : List (List α)), K1.length = I1.length →
    weave (K1 ++ k :: K2) (I1 ++ I2) = wl K1 I1 ++ k ++ wr I2 K2
  | [], [], k, I2, K2, _ => by simp [weave, wl]
  | a :: K1, x :: I1, k, I2, K2, h => by
    have ih := wl_wr K1 I1 k I2 K2 (by simpa using h)
    simp only [List.cons_append, weave, wl]
    cases K1 with
    | nil =>
      cases I1 with
      | nil => simp [wr, wl]
      | cons _ _ => simp at h
    | cons b K1 =>
      simp only [List.cons_append, weave] at ih
      simp only [List.cons_append, wr, List.append_assoc]
      simp only [List.append_assoc] at ih
      rw [ih]
  | [], _ :: _, _, _, _, h => by simp at h
  | _ :: _, [], _, _, _, h => by simp at h

/-- The items of a tree of height h (a leaf's: 0), in order. -/
def flat : Nat → Tr α → List α
  | 0, t => t.its
  | h + 1, t => weave (t.ks.map (flat h)) t.its

/-- Sizes: the node has from l to mx items, those below it from mn to mx; a node with children has one more than items. -/
def wfr (l mn mx : Nat) : Nat → Tr α → Prop
  | 0, t => l ≤ t.its.length ∧ t.its.length ≤ mx ∧ t.ks = []
  | h + 1, t => l ≤ t.its.length ∧ t.its.length ≤ mx ∧ t.ks.length = t.its.length + 1 ∧ ∀ k ∈ t.ks, wfr mn mn mx h k

theorem wfr.own_le {l mn mx h : Nat} {t : Tr α} (hw : wfr l mn mx h t) : l ≤ t.its.length ∧ t.its.length ≤ mx := by
  cases h with
  | zero => exact ⟨hw.1, hw.2.1⟩
  | succ h => exact ⟨hw.1, hw.2.1⟩

theorem wfr.weaken {l l' mn mx h : Nat} {t : Tr α} (hw : wfr l mn mx h t) (hl : l' ≤ t.its.length) : wfr l' mn mx h t := by
  cases h with
  | zero => exact ⟨hl, hw.2⟩
  | succ h => exact ⟨hl, hw.2⟩

/-- A strict weak order. -/
structure Ord (lt : α → α → Bool) : Prop where
  irr : ∀ a, lt a a = false
  tr : ∀ a b c, lt a b = true → lt b c = true → lt a c = true
  co : ∀ a b c, lt a c = true → lt a b = true ∨ lt b c = true

variable {lt : α → α → Bool}

def Sorted (lt : α → α → Bool) (l : List α) : Prop := l.Pairwise fun a b => lt a b = true

theorem Ord.asymm (o : Ord lt) {a b : α} (h : lt a b = true) : lt b a = false := by
  cases h' : lt b a with
  | false => rfl
  | true => have := o.tr _ _ _ h h'; rw [o.irr] at this; cases this

/-- The place of x among sorted items. -/
def Place (lt : α → α → Bool) (its : List α) (x : α) (i : Nat) : Bool → Prop
  | true => ∃ I1 p I2, its = I1 ++ p :: I2 ∧ I1.length = i ∧ lt p x = false ∧ lt x p = false ∧ (∀ a ∈ I1, lt a x = true) ∧ ∀ b ∈ I2, lt x b = true
  | false => ∃ I1 I2, its = I1 ++ I2 ∧ I1.length = i ∧ (∀ a ∈ I1, lt a x = true) ∧ ∀ b ∈ I2, lt x b = true

/-- x is put into a sorted list: what it replaces. -/
def Put (lt : α → α → Bool) (l : List α) (x : α) (l' : List α) : Option α → Prop
  | none => ∃ A B, l = A ++ B ∧ l' = A ++ x :: B ∧ (∀ a ∈ A, lt a x = true) ∧ ∀ b ∈ B, lt x b = true
  | some p => ∃ A B, l = A ++ p :: B ∧ l' = A ++ x :: B ∧ lt p x = false ∧ lt x p = false ∧ (∀ a ∈ A, lt a x = true) ∧ ∀ b ∈ B, lt x b = true

theorem Put.frame {l l' : List α} {x : α} {p : Option α} (h : Put lt l x l' p) (C D : List α) (hC : ∀ a ∈ C, lt a x = true) (hD : ∀ b ∈ D, lt x b = true) : Put lt (C ++ l ++ D) x (C ++ l' ++ D) p := by
  cases p with
  | none =>
    obtain ⟨A, B, rfl, rfl, hA, hB⟩ := h
    refine ⟨C ++ A, B ++ D, by simp, by simp, ?_, ?_⟩
    · intro a ha; exact (List.mem_append.1 ha).elim (hC a) (hA a)
    · intro b hb; exact (List.mem_append.1 hb).elim (hB b) (hD b)
  | some p =>
    obtain ⟨A, B, rfl, rfl, h1, h2, hA, hB⟩ := h
    refine ⟨C ++ A, B ++ D, by simp, by simp, h1, h2, ?_, ?_⟩
    · intro a ha; exact (List.mem_append.1 ha).elim (hC a) (hA a)
    · intro b hb; exact (List.mem_append.1 hb).elim (hB b) (hD b)

theorem Sorted.of_append {A B : List α} (h : Sorted lt (A ++ B)) : Sorted lt A ∧ Sorted lt B ∧ ∀ a ∈ A, ∀ b ∈ B, lt a b = true :=
  List.pairwise_append.1 h

theorem mem_wl_lt (o : Ord lt) {x : α} : ∀ (K : List (List α)) (I : List α), K.length = I.length → Sorted lt (wl K I) → (∀ a ∈ I, lt a x = true) → ∀ a ∈ wl K I, lt a x = true
  | [], [], _, _, _, a, ha => by simp [wl] at ha
  | k :: K, y :: I, hl, hs, hI, a, ha => by
    simp only [wl] at hs ha
    obtain ⟨h1, h2, h3⟩ := hs.of_append
    rcases List.mem_append.1 ha with h | h
    · exact o.tr _ y _ (h3 a h y (by simp)) (hI y (by simp))
    · rcases List.mem_cons.1 h with rfl | h
      · exact hI _ (by simp)
      · exact mem_wl_lt o K I (by simpa using hl) (List.pairwise_cons.1 h2).2 (fun b hb => hI b (by simp [hb])) a h
  | [], _ :: _, h, _, _, _, _ => by simp at h
  | _ :: _, [], h, _, _, _, _ => by simp at h

theorem mem_wr_lt (o : Ord lt) {x : α} : ∀ (I : List α) (K : List (List α)), K.length = I.length → Sorted lt (wr I K) → (∀ a ∈ I, lt x a = true) → ∀ a ∈ wr I K, lt x a = true
  | [], [], _, _, _, a, ha => by simp [wr] at ha
  | y :: I, k :: K, hl, hs, hI, a, ha => by
    simp only [wr, List.cons_append] at hs ha
    have h1 := List.pairwise_cons.1 hs
    obtain ⟨h2, h3, h4⟩ := Sorted.of_append h1.2
    rcases List.mem_cons.1 ha with rfl | h
    · exact hI _ (by simp)
    · rcases List.mem_append.1 h with h | h
      · exact o.tr _ y _ (hI y (by simp)) (h1.1 a (by simp [h]))
      · exact mem_wr_lt o I K (by simpa using hl) h3 (fun b hb => hI b (by simp [hb])) a h
  | _ :: _, [], h, _, _, _, _ => by simp at h
  | [], _ :: _, h, _, _, _, _ => by simp at h

theorem Sorted.mid {A B C : List α} (h : Sorted lt (A ++ B ++ C)) : Sorted lt B := (Sorted.of_append (Sorted.of_append h).1).2.1
theorem Sorted.left {A B C : List α} (h : Sorted lt (A ++ B ++ C)) : Sorted lt A := (Sorted.of_append (Sorted.of_append h).1).1
theorem Sorted.right {A B C : List α} (h : Sorted lt (A ++ B ++ C)) : Sorted lt C := (Sorted.of_append h).2.1

/-- Own items are sorted where all are. -/
theorem sub_wr : ∀ (I : List α) (K : List (List α)), K.length = I.length → List.Sublist I (wr I K)
  | [], [], _ => List.Sublist.slnil
  | y :: I, k :: K, hl => by
    simp only [wr, List.cons_append]
    exact ((sub_wr I K (by simpa using hl)).trans (List.sublist_append_right k _)).cons_cons y
  | _ :: _, [], h => by simp at h
  | [], _ :: _, h => by simp at h
theorem own_sub {l mn mx : Nat} {h : Nat} {t : Tr α} (hw : wfr l mn mx h t) : List.Sublist t.its (flat h t) := by
  cases h with
  | zero => exact List.Sublist.refl _
  | succ h =>
    obtain ⟨its, ks⟩ := t
    have h1 : ks.length = its.length + 1 := hw.2.2.1
    cases ks with
    | nil => simp at h1
    | cons k ks =>
      simp only [flat, Tr.its, Tr.ks, List.map_cons, weave]
      exact (sub_wr its (ks.map (flat h)) (by simpa using h1)).trans (List.sublist_append_right _ _)
theorem own_sorted {l mn mx h : Nat} {t : Tr α} (hw : wfr l mn mx h t) (hs : Sorted lt (flat h t)) : Sorted lt t.its :=
  List.Pairwise.sublist (own_sub hw) hs

theorem split_at {β : Type} (l : List β) (i : Nat) (h : i < l.length) : ∃ A b B, l = A ++ b :: B ∧ A.length = i ∧ l[i]? = some b :=
  ⟨l.take i, l[i], l.drop (i + 1), by simp, by simp; omega, by simp [h]⟩

/-- A child below which x belongs: what is around it. -/
theorem flat_around (o : Ord lt) {h : Nat} {I1 I2 : List α} {K1 K2 : List (Tr α)} {k : Tr α} {x : α} (h1 : K1.length = I1.length) (h2 : K2.length = I2.length)
    (hs : Sorted lt (flat (h + 1) (.node (I1 ++ I2) (K1 ++ k :: K2)))) (hI1 : ∀ a ∈ I1, lt a x = true) (hI2 : ∀ b ∈ I2, lt x b = true) :
    ∃ C D, (∀ k' : Tr α, flat (h + 1) (.node (I1 ++ I2) (K1 ++ k' :: K2)) = C ++ flat h k' ++ D) ∧ (∀ a ∈ C, lt a x = true) ∧ ∀ b ∈ D, lt x b = true := by
  have e : ∀ k' : Tr α, flat (h + 1) (.node (I1 ++ I2) (K1 ++ k' :: K2)) = wl (K1.map (flat h)) I1 ++ flat h k' ++ wr I2 (K2.map (flat h)) := fun k' => by
    simp only [flat, Tr.its, Tr.ks, List.map_append, List.map_cons]
    exact wl_wr _ _ _ _ _ (by simpa using h1)
  rw [e] at hs
  exact ⟨_, _, e, mem_wl_lt o _ _ (by simpa using h1) hs.left hI1, mem_wr_lt o _ _ (by simpa using h2) hs.right hI2⟩

/-- A split child, its middle item put in between: the same items. -/
theorem flat_split {h : Nat} {I1 I2 : List α} {K1 K2 : List (Tr α)} {k a b : Tr α} {m : α} (h1 : K1.length = I1.length) (hk : flat h k = flat h a ++ m :: flat h b) :
    flat (h + 1) (.node (I1 ++ m :: I2) (K1 ++ a :: b :: K2)) = flat (h + 1) (.node (I1 ++ I2) (K1 ++ k :: K2)) := by
  simp only [flat, Tr.its, Tr.ks, List.map_append, List.map_cons]
  rw [wl_wr _ _ _ _ _ (by simpa using h1), wl_wr _ _ _ _ _ (by simpa using h1), hk]
  simp [wr]

/-- A node in two. -/
def cutL (i : Nat) (t : Tr α) : Tr α := .node (t.its.take i) (t.ks.take (i + 1))
def cutR (i : Nat) (t : Tr α) : Tr α := .node (t.its.drop (i + 1)) (t.ks.drop (i + 1))

theorem flat_cut {l mn mx h : Nat} {t : Tr α} (hw : wfr l mn mx h t) {i : Nat} {m : α} (hi : t.its[i]? = some m) : flat h t = flat h (cutL i t) ++ m :: flat h (cutR i t) := by
  obtain ⟨its, ks⟩ := t
  simp only [Tr.its] at hi
  obtain ⟨hlt, rfl⟩ := List.getElem?_eq_some_iff.1 hi
  cases h with
  | zero =>
    simp [flat, cutL, cutR, Tr.its]
  | succ h =>
    have hk : ks.length = its.length + 1 := hw.2.2.1
    obtain ⟨A, b, B, e, hA, _⟩ := split_at its i hlt
    obtain ⟨K1, k, K2, e2, hK1, _⟩ := split_at ks i (by omega)
    have hK2 : K2.length = B.length + 1 := by rw [e, e2, List.length_append, List.length_append, List.length_cons, List.length_cons] at hk; omega
    cases K2 with
    | nil => simp at hK2
    | cons k' K2 =>
      subst e
      subst e2
      subst hA
      simp only [flat, cutL, cutR, Tr.its, Tr.ks, List.map_append, List.map_cons]
      have t1 : (A ++ b :: B).take A.length = A := by simp
      have t2 : (A ++ b :: B).drop (A.length + 1) = B := by simp
      have t3 : (K1 ++ k :: k' :: K2).take (A.length + 1) = K1 ++ [k] := by rw [← hK1, List.take_length_add_append]; rfl
      have t4 : (K1 ++ k :: k' :: K2).drop (A.length + 1) = k' :: K2 := by rw [← hK1, List.drop_length_add_append]; rfl
      rw [t1, t2, t3, t4, wl_wr _ _ _ _ _ (by simpa using hK1), List.map_append, List.map_cons, List.map_nil]
      have := wl_wr (K1.map (flat h)) A (flat h k) [] [] (by simpa using hK1)
      simp only [List.append_nil] at this
      rw [this]
      simp [wr, weave]

theorem cut_wf {l mn mx h : Nat} {t : Tr α} (hw : wfr l mn mx h t) {i l1 l2 : Nat} (hi : i < t.its.length) (h1 : l1 ≤ i) (h2 : l2 + i + 1 ≤ t.its.length) :
    wfr l1 mn mx h (cutL i t) ∧ wfr l2 mn mx h (cutR i t) := by
  have hmx := hw.own_le.2
  obtain ⟨its, ks⟩ := t
  simp only [Tr.its] at hi h2 hmx
  cases h with
  | zero =>
    have hk : ks = [] := hw.2.2
    subst hk
    simp only [wfr, cutL, cutR, Tr.its, Tr.ks, List.length_take, List.length_drop, List.take_nil, List.drop_nil, and_true]
    omega
  | succ h =>
    obtain ⟨w1, w2, w3, w4⟩ := hw
    simp only [Tr.its, Tr.ks] at w1 w2 w3 w4
    simp only [wfr, cutL, cutR, Tr.its, Tr.ks, List.length_take, List.length_drop]
    refine ⟨⟨by omega, by omega, by omega, fun k hk => w4 k (List.mem_of_mem_take hk)⟩, by omega, by omega, by omega, fun k hk => w4 k (List.mem_of_mem_drop hk)⟩
end Go.Wb

namespace Go.Wb
open Go Go.RowKit
variable {α : Type}

def RepL (R : Nat → Tr α → List Nat → Prop) : List Nat → List (Tr α) → List Nat → Prop
  | [], [], F => F = []
  | n :: ns, t :: ts, F => ∃ F1 F2, R n t F1 ∧ RepL R ns ts F2 ∧ F = F1 ++ F2
  | _, _, _ => False

/-- Node n of H is the root of the tree t of height h; its nodes are F; all are of the family c; the counts are right. -/
def Rep (H : Store α) (c : Int) : Nat → Nat → Tr α → List Nat → Prop
  | 0, n, t, F => ∃ r, H n = some r ∧ r.iso = c ∧ r.items = t.its ∧ t.ks = [] ∧ r.kids = none ∧ r.cnt = ((flat 0 t).length : Int) ∧ F = [n]
  | h + 1, n, t, F => ∃ r ns F', H n = some r ∧ r.iso = c ∧ r.items = t.its ∧ r.kids = some ns ∧ r.cnt = ((flat (h + 1) t).length : Int) ∧ RepL (Rep H c h) ns t.ks F' ∧ F = n :: F'

theorem RepL.len {R : Nat → Tr α → List Nat → Prop} : ∀ {ns : List Nat} {ts : List (Tr α)} {F : List Nat}, RepL R ns ts F → ns.length = ts.length
  | [], [], _, _ => rfl
  | n :: ns, t :: ts, F, h => by
    obtain ⟨F1, F2, _, h2, _⟩ := h
    simp [h2.len]
  | [], _ :: _, _, h => h.elim
  | _ :: _, [], _, h => h.elim

theorem RepL.split {R : Nat → Tr α → List Nat → Prop} {k : Tr α} {K2 : List (Tr α)} : ∀ {K1 : List (Tr α)} {ns : List Nat} {F : List Nat}, RepL R ns (K1 ++ k :: K2) F →
    ∃ N1 n N2 F1 Fk F2, ns = N1 ++ n :: N2 ∧ N1.length = K1.length ∧ N2.length = K2.length ∧ RepL R N1 K1 F1 ∧ R n k Fk ∧ RepL R N2 K2 F2 ∧ F = F1 ++ Fk ++ F2
  | [], n :: ns, F, h => by
    obtain ⟨F1, F2, h1, h2, rfl⟩ := h
    exact ⟨[], n, ns, [], F1, F2, rfl, rfl, h2.len, rfl, h1, h2, by simp⟩
  | t :: K1, n :: ns, F, h => by
    obtain ⟨G, G2, h1, h2, rfl⟩ := h
    obtain ⟨N1, m, N2, F1, Fk, F2, rfl, e1, e2, r1, r2, r3, rfl⟩ := RepL.split h2
    exact ⟨n :: N1, m, N2, G ++ F1, Fk, F2, rfl, by simp [e1], e2, ⟨G, F1, h1, r1, rfl⟩, r2, r3, by simp⟩
  | [], [], _, h => h.elim
  | _ :: _, [], _, h => h.elim

theorem RepL.join {R : Nat → Tr α → List Nat → Prop} {K2 : List (Tr α)} {N2 : List Nat} {F2 : List Nat} (h2 : RepL R N2 K2 F2) : ∀ {K1 : List (Tr α)} {N1 : List Nat} {F1 : List Nat}, RepL R N1 K1 F1 → RepL R (N1 ++ N2) (K1 ++ K2) (F1 ++ F2)
  | [], [], F1, h => by obtain rfl : F1 = [] := h; exact h2
  | t :: K1, n :: N1, F1, h => by
    obtain ⟨G, G2, r1, r2, rfl⟩ := h
    exact ⟨G, G2 ++ F2, r1, RepL.join h2 r2, by simp⟩
  | [], _ :: _, _, h => h.elim
  | _ :: _, [], _, h => h.elim

theorem RepL.one {R : Nat → Tr α → List Nat → Prop} {k : Tr α} {n : Nat} {F : List Nat} (h : R n k F) : RepL R [n] [k] F := ⟨F, [], h, rfl, by simp⟩

theorem RepL.imp {R R' : Nat → Tr α → List Nat → Prop} : ∀ {ns : List Nat} {ts : List (Tr α)} {F : List Nat}, RepL R ns ts F → (∀ n t G, (∀ m, m ∈ G → m ∈ F) → R n t G → R' n t G) → RepL R' ns ts F
  | [], [], _, h, _ => h
  | n :: ns, t :: ts, F, h, hi => by
    obtain ⟨F1, F2, h1, h2, rfl⟩ := h
    exact ⟨F1, F2, hi n t F1 (fun m hm => by simp [hm]) h1, h2.imp fun n t G hG hr => hi n t G (fun m hm => by simp [hG m hm]) hr, rfl⟩
  | [], _ :: _, _, h, _ => h.elim
  | _ :: _, [], _, h, _ => h.elim

/-- What isn't among the tree's nodes may turn. -/
theorem Rep.congr {H H' : Store α} {c : Int} : ∀ {h n : Nat} {t : Tr α} {F : List Nat}, Rep H c h n t F → (∀ m, m ∈ F → H' m = H m) → Rep H' c h n t F
  | 0, n, t, F, hr, hh => by
    obtain ⟨r, h1, h2, h3, h4, h5, h6, rfl⟩ := hr
    exact ⟨r, (hh n (by simp)).trans h1, h2, h3, h4, h5, h6, rfl⟩
  | h + 1, n, t, F, hr, hh => by
    obtain ⟨r, ns, F', h1, h2, h3, h4, h5, h6, rfl⟩ := hr
    exact ⟨r, ns, F', (hh n (by simp)).trans h1, h2, h3, h4, h5, h6.imp fun n t G hG hR => hR.congr fun m hm => hh m (by simp [hG m hm]), rfl⟩

theorem RepL.dom {H : Store α} {R : Nat → Tr α → List Nat → Prop} (hR : ∀ n t F, R n t F → ∀ m, m ∈ F → ∃ r, H m = some r) : ∀ {ns : List Nat} {ts : List (Tr α)} {F : List Nat}, RepL R ns ts F → ∀ m, m ∈ F → ∃ r, H m = some r
  | [], [], F, h, m, hm => by obtain rfl : F = [] := h; cases hm
  | n :: ns, t :: ts, F, h, m, hm => by
    obtain ⟨F1, F2, h1, h2, rfl⟩ := h
    rcases List.mem_append.1 hm with hm | hm
    · exact hR n t F1 h1 m hm
    · exact RepL.dom hR h2 m hm
  | [], _ :: _, _, h, _, _ => h.elim
  | _ :: _, [], _, h, _, _ => h.elim

theorem Rep.dom {H : Store α} {c : Int} : ∀ {h n : Nat} {t : Tr α} {F : List Nat}, Rep H c h n t F → ∀ m, m ∈ F → ∃ r, H m = some r
  | 0, n, t, F, hr, m, hm => by
    obtain ⟨r, h1, _, _, _, _, _, rfl⟩ := hr
    rw [List.mem_singleton] at hm
    subst hm
    exact ⟨r, h1⟩
  | h + 1, n, t, F, hr, m, hm => by
    obtain ⟨r, ns, F', h1, _, _, _, _, h6, rfl⟩ := hr
    rcases List.mem_cons.1 hm with rfl | hm
    · exact ⟨r, h1⟩
    · exact RepL.dom (fun n t F h => Rep.dom h) h6 m hm

theorem Rep.root {H : Store α} {c : Int} {h n : Nat} {t : Tr α} {F : List Nat} (hr : Rep H c h n t F) : n ∈ F ∧ ∃ r, H n = some r ∧ r.iso = c ∧ r.items = t.its ∧ r.cnt = ((flat h t).length : Int) := by
  cases h with
  | zero => obtain ⟨r, h1, h2, h3, h4, h5, h6, rfl⟩ := hr; exact ⟨by simp, r, h1, h2, h3, h6⟩
  | succ h => obtain ⟨r, ns, F', h1, h2, h3, h4, h5, h6, rfl⟩ := hr; exact ⟨by simp, r, h1, h2, h3, h5⟩

theorem Mem.lt {T : Ty} {E : Enc α} {w : World} {H : Store α} {L : Nat → Lay} (hm : Mem T E w H L) {n : Nat} {r : NRec α} (h : H n = some r) : n < w.heap.size := lt_of_heap (hm.at_ n r h).1

def upd {β : Type} (f : Nat → β) (n : Nat) (x : β) : Nat → β := fun m => if m = n then x else f m
@[simp] theorem upd_same {β : Type} (f : Nat → β) (n : Nat) (x : β) : upd f n x n = x := by simp [upd]
theorem upd_ne {β : Type} (f : Nat → β) {n m : Nat} (x : β) (h : m ≠ n) : upd f n x m = f m := by simp [upd, h]

/-- One node is laid anew, in its own cells and new ones. -/
theorem Step.one {T : Ty} {E : Enc α} {w w' : World} {H : Store α} {L : Nat → Lay} (hm : Mem T E w H L) {n : Nat} {r r' : NRec α} {l' : Lay} (hn : H n = some r)
    (hk : Keep (Wb.fp T n r (L n)) w w') (hat : NodeAt T E w' n r' l') (hfp : ∀ b o, b < w.heap.size → Wb.fp T n r' l' b o → Wb.fp T n r (L n) b o) :
    Step T E w H L [n] w' (upd H n (some r')) (upd L n l') [n] := by
  refine Step.mk' hm (hk.mono fun b o _ hf => ⟨n, r, by simp, hn, hf⟩) (fun m h1 _ => ?_) (fun m h1 h2 => absurd h1 h2) (fun m h1 h2 => absurd h1 h2) (fun m h => .inl h) (fun m q h hq => ?_) (fun m q b o h hq hb hf => ?_) (fun a b p q ha hb hne => ?_)
  · have : m ≠ n := by simpa using h1
    exact ⟨upd_ne _ _ this, upd_ne _ _ this⟩
  · obtain rfl : m = n := by simpa using h
    rw [upd_same] at hq ⊢
    cases hq
    exact hat
  · obtain rfl : m = n := by simpa using h
    rw [upd_same] at hq hf
    cases hq
    exact ⟨m, r, by simp, hn, hfp b o hb hf⟩
  · simp at ha hb
    exact absurd (ha.trans hb.symm) hne
end Go.Wb

namespace Go.Wb
open Go Go.RowKit
variable {α : Type} {T : Ty} {E : Enc α}

theorem Mem.keepS {w W : World} {H : Store α} {L : Nat → Lay} {S : Nat → Nat → Prop} (hm : Mem T E w H L) (hk : Keep S w W) (hS : ∀ n r b o, H n = some r → fp T n r (L n) b o → ¬ S b o) : Mem T E W H L :=
  ⟨fun n r hr => (hm.at_ n r hr).keep hk fun b o hf => hS n r b o hr hf, hm.sep⟩

theorem Step.pre {w W w' : World} {H H' : Store α} {L L' : Nat → Lay} {F F' : List Nat} (hk : Keep (fun _ _ => False) w W) (h : Step T E W H L F w' H' L' F') : Step T E w H L F w' H' L' F' :=
  ⟨h.mem, hk.mono (fun _ _ _ h => h.elim) |>.trans h.keep fun _ _ _ h => h, h.out, fun m hm => (h.new m hm).imp id fun h1 => Nat.le_trans hk.size h1, fun b o hb hf => h.fp b o (Nat.lt_of_lt_of_le hb hk.size) hf, h.only⟩

/-- Behind a step one of its nodes is laid anew; blocks X that are no nodes' and weren't there at the begin may turn, too. -/
theorem Step.then {w W' w' : World} {H H' : Store α} {L L' : Nat → Lay} {F F1 : List Nat} (hm0 : Mem T E w H L) (h : Step T E w H L F W' H' L' F1) {n : Nat} {r r' : NRec α} {l' : Lay} (hn : n ∈ F1) (hr : H' n = some r) {X : Nat → Nat → Prop}
    (hk : Keep (fun b o => Wb.fp T n r (L' n) b o ∨ X b o) W' w') (hX : ∀ b o, X b o → w.heap.size ≤ b) (hXd : ∀ m q, H' m = some q → ∀ b o, Wb.fp T m q (L' m) b o → ¬ X b o)
    (hat : NodeAt T E w' n r' l') (hfp : ∀ b o, b < W'.heap.size → Wb.fp T n r' l' b o → Wb.fp T n r (L' n) b o) : Step T E w H L F w' (upd H' n (some r')) (upd L' n l') F1 := by
  have far : ∀ m q, m ≠ n → H' m = some q → ∀ b o, Wb.fp T n r' l' b o → Wb.fp T m q (L' m) b o → False := fun m q hne hq b o hf1 hf2 => by
    have hb := (h.mem.at_ m q hq).lt hf2
    exact h.mem.sep n m r q (fun e => hne e.symm) hr hq b o (hfp b o hb hf1) hf2
  refine ⟨⟨fun m q hq => ?_, fun a b p q hne ha hb x o hf1 hf2 => ?_⟩, ?_, fun m hmF q hq => ?_, h.new, fun b o hb hf => ?_, fun m q hq => ?_⟩
  · by_cases e : m = n
    · subst e
      rw [upd_same] at hq ⊢
      cases hq
      exact hat
    · rw [upd_ne _ _ e] at hq ⊢
      refine (h.mem.at_ m q hq).keep hk fun b o hf hS => ?_
      rcases hS with hS | hS
      · exact h.mem.sep n m r q (fun e' => e e'.symm) hr hq b o hS hf
      · exact hXd m q hq b o hf hS
  · by_cases ea : a = n <;> by_cases eb : b = n
    · exact hne (ea.trans eb.symm)
    · subst ea
      rw [upd_same] at ha hf1
      rw [upd_ne _ _ eb] at hb hf2
      cases ha
      exact far b q eb hb x o hf1 hf2
    · subst eb
      rw [upd_same] at hb hf2
      rw [upd_ne _ _ ea] at ha hf1
      cases hb
      exact far a p ea ha x o hf2 hf1
    · rw [upd_ne _ _ ea] at ha hf1
      rw [upd_ne _ _ eb] at hb hf2
      exact h.mem.sep a b p q hne ha hb x o hf1 hf2
  · refine h.keep.trans hk fun b o hb hS => ?_
    rcases hS with hS | hS
    · exact h.fp b o hb ⟨n, r, hn, hr, hS⟩
    · have := hX b o hS; omega
  · obtain ⟨h1, h2⟩ := h.out m hmF q hq
    have e : m ≠ n := by
      rintro rfl
      rcases h.new m hn with h3 | h3
      · exact hmF h3
      · have := hm0.lt hq; omega
    exact ⟨by rw [upd_ne _ _ e]; exact h1, by rw [upd_ne _ _ e]; exact h2⟩
  · obtain ⟨m, q, hmF, hq, hf⟩ := hf
    have hbW : b < W'.heap.size := Nat.lt_of_lt_of_le hb h.keep.size
    by_cases e : m = n
    · subst e
      rw [upd_same] at hq hf
      cases hq
      exact h.fp b o hb ⟨m, r, hn, hr, hfp b o hbW hf⟩
    · rw [upd_ne _ _ e] at hq hf
      exact h.fp b o hb ⟨m, q, hmF, hq, hf⟩
  · by_cases e : m = n
    · exact .inl (e ▸ hn)
    · rw [upd_ne _ _ e] at hq ⊢
      exact h.only m q hq

/-- What a step's nodes take is old or new: none of what came before the step began. -/
theorem Step.clear {w W w' : World} {H H' : Store α} {L L' : Nat → Lay} {F F' : List Nat} (hm0 : Mem T E w H L) (_hk : Keep (fun _ _ => False) w W) (h : Step T E W H L F w' H' L' F') :
    ∀ m q, H' m = some q → ∀ b o, Wb.fp T m q (L' m) b o → ¬ (w.heap.size ≤ b ∧ b < W.heap.size) := fun m q hq b o hf ⟨h1, h2⟩ => by
  rcases h.only m q hq with hF | ⟨_, h4, h5⟩
  · obtain ⟨k, p, _, hp, hfp⟩ := h.fp b o h2 ⟨m, q, hF, hq, hf⟩
    have := (hm0.at_ k p hp).lt hfp
    omega
  · rw [h5] at hf
    have := (hm0.at_ m q h4).lt hf
    omega

/-- A node becomes two. -/
theorem Step.two {w w' : World} {H : Store α} {L : Nat → Lay} (hm : Mem T E w H L) {n m : Nat} {r r1 r2 : NRec α} {l1 l2 : Lay} (hn : H n = some r) (hmw : w.heap.size ≤ m)
    (hk : Keep (Wb.fp T n r (L n)) w w') (h1 : NodeAt T E w' n r1 l1) (h2 : NodeAt T E w' m r2 l2)
    (f1 : ∀ b o, Wb.fp T n r1 l1 b o → Wb.fp T n r (L n) b o) (f2 : ∀ b o, Wb.fp T m r2 l2 b o → Wb.fp T n r (L n) b o ∨ w.heap.size ≤ b) (f3 : ∀ b o, Wb.fp T n r1 l1 b o → Wb.fp T m r2 l2 b o → False) :
    Step T E w H L [n] w' (upd (upd H n (some r1)) m (some r2)) (upd (upd L n l1) m l2) [n, m] := by
  have hnw := hm.lt hn
  have hne : n ≠ m := by omega
  have hmn : H m = none := by
    cases h : H m with
    | none => rfl
    | some q => have := hm.lt h; omega
  have en : upd (upd H n (some r1)) m (some r2) n = some r1 := by rw [upd_ne _ _ hne, upd_same]
  have el : upd (upd L n l1) m l2 n = l1 := by rw [upd_ne _ _ hne, upd_same]
  refine Step.mk' hm (hk.mono fun b o _ hf => ⟨n, r, by simp, hn, hf⟩) (fun k e1 e2 => ?_) (fun k e1 e2 => ?_) (fun k e1 e2 => ?_) (fun k e => ?_) (fun k q e hq => ?_) (fun k q b o e hq hb hf => ?_) (fun a b p q ea eb hab hp hq x o g1 g2 => ?_)
  · simp at e1 e2
    exact ⟨by rw [upd_ne _ _ e2.2, upd_ne _ _ e1], by rw [upd_ne _ _ e2.2, upd_ne _ _ e1]⟩
  · simp at e1 e2
    rcases e1 with rfl | rfl
    · exact absurd rfl e2
    · exact hmn
  · simp at e1 e2
    exact absurd e1 e2.1
  · simp at e
    rcases e with rfl | rfl
    · exact .inl (by simp)
    · exact .inr hmw
  · simp at e
    rcases e with rfl | rfl
    · rw [en] at hq; cases hq; rw [el]; exact h1
    · rw [upd_same] at hq ⊢; cases hq; exact h2
  · simp at e
    rcases e with rfl | rfl
    · rw [en] at hq; cases hq; rw [el] at hf; exact ⟨k, r, by simp, hn, f1 b o hf⟩
    · rw [upd_same] at hq hf
      cases hq
      rcases f2 b o hf with h | h
      · exact ⟨n, r, by simp, hn, h⟩
      · omega
  · simp at ea eb
    rcases ea with rfl | rfl <;> rcases eb with rfl | rfl
    · exact hab rfl
    · rw [en] at hp; rw [upd_same] at hq g2; rw [el] at g1; cases hp; cases hq; exact f3 x o g1 g2
    · rw [en] at hq; rw [upd_same] at hp g1; rw [el] at g2; cases hp; cases hq; exact f3 x o g2 g1
    · exact hab rfl
end Go.Wb

namespace Go.Wb
variable {α : Type}

/-- One item of an inner node: what is around it. -/
theorem flat_item {h : Nat} {A B : List α} {y : α} {ks : List (Tr α)} (hk : ks.length = (A ++ y :: B).length + 1) : ∃ C D, ∀ z, flat (h + 1) (.node (A ++ z :: B) ks) = C ++ z :: D := by
  simp only [List.length_append, List.length_cons] at hk
  obtain ⟨K1, k, K2, rfl, hK1, _⟩ := split_at ks A.length (by omega)
  simp only [List.length_append, List.length_cons] at hk
  cases K2 with
  | nil => simp at hk; omega
  | cons k' K2 =>
    refine ⟨wl (K1.map (flat h)) A ++ flat h k, flat h k' ++ wr B (K2.map (flat h)), fun z => ?_⟩
    simp only [flat, Tr.its, Tr.ks, List.map_append, List.map_cons]
    rw [wl_wr _ _ _ _ _ (by simpa using hK1)]
    simp [wr]

/-- A child's length is at most that of the whole. -/
theorem flat_child_le {h : Nat} {I1 I2 : List α} {K1 K2 : List (Tr α)} {k : Tr α} (h1 : K1.length = I1.length) : (flat h k).length ≤ (flat (h + 1) (.node (I1 ++ I2) (K1 ++ k :: K2))).length := by
  simp only [flat, Tr.its, Tr.ks, List.map_append, List.map_cons]
  rw [wl_wr _ _ _ _ _ (by simpa using h1)]
  simp only [List.length_append]
  omega

/-- The whole's length by that of the children. -/
theorem wr_len (its : List α) (ks : List (List α)) (h : ks.length = its.length) : (wr its ks).length = its.length + (ks.map List.length).sum := by
  induction its generalizing ks with
  | nil => cases ks with
    | nil => rfl
    | cons _ _ => simp at h
  | cons x its ih =>
    cases ks with
    | nil => simp at h
    | cons k ks =>
      simp only [wr, List.cons_append, List.length_cons, List.length_append, List.map_cons, List.sum_cons]
      rw [ih ks (by simpa using h)]
      omega
theorem weave_len (its : List α) (ks : List (List α)) (h : ks.length = its.length + 1) : (weave ks its).length = its.length + (ks.map List.length).sum := by
  cases ks with
  | nil => simp at h
  | cons k ks =>
    simp only [weave, List.length_append, List.map_cons, List.sum_cons]
    rw [wr_len its ks (by simpa using h)]
    omega
theorem flat_len {h : Nat} {its : List α} {ks : List (Tr α)} (hk : ks.length = its.length + 1) : (flat (h + 1) (.node its ks)).length = its.length + (ks.map fun k => (flat h k).length).sum := by
  simp only [flat, Tr.its, Tr.ks]
  rw [weave_len _ _ (by simpa using hk), List.map_map]
  rfl

theorem Put.sorted {lt : α → α → Bool} {l l' : List α} {x : α} {p : Option α} (h : Put lt l x l' p) (hs : Sorted lt l) : Sorted lt l' := by
  cases p with
  | none =>
    obtain ⟨A, B, rfl, rfl, hA, hB⟩ := h
    obtain ⟨s1, s2, s3⟩ := Sorted.of_append hs
    refine List.pairwise_append.2 ⟨s1, List.pairwise_cons.2 ⟨hB, s2⟩, fun a ha b hb => ?_⟩
    rcases List.mem_cons.1 hb with rfl | hb
    · exact hA a ha
    · exact s3 a ha b hb
  | some p =>
    obtain ⟨A, B, rfl, rfl, h1, h2, hA, hB⟩ := h
    obtain ⟨s1, s2, s3⟩ := Sorted.of_append hs
    refine List.pairwise_append.2 ⟨s1, List.pairwise_cons.2 ⟨hB, (List.pairwise_cons.1 s2).2⟩, fun a ha b hb => ?_⟩
    rcases List.mem_cons.1 hb with rfl | hb
    · exact hA a ha
    · exact s3 a ha b (by simp [hb])
end Go.Wb

namespace Go.Wb
open Go Go.RowKit
variable {α : Type}

/-- The blocks' types differ. -/
structure TyOk (T : Ty) : Prop where
  a : T.node ≠ T.pair
  b : T.node ≠ T.nodeP
  c : T.node ≠ T.kids
  d : T.pair ≠ T.kids
  e : T.nodeP ≠ T.kids
  f : T.pair ≠ T.nodeP

theorem Row.block {w : World} {ty s : Nat} {a : Option Addr} {cap : Nat} {cs : List Value} (h : Row w ty s a cap cs) {b o : Nat} (hf : ∃ n, rowFp a n b o) : ∃ arr, w.heap[b]? = some (.cells arr ty (0, 0)) := by
  obtain ⟨n, x, y, rfl, rfl, _⟩ := hf
  rcases h with ⟨h, _⟩ | ⟨b', o', arr, h1, h2, _⟩
  · cases h
  · obtain ⟨rfl, rfl⟩ : b = b' ∧ y = o' := by simpa using h1
    exact ⟨arr, h2⟩

/-- Only the node's own block has turned. -/
theorem NodeAt.reset {T : Ty} {E : Enc α} {w w' : World} {n : Nat} {r : NRec α} {L : Lay} (ok : TyOk T) (h : NodeAt T E w n r L) (hk : Keep (fun b _ => b = n) w w') {iso cnt : Int}
    (hb : w'.heap[n]? = some (.cells #[.int .u64 iso, .int .i64 cnt, .slice L.ia r.items.length L.icap, kidsVal r.kids L.cb] T.node (0, 0))) : NodeAt T E w' n { r with iso := iso, cnt := cnt } L := by
  obtain ⟨h1, h2, h3, h4⟩ := h
  refine ⟨hb, h2.keep' hk fun b o hf he => ?_, h3, fun ks hks => ?_⟩
  · subst he
    obtain ⟨arr, ha⟩ := h2.block ⟨_, hf⟩
    rw [h1] at ha
    exact ok.a (by simpa using (Obj.cells.inj (Option.some.inj ha)).2.1)
  · obtain ⟨h5, h6, h7⟩ := h4 ks hks
    refine ⟨blk_keep h5 hk fun o he => ?_, h6.keep' hk fun b o hf he => ?_, h7⟩
    · rw [he, h1] at h5
      exact ok.c (by simpa using (Obj.cells.inj (Option.some.inj h5)).2.1)
    · subst he
      obtain ⟨arr, ha⟩ := h6.block ⟨_, hf⟩
      rw [h1] at ha
      exact ok.b (by simpa using (Obj.cells.inj (Option.some.inj ha)).2.1)

theorem lt_of_cell {w : World} {b o : Nat} {v : Value} (h : w.cell? ⟨b, o, none⟩ = some v) : b < w.heap.size := by
  rcases Nat.lt_or_ge b w.heap.size with h' | h'
  · exact h'
  · simp [World.cell?, Array.getElem?_eq_none h'] at h
theorem Keep.cell' {S : Nat → Nat → Prop} {w w' : World} (hk : Keep S w w') {b o : Nat} {v : Value} (h : w.cell? ⟨b, o, none⟩ = some v) (hS : ¬ S b o) : w'.cell? ⟨b, o, none⟩ = some v :=
  (hk.cell (lt_of_cell h) hS).trans h

/-! ### parts of rows -/
theorem Row.cut {w : World} {ty s b o cap : Nat} {cs : List Value} (h : Row w ty s (some ⟨b, o, none⟩) cap cs) {n : Nat} (hn : n ≤ cap) : Row w ty s (some ⟨b, o, none⟩) n (cs.take (n * s)) := by
  rcases h with ⟨h, _⟩ | ⟨b', o', arr, h1, h2, h3, h4, h5⟩
  · cases h
  · refine .inr ⟨b', o', arr, h1, h2, by simp; omega, ?_, fun i v hi => h5 i v ?_⟩
    · have := Nat.mul_le_mul_right s hn
      omega
    · rw [List.getElem?_take] at hi
      split at hi
      · exact hi
      · cases hi
theorem Row.skip {w : World} {ty s b o cap : Nat} {cs : List Value} (h : Row w ty s (some ⟨b, o, none⟩) cap cs) {n : Nat} (hn : n ≤ cap) : Row w ty s (some ⟨b, o + n * s, none⟩) (cap - n) (cs.drop (n * s)) := by
  rcases h with ⟨h, _⟩ | ⟨b', o', arr, h1, h2, h3, h4, h5⟩
  · cases h
  · obtain ⟨rfl, rfl⟩ : b = b' ∧ o = o' := by simpa using h1
    have := Nat.mul_le_mul_right s hn
    refine .inr ⟨b, o + n * s, arr, rfl, h2, by rw [Nat.sub_mul]; simp; omega, by rw [Nat.sub_mul]; omega, fun i v hi => ?_⟩
    rw [List.getElem?_drop] at hi
    rw [Nat.add_assoc]
    exact h5 _ v hi
theorem Enc.all_take (E : Enc α) (l : List α) (i : Nat) : E.all (l.take i) = (E.all l).take (i * E.s) := by
  induction l generalizing i with
  | nil => simp [Enc.all]
  | cons x l ih =>
    cases i with
    | zero => simp [Enc.all]
    | succ i =>
      rw [List.take_succ_cons, E.all_cons, E.all_cons, ih, Nat.add_mul, Nat.one_mul, Nat.add_comm, ← E.len x, List.take_length_add_append, E.len]
theorem Enc.all_drop (E : Enc α) (l : List α) (i : Nat) : E.all (l.drop i) = (E.all l).drop (i * E.s) := by
  induction l generalizing i with
  | nil => simp [Enc.all]
  | cons x l ih =>
    cases i with
    | zero => simp [Enc.all]
    | succ i =>
      rw [List.drop_succ_cons, E.all_cons, ih, Nat.add_mul, Nat.one_mul, Nat.add_comm, ← E.len x, List.drop_length_add_append, E.len]

def kidSum (c : Nat → Int) : Option (List Nat) → Int
  | none => 0
  | some ks => (ks.map c).sum

theorem sum_nonneg : ∀ {l : List Int}, (∀ x ∈ l, 0 ≤ x) → 0 ≤ l.sum
  | [], _ => by simp
  | x :: l, h => by
    have h1 := h x (by simp)
    have h2 : 0 ≤ l.sum := sum_nonneg fun y hy => h y (by simp [hy])
    rw [List.sum_cons]; omega
theorem sum_take {l : List Int} (h : ∀ x ∈ l, 0 ≤ x) (i : Nat) : 0 ≤ (l.take i).sum ∧ (l.take i).sum ≤ l.sum := by
  have h1 : 0 ≤ (l.take i).sum := sum_nonneg fun x hx => h x (List.mem_of_mem_take hx)
  have h2 : 0 ≤ (l.drop i).sum := sum_nonneg fun x hx => h x (List.mem_of_mem_drop hx)
  have h3 : (l.take i).sum + (l.drop i).sum = l.sum := by rw [← List.sum_append, List.take_append_drop]
  omega
theorem sum_take_succ {l : List Int} {i : Nat} {x : Int} (h : l[i]? = some x) : (l.take (i + 1)).sum = (l.take i).sum + x := by
  obtain ⟨hlt, rfl⟩ := List.getElem?_eq_some_iff.1 h
  rw [List.take_succ_eq_append_getElem hlt, List.sum_append]
  simp
theorem sum_drop {l : List Int} (h : ∀ x ∈ l, 0 ≤ x) (i : Nat) : 0 ≤ (l.drop i).sum ∧ (l.drop i).sum ≤ l.sum := by
  have h1 : 0 ≤ (l.take i).sum := sum_nonneg fun x hx => h x (List.mem_of_mem_take hx)
  have h2 : 0 ≤ (l.drop i).sum := sum_nonneg fun x hx => h x (List.mem_of_mem_drop hx)
  have h3 : (l.take i).sum + (l.drop i).sum = l.sum := by rw [← List.sum_append, List.take_append_drop]
  omega

theorem results_tmp_cell_row {P : Program} {fn : Func} {p t : Tmp} {ty : TypeId} (h : fn.results = #[.tmp t, .cell p ty]) (tmps : Array Value) (w : World) (g : Nat) (tb : TypeId) (cs : Array Value) (fr : Nat × Nat) (d : TypeDesc)
    (hp : tmps.getD p undef = .pointer (some ⟨g, 0, none⟩)) (hg : w.heap[g]? = some (.cells cs tb fr))
    (hu : P.underlying ty = some d) (hd : (match d with | .struct _ | .array _ _ => true | _ => false) = true) (hi : (P.info? ty).map (·.size) = some cs.size) :
    (results fn tmps).run P w = .ok (.tuple #[tmps.getD t undef, .agg cs]) w := by
  have hp' : tmps[p]?.getD undef = .pointer (some ⟨g, 0, none⟩) := by simpa using hp
  simp [results, h, hp', asAddr, run_loadVar_row w g tb ty cs fr d hg hu hd hi, Result.andThen]
theorem results_cell_tmp_row {P : Program} {fn : Func} {p t : Tmp} {ty : TypeId} (h : fn.results = #[.cell p ty, .tmp t]) (tmps : Array Value) (w : World) (g : Nat) (tb : TypeId) (cs : Array Value) (fr : Nat × Nat) (d : TypeDesc)
    (hp : tmps.getD p undef = .pointer (some ⟨g, 0, none⟩)) (hg : w.heap[g]? = some (.cells cs tb fr))
    (hu : P.underlying ty = some d) (hd : (match d with | .struct _ | .array _ _ => true | _ => false) = true) (hi : (P.info? ty).map (·.size) = some cs.size) :
    (results fn tmps).run P w = .ok (.tuple #[.agg cs, tmps.getD t undef]) w := by
  have hp' : tmps[p]?.getD undef = .pointer (some ⟨g, 0, none⟩) := by simpa using hp
  simp [results, h, hp', asAddr, run_loadVar_row w g tb ty cs fr d hg hu hd hi, Result.andThen]
theorem results_cell_tmp2_row {P : Program} {fn : Func} {p t u : Tmp} {ty : TypeId} (h : fn.results = #[.cell p ty, .tmp t, .tmp u]) (tmps : Array Value) (w : World) (g : Nat) (tb : TypeId) (cs : Array Value) (fr : Nat × Nat) (d : TypeDesc)
    (hp : tmps.getD p undef = .pointer (some ⟨g, 0, none⟩)) (hg : w.heap[g]? = some (.cells cs tb fr))
    (hu : P.underlying ty = some d) (hd : (match d with | .struct _ | .array _ _ => true | _ => false) = true) (hi : (P.info? ty).map (·.size) = some cs.size) :
    (results fn tmps).run P w = .ok (.tuple #[.agg cs, tmps.getD t undef, tmps.getD u undef]) w := by
  have hp' : tmps[p]?.getD undef = .pointer (some ⟨g, 0, none⟩) := by simpa using hp
  simp [results, h, hp', asAddr, run_loadVar_row w g tb ty cs fr d hg hu hd hi, Result.andThen]

theorem wp_world2 {P : Program} {fn : Func} {R : Ending → World → Prop} {x : Exit} {a : Act} {w : World} (h : ∀ W, W = w → bodyPost P fn R x a W) : bodyPost P fn R x a w := h w rfl
theorem calls_world {P : Program} {f : Nat} {args : Array Value} {w : World} {Q : Ending → World → Prop} (h : ∀ W, W = w → Calls P f args W Q) : Calls P f args w Q := h w rfl

/-- Blocks of two types are two blocks. -/
theorem blk_ne {w : World} {a b : Nat} {c c' : Array Value} {t t' : TypeId} (h1 : w.heap[a]? = some (.cells c t (0, 0))) (h2 : w.heap[b]? = some (.cells c' t' (0, 0))) (ht : t ≠ t') : a ≠ b := by
  rintro rfl
  rw [h1] at h2
  exact ht (Obj.cells.inj (Option.some.inj h2)).2.1
theorem Row.blk {w : World} {ty s b o cap : Nat} {cs : List Value} (h : Row w ty s (some ⟨b, o, none⟩) cap cs) : ∃ arr, w.heap[b]? = some (.cells arr ty (0, 0)) := by
  rcases h with ⟨h, _⟩ | ⟨b', o', arr, h1, h2, _⟩
  · cases h
  · obtain ⟨rfl, rfl⟩ : b = b' ∧ o = o' := by simpa using h1
    exact ⟨arr, h2⟩
theorem rowFp_some {x y n b o : Nat} (h : rowFp (some ⟨x, y, none⟩) n b o) : b = x ∧ y ≤ o ∧ o < y + n := by
  obtain ⟨x', y', e, rfl, h1, h2⟩ := h
  obtain ⟨rfl, rfl⟩ : x = b ∧ y = y' := by simpa using e
  exact ⟨rfl, h1, h2⟩
end Go.Wb

namespace Go.Wb
open Go Go.RowKit
variable {α : Type} {T : Ty} {E : Enc α}

/-- A step counts its nodes, not their order. -/
theorem Step.same {w w' : World} {H H' : Store α} {L L' : Nat → Lay} {F F' G' : List Nat} (h : Step T E w H L F w' H' L' F') (e : ∀ m, m ∈ G' ↔ m ∈ F') : Step T E w H L F w' H' L' G' :=
  ⟨h.mem, h.keep, h.out, fun m hm => h.new m ((e m).1 hm), fun b o hb ⟨n, r, hn, hr, hf⟩ => h.fp b o hb ⟨n, r, (e n).1 hn, hr, hf⟩, fun m r hr => (h.only m r hr).imp (e m).2 id⟩

/-- Behind a step only cells turn that are no node's and weren't there at the begin. -/
theorem Step.post {w W' w' : World} {H H' : Store α} {L L' : Nat → Lay} {F F1 : List Nat} (h : Step T E w H L F W' H' L' F1) {X : Nat → Nat → Prop}
    (hk : Keep X W' w') (hX : ∀ b o, X b o → w.heap.size ≤ b) (hXd : ∀ m q, H' m = some q → ∀ b o, Wb.fp T m q (L' m) b o → ¬ X b o) : Step T E w H L F w' H' L' F1 :=
  ⟨h.mem.keepS hk fun n r b o hr hf => hXd n r hr b o hf, h.keep.trans hk fun b o hb hx => by have := hX b o hx; omega, h.out, h.new, h.fp, h.only⟩

theorem RepL.cut {R : Nat → Tr α → List Nat → Prop} : ∀ {ns : List Nat} {ts : List (Tr α)} {F : List Nat}, RepL R ns ts F → ∀ j, ∃ F1 F2, RepL R (ns.take j) (ts.take j) F1 ∧ RepL R (ns.drop j) (ts.drop j) F2 ∧ F = F1 ++ F2
  | [], [], F, h, j => ⟨[], F, by simp [RepL], by simpa using h, by simp⟩
  | n :: ns, t :: ts, F, h, 0 => ⟨[], F, by simp [RepL], by simpa using h, by simp⟩
  | n :: ns, t :: ts, F, h, j + 1 => by
    obtain ⟨F1, F2, h1, h2, rfl⟩ := h
    obtain ⟨G1, G2, g1, g2, rfl⟩ := RepL.cut h2 j
    exact ⟨F1 ++ G1, G2, ⟨F1, G1, h1, g1, rfl⟩, g2, by simp⟩
  | [], _ :: _, _, h, _ => h.elim
  | _ :: _, [], _, h, _ => h.elim

/-- A node's count. -/
def cntOf (H : Store α) (m : Nat) : Int := match H m with | some q => q.cnt | none => 0

theorem RepL.counts {H : Store α} {c : Int} {h : Nat} : ∀ {ns : List Nat} {ts : List (Tr α)} {F : List Nat}, RepL (Rep H c h) ns ts F → ns.map (cntOf H) = ts.map fun k => ((flat h k).length : Int)
  | [], [], _, _ => rfl
  | n :: ns, t :: ts, F, hr => by
    obtain ⟨F1, F2, h1, h2, rfl⟩ := hr
    obtain ⟨_, r, e1, _, _, e2⟩ := h1.root
    simp only [List.map_cons, RepL.counts h2]
    congr 1
    simp [cntOf, e1, e2]
  | [], _ :: _, _, h => h.elim
  | _ :: _, [], _, h => h.elim

theorem sum_cast (l : List (Tr α)) (h : Nat) : (l.map fun k => ((flat h k).length : Int)).sum = ((l.map fun k => (flat h k).length).sum : Nat) := by
  induction l with
  | nil => rfl
  | cons x l ih => simp only [List.map_cons, List.sum_cons, ih]; omega

theorem count_flat {H : Store α} {c : Int} {h : Nat} {its : List α} {ns : List Nat} {ts : List (Tr α)} {F : List Nat} (hr : RepL (Rep H c h) ns ts F) (hl : ts.length = its.length + 1) : (its.length : Int) + kidSum (cntOf H) (some ns) = ((flat (h + 1) (.node its ts)).length : Int) := by
  rw [flat_len hl, kidSum, hr.counts, sum_cast]; omega

/-- The records of a node's halves. -/
def halfL (H : Store α) (iso : Int) (r : NRec α) (i : Nat) : NRec α := ⟨iso, (r.items.take i).length + kidSum (cntOf H) (r.kids.map (List.take (i + 1))), r.items.take i, r.kids.map (List.take (i + 1))⟩
def halfR (H : Store α) (iso : Int) (r : NRec α) (i : Nat) : NRec α := ⟨iso, (r.items.drop (i + 1)).length + kidSum (cntOf H) (r.kids.map (List.drop (i + 1))), r.items.drop (i + 1), r.kids.map (List.drop (i + 1))⟩

theorem Rep.halves {H : Store α} {c : Int} {h n : Nat} {t : Tr α} {F : List Nat} {l mn mx : Nat} (hr : Rep H c h n t F) (wf : wfr l mn mx h t) (nd : F.Nodup) {r : NRec α} (hn : H n = some r) {m : Nat} (hm : H m = none) {i : Nat} (hi : i < t.its.length) :
    ∃ F1 F2, F = n :: (F1 ++ F2) ∧ Rep (upd (upd H n (some (halfL H c r i))) m (some (halfR H c r i))) c h n (cutL i t) (n :: F1) ∧ Rep (upd (upd H n (some (halfL H c r i))) m (some (halfR H c r i))) c h m (cutR i t) (m :: F2) := by
  have hnm : n ≠ m := fun e => by subst e; rw [hm] at hn; cases hn
  obtain ⟨its, ks⟩ := t
  simp only [Tr.its] at hi
  cases h with
  | zero =>
    obtain ⟨q, h1, h2, h3, h4, h5, h6, rfl⟩ := hr
    rw [hn] at h1
    cases h1
    simp only [Tr.its, Tr.ks] at *
    subst h3
    subst h4
    refine ⟨[], [], rfl, ⟨halfL H c r i, by rw [upd_ne _ _ hnm, upd_same], rfl, rfl, by simp [cutL, Tr.ks], by simp [halfL, h5], ?_, rfl⟩, ⟨halfR H c r i, upd_same _ _ _, rfl, rfl, by simp [cutR, Tr.ks], by simp [halfR, h5], ?_, rfl⟩⟩
    · simp [halfL, h5, kidSum, flat, cutL, Tr.its]
    · simp [halfR, h5, kidSum, flat, cutR, Tr.its]
  | succ h =>
    obtain ⟨q, ns, F', h1, h2, h3, h4, h5, h6, rfl⟩ := hr
    rw [hn] at h1
    cases h1
    obtain ⟨w1, w2, w3, w4⟩ := wf
    simp only [Tr.its, Tr.ks] at *
    subst h3
    obtain ⟨F1, F2, c1, c2, rfl⟩ := h6.cut (i + 1)
    have hnF := (List.nodup_cons.1 nd).1
    have out : ∀ k, k ∈ F1 ++ F2 → upd (upd H n (some (halfL H c r i))) m (some (halfR H c r i)) k = H k := fun k hk => by
      have e1 : k ≠ n := fun e => hnF (e ▸ hk)
      have e2 : k ≠ m := fun e => by
        subst e
        obtain ⟨q, hq⟩ := RepL.dom (fun _ _ _ h => Rep.dom h) h6 k hk
        rw [hm] at hq
        cases hq
      rw [upd_ne _ _ e2, upd_ne _ _ e1]
    have C1 := c1.imp fun a t G hG (hR : Rep H c h a t G) => hR.congr fun k hk => out k (by simp [hG k hk])
    have C2 := c2.imp fun a t G hG (hR : Rep H c h a t G) => hR.congr fun k hk => out k (by simp [hG k hk])
    refine ⟨F1, F2, rfl, ⟨halfL H c r i, ns.take (i + 1), F1, by rw [upd_ne _ _ hnm, upd_same], rfl, rfl, by simp [halfL, h4], ?_, C1, rfl⟩, ⟨halfR H c r i, ns.drop (i + 1), F2, upd_same _ _ _, rfl, rfl, by simp [halfR, h4], ?_, C2, rfl⟩⟩
    · have := count_flat (its := r.items.take i) c1 (by simp; omega)
      simp only [halfL, h4, Option.map_some]
      exact this
    · have := count_flat (its := r.items.drop (i + 1)) c2 (by simp; omega)
      simp only [halfR, h4, Option.map_some]
      exact this
/-- What the pieces of a tree around a child are. -/
structure Around (H : Store α) (iso : Int) (mn mx h n : Nat) (t : Tr α) (F : List Nat) (r : NRec α) (i : Nat) (k : Tr α) (N1 N2 : List Nat) (c : Nat) (K1 K2 : List (Tr α)) (F1 Fk F2 : List Nat) : Prop where
  tq : t = .node r.items (K1 ++ k :: K2)
  Fq : F = n :: (F1 ++ Fk ++ F2)
  rec_ : H n = some r
  isoq : r.iso = iso
  kids : r.kids = some (N1 ++ c :: N2)
  cnt : r.cnt = ((flat (h + 1) t).length : Int)
  lk : K1.length = i
  ln : N1.length = i
  ln2 : N2.length = K2.length
  lr : r.items.length = i + K2.length
  r1 : RepL (Rep H iso h) N1 K1 F1
  rk : Rep H iso h c k Fk
  r2 : RepL (Rep H iso h) N2 K2 F2
  wk : wfr mn mn mx h k
  wo : ∀ k', k' ∈ K1 ++ K2 → wfr mn mn mx h k'
  le : r.items.length ≤ mx

theorem around_of {H : Store α} {iso : Int} {mn mx h n l : Nat} {t : Tr α} {F : List Nat} (rep : Rep H iso (h + 1) n t F) (wf : wfr l mn mx (h + 1) t) {i : Nat} {k : Tr α} (hk : t.ks[i]? = some k) :
    ∃ r N1 N2 c K1 K2 F1 Fk F2, Around H iso mn mx h n t F r i k N1 N2 c K1 K2 F1 Fk F2 := by
  obtain ⟨r, ns, F', hr1, hiso, hits, hkn, hcnt, hrl, rfl⟩ := rep
  obtain ⟨w1, w2, w3, w4⟩ := wf
  obtain ⟨its, ks⟩ := t
  simp only [Tr.its, Tr.ks] at *
  subst hits
  obtain ⟨hil, _⟩ := List.getElem?_eq_some_iff.1 hk
  obtain ⟨K1, k0, K2, hks, hK1, hk0⟩ := split_at ks i hil
  obtain rfl : k = k0 := by rw [hk] at hk0; exact Option.some.inj hk0
  subst hks
  obtain ⟨N1, c, N2, F1, Fk, F2, rfl, e1, e2, R1, Rk, R2, rfl⟩ := hrl.split
  refine ⟨r, N1, N2, c, K1, K2, F1, Fk, F2, rfl, rfl, hr1, hiso, hkn, hcnt, hK1, by omega, e2, by simp at w3; omega, R1, Rk, R2, w4 k (by simp), fun k' hk' => w4 k' ?_, w2⟩
  simp only [List.mem_append, List.mem_cons] at hk' ⊢
  rcases hk' with h | h <;> simp [h]

theorem RepL.mem {R : Nat → Tr α → List Nat → Prop} : ∀ {ns : List Nat} {ts : List (Tr α)} {F : List Nat}, RepL R ns ts F → ∀ k, k ∈ ns → ∃ t G, R k t G ∧ ∀ m, m ∈ G → m ∈ F
  | [], _, _, _, k, hk => by cases hk
  | n :: ns, t :: ts, F, h, k, hk => by
    obtain ⟨F1, F2, h1, h2, rfl⟩ := h
    rcases List.mem_cons.1 hk with rfl | hk
    · exact ⟨t, F1, h1, fun m hm => by simp [hm]⟩
    · obtain ⟨t', G, g1, g2⟩ := RepL.mem h2 k hk
      exact ⟨t', G, g1, fun m hm => by simp [g2 m hm]⟩
  | _ :: _, [], _, h, _, _ => h.elim

theorem Rep.kids_ok {H : Store α} {c : Int} {h n : Nat} {t : Tr α} {F : List Nat} {l mn mx : Nat} (hr : Rep H c h n t F) (wf : wfr l mn mx h t) (nd : F.Nodup) {r : NRec α} (hn : H n = some r) {ks : List Nat} (hk : r.kids = some ks) :
    ks.length = t.its.length + 1 ∧ (ks.map (cntOf H)).sum ≤ (flat h t).length ∧ ∀ k ∈ ks, k ≠ n ∧ 0 ≤ cntOf H k ∧ ∃ q, H k = some q ∧ q.cnt = cntOf H k := by
  cases h with
  | zero =>
    obtain ⟨q, h1, h2, h3, h4, h5, h6, rfl⟩ := hr
    rw [hn] at h1
    cases h1
    rw [h5] at hk
    cases hk
  | succ h =>
    obtain ⟨q, ns, F', h1, h2, h3, h4, h5, h6, rfl⟩ := hr
    rw [hn] at h1
    cases h1
    rw [h4] at hk
    cases hk
    obtain ⟨w1, w2, w3, w4⟩ := wf
    refine ⟨by rw [h6.len, w3], ?_, fun k hk => ?_⟩
    · have := count_flat (its := t.its) h6 w3
      obtain ⟨its, ks⟩ := t
      simp only [kidSum, Tr.its, Tr.ks] at this ⊢
      omega
    · obtain ⟨t', G, g1, g2⟩ := h6.mem k hk
      obtain ⟨g3, q, g4, _, _, g5⟩ := g1.root
      refine ⟨fun e => (List.nodup_cons.1 nd).1 (e ▸ g2 k g3), ?_, q, g4, by simp [cntOf, g4]⟩
      simp only [cntOf, g4, g5]
      omega

theorem RepL.get {R : Nat → Tr α → List Nat → Prop} : ∀ {ns : List Nat} {ts : List (Tr α)} {F : List Nat}, RepL R ns ts F → ∀ {i m : Nat} {k : Tr α}, ns[i]? = some m → ts[i]? = some k → ∃ G, R m k G
  | [], _, _, _, i, m, k, h, _ => by simp at h
  | n :: ns, t :: ts, F, h, 0, m, k, hn, hk => by
    obtain ⟨F1, F2, h1, _, _⟩ := h
    simp at hn hk
    subst hn
    subst hk
    exact ⟨F1, h1⟩
  | n :: ns, t :: ts, F, h, i + 1, m, k, hn, hk => by
    obtain ⟨F1, F2, _, h2, _⟩ := h
    exact RepL.get h2 (by simpa using hn) (by simpa using hk)
  | _ :: _, [], _, h, _, _, _, _, _ => h.elim
end Go.Wb

namespace Go.Wb
open Go

/-- A post that lets neither a panic nor an outgrown memory by. -/
structure Tame (Q : Exit → Act → World → Prop) : Prop where
  panic : ∀ c a w, ¬ Q (.panic c) a w
  out : ¬ LetsOut Q

/-- The post, but 'False' at a panic and where memory would be outgrown. -/
def CalmQ (Q : Exit → Act → World → Prop) : Exit → Act → World → Prop
  | .panic _, _, _ => False
  | .outgrown, _, _ => False
  | e, a, w => Q e a w
theorem CalmQ.tame (Q : Exit → Act → World → Prop) : Tame (CalmQ Q) := ⟨fun _ _ _ h => h, fun ⟨_, _, h⟩ => h⟩

section
variable {P : Program} {ops : Array Oper} {S : World → Prop} {kd : Nat → Bool} {z : Nat}

/-- Where it succeeds: a value, and the world as it was. -/
def Reads (P : Program) (s : Sem Next) : Prop := ∀ w x w', s.run P w = .ok x w' → w' = w ∧ ∃ v, x = .value v
/-- Where it succeeds: a value, whatever the world. -/
def Silent (P : Program) (s : Sem Next) : Prop := ∀ w x w', s.run P w = .ok x w' → ∃ v, x = .value v ∧ ∀ w2, s.run P w2 = .ok (.value v) w2

theorem Silent.reads {s : Sem Next} (h : Silent P s) : Reads P s := fun w x w' hr => by
  obtain ⟨v, rfl, h2⟩ := h w x w' hr
  rw [h2 w] at hr
  simp only [Result.ok.injEq] at hr
  exact ⟨hr.2.symm, v, rfl⟩

/-- A number, a string, a bool. -/
def num : Value → Prop
  | .int .. | .string _ | .bool _ => True
  | _ => False

/-- A number. -/
def isInt : Value → Prop
  | .int .. => True
  | _ => False

/-- The literal nil. -/
def nilLit : Operand → Bool
  | .const (.pointer none) | .const .nilIface | .const .nilFunc | .const (.slice none 0 0) => true
  | _ => false

/-- The frame's evaluation leaves a constant as it is. -/
def Plain (ρ : Operand → Value) : Prop := ∀ v, ρ (.const v) = v

/-- What is asked of the operands. -/
def Good (o : Oper) (ρ : Operand → Value) : Prop :=
  match o.op with
  | .binOp op _ x y _ => (nilLit y = true ∧ (op = .eql ∨ op = .neq)) ∨ (num (ρ x) ∧ num (ρ y))
  | .convert _ _ x => isInt (ρ x)
  | _ => True

/-- In the worlds that meet S it yields one value, and changes nothing. -/
def CalmAt (P : Program) (S : World → Prop) (o : Oper) (ρ : Operand → Value) : Prop :=
  ∀ w x w', S w → (execOp ρ o).run P w = .ok x w' → ∃ v, x = .value v ∧ ∀ w2, S w2 → (execOp ρ o).run P w2 = .ok (.value v) w2

theorem Silent.calm {o : Oper} {ρ : Operand → Value} (h : Silent P (execOp ρ o)) : CalmAt P S o ρ := fun w x w' _ hr => by
  obtain ⟨v, rfl, h2⟩ := h w x w' hr
  exact ⟨v, rfl, fun w2 _ => h2 w2⟩

/-- What is asked of the operation of number i: of its operands; and, where it is told as calm, that it is. -/
def Gd (P : Program) (S : World → Prop) (kd : Nat → Bool) (i : Nat) (o : Oper) (ρ : Operand → Value) : Prop :=
  Good o ρ ∧ (kd i = true → CalmAt P S o ρ)

/-- May stand on either side of the other: one of both is calm, or both only read. -/
def Comm (P : Program) (S : World → Prop) (kd : Nat → Bool) (i : Nat) (x : Oper) (j : Nat) (y : Oper) : Prop :=
  (∀ ρ, Plain ρ → Gd P S kd i x ρ → CalmAt P S x ρ) ∨ (∀ ρ, Plain ρ → Gd P S kd j y ρ → CalmAt P S y ρ) ∨ ((∀ ρ, Plain ρ → Good x ρ → Reads P (execOp ρ x)) ∧ ∀ ρ, Plain ρ → Good y ρ → Reads P (execOp ρ y))

theorem good_put {ops : Array Oper} (o : Oper) (a : Act) (dst : Option Tmp) (v : Value) (h : ∀ d, dst = some d → d ∉ o.looksAt ops) : Good o (a.put dst v).eval ↔ Good o a.eval := by
  have he : ∀ x ∈ o.op.operands, (a.put dst v).eval x = a.eval x := fun x hx => Act.eval_put fun d hd hxd => h d hd (by
    subst hxd
    exact List.mem_append_left _ (List.mem_filterMap.2 ⟨.tmp d, by simpa using hx, rfl⟩))
  obtain ⟨dst', op, type, pos, after, guard⟩ := o
  unfold Good
  cases op <;> simp only [Op.operands] at he <;> try exact Iff.rfl
  case binOp op t x y yt => simp only [he x (by simp), he y (by simp)]
  case convert s d x => simp only [he x (by simp)]

theorem gd_put {i : Nat} (o : Oper) (hs : ∀ cs b, o.op ≠ .select cs b) (a : Act) (dst : Option Tmp) (v : Value) (h : ∀ d, dst = some d → d ∉ o.looksAt ops) : Gd P S kd i o (a.put dst v).eval ↔ Gd P S kd i o a.eval := by
  unfold Gd CalmAt
  rw [execOp_put o hs a dst v h, good_put o a dst v h]

/-- The step of an operation whose operands are as asked; behind it S holds (but behind operation z). -/
def gOp (P : Program) (ops : Array Oper) (S : World → Prop) (kd : Nat → Bool) (z : Nat) (Q : Exit → Act → World → Prop) (i : Nat) (K : Act → World → Prop) (a : Act) (w : World) : Prop :=
  wpOp P ops Q i (fun a' w' => (i ≠ z → S w') ∧ K a' w') a w ∧ ∀ o, ops[i]? = some o → Region.wanted o (yielded ops a.tmps) = true → Gd P S kd i o a.eval
def gOps (P : Program) (ops : Array Oper) (S : World → Prop) (kd : Nat → Bool) (z : Nat) (Q : Exit → Act → World → Prop) : List Nat → Act → World → Prop
  | [], a, w => Q .normal a w
  | i :: rest, a, w => gOp P ops S kd z Q i (gOps P ops S kd z Q rest) a w

variable {Q : Exit → Act → World → Prop}

theorem gOp_mono {i : Nat} {a : Act} {w : World} {K K' : Act → World → Prop} (h : ∀ a w, (i ≠ z → S w) → K a w → K' a w) (hh : gOp P ops S kd z Q i K a w) : gOp P ops S kd z Q i K' a w :=
  ⟨wpOp_mono (fun a w hk => ⟨hk.1, h a w hk.1 hk.2⟩) hh.1, hh.2⟩

/-- What a calm operation yields. -/
def YieldsG (P : Program) (ops : Array Oper) (S : World → Prop) (kd : Nat → Bool) (i : Nat) (o : Oper) (v : Value) (a : Act) : Prop :=
  ((Region.wanted o (yielded ops a.tmps) = true ∧ ∀ w, S w → (execOp a.eval o).run P w = .ok (.value v) w) ∨ (Region.wanted o (yielded ops a.tmps) = false ∧ v = undef)) ∧
  (Region.wanted o (yielded ops a.tmps) = true → Gd P S kd i o a.eval)

theorem YieldsG.of_put {i : Nat} {o : Oper} {v : Value} {a : Act} {dst : Option Tmp} {u : Value} (hs : ∀ cs b, o.op ≠ .select cs b) (h : ∀ d, dst = some d → d ∉ o.looksAt ops) :
    YieldsG P ops S kd i o v (a.put dst u) ↔ YieldsG P ops S kd i o v a := by
  unfold YieldsG
  rw [execOp_put o hs a dst u h, wanted_put o a dst u h, gd_put o hs a dst u h]

theorem YieldsG.gOp {i : Nat} {o : Oper} {v : Value} {a : Act} (hi : ops[i]? = some o) (hy : YieldsG P ops S kd i o v a) {K : Act → World → Prop} {w : World} (hS : S w) (h : K (a.put o.dst v) w) : gOp P ops S kd z Q i K a w := by
  refine ⟨?_, fun o' ho' hw => by rw [hi] at ho'; cases ho'; exact hy.2 hw⟩
  unfold wpOp
  simp only [hi]
  rcases hy.1 with ⟨hw, hr⟩ | ⟨hw, rfl⟩
  · simp only [hw, if_true]
    refine .inl ?_
    unfold Oper.wp
    rw [hr w hS]
    exact ⟨fun _ => hS, h⟩
  · simp only [hw, Bool.false_eq_true, if_false]
    exact ⟨fun _ => hS, h⟩

theorem calm_yields (hQ : Tame Q) {i : Nat} {o : Oper} (hs : ∀ ρ, Plain ρ → Gd P S kd i o ρ → CalmAt P S o ρ) (hi : ops[i]? = some o) {a : Act} {w : World} {K : Act → World → Prop} (hS : S w)
    (h : gOp P ops S kd z Q i K a w) : ∃ v, YieldsG P ops S kd i o v a ∧ K (a.put o.dst v) w := by
  obtain ⟨h, hg⟩ := h
  unfold wpOp at h
  simp only [hi] at h
  split at h
  · rename_i hw
    have hgood := hg o hi hw
    rcases h with h | ⟨_, h⟩
    · unfold Oper.wp at h
      cases hr : (execOp a.eval o).run P w with
      | ok x w' =>
        obtain ⟨v, rfl, h2⟩ := hs a.eval (fun _ => rfl) hgood w x w' hS hr
        have h3 := h2 w hS
        rw [hr] at h3
        simp only [Result.ok.injEq, true_and] at h3
        subst h3
        rw [hr] at h
        exact ⟨v, ⟨.inl ⟨hw, h2⟩, fun _ => hgood⟩, h.2⟩
      | halt x w' =>
        rw [hr] at h
        cases x <;> simp only [Oper.upon] at h
        exact (hQ.panic _ _ _ h).elim
    · exact (hQ.out h).elim
  · rename_i hw
    exact ⟨undef, ⟨.inr ⟨by simpa using hw, rfl⟩, fun hw' => absurd hw' hw⟩, h.2⟩

def YieldsAt (P : Program) (ops : Array Oper) (S : World → Prop) (kd : Nat → Bool) (i : Nat) (o : Oper) (v : Value) (a : Act) (w : World) : Prop :=
  ((Region.wanted o (yielded ops a.tmps) = true ∧ (execOp a.eval o).run P w = .ok (.value v) w) ∨ (Region.wanted o (yielded ops a.tmps) = false ∧ v = undef)) ∧ (Region.wanted o (yielded ops a.tmps) = true → Gd P S kd i o a.eval)

theorem YieldsAt.of_put {i : Nat} {o : Oper} {v : Value} {a : Act} {w : World} {dst : Option Tmp} {u : Value} (hs : ∀ cs b, o.op ≠ .select cs b) (h : ∀ d, dst = some d → d ∉ o.looksAt ops) :
    YieldsAt P ops S kd i o v (a.put dst u) w ↔ YieldsAt P ops S kd i o v a w := by
  unfold YieldsAt
  rw [execOp_put o hs a dst u h, wanted_put o a dst u h, gd_put o hs a dst u h]

theorem reads_yields (hQ : Tame Q) {i : Nat} {o : Oper} (hs : ∀ ρ, Plain ρ → Good o ρ → Reads P (execOp ρ o)) (hi : ops[i]? = some o) {a : Act} {w : World} {K : Act → World → Prop}
    (hg : ∀ o, ops[i]? = some o → Region.wanted o (yielded ops a.tmps) = true → Gd P S kd i o a.eval) (h : wpOp P ops Q i K a w) : ∃ v, YieldsAt P ops S kd i o v a w ∧ K (a.put o.dst v) w := by
  unfold wpOp at h
  simp only [hi] at h
  split at h
  · rename_i hw
    have hgood := hg o hi hw
    rcases h with h | ⟨_, h⟩
    · unfold Oper.wp at h
      cases hr : (execOp a.eval o).run P w with
      | ok x w' =>
        obtain ⟨rfl, v, rfl⟩ := hs a.eval (fun _ => rfl) hgood.1 w x w' hr
        rw [hr] at h
        exact ⟨v, ⟨.inl ⟨hw, hr⟩, fun _ => hgood⟩, h⟩
      | halt x w' =>
        rw [hr] at h
        cases x <;> simp only [Oper.upon] at h
        exact (hQ.panic _ _ _ h).elim
    · exact (hQ.out h).elim
  · rename_i hw
    exact ⟨undef, ⟨.inr ⟨by simpa using hw, rfl⟩, fun hw' => absurd hw' hw⟩, h⟩

theorem reads_gOp {i : Nat} {o : Oper} (hi : ops[i]? = some o) {a : Act} {w : World} {K : Act → World → Prop} {v : Value} (hS : S w)
    (hy : YieldsAt P ops S kd i o v a w) (h : K (a.put o.dst v) w) : gOp P ops S kd z Q i K a w := by
  refine ⟨?_, fun o' ho' hw => by rw [hi] at ho'; cases ho'; exact hy.2 hw⟩
  unfold wpOp
  simp only [hi]
  rcases hy.1 with ⟨hw, hr⟩ | ⟨hw, rfl⟩
  · simp only [hw, if_true]
    refine .inl ?_
    unfold Oper.wp
    rw [hr]
    exact ⟨fun _ => hS, h⟩
  · simp only [hw, Bool.false_eq_true, if_false]
    exact ⟨fun _ => hS, h⟩

/-- (after 'wpOp_put') What holds of the frame whatever the operation puts is handed on. -/
theorem wpOp_put' (hQ : Tame Q) {i j : Nat} {oi oj : Oper} {v : Value} (hj : ops[j]? = some oj) (hap : oi.apart ops oj = true)
    (hsi : ∀ cs b, oi.op ≠ .select cs b) (hsj : ∀ cs b, oj.op ≠ .select cs b) {K : Act → World → Prop} {a : Act} {w : World}
    (hy : YieldsG P ops S kd i oi v a) (h : wpOp P ops Q j K (a.put oi.dst v) w) :
    wpOp P ops Q j (fun a' w' => YieldsG P ops S kd i oi v a' ∧ K (a'.put oi.dst v) w') a w := by
  obtain ⟨h1, h2, h3⟩ := Oper.apart_spec hap
  have keep : ∀ (a : Act), YieldsG P ops S kd i oi v a → ∀ u, YieldsG P ops S kd i oi v (a.put oj.dst u) := fun a hy u => (YieldsG.of_put hsi h3).2 hy
  have keepD : ∀ d, YieldsG P ops S kd i oi v { a with defers := d :: a.defers } := fun d => hy
  unfold wpOp at *
  simp only [hj] at *
  rw [wanted_put oj a oi.dst v h1] at h
  split
  · rename_i hw
    simp only [hw, if_true] at h
    rcases h with h | ⟨_, hlets⟩
    case inr => exact (hQ.out hlets).elim
    refine .inl ?_
    unfold Oper.wp at *
    rw [execOp_put oj hsj a oi.dst v h1] at h
    generalize (execOp a.eval oj).run P w = r at *
    cases r with
    | ok n w' =>
      cases n <;> simp only [Oper.upon] at h ⊢
      case value u => exact ⟨keep a hy u, by rw [← Act.put_comm a v u h2]; exact h⟩
      case skip => exact ⟨keep a hy _, by rw [← Act.put_comm a v undef h2]; exact h⟩
      case defer d =>
        refine ⟨keep _ (keepD d) _, ?_⟩
        rw [← Act.put_comm _ v undef h2, ← Act.put_defers]
        exact h
      case enter f args =>
        refine Calls.mono h fun e w'' he => ?_
        cases e with
        | returned u => exact ⟨keep a hy u, by rw [← Act.put_comm a v u h2]; exact he⟩
        | panicked c => exact (hQ.panic _ _ _ he).elim
        | outgrown => exact he
      case row row args => exact Rows.mono h fun u w'' he => ⟨keep a hy u, by rw [← Act.put_comm a v u h2]; exact he⟩
    | halt x w' =>
      cases x <;> simp only [Oper.upon] at h ⊢
      case panic u => exact (hQ.panic _ _ _ h).elim
  · rename_i hw
    simp only [hw] at h
    exact ⟨keep a hy _, by rw [← Act.put_comm a v undef h2]; exact h⟩

/-- An outcome of an operation: the frame is the old one, but for what it puts (and what it defers). -/
theorem outcome (hQ : Tame Q) {j : Nat} {oj : Oper} (hj : ops[j]? = some oj) {K : Act → World → Prop} {a : Act} {w : World} (h : wpOp P ops Q j K a w) :
    ∃ u w1 ds, K (({ a with defers := ds } : Act).put oj.dst u) w1 := by
  unfold wpOp at h
  simp only [hj] at h
  split at h
  · rcases h with h | ⟨_, h⟩
    case inr => exact (hQ.out h).elim
    unfold Oper.wp at h
    cases hr : (execOp a.eval oj).run P w with
    | ok n w' =>
      rw [hr] at h
      cases n <;> simp only [Oper.upon] at h
      case value u => exact ⟨u, w', a.defers, h⟩
      case skip => exact ⟨undef, w', a.defers, h⟩
      case defer d => exact ⟨undef, w', d :: a.defers, h⟩
      case enter f args =>
        obtain ⟨e, w'', fr, he, _⟩ := h []
        cases e with
        | returned u => exact ⟨u, w'', a.defers, he⟩
        | panicked c => exact (hQ.panic _ _ _ he).elim
        | outgrown => exact (hQ.out he).elim
      case row row args =>
        obtain ⟨u, w'', he, _⟩ := h default []
        exact ⟨u, w'', a.defers, he⟩
    | halt x w' =>
      rw [hr] at h
      cases x <;> simp only [Oper.upon] at h
      exact (hQ.panic _ _ _ h).elim
  · exact ⟨undef, w, a.defers, h⟩

/-- An operation behind which a calm one yields: it yields ahead of it, too. -/
theorem unput (hQ : Tame Q) {i j : Nat} {oi oj : Oper} (hi : ops[i]? = some oi) (hj : ops[j]? = some oj) (hap : oi.apart ops oj = true) (hs : ∀ ρ, Plain ρ → Gd P S kd i oi ρ → CalmAt P S oi ρ)
    (hsi : ∀ cs b, oi.op ≠ .select cs b) (hsj : ∀ cs b, oj.op ≠ .select cs b) (hS0 : ∃ w, S w)
    {K : Act → World → Prop} {a : Act} {w : World} (h : wpOp P ops Q j (fun a1 w1 => S w1 ∧ gOp P ops S kd z Q i K a1 w1) a w) :
    ∃ v, YieldsG P ops S kd i oi v a ∧ wpOp P ops Q j (fun a1 w1 => S w1 ∧ K a1 w1) (a.put oi.dst v) w := by
  obtain ⟨h1, h2, h3⟩ := Oper.apart_spec hap
  have back : ∀ (ds : List Deferred) (u : Value) (w1 : World), (S w1 ∧ gOp P ops S kd z Q i K (({ a with defers := ds } : Act).put oj.dst u) w1) → ∃ v, YieldsG P ops S kd i oi v a ∧ S w1 ∧ K ((({ a with defers := ds } : Act).put oi.dst v).put oj.dst u) w1 := fun ds u w1 ⟨hS, hh⟩ => by
    obtain ⟨v, hy, hk⟩ := calm_yields hQ hs hi hS hh
    have hy1 : YieldsG P ops S kd i oi v ({ a with defers := ds } : Act) := (YieldsG.of_put hsi h3).1 hy
    refine ⟨v, hy1, hS, ?_⟩
    rw [← Act.put_comm _ u v (fun d hd he => h2 d he hd)]
    exact hk
  have same : ∀ v v', YieldsG P ops S kd i oi v a → YieldsG P ops S kd i oi v' a → v = v' := fun v v' hv hv' => by
    rcases hv.1 with ⟨hw, hv⟩ | ⟨hw, rfl⟩ <;> rcases hv'.1 with ⟨hw', hv'⟩ | ⟨hw', rfl⟩
    · obtain ⟨w0, hw0⟩ := hS0
      have := (hv w0 hw0).symm.trans (hv' w0 hw0); simpa using this
    · rw [hw] at hw'; cases hw'
    · rw [hw] at hw'; cases hw'
    · rfl
  obtain ⟨u0, w0, ds0, h0⟩ := outcome hQ hj h
  obtain ⟨v, hy, _⟩ := back ds0 u0 w0 h0
  refine ⟨v, hy, ?_⟩
  have go : ∀ (ds : List Deferred) (u : Value) (w1 : World), (S w1 ∧ gOp P ops S kd z Q i K (({ a with defers := ds } : Act).put oj.dst u) w1) → S w1 ∧ K ((({ a with defers := ds } : Act).put oi.dst v).put oj.dst u) w1 := fun ds u w1 hh => by
    obtain ⟨v', hy', hk⟩ := back ds u w1 hh
    rw [same v v' hy hy']
    exact hk
  have exe : (execOp (a.put oi.dst v).eval oj) = execOp a.eval oj := execOp_put oj hsj a oi.dst v h1
  unfold wpOp at h ⊢
  simp only [hj] at h ⊢
  rw [wanted_put oj a oi.dst v h1]
  split at h
  · rename_i hw
    rw [if_pos hw]
    rcases h with h | ⟨_, h⟩
    case inr => exact (hQ.out h).elim
    refine .inl ?_
    unfold Oper.wp at h ⊢
    rw [exe]
    cases hr : (execOp a.eval oj).run P w with
    | ok n w' =>
      rw [hr] at h
      cases n <;> simp only [Oper.upon] at h ⊢
      case value u => exact go a.defers u w' h
      case skip => exact go a.defers undef w' h
      case defer d =>
        have := go (d :: a.defers) undef w' h
        rw [Act.put_defers]
        exact this
      case enter f args =>
        refine Calls.mono h fun e w'' he => ?_
        cases e with
        | returned u => exact go a.defers u w'' he
        | panicked c => exact (hQ.panic _ _ _ he).elim
        | outgrown => exact (hQ.out he).elim
      case row row args => exact Rows.mono h fun u w'' he => go a.defers u w'' he
    | halt x w' =>
      rw [hr] at h
      cases x <;> simp only [Oper.upon] at h ⊢
      exact (hQ.panic _ _ _ h).elim
  · rename_i hw
    rw [if_neg hw]
    exact go a.defers undef w h

theorem apart_symm {x y : Oper} (h : x.apart ops y = true) : y.apart ops x = true := by
  obtain ⟨h1, h2, h3⟩ := Oper.apart_spec h
  unfold Oper.apart
  simp only [Bool.and_eq_true]
  constructor
  · cases hy : y.dst with
    | none => rfl
    | some d =>
      simp only [Bool.and_eq_true, Bool.not_eq_true', bne_iff_ne, ne_eq]
      refine ⟨?_, fun he => h2 d he hy⟩
      have := h3 d hy
      simpa using this
  · cases hx : x.dst with
    | none => rfl
    | some d =>
      have := h1 d hx
      simpa using this

/-- j ahead of i: i ahead of j. -/
theorem swap (hQ : Tame Q) {i j : Nat} {oi oj : Oper} (hi : ops[i]? = some oi) (hj : ops[j]? = some oj) (hap : oi.apart ops oj = true) (hc : Comm P S kd j oj i oi)
    (hsi : ∀ cs b, oi.op ≠ .select cs b) (hsj : ∀ cs b, oj.op ≠ .select cs b)
    (zi : i ≠ z) (zj : j ≠ z) {K : Act → World → Prop} {a : Act} {w : World} (hS : S w) (h : gOp P ops S kd z Q j (fun a1 w1 => gOp P ops S kd z Q i K a1 w1) a w) :
    gOp P ops S kd z Q i (fun a1 w1 => gOp P ops S kd z Q j K a1 w1) a w := by
  obtain ⟨a1, a2, a3⟩ := Oper.apart_spec hap
  have hgi : ∀ o, ops[i]? = some o → Region.wanted o (yielded ops a.tmps) = true → Gd P S kd i o a.eval := fun o ho hw => by
    rw [hi] at ho
    cases ho
    obtain ⟨u, w1, ds, _, hh⟩ := outcome hQ hj h.1
    have := hh.2 _ hi (by rw [wanted_put _ _ oj.dst u a3]; exact hw)
    rw [gd_put _ hsi _ oj.dst u a3] at this
    exact this
  rcases hc with hs | hs | ⟨hrj, hri⟩
  · -- j is calm
    obtain ⟨v, hy, h2⟩ := calm_yields hQ hs hj hS h
    have h3 := wpOp_put' hQ hi (apart_symm hap) hsj hsi hy h2.1
    exact ⟨wpOp_mono (fun a' w' h4 => ⟨h4.2.1, h4.1.gOp hj (h4.2.1 zi) h4.2.2⟩) h3, hgi⟩
  · obtain ⟨v, hy, h2⟩ := unput hQ hi hj hap hs hsi hsj ⟨w, hS⟩ (wpOp_mono (fun a' w' hh => ⟨hh.1 zj, hh.2⟩) h.1)
    refine hy.gOp hi hS ⟨wpOp_mono (fun a' w' hh => ⟨fun _ => hh.1, hh.2⟩) h2, fun o ho hw => ?_⟩
    rw [hj] at ho
    cases ho
    rw [gd_put _ hsj a oi.dst v a1]
    exact h.2 _ hj (by rw [← wanted_put _ a oi.dst v a1]; exact hw)
  · obtain ⟨v, hy, _, h2⟩ := reads_yields hQ hrj hj h.2 h.1
    obtain ⟨u, hu, _, h3⟩ := reads_yields hQ hri hi h2.2 h2.1
    have hu' := (YieldsAt.of_put hsi a3).1 hu
    refine reads_gOp hi hS hu' (reads_gOp hj (v := v) hS ((YieldsAt.of_put hsj a1).2 hy) ?_)
    rw [← Act.put_comm a v u (fun d hd he => a2 d he hd)]
    exact h3

/-- Does operation i wait for operation j? -/
def needs (ops : Array Oper) : Nat → Nat → Nat → Bool
  | 0, _, _ => false
  | n + 1, i, j => match ops[i]? with
    | none => false
    | some o => o.after.any (fun e => Region.binds .any e && e.on == j) || o.after.any (fun e => Region.binds .any e && needs ops n e.on j)

def Closed (ops : Array Oper) (listed : Array Bool) : Prop :=
  ∀ i o, ops[i]? = some o → listed.getD i false = true → ∀ e ∈ o.after, Region.binds .any e = true → listed.getD e.on false = true

theorem needs_listed {listed : Array Bool} (hcl : Closed ops listed) : ∀ n i j, needs ops n i j = true →
    (∀ o, ops[i]? = some o → ∀ e ∈ o.after, Region.binds .any e = true → listed.getD e.on false = true) → listed.getD j false = true := by
  intro n
  induction n with
  | zero => intro i j h; simp [needs] at h
  | succ n ih =>
    intro i j h hall
    unfold needs at h
    split at h
    · cases h
    · rename_i o ho
      simp only [Bool.or_eq_true] at h
      rcases h with h | h
      · obtain ⟨e, he, hb⟩ := Array.any_eq_true'.1 h
        simp only [Bool.and_eq_true, beq_iff_eq] at hb
        rw [← hb.2]
        exact hall o ho e he hb.1
      · obtain ⟨e, he, hb⟩ := Array.any_eq_true'.1 h
        simp only [Bool.and_eq_true] at hb
        exact ih e.on j hb.2 fun o' ho' e' he' hb' => hcl e.on o' ho' (hall o ho e he hb.1) e' he' hb'

/-- The check: operations that do not wait for each other may change places. -/
structure Swaps (P : Program) (ops : Array Oper) (S : World → Prop) (kd : Nat → Bool) : Prop where
  sel : ∀ (j : Nat) (o : Oper) cs b, ops[j]? = some o → o.op ≠ .select cs b
  back : ∀ i o, ops[i]? = some o → ∀ e ∈ o.after, Region.binds .any e = true → e.on < i
  comm : ∀ i oi j oj, ops[i]? = some oi → ops[j]? = some oj → j < i → (∃ n, needs ops n i j = true) ∨ (oi.apart ops oj = true ∧ Comm P S kd j oj i oi)

theorem gOps_front (hQ : Tame Q) {i : Nat} {oi : Oper} (hsw : Swaps P ops S kd) (hi : ops[i]? = some oi) (post : List Nat) : ∀ (pre : List Nat) (a : Act) (w : World), S w →
    (∀ j ∈ pre, i ≠ z ∧ j ≠ z ∧ ∃ oj, ops[j]? = some oj ∧ oi.apart ops oj = true ∧ Comm P S kd j oj i oi) →
    gOps P ops S kd z Q (pre ++ i :: post) a w → gOp P ops S kd z Q i (fun a' w' => gOps P ops S kd z Q (pre ++ post) a' w') a w := by
  intro pre
  induction pre with
  | nil => intro a w _ _ h; exact h
  | cons j pre ih =>
    intro a w hS hp h
    obtain ⟨zi, zj, oj, hj, hap, hc⟩ := hp j (by simp)
    have h2 := gOp_mono (fun a' w' hS' hh => ih a' w' (hS' zj) (fun k hk => hp k (by simp [hk])) hh) h
    exact swap hQ hi hj hap hc (fun cs b => hsw.sel i oi cs b hi) (fun cs b => hsw.sel j oj cs b hj) zi zj hS h2

def left (ops : Array Oper) (listed : Array Bool) : List Nat := (List.range ops.size).filter fun i => !listed.getD i true

theorem mem_left {listed : Array Bool} {i : Nat} : i ∈ left ops listed ↔ i < ops.size ∧ listed.getD i true = false := by
  unfold left; rw [List.mem_filter, List.mem_range]; simp

theorem left_split {listed : Array Bool} (hsz : listed.size = ops.size) {i : Nat} (hi : i ∈ left ops listed) :
    ∃ pre post, left ops listed = pre ++ i :: post ∧ left ops (listed.setIfInBounds i true) = pre ++ post ∧ ∀ j ∈ pre, j < i ∧ listed.getD j true = false := by
  obtain ⟨hlt, hu⟩ := mem_left.1 hi
  have hil : i < listed.size := by omega
  have key : ∀ j, (listed.setIfInBounds i true).getD j true = (decide (j = i) || listed.getD j true) := fun j => by
    by_cases hij : i = j
    · subst hij; simp [hil]
    · rw [getD_set_ne true hij]; simp [Ne.symm hij]
  refine ⟨(List.range i).filter (fun j => !listed.getD j true), ((List.range' (i + 1) (ops.size - (i + 1)))).filter (fun j => !listed.getD j true), ?_, ?_, ?_⟩
  · have hr : List.range ops.size = List.range i ++ i :: List.range' (i + 1) (ops.size - (i + 1)) := by
      have hz : ops.size = i + ((ops.size - (i + 1)) + 1) := by omega
      generalize ops.size - (i + 1) = q at hz ⊢
      rw [List.range_eq_range', List.range_eq_range', hz, ← List.range'_append_1, List.range'_succ]
      simp
    unfold left
    rw [hr, List.filter_append, List.filter_cons]
    simp only [hu, Bool.not_false, if_true]
  · have hr : List.range ops.size = List.range i ++ i :: List.range' (i + 1) (ops.size - (i + 1)) := by
      have hz : ops.size = i + ((ops.size - (i + 1)) + 1) := by omega
      generalize ops.size - (i + 1) = q at hz ⊢
      rw [List.range_eq_range', List.range_eq_range', hz, ← List.range'_append_1, List.range'_succ]
      simp
    unfold left
    rw [hr, List.filter_append, List.filter_cons]
    simp only [key]
    simp only [decide_true, Bool.true_or, Bool.not_true, Bool.false_eq_true, if_false]
    congr 1
    · apply List.filter_congr
      intro j hj
      have : j < i := List.mem_range.1 hj
      simp [show j ≠ i by omega]
    · apply List.filter_congr
      intro j hj
      have := (List.mem_range'_1.1 hj).1
      simp [show j ≠ i by omega]
  · intro j hj
    rw [List.mem_filter, List.mem_range] at hj
    exact ⟨hj.1, by simpa using hj.2⟩

theorem wpAny_of_prog (hQ : Tame Q) (hsw : Swaps P ops S kd) (hz : ops.size ≤ z + 1 ∧ ∀ j, j < z → z < ops.size → ∃ n, needs ops n z j = true) : ∀ (fuel : Nat) (listed : Array Bool) (a : Act) (w : World), (left ops listed ≠ [] → S w) → listed.size = ops.size → Closed ops listed → (left ops listed).length ≤ fuel →
    gOps P ops S kd z Q (left ops listed) a w → wpAny P .any ops Q fuel listed a w := by
  intro fuel
  induction fuel with
  | zero =>
    intro listed a w hS hsz hcl hlen h
    have hnil : left ops listed = [] := List.eq_nil_of_length_eq_zero (by omega)
    rw [hnil] at h
    refine ⟨?_, h⟩
    apply List.eq_nil_iff_forall_not_mem.2
    intro i hi
    obtain ⟨hu, o, ho, _⟩ := mem_ready.1 hi
    have : i ∈ left ops listed := mem_left.2 ⟨(Array.getElem?_eq_some_iff.1 ho).1, hu⟩
    rw [hnil] at this
    cases this
  | succ fuel ih =>
    intro listed a w hS hsz hcl hlen h
    refine ⟨fun hr => ?_, fun i hi => ?_⟩
    · -- nothing is ready: nothing is left
      have hnil : left ops listed = [] := by
        apply Classical.byContradiction
        intro hne
        obtain ⟨i, rest, hl⟩ := List.exists_cons_of_ne_nil hne
        have hmem : i ∈ left ops listed := by rw [hl]; simp
        obtain ⟨pre, post, hpp, _, hpre⟩ := left_split hsz hmem
        have hpe : ∀ j, j < i → listed.getD j true = true := fun j hj => by
          cases hjj : listed.getD j true with
          | true => rfl
          | false =>
            have hjl : j < ops.size := by have := (mem_left.1 hmem).1; omega
            have hjm : j ∈ left ops listed := mem_left.2 ⟨hjl, hjj⟩
            -- j < i and i is the first one left
            have hs : List.Pairwise (· < ·) (left ops listed) := by
              unfold left
              exact List.Pairwise.filter _ List.pairwise_lt_range
            rw [hl] at hs hjm
            rcases List.mem_cons.1 hjm with rfl | hjr
            · omega
            · have := (List.pairwise_cons.1 hs).1 j hjr
              omega
        have hio := (mem_left.1 hmem).1
        have : i ∈ Region.ready .any ops listed := mem_ready.2 ⟨(mem_left.1 hmem).2, ops[i], by simp [hio], fun e he hb => by
          have hlt := hsw.back i ops[i] (by simp [hio]) e he hb
          have h1 := hpe e.on hlt
          have h2 : e.on < listed.size := by omega
          simp [h2] at h1 ⊢
          exact h1⟩
        rw [hr] at this
        cases this
      rw [hnil] at h
      exact h
    · obtain ⟨hu, oi, hoi, hall⟩ := mem_ready.1 hi
      have hmem : i ∈ left ops listed := mem_left.2 ⟨(Array.getElem?_eq_some_iff.1 hoi).1, hu⟩
      obtain ⟨pre, post, hpp, hpp', hpre⟩ := left_split hsz hmem
      have hS' : S w := hS (by rw [hpp]; simp)
      rw [hpp] at h
      have hzi : ∀ j ∈ pre, i ≠ z ∧ j ≠ z := fun j hj => by
        obtain ⟨hji, hju⟩ := hpre j hj
        have hil := (mem_left.1 hmem).1
        refine ⟨fun e => ?_, by omega⟩
        subst e
        obtain ⟨n, hn⟩ := hz.2 j hji hil
        have := needs_listed hcl n i j hn (fun o ho e he hb => hall e (by rw [hoi] at ho; cases ho; exact he) hb)
        have h2 : j < listed.size := by omega
        simp [h2] at this hju
        rw [this] at hju
        cases hju
      have h2 := gOps_front hQ hsw hoi post pre a w hS' (fun j hj => by
        obtain ⟨hji, hju⟩ := hpre j hj
        have hjl : j < ops.size := by have := (mem_left.1 hmem).1; omega
        refine ⟨(hzi j hj).1, (hzi j hj).2, ops[j], by simp [hjl], ?_⟩
        rcases hsw.comm i oi j ops[j] hoi (by simp [hjl]) hji with ⟨n, hn⟩ | hc
        · exfalso
          have := needs_listed hcl n i j hn (fun o ho e he hb => hall e (by rw [hoi] at ho; cases ho; exact he) hb)
          have h2 : j < listed.size := by omega
          simp [h2] at this hju
          rw [this] at hju
          cases hju
        · exact hc) h
      have hlast : left ops (listed.setIfInBounds i true) ≠ [] → i ≠ z := fun hne e => by
        rw [hpp'] at hne
        have hil := (mem_left.1 hmem).1
        cases pre with
        | cons j pre => exact (hzi j (by simp)).1 e
        | nil =>
          cases post with
          | nil => exact hne rfl
          | cons k post =>
            have hk : k ∈ left ops listed := by rw [hpp]; simp
            have hkl := (mem_left.1 hk).1
            have hs : List.Pairwise (· < ·) (left ops listed) := by
              unfold left
              exact List.Pairwise.filter _ List.pairwise_lt_range
            rw [hpp] at hs
            have := (List.pairwise_cons.1 hs).1 k (by simp)
            omega
      refine wpOp_mono (fun a' w' hh => ih (listed.setIfInBounds i true) a' w' (fun hne => hh.1 (hlast hne)) (by simp [hsz]) ?_ ?_ ?_) h2.1
      · intro k o hk hkl e he hb
        by_cases hki : i = k
        · subst hki
          rw [hoi] at hk
          cases hk
          exact getD_set_true (hall e he hb)
        · rw [getD_set_ne false hki] at hkl
          exact getD_set_true (hcl k o hk hkl e he hb)
      · rw [hpp'] 
        rw [hpp] at hlen
        simp only [List.length_append, List.length_cons] at hlen ⊢
        omega
      · rw [hpp']; exact hh.2

theorem wpAny_imp {Q Q' : Exit → Act → World → Prop} (hq : ∀ e a w, Q e a w → Q' e a w) : ∀ (fuel : Nat) (listed : Array Bool) (a : Act) (w : World), wpAny P .any ops Q fuel listed a w → wpAny P .any ops Q' fuel listed a w := by
  have lets : LetsOut Q → LetsOut Q' := fun ⟨a, w, h⟩ => ⟨a, w, hq _ _ _ h⟩
  have upon : ∀ (o : Oper) (a : Act) (K : Act → World → Prop) (r : Result Next), o.upon P a K Q r → o.upon P a K Q' r := fun o a K r h => by
    cases r with
    | ok n w' =>
      cases n <;> simp only [Oper.upon] at h ⊢ <;> first | exact h | exact Calls.mono h (fun e w'' he => by cases e <;> first | exact he | exact hq _ _ _ he | exact lets he)
    | halt x w' => cases x <;> simp only [Oper.upon] at h ⊢ <;> exact hq _ _ _ h
  have op : ∀ (i : Nat) (K : Act → World → Prop) (a : Act) (w : World), wpOp P ops Q i K a w → wpOp P ops Q' i K a w := fun i K a w h => by
    unfold wpOp at *
    split
    · rename_i ho; simpa [ho] using h
    · rename_i o ho
      simp only [ho] at h
      split
      · rename_i hw
        simp only [hw, if_true] at h
        exact h.imp (upon o a K _) (fun ⟨h1, h2⟩ => ⟨h1, lets h2⟩)
      · rename_i hw
        simp only [hw] at h
        exact h
  intro fuel
  induction fuel with
  | zero => intro listed a w h; exact ⟨h.1, hq _ _ _ h.2⟩
  | succ fuel ih => intro listed a w h; exact ⟨fun hr => hq _ _ _ (h.1 hr), fun i hi => op i _ a w (wpOp_mono (fun a w => ih _ a w) (h.2 i hi))⟩

theorem CalmQ.imp : ∀ (e : Exit) (a : Act) (w : World), CalmQ Q e a w → Q e a w := fun e a w h => by cases e <;> first | exact h | exact h.elim

theorem getD_replicate_false' (m j : Nat) : (Array.replicate m false).getD j false = false := by
  rcases Nat.lt_or_ge j m with h | h
  · simp [h]
  · simp [h]

/-- THE LAW, with the operands' facts: a region that draws its order, whose operations may change places where they do not wait for each other, is one that doesn't draw. -/
theorem wp_swaps {id : Nat} {ops : Array Oper} {a : Act} {w : World} {Q' : Exit → Act → World → Prop} (hm : P.follows .mixedOrders = true) (hQ : Tame Q) (himp : ∀ e a w, Q e a w → Q' e a w) (hsw : Swaps P ops S kd) (hz : ops.size ≤ z + 1 ∧ ∀ j, j < z → z < ops.size → ∃ n, needs ops n z j = true) (hS : S w.drew)
    (h : gOps P ops S kd z Q (List.range ops.size) a w.drew) : (Code.region id ops true).wp P Q' a w := by
  refine wp_region_any hm (wpAny_imp himp _ _ _ _ (wpAny_of_prog hQ hsw hz _ _ a _ (fun _ => hS) (by simp) ?_ ?_ ?_))
  · intro i o _ hl
    rw [getD_replicate_false'] at hl
    cases hl
  · unfold left
    exact Nat.le_trans (List.length_filter_le _ _) (by simp)
  · have hleft : left ops (Array.replicate ops.size false) = List.range ops.size := by
      unfold left
      rw [List.filter_eq_self.2]
      intro i hi
      have := List.mem_range.1 hi
      simp [this]
    rw [hleft]
    exact h
end
end Go.Wb

namespace Go.Wb
open Go
section
variable {P : Program}

/-- Where it succeeds: whatever the world, and without a change. -/
def Wl (P : Program) {α : Type} (s : Sem α) : Prop := ∀ w x w', s.run P w = .ok x w' → w' = w ∧ ∀ w2, s.run P w2 = .ok x w2
/-- Where it succeeds: without a change. -/
def Rd (P : Program) {α : Type} (s : Sem α) : Prop := ∀ w x w', s.run P w = .ok x w' → w' = w

theorem Wl.rd {α : Type} {s : Sem α} (h : Wl P s) : Rd P s := fun w x w' hr => (h w x w' hr).1

theorem Wl.pure {α : Type} (a : α) : Wl P (Pure.pure a : Sem α) := fun w x w' h => by
  rw [Sem.run_pure] at h
  simp only [Result.ok.injEq] at h
  obtain ⟨rfl, rfl⟩ := h
  exact ⟨rfl, fun w2 => by rw [Sem.run_pure]⟩
theorem Wl.never {α : Type} {s : Sem α} (h : ∀ w x w', s.run P w ≠ .ok x w') : Wl P s := fun w x w' hr => absurd hr (h w x w')
theorem Wl.halt {α : Type} (h : Halt) : Wl P (Sem.halt h : Sem α) := Wl.never fun w x w' hr => by simp [Sem.run] at hr
theorem Wl.stuck {α : Type} (s : String) : Wl P (stuck s : Sem α) := Wl.halt _
theorem Wl.unsupported {α : Type} (u : Unsupported) : Wl P (unsupported u : Sem α) := Wl.halt _
theorem Wl.bind {α β : Type} {s : Sem α} {f : α → Sem β} (h : Wl P s) (k : ∀ a, Wl P (f a)) : Wl P (s >>= f) := fun w x w' hr => by
  rw [Sem.run_bind] at hr
  cases hs : s.run P w with
  | halt e w1 => rw [hs] at hr; simp [Result.andThen] at hr
  | ok a w1 =>
    rw [hs, Result.andThen_ok] at hr
    obtain ⟨rfl, h1⟩ := h w a w1 hs
    obtain ⟨rfl, h2⟩ := k a w1 x w' hr
    exact ⟨rfl, fun w2 => by rw [Sem.run_bind, h1 w2, Result.andThen_ok, h2 w2]⟩
theorem Wl.program : Wl P program := fun w x w' h => by
  simp [Go.program, Sem.run] at h
  obtain ⟨rfl, rfl⟩ := h
  exact ⟨rfl, fun w2 => by simp [Go.program, Sem.run]⟩
theorem Wl.ite {α : Type} {c : Prop} [Decidable c] {s t : Sem α} (h : Wl P s) (k : Wl P t) : Wl P (if c then s else t) := by split <;> assumption
theorem Rd.pure {α : Type} (a : α) : Rd P (Pure.pure a : Sem α) := (Wl.pure a).rd
theorem Rd.bind {α β : Type} {s : Sem α} {f : α → Sem β} (h : Rd P s) (k : ∀ a, Rd P (f a)) : Rd P (s >>= f) := fun w x w' hr => by
  rw [Sem.run_bind] at hr
  cases hs : s.run P w with
  | halt e w1 => rw [hs] at hr; simp [Result.andThen] at hr
  | ok a w1 =>
    rw [hs, Result.andThen_ok] at hr
    obtain rfl := h w a w1 hs
    exact k a w1 x w' hr
theorem Rd.ite {α : Type} {c : Prop} [Decidable c] {s t : Sem α} (h : Rd P s) (k : Rd P t) : Rd P (if c then s else t) := by split <;> assumption

theorem silent_of {s : Sem Value} (h : Wl P s) : Silent P (do Pure.pure (Next.value (← s))) := fun w x w' hr => by
  have h1 : Wl P (do Pure.pure (Next.value (← s)) : Sem Next) := h.bind fun a => Wl.pure _
  obtain ⟨rfl, h2⟩ := h1 w x w' hr
  rw [Sem.run_bind] at hr
  cases hs : s.run P w' with
  | halt e w1 => rw [hs] at hr; simp [Result.andThen] at hr
  | ok a w1 =>
    rw [hs, Result.andThen_ok, Sem.run_pure] at hr
    simp only [Result.ok.injEq] at hr
    obtain ⟨rfl, _⟩ := hr
    exact ⟨a, rfl, h2⟩
theorem reads_of {s : Sem Value} (h : Rd P s) : Reads P (do Pure.pure (Next.value (← s))) := fun w x w' hr => by
  rw [Sem.run_bind] at hr
  cases hs : s.run P w with
  | halt e w1 => rw [hs] at hr; simp [Result.andThen] at hr
  | ok a w1 =>
    rw [hs, Result.andThen_ok, Sem.run_pure] at hr
    simp only [Result.ok.injEq] at hr
    obtain ⟨rfl, rfl⟩ := hr
    exact ⟨h w a w1 hs, a, rfl⟩

theorem Wl.underlying (t : TypeId) : Wl P (underlying t) := by
  unfold Go.underlying
  refine Wl.program.bind fun p => ?_
  split
  · exact Wl.pure _
  · exact Wl.stuck _
theorem Wl.typeInfo (t : TypeId) : Wl P (typeInfo t) := by
  unfold Go.typeInfo
  refine Wl.program.bind fun p => ?_
  split
  · exact Wl.pure _
  · exact Wl.stuck _
theorem Wl.sizeOf (t : TypeId) : Wl P (Go.sizeOf t) := by
  unfold Go.sizeOf
  exact (Wl.typeInfo t).bind fun _ => Wl.pure _
theorem Wl.zeroValue (t : TypeId) : Wl P (zeroValue t) := by
  unfold Go.zeroValue
  refine (Wl.typeInfo t).bind fun i => ?_
  split
  · exact Wl.pure _
  · exact Wl.unsupported _
theorem Wl.isAgg (t : TypeId) : Wl P (isAgg t) := by
  unfold Go.isAgg
  refine (Wl.underlying t).bind fun i => ?_
  split <;> exact Wl.pure _
theorem Wl.asIntOf (v : Value) : Wl P (asIntOf v) := by
  unfold Go.asIntOf
  split
  · exact Wl.pure _
  · exact Wl.unsupported _
  · exact Wl.stuck _
theorem Wl.asBool (v : Value) : Wl P (asBool v) := by
  unfold Go.asBool
  split
  · exact Wl.pure _
  · exact Wl.stuck _
theorem Wl.asAgg (v : Value) : Wl P (asAgg v) := by
  unfold Go.asAgg
  split
  · exact Wl.pure _
  · exact Wl.stuck _
theorem Wl.sureAddr (v : Value) : Wl P (Instr.sureAddr v) := by
  unfold Instr.sureAddr
  split
  · exact Wl.pure _
  · exact Wl.stuck _
theorem Wl.part (t : TypeId) (cs : Array Value) (off : Nat) : Wl P (part t cs off) := by
  unfold Go.part
  refine (Wl.isAgg t).bind fun b => ?_
  split
  · exact (Wl.sizeOf t).bind fun _ => Wl.pure _
  · split
    · exact Wl.pure _
    · exact Wl.stuck _
theorem never_goPanic {α : Type} (v : Value) : ∀ w x w', (goPanic v : Sem α).run P w ≠ .ok x w' := fun w x w' hr => by simp [goPanic] at hr
theorem never_bind {α β : Type} {s : Sem α} {f : α → Sem β} (h : ∀ a w x w', (f a).run P w ≠ .ok x w') : ∀ w x w', (s >>= f).run P w ≠ .ok x w' := fun w x w' hr => by
  rw [Sem.run_bind] at hr
  cases hs : s.run P w with
  | halt e w1 => rw [hs] at hr; simp [Result.andThen] at hr
  | ok a w1 => rw [hs, Result.andThen_ok] at hr; exact h a w1 x w' hr
theorem never_runtimePanic {α : Type} (e : RuntimeError) : ∀ w x w', (runtimePanic e : Sem α).run P w ≠ .ok x w' := by
  unfold runtimePanic
  refine never_bind fun p => ?_
  cases e <;> simp only
  case typeAssertion i c a m => exact never_bind fun _ => never_bind fun _ => never_goPanic _
  case panicNil => exact never_bind fun _ => never_bind fun _ => never_goPanic _
  all_goals exact never_goPanic _
theorem Wl.runtimePanic {α : Type} (e : RuntimeError) : Wl P (runtimePanic e : Sem α) := Wl.never (never_runtimePanic e)
theorem Wl.boundsPanic {α : Type} (k : IntKind) (x y : Int) (c : BoundsCode) : Wl P (boundsPanic k x y c : Sem α) := Wl.never (by
  unfold Go.boundsPanic
  dsimp only
  split
  · exact never_bind fun _ => never_runtimePanic _
  · exact never_bind fun _ => never_runtimePanic _)

theorem Wl.pick (c a b : Value) : Wl P (do Pure.pure (if ← Go.asBool c then a else b) : Sem Value) := (Wl.asBool c).bind fun _ => Wl.pure _
theorem Wl.indexAt (t : TypeId) (x i : Value) : Wl P (Instr.indexAt t x i) := by
  unfold Instr.indexAt
  repeat' (first | exact Wl.pure _ | exact Wl.stuck _ | exact Wl.unsupported _ | exact Wl.runtimePanic _ | exact Wl.boundsPanic _ _ _ _ | exact Wl.asIntOf _ | exact Wl.asBool _ | exact Wl.asAgg _ | exact Wl.sureAddr _ | exact Wl.sizeOf _ | exact Wl.typeInfo _ | exact Wl.underlying _ | exact Wl.zeroValue _ | exact Wl.isAgg _ | exact Wl.part _ _ _ | exact Wl.program | refine Wl.bind ?_ (fun _ => ?_) | split | dsimp only)
theorem Wl.sliceBound (x : Value) (y : Nat) (c : BoundsCode) : Wl P (Instr.sliceBound x y c) := by
  unfold Instr.sliceBound
  repeat' (first | exact Wl.pure _ | exact Wl.stuck _ | exact Wl.unsupported _ | exact Wl.runtimePanic _ | exact Wl.boundsPanic _ _ _ _ | exact Wl.asIntOf _ | exact Wl.asBool _ | exact Wl.asAgg _ | exact Wl.sureAddr _ | exact Wl.sizeOf _ | exact Wl.typeInfo _ | exact Wl.underlying _ | exact Wl.zeroValue _ | exact Wl.isAgg _ | exact Wl.part _ _ _ | exact Wl.program | refine Wl.bind ?_ (fun _ => ?_) | split | dsimp only)
theorem Wl.sliceBounds (b : Bool) (n m : Nat) (l h x : Option Value) : Wl P (Instr.sliceBounds b n m l h x) := by
  unfold Instr.sliceBounds
  repeat' (first | exact Wl.pure _ | exact Wl.stuck _ | exact Wl.unsupported _ | exact Wl.runtimePanic _ | exact Wl.boundsPanic _ _ _ _ | exact Wl.asIntOf _ | exact Wl.asBool _ | exact Wl.asAgg _ | exact Wl.sureAddr _ | exact Wl.sizeOf _ | exact Wl.typeInfo _ | exact Wl.underlying _ | exact Wl.zeroValue _ | exact Wl.isAgg _ | exact Wl.part _ _ _ | exact Wl.program | exact Wl.sliceBound _ _ _ | refine Wl.bind ?_ (fun _ => ?_) | split | dsimp only)
theorem Wl.asAddr (v : Value) : Wl P (Go.asAddr v) := by
  unfold Go.asAddr
  repeat' (first | exact Wl.pure _ | exact Wl.stuck _ | exact Wl.unsupported _ | exact Wl.runtimePanic _ | exact Wl.boundsPanic _ _ _ _ | exact Wl.asIntOf _ | exact Wl.asBool _ | exact Wl.asAgg _ | exact Wl.sureAddr _ | exact Wl.sizeOf _ | exact Wl.typeInfo _ | exact Wl.underlying _ | exact Wl.zeroValue _ | exact Wl.isAgg _ | exact Wl.part _ _ _ | exact Wl.program | refine Wl.bind ?_ (fun _ => ?_) | split | dsimp only)
theorem Wl.slice (t : TypeId) (x : Value) (l h m : Option Value) : Wl P (Instr.slice t x l h m) := by
  unfold Instr.slice
  repeat' (first | exact Wl.pure _ | exact Wl.stuck _ | exact Wl.unsupported _ | exact Wl.runtimePanic _ | exact Wl.boundsPanic _ _ _ _ | exact Wl.asIntOf _ | exact Wl.asBool _ | exact Wl.asAgg _ | exact Wl.sureAddr _ | exact Wl.sizeOf _ | exact Wl.typeInfo _ | exact Wl.underlying _ | exact Wl.zeroValue _ | exact Wl.isAgg _ | exact Wl.part _ _ _ | exact Wl.program | exact Wl.sliceBounds _ _ _ _ _ _ | exact Wl.asAddr _ | refine Wl.bind ?_ (fun _ => ?_) | split | dsimp only)
theorem Wl.sliceAt (t : TypeId) (x : Value) (l h m : Option Value) : Wl P (Instr.sliceAt t x l h m) := by
  unfold Instr.sliceAt
  repeat' (first | exact Wl.pure _ | exact Wl.stuck _ | exact Wl.unsupported _ | exact Wl.runtimePanic _ | exact Wl.boundsPanic _ _ _ _ | exact Wl.asIntOf _ | exact Wl.asBool _ | exact Wl.asAgg _ | exact Wl.sureAddr _ | exact Wl.sizeOf _ | exact Wl.typeInfo _ | exact Wl.underlying _ | exact Wl.zeroValue _ | exact Wl.isAgg _ | exact Wl.part _ _ _ | exact Wl.program | exact Wl.sliceBounds _ _ _ _ _ _ | exact Wl.slice _ _ _ _ _ | refine Wl.bind ?_ (fun _ => ?_) | split | dsimp only)
theorem Wl.field (t : TypeId) (x : Value) (i : Nat) : Wl P (Instr.field t x i) := by
  unfold Instr.field
  repeat' (first | exact Wl.pure _ | exact Wl.stuck _ | exact Wl.unsupported _ | exact Wl.runtimePanic _ | exact Wl.boundsPanic _ _ _ _ | exact Wl.asIntOf _ | exact Wl.asBool _ | exact Wl.asAgg _ | exact Wl.sureAddr _ | exact Wl.sizeOf _ | exact Wl.typeInfo _ | exact Wl.underlying _ | exact Wl.zeroValue _ | exact Wl.isAgg _ | exact Wl.part _ _ _ | exact Wl.program | refine Wl.bind ?_ (fun _ => ?_) | split | dsimp only)
theorem Wl.extract (x : Value) (i : Nat) : Wl P (Instr.extract x i) := by
  unfold Instr.extract
  repeat' (first | exact Wl.pure _ | exact Wl.stuck _ | exact Wl.unsupported _ | exact Wl.runtimePanic _ | exact Wl.boundsPanic _ _ _ _ | exact Wl.asIntOf _ | exact Wl.asBool _ | exact Wl.asAgg _ | exact Wl.sureAddr _ | exact Wl.sizeOf _ | exact Wl.typeInfo _ | exact Wl.underlying _ | exact Wl.zeroValue _ | exact Wl.isAgg _ | exact Wl.part _ _ _ | exact Wl.program | refine Wl.bind ?_ (fun _ => ?_) | split | dsimp only)
theorem Wl.index (t : TypeId) (x i : Value) : Wl P (Instr.index t x i) := by
  unfold Instr.index
  repeat' (first | exact Wl.pure _ | exact Wl.stuck _ | exact Wl.unsupported _ | exact Wl.runtimePanic _ | exact Wl.boundsPanic _ _ _ _ | exact Wl.asIntOf _ | exact Wl.asBool _ | exact Wl.asAgg _ | exact Wl.sureAddr _ | exact Wl.sizeOf _ | exact Wl.typeInfo _ | exact Wl.underlying _ | exact Wl.zeroValue _ | exact Wl.isAgg _ | exact Wl.part _ _ _ | exact Wl.program | refine Wl.bind ?_ (fun _ => ?_) | split | dsimp only)
theorem Wl.intArith (op : BinOp) (k : IntKind) (x y : Int) : Wl P (Op.intArith op k x y) := by
  unfold Op.intArith
  repeat' (first | exact Wl.pure _ | exact Wl.stuck _ | exact Wl.unsupported _ | exact Wl.runtimePanic _ | exact Wl.boundsPanic _ _ _ _ | exact Wl.asIntOf _ | exact Wl.asBool _ | exact Wl.asAgg _ | exact Wl.sureAddr _ | exact Wl.sizeOf _ | exact Wl.typeInfo _ | exact Wl.underlying _ | exact Wl.zeroValue _ | exact Wl.isAgg _ | exact Wl.part _ _ _ | exact Wl.program | refine Wl.bind ?_ (fun _ => ?_) | split | dsimp only)
theorem Wl.intBits (op : BinOp) (k : IntKind) (x y : Int) : Wl P (Op.intBits op k x y) := by
  unfold Op.intBits
  repeat' (first | exact Wl.pure _ | exact Wl.stuck _ | exact Wl.unsupported _ | exact Wl.runtimePanic _ | exact Wl.boundsPanic _ _ _ _ | exact Wl.asIntOf _ | exact Wl.asBool _ | exact Wl.asAgg _ | exact Wl.sureAddr _ | exact Wl.sizeOf _ | exact Wl.typeInfo _ | exact Wl.underlying _ | exact Wl.zeroValue _ | exact Wl.isAgg _ | exact Wl.part _ _ _ | exact Wl.program | refine Wl.bind ?_ (fun _ => ?_) | split | dsimp only)
theorem Wl.intCmp (op : BinOp) (x y : Int) : Wl P (Op.intCmp op x y) := by
  unfold Op.intCmp
  repeat' (first | exact Wl.pure _ | exact Wl.stuck _ | exact Wl.unsupported _ | exact Wl.runtimePanic _ | exact Wl.boundsPanic _ _ _ _ | exact Wl.asIntOf _ | exact Wl.asBool _ | exact Wl.asAgg _ | exact Wl.sureAddr _ | exact Wl.sizeOf _ | exact Wl.typeInfo _ | exact Wl.underlying _ | exact Wl.zeroValue _ | exact Wl.isAgg _ | exact Wl.part _ _ _ | exact Wl.program | refine Wl.bind ?_ (fun _ => ?_) | split | dsimp only)
theorem Wl.intDiv (op : BinOp) (k : IntKind) (x y : Int) : Wl P (Op.intDiv op k x y) := by
  unfold Op.intDiv
  repeat' (first | exact Wl.pure _ | exact Wl.stuck _ | exact Wl.unsupported _ | exact Wl.runtimePanic _ | exact Wl.boundsPanic _ _ _ _ | exact Wl.asIntOf _ | exact Wl.asBool _ | exact Wl.asAgg _ | exact Wl.sureAddr _ | exact Wl.sizeOf _ | exact Wl.typeInfo _ | exact Wl.underlying _ | exact Wl.zeroValue _ | exact Wl.isAgg _ | exact Wl.part _ _ _ | exact Wl.program | refine Wl.bind ?_ (fun _ => ?_) | split | dsimp only)
theorem Wl.shift (op : BinOp) (k : IntKind) (x : Int) (k2 : IntKind) (y : Int) : Wl P (Op.shift op k x k2 y) := by
  unfold Op.shift
  repeat' (first | exact Wl.pure _ | exact Wl.stuck _ | exact Wl.unsupported _ | exact Wl.runtimePanic _ | exact Wl.boundsPanic _ _ _ _ | exact Wl.asIntOf _ | exact Wl.asBool _ | exact Wl.asAgg _ | exact Wl.sureAddr _ | exact Wl.sizeOf _ | exact Wl.typeInfo _ | exact Wl.underlying _ | exact Wl.zeroValue _ | exact Wl.isAgg _ | exact Wl.part _ _ _ | exact Wl.program | refine Wl.bind ?_ (fun _ => ?_) | split | dsimp only)
theorem Wl.stringOp (op : BinOp) (x y : ByteArray) : Wl P (Op.stringOp op x y) := by
  unfold Op.stringOp
  repeat' (first | exact Wl.pure _ | exact Wl.stuck _ | exact Wl.unsupported _ | exact Wl.runtimePanic _ | exact Wl.boundsPanic _ _ _ _ | exact Wl.asIntOf _ | exact Wl.asBool _ | exact Wl.asAgg _ | exact Wl.sureAddr _ | exact Wl.sizeOf _ | exact Wl.typeInfo _ | exact Wl.underlying _ | exact Wl.zeroValue _ | exact Wl.isAgg _ | exact Wl.part _ _ _ | exact Wl.program | refine Wl.bind ?_ (fun _ => ?_) | split | dsimp only)
theorem Wl.unary (op : UnOp) (x : Value) : Wl P (Op.unary op x) := by
  unfold Op.unary
  repeat' (first | exact Wl.pure _ | exact Wl.stuck _ | exact Wl.unsupported _ | exact Wl.runtimePanic _ | exact Wl.boundsPanic _ _ _ _ | exact Wl.asIntOf _ | exact Wl.asBool _ | exact Wl.asAgg _ | exact Wl.sureAddr _ | exact Wl.sizeOf _ | exact Wl.typeInfo _ | exact Wl.underlying _ | exact Wl.zeroValue _ | exact Wl.isAgg _ | exact Wl.part _ _ _ | exact Wl.program | exact Wl.intArith _ _ _ _ | exact Wl.intBits _ _ _ _ | refine Wl.bind ?_ (fun _ => ?_) | split | dsimp only)
end
end Go.Wb

namespace Go.Wb
open Go
section
variable {P : Program}

theorem Wl.followBlind : ∀ (l : List FieldStep) (t : TypeId) (x : Option Value), Wl P (followBlind l t x)
  | [], t, x => by unfold Go.followBlind; exact Wl.pure _
  | s :: rest, t, x => by
    unfold Go.followBlind
    repeat' (first | exact Wl.pure _ | exact Wl.stuck _ | exact Wl.followBlind rest _ _ | exact Wl.part _ _ _ | exact Wl.underlying _ | refine Wl.bind ?_ (fun _ => ?_) | split | dsimp only)

theorem Wl.nilAhead : ∀ (n : Nat) (t : TypeId) (v : Value) (m : String), Wl P (nilAhead n t v m)
  | 0, t, v, m => by unfold Go.nilAhead; exact Wl.pure _
  | n + 1, t, v, m => by
    unfold Go.nilAhead
    repeat' (first | exact Wl.pure _ | exact Wl.stuck _ | exact Wl.nilAhead n _ _ _ | exact Wl.followBlind _ _ _ | exact Wl.typeInfo _ | exact Wl.underlying _ | refine Wl.bind ?_ (fun _ => ?_) | split | dsimp only)

theorem silent_value (v : Value) : Silent P (Pure.pure (Next.value v)) := fun w x w' h => by
  rw [Sem.run_pure] at h
  simp only [Result.ok.injEq] at h
  obtain ⟨rfl, rfl⟩ := h
  exact ⟨v, rfl, fun w2 => by rw [Sem.run_pure]⟩
theorem silent_never {s : Sem Next} (h : ∀ w x w', s.run P w ≠ .ok x w') : Silent P s := fun w x w' hr => absurd hr (h w x w')
theorem silent_bind {α : Type} {s : Sem α} {f : α → Sem Next} (h : Wl P s) (k : ∀ a, Silent P (f a)) : Silent P (s >>= f) := fun w x w' hr => by
  rw [Sem.run_bind] at hr
  cases hs : s.run P w with
  | halt e w1 => rw [hs] at hr; simp [Result.andThen] at hr
  | ok a w1 =>
    rw [hs, Result.andThen_ok] at hr
    obtain ⟨rfl, h1⟩ := h w a w1 hs
    obtain ⟨v, rfl, h2⟩ := k a w1 x w' hr
    exact ⟨v, rfl, fun w2 => by rw [Sem.run_bind, h1 w2, Result.andThen_ok, h2 w2]⟩

theorem silent_nilCheck (d : Option Tmp) (x : Operand) (t : TypeId) (pos : String) (af : Array Edge) (g : Option (Nat × Bool)) (ρ : Operand → Value) : Silent P (execOp ρ ⟨d, .nilCheck x, t, pos, af, g⟩) := by
  simp only [execOp]
  split
  · exact silent_never (never_runtimePanic _)
  · exact silent_never (never_runtimePanic _)
  · exact silent_never (never_runtimePanic _)
  · split
    · exact silent_never (never_runtimePanic _)
    · refine silent_bind Wl.program fun p => silent_bind (Wl.nilAhead _ _ _ _) fun b => ?_
      split
      · exact silent_never fun w x w' hr => by
          rw [Sem.run_bind] at hr
          simp [unsupported, Result.andThen] at hr
      · exact silent_value _
    · exact silent_value _
  · exact silent_value _

theorem Wl.len (ts : Array TypeId) (t : TypeId) (x : Value) (h : ∃ t0, ts[0]? = some t0 ∧ ((∃ e, P.underlying t0 = some (.slice e)) ∨ P.underlying t0 = some .string)) : Wl P (Builtin.len_ ts t #[x]) := by
  obtain ⟨t0, h0, hu⟩ := h
  unfold Builtin.len_
  simp only [h0, List.getElem?_toArray, List.getElem?_cons_zero]
  intro w y w' hr
  rw [Sem.run_bind] at hr
  rcases hu with ⟨e, hu⟩ | hu
  · rw [run_underlying hu, Result.andThen_ok] at hr
    cases x <;> simp [Go.stuck] at hr
    obtain ⟨rfl, rfl⟩ := hr
    exact ⟨rfl, fun w2 => by rw [Sem.run_bind, run_underlying hu]; simp⟩
  · rw [run_underlying hu, Result.andThen_ok] at hr
    cases x <;> simp [Go.stuck] at hr
    obtain ⟨rfl, rfl⟩ := hr
    exact ⟨rfl, fun w2 => by rw [Sem.run_bind, run_underlying hu]; simp⟩

theorem Wl.eqNil (n : Nat) (t : TypeId) (x y : Value) (hy : y = .pointer none ∨ y = .nilIface ∨ y = .nilFunc ∨ y = .slice none 0 0) : Wl P (Op.equalIn n t x y) := by
  cases n with
  | zero => unfold Op.equalIn; exact Wl.unsupported _
  | succ n =>
    unfold Op.equalIn
    rcases hy with rfl | rfl | rfl | rfl <;>
    repeat' (first | exact Wl.pure _ | exact Wl.stuck _ | exact Wl.unsupported _ | exact Wl.underlying _ | (refine Wl.bind (Wl.underlying _) (fun _ => ?_)) | split | dsimp only | (unfold samePointer; split) | (exfalso; simp at *; done))

theorem Wl.binNil (op : BinOp) (hop : op = .eql ∨ op = .neq) (t : TypeId) (x y : Value) (hy : y = .pointer none ∨ y = .nilIface ∨ y = .nilFunc ∨ y = .slice none 0 0) : Wl P (binOp op t x y) := by
  have hb : ∀ v, Wl P (Op.equal t v y) := fun v => Wl.eqNil _ t v y hy
  rcases hop with rfl | rfl <;> rcases hy with rfl | rfl | rfl | rfl <;> cases x <;> simp only [binOp] <;> exact (hb _).bind fun _ => Wl.pure _

theorem nilLit_val {y : Operand} (h : nilLit y = true) (ρ : Operand → Value) (hc : ∀ v, ρ (.const v) = v) : ρ y = .pointer none ∨ ρ y = .nilIface ∨ ρ y = .nilFunc ∨ ρ y = .slice none 0 0 := by
  unfold nilLit at h
  split at h <;> simp [hc] at h ⊢

theorem Wl.eqNum (n : Nat) (t : TypeId) (x y : Value) (hx : num x) (hy : num y) : Wl P (Op.equalIn n t x y) := by
  cases n with
  | zero => unfold Op.equalIn; exact Wl.unsupported _
  | succ n =>
    cases x <;> simp only [num] at hx <;> cases y <;> simp only [num] at hy <;> unfold Op.equalIn <;>
    repeat' (first | exact Wl.pure _ | exact Wl.stuck _ | exact Wl.unsupported _ | exact Wl.underlying _ | (refine Wl.bind (Wl.underlying _) (fun _ => ?_)) | split | dsimp only | (exfalso; simp at *; done))

theorem Wl.binNum (op : BinOp) (t : TypeId) (x y : Value) (hx : num x) (hy : num y) : Wl P (binOp op t x y) := by
  have he : Wl P (Op.equal t x y) := Wl.eqNum _ t x y hx hy
  cases x <;> simp only [num] at hx <;> cases y <;> simp only [num] at hy <;> cases op <;> simp only [binOp] <;>
  repeat' (first | exact Wl.pure _ | exact Wl.stuck _ | exact Wl.unsupported _ | exact Wl.intArith _ _ _ _ | exact Wl.intDiv _ _ _ _ | exact Wl.intBits _ _ _ _ | exact Wl.intCmp _ _ _ | exact Wl.shift _ _ _ _ _ | exact Wl.stringOp _ _ _ | exact he.bind fun _ => Wl.pure _ | split)

theorem Wl.guardPlain (op : BinOp) (t : TypeId) (x y : Operand) (a b : Value) (h : (∃ v, y = .const v) ∨ (num a ∧ num b)) (hag : ∀ cs, b ≠ .agg cs) : Wl P (eqGuard op t x y a b) := by
  have he : eqGuard op t x y a b = Pure.pure () := by
    unfold eqGuard
    by_cases hop : op = .eql ∨ op = .neq
    · rcases hop with rfl | rfl <;> rcases h with ⟨v, rfl⟩ | ⟨ha, hb⟩
      · cases a <;> cases b <;> first | rfl | exact absurd rfl (hag _) | simp
      · cases a <;> simp only [num] at ha <;> rfl
      · cases a <;> cases b <;> first | rfl | exact absurd rfl (hag _) | simp
      · cases a <;> simp only [num] at ha <;> rfl
    · cases op <;> first | rfl | exact absurd (.inl rfl) hop | exact absurd (.inr rfl) hop
  rw [he]
  exact Wl.pure _
end
end Go.Wb

namespace Go.Wb
open Go
section
variable {P : Program}

theorem Rd.load (a : Addr) (m : Mode) : Rd P (load a m) := fun w x w' h => by
  simp only [Go.load, Sem.run] at h
  split at h
  · simp only [Result.ok.injEq] at h; exact h.2.symm
  · split at h
    · simp only [Result.ok.injEq] at h; exact h.2.symm
    · cases h
theorem Rd.shape (r : Nat) : Rd P (shape r) := fun w x w' h => by
  simp only [Go.shape, Sem.run, Result.ok.injEq] at h; exact h.2.symm
theorem Rd.getObj (r : Nat) : Rd P (getObj r) := fun w x w' h => by
  simp only [Go.getObj, Sem.run] at h
  split at h
  · cases h
  · simp only [Result.ok.injEq] at h; exact h.2.symm
  · cases h
theorem Rd.loadCellsFrom (a : Addr) : ∀ (n i : Nat) (acc : Array Value), Rd P (loadCellsFrom a i n acc)
  | 0, i, acc => by unfold Go.loadCellsFrom; exact Rd.pure _
  | n + 1, i, acc => by unfold Go.loadCellsFrom; exact (Rd.load _ _).bind fun _ => Rd.loadCellsFrom a n _ _
theorem Rd.loadVar (t : TypeId) (a : Addr) : Rd P (loadVar t a) := by
  unfold Go.loadVar
  refine (Wl.isAgg t).rd.bind fun b => ?_
  split
  · exact (Wl.sizeOf t).rd.bind fun n => Rd.bind (by unfold loadCells; exact Rd.loadCellsFrom _ _ _ _) fun _ => Rd.pure _
  · exact Rd.load _ _
theorem Rd.loadAt (t : TypeId) (a : Value) : Rd P (Instr.loadAt t a) := by
  unfold Instr.loadAt
  exact (Wl.sureAddr a).rd.bind fun _ => Rd.loadVar _ _
theorem Rd.viewAt (r : Nat) : Rd P (viewAt r) := by
  unfold Go.viewAt
  repeat' (first | exact Rd.pure _ | exact Rd.shape _ | exact Rd.getObj _ | refine Rd.bind ?_ (fun _ => ?_) | split | dsimp only)
theorem Rd.noView (a : Addr) : Rd P (noView a) := by
  unfold Go.noView
  repeat' (first | exact Rd.pure _ | exact Rd.viewAt _ | exact (Wl.unsupported _).rd | refine Rd.bind ?_ (fun _ => ?_) | split | dsimp only)
theorem Rd.byteOf (a : Addr) : Rd P (byteOf a) := by
  unfold Go.byteOf
  repeat' (first | exact Rd.pure _ | exact Rd.noView _ | exact Rd.shape _ | exact Wl.program.rd | exact (Wl.unsupported _).rd | exact (Wl.stuck _).rd | refine Rd.bind ?_ (fun _ => ?_) | split | dsimp only)
theorem Rd.fieldAt (s : TypeId) (x : Value) (i : Nat) : Rd P (Instr.fieldAt s x i) := by
  unfold Instr.fieldAt fieldPlace partAt
  repeat' (first | exact Rd.pure _ | exact Rd.byteOf _ | exact (Wl.sizeOf _).rd | exact (Wl.underlying _).rd | exact (Wl.sureAddr _).rd | exact (Wl.stuck _).rd | refine Rd.bind ?_ (fun _ => ?_) | split | dsimp only)

theorem Wl.fieldAt {fs : Array Field} {f : Field} {inf : TypeInfo} (s : TypeId) (x : Value) (i : Nat) (hs : P.underlying s = some (.struct fs)) (hf : fs[i]? = some f) (hi : P.info? f.type = some inf) (hz : inf.size ≠ 0) : Wl P (Instr.fieldAt s x i) := by
  have hsz : ∀ w, (Go.sizeOf f.type).run P w = .ok inf.size w := fun w => by simp [Go.sizeOf, Go.typeInfo, hi]
  have key : ∀ a, Wl P (do Pure.pure (Value.pointer (some (← fieldPlace a f))) : Sem Value) := fun a => by
    have h1 : ∀ w, (fieldPlace a f).run P w = .ok (a.add f.offset) w := fun w => by
      simp [fieldPlace, hsz, hz]
    intro w x w' hr
    rw [Sem.run_bind, h1, Result.andThen_ok, Sem.run_pure] at hr
    simp only [Result.ok.injEq] at hr
    obtain ⟨rfl, rfl⟩ := hr
    exact ⟨rfl, fun w2 => by rw [Sem.run_bind, h1, Result.andThen_ok, Sem.run_pure]⟩
  have h2 : ∀ w, (Instr.fieldAt s x i).run P w = (Instr.sureAddr x >>= fun a => (do Pure.pure (Value.pointer (some (← fieldPlace a f))) : Sem Value)).run P w := fun w => by
    simp only [Instr.fieldAt, Sem.run_bind, run_underlying hs, Result.andThen_ok, hf]
  intro w y w' hr
  rw [h2] at hr
  obtain ⟨rfl, h3⟩ := ((Wl.sureAddr x).bind key) w y w' hr
  exact ⟨rfl, fun w2 => by rw [h2]; exact h3 w2⟩

/-- The builtin len, of a slice or a string. -/
def lenB (P : Program) (c : Call) : Bool :=
  (match c.callee with | .builtin b => b == .len | _ => false) && c.args.size == 1 && match c.argTypes[0]? with
    | some t => match P.underlying t with
      | some (.slice _) => true
      | some .string => true
      | _ => false
    | none => false

/-- Silent, by its kind and types. -/
def silentB (P : Program) (o : Oper) : Bool :=
  match o.op with
  | .move _ | .assign _ | .pick .. | .nilCheck _ | .extract .. | .field .. | .index .. | .indexAddr .. | .slice .. | .unOp .. | .binOp .. => true
  | .fieldAddr s _ i => match P.underlying s with
    | some (.struct fs) => match fs[i]? with
      | some f => match P.info? f.type with
        | some inf => inf.size != 0
        | none => false
      | none => false
    | _ => false
  | .convert _ dst _ => match P.underlying dst with
    | some (.int _) => true
    | _ => false
  | .call c => lenB P c
  | _ => false

/-- It only reads, by its kind. -/
def readsB (P : Program) (o : Oper) : Bool :=
  silentB P o || match o.op with
  | .load .. | .fieldAddr .. => true
  | _ => false

theorem num_agg {v : Value} (h : num v) : ∀ cs, v ≠ .agg cs := by
  cases v <;> simp only [num] at h <;> simp

theorem silentB_spec {o : Oper} (h : silentB P o = true) (ρ : Operand → Value) (hρ : Plain ρ) (hg : Good o ρ) : Silent P (execOp ρ o) := by
  obtain ⟨dst, op, type, pos, after, guard⟩ := o
  unfold silentB at h
  cases op <;> simp only [Bool.false_eq_true] at h
  case move x => exact silent_value _
  case assign x => exact silent_value _
  case pick c a b => exact silent_bind (Wl.asBool _) fun _ => silent_value _
  case nilCheck x => exact silent_nilCheck _ _ _ _ _ _ _
  case extract x i => exact silent_of (Wl.extract _ _)
  case field t x i => exact silent_of (Wl.field _ _ _)
  case index t x i => exact silent_of (Wl.index _ _ _)
  case indexAddr t x i => exact silent_of (Wl.indexAt _ _ _)
  case slice t x l hh m => exact silent_of (Wl.sliceAt _ _ _ _ _)
  case unOp op t x => exact silent_of (Wl.unary _ _)
  case binOp op t x y yt =>
    simp only [Good] at hg
    refine silent_of ?_
    rcases hg with ⟨hn, hop⟩ | ⟨hx, hy⟩
    · have hv := nilLit_val hn ρ hρ
      refine Wl.bind (Wl.guardPlain _ _ _ _ _ _ (.inl ?_) ?_) fun _ => Wl.binNil op hop t _ _ hv
      · cases y <;> simp [nilLit] at hn ⊢
      · rcases hv with hv | hv | hv | hv <;> rw [hv] <;> simp
    · exact Wl.bind (Wl.guardPlain _ _ _ _ _ _ (.inr ⟨hx, hy⟩) (num_agg hy)) fun _ => Wl.binNum op t _ _ hx hy
  case fieldAddr s x i =>
    split at h
    · rename_i fs hs
      split at h
      · rename_i f hf
        split at h
        · rename_i inf hi
          exact silent_of (Wl.fieldAt s _ i hs hf hi (by simpa using h))
        · cases h
      · cases h
    · cases h
  case convert src dst x =>
    simp only [Good] at hg
    split at h
    · rename_i k hk
      refine silent_of ?_
      simp only [convert]
      refine (Wl.underlying _).bind fun a => ?_
      intro w y w' hr
      rw [Sem.run_bind, run_underlying hk, Result.andThen_ok] at hr
      cases hx : ρ x <;> rw [hx] at hg <;> simp only [isInt] at hg
      rw [hx] at hr
      simp only [Conv.intToInt, Sem.run_pure, Result.ok.injEq] at hr
      obtain ⟨rfl, rfl⟩ := hr
      exact ⟨rfl, fun w2 => by rw [Sem.run_bind, run_underlying hk]; simp [Conv.intToInt]⟩
    · cases h
  case call c =>
    obtain ⟨callee, args, argTypes⟩ := c
    simp only [lenB, Bool.and_eq_true, beq_iff_eq] at h
    obtain ⟨⟨hb, ha⟩, ht⟩ := h
    cases callee <;> simp only [Bool.false_eq_true] at hb
    rename_i b
    obtain rfl : b = .len := by simpa using hb
    obtain ⟨x, rfl⟩ : ∃ x, args = #[x] := by
      obtain ⟨l⟩ := args
      match l, ha with
      | [x], _ => exact ⟨x, rfl⟩
    have hl : Wl P (Builtin.len_ argTypes type #[ρ x]) := Wl.len _ _ _ (by
      split at ht
      · rename_i t0 h0
        refine ⟨t0, h0, ?_⟩
        split at ht
        · rename_i e he; exact .inl ⟨e, he⟩
        · rename_i he; exact .inr he
        · cases ht
      · cases ht)
    have hs := silent_of hl
    intro w y w' hr
    have hE : ∀ w, (execOp ρ ⟨dst, .call ⟨.builtin .len, #[x], argTypes⟩, type, pos, after, guard⟩).run P w = (do Pure.pure (Next.value (← Builtin.len_ argTypes type #[ρ x])) : Sem Next).run P w := fun w => by
      simp [execOp, resolve, invoke, builtin]
    rw [hE] at hr
    obtain ⟨v, rfl, h2⟩ := hs w y w' hr
    exact ⟨v, rfl, fun w2 => by rw [hE]; exact h2 w2⟩

theorem readsB_spec {o : Oper} (h : readsB P o = true) (ρ : Operand → Value) (hρ : Plain ρ) (hg : Good o ρ) : Reads P (execOp ρ o) := by
  unfold readsB at h
  rw [Bool.or_eq_true] at h
  rcases h with h | h
  · exact (silentB_spec h ρ hρ hg).reads
  · obtain ⟨dst, op, type, pos, after, guard⟩ := o
    cases op <;> simp only [Bool.false_eq_true] at h
    case load t x => exact reads_of (Rd.loadAt _ _)
    case fieldAddr s x i => exact reads_of (Rd.fieldAt _ _ _)
end
end Go.Wb

namespace Go.Wb
open Go
section
variable {P : Program} {ops : Array Oper} {Q : Exit → Act → World → Prop}

/-- The check, by the kernel: sts are the operations that are told as calm. -/
def swapsB (P : Program) (ops : Array Oper) (sts : List Nat) : Bool :=
  Region.noSelect ops &&
  ((List.range ops.size).all fun i => match ops[i]? with
    | some oi => oi.after.all fun e => !Region.binds .any e || decide (e.on < i)
    | none => true) &&
  (List.range ops.size).all fun i => (List.range i).all fun j => match ops[i]?, ops[j]? with
    | some oi, some oj => needs ops ops.size i j || (oi.apart ops oj && (silentB P oj || silentB P oi || sts.contains j || sts.contains i || (readsB P oj && readsB P oi)))
    | _, _ => true

variable {S : World → Prop}

theorem swapsB_spec {sts : List Nat} (h : swapsB P ops sts = true) : Swaps P ops S (fun k => sts.contains k) := by
  simp only [swapsB, Bool.and_eq_true, List.all_eq_true, List.mem_range] at h
  obtain ⟨⟨h1, h2⟩, h3⟩ := h
  refine ⟨fun j o cs b => Region.noSelect_spec h1 j o cs b, fun i o ho e he hb => ?_, fun i oi j oj hi hj hji => ?_⟩
  · have := h2 i (Array.getElem?_eq_some_iff.1 ho).1
    rw [ho] at this
    simp only [Array.all_eq_true_iff_forall_mem, Bool.or_eq_true, Bool.not_eq_true', decide_eq_true_eq] at this
    exact (this e he).resolve_left (by simp [hb])
  · have := h3 i (Array.getElem?_eq_some_iff.1 hi).1 j hji
    rw [hi, hj] at this
    simp only [Bool.or_eq_true, Bool.and_eq_true] at this
    rcases this with h | ⟨hap, hc⟩
    · exact .inl ⟨_, h⟩
    · refine .inr ⟨hap, ?_⟩
      rcases hc with (((hc | hc) | hc) | hc) | ⟨hc1, hc2⟩
      · exact .inl fun ρ hρ hg => (silentB_spec hc ρ hρ hg.1).calm
      · exact .inr (.inl fun ρ hρ hg => (silentB_spec hc ρ hρ hg.1).calm)
      · exact .inl fun ρ _ hg => hg.2 hc
      · exact .inr (.inl fun ρ _ hg => hg.2 hc)
      · exact .inr (.inr ⟨fun ρ hρ hg => readsB_spec hc1 ρ hρ hg, fun ρ hρ hg => readsB_spec hc2 ρ hρ hg⟩)

/-- An operation that succeeds just where x is a number, a string, a bool; and writes nothing. -/
def chk (P : Program) (g : Option (Nat × Bool)) (t : TypeId) (x : Operand) : List Oper :=
  match x with
  | .const (.int ..) | .const (.string _) | .const (.bool _) => []
  | _ => match P.underlying t with
    | some (.int _) => [⟨none, .unOp .xor t x, t, "", #[], g⟩]
    | some .string => [⟨none, .call ⟨.builtin .len, #[x], #[t]⟩, t, "", #[], g⟩]
    | some .bool => [⟨none, .unOp .not t x, t, "", #[], g⟩]
    | _ => [⟨none, .extract (.const (.bool false)) 0, t, "", #[], g⟩]
def chkInt (g : Option (Nat × Bool)) (t : TypeId) (x : Operand) : List Oper := [⟨none, .unOp .xor t x, t, "", #[], g⟩]

def checks (P : Program) (o : Oper) : List Oper :=
  match o.op with
  | .binOp op t x y yt => if nilLit y && (op == .eql || op == .neq) then [] else chk P o.guard t x ++ chk P o.guard yt y
  | .convert s _ x => chkInt o.guard s x
  | _ => []

/-- The operations with the checks ahead of each one, cut behind each one that may turn the world. -/
def segs (P : Program) : List Oper → List Oper × List (List Oper)
  | [] => ([], [])
  | o :: l => if readsB P o then (checks P o ++ o :: (segs P l).1, (segs P l).2) else (checks P o ++ [o], (segs P l).1 :: (segs P l).2)

/-- A post for a region: it comes to its end. -/
def HQ (K : Act → World → Prop) : Exit → Act → World → Prop
  | .normal, a, w => K a w
  | _, _, _ => False
theorem HQ.tame (K : Act → World → Prop) : Tame (HQ K) := ⟨fun _ _ _ h => h, fun ⟨_, _, h⟩ => h⟩
@[go_sem] theorem HQ_normal (K : Act → World → Prop) (a : Act) (w : World) : HQ K .normal a w = K a w := rfl

/-- Each operation that is told as calm yields one value in all worlds that meet S. -/
def stabs (P : Program) (ops : Array Oper) (S : World → Prop) (a : Act) : List Nat → Prop
  | [] => True
  | k :: r => (∃ v, ∀ w, S w → ((ops[k]?).map fun o => (execOp a.eval o).run P w) = some (.ok (.value v) w)) ∧ stabs P ops S a r

def heldPost (P : Program) (ops : Array Oper) (S : World → Prop) (sts : List Nat) (Q : Exit → Act → World → Prop) : List (List Oper) → Exit → Act → World → Prop
  | [] => HQ fun a w => stabs P ops S a sts ∧ Q .normal a w
  | [[]] => HQ fun a w => stabs P ops S a sts ∧ Q .normal a w
  | seg :: rest => HQ fun a w => S w ∧ wpList P ops (heldPost P ops S sts Q rest) seg a w

theorem heldPost.tame {sts : List Nat} (rest : List (List Oper)) : Tame (heldPost P ops S sts Q rest) := by
  unfold heldPost
  split <;> exact HQ.tame _

/-- The last operation waits for all others. -/
def barB (ops : Array Oper) : Bool := (List.range (ops.size - 1)).all fun j => needs ops ops.size (ops.size - 1) j

theorem held_cons {sts : List Nat} {l : List Oper} {a : Act} {w : World} (h : heldPost P ops S sts Q ((segs P l).1 :: (segs P l).2) .normal a w) :
    (l ≠ [] → S w) ∧ wpList P ops (heldPost P ops S sts Q (segs P l).2) (segs P l).1 a w := by
  cases l with
  | nil => exact ⟨fun h => absurd rfl h, h⟩
  | cons o l =>
    have e : ∀ (seg : List Oper) rest, (seg = [] → rest ≠ []) → heldPost P ops S sts Q (seg :: rest) .normal a w → S w ∧ wpList P ops (heldPost P ops S sts Q rest) seg a w := fun seg rest hne hh => by
      cases seg with
      | nil =>
        cases rest with
        | nil => exact absurd rfl (hne rfl)
        | cons _ _ => exact hh
      | cons _ _ => exact hh
    have := e _ _ (by
      unfold segs
      split
      · intro h; simp at h
      · intro _; simp) h
    exact ⟨fun _ => this.1, this.2⟩

/-- A check that has gone through. -/
theorem chk_step (hQ : Tame Q) {c : Oper} (hd : c.dst = none) {R : (Operand → Value) → Prop} (hc : ∀ ρ, Plain ρ → ∀ w x w', (execOp ρ c).run P w = .ok x w' → w' = w ∧ (∃ v, x = .value v) ∧ R ρ) {rest : List Oper} {a : Act} {w : World}
    (h : wpList P ops Q (c :: rest) a w) : (Region.wanted c (yielded ops a.tmps) = true → R a.eval) ∧ wpList P ops Q rest a w := by
  unfold wpList at h
  split at h
  · rename_i hw
    rcases h with h | ⟨_, h⟩
    · unfold Oper.wp at h
      cases hr : (execOp a.eval c).run P w with
      | ok x w' =>
        obtain ⟨rfl, ⟨v, rfl⟩, hR⟩ := hc a.eval (fun _ => rfl) w x w' hr
        rw [hr] at h
        simp only [Oper.upon, hd, Act.put] at h
        exact ⟨fun _ => hR, h⟩
      | halt x w' =>
        rw [hr] at h
        cases x <;> simp only [Oper.upon] at h
        exact (hQ.panic _ _ _ h).elim
    · exact (hQ.out h).elim
  · rename_i hw
    rw [hd] at h
    exact ⟨fun hw' => absurd hw' hw, h⟩

theorem run_value {s : Sem Value} {w : World} {x : Next} {w' : World} (hr : (do Pure.pure (Next.value (← s)) : Sem Next).run P w = .ok x w') : ∃ v, x = .value v ∧ s.run P w = .ok v w' := by
  rw [Sem.run_bind] at hr
  cases hs : s.run P w with
  | halt e w1 => rw [hs] at hr; simp [Result.andThen] at hr
  | ok a w1 =>
    rw [hs, Result.andThen_ok, Sem.run_pure] at hr
    simp only [Result.ok.injEq] at hr
    obtain ⟨rfl, rfl⟩ := hr
    exact ⟨a, rfl, rfl⟩

theorem unary_xor {v y : Value} {w w' : World} (h : (Op.unary .xor v).run P w = .ok y w') : isInt v ∧ w' = w := by
  have := (Wl.unary (P := P) .xor v w y w' h).1
  refine ⟨?_, this⟩
  cases v <;> simp [Op.unary, Go.stuck, Go.unsupported] at h <;> first | trivial | (rename_i a; cases a <;> simp at h)
theorem unary_not {v y : Value} {w w' : World} (h : (Op.unary .not v).run P w = .ok y w') : num v ∧ w' = w := by
  have := (Wl.unary (P := P) .not v w y w' h).1
  refine ⟨?_, this⟩
  cases v <;> simp [Op.unary, Go.stuck] at h <;> trivial
theorem isInt.num {v : Value} (h : isInt v) : num v := by cases v <;> simp only [isInt] at h <;> trivial

theorem chkInt_step (hQ : Tame Q) {g : Option (Nat × Bool)} {t : TypeId} {x : Operand} {rest : List Oper} {a : Act} {w : World} (h : wpList P ops Q (chkInt g t x ++ rest) a w) :
    (∀ o : Oper, o.guard = g → Region.wanted o (yielded ops a.tmps) = true → isInt (a.eval x)) ∧ wpList P ops Q rest a w := by
  have := chk_step hQ (R := fun ρ => isInt (ρ x)) rfl (fun ρ hρ w x w' hr => by
    obtain ⟨v, rfl, hv⟩ := run_value hr
    exact ⟨(unary_xor hv).2, ⟨v, rfl⟩, (unary_xor hv).1⟩) h
  exact ⟨fun o ho hw => this.1 (by simpa [Region.wanted, ho] using hw), this.2⟩

theorem chk_num (hQ : Tame Q) {g : Option (Nat × Bool)} {t : TypeId} {x : Operand} {rest : List Oper} {a : Act} {w : World} (h : wpList P ops Q (chk P g t x ++ rest) a w) :
    (∀ o : Oper, o.guard = g → Region.wanted o (yielded ops a.tmps) = true → num (a.eval x)) ∧ wpList P ops Q rest a w := by
  unfold chk at h
  split at h
  · exact ⟨fun _ _ _ => trivial, h⟩
  · exact ⟨fun _ _ _ => trivial, h⟩
  · exact ⟨fun _ _ _ => trivial, h⟩
  · split at h
    · have := chk_step hQ (R := fun ρ => num (ρ x)) rfl (fun ρ hρ w x w' hr => by
        obtain ⟨v, rfl, hv⟩ := run_value hr
        exact ⟨(unary_xor hv).2, ⟨v, rfl⟩, (unary_xor hv).1.num⟩) h
      exact ⟨fun o ho hw => this.1 (by simpa [Region.wanted, ho] using hw), this.2⟩
    · rename_i hu
      have := chk_step hQ (R := fun ρ => num (ρ x)) rfl (fun ρ hρ w y w' hr => by
        have hE : (execOp ρ ⟨none, .call ⟨.builtin .len, #[x], #[t]⟩, t, "", #[], g⟩).run P w = (do Pure.pure (Next.value (← Builtin.len_ #[t] t #[ρ x])) : Sem Next).run P w := by
          simp [execOp, resolve, invoke, builtin]
        rw [hE] at hr
        obtain ⟨v, rfl, hv⟩ := run_value hr
        refine ⟨(Wl.len (P := P) #[t] t (ρ x) ⟨t, rfl, .inr hu⟩ w v w' hv).1, ⟨v, rfl⟩, ?_⟩
        unfold Builtin.len_ at hv
        simp only [List.getElem?_toArray, List.getElem?_cons_zero] at hv
        rw [Sem.run_bind, run_underlying hu, Result.andThen_ok] at hv
        cases hx : ρ x <;> rw [hx] at hv <;> simp [Go.stuck] at hv <;> trivial) h
      exact ⟨fun o ho hw => this.1 (by simpa [Region.wanted, ho] using hw), this.2⟩
    · have := chk_step hQ (R := fun ρ => num (ρ x)) rfl (fun ρ hρ w x w' hr => by
        obtain ⟨v, rfl, hv⟩ := run_value hr
        exact ⟨(unary_not hv).2, ⟨v, rfl⟩, (unary_not hv).1⟩) h
      exact ⟨fun o ho hw => this.1 (by simpa [Region.wanted, ho] using hw), this.2⟩
    · have := chk_step hQ (R := fun ρ => num (ρ x)) rfl (fun ρ hρ w y w' hr => by
        obtain ⟨v, rfl, hv⟩ := run_value hr
        rw [hρ] at hv
        simp [Instr.extract, Go.stuck] at hv) h
      exact ⟨fun o ho hw => this.1 (by simpa [Region.wanted, ho] using hw), this.2⟩

theorem checks_good (hQ : Tame Q) {o : Oper} {rest : List Oper} {a : Act} {w : World} (h : wpList P ops Q (checks P o ++ rest) a w) :
    (Region.wanted o (yielded ops a.tmps) = true → Good o a.eval) ∧ wpList P ops Q rest a w := by
  obtain ⟨dst, op, type, pos, after, guard⟩ := o
  unfold checks at h
  cases op <;> try exact ⟨fun _ => trivial, h⟩
  case binOp op t x y yt =>
    simp only at h
    split at h
    · rename_i hc
      simp only [Bool.and_eq_true, Bool.or_eq_true, beq_iff_eq] at hc
      exact ⟨fun _ => .inl ⟨hc.1, hc.2⟩, h⟩
    · rw [List.append_assoc] at h
      obtain ⟨h1, h2⟩ := chk_num hQ h
      obtain ⟨h3, h4⟩ := chk_num hQ h2
      exact ⟨fun hw => .inr ⟨h1 _ rfl hw, h3 _ rfl hw⟩, h4⟩
  case convert s d x =>
    obtain ⟨h1, h2⟩ := chkInt_step hQ h
    exact ⟨fun hw => h1 _ rfl hw, h2⟩

/-- The operands of what is told as calm are written by nothing behind it. -/
def stOk (ops : Array Oper) (sts : List Nat) : Bool :=
  sts.all fun k => match ops[k]? with
    | some o => o.guard.isNone && (List.range ops.size).all fun j => decide (j < k) || match ops[j]? with
      | some oj => match oj.dst with
        | some d => !(o.looksAt ops).contains d
        | none => true
      | none => true
    | none => false

theorem stabs_spec {a : Act} {sts : List Nat} (h : stabs P ops S a sts) {k : Nat} (hk : k ∈ sts) {o : Oper} (ho : ops[k]? = some o) : ∃ v, ∀ w, S w → (execOp a.eval o).run P w = .ok (.value v) w := by
  induction sts with
  | nil => cases hk
  | cons j r ih =>
    rcases List.mem_cons.1 hk with rfl | hk
    · obtain ⟨v, hv⟩ := h.1
      refine ⟨v, fun w hS => ?_⟩
      have := hv w hS
      rw [ho] at this
      simpa using this
    · exact ih h.2 hk

/-- Some end of the walk, of whose frame the slots that aren't written are as they are. -/
theorem some_end {sts : List Nat} : ∀ (l : List Oper) (k : Nat), (∀ j, l[j]? = ops[k + j]?) → ∀ (a : Act) (w : World),
    wpList P ops (heldPost P ops S sts Q (segs P l).2) (segs P l).1 a w →
    ∃ a', stabs P ops S a' sts ∧ ∀ t, (∀ j o, k ≤ j → ops[j]? = some o → o.dst ≠ some t) → a'.eval (.tmp t) = a.eval (.tmp t) := by
  intro l
  induction l with
  | nil => intro k _ a w h; exact ⟨a, h.1, fun _ _ => rfl⟩
  | cons o l ih =>
    intro k hk a w h
    have h0 : ops[k]? = some o := by simpa using (hk 0).symm
    have hk' : ∀ j, l[j]? = ops[k + 1 + j]? := fun j => by have := hk (j + 1); simpa [Nat.add_assoc, Nat.add_comm 1] using this
    have fin : ∀ (ds : List Deferred) (u : Value) (w1 : World), wpList P ops (heldPost P ops S sts Q (segs P l).2) (segs P l).1 (({ a with defers := ds } : Act).put o.dst u) w1 →
        ∃ a', stabs P ops S a' sts ∧ ∀ t, (∀ j o, k ≤ j → ops[j]? = some o → o.dst ≠ some t) → a'.eval (.tmp t) = a.eval (.tmp t) := fun ds u w1 hh => by
      obtain ⟨a', h1, h2⟩ := ih (k + 1) hk' _ w1 hh
      refine ⟨a', h1, fun t ht => ?_⟩
      rw [h2 t (fun j o hj => ht j o (by omega)), Act.eval_put (fun d hd hx => by
        simp only [Operand.tmp.injEq] at hx
        subst hx
        exact ht k o (Nat.le_refl _) h0 hd)]
      rfl
    have step : ∀ {Q' : Exit → Act → World → Prop} {rest : List Oper}, Tame Q' → wpList P ops Q' (o :: rest) a w → ∃ u w1 ds, wpList P ops Q' rest (({ a with defers := ds } : Act).put o.dst u) w1 := fun {Q' rest} hQ' hh => by
      have h2 : wpOp P ops Q' k (wpList P ops Q' rest) a w := by
        unfold wpOp
        simp only [h0]
        unfold wpList at hh
        exact hh
      exact outcome hQ' h0 h2
    unfold segs at h
    split at h
    · obtain ⟨_, h1⟩ := checks_good (heldPost.tame _) h
      obtain ⟨u, w1, ds, h2⟩ := step (heldPost.tame _) h1
      exact fin ds u w1 h2
    · obtain ⟨_, h1⟩ := checks_good (heldPost.tame _) h
      obtain ⟨u, w1, ds, h2⟩ := step (heldPost.tame _) h1
      exact fin ds u w1 (held_cons h2).2

theorem gOps_of_held {sts : List Nat} (hno : Region.noSelect ops = true) (hst : stOk ops sts = true) : ∀ (l : List Oper) (k : Nat), (∀ j, l[j]? = ops[k + j]?) → ∀ (a : Act) (w : World), (l ≠ [] → S w) →
    wpList P ops (heldPost P ops S sts Q (segs P l).2) (segs P l).1 a w → gOps P ops S (fun k => sts.contains k) (ops.size - 1) (HQ fun a w => Q .normal a w) (List.range' k l.length) a w := by
  intro l
  induction l with
  | nil => intro k _ a w _ h; exact h.2
  | cons o l ih =>
    intro k hk a w hS h
    replace hS := hS (by simp)
    have h0 : ops[k]? = some o := by simpa using (hk 0).symm
    have hk' : ∀ j, l[j]? = ops[k + 1 + j]? := fun j => by have := hk (j + 1); simpa [Nat.add_assoc, Nat.add_comm 1] using this
    have hlast : k ≠ ops.size - 1 → l ≠ [] := fun hne hl => by
      have h1 := hk' 0
      rw [hl] at h1
      have h2 := (Array.getElem?_eq_some_iff.1 h0).1
      rw [Nat.add_zero, Array.getElem?_eq_getElem (by omega)] at h1
      cases h1
    have hcalm : sts.contains k = true → CalmAt P S o a.eval := fun hc => by
      obtain ⟨a', hs, he⟩ := some_end (o :: l) k hk a w h
      have hk2 : k ∈ sts := by simpa using hc
      obtain ⟨v, hv⟩ := stabs_spec hs hk2 h0
      have hst2 := List.all_eq_true.1 hst k hk2
      rw [h0] at hst2
      simp only [Bool.and_eq_true, List.all_eq_true, List.mem_range] at hst2
      have hex : execOp a'.eval o = execOp a.eval o := execOp_congr o (fun cs b => Region.noSelect_spec hno k o cs b h0) fun x hx => by
        cases x with
        | tmp t =>
          refine he t fun j oj hj hoj hd => ?_
          have := hst2.2 j (Array.getElem?_eq_some_iff.1 hoj).1
          rw [hoj] at this
          simp only [hd, Bool.or_eq_true, decide_eq_true_eq, Bool.not_eq_true'] at this
          rcases this with h | h
          · omega
          · have hm : t ∈ o.looksAt ops := List.mem_append_left _ (List.mem_filterMap.2 ⟨.tmp t, by simpa using hx, rfl⟩)
            simp [hm] at h
        | _ => rfl
      rw [hex] at hv
      intro w1 x w1' hS1 hr
      rw [hv w1 hS1] at hr
      simp only [Result.ok.injEq] at hr
      exact ⟨v, hr.1.symm, hv⟩
    have toOp : ∀ {Q' : Exit → Act → World → Prop} {rest : List Oper}, wpList P ops Q' (o :: rest) a w → wpOp P ops Q' k (wpList P ops Q' rest) a w := fun {Q' rest} hh => by
      unfold wpOp
      simp only [h0]
      unfold wpList at hh
      exact hh
    -- a change of the post, where no panic and no outgrown memory gets by
    have post : ∀ {Q1 Q2 : Exit → Act → World → Prop} {K : Act → World → Prop}, Tame Q1 → wpOp P ops Q1 k K a w → wpOp P ops Q2 k K a w := fun {Q1 Q2 K} hQ1 hh => by
      unfold wpOp at *
      simp only [h0] at *
      split
      · rename_i hw
        simp only [hw, if_true] at hh
        rcases hh with hh | ⟨_, hh⟩
        case inr => exact (hQ1.out hh).elim
        refine .inl ?_
        unfold Oper.wp at *
        cases hr : (execOp a.eval o).run P w with
        | ok n w' =>
          rw [hr] at hh
          cases n <;> simp only [Oper.upon] at hh ⊢ <;> first | exact hh | exact Calls.mono hh (fun e w'' he => by cases e <;> first | exact he | exact (hQ1.panic _ _ _ he).elim | exact (hQ1.out he).elim)
        | halt x w' =>
          rw [hr] at hh
          cases x <;> simp only [Oper.upon] at hh ⊢ <;> exact (hQ1.panic _ _ _ hh).elim
      · rename_i hw
        simp only [hw] at hh
        exact hh
    simp only [List.length_cons, List.range'_succ]
    unfold segs at h
    split at h
    · rename_i hrd
      obtain ⟨hg, h1⟩ := checks_good (heldPost.tame _) h
      have hgd : ∀ o', ops[k]? = some o' → Region.wanted o' (yielded ops a.tmps) = true → Gd P S (fun k => sts.contains k) k o' a.eval := fun o' ho' hw => by
        rw [h0] at ho'; cases ho'; exact ⟨hg hw, hcalm⟩
      obtain ⟨v, hy, h2⟩ := reads_yields (heldPost.tame _) (fun ρ hρ hg => readsB_spec hrd ρ hρ hg) h0 hgd (toOp h1)
      exact reads_gOp h0 hS hy (ih (k + 1) hk' _ w (fun _ => hS) h2)
    · obtain ⟨hg, h1⟩ := checks_good (heldPost.tame _) h
      refine ⟨post (heldPost.tame _) (wpOp_mono (fun a' w' hh => ⟨fun hne => (held_cons hh).1 (hlast hne), ih (k + 1) hk' a' w' (held_cons hh).1 (held_cons hh).2⟩) (toOp h1)), fun o' ho' hw => ?_⟩
      rw [h0] at ho'
      cases ho'
      exact ⟨hg hw, hcalm⟩

/-- THE LAW: a region that draws its order is walked in the order of the text. S holds from its begin on, and behind each operation that may turn the world; the operations 'sts' (loads) yield one value wherever S holds. -/
theorem wp_held {id : Nat} {l : List Oper} {a : Act} {w : World} (S : World → Prop) (sts : List Nat) {seg : List Oper} {rest : List (List Oper)}
    (hm : P.follows .mixedOrders = true) (hs : swapsB P l.toArray sts = true) (hst : (stOk l.toArray sts && barB l.toArray) = true) (hl : segs P l = (seg, rest)) (hS : S w.drew)
    (h : wpList P l.toArray (heldPost P l.toArray S sts Q rest) seg a w.drew) : (Code.region id l.toArray true).wp P Q a w := by
  have hno : Region.noSelect l.toArray = true := by
    simp only [swapsB, Bool.and_eq_true] at hs
    exact hs.1.1
  rw [Bool.and_eq_true] at hst
  refine wp_swaps (Q := HQ fun a w => Q .normal a w) (z := l.toArray.size - 1) hm (HQ.tame _) (fun e a w h => by cases e <;> first | exact h | exact h.elim) (swapsB_spec (S := S) hs) ⟨by omega, fun j hj _ => ⟨_, List.all_eq_true.1 hst.2 j (List.mem_range.2 hj)⟩⟩ hS ?_
  rw [List.range_eq_range']
  have h' : wpList P l.toArray (heldPost P l.toArray S sts Q (segs P l).2) (segs P l).1 a w.drew := by rw [hl]; exact h
  exact gOps_of_held hno hst.1 l 0 (by simp) a _ (fun _ => hS) h'

theorem gOps_of_calm : ∀ (l : List Oper) (k : Nat), (∀ j, l[j]? = ops[k + j]?) → ∀ (a : Act) (w : World),
    wpList P ops (HQ fun a w => Q .normal a w) (l.flatMap fun o => checks P o ++ [o]) a w → gOps P ops (fun _ => True) (fun _ => false) ops.size (HQ fun a w => Q .normal a w) (List.range' k l.length) a w := by
  intro l
  induction l with
  | nil => intro k _ a w h; exact h
  | cons o l ih =>
    intro k hk a w h
    have h0 : ops[k]? = some o := by simpa using (hk 0).symm
    have hk' : ∀ j, l[j]? = ops[k + 1 + j]? := fun j => by have := hk (j + 1); simpa [Nat.add_assoc, Nat.add_comm 1] using this
    rw [List.flatMap_cons, List.append_assoc] at h
    obtain ⟨hg, h1⟩ := checks_good (HQ.tame _) h
    simp only [List.length_cons, List.range'_succ]
    have h2 : wpOp P ops (HQ fun a w => Q .normal a w) k (wpList P ops (HQ fun a w => Q .normal a w) (l.flatMap fun o => checks P o ++ [o])) a w := by
      unfold wpOp
      simp only [h0]
      unfold wpList at h1
      exact h1
    refine ⟨wpOp_mono (fun a' w' hh => ⟨fun _ => trivial, ih (k + 1) hk' a' w' hh⟩) h2, fun o' ho' hw => ?_⟩
    rw [h0] at ho'
    cases ho'
    exact ⟨hg hw, fun h => by cases h⟩

/-- THE LAW, where nothing need be held: the operations that may turn the world wait for all loads ahead of them, and all loads behind wait for them. -/
theorem wp_calm {id : Nat} {l : List Oper} {a : Act} {w : World} {l' : List Oper} (hm : P.follows .mixedOrders = true) (hs : swapsB P l.toArray [] = true) (hl : (l.flatMap fun o => checks P o ++ [o]) = l')
    (h : wpList P l.toArray (HQ fun a w => Q .normal a w) l' a w.drew) : (Code.region id l.toArray true).wp P Q a w := by
  refine wp_swaps (S := fun _ => True) (Q := HQ fun a w => Q .normal a w) (z := l.toArray.size) hm (HQ.tame _) (fun e a w h => by cases e <;> first | exact h | exact h.elim) (kd := fun _ => false) (swapsB_spec hs) ⟨by omega, fun j _ h => absurd h (by omega)⟩ trivial ?_
  rw [List.range_eq_range']
  subst hl
  exact gOps_of_calm l 0 (by simp) a _ h
end
end Go.Wb

namespace Go.Wb
open Go Go.RowKit
variable {α : Type}

theorem Row.setCell {w : World} {ty s b o cap : Nat} {cs : List Value} (h : Row w ty s (some ⟨b, o, none⟩) cap cs) {j : Nat} (v : Value) (hj : j < cs.length) : Row (w.setCell ⟨b, o + j, none⟩ v) ty s (some ⟨b, o, none⟩) cap (cs.set j v) := by
  rcases h with ⟨h, _⟩ | ⟨b', o', arr, h1, h2, h3, h4, h5⟩
  · cases h
  · obtain ⟨rfl, rfl⟩ : b = b' ∧ o = o' := by simpa using h1
    refine .inr ⟨b, o, arr.setIfInBounds (o + j) v, rfl, blk_set v h2, by simpa using h3, by simpa using h4, fun i u hi => ?_⟩
    rw [List.getElem?_set] at hi
    split at hi
    · rename_i hji
      subst hji
      rw [Array.getElem?_setIfInBounds, if_pos rfl, if_pos (by omega)]
      exact hi
    · rename_i hji
      rw [Array.getElem?_setIfInBounds, if_neg (by omega)]
      exact h5 i u hi

theorem new_cells {w : World} {b : Nat} {cs : List Value} {t : TypeId} {f : Nat × Nat} (h : w.heap[b]? = some (.cells cs.toArray t f)) (j : Nat) (u : Value) (hj : cs[j]? = some u) : w.cell? ((⟨b, 0, none⟩ : Addr).add j) = some u := by
  have hadd : (⟨b, 0, none⟩ : Addr).add j = ⟨b, j, none⟩ := by unfold Addr.add; split <;> simp_all
  rw [hadd]
  simp [World.cell?, h, hj]
theorem grow_row {s n cap : Nat} {a : Option Addr} (_hle : n ≤ cap) {b o : Nat} (h : ∃ x y, a = some ⟨x, y, none⟩ ∧ b = x ∧ y + n * s ≤ o ∧ o < y + cap * s) : rowFp a (cap * s) b o := by
  obtain ⟨x, y, h1, h2, h3, h4⟩ := h
  exact ⟨x, y, h1, h2, by omega, h4⟩
theorem held_world {P : Program} {ops : Array Oper} {S : World → Prop} {sts : List Nat} {Q : Exit → Act → World → Prop} {rest : List (List Oper)} {x : Exit} {a : Act} {w : World} (h : ∀ W, W = w → heldPost P ops S sts Q rest x a W) :
    heldPost P ops S sts Q rest x a w := h w rfl
theorem held_next {P : Program} {ops : Array Oper} {S : World → Prop} {sts : List Nat} {Q : Exit → Act → World → Prop} {o : Oper} {seg : List Oper} {rest : List (List Oper)} {a : Act} {w : World} (hS : S w) (h : wpList P ops (heldPost P ops S sts Q rest) (o :: seg) a w) :
    heldPost P ops S sts Q ((o :: seg) :: rest) .normal a w := ⟨hS, h⟩
theorem held_end {P : Program} {ops : Array Oper} {S : World → Prop} {sts : List Nat} {Q : Exit → Act → World → Prop} {a : Act} {w : World} (h : stabs P ops S a sts) (hq : Q .normal a w) :
    heldPost P ops S sts Q [[]] .normal a w := ⟨h, hq⟩
end Go.Wb

namespace Go.Wb
open Go Go.RowKit
variable {P : Program}

theorem Row.getElem {w : World} {ty s b o cap : Nat} {cs : List Value} (h : Row w ty s (some ⟨b, o, none⟩) cap cs) : ∃ arr, w.heap[b]? = some (.cells arr ty (0, 0)) ∧ cs.length ≤ cap * s ∧ o + cap * s ≤ arr.size ∧ ∀ i v, cs[i]? = some v → arr[o + i]? = some v := by
  rcases h with ⟨h, _⟩ | ⟨b', o', arr, h1, h2, h3, h4, h5⟩
  · cases h
  · obtain ⟨rfl, rfl⟩ : b = b' ∧ o = o' := by simpa using h1
    exact ⟨arr, h2, h3, h4, h5⟩

/-- A row isn't touched by what writes a block of another type. -/
theorem Row.off {w w' : World} {ty s t y cap : Nat} {a : Option Addr} {cs : List Value} {arr : Array Value} (h : Row w ty s a cap cs) (hk : Keep (fun x _ => x = y) w w') (hy : w.heap[y]? = some (.cells arr t (0, 0))) (ht : t ≠ ty) : Row w' ty s a cap cs := by
  refine h.keep' hk fun b o hf e => ?_
  obtain ⟨ar, ha⟩ := h.block ⟨_, hf⟩
  subst e
  exact blk_ne hy ha ht rfl

/-- Cells of a row are written. -/
theorem Row.setCells {ty s b o cap : Nat} : ∀ (vs : List Value) {w : World} {cs : List Value} (_ : Row w ty s (some ⟨b, o, none⟩) cap cs) {k : Nat} (_ : k + vs.length ≤ cs.length),
    Row (w.setCells b (o + k) vs) ty s (some ⟨b, o, none⟩) cap (cs.take k ++ vs ++ cs.drop (k + vs.length))
  | [], w, cs, h, k, hk => by simpa [World.setCells] using h
  | v :: r, w, cs, h, k, hk => by
    simp only [List.length_cons] at hk
    have h1 := h.setCell (j := k) v (by omega)
    have h2 := Row.setCells r h1 (k := k + 1) (by rw [List.length_set]; omega)
    rw [World.setCells, Nat.add_assoc]
    have e : (cs.set k v).take (k + 1) ++ r ++ (cs.set k v).drop (k + 1 + r.length) = cs.take k ++ v :: r ++ cs.drop (k + (v :: r).length) := by
      rw [List.take_set, List.drop_set_of_lt (by omega), List.length_cons, show k + 1 + r.length = k + (r.length + 1) by omega]
      congr 1
      rw [show v :: r = [v] ++ r from rfl, ← List.append_assoc]
      congr 1
      rw [List.take_succ_eq_append_getElem (by omega), List.set_append_right _ _ (by simp; omega), List.length_take, show k - min k cs.length = 0 by omega]
      simp
    rw [← e]
    exact h2

/-- The builtin copy that makes room in a row for one element ahead of element i. -/
theorem run_copyRoom (w : World) (t ty e s : Nat) (hu : P.underlying t = some (.slice e)) (hs : (P.info? e).map (·.size) = some s) {b o cap n i : Nat} {xs : List Value}
    (hrow : Row w e s (some ⟨b, o, none⟩) cap xs) (hn : xs.length = (n + 1) * s) (hi : i ≤ n) (d a : Option Addr) (hd : i < n → d = some ⟨b, o + (i + 1) * s, none⟩) (ha : i < n → a = some ⟨b, o + i * s, none⟩) (c1 c2 : Nat) (one : ∀ v ∈ xs, v.oneCell' = true) :
    ∃ r w', (Builtin.copy_ #[t, t] ty #[.slice d (n + 1 - (i + 1)) c1, .slice a (n + 1 - i) c2]).run P w = .ok r w' ∧
      Keep (fun x y => x = b ∧ o + (i + 1) * s ≤ y ∧ y < o + (n + 1) * s) w w' ∧ Row w' e s (some ⟨b, o, none⟩) cap (xs.take ((i + 1) * s) ++ (xs.drop (i * s)).take ((n - i) * s)) := by
  have hm : Nat.min (n + 1 - i) (n + 1 - (i + 1)) = n - i := by show min _ _ = _; omega
  cases hq : P.info? e with
  | none => simp [hq] at hs
  | some inf =>
    have hz : inf.size = s := by simpa [hq] using hs
    by_cases hlt : i < n
    · rw [hd hlt, ha hlt]
      obtain ⟨arr, h2, h3, h4, h5⟩ := hrow.getElem
      have e1 : (i + 1) * s = i * s + s := by rw [Nat.add_mul]; omega
      have e2 : (n + 1) * s = i * s + s + (n - i) * s := by rw [← e1, ← Nat.add_mul]; congr 1; omega
      generalize hcs : (xs.drop (i * s)).take ((n - i) * s) = cs
      have hcl : cs.length = (n - i) * s := by rw [← hcs]; simp; omega
      have hsrc : ∀ j v, cs[j]? = some v → w.cell? ((⟨b, o + i * s, none⟩ : Addr).add j) = some v := fun j v hj => by
        have hadd : (⟨b, o + i * s, none⟩ : Addr).add j = ⟨b, o + (i * s + j), none⟩ := by unfold Addr.add; split <;> simp_all [Nat.add_assoc]
        rw [hadd]
        refine hrow.cell ?_
        rw [← hcs, List.getElem?_take] at hj
        split at hj
        · rwa [List.getElem?_drop] at hj
        · cases hj
      have hl := run_loadCells_list (P := P) w ⟨b, o + i * s, none⟩ cs hsrc
      have hst := run_storeCells_cells (P := P) b (o + (i + 1) * s) cs 0 w (fun j hj => by
          have : o + (i + 1) * s + 0 + j < arr.size := by omega
          simp [World.cell?, h2]; omega) (fun j hj => by simp [World.frozen?, h2]) (fun v hv => one v (by
          rw [← hcs] at hv
          exact List.mem_of_mem_drop (List.mem_of_mem_take hv)))
      refine ⟨goInt (n - i : Nat), w.setCells b (o + (i + 1) * s) cs, ?_, ?_, ?_⟩
      · rw [hcl] at hl
        have hm2 : (n + 1 - i).min (n - i) = n - i := by show min _ _ = _; omega
        simp [Builtin.copy_, run_underlying hu, Builtin.lenOf, Builtin.firstCells, sizeOf, typeInfo, hq, hz, hm2, hl, hst]
      · exact Keep.setCells b cs _ w fun j hj => ⟨rfl, by omega, by omega⟩
      · have := hrow.setCells cs (k := (i + 1) * s) (by omega)
        have hdrop : xs.drop ((i + 1) * s + cs.length) = [] := List.drop_eq_nil_of_le (by omega)
        rw [hdrop, List.append_nil] at this
        exact this
    · obtain rfl : i = n := by omega
      refine ⟨goInt 0, w, ?_, Keep.refl _ _, ?_⟩
      · have hl : ∀ (x : Addr), (loadCells x 0).run P w = .ok #[] w := fun x => by simpa using run_loadCells_list (P := P) w x [] (by simp)
        rw [Nat.sub_self] at hm
        cases d <;> cases a <;> simp [Builtin.copy_, run_underlying hu, Builtin.lenOf, Builtin.firstCells, sizeOf, typeInfo, hq, storeCells, hl]
      · rw [Nat.sub_self, Nat.zero_mul, List.take_zero, List.append_nil, List.take_of_length_le (by omega)]
        exact hrow

theorem step_copyRoom {w : World} {ops : Array Oper} {o' : Oper} {a' : Act} {K : Act → World → Prop} {Q : Exit → Act → World → Prop} {E : Prop} (hgd : o'.guard = none) (x y : Operand) (t : TypeId)
    (ho : o'.op = .call { callee := .builtin .copy, args := #[x, y], argTypes := #[t, t] })
    (e s : Nat) (hu : P.underlying t = some (.slice e)) (hs : (P.info? e).map (·.size) = some s) {b o cap n i : Nat} {xs : List Value}
    (hrow : Row w e s (some ⟨b, o, none⟩) cap xs) (hn : xs.length = (n + 1) * s) (hi : i ≤ n) (d a : Option Addr) (c1 c2 : Nat)
    (hx : a'.eval x = .slice d (n + 1 - (i + 1)) c1) (hy : a'.eval y = .slice a (n + 1 - i) c2)
    (hd : i < n → d = some ⟨b, o + (i + 1) * s, none⟩) (ha : i < n → a = some ⟨b, o + i * s, none⟩) (one : ∀ v ∈ xs, v.oneCell' = true)
    (h : ∀ r w', Keep (fun x y => x = b ∧ o + (i + 1) * s ≤ y ∧ y < o + (n + 1) * s) w w' → Row w' e s (some ⟨b, o, none⟩) cap (xs.take ((i + 1) * s) ++ (xs.drop (i * s)).take ((n - i) * s)) → K (a'.put o'.dst r) w') :
    if Region.wanted o' (yielded ops a'.tmps) = true then Oper.wp P o' a' w K Q else E := by
  have hw : Region.wanted o' (yielded ops a'.tmps) = true := by simp [Region.wanted, hgd]
  rw [if_pos hw]
  obtain ⟨r, w', hr, h1, h2⟩ := run_copyRoom (P := P) w t o'.type e s hu hs hrow hn hi d a hd ha c1 c2 one
  unfold Oper.wp execOp
  simp only [ho, resolve, invoke, builtin, Sem.run_bind, Sem.run_pure, Result.andThen_ok, List.map_toArray, List.map_cons, List.map_nil, hx, hy, hr]
  exact h r w' h1 h2
/-- A row into which an element was put. -/
theorem ins_cells {α : Type} (E : Enc α) (its : List α) (x : α) (em : List Value) {i : Nat} (hi : i ≤ its.length) (hem : em.length = E.s) :
    ((E.all its ++ em).take ((i + 1) * E.s) ++ ((E.all its ++ em).drop (i * E.s)).take ((its.length - i) * E.s)).take (i * E.s) ++ E.enc x ++
      ((E.all its ++ em).take ((i + 1) * E.s) ++ ((E.all its ++ em).drop (i * E.s)).take ((its.length - i) * E.s)).drop (i * E.s + (E.enc x).length) = E.all (its.take i ++ x :: its.drop i) := by
  have hl := E.all_len its
  have e1 : (i + 1) * E.s = i * E.s + E.s := by rw [Nat.add_mul]; omega
  have e2 : i * E.s ≤ its.length * E.s := Nat.mul_le_mul_right _ hi
  have e3 : (its.length - i) * E.s = its.length * E.s - i * E.s := Nat.sub_mul _ _ _
  rw [E.all_append, E.all_cons, E.all_take, E.all_drop, E.len, ← e1]
  generalize E.all its = A at *
  generalize its.length * E.s = N at *
  rw [List.append_assoc]
  have ht : ((A ++ em).take ((i + 1) * E.s)).length = (i + 1) * E.s := by simp; omega
  congr 1
  · rw [List.take_append_of_le_length (by omega), List.take_take, List.take_append_of_le_length (by omega)]
    congr 1
    omega
  · congr 1
    rw [List.drop_left' ht, e3, List.drop_append_of_le_length (by omega), List.take_append_of_le_length (by simp; omega), List.take_of_length_le (by simp; omega)]
/-- A row of children into which one was put behind child i. -/
theorem ins_kids (ks : List Nat) (m : Nat) (v : Value) {i : Nat} (hi : i < ks.length) :
    (((ks.map ptr ++ [v]).take ((i + 1) * 1) ++ ((ks.map ptr ++ [v]).drop (i * 1)).take ((ks.length - i) * 1)).set (i + 1) (ptr m)) = (ks.take (i + 1) ++ m :: ks.drop (i + 1)).map ptr := by
  simp only [Nat.mul_one]
  rw [List.set_append_right _ _ (by simp; omega)]
  have h1 : ((ks.map ptr ++ [v]).take (i + 1)) = (ks.take (i + 1)).map ptr := by rw [List.take_append_of_le_length (by simp; omega), List.map_take]
  have h2 : ((ks.map ptr ++ [v]).drop i).take (ks.length - i) = (ks.drop i).map ptr := by rw [List.drop_append_of_le_length (by simp; omega), List.take_append_of_le_length (by simp), List.take_of_length_le (by simp), List.map_drop]
  rw [h1, h2, List.drop_eq_getElem_cons hi, List.map_append, List.map_cons, List.map_cons]
  congr 1
  rw [show i + 1 - ((ks.take (i + 1)).map ptr).length = 0 by simp; omega]
  rfl
end Go.Wb

namespace Go.Wb
open Go Go.RowKit
variable {α : Type} {T : Ty} {E : Enc α}

/-! ### a node turns -/
/-- Node n's record turns, in its own cells and new ones. -/
structure NTurn (T : Ty) (E : Enc α) (w : World) (n : Nat) (r : NRec α) (L : Lay) (w' : World) (r' : NRec α) (L' : Lay) : Prop where
  at_ : NodeAt T E w' n r' L'
  keep : Keep (fp T n r L) w w'
  fp : ∀ b o, b < w.heap.size → fp T n r' L' b o → fp T n r L b o

theorem NTurn.refl {w : World} {n : Nat} {r : NRec α} {L : Lay} (h : NodeAt T E w n r L) : NTurn T E w n r L w r L := ⟨h, Keep.refl _ _, fun _ _ _ h => h⟩
theorem NTurn.trans {w w1 w2 : World} {n : Nat} {r r1 r2 : NRec α} {L L1 L2 : Lay} (h : NTurn T E w n r L w1 r1 L1) (k : NTurn T E w1 n r1 L1 w2 r2 L2) : NTurn T E w n r L w2 r2 L2 :=
  ⟨k.at_, h.keep.trans k.keep fun b o hb hf => h.fp b o hb hf, fun b o hb hf => h.fp b o hb (k.fp b o (Nat.lt_of_lt_of_le hb h.keep.size) hf)⟩
theorem NTurn.ahead {w w1 w2 : World} {n : Nat} {r r2 : NRec α} {L L2 : Lay} (hk : Keep (fun _ _ => False) w w1) (k : NTurn T E w1 n r L w2 r2 L2) : NTurn T E w n r L w2 r2 L2 :=
  ⟨k.at_, (hk.mono fun _ _ _ h => h.elim).trans k.keep fun _ _ _ h => h, fun b o hb hf => k.fp b o (Nat.lt_of_lt_of_le hb hk.size) hf⟩
theorem NTurn.behind {w w1 w2 : World} {n : Nat} {r r1 : NRec α} {L L1 : Lay} (k : NTurn T E w n r L w1 r1 L1) (hk : Keep (fun _ _ => False) w1 w2) : NTurn T E w n r L w2 r1 L1 :=
  ⟨k.at_.keep hk fun _ _ _ h => h, k.keep.trans (hk.mono fun _ _ _ h => h.elim : Keep (Wb.fp T n r L) w1 w2) fun _ _ _ h => h, k.fp⟩
theorem NTurn.dr {w w1 : World} {n : Nat} {r r1 : NRec α} {L L1 : Lay} (k : NTurn T E w n r L w1 r1 L1) : NTurn T E w n r L w1.drew r1 L1 := k.behind (Keep.drew _ _)

/-- The node's own block. -/
theorem NodeAt.own {w : World} {n : Nat} {r : NRec α} {L : Lay} (h : NodeAt T E w n r L) : w.cell? ⟨n, 0, none⟩ = some (.int .u64 r.iso) ∧ w.cell? ⟨n, 1, none⟩ = some (.int .i64 r.cnt) ∧ w.cell? ⟨n, 2, none⟩ = some (.slice L.ia r.items.length L.icap) ∧
    w.cell? ⟨n, 3, none⟩ = some (kidsVal r.kids L.cb) ∧ ∀ o, w.frozen? ⟨n, o, none⟩ = false := by
  have := h.1
  simp [World.cell?, World.frozen?, this]
/-- The block of a node's children. -/
theorem NodeAt.kids {w : World} {n : Nat} {r : NRec α} {L : Lay} (h : NodeAt T E w n r L) {ks : List Nat} (hk : r.kids = some ks) : w.cell? ⟨n, 3, none⟩ = some (ptr L.cb) ∧ w.cell? ⟨L.cb, 0, none⟩ = some (.slice L.ka ks.length L.kcap) ∧
    (∀ o, w.frozen? ⟨L.cb, o, none⟩ = false) ∧ Row w T.nodeP 1 L.ka L.kcap (ks.map ptr) ∧ ks.length ≤ L.kcap := by
  have h1 := h.own
  obtain ⟨h5, h6, h7⟩ := h.2.2.2 ks hk
  refine ⟨by rw [h1.2.2.2.1, hk]; rfl, ?_, ?_, h6, h7⟩
  · simp [World.cell?, h5]
  · simp [World.frozen?, h5]

section ops
variable {w : World} {n : Nat} {r : NRec α} {L : Lay}

theorem nt_head (ok : TyOk T) (h : NodeAt T E w n r L) {w' : World} {iso cnt : Int} (hk : Keep (fun b _ => b = n) w w') (hb : w'.heap[n]? = some (.cells #[.int .u64 iso, .int .i64 cnt, .slice L.ia r.items.length L.icap, kidsVal r.kids L.cb] T.node (0, 0))) :
    NTurn T E w n r L w' { r with iso := iso, cnt := cnt } L :=
  ⟨h.reset ok hk hb, hk.mono fun _ _ _ h => .inl h, fun _ _ _ h => h⟩
/-- n.count = c -/
theorem nt_cnt (ok : TyOk T) (h : NodeAt T E w n r L) (c : Int) : NTurn T E w n r L (w.setCell ⟨n, 1, none⟩ (.int .i64 c)) { r with cnt := c } L :=
  nt_head ok h ((Keep.refl _ _).set _ _ _ fun _ => rfl) (by rw [blk_set _ h.1]; rfl)
theorem nt_iso (ok : TyOk T) (h : NodeAt T E w n r L) (c : Int) : NTurn T E w n r L (w.setCell ⟨n, 0, none⟩ (.int .u64 c)) { r with iso := c } L :=
  nt_head ok h ((Keep.refl _ _).set _ _ _ fun _ => rfl) (by rw [blk_set _ h.1]; rfl)

/-- The row of the items is another one, or has turned: n.items = .. -/
theorem nt_items (ok : TyOk T) (h : NodeAt T E w n r L) {w1 : World} {its : List α} {a : Option Addr} {cap : Nat} (hk : Keep (rowFp L.ia (L.icap * T.s)) w w1) (hrow : Row w1 T.pair T.s a cap (E.all its)) (hle : its.length ≤ cap)
    (hfp : ∀ b o, b < w.heap.size → rowFp a (cap * T.s) b o → rowFp L.ia (L.icap * T.s) b o) :
    NTurn T E w n r L (w1.setCell ⟨n, 2, none⟩ (.slice a its.length cap)) { r with items := its } { L with ia := a, icap := cap } := by
  have hnp : ∀ b o, rowFp L.ia (L.icap * T.s) b o → b ≠ n := fun b o hf e => by
    obtain ⟨arr, ha⟩ := h.2.1.block ⟨_, hf⟩
    subst e
    exact blk_ne h.1 ha ok.a rfl
  have hb1 : w1.heap[n]? = some (.cells #[.int .u64 r.iso, .int .i64 r.cnt, .slice L.ia r.items.length L.icap, kidsVal r.kids L.cb] T.node (0, 0)) := blk_keep h.1 hk fun o hf => hnp _ _ hf rfl
  have hk2 : Keep (fun b o => b = n ∧ o = 2) w1 (w1.setCell ⟨n, 2, none⟩ (.slice a its.length cap)) := (Keep.refl _ _).set _ _ _ fun _ => ⟨rfl, rfl⟩
  refine ⟨⟨by rw [blk_set _ hb1]; rfl, ?_, hle, fun ks hks => ?_⟩, ?_, ?_⟩
  · refine hrow.keep' hk2 fun b o hf e => ?_
    obtain ⟨arr, ha⟩ := hrow.block ⟨_, hf⟩
    rw [e.1] at ha
    exact blk_ne hb1 ha ok.a rfl
  · obtain ⟨h5, h6, h7⟩ := h.2.2.2 ks hks
    have h5' : w1.heap[L.cb]? = _ := blk_keep h5 hk fun o hf => by
      obtain ⟨arr, ha⟩ := h.2.1.block ⟨_, hf⟩
      exact blk_ne ha h5 ok.d rfl
    have h6' : Row w1 T.nodeP 1 L.ka L.kcap (ks.map ptr) := h6.keep' hk fun b o hf hg => by
      obtain ⟨arr, ha⟩ := h.2.1.block ⟨_, hg⟩
      obtain ⟨arr', ha'⟩ := h6.block ⟨_, hf⟩
      exact blk_ne ha ha' ok.f rfl
    refine ⟨blk_keep h5' hk2 fun o e => ?_, h6'.keep' hk2 fun b o hf e => ?_, h7⟩
    · exact blk_ne hb1 h5' ok.c e.1.symm
    · obtain ⟨arr', ha'⟩ := h6'.block ⟨_, hf⟩
      rw [e.1] at ha'
      exact blk_ne hb1 ha' ok.b rfl
  · exact (hk.mono fun b o _ hf => .inr (.inl hf) : Keep (Wb.fp T n r L) w w1).trans hk2 fun b o _ e => .inl e.1
  · rintro b o hb (e | hf | hf)
    · exact .inl e
    · exact .inr (.inl (hfp b o hb hf))
    · exact .inr (.inr hf)

/-- append to the items -/
theorem nt_append (ok : TyOk T) (h : NodeAt T E w n r L) {w0 w1 : World} {its : List α} {news : List Value} {a' : Option Addr} {m cap' : Nat} (hk0 : Keep (fun _ _ => False) w w0) (hg : Grew w0 w1 T.pair T.s L.ia a' r.items.length m L.icap cap' (E.all r.items ++ news)) (hn : E.all r.items ++ news = E.all its) (hl : its.length = r.items.length + m) :
    NTurn T E w n r L (w1.setCell ⟨n, 2, none⟩ (.slice a' (r.items.length + m) cap')) { r with items := its } { L with ia := a', icap := cap' } := by
  have h0 := h.keep hk0 fun _ _ _ h => h
  rw [← hl]
  refine NTurn.ahead hk0 (nt_items ok h0 (hg.keep.mono fun b o _ hf => ?_) (hn ▸ hg.row) (by rw [hl]; exact hg.cap) fun b o hb hf => ?_)
  · obtain ⟨x, y, e1, e2, e3, e4⟩ := hf
    exact ⟨x, y, e1, e2, by omega, e4⟩
  · rcases hg.fp b o hf with h | ⟨h, _⟩
    · exact h
    · omega
theorem nt_append1 (ok : TyOk T) (h : NodeAt T E w n r L) {w0 w1 : World} {x : α} {a' : Option Addr} {cap' : Nat} (hk0 : Keep (fun _ _ => False) w w0) (hg : Grew w0 w1 T.pair T.s L.ia a' r.items.length 1 L.icap cap' (E.all r.items ++ E.enc x)) :
    NTurn T E w n r L (w1.setCell ⟨n, 2, none⟩ (.slice a' (r.items.length + 1) cap')) { r with items := r.items ++ [x] } { L with ia := a', icap := cap' } :=
  nt_append ok h hk0 hg (by simp [Enc.all]) (by simp)

/-- Cells of the items turn in place. -/
theorem nt_row (ok : TyOk T) (h : NodeAt T E w n r L) {w1 : World} {its : List α} (hk : Keep (rowFp L.ia (L.icap * T.s)) w w1) (hrow : Row w1 T.pair T.s L.ia L.icap (E.all its)) (hl : its.length = r.items.length) :
    NTurn T E w n r L w1 { r with items := its } L := by
  have hb1 : w1.heap[n]? = some (.cells #[.int .u64 r.iso, .int .i64 r.cnt, .slice L.ia its.length L.icap, kidsVal r.kids L.cb] T.node (0, 0)) := by
    rw [hl]
    exact blk_keep h.1 hk fun o hf => by
      obtain ⟨arr, ha⟩ := h.2.1.block ⟨_, hf⟩
      exact blk_ne h.1 ha ok.a rfl
  refine ⟨⟨hb1, hrow, by rw [hl]; exact h.2.2.1, fun ks hks => ?_⟩, hk.mono fun b o _ hf => .inr (.inl hf), fun _ _ _ h => h⟩
  obtain ⟨h5, h6, h7⟩ := h.2.2.2 ks hks
  refine ⟨blk_keep h5 hk fun o hf => ?_, h6.keep' hk fun b o hf hg => ?_, h7⟩
  · obtain ⟨arr, ha⟩ := h.2.1.block ⟨_, hf⟩
    exact blk_ne ha h5 ok.d rfl
  · obtain ⟨arr, ha⟩ := h.2.1.block ⟨_, hg⟩
    obtain ⟨arr', ha'⟩ := h6.block ⟨_, hf⟩
    exact blk_ne ha ha' ok.f rfl

theorem all_set' (l : List α) {i : Nat} (hi : i < l.length) (x : α) : E.all (l.set i x) = (E.all l).take (i * E.s) ++ E.enc x ++ (E.all l).drop (i * E.s + (E.enc x).length) := by
  rw [List.set_eq_take_append_cons_drop, if_pos hi, E.all_append, E.all_cons, E.all_take, E.all_drop, E.len, show (i + 1) * E.s = i * E.s + E.s by rw [Nat.add_mul]; omega, List.append_assoc]

/-- n.items[i] = x -/
theorem nt_set (ok : TyOk T) (hs : T.s = E.s) (h : NodeAt T E w n r L) {i : Nat} (hi : i < r.items.length) {ib io : Nat} (hia : L.ia = some ⟨ib, io, none⟩) (x : α) :
    NTurn T E w n r L (w.setCells ib (io + i * T.s) (E.enc x)) { r with items := r.items.set i x } L := by
  have hrow := h.2.1
  have hle := h.2.2.1
  have e1 : i * T.s + T.s ≤ r.items.length * T.s := by rw [← Nat.add_one_mul]; exact Nat.mul_le_mul_right _ hi
  have e2 : r.items.length * T.s ≤ L.icap * T.s := Nat.mul_le_mul_right _ hle
  rw [hia] at hrow
  refine nt_row ok h (Keep.setCells _ _ _ _ fun j hj => ⟨_, _, hia, rfl, by omega, ?_⟩) ?_ (by simp)
  · rw [E.len, ← hs] at hj; omega
  · rw [hia]
    have := hrow.setCells (E.enc x) (k := i * T.s) (by rw [E.len, E.all_len, ← hs]; omega)
    rw [all_set' _ hi, ← hs]
    exact this

/-- n.items = n.items[:k] -/
theorem nt_cut (ok : TyOk T) (h : NodeAt T E w n r L) {k : Nat} (hk : k ≤ r.items.length) : NTurn T E w n r L (w.setCell ⟨n, 2, none⟩ (.slice L.ia k L.icap)) { r with items := r.items.take k } L := by
  have hl : (r.items.take k).length = k := by simp; omega
  have hrow := h.2.1.take (k * E.s)
  rw [← E.all_take] at hrow
  have := nt_items ok h (its := r.items.take k) (Keep.refl _ _) hrow (by have := h.2.2.1; omega) (fun _ _ _ h => h)
  rwa [hl] at this

/-- a new slice of children, or the old one turned: *n.children = .. -/
theorem nt_kids (ok : TyOk T) (h : NodeAt T E w n r L) {ks : List Nat} (hks : r.kids = some ks) {w1 : World} {ks' : List Nat} {a : Option Addr} {cap : Nat} (hk : Keep (rowFp L.ka L.kcap) w w1) (hrow : Row w1 T.nodeP 1 a cap (ks'.map ptr)) (hle : ks'.length ≤ cap)
    (hfp : ∀ b o, b < w.heap.size → rowFp a cap b o → rowFp L.ka L.kcap b o) :
    NTurn T E w n r L (w1.setCell ⟨L.cb, 0, none⟩ (.slice a ks'.length cap)) { r with kids := some ks' } { L with ka := a, kcap := cap } := by
  obtain ⟨h5, h6, h7⟩ := h.2.2.2 ks hks
  have off : ∀ b o c t, rowFp L.ka L.kcap b o → T.nodeP ≠ t → w.heap[b]? = some (.cells c t (0, 0)) → False := fun b o c t hf ht hb => by
    obtain ⟨arr, ha⟩ := h6.block ⟨_, hf⟩
    exact blk_ne ha hb ht rfl
  have hb1 := blk_keep h.1 hk fun o hf => off _ _ _ _ hf ok.b.symm h.1
  have hc1 := blk_keep h5 hk fun o hf => off _ _ _ _ hf ok.e h5
  have hr1 : Row w1 T.pair T.s L.ia L.icap (E.all r.items) := h.2.1.keep' hk fun b o hf hg => by
    obtain ⟨arr, ha⟩ := h.2.1.block ⟨_, hf⟩
    exact off b o _ _ hg ok.f.symm ha
  have hk2 : Keep (fun b o => b = L.cb ∧ o = 0) w1 (w1.setCell ⟨L.cb, 0, none⟩ (.slice a ks'.length cap)) := (Keep.refl _ _).set _ _ _ fun _ => ⟨rfl, rfl⟩
  have hkv : kidsVal r.kids L.cb = kidsVal (some ks') L.cb := by rw [hks]; rfl
  rw [hkv] at hb1
  refine ⟨⟨blk_keep hb1 hk2 fun o e => ?_, hr1.keep' hk2 fun b o hf e => ?_, h.2.2.1, fun ks2 hks2 => ?_⟩, ?_, ?_⟩
  · exact blk_ne hb1 hc1 ok.c e.1
  · obtain ⟨arr, ha⟩ := hr1.block ⟨_, hf⟩
    rw [e.1] at ha
    exact blk_ne ha hc1 ok.d rfl
  · obtain rfl : ks' = ks2 := Option.some.inj hks2
    refine ⟨by show (w1.setCell ⟨L.cb, 0, none⟩ _).heap[L.cb]? = _; rw [blk_set _ hc1]; rfl, ?_, hle⟩
    refine hrow.keep' hk2 fun b o hf e => ?_
    obtain ⟨arr, ha⟩ := hrow.block ⟨_, hf⟩
    rw [e.1] at ha
    exact blk_ne ha hc1 ok.e rfl
  · exact (hk.mono fun b o _ hf => .inr (.inr ⟨by simp [hks], .inr hf⟩) : Keep (Wb.fp T n r L) w w1).trans hk2 fun b o _ e => .inr (.inr ⟨by simp [hks], .inl e.1⟩)
  · rintro b o hb (e | hf | ⟨_, hf | hf⟩)
    · exact .inl e
    · exact .inr (.inl hf)
    · exact .inr (.inr ⟨by simp [hks], .inl hf⟩)
    · exact .inr (.inr ⟨by simp [hks], .inr (hfp b o hb hf)⟩)

theorem nk_append (ok : TyOk T) (h : NodeAt T E w n r L) {ks : List Nat} (hks : r.kids = some ks) {w0 w1 : World} {new : List Nat} {a' : Option Addr} {m cap' : Nat} (hk0 : Keep (fun _ _ => False) w w0) (hg : Grew w0 w1 T.nodeP 1 L.ka a' ks.length m L.kcap cap' (ks.map ptr ++ new.map ptr)) (hm : new.length = m) :
    NTurn T E w n r L (w1.setCell ⟨L.cb, 0, none⟩ (.slice a' (ks.length + m) cap')) { r with kids := some (ks ++ new) } { L with ka := a', kcap := cap' } := by
  have h0 := h.keep hk0 fun _ _ _ h => h
  have hl : (ks ++ new).length = ks.length + m := by simp [hm]
  rw [← hl]
  refine NTurn.ahead hk0 (nt_kids ok h0 hks (hg.keep.mono fun b o _ hf => ?_) (by rw [List.map_append]; exact hg.row) (by rw [hl]; exact hg.cap) fun b o hb hf => ?_)
  · obtain ⟨x, y, e1, e2, e3, e4⟩ := hf
    exact ⟨x, y, e1, e2, by omega, by simpa using e4⟩
  · rcases hg.fp b o (by simpa using hf) with h | ⟨h, _⟩
    · simpa using h
    · omega

/-- cells of the children turn in place -/
theorem nk_row (ok : TyOk T) (h : NodeAt T E w n r L) {ks : List Nat} (hks : r.kids = some ks) {w1 : World} {ks' : List Nat} (hk : Keep (rowFp L.ka L.kcap) w w1) (hrow : Row w1 T.nodeP 1 L.ka L.kcap (ks'.map ptr)) (hl : ks'.length = ks.length) :
    NTurn T E w n r L w1 { r with kids := some ks' } L := by
  obtain ⟨h5, h6, h7⟩ := h.2.2.2 ks hks
  have off : ∀ b o c t, rowFp L.ka L.kcap b o → T.nodeP ≠ t → w.heap[b]? = some (.cells c t (0, 0)) → False := fun b o c t hf ht hb => by
    obtain ⟨arr, ha⟩ := h6.block ⟨_, hf⟩
    exact blk_ne ha hb ht rfl
  have hb1 := blk_keep h.1 hk fun o hf => off _ _ _ _ hf ok.b.symm h.1
  have hkv : kidsVal r.kids L.cb = kidsVal (some ks') L.cb := by rw [hks]; rfl
  rw [hkv] at hb1
  refine ⟨⟨hb1, h.2.1.keep' hk fun b o hf hg => ?_, h.2.2.1, fun ks2 hks2 => ?_⟩, hk.mono fun b o _ hf => .inr (.inr ⟨by simp [hks], .inr hf⟩), ?_⟩
  · obtain ⟨arr, ha⟩ := h.2.1.block ⟨_, hf⟩
    exact off b o _ _ hg ok.f.symm ha
  · obtain rfl : ks' = ks2 := Option.some.inj hks2
    refine ⟨?_, hrow, by rw [hl]; exact h7⟩
    rw [hl]
    exact blk_keep h5 hk fun o hf => off _ _ _ _ hf ok.e h5
  · rintro b o hb (e | hf | ⟨_, hf⟩)
    · exact .inl e
    · exact .inr (.inl hf)
    · exact .inr (.inr ⟨by simp [hks], hf⟩)

/-- (*n.children)[i] = m -/
theorem nk_set (ok : TyOk T) (h : NodeAt T E w n r L) {ks : List Nat} (hks : r.kids = some ks) {i : Nat} (hi : i < ks.length) {kb ko : Nat} (hka : L.ka = some ⟨kb, ko, none⟩) (m : Nat) :
    NTurn T E w n r L (w.setCell ⟨kb, ko + i, none⟩ (ptr m)) { r with kids := some (ks.set i m) } L := by
  obtain ⟨h5, h6, h7⟩ := h.2.2.2 ks hks
  refine nk_row ok h hks ((Keep.refl _ _).set _ _ _ fun _ => ⟨_, _, hka, rfl, by omega, by omega⟩) ?_ (by simp)
  rw [hka] at h6 ⊢
  rw [List.map_set]
  exact h6.setCell (ptr m) (by simpa using hi)

/-- *n.children = (*n.children)[:k] -/
theorem nk_cut (ok : TyOk T) (h : NodeAt T E w n r L) {ks : List Nat} (hks : r.kids = some ks) {k : Nat} (hk : k ≤ ks.length) : NTurn T E w n r L (w.setCell ⟨L.cb, 0, none⟩ (.slice L.ka k L.kcap)) { r with kids := some (ks.take k) } L := by
  obtain ⟨h5, h6, h7⟩ := h.2.2.2 ks hks
  have hl : (ks.take k).length = k := by simp; omega
  have := nt_kids ok h hks (ks' := ks.take k) (Keep.refl _ _) (by rw [List.map_take]; exact h6.take k) (by omega) (fun _ _ _ h => h)
  rwa [hl] at this
end ops

/-! ### the builtin copy -/
/-- Into a row, from wherever. -/
theorem run_copyCells {P : Program} (w : World) (t ty e s : Nat) (hu : P.underlying t = some (.slice e)) (hs : (P.info? e).map (·.size) = some s) {b o cap n i m ld ls : Nat} {xs cs : List Value}
    (hrow : Row w e s (some ⟨b, o, none⟩) cap xs) (hn : xs.length = n * s) (hm : Nat.min ls ld = m) (hi : i + m ≤ n) (hcs : cs.length = m * s) (d a : Option Addr) (hd : 0 < m → d = some ⟨b, o + i * s, none⟩)
    (ha : 0 < m → ∃ x, a = some x ∧ ∀ j v, cs[j]? = some v → w.cell? (x.add j) = some v) (c1 c2 : Nat) (one : ∀ v ∈ cs, v.oneCell' = true) :
    ∃ w', (Builtin.copy_ #[t, t] ty #[.slice d ld c1, .slice a ls c2]).run P w = .ok (goInt (m : Nat)) w' ∧
      Keep (fun x y => x = b ∧ o + i * s ≤ y ∧ y < o + (i + m) * s) w w' ∧ Row w' e s (some ⟨b, o, none⟩) cap (xs.take (i * s) ++ cs ++ xs.drop (i * s + cs.length)) := by
  cases hq : P.info? e with
  | none => simp [hq] at hs
  | some inf =>
    have hz : inf.size = s := by simpa [hq] using hs
    have hle : i * s + m * s ≤ n * s := by rw [← Nat.add_mul]; exact Nat.mul_le_mul_right _ hi
    by_cases hlt : 0 < m
    · obtain ⟨x, rfl, hsrc⟩ := ha hlt
      rw [hd hlt]
      obtain ⟨arr, h2, h3, h4, h5⟩ := hrow.getElem
      have hl := run_loadCells_list (P := P) w x cs hsrc
      have hst := run_storeCells_cells (P := P) b (o + i * s) cs 0 w (fun j hj => by
          have : o + i * s + 0 + j < arr.size := by omega
          simp [World.cell?, h2]; omega) (fun j hj => by simp [World.frozen?, h2]) one
      refine ⟨w.setCells b (o + i * s) cs, ?_, ?_, ?_⟩
      · rw [hcs] at hl
        simp [Builtin.copy_, run_underlying hu, Builtin.lenOf, Builtin.firstCells, sizeOf, typeInfo, hq, hz, hm, hl, hst]
      · exact Keep.setCells b cs _ w fun j hj => ⟨rfl, by omega, by rw [Nat.add_mul]; omega⟩
      · exact hrow.setCells cs (k := i * s) (by omega)
    · obtain rfl : m = 0 := by omega
      refine ⟨w, ?_, Keep.refl _ _, ?_⟩
      · have hl : ∀ (x : Addr), (loadCells x 0).run P w = .ok #[] w := fun x => by simpa using run_loadCells_list (P := P) w x [] (by simp)
        cases d <;> cases a <;> simp [Builtin.copy_, run_underlying hu, Builtin.lenOf, Builtin.firstCells, sizeOf, typeInfo, hq, hm, storeCells, hl]
      · obtain rfl : cs = [] := List.eq_nil_of_length_eq_zero (by simpa using hcs)
        simpa using hrow

theorem add_cell (b o j : Nat) : (⟨b, o, none⟩ : Addr).add j = ⟨b, o + j, none⟩ := by unfold Addr.add; split <;> simp_all

/-- Within one row. -/
theorem run_copyRow {P : Program} (w : World) (t ty e s : Nat) (hu : P.underlying t = some (.slice e)) (hs : (P.info? e).map (·.size) = some s) {b o cap n i j m ld ls : Nat} {xs : List Value}
    (hrow : Row w e s (some ⟨b, o, none⟩) cap xs) (hn : xs.length = n * s) (hm : Nat.min ls ld = m) (hi : i + m ≤ n) (hj : j + m ≤ n) (d a : Option Addr) (hd : 0 < m → d = some ⟨b, o + i * s, none⟩) (ha : 0 < m → a = some ⟨b, o + j * s, none⟩) (c1 c2 : Nat) (one : ∀ v ∈ xs, v.oneCell' = true) :
    ∃ w', (Builtin.copy_ #[t, t] ty #[.slice d ld c1, .slice a ls c2]).run P w = .ok (goInt (m : Nat)) w' ∧
      Keep (fun x y => x = b ∧ o + i * s ≤ y ∧ y < o + (i + m) * s) w w' ∧ Row w' e s (some ⟨b, o, none⟩) cap (xs.take (i * s) ++ (xs.drop (j * s)).take (m * s) ++ xs.drop ((i + m) * s)) := by
  have hle : j * s + m * s ≤ n * s := by rw [← Nat.add_mul]; exact Nat.mul_le_mul_right _ hj
  have hcl : ((xs.drop (j * s)).take (m * s)).length = m * s := by simp; omega
  obtain ⟨w', h1, h2, h3⟩ := run_copyCells (P := P) w t ty e s hu hs hrow hn hm hi hcl d a hd (fun h => ⟨_, ha h, fun k v hk => by
      rw [add_cell, Nat.add_assoc]
      refine hrow.cell ?_
      rw [List.getElem?_take] at hk
      split at hk
      · rwa [List.getElem?_drop] at hk
      · cases hk⟩) c1 c2 (fun v hv => one v (List.mem_of_mem_drop (List.mem_of_mem_take hv)))
  refine ⟨w', h1, h2, ?_⟩
  rw [hcl, ← Nat.add_mul] at h3
  exact h3

section ops2
variable {w : World} {n : Nat} {r : NRec α} {L : Lay}
/-- copy(n.items[i:], n.items[j:]), m items -/
theorem nt_copy (ok : TyOk T) (hs : T.s = E.s) (h : NodeAt T E w n r L) {ib io : Nat} (hia : L.ia = some ⟨ib, io, none⟩) {i j m : Nat} (hi : i + m ≤ r.items.length) (hj : j + m ≤ r.items.length) {w' : World}
    (hk : Keep (fun x y => x = ib ∧ io + i * T.s ≤ y ∧ y < io + (i + m) * T.s) w w') (hrow : Row w' T.pair T.s (some ⟨ib, io, none⟩) L.icap ((E.all r.items).take (i * T.s) ++ ((E.all r.items).drop (j * T.s)).take (m * T.s) ++ (E.all r.items).drop ((i + m) * T.s))) :
    NTurn T E w n r L w' { r with items := r.items.take i ++ (r.items.drop j).take m ++ r.items.drop (i + m) } L := by
  have hle := h.2.2.1
  have e2 : (i + m) * T.s ≤ L.icap * T.s := Nat.mul_le_mul_right _ (by omega)
  refine nt_row ok h (hk.mono fun x y _ ⟨e, h1, h2⟩ => ⟨ib, io, hia, e, by omega, by omega⟩) ?_ (by simp; omega)
  rw [E.all_append, E.all_append, E.all_take, E.all_take, E.all_drop, E.all_drop, hia, ← hs]
  exact hrow
/-- copy((*n.children)[i:], (*n.children)[j:]), m children -/
theorem nk_copy (ok : TyOk T) (h : NodeAt T E w n r L) {ks : List Nat} (hks : r.kids = some ks) {kb ko : Nat} (hka : L.ka = some ⟨kb, ko, none⟩) {i j m : Nat} (hi : i + m ≤ ks.length) (hj : j + m ≤ ks.length) {w' : World}
    (hk : Keep (fun x y => x = kb ∧ ko + i * 1 ≤ y ∧ y < ko + (i + m) * 1) w w') (hrow : Row w' T.nodeP 1 (some ⟨kb, ko, none⟩) L.kcap ((ks.map ptr).take (i * 1) ++ ((ks.map ptr).drop (j * 1)).take (m * 1) ++ (ks.map ptr).drop ((i + m) * 1))) :
    NTurn T E w n r L w' { r with kids := some (ks.take i ++ (ks.drop j).take m ++ ks.drop (i + m)) } L := by
  obtain ⟨h5, h6, h7⟩ := h.2.2.2 ks hks
  refine nk_row ok h hks (hk.mono fun x y _ ⟨e, h1, h2⟩ => ⟨kb, ko, hka, e, by omega, by omega⟩) ?_ (by simp; omega)
  rw [hka]
  simp only [Nat.mul_one] at hrow
  simp only [List.map_append, List.map_take, List.map_drop]
  exact hrow
end ops2

/-! ### what a walk owns -/
inductive Res (α : Type) where
  | node (n : Nat) (r : NRec α) (L : Lay)
  | blk (b : Nat) (cs : Array Value) (ty : TypeId)
def Res.ok (T : Ty) (E : Enc α) (w : World) : Res α → Prop
  | .node n r L => NodeAt T E w n r L
  | .blk b cs ty => w.heap[b]? = some (.cells cs ty (0, 0))
def Res.fp (T : Ty) : Res α → Nat → Nat → Prop
  | .node n r L => Wb.fp T n r L
  | .blk b _ _ => fun x _ => x = b
theorem Res.lt {w : World} {r : Res α} (h : r.ok T E w) {b o : Nat} (hf : r.fp T b o) : b < w.heap.size := by
  cases r with
  | node n r L => exact NodeAt.lt h hf
  | blk c cs ty => obtain rfl : b = c := hf; exact lt_of_heap h
theorem Res.keep {S : Nat → Nat → Prop} {w w' : World} {r : Res α} (h : r.ok T E w) (hk : Keep S w w') (hS : ∀ b o, r.fp T b o → ¬ S b o) : r.ok T E w' := by
  cases r with
  | node n r L => exact NodeAt.keep h hk hS
  | blk c cs ty => exact blk_keep h hk fun o => hS c o rfl

structure Own (T : Ty) (E : Enc α) (S : Nat → Nat → Prop) (w0 w : World) (l : List (Res α)) : Prop where
  ok : ∀ (i : Nat) (r : Res α), l[i]? = some r → r.ok T E w
  apart : ∀ (i j : Nat) (r q : Res α), i ≠ j → l[i]? = some r → l[j]? = some q → ∀ b o, r.fp T b o → q.fp T b o → False
  keep : Keep S w0 w
  old : ∀ (i : Nat) (r : Res α), l[i]? = some r → ∀ b o, b < w0.heap.size → r.fp T b o → S b o

variable {S : Nat → Nat → Prop} {w0 w w' : World} {l : List (Res α)}

theorem Own.nil (S : Nat → Nat → Prop) (w : World) : Own T E S w w [] := ⟨fun i r h => by simp at h, fun i j r q _ h => by simp at h, Keep.refl _ _, fun i r h => by simp at h⟩

theorem Own.turn (h : Own T E S w0 w l) (i : Nat) {r r' : Res α} (hi : l[i]? = some r) (hk : Keep (r.fp T) w w') (hok : r'.ok T E w') (hfp : ∀ b o, b < w.heap.size → r'.fp T b o → r.fp T b o) : Own T E S w0 w' (l.set i r') := by
  have get : ∀ j q, (l.set i r')[j]? = some q → (j = i ∧ q = r') ∨ (j ≠ i ∧ l[j]? = some q) := fun j q hj => by
    rw [List.getElem?_set] at hj
    split at hj
    · rename_i e
      split at hj
      · exact .inl ⟨e.symm, (Option.some.inj hj).symm⟩
      · cases hj
    · rename_i e
      exact .inr ⟨fun e' => e e'.symm, hj⟩
  refine ⟨fun j q hj => ?_, fun j k p q hjk hj hk' b o hf hg => ?_, h.keep.trans hk fun x o hx hf => h.old i r hi x o hx hf, fun j q hj b o hb hf => ?_⟩
  · rcases get j q hj with ⟨rfl, rfl⟩ | ⟨e, hq⟩
    · exact hok
    · exact Res.keep (h.ok j q hq) hk fun b o hf hg => h.apart j i q r e hq hi b o hf hg
  · rcases get j p hj with ⟨rfl, rfl⟩ | ⟨e, hp⟩ <;> rcases get k q hk' with ⟨rfl, rfl⟩ | ⟨e', hq⟩
    · exact hjk rfl
    · exact h.apart j k r q hjk hi hq b o (hfp b o (Res.lt (h.ok k q hq) hg) hf) hg
    · exact h.apart j k p r hjk hp hi b o hf (hfp b o (Res.lt (h.ok j p hp) hf) hg)
    · exact h.apart j k p q hjk hp hq b o hf hg
  · rcases get j q hj with ⟨rfl, rfl⟩ | ⟨e, hq⟩
    · exact h.old j r hi b o hb (hfp b o (Nat.lt_of_lt_of_le hb h.keep.size) hf)
    · exact h.old j q hq b o hb hf

theorem Own.nt (h : Own T E S w0 w l) (i : Nat) {n : Nat} {r r' : NRec α} {L L' : Lay} (hi : l[i]? = some (.node n r L)) (t : NTurn T E w n r L w' r' L') : Own T E S w0 w' (l.set i (.node n r' L')) :=
  h.turn i hi t.keep t.at_ t.fp

theorem Own.calm (h : Own T E S w0 w l) (hk : Keep (fun _ _ => False) w w') : Own T E S w0 w' l :=
  ⟨fun i r hi => Res.keep (h.ok i r hi) hk fun _ _ _ h => h, h.apart, h.keep.trans hk fun _ _ _ h => h.elim, h.old⟩
theorem Own.dr (h : Own T E S w0 w l) : Own T E S w0 w.drew l := h.calm (Keep.drew _ _)
theorem Own.drN (h : Own T E S w0 w l) (k : Nat) : Own T E S w0 (w.drewN k) l := h.calm (Keep.drewN _ _ _)

/-- Something new. -/
theorem Own.add (h : Own T E S w0 w l) (hk : Keep (fun _ _ => False) w w') {r : Res α} (hr : r.ok T E w') (hnew : ∀ b o, r.fp T b o → w.heap.size ≤ b) : Own T E S w0 w' (l ++ [r]) := by
  have get : ∀ j q, (l ++ [r])[j]? = some q → (j < l.length ∧ l[j]? = some q) ∨ (j = l.length ∧ q = r) := fun j q hj => by
    rw [List.getElem?_append] at hj
    split at hj
    · rename_i e; exact .inl ⟨e, hj⟩
    · rename_i e
      have : j - l.length = 0 := by
        cases e2 : j - l.length with
        | zero => rfl
        | succ k => rw [e2] at hj; simp at hj
      rw [this] at hj
      exact .inr ⟨by omega, (Option.some.inj hj).symm⟩
  refine ⟨fun j q hj => ?_, fun j k p q hjk hj hk' b o hf hg => ?_, h.keep.trans hk fun _ _ _ h => h.elim, fun j q hj b o hb hf => ?_⟩
  · rcases get j q hj with ⟨_, hq⟩ | ⟨_, rfl⟩
    · exact Res.keep (h.ok j q hq) hk fun _ _ _ h => h
    · exact hr
  · rcases get j p hj with ⟨_, hp⟩ | ⟨e, rfl⟩ <;> rcases get k q hk' with ⟨_, hq⟩ | ⟨e', rfl⟩
    · exact h.apart j k p q hjk hp hq b o hf hg
    · have := hnew b o hg; have := Res.lt (h.ok j p hp) hf; omega
    · have := hnew b o hf; have := Res.lt (h.ok k q hq) hg; omega
    · omega
  · rcases get j q hj with ⟨_, hq⟩ | ⟨_, rfl⟩
    · exact h.old j q hq b o hb hf
    · have := hnew b o hf; have := h.keep.size; omega

theorem Own.alloc (h : Own T E S w0 w l) (cs : Array Value) (ty : TypeId) : Own T E S w0 (w.alloc (.cells cs ty)) (l ++ [.blk w.heap.size cs ty]) :=
  h.add (Keep.alloc _ _ _) (heap_alloc_new w _) (by rintro b o rfl; exact Nat.le_refl _)

theorem Own.set (h : Own T E S w0 w l) (i : Nat) {b : Nat} {cs : Array Value} {ty : TypeId} (hi : l[i]? = some (.blk b cs ty)) (o : Nat) (v : Value) : Own T E S w0 (w.setCell ⟨b, o, none⟩ v) (l.set i (.blk b (cs.setIfInBounds o v) ty)) :=
  h.turn i hi ((Keep.refl _ _).set _ _ _ fun _ => rfl) (blk_set v (h.ok i _ hi)) fun _ _ _ h => h

/-- Some of what is owned. -/
theorem Own.sub (h : Own T E S w0 w l) {l' : List (Res α)} (f : Nat → Nat) (hf : ∀ i r, l'[i]? = some r → l[f i]? = some r) (inj : ∀ i j, f i = f j → i = j) : Own T E S w0 w l' :=
  ⟨fun i r hi => h.ok _ r (hf i r hi), fun i j r q hij hi hj => h.apart _ _ r q (fun e => hij (inj i j e)) (hf i r hi) (hf j q hj), h.keep, fun i r hi => h.old _ r (hf i r hi)⟩

theorem Own.blk_ (h : Own T E S w0 w l) (i : Nat) {b : Nat} {cs : Array Value} {ty : TypeId} (hi : l[i]? = some (.blk b cs ty)) : w.heap[b]? = some (.cells cs ty (0, 0)) := h.ok i _ hi
theorem Own.node_ (h : Own T E S w0 w l) (i : Nat) {n : Nat} {r : NRec α} {L : Lay} (hi : l[i]? = some (.node n r L)) : NodeAt T E w n r L := h.ok i _ hi

/-- The nodes ps. -/
def nodesOf (L : Nat → Lay) (ps : List (Nat × NRec α)) : List (Res α) := ps.map fun p => .node p.1 p.2 (L p.1)
theorem Own.of_mem {H : Store α} {L : Nat → Lay} (hm : Mem T E w H L) (ps : List (Nat × NRec α)) (hp : ∀ p ∈ ps, H p.1 = some p.2) (nd : (ps.map (·.1)).Nodup) : Own T E (FP T H L (ps.map (·.1))) w w (nodesOf L ps) := by
  have get : ∀ (i : Nat) (r : Res α), (nodesOf L ps)[i]? = some r → ∃ p, ps[i]? = some p ∧ r = .node p.1 p.2 (L p.1) := fun i r hi => by
    simp only [nodesOf, List.getElem?_map, Option.map_eq_some_iff] at hi
    obtain ⟨p, h1, rfl⟩ := hi
    exact ⟨p, h1, rfl⟩
  refine ⟨fun i r hi => ?_, fun i j r q hij hi hj b o hf hg => ?_, Keep.refl _ _, fun i r hi b o _ hf => ?_⟩
  · obtain ⟨p, h1, rfl⟩ := get i r hi
    exact hm.at_ _ _ (hp p (List.mem_of_getElem? h1))
  · obtain ⟨p, h1, rfl⟩ := get i r hi
    obtain ⟨q', h2, rfl⟩ := get j q hj
    refine hm.sep p.1 q'.1 p.2 q'.2 (fun e => hij ?_) (hp p (List.mem_of_getElem? h1)) (hp q' (List.mem_of_getElem? h2)) b o hf hg
    have e1 : (ps.map (·.1))[i]? = some p.1 := by simp [h1]
    have e2 : (ps.map (·.1))[j]? = some p.1 := by simp [h2, e]
    obtain ⟨l1, g1⟩ := List.getElem?_eq_some_iff.1 e1
    obtain ⟨l2, g2⟩ := List.getElem?_eq_some_iff.1 e2
    rcases Nat.lt_trichotomy i j with h | h | h
    · exact absurd (g1.trans g2.symm) (List.pairwise_iff_getElem.1 nd i j l1 l2 h)
    · exact h
    · exact absurd (g2.trans g1.symm) (List.pairwise_iff_getElem.1 nd j i l2 l1 h)
  · obtain ⟨p, h1, rfl⟩ := get i r hi
    exact ⟨p.1, p.2, List.mem_map.2 ⟨p, List.mem_of_getElem? h1, rfl⟩, hp p (List.mem_of_getElem? h1), hf⟩

/-- THE STEP that a walk has made: the nodes of F have become those of F', which it owns. -/
theorem Own.step {H H' : Store α} {L L' : Nat → Lay} {F F' : List Nat} (hm : Mem T E w0 H L) (h : Own T E (FP T H L F) w0 w l)
    (hout : ∀ m, m ∉ F → m ∉ F' → H' m = H m ∧ L' m = L m)
    (hold : ∀ m, m ∈ F' → m ∉ F → w0.heap.size ≤ m)
    (hgone : ∀ m, m ∈ F → m ∉ F' → H' m = none)
    (hin : ∀ m r, m ∈ F' → H' m = some r → ∃ i : Nat, l[i]? = some (Res.node m r (L' m))) : Step T E w0 H L F w H' L' F' := by
  refine Step.mk' hm h.keep hout (fun m h1 h2 => ?_) hgone (fun m h1 => ?_) (fun m r h1 h2 => ?_) (fun m r b o h1 h2 hb hf => ?_) (fun a b p q ha hb hab hp hq x o hf hg => ?_)
  · cases hq : H m with
    | none => rfl
    | some q => have := hm.lt hq; have := hold m h1 h2; omega
  · by_cases h2 : m ∈ F
    · exact .inl h2
    · exact .inr (hold m h1 h2)
  · obtain ⟨i, hi⟩ := hin m r h1 h2
    exact h.ok i _ hi
  · obtain ⟨i, hi⟩ := hin m r h1 h2
    exact h.old i _ hi b o hb hf
  · obtain ⟨i, hi⟩ := hin a p ha hp
    obtain ⟨j, hj⟩ := hin b q hb hq
    refine h.apart i j _ _ (fun e => ?_) hi hj x o hf hg
    subst e
    rw [hi] at hj
    exact hab (Res.node.inj (Option.some.inj hj)).1
end Go.Wb

namespace Go.Wb
open Go Go.RowKit
variable {α : Type} {T : Ty} {E : Enc α}

/-- A step of nodes beside which cells X turn, too. -/
structure TStep (T : Ty) (E : Enc α) (X : Nat → Nat → Prop) (w : World) (H : Store α) (L : Nat → Lay) (F : List Nat) (w' : World) (H' : Store α) (L' : Nat → Lay) (F' : List Nat) : Prop where
  mem : Mem T E w' H' L'
  keep : Keep (fun b o => FP T H L F b o ∨ X b o) w w'
  out : ∀ m, m ∉ F → ∀ r, H m = some r → H' m = some r ∧ L' m = L m
  new : ∀ m, m ∈ F' → m ∈ F ∨ w.heap.size ≤ m
  fp : ∀ b o, b < w.heap.size → FP T H' L' F' b o → FP T H L F b o
  only : ∀ m r, H' m = some r → m ∈ F' ∨ (m ∉ F ∧ H m = some r ∧ L' m = L m)

variable {X : Nat → Nat → Prop} {w w1 w2 : World} {H H1 H2 : Store α} {L L1 L2 : Nat → Lay} {F F1 F2 : List Nat}

theorem Step.t (h : Step T E w H L F w1 H1 L1 F1) (X : Nat → Nat → Prop) : TStep T E X w H L F w1 H1 L1 F1 :=
  ⟨h.mem, h.keep.mono fun _ _ _ h => .inl h, h.out, h.new, h.fp, h.only⟩
theorem TStep.refl (h : Mem T E w H L) (X : Nat → Nat → Prop) (F : List Nat) : TStep T E X w H L F w H L F := (Step.refl h F).t X

theorem TStep.trans (h : TStep T E X w H L F w1 H1 L1 F1) (k : TStep T E X w1 H1 L1 F1 w2 H2 L2 F2) (hin : ∀ m r, m ∈ F1 → H m = some r → m ∈ F) : TStep T E X w H L F w2 H2 L2 F2 := by
  refine ⟨k.mem, h.keep.trans k.keep fun b o hb hf => hf.imp (h.fp b o hb) id, fun m hm r hr => ?_, fun m hm => ?_, fun b o hb hf => ?_, fun m r hr => ?_⟩
  · obtain ⟨h1, h2⟩ := h.out m hm r hr
    obtain ⟨h3, h4⟩ := k.out m (fun hm1 => hm (hin m r hm1 hr)) r h1
    exact ⟨h3, h4.trans h2⟩
  · rcases k.new m hm with h1 | h1
    · exact h.new m h1
    · exact .inr (Nat.le_trans h.keep.size h1)
  · exact h.fp b o hb (k.fp b o (Nat.lt_of_lt_of_le hb h.keep.size) hf)
  · rcases k.only m r hr with h1 | ⟨h1, h2, h3⟩
    · exact .inl h1
    · rcases h.only m r h2 with h4 | ⟨h4, h5, h6⟩
      · exact absurd h4 h1
      · exact .inr ⟨h4, h5, h3.trans h6⟩

/-- What is new in F1 isn't a node of H. -/
theorem TStep.hin (hm : Mem T E w H L) (h : TStep T E X w H L F w1 H1 L1 F1) : ∀ m r, m ∈ F1 → H m = some r → m ∈ F := fun m r h1 h2 => by
  rcases h.new m h1 with h3 | h3
  · exact h3
  · have := hm.lt h2; omega
theorem TStep.then (hm : Mem T E w H L) (h : TStep T E X w H L F w1 H1 L1 F1) (k : TStep T E X w1 H1 L1 F1 w2 H2 L2 F2) : TStep T E X w H L F w2 H2 L2 F2 := h.trans k (h.hin hm)

/-- Behind it only cells Y turn, which are no node's. -/
theorem TStep.post (h : TStep T E X w H L F w1 H1 L1 F1) {Y : Nat → Nat → Prop} (hk : Keep Y w1 w2) (hY : ∀ b o, b < w.heap.size → Y b o → X b o) (hd : ∀ m q, H1 m = some q → ∀ b o, Wb.fp T m q (L1 m) b o → ¬ Y b o) : TStep T E X w H L F w2 H1 L1 F1 :=
  ⟨h.mem.keepS hk fun n r b o hr hf => hd n r hr b o hf, h.keep.trans hk fun b o hb hx => .inr (hY b o hb hx), h.out, h.new, h.fp, h.only⟩
theorem TStep.pre {w0 : World} (hk : Keep (fun _ _ => False) w0 w) (h : TStep T E X w H L F w1 H1 L1 F1) : TStep T E X w0 H L F w1 H1 L1 F1 :=
  ⟨h.mem, (hk.mono fun _ _ _ h => h.elim).trans h.keep fun _ _ _ h => h, h.out, fun m hm => (h.new m hm).imp id fun h1 => Nat.le_trans hk.size h1, fun b o hb hf => h.fp b o (Nat.lt_of_lt_of_le hb hk.size) hf, h.only⟩
/-- What came between w0 and w is no node's. -/
theorem TStep.clear {w0 : World} (hm0 : Mem T E w0 H L) (_hk : Keep (fun _ _ => False) w0 w) (h : TStep T E X w H L F w1 H1 L1 F1) : ∀ m q, H1 m = some q → ∀ b o, Wb.fp T m q (L1 m) b o → ¬ (w0.heap.size ≤ b ∧ b < w.heap.size) := fun m q hq b o hf ⟨h1, h2⟩ => by
  rcases h.only m q hq with hF | ⟨_, h4, h5⟩
  · obtain ⟨k, p, _, hp, hfp⟩ := h.fp b o h2 ⟨m, q, hF, hq, hf⟩
    have := (hm0.at_ k p hp).lt hfp
    omega
  · rw [h5] at hf
    have := (hm0.at_ m q h4).lt hf
    omega
theorem TStep.widen (h : TStep T E X w H L F w1 H1 L1 F1) {Y : Nat → Nat → Prop} (hY : ∀ b o, b < w.heap.size → X b o → Y b o) : TStep T E Y w H L F w1 H1 L1 F1 :=
  ⟨h.mem, h.keep.mono fun b o hb hx => hx.imp id (hY b o hb), h.out, h.new, h.fp, h.only⟩
/-- A block that is there and no node's is kept. -/
theorem TStep.blk (h : TStep T E X w H L F w1 H1 L1 F1) (_hm : Mem T E w H L) {b : Nat} {ob : Obj} (hb : w.heap[b]? = some ob) (hX : ∀ o, ¬ X b o) (hn : ∀ m q o, H m = some q → ¬ Wb.fp T m q (L m) b o) : w1.heap[b]? = some ob :=
  blk_keep hb h.keep fun o hf => hf.elim (fun ⟨m, q, _, hq, hf⟩ => hn m q o hq hf) (hX o)
end Go.Wb
