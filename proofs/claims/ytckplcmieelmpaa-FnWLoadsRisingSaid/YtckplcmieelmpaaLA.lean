/- Part 1 of the texts for the statement FnWLoadsRisingSaid: the package's tree of maps and sets, its functions' contracts. -/
import Derived.WalkKit
import Derived.Laws.IdiomCopy
import Derived.Deep.DeepAppendWide
import Derived.Deep.Draws
import Derived.Orders
import Derived.Test.YtckplcmieelmpaaRows
import Derived.WalkSpells
import Derived.WalkLawsBesides
import Derived.Lib.Hide
import Derived.Outline
import Derived.Deep.Cut
import Derived.Stop.Asserts
import GoSem.Op.String
import Derived.Laws.Rows
import Derived.Deep.LoopGhost
namespace Go.Wb
open Go.RowKit

/-- w' is w but for cells in S (of blocks that were there) and new blocks. -/
structure Keep (S : Nat → Nat → Prop) (w w' : World) : Prop where
  os : w'.os = w.os
  tape : w'.tape = w.tape
  output : w'.output = w.output
  size : w.heap.size ≤ w'.heap.size
  block : ∀ b, b < w.heap.size → w'.heap[b]? = w.heap[b]? ∨ ∃ c c' t f, w.heap[b]? = some (.cells c t f) ∧ w'.heap[b]? = some (.cells c' t f) ∧ c'.size = c.size ∧ ∀ o, ¬ S b o → c'[o]? = c[o]?

theorem Keep.refl (S : Nat → Nat → Prop) (w : World) : Keep S w w := ⟨rfl, rfl, rfl, Nat.le_refl _, fun _ _ => .inl rfl⟩

theorem Keep.mono {S T : Nat → Nat → Prop} {w w' : World} (h : Keep S w w') (hs : ∀ b o, b < w.heap.size → S b o → T b o) : Keep T w w' :=
  ⟨h.os, h.tape, h.output, h.size, fun b hb => by
    rcases h.block b hb with e | ⟨c, c', t, f, e1, e2, e3, e4⟩
    · exact .inl e
    · exact .inr ⟨c, c', t, f, e1, e2, e3, fun o ho => e4 o fun hso => ho (hs b o hb hso)⟩⟩

theorem Keep.trans {S T : Nat → Nat → Prop} {a b c : World} (h : Keep S a b) (k : Keep T b c) (hT : ∀ x o, x < a.heap.size → T x o → S x o) : Keep S a c := by
  refine ⟨k.os.trans h.os, k.tape.trans h.tape, k.output.trans h.output, Nat.le_trans h.size k.size, fun x hx => ?_⟩
  rcases h.block x hx with e | ⟨c0, c1, t, f, e1, e2, e3, e4⟩
  · rcases k.block x (Nat.lt_of_lt_of_le hx h.size) with e' | ⟨d0, d1, t', f', e1', e2', e3', e4'⟩
    · exact .inl (e'.trans e)
    · exact .inr ⟨d0, d1, t', f', e ▸ e1', e2', e3', fun o ho => e4' o fun h' => ho (hT x o hx h')⟩
  · rcases k.block x (Nat.lt_of_lt_of_le hx h.size) with e' | ⟨d0, d1, t', f', e1', e2', e3', e4'⟩
    · exact .inr ⟨c0, c1, t, f, e1, e'.trans e2, e3, e4⟩
    · rw [e2] at e1'
      obtain ⟨rfl, rfl, rfl⟩ : c1 = d0 ∧ t = t' ∧ f = f' := by simpa using e1'
      exact .inr ⟨c0, d1, t, f, e1, e2', e3'.trans e3, fun o ho => (e4' o fun h' => ho (hT x o hx h')).trans (e4 o ho)⟩

theorem Keep.cell {S : Nat → Nat → Prop} {w w' : World} (h : Keep S w w') {b o : Nat} (hb : b < w.heap.size) (ho : ¬ S b o) : w'.cell? ⟨b, o, none⟩ = w.cell? ⟨b, o, none⟩ := by
  rcases h.block b hb with e | ⟨c, c', t, f, e1, e2, e3, e4⟩
  · simp only [World.cell?, e]
  · simp only [World.cell?, e1, e2]
    simpa using e4 o ho

theorem Keep.frozen {S : Nat → Nat → Prop} {w w' : World} (h : Keep S w w') {b o : Nat} (hb : b < w.heap.size) : w'.frozen? ⟨b, o, none⟩ = w.frozen? ⟨b, o, none⟩ := by
  rcases h.block b hb with e | ⟨c, c', t, f, e1, e2, e3, e4⟩
  · simp only [World.frozen?, e]
  · simp only [World.frozen?, e1, e2]

theorem Keep.shape {S : Nat → Nat → Prop} {w w' : World} (h : Keep S w w') {b : Nat} (hb : b < w.heap.size) : w'.shape? b = w.shape? b := by
  rcases h.block b hb with e | ⟨c, c', t, f, e1, e2, e3, e4⟩
  · simp only [World.shape?, e]
  · simp only [World.shape?, e1, e2, e3]

theorem Keep.whole {S : Nat → Nat → Prop} {w w' : World} (h : Keep S w w') {b : Nat} (hb : b < w.heap.size) (ho : ∀ o, ¬ S b o) : w'.heap[b]? = w.heap[b]? := by
  rcases h.block b hb with e | ⟨c, c', t, f, e1, e2, e3, e4⟩
  · exact e
  · rw [e1, e2]
    congr 2
    apply Array.ext_getElem?
    intro i
    exact e4 i (ho i)

theorem Keep.below {S : Nat → Nat → Prop} {w w' : World} {B : Nat} (h : Keep S w w') (hB : B ≤ w.heap.size) (hS : ∀ b o, b < B → ¬ S b o) : Below B w w' :=
  ⟨h.os, h.tape, h.output, h.size, fun k hk => h.whole (by omega) fun o => hS k o hk⟩

theorem lt_of_heap {w : World} {b : Nat} {o : Obj} (h : w.heap[b]? = some o) : b < w.heap.size := by
  rcases Nat.lt_or_ge b w.heap.size with h' | h'
  · exact h'
  · simp [Array.getElem?_eq_none h'] at h

theorem Keep.at_ {S : Nat → Nat → Prop} {w w' : World} (h : Keep S w w') {b : Nat} {c : Array Value} {t : TypeId} {f : Nat × Nat} (hb : w.heap[b]? = some (.cells c t f)) :
    ∃ c', w'.heap[b]? = some (.cells c' t f) ∧ c'.size = c.size ∧ ∀ o, ¬ S b o → c'[o]? = c[o]? := by
  rcases h.block b (lt_of_heap hb) with e | ⟨c0, c', t', f', e1, e2, e3, e4⟩
  · exact ⟨c, e.trans hb, rfl, fun _ _ => rfl⟩
  · rw [hb] at e1
    obtain ⟨rfl, rfl, rfl⟩ : c = c0 ∧ t = t' ∧ f = f' := by simpa using e1
    exact ⟨c', e2, e3, e4⟩

theorem Keep.alloc (S : Nat → Nat → Prop) (w : World) (o : Obj) : Keep S w (w.alloc o) :=
  ⟨rfl, rfl, rfl, by simp, fun b hb => .inl (Below.heap_alloc w o b hb)⟩

theorem Keep.drew (S : Nat → Nat → Prop) (w : World) : Keep S w w.drew := ⟨rfl, rfl, rfl, Nat.le_refl _, fun _ _ => .inl rfl⟩
theorem Keep.drewN (S : Nat → Nat → Prop) (w : World) (n : Nat) : Keep S w (w.drewN n) := ⟨rfl, rfl, rfl, Nat.le_refl _, fun _ _ => .inl rfl⟩

theorem Keep.setCell {S : Nat → Nat → Prop} (w : World) (b o : Nat) (v : Value) (hs : b < w.heap.size → S b o) : Keep S w (w.setCell ⟨b, o, none⟩ v) := by
  refine ⟨rfl, rfl, rfl, by simp, fun x hx => ?_⟩
  by_cases hb : x = b
  · subst hb
    simp only [World.setCell, Array.getElem?_modify, ↓reduceIte]
    cases hh : w.heap[x]? with
    | none => exact .inl rfl
    | some ob =>
      cases ob with
      | cells c t f =>
        refine .inr ⟨c, c.setIfInBounds o v, t, f, rfl, by simp, by simp, fun o' ho' => ?_⟩
        have : o ≠ o' := fun e => ho' (e ▸ hs hx)
        simp [this]
      | _ => exact .inl rfl
  · exact .inl (Below.heap_setCell w _ v x hb)

theorem Keep.setCells {S : Nat → Nat → Prop} (b : Nat) : ∀ (vs : List Value) (o : Nat) (w : World), (∀ j, j < vs.length → S b (o + j)) → Keep S w (w.setCells b o vs)
  | [], _, w, _ => Keep.refl _ _
  | v :: r, o, w, h => (Keep.setCell w b o v (fun _ => by simpa using h 0 (by simp))).trans
      (Keep.setCells b r (o + 1) _ (fun j hj => by have := h (j + 1) (by simp; omega); rwa [show o + (j + 1) = o + 1 + j by omega] at this)) (fun _ _ _ h => h)

theorem row_append {xs news : List Value} {n s : Nat} (hn : xs.length = n * s) {f : Nat → Option Value} {o j : Nat} {v : Value} (hj : (xs ++ news)[j]? = some v)
    (h1 : ∀ k u, xs[k]? = some u → f (o + k) = some u) (h2 : ∀ k u, news[k]? = some u → f (o + (n * s + k)) = some u) : f (o + j) = some v := by
  rw [List.getElem?_append] at hj
  split at hj
  · exact h1 j v hj
  · rename_i hlt
    have := h2 (j - xs.length) v hj
    rw [← hn, show xs.length + (j - xs.length) = j by omega] at this
    exact this

theorem Keep.set {S : Nat → Nat → Prop} {a w : World} (h : Keep S a w) (b o : Nat) (v : Value) (hs : b < a.heap.size → S b o) : Keep S a (w.setCell ⟨b, o, none⟩ v) :=
  h.trans (T := fun x y => x = b ∧ y = o) (Keep.setCell w b o v fun _ => ⟨rfl, rfl⟩) fun x y hx ⟨e1, e2⟩ => by subst e1; subst e2; exact hs hx
theorem Keep.al {S : Nat → Nat → Prop} {a w : World} (h : Keep S a w) (o : Obj) : Keep S a (w.alloc o) := h.trans (Keep.alloc S w o) fun _ _ _ h => h
theorem Keep.dr {S : Nat → Nat → Prop} {a w : World} (h : Keep S a w) : Keep S a w.drew := h.trans (Keep.drew S w) fun _ _ _ h => h
theorem Keep.drN {S : Nat → Nat → Prop} {a w : World} (h : Keep S a w) (n : Nat) : Keep S a (w.drewN n) := h.trans (Keep.drewN S w n) fun _ _ _ h => h

theorem blk_set {w : World} {b o : Nat} {cs : Array Value} {t : TypeId} {f : Nat × Nat} (v : Value) (h : w.heap[b]? = some (.cells cs t f)) : (w.setCell ⟨b, o, none⟩ v).heap[b]? = some (.cells (cs.setIfInBounds o v) t f) := by
  simp only [World.setCell, Array.getElem?_modify, ↓reduceIte, h, Option.map_some]; simp
theorem blk_far {w : World} {b x o : Nat} {ob : Obj} (v : Value) (h : w.heap[b]? = some ob) (hne : b ≠ x) : (w.setCell ⟨x, o, none⟩ v).heap[b]? = some ob := by
  rw [Below.heap_setCell w _ v b hne]; exact h
theorem blk_alloc {w : World} {b : Nat} {ob : Obj} (o : Obj) (h : w.heap[b]? = some ob) : (w.alloc o).heap[b]? = some ob := by
  rw [Below.heap_alloc w o b (lt_of_heap h)]; exact h
theorem blk_drew {w : World} {b : Nat} {ob : Obj} (h : w.heap[b]? = some ob) : w.drew.heap[b]? = some ob := h
theorem blk_keep {S : Nat → Nat → Prop} {w w' : World} {b : Nat} {ob : Obj} (h : w.heap[b]? = some ob) (hk : Keep S w w') (hS : ∀ o, ¬ S b o) : w'.heap[b]? = some ob := (hk.whole (lt_of_heap h) hS).trans h
theorem wp_world {P : Program} {c : Code} {Q : Exit → Act → World → Prop} {a : Act} {w : World} (h : ∀ W, W = w → c.wp P Q a W) : c.wp P Q a w := h w rfl

/-! ### rows: what a slice's value leads to -/
/-- The cells that a row takes. -/
def rowFp (a : Option Addr) (n : Nat) (b o : Nat) : Prop := ∃ x y, a = some ⟨x, y, none⟩ ∧ b = x ∧ y ≤ o ∧ o < y + n

/-- A row of cap elements of s cells, of element type ty, whose first cells are cs. -/
def Row (w : World) (ty s : Nat) (a : Option Addr) (cap : Nat) (cs : List Value) : Prop :=
  (a = none ∧ cap = 0 ∧ cs = []) ∨
  ∃ b o arr, a = some ⟨b, o, none⟩ ∧ w.heap[b]? = some (.cells arr ty (0, 0)) ∧ cs.length ≤ cap * s ∧ o + cap * s ≤ arr.size ∧ ∀ i v, cs[i]? = some v → arr[o + i]? = some v

theorem Row.len {w : World} {ty s : Nat} {a : Option Addr} {cap : Nat} {cs : List Value} (h : Row w ty s a cap cs) : cs.length ≤ cap * s := by
  rcases h with ⟨_, rfl, rfl⟩ | ⟨b, o, arr, _, _, h, _⟩
  · simp
  · exact h

theorem Row.form {w : World} {ty s : Nat} {a : Option Addr} {cap : Nat} {cs : List Value} (h : Row w ty s a cap cs) (hs : 0 < cs.length) : ∃ b o, a = some ⟨b, o, none⟩ ∧ b < w.heap.size ∧ w.shape? b ≠ none := by
  rcases h with ⟨_, _, rfl⟩ | ⟨b, o, arr, h1, h2, _⟩
  · simp at hs
  · refine ⟨b, o, h1, ?_, by simp [World.shape?, h2]⟩
    rcases Nat.lt_or_ge b w.heap.size with h' | h'
    · exact h'
    · simp [Array.getElem?_eq_none h'] at h2

theorem Row.cell {w : World} {ty s : Nat} {b o cap : Nat} {cs : List Value} (h : Row w ty s (some ⟨b, o, none⟩) cap cs) {i : Nat} {v : Value} (hi : cs[i]? = some v) : w.cell? ⟨b, o + i, none⟩ = some v := by
  rcases h with ⟨h, _⟩ | ⟨b', o', arr, h1, h2, _, _, h5⟩
  · cases h
  · obtain ⟨rfl, rfl⟩ : b = b' ∧ o = o' := by simpa using h1
    simp [World.cell?, h2, h5 i v hi]

theorem Row.there {w : World} {ty s : Nat} {b o cap : Nat} {cs : List Value} (h : Row w ty s (some ⟨b, o, none⟩) cap cs) {i : Nat} (hi : i < cap * s) : ∃ v, w.cell? ⟨b, o + i, none⟩ = some v := by
  rcases h with ⟨h, _⟩ | ⟨b', o', arr, h1, h2, _, h4, _⟩
  · cases h
  · obtain ⟨rfl, rfl⟩ : b = b' ∧ o = o' := by simpa using h1
    have : o + i < arr.size := by omega
    exact ⟨arr[o + i], by simp [World.cell?, h2, this]⟩

theorem Row.frozen {w : World} {ty s : Nat} {b o cap : Nat} {cs : List Value} (h : Row w ty s (some ⟨b, o, none⟩) cap cs) (i : Nat) : w.frozen? ⟨b, i, none⟩ = false := by
  rcases h with ⟨h, _⟩ | ⟨b', o', arr, h1, h2, _, h4, _⟩
  · cases h
  · obtain ⟨rfl, rfl⟩ : b = b' ∧ o = o' := by simpa using h1
    simp [World.frozen?, h2]

theorem Row.shape {w : World} {ty s : Nat} {b o cap : Nat} {cs : List Value} (h : Row w ty s (some ⟨b, o, none⟩) cap cs) : ∃ n, w.shape? b = some (ty, n) ∧ o + cap * s ≤ n := by
  rcases h with ⟨h, _⟩ | ⟨b', o', arr, h1, h2, _, h4, _⟩
  · cases h
  · obtain ⟨rfl, rfl⟩ : b = b' ∧ o = o' := by simpa using h1
    exact ⟨arr.size, by simp [World.shape?, h2], h4⟩

/-- A row is kept by what does not write its used cells. -/
theorem Row.keep {S : Nat → Nat → Prop} {w w' : World} {ty s : Nat} {a : Option Addr} {cap : Nat} {cs : List Value} (h : Row w ty s a cap cs) (hk : Keep S w w') (hS : ∀ b o, rowFp a cs.length b o → ¬ S b o) : Row w' ty s a cap cs := by
  rcases h with h | ⟨b, o, arr, h1, h2, h3, h4, h5⟩
  · exact .inl h
  · have hb : b < w.heap.size := by
      rcases Nat.lt_or_ge b w.heap.size with h' | h'
      · exact h'
      · simp [Array.getElem?_eq_none h'] at h2
    rcases hk.block b hb with e | ⟨c, c', t, f, e1, e2, e3, e4⟩
    · exact .inr ⟨b, o, arr, h1, e.trans h2, h3, h4, h5⟩
    · rw [h2] at e1
      obtain ⟨rfl, rfl, rfl⟩ : arr = c ∧ ty = t ∧ (0, 0) = f := by simpa using e1
      refine .inr ⟨b, o, c', h1, e2, h3, by omega, fun i v hi => ?_⟩
      have hil : i < cs.length := by
        rcases Nat.lt_or_ge i cs.length with h' | h'
        · exact h'
        · simp [List.getElem?_eq_none h'] at hi
      rw [e4 (o + i) (hS b (o + i) ⟨b, o, h1, rfl, by omega, by omega⟩)]
      exact h5 i v hi

theorem Row.take {w : World} {ty s : Nat} {a : Option Addr} {cap : Nat} {cs : List Value} (h : Row w ty s a cap cs) (n : Nat) : Row w ty s a cap (cs.take n) := by
  rcases h with ⟨h1, h2, rfl⟩ | ⟨b, o, arr, h1, h2, h3, h4, h5⟩
  · exact .inl ⟨h1, h2, by simp⟩
  · refine .inr ⟨b, o, arr, h1, h2, by simp; omega, h4, fun i v hi => h5 i v ?_⟩
    rw [List.getElem?_take] at hi
    split at hi
    · exact hi
    · cases hi

/-- The new row behind an append, and what has turned. -/
structure Grew (w w' : World) (ty s : Nat) (a a' : Option Addr) (n m cap cap' : Nat) (cs : List Value) : Prop where
  row : Row w' ty s a' cap' cs
  keep : Keep (fun b o => ∃ x y, a = some ⟨x, y, none⟩ ∧ b = x ∧ y + n * s ≤ o ∧ o < y + cap * s) w w'
  fp : ∀ b o, rowFp a' (cap' * s) b o → rowFp a (cap * s) b o ∨ (b = w.heap.size ∧ b < w'.heap.size)
  cap : n + m ≤ cap'

theorem run_append_row {P : Program} (w : World) (t ty e : TypeId) (i : TypeInfo) (z : Value) (ht : P.underlying t = some (.slice e)) (hi : P.info? e = some i) (hz : i.zero = some z)
    (hzs : z.cells.size = i.size)
    (a : Option Addr) (n cap : Nat) (xs : List Value) (hrow : Row w e i.size a cap xs) (hn : xs.length = n * i.size)
    (ad : Addr) (m c : Nat) (news : List Value) (hl : news.length = m * i.size) (hnews : ∀ j u, news[j]? = some u → w.cell? (ad.add j) = some u) (h1 : ∀ u ∈ news, u.oneCell' = true)
    (hm : 0 < m) (hle : n ≤ cap) (h63 : n + m ≤ maxLen) (hbytes : (n + m) * i.bytes ≤ 140737488355328) :
    ∃ a' cap' w', (Builtin.append_ #[t, t] ty #[.slice a n cap, .slice (some ad) m c]).run P w = .ok (.slice a' (n + m) cap') w' ∧ Grew w w' e i.size a a' n m cap cap' (xs ++ news) := by
  have hsmall : n + m ≤ 9223372036854775807 := by simp only [maxLen] at h63; omega
  have hlen : (xs ++ news).length = (n + m) * i.size := by rw [List.length_append, hn, hl, Nat.add_mul]
  have grown : ∀ (old : Nat), Grew w (w.drew.alloc (.cells (xs.toArray ++ news.toArray ++ Builtin.zeroCells z.cells (grownCap w (n + m) old e - (n + m))) e)) e i.size a (some ⟨w.heap.size, 0, none⟩) n m cap (grownCap w (n + m) old e) (xs ++ news) := by
    intro old
    have hge := grownCap_ge w (n + m) old e
    refine ⟨.inr ⟨w.heap.size, 0, _, rfl, heap_alloc_new w.drew _, ?_, ?_, ?_⟩, ?_, ?_, hge⟩
    · rw [hlen]; exact Nat.mul_le_mul_right _ hge
    · simp only [Array.size_append, List.size_toArray, size_zeroCells, hzs, hn, hl, ← Nat.add_mul, Nat.zero_add]
      apply Nat.le_of_eq
      congr 1
      omega
    · intro j v hj
      rw [Nat.zero_add]
      have hjl : j < (xs ++ news).length := by
        rcases Nat.lt_or_ge j (xs ++ news).length with h | h
        · exact h
        · simp [List.getElem?_eq_none h] at hj
      rw [Array.getElem?_append_left (by simp only [Array.size_append, List.size_toArray]; rw [List.length_append] at hjl; exact hjl)]
      simpa using hj
    · exact (Keep.drew _ w).trans (Keep.alloc _ _ _) (fun _ _ _ h => h)
    · rintro b o ⟨x, y, he, rfl, _, _⟩
      right
      obtain ⟨rfl, rfl⟩ : w.heap.size = b ∧ 0 = y := by simpa using he
      exact ⟨rfl, by simp⟩
  by_cases hroom : n + m ≤ cap
  · -- there is room
    rcases hrow with ⟨_, h0, _⟩ | ⟨b, o, arr, rfl, hb, hc, hsz, hcs⟩
    · omega
    · have hfit : n * i.size + news.length ≤ cap * i.size := by rw [hl, ← Nat.add_mul]; exact Nat.mul_le_mul_right _ hroom
      have hf := run_firstCells_some (P := P) w i.size m ad m c news hl hnews
      have hth : ∀ j, j < news.length → (w.cell? ⟨b, o + n * i.size + 0 + j, none⟩).isSome = true := by
        intro j hj
        have hlt : o + n * i.size + j < arr.size := by omega
        simp [World.cell?, hb, hlt]
      have hfz : ∀ j, j < news.length → w.frozen? ⟨b, o + n * i.size + 0 + j, none⟩ = false := by
        intro j hj
        simp [World.frozen?, hb]
      have hst := run_storeCells_cells (P := P) b (o + n * i.size) news 0 w hth hfz h1
      simp only [Nat.add_zero] at hst hth
      have hadd : (⟨b, o, none⟩ : Addr).add (n * i.size) = ⟨b, o + n * i.size, none⟩ := by unfold Addr.add; split <;> simp_all
      refine ⟨some ⟨b, o, none⟩, cap, w.setCells b (o + n * i.size) news, ?_, ?_⟩
      · simp [Builtin.append_, run_underlying ht, sizeOf, typeInfo, hi, Builtin.lenOf, hroom, hf, hadd, hst]
      · have hk := Keep.setCells (S := fun b' o' => ∃ x y, (some (⟨b, o, none⟩ : Addr)) = some ⟨x, y, none⟩ ∧ b' = x ∧ y + n * i.size ≤ o' ∧ o' < y + cap * i.size) b news (o + n * i.size) w (fun j hj => ⟨b, o, rfl, rfl, by omega, by omega⟩)
        refine ⟨?_, hk, fun _ _ h => .inl h, hroom⟩
        obtain ⟨c', e2, e3, _⟩ := hk.at_ hb
        have hlc : (xs ++ news).length ≤ cap * i.size := by rw [List.length_append]; omega
        refine .inr ⟨b, o, c', rfl, e2, hlc, by omega, fun j v hj => ?_⟩
        have hcell : ∀ q, (w.setCells b (o + n * i.size) news).cell? ⟨b, q, none⟩ = c'[q]? := by intro q; simp [World.cell?, e2]
        rw [← hcell]
        refine row_append (f := fun q => (w.setCells b (o + n * i.size) news).cell? ⟨b, q, none⟩) (o := o) hn hj (fun k u hk => ?_) (fun k u hk => ?_)
        · have hlt : k < xs.length := (List.getElem?_eq_some_iff.1 hk).1
          refine (World.cell?_setCells_out b news (o + n * i.size) w ⟨b, o + k, none⟩ (fun _ _ => .inl (by show o + k < o + n * i.size; omega))).trans ?_
          simp [World.cell?, hb, hcs k u hk]
        · obtain ⟨hk', rfl⟩ := List.getElem?_eq_some_iff.1 hk
          have := World.cell?_setCells_in b news (o + n * i.size) w (fun j hj => hth j hj) k hk'
          rwa [Nat.add_assoc] at this
  · rcases hrow with ⟨rfl, rfl, rfl⟩ | ⟨b, o, arr, rfl, hb, hc, hsz, hcs⟩
    · obtain rfl : n = 0 := by omega
      have hr := run_append_nil (P := P) w t ty e i z ht hi hz ad m c news hl hnews (by omega) (by omega) (by have hb := hbytes; simp only [Nat.zero_add] at hb; omega)
      have hg := grown 0
      simp only [Nat.zero_add, List.nil_append, Array.empty_append] at hg ⊢
      exact ⟨_, _, _, hr, hg⟩
    · have holds : ∀ j u, xs[j]? = some u → w.cell? ((⟨b, o, none⟩ : Addr).add j) = some u := by
        intro j u hj
        have hadd : (⟨b, o, none⟩ : Addr).add j = ⟨b, o + j, none⟩ := by unfold Addr.add; split <;> simp_all
        rw [hadd]
        simp [World.cell?, hb, hcs j u hj]
      have hr := run_append_grow (P := P) w t ty e i z ht hi hz ⟨b, o, none⟩ n cap xs hn holds ad m c news hl hnews (by omega) (by omega) (growslice_fits (by omega) hbytes)
      exact ⟨_, _, _, hr, grown cap⟩
end Go.Wb

namespace Go.Wb
open Go Go.RowKit

/-- The types of a tree's nodes: a node's own, that of a pointer to it, an item's, that of a slice of children; and an item's cells. -/
structure Ty where
  node : TypeId
  nodeP : TypeId
  pair : TypeId
  kids : TypeId
  s : Nat

/-- A node: its count, its items, its children (none: a leaf). -/
structure NRec (α : Type) where
  iso : Int
  cnt : Int
  items : List α
  kids : Option (List Nat)

/-- Where a node's parts lie. -/
structure Lay where
  ia : Option Addr
  icap : Nat
  cb : Nat
  ka : Option Addr
  kcap : Nat

def ptr (n : Nat) : Value := .pointer (some ⟨n, 0, none⟩)
def kidsVal (k : Option (List Nat)) (cb : Nat) : Value := match k with | none => .pointer none | some _ => ptr cb

variable {α : Type}

/-- How an item lies in cells. -/
structure Enc (α : Type) where
  enc : α → List Value
  s : Nat
  len : ∀ x, (enc x).length = s
  one : ∀ x, ∀ v ∈ enc x, v.oneCell' = true
  pos : 0 < s

def Enc.all (E : Enc α) (l : List α) : List Value := l.flatMap E.enc
theorem Enc.all_len (E : Enc α) (l : List α) : (E.all l).length = l.length * E.s := by
  induction l with
  | nil => simp [Enc.all]
  | cons x l ih =>
    simp only [Enc.all, List.flatMap_cons, List.length_append, List.length_cons, E.len] at ih ⊢
    rw [ih, Nat.add_mul]; omega
theorem Enc.all_append (E : Enc α) (l k : List α) : E.all (l ++ k) = E.all l ++ E.all k := by simp [Enc.all]
theorem Enc.all_cons (E : Enc α) (x : α) (l : List α) : E.all (x :: l) = E.enc x ++ E.all l := by simp [Enc.all]

/-- A node's record lies at block n. -/
def NodeAt (T : Ty) (E : Enc α) (w : World) (n : Nat) (r : NRec α) (L : Lay) : Prop :=
  w.heap[n]? = some (.cells #[.int .u64 r.iso, .int .i64 r.cnt, .slice L.ia r.items.length L.icap, kidsVal r.kids L.cb] T.node (0, 0)) ∧
  Row w T.pair T.s L.ia L.icap (E.all r.items) ∧ r.items.length ≤ L.icap ∧
  ∀ ks, r.kids = some ks → w.heap[L.cb]? = some (.cells #[.slice L.ka ks.length L.kcap] T.kids (0, 0)) ∧ Row w T.nodeP 1 L.ka L.kcap (ks.map ptr) ∧ ks.length ≤ L.kcap

/-- The cells that are a node's own. -/
def fp (T : Ty) (n : Nat) (r : NRec α) (L : Lay) (b o : Nat) : Prop :=
  b = n ∨ rowFp L.ia (L.icap * T.s) b o ∨ (r.kids.isSome = true ∧ (b = L.cb ∨ rowFp L.ka L.kcap b o))

theorem rowFp_lt {w : World} {ty s : Nat} {a : Option Addr} {cap : Nat} {cs : List Value} (h : Row w ty s a cap cs) {b o : Nat} (hf : rowFp a (cap * s) b o) : b < w.heap.size := by
  obtain ⟨x, y, rfl, rfl, _, _⟩ := hf
  rcases h with ⟨h, _⟩ | ⟨b', o', arr, h1, h2, _⟩
  · cases h
  · obtain ⟨rfl, rfl⟩ : b = b' ∧ y = o' := by simpa using h1
    exact lt_of_heap h2

theorem NodeAt.lt {T : Ty} {E : Enc α} {w : World} {n : Nat} {r : NRec α} {L : Lay} (h : NodeAt T E w n r L) {b o : Nat} (hf : fp T n r L b o) : b < w.heap.size := by
  obtain ⟨h1, h2, _, h4⟩ := h
  rcases hf with rfl | hf | ⟨hk, hf⟩
  · exact lt_of_heap h1
  · exact rowFp_lt h2 hf
  · obtain ⟨ks, hks⟩ := Option.isSome_iff_exists.1 hk
    obtain ⟨h5, h6, _⟩ := h4 ks hks
    rcases hf with rfl | hf
    · exact lt_of_heap h5
    · exact rowFp_lt h6 (by simpa using hf)

theorem Row.keep' {S : Nat → Nat → Prop} {w w' : World} {ty s : Nat} {a : Option Addr} {cap : Nat} {cs : List Value} (h : Row w ty s a cap cs) (hk : Keep S w w') (hS : ∀ b o, rowFp a (cap * s) b o → ¬ S b o) : Row w' ty s a cap cs := by
  refine h.keep hk fun b o ⟨x, y, h1, h2, h3, h4⟩ => hS b o ⟨x, y, h1, h2, h3, ?_⟩
  have := h.len
  omega

theorem NodeAt.keep {T : Ty} {E : Enc α} {w w' : World} {n : Nat} {r : NRec α} {L : Lay} {S : Nat → Nat → Prop} (h : NodeAt T E w n r L) (hk : Keep S w w') (hS : ∀ b o, fp T n r L b o → ¬ S b o) : NodeAt T E w' n r L := by
  obtain ⟨h1, h2, h3, h4⟩ := h
  refine ⟨?_, h2.keep' hk fun b o hf => hS b o (.inr (.inl hf)), h3, fun ks hks => ?_⟩
  · rw [hk.whole (lt_of_heap h1) fun o => hS n o (.inl rfl)]; exact h1
  · obtain ⟨h5, h6, h7⟩ := h4 ks hks
    refine ⟨?_, h6.keep' hk fun b o hf => hS b o (.inr (.inr ⟨by simp [hks], .inr (by simpa using hf)⟩)), h7⟩
    rw [hk.whole (lt_of_heap h5) fun o => hS L.cb o (.inr (.inr ⟨by simp [hks], .inl rfl⟩))]; exact h5

abbrev Store (α : Type) := Nat → Option (NRec α)

/-- All nodes of H lie in w, apart from each other. -/
structure Mem (T : Ty) (E : Enc α) (w : World) (H : Store α) (L : Nat → Lay) : Prop where
  at_ : ∀ n r, H n = some r → NodeAt T E w n r (L n)
  sep : ∀ n m r q, n ≠ m → H n = some r → H m = some q → ∀ b o, fp T n r (L n) b o → fp T m q (L m) b o → False

/-- The cells of the nodes F. -/
def FP (T : Ty) (H : Store α) (L : Nat → Lay) (F : List Nat) (b o : Nat) : Prop := ∃ n r, n ∈ F ∧ H n = some r ∧ fp T n r (L n) b o

/-- The nodes of F have become those of F'; all else is as it was. -/
structure Step (T : Ty) (E : Enc α) (w : World) (H : Store α) (L : Nat → Lay) (F : List Nat) (w' : World) (H' : Store α) (L' : Nat → Lay) (F' : List Nat) : Prop where
  mem : Mem T E w' H' L'
  keep : Keep (FP T H L F) w w'
  out : ∀ m, m ∉ F → ∀ r, H m = some r → H' m = some r ∧ L' m = L m
  new : ∀ m, m ∈ F' → m ∈ F ∨ w.heap.size ≤ m
  fp : ∀ b o, b < w.heap.size → FP T H' L' F' b o → FP T H L F b o
  only : ∀ m r, H' m = some r → m ∈ F' ∨ (m ∉ F ∧ H m = some r ∧ L' m = L m)

theorem Step.refl {T : Ty} {E : Enc α} {w : World} {H : Store α} {L : Nat → Lay} (h : Mem T E w H L) (F : List Nat) : Step T E w H L F w H L F :=
  ⟨h, Keep.refl _ _, fun _ _ _ h => ⟨h, rfl⟩, fun _ h => .inl h, fun _ _ _ h => h, fun m _ h => (Classical.em (m ∈ F)).imp id fun hm => ⟨hm, h, rfl⟩⟩

theorem Step.trans {T : Ty} {E : Enc α} {w w1 w2 : World} {H H1 H2 : Store α} {L L1 L2 : Nat → Lay} {F F1 F2 : List Nat}
    (h : Step T E w H L F w1 H1 L1 F1) (k : Step T E w1 H1 L1 F1 w2 H2 L2 F2) (hin : ∀ m r, m ∈ F1 → H m = some r → m ∈ F) : Step T E w H L F w2 H2 L2 F2 := by
  refine ⟨k.mem, h.keep.trans k.keep fun b o hb hf => h.fp b o hb hf, fun m hm r hr => ?_, fun m hm => ?_, fun b o hb hf => ?_, fun m r hr => ?_⟩
  · obtain ⟨h1, h2⟩ := h.out m hm r hr
    obtain ⟨h3, h4⟩ := k.out m (fun hm1 => hm (hin m r hm1 hr)) r h1
    exact ⟨h3, h4.trans h2⟩
  · rcases k.new m hm with h1 | h1
    · exact h.new m h1
    · exact .inr (Nat.le_trans h.keep.size h1)
  · exact h.fp b o hb (k.fp b o (Nat.lt_of_lt_of_le hb h.keep.size) hf)
  · rcases k.only m r hr with h1 | ⟨h1, h2, h3⟩
    · exact .inl h1
    · rcases h.only m r h2 with h4 | ⟨h4, h5, h6⟩
      · exact absurd h4 h1
      · exact .inr ⟨h4, h5, h3.trans h6⟩

/-- A step of some nodes is one of more nodes. -/
theorem Step.frame {T : Ty} {E : Enc α} {w w' : World} {H H' : Store α} {L L' : Nat → Lay} {F F' : List Nat}
    (h : Step T E w H L F w' H' L' F') (A B : List Nat) (hA : ∀ m, m ∈ A ++ B → m ∉ F ∧ ∃ r, H m = some r) : Step T E w H L (A ++ F ++ B) w' H' L' (A ++ F' ++ B) := by
  refine ⟨h.mem, h.keep.mono fun b o _ ⟨n, r, hn, hr, hf⟩ => ⟨n, r, by simp [hn], hr, hf⟩, fun m hm r hr => h.out m (fun hf => hm (by simp [hf])) r hr, fun m hm => ?_, fun b o hb hf => ?_, fun m r hr => ?_⟩
  · simp only [List.mem_append] at hm ⊢
    rcases hm with (hm | hm) | hm
    · exact .inl (.inl (.inl hm))
    · rcases h.new m hm with h1 | h1
      · exact .inl (.inl (.inr h1))
      · exact .inr h1
    · exact .inl (.inr hm)
  · obtain ⟨n, r, hn, hr, hf⟩ := hf
    by_cases hAB : n ∈ A ++ B
    · obtain ⟨h1, q, hq⟩ := hA n hAB
      obtain ⟨h2, h3⟩ := h.out n h1 q hq
      rw [h2] at hr
      cases hr
      rw [h3] at hf
      exact ⟨n, r, by simp only [List.mem_append] at hAB ⊢; rcases hAB with h | h <;> simp [h], hq, hf⟩
    · have : n ∈ F' := by
        simp only [List.mem_append] at hn hAB
        rcases hn with (hn | hn) | hn
        · exact absurd (.inl hn) hAB
        · exact hn
        · exact absurd (.inr hn) hAB
      obtain ⟨m, q, hm, hq, hfm⟩ := h.fp b o hb ⟨n, r, this, hr, hf⟩
      exact ⟨m, q, by simp [hm], hq, hfm⟩
  · rcases h.only m r hr with h1 | ⟨h1, h2, h3⟩
    · exact .inl (by simp [h1])
    · by_cases hAB : m ∈ A ++ B
      · exact .inl (by simp only [List.mem_append] at hAB ⊢; rcases hAB with h | h <;> simp [h])
      · exact .inr ⟨by simp only [List.mem_append, not_or] at hAB ⊢; exact ⟨⟨hAB.1, h1⟩, hAB.2⟩, h2, h3⟩

/-- THE STEP, made: the nodes of F become those of F', each one laid anew; what they take lay in F's cells, or is new. -/
theorem Step.mk' {T : Ty} {E : Enc α} {w w' : World} {H H' : Store α} {L L' : Nat → Lay} {F F' : List Nat} (hm : Mem T E w H L)
    (hk : Keep (FP T H L F) w w')
    (hout : ∀ m, m ∉ F → m ∉ F' → H' m = H m ∧ L' m = L m)
    (hold : ∀ m, m ∈ F' → m ∉ F → H m = none)
    (hgone : ∀ m, m ∈ F → m ∉ F' → H' m = none)
    (hnew : ∀ m, m ∈ F' → m ∈ F ∨ w.heap.size ≤ m)
    (hin : ∀ m r, m ∈ F' → H' m = some r → NodeAt T E w' m r (L' m))
    (hfp : ∀ m r b o, m ∈ F' → H' m = some r → b < w.heap.size → Wb.fp T m r (L' m) b o → FP T H L F b o)
    (hsep : ∀ n m r q, n ∈ F' → m ∈ F' → n ≠ m → H' n = some r → H' m = some q → ∀ b o, Wb.fp T n r (L' n) b o → Wb.fp T m q (L' m) b o → False) :
    Step T E w H L F w' H' L' F' := by
  have old : ∀ m r, m ∉ F' → H' m = some r → m ∉ F ∧ H m = some r ∧ L' m = L m := fun m r hmF hr => by
    have h1 : m ∉ F := fun h => by rw [hgone m h hmF] at hr; cases hr
    obtain ⟨h2, h3⟩ := hout m h1 hmF
    exact ⟨h1, h2 ▸ hr, h3⟩
  have cross : ∀ n m r q, n ∈ F' → m ∉ F' → H' n = some r → H' m = some q → ∀ b o, Wb.fp T n r (L' n) b o → Wb.fp T m q (L' m) b o → False := fun n m r q hn hmF hr hq b o hf1 hf2 => by
    obtain ⟨h1, h2, h3⟩ := old m q hmF hq
    rw [h3] at hf2
    have hb : b < w.heap.size := (hm.at_ m q h2).lt hf2
    obtain ⟨k, x, hkF, hx, hfx⟩ := hfp n r b o hn hr hb hf1
    exact hm.sep k m x q (fun e => h1 (e ▸ hkF)) hx h2 b o hfx hf2
  refine ⟨⟨fun n r hr => ?_, fun n m r q hne hr hq b o hf1 hf2 => ?_⟩, hk, fun m hmF r hr => ?_, hnew, fun b o hb ⟨n, r, hn, hr, hf⟩ => hfp n r b o hn hr hb hf, fun m r hr => (Classical.em (m ∈ F')).imp id fun h => old m r h hr⟩
  · by_cases hn : n ∈ F'
    · exact hin n r hn hr
    · obtain ⟨h1, h2, h3⟩ := old n r hn hr
      rw [h3]
      refine (hm.at_ n r h2).keep hk fun b o hf ⟨k, x, hkF, hx, hfx⟩ => ?_
      exact hm.sep k n x r (fun e => h1 (e ▸ hkF)) hx h2 b o hfx hf
  · by_cases hn : n ∈ F' <;> by_cases hmF : m ∈ F'
    · exact hsep n m r q hn hmF hne hr hq b o hf1 hf2
    · exact cross n m r q hn hmF hr hq b o hf1 hf2
    · exact cross m n q r hmF hn hq hr b o hf2 hf1
    · obtain ⟨h1, h2, h3⟩ := old n r hn hr
      obtain ⟨h4, h5, h6⟩ := old m q hmF hq
      rw [h3] at hf1
      rw [h6] at hf2
      exact hm.sep n m r q hne h2 h5 b o hf1 hf2
  · by_cases h : m ∈ F'
    · rw [hold m h hmF] at hr; cases hr
    · obtain ⟨h1, h2⟩ := hout m hmF h
      exact ⟨h1.trans hr, h2⟩
end Go.Wb

namespace Go.Wb
variable {α : Type}

/-- A node: its items and its children (a leaf has none). -/
inductive Tr (α : Type) where
  | node (its : List α) (ks : List (Tr α))
def Tr.its : Tr α → List α | .node its _ => its
def Tr.ks : Tr α → List (Tr α) | .node _ ks => ks

/-- Children and items in turns: each child ahead of an item. -/
def wl : List (List α) → List α → List α
  | k :: ks, x :: its => k ++ x :: wl ks its
  | _, _ => []
/-- Items and children in turns: each child behind an item. -/
def wr : List α → List (List α) → List α
  | x :: its, k :: ks => x :: k ++ wr its ks
  | _, _ => []
def weave : List (List α) → List α → List α
  | k :: ks, its => k ++ wr its ks
  | [], its => its

theorem weave_cons (k : List α) (ks : List (List α)) (its : List α) : weave (k :: ks) its = k ++ wr its ks := rfl

theorem wl_wr : ∀ (K1 : List (List α)) (I1 : List α) (k : List α) (I2 : List α) (K2 : List (List α)), K1.length = I1.length →
    weave (K1 ++ k :: K2) (I1 ++ I2) = wl K1 I1 ++ k ++ wr I2 K2
  | [], [], k, I2, K2, _ => by simp [weave, wl]
  | a :: K1, x :: I1, k, I2, K2, h => by
    have ih := wl_wr K1 I1 k I2 K2 (by simpa using h)
    simp only [List.cons_append, weave, wl]
    cases K1 with
    | nil =>
      cases I1 with
      | nil => simp [wr, wl]
      | cons _ _ => simp at h
    | cons b K1 =>
      simp only [List.cons_append, weave] at ih
      simp only [List.cons_append, wr, List.append_assoc]
      simp only [List.append_assoc] at ih
      rw [ih]
  | [], _ :: _, _, _, _, h => by simp at h
  | _ :: _, [], _, _, _, h => by simp at h

/-- The items of a tree of height h (a leaf's: 0), in order. -/
def flat : Nat → Tr α → List α
  | 0, t => t.its
  | h + 1, t => weave (t.ks.map (flat h)) t.its

/-- Sizes: the node has from l to mx items, those below it from mn to mx; a node with children has one more than items. -/
def wfr (l mn mx : Nat) : Nat → Tr α → Prop
  | 0, t => l ≤ t.its.length ∧ t.its.length ≤ mx ∧ t.ks = []
  | h + 1, t => l ≤ t.its.length ∧ t.its.length ≤ mx ∧ t.ks.length = t.its.length + 1 ∧ ∀ k ∈ t.ks, wfr mn mn mx h k

theorem wfr.own_le {l mn mx h : Nat} {t : Tr α} (hw : wfr l mn mx h t) : l ≤ t.its.length ∧ t.its.length ≤ mx := by
  cases h with
  | zero => exact ⟨hw.1, hw.2.1⟩
  | succ h => exact ⟨hw.1, hw.2.1⟩

theorem wfr.weaken {l l' mn mx h : Nat} {t : Tr α} (hw : wfr l mn mx h t) (hl : l' ≤ t.its.length) : wfr l' mn mx h t := by
  cases h with
  | zero => exact ⟨hl, hw.2⟩
  | succ h => exact ⟨hl, hw.2⟩

/-- A strict weak order. -/
structure Ord (lt : α → α → Bool) : Prop where
  irr : ∀ a, lt a a = false
  tr : ∀ a b c, lt a b = true → lt b c = true → lt a c = true
  co : ∀ a b c, lt a c = true → lt a b = true ∨ lt b c = true

variable {lt : α → α → Bool}

def Sorted (lt : α → α → Bool) (l : List α) : Prop := l.Pairwise fun a b => lt a b = true

theorem Ord.asymm (o : Ord lt) {a b : α} (h : lt a b = true) : lt b a = false := by
  cases h' : lt b a with
  | false => rfl
  | true => have := o.tr _ _ _ h h'; rw [o.irr] at this; cases this

/-- The place of x among sorted items. -/
def Place (lt : α → α → Bool) (its : List α) (x : α) (i : Nat) : Bool → Prop
  | true => ∃ I1 p I2, its = I1 ++ p :: I2 ∧ I1.length = i ∧ lt p x = false ∧ lt x p = false ∧ (∀ a ∈ I1, lt a x = true) ∧ ∀ b ∈ I2, lt x b = true
  | false => ∃ I1 I2, its = I1 ++ I2 ∧ I1.length = i ∧ (∀ a ∈ I1, lt a x = true) ∧ ∀ b ∈ I2, lt x b = true

/-- x is put into a sorted list: what it replaces. -/
def Put (lt : α → α → Bool) (l : List α) (x : α) (l' : List α) : Option α → Prop
  | none => ∃ A B, l = A ++ B ∧ l' = A ++ x :: B ∧ (∀ a ∈ A, lt a x = true) ∧ ∀ b ∈ B, lt x b = true
  | some p => ∃ A B, l = A ++ p :: B ∧ l' = A ++ x :: B ∧ lt p x = false ∧ lt x p = false ∧ (∀ a ∈ A, lt a x = true) ∧ ∀ b ∈ B, lt x b = true

theorem Put.frame {l l' : List α} {x : α} {p : Option α} (h : Put lt l x l' p) (C D : List α) (hC : ∀ a ∈ C, lt a x = true) (hD : ∀ b ∈ D, lt x b = true) : Put lt (C ++ l ++ D) x (C ++ l' ++ D) p := by
  cases p with
  | none =>
    obtain ⟨A, B, rfl, rfl, hA, hB⟩ := h
    refine ⟨C ++ A, B ++ D, by simp, by simp, ?_, ?_⟩
    · intro a ha; exact (List.mem_append.1 ha).elim (hC a) (hA a)
    · intro b hb; exact (List.mem_append.1 hb).elim (hB b) (hD b)
  | some p =>
    obtain ⟨A, B, rfl, rfl, h1, h2, hA, hB⟩ := h
    refine ⟨C ++ A, B ++ D, by simp, by simp, h1, h2, ?_, ?_⟩
    · intro a ha; exact (List.mem_append.1 ha).elim (hC a) (hA a)
    · intro b hb; exact (List.mem_append.1 hb).elim (hB b) (hD b)

theorem Sorted.of_append {A B : List α} (h : Sorted lt (A ++ B)) : Sorted lt A ∧ Sorted lt B ∧ ∀ a ∈ A, ∀ b ∈ B, lt a b = true :=
  List.pairwise_append.1 h

theorem mem_wl_lt (o : Ord lt) {x : α} : ∀ (K : List (List α)) (I : List α), K.length = I.length → Sorted lt (wl K I) → (∀ a ∈ I, lt a x = true) → ∀ a ∈ wl K I, lt a x = true
  | [], [], _, _, _, a, ha => by simp [wl] at ha
  | k :: K, y :: I, hl, hs, hI, a, ha => by
    simp only [wl] at hs ha
    obtain ⟨h1, h2, h3⟩ := hs.of_append
    rcases List.mem_append.1 ha with h | h
    · exact o.tr _ y _ (h3 a h y (by simp)) (hI y (by simp))
    · rcases List.mem_cons.1 h with rfl | h
      · exact hI _ (by simp)
      · exact mem_wl_lt o K I (by simpa using hl) (List.pairwise_cons.1 h2).2 (fun b hb => hI b (by simp [hb])) a h
  | [], _ :: _, h, _, _, _, _ => by simp at h
  | _ :: _, [], h, _, _, _, _ => by simp at h

theorem mem_wr_lt (o : Ord lt) {x : α} : ∀ (I : List α) (K : List (List α)), K.length = I.length → Sorted lt (wr I K) → (∀ a ∈ I, lt x a = true) → ∀ a ∈ wr I K, lt x a = true
  | [], [], _, _, _, a, ha => by simp [wr] at ha
  | y :: I, k :: K, hl, hs, hI, a, ha => by
    simp only [wr, List.cons_append] at hs ha
    have h1 := List.pairwise_cons.1 hs
    obtain ⟨h2, h3, h4⟩ := Sorted.of_append h1.2
    rcases List.mem_cons.1 ha with rfl | h
    · exact hI _ (by simp)
    · rcases List.mem_append.1 h with h | h
      · exact o.tr _ y _ (hI y (by simp)) (h1.1 a (by simp [h]))
      · exact mem_wr_lt o I K (by simpa using hl) h3 (fun b hb => hI b (by simp [hb])) a h
  | _ :: _, [], h, _, _, _, _ => by simp at h
  | [], _ :: _, h, _, _, _, _ => by simp at h

theorem Sorted.mid {A B C : List α} (h : Sorted lt (A ++ B ++ C)) : Sorted lt B := (Sorted.of_append (Sorted.of_append h).1).2.1
theorem Sorted.left {A B C : List α} (h : Sorted lt (A ++ B ++ C)) : Sorted lt A := (Sorted.of_append (Sorted.of_append h).1).1
theorem Sorted.right {A B C : List α} (h : Sorted lt (A ++ B ++ C)) : Sorted lt C := (Sorted.of_append h).2.1

/-- Own items are sorted where all are. -/
theorem sub_wr : ∀ (I : List α) (K : List (List α)), K.length = I.length → List.Sublist I (wr I K)
  | [], [], _ => List.Sublist.slnil
  | y :: I, k :: K, hl => by
    simp only [wr, List.cons_append]
    exact ((sub_wr I K (by simpa using hl)).trans (List.sublist_append_right k _)).cons_cons y
  | _ :: _, [], h => by simp at h
  | [], _ :: _, h => by simp at h
theorem own_sub {l mn mx : Nat} {h : Nat} {t : Tr α} (hw : wfr l mn mx h t) : List.Sublist t.its (flat h t) := by
  cases h with
  | zero => exact List.Sublist.refl _
  | succ h =>
    obtain ⟨its, ks⟩ := t
    have h1 : ks.length = its.length + 1 := hw.2.2.1
    cases ks with
    | nil => simp at h1
    | cons k ks =>
      simp only [flat, Tr.its, Tr.ks, List.map_cons, weave]
      exact (sub_wr its (ks.map (flat h)) (by simpa using h1)).trans (List.sublist_append_right _ _)
theorem own_sorted {l mn mx h : Nat} {t : Tr α} (hw : wfr l mn mx h t) (hs : Sorted lt (flat h t)) : Sorted lt t.its :=
  List.Pairwise.sublist (own_sub hw) hs

theorem split_at {β : Type} (l : List β) (i : Nat) (h : i < l.length) : ∃ A b B, l = A ++ b :: B ∧ A.length = i ∧ l[i]? = some b :=
  ⟨l.take i, l[i], l.drop (i + 1), by simp, by simp; omega, by simp [h]⟩

/-- A child below which x belongs: what is around it. -/
theorem flat_around (o : Ord lt) {h : Nat} {I1 I2 : List α} {K1 K2 : List (Tr α)} {k : Tr α} {x : α} (h1 : K1.length = I1.length) (h2 : K2.length = I2.length)
    (hs : Sorted lt (flat (h + 1) (.node (I1 ++ I2) (K1 ++ k :: K2)))) (hI1 : ∀ a ∈ I1, lt a x = true) (hI2 : ∀ b ∈ I2, lt x b = true) :
    ∃ C D, (∀ k' : Tr α, flat (h + 1) (.node (I1 ++ I2) (K1 ++ k' :: K2)) = C ++ flat h k' ++ D) ∧ (∀ a ∈ C, lt a x = true) ∧ ∀ b ∈ D, lt x b = true := by
  have e : ∀ k' : Tr α, flat (h + 1) (.node (I1 ++ I2) (K1 ++ k' :: K2)) = wl (K1.map (flat h)) I1 ++ flat h k' ++ wr I2 (K2.map (flat h)) := fun k' => by
    simp only [flat, Tr.its, Tr.ks, List.map_append, List.map_cons]
    exact wl_wr _ _ _ _ _ (by simpa using h1)
  rw [e] at hs
  exact ⟨_, _, e, mem_wl_lt o _ _ (by simpa using h1) hs.left hI1, mem_wr_lt o _ _ (by simpa using h2) hs.right hI2⟩

/-- A split child, its middle item put in between: the same items. -/
theorem flat_split {h : Nat} {I1 I2 : List α} {K1 K2 : List (Tr α)} {k a b : Tr α} {m : α} (h1 : K1.length = I1.length) (hk : flat h k = flat h a ++ m :: flat h b) :
    flat (h + 1) (.node (I1 ++ m :: I2) (K1 ++ a :: b :: K2)) = flat (h + 1) (.node (I1 ++ I2) (K1 ++ k :: K2)) := by
  simp only [flat, Tr.its, Tr.ks, List.map_append, List.map_cons]
  rw [wl_wr _ _ _ _ _ (by simpa using h1), wl_wr _ _ _ _ _ (by simpa using h1), hk]
  simp [wr]

/-- A node in two. -/
def cutL (i : Nat) (t : Tr α) : Tr α := .node (t.its.take i) (t.ks.take (i + 1))
def cutR (i : Nat) (t : Tr α) : Tr α := .node (t.its.drop (i + 1)) (t.ks.drop (i + 1))

theorem flat_cut {l mn mx h : Nat} {t : Tr α} (hw : wfr l mn mx h t) {i : Nat} {m : α} (hi : t.its[i]? = some m) : flat h t = flat h (cutL i t) ++ m :: flat h (cutR i t) := by
  obtain ⟨its, ks⟩ := t
  simp only [Tr.its] at hi
  obtain ⟨hlt, rfl⟩ := List.getElem?_eq_some_iff.1 hi
  cases h with
  | zero =>
    simp [flat, cutL, cutR, Tr.its]
  | succ h =>
    have hk : ks.length = its.length + 1 := hw.2.2.1
    obtain ⟨A, b, B, e, hA, _⟩ := split_at its i hlt
    obtain ⟨K1, k, K2, e2, hK1, _⟩ := split_at ks i (by omega)
    have hK2 : K2.length = B.length + 1 := by rw [e, e2, List.length_append, List.length_append, List.length_cons, List.length_cons] at hk; omega
    cases K2 with
    | nil => simp at hK2
    | cons k' K2 =>
      subst e
      subst e2
      subst hA
      simp only [flat, cutL, cutR, Tr.its, Tr.ks, List.map_append, List.map_cons]
      have t1 : (A ++ b :: B).take A.length = A := by simp
      have t2 : (A ++ b :: B).drop (A.length + 1) = B := by simp
      have t3 : (K1 ++ k :: k' :: K2).take (A.length + 1) = K1 ++ [k] := by rw [← hK1, List.take_length_add_append]; rfl
      have t4 : (K1 ++ k :: k' :: K2).drop (A.length + 1) = k' :: K2 := by rw [← hK1, List.drop_length_add_append]; rfl
      rw [t1, t2, t3, t4, wl_wr _ _ _ _ _ (by simpa using hK1), List.map_append, List.map_cons, List.map_nil]
      have := wl_wr (K1.map (flat h)) A (flat h k) [] [] (by simpa using hK1)
      simp only [List.append_nil] at this
      rw [this]
      simp [wr, weave]

theorem cut_wf {l mn mx h : Nat} {t : Tr α} (hw : wfr l mn mx h t) {i l1 l2 : Nat} (hi : i < t.its.length) (h1 : l1 ≤ i) (h2 : l2 + i + 1 ≤ t.its.length) :
    wfr l1 mn mx h (cutL i t) ∧ wfr l2 mn mx h (cutR i t) := by
  have hmx := hw.own_le.2
  obtain ⟨its, ks⟩ := t
  simp only [Tr.its] at hi h2 hmx
  cases h with
  | zero =>
    have hk : ks = [] := hw.2.2
    subst hk
    simp only [wfr, cutL, cutR, Tr.its, Tr.ks, List.length_take, List.length_drop, List.take_nil, List.drop_nil, and_true]
    omega
  | succ h =>
    obtain ⟨w1, w2, w3, w4⟩ := hw
    simp only [Tr.its, Tr.ks] at w1 w2 w3 w4
    simp only [wfr, cutL, cutR, Tr.its, Tr.ks, List.length_take, List.length_drop]
    refine ⟨⟨by omega, by omega, by omega, fun k hk => w4 k (List.mem_of_mem_take hk)⟩, by omega, by omega, by omega, fun k hk => w4 k (List.mem_of_mem_drop hk)⟩
end Go.Wb

namespace Go.Wb
open Go Go.RowKit
variable {α : Type}

def RepL (R : Nat → Tr α → List Nat → Prop) : List Nat → List (Tr α) → List Nat → Prop
  | [], [], F => F = []
  | n :: ns, t :: ts, F => ∃ F1 F2, R n t F1 ∧ RepL R ns ts F2 ∧ F = F1 ++ F2
  | _, _, _ => False

/-- Node n of H is the root of the tree t of height h; its nodes are F; all are of the family c; the counts are right. -/
def Rep (H : Store α) (c : Int) : Nat → Nat → Tr α → List Nat → Prop
  | 0, n, t, F => ∃ r, H n = some r ∧ r.iso = c ∧ r.items = t.its ∧ t.ks = [] ∧ r.kids = none ∧ r.cnt = ((flat 0 t).length : Int) ∧ F = [n]
  | h + 1, n, t, F => ∃ r ns F', H n = some r ∧ r.iso = c ∧ r.items = t.its ∧ r.kids = some ns ∧ r.cnt = ((flat (h + 1) t).length : Int) ∧ RepL (Rep H c h) ns t.ks F' ∧ F = n :: F'

theorem RepL.len {R : Nat → Tr α → List Nat → Prop} : ∀ {ns : List Nat} {ts : List (Tr α)} {F : List Nat}, RepL R ns ts F → ns.length = ts.length
  | [], [], _, _ => rfl
  | n :: ns, t :: ts, F, h => by
    obtain ⟨F1, F2, _, h2, _⟩ := h
    simp [h2.len]
  | [], _ :: _, _, h => h.elim
  | _ :: _, [], _, h => h.elim

theorem RepL.split {R : Nat → Tr α → List Nat → Prop} {k : Tr α} {K2 : List (Tr α)} : ∀ {K1 : List (Tr α)} {ns : List Nat} {F : List Nat}, RepL R ns (K1 ++ k :: K2) F →
    ∃ N1 n N2 F1 Fk F2, ns = N1 ++ n :: N2 ∧ N1.length = K1.length ∧ N2.length = K2.length ∧ RepL R N1 K1 F1 ∧ R n k Fk ∧ RepL R N2 K2 F2 ∧ F = F1 ++ Fk ++ F2
  | [], n :: ns, F, h => by
    obtain ⟨F1, F2, h1, h2, rfl⟩ := h
    exact ⟨[], n, ns, [], F1, F2, rfl, rfl, h2.len, rfl, h1, h2, by simp⟩
  | t :: K1, n :: ns, F, h => by
    obtain ⟨G, G2, h1, h2, rfl⟩ := h
    obtain ⟨N1, m, N2, F1, Fk, F2, rfl, e1, e2, r1, r2, r3, rfl⟩ := RepL.split h2
    exact ⟨n :: N1, m, N2, G ++ F1, Fk, F2, rfl, by simp [e1], e2, ⟨G, F1, h1, r1, rfl⟩, r2, r3, by simp⟩
  | [], [], _, h => h.elim
  | _ :: _, [], _, h => h.elim

theorem RepL.join {R : Nat → Tr α → List Nat → Prop} {K2 : List (Tr α)} {N2 : List Nat} {F2 : List Nat} (h2 : RepL R N2 K2 F2) : ∀ {K1 : List (Tr α)} {N1 : List Nat} {F1 : List Nat}, RepL R N1 K1 F1 → RepL R (N1 ++ N2) (K1 ++ K2) (F1 ++ F2)
  | [], [], F1, h => by obtain rfl : F1 = [] := h; exact h2
  | t :: K1, n :: N1, F1, h => by
    obtain ⟨G, G2, r1, r2, rfl⟩ := h
    exact ⟨G, G2 ++ F2, r1, RepL.join h2 r2, by simp⟩
  | [], _ :: _, _, h => h.elim
  | _ :: _, [], _, h => h.elim

theorem RepL.one {R : Nat → Tr α → List Nat → Prop} {k : Tr α} {n : Nat} {F : List Nat} (h : R n k F) : RepL R [n] [k] F := ⟨F, [], h, rfl, by simp⟩

theorem RepL.imp {R R' : Nat → Tr α → List Nat → Prop} : ∀ {ns : List Nat} {ts : List (Tr α)} {F : List Nat}, RepL R ns ts F → (∀ n t G, (∀ m, m ∈ G → m ∈ F) → R n t G → R' n t G) → RepL R' ns ts F
  | [], [], _, h, _ => h
  | n :: ns, t :: ts, F, h, hi => by
    obtain ⟨F1, F2, h1, h2, rfl⟩ := h
    exact ⟨F1, F2, hi n t F1 (fun m hm => by simp [hm]) h1, h2.imp fun n t G hG hr => hi n t G (fun m hm => by simp [hG m hm]) hr, rfl⟩
  | [], _ :: _, _, h, _ => h.elim
  | _ :: _, [], _, h, _ => h.elim

/-- What isn't among the tree's nodes may turn. -/
theorem Rep.congr {H H' : Store α} {c : Int} : ∀ {h n : Nat} {t : Tr α} {F : List Nat}, Rep H c h n t F → (∀ m, m ∈ F → H' m = H m) → Rep H' c h n t F
  | 0, n, t, F, hr, hh => by
    obtain ⟨r, h1, h2, h3, h4, h5, h6, rfl⟩ := hr
    exact ⟨r, (hh n (by simp)).trans h1, h2, h3, h4, h5, h6, rfl⟩
  | h + 1, n, t, F, hr, hh => by
    obtain ⟨r, ns, F', h1, h2, h3, h4, h5, h6, rfl⟩ := hr
    exact ⟨r, ns, F', (hh n (by simp)).trans h1, h2, h3, h4, h5, h6.imp fun n t G hG hR => hR.congr fun m hm => hh m (by simp [hG m hm]), rfl⟩

theorem RepL.dom {H : Store α} {R : Nat → Tr α → List Nat → Prop} (hR : ∀ n t F, R n t F → ∀ m, m ∈ F → ∃ r, H m = some r) : ∀ {ns : List Nat} {ts : List (Tr α)} {F : List Nat}, RepL R ns ts F → ∀ m, m ∈ F → ∃ r, H m = some r
  | [], [], F, h, m, hm => by obtain rfl : F = [] := h; cases hm
  | n :: ns, t :: ts, F, h, m, hm => by
    obtain ⟨F1, F2, h1, h2, rfl⟩ := h
    rcases List.mem_append.1 hm with hm | hm
    · exact hR n t F1 h1 m hm
    · exact RepL.dom hR h2 m hm
  | [], _ :: _, _, h, _, _ => h.elim
  | _ :: _, [], _, h, _, _ => h.elim

theorem Rep.dom {H : Store α} {c : Int} : ∀ {h n : Nat} {t : Tr α} {F : List Nat}, Rep H c h n t F → ∀ m, m ∈ F → ∃ r, H m = some r
  | 0, n, t, F, hr, m, hm => by
    obtain ⟨r, h1, _, _, _, _, _, rfl⟩ := hr
    rw [List.mem_singleton] at hm
    subst hm
    exact ⟨r, h1⟩
  | h + 1, n, t, F, hr, m, hm => by
    obtain ⟨r, ns, F', h1, _, _, _, _, h6, rfl⟩ := hr
    rcases List.mem_cons.1 hm with rfl | hm
    · exact ⟨r, h1⟩
    · exact RepL.dom (fun n t F h => Rep.dom h) h6 m hm

theorem Rep.root {H : Store α} {c : Int} {h n : Nat} {t : Tr α} {F : List Nat} (hr : Rep H c h n t F) : n ∈ F ∧ ∃ r, H n = some r ∧ r.iso = c ∧ r.items = t.its ∧ r.cnt = ((flat h t).length : Int) := by
  cases h with
  | zero => obtain ⟨r, h1, h2, h3, h4, h5, h6, rfl⟩ := hr; exact ⟨by simp, r, h1, h2, h3, h6⟩
  | succ h => obtain ⟨r, ns, F', h1, h2, h3, h4, h5, h6, rfl⟩ := hr; exact ⟨by simp, r, h1, h2, h3, h5⟩

theorem Mem.lt {T : Ty} {E : Enc α} {w : World} {H : Store α} {L : Nat → Lay} (hm : Mem T E w H L) {n : Nat} {r : NRec α} (h : H n = some r) : n < w.heap.size := lt_of_heap (hm.at_ n r h).1

def upd {β : Type} (f : Nat → β) (n : Nat) (x : β) : Nat → β := fun m => if m = n then x else f m
@[simp] theorem upd_same {β : Type} (f : Nat → β) (n : Nat) (x : β) : upd f n x n = x := by simp [upd]
theorem upd_ne {β : Type} (f : Nat → β) {n m : Nat} (x : β) (h : m ≠ n) : upd f n x m = f m := by simp [upd, h]

/-- One node is laid anew, in its own cells and new ones. -/
theorem Step.one {T : Ty} {E : Enc α} {w w' : World} {H : Store α} {L : Nat → Lay} (hm : Mem T E w H L) {n : Nat} {r r' : NRec α} {l' : Lay} (hn : H n = some r)
    (hk : Keep (Wb.fp T n r (L n)) w w') (hat : NodeAt T E w' n r' l') (hfp : ∀ b o, b < w.heap.size → Wb.fp T n r' l' b o → Wb.fp T n r (L n) b o) :
    Step T E w H L [n] w' (upd H n (some r')) (upd L n l') [n] := by
  refine Step.mk' hm (hk.mono fun b o _ hf => ⟨n, r, by simp, hn, hf⟩) (fun m h1 _ => ?_) (fun m h1 h2 => absurd h1 h2) (fun m h1 h2 => absurd h1 h2) (fun m h => .inl h) (fun m q h hq => ?_) (fun m q b o h hq hb hf => ?_) (fun a b p q ha hb hne => ?_)
  · have : m ≠ n := by simpa using h1
    exact ⟨upd_ne _ _ this, upd_ne _ _ this⟩
  · obtain rfl : m = n := by simpa using h
    rw [upd_same] at hq ⊢
    cases hq
    exact hat
  · obtain rfl : m = n := by simpa using h
    rw [upd_same] at hq hf
    cases hq
    exact ⟨m, r, by simp, hn, hfp b o hb hf⟩
  · simp at ha hb
    exact absurd (ha.trans hb.symm) hne
end Go.Wb

namespace Go.Wb
open Go Go.RowKit

/-- What is asked of an element's type: s cells, b bytes, a zero of s cells. -/
def Elem (P : Program) (e : TypeId) (s b : Nat) : Prop :=
  (P.info? e).map (·.size) = some s ∧ (P.info? e).map (·.bytes) = some b ∧ ((P.info? e).bind (·.zero)).map (·.cells.size) = some s

theorem run_append_any {P : Program} (w : World) (t ty e : TypeId) (s b : Nat) (ht : P.underlying t = some (.slice e)) (he : Elem P e s b)
    (a : Option Addr) (n cap : Nat) (xs : List Value) (hrow : Row w e s a cap xs) (hn : xs.length = n * s)
    (ad : Addr) (m c : Nat) (news : List Value) (hl : news.length = m * s) (hnews : ∀ j u, news[j]? = some u → w.cell? (ad.add j) = some u) (h1 : ∀ u ∈ news, u.oneCell' = true)
    (hm : 0 < m) (hle : n ≤ cap) (h63 : n + m ≤ maxLen) (hbytes : (n + m) * b ≤ 140737488355328) :
    ∃ a' cap' w', (Builtin.append_ #[t, t] ty #[.slice a n cap, .slice (some ad) m c]).run P w = .ok (.slice a' (n + m) cap') w' ∧ Grew w w' e s a a' n m cap cap' (xs ++ news) := by
  obtain ⟨h2, h3, h4⟩ := he
  cases hi : P.info? e with
  | none => rw [hi] at h2; cases h2
  | some i =>
    rw [hi] at h2 h3 h4
    simp only [Option.map_some, Option.some.injEq, Option.bind_some] at h2 h3 h4
    subst h2
    subst h3
    cases hz : i.zero with
    | none => rw [hz] at h4; cases h4
    | some z =>
      rw [hz] at h4
      exact run_append_row w t ty e i z ht hi hz (by simpa using h4) a n cap xs hrow hn ad m c news hl hnews h1 hm hle h63 hbytes

theorem wp_append_any {P : Program} {w : World} {o : Oper} {a : Act} {K : Act → World → Prop} {Q : Exit → Act → World → Prop} (s x : Operand) (t : TypeId)
    (ho : o.op = .call { callee := .builtin .append, args := #[s, x], argTypes := #[t, t] })
    (e : TypeId) (sz b : Nat) (ht : P.underlying t = some (.slice e)) (he : Elem P e sz b)
    (aa : Option Addr) (n cap : Nat) (xs : List Value) (hs : a.eval s = .slice aa n cap) (hrow : Row w e sz aa cap xs) (hn : xs.length = n * sz)
    (ad : Addr) (m c : Nat) (news : List Value) (hx : a.eval x = .slice (some ad) m c) (hl : news.length = m * sz) (hnews : ∀ j u, news[j]? = some u → w.cell? (ad.add j) = some u) (h1 : ∀ u ∈ news, u.oneCell' = true)
    (hm : 0 < m) (hle : n ≤ cap) (h63 : n + m ≤ maxLen) (hbytes : (n + m) * b ≤ 140737488355328)
    (h : ∀ a' cap' w', Grew w w' e sz aa a' n m cap cap' (xs ++ news) → K (a.put o.dst (.slice a' (n + m) cap')) w') : o.wp P a w K Q := by
  obtain ⟨a', cap', w', hr, hg⟩ := run_append_any (P := P) w t o.type e sz b ht he aa n cap xs hrow hn ad m c news hl hnews h1 hm hle h63 hbytes
  unfold Oper.wp execOp
  simp only [ho, resolve, invoke, builtin, Sem.run_bind, Sem.run_pure, Result.andThen_ok, List.map_toArray, List.map_cons, List.map_nil, hs, hx, hr]
  exact h a' cap' w' hg

theorem step_append_any {P : Program} {w : World} {ops : Array Oper} {o : Oper} {a : Act} {K : Act → World → Prop} {Q : Exit → Act → World → Prop} {E : Prop} (hgd : o.guard = none) (s x : Operand) (t : TypeId)
    (ho : o.op = .call { callee := .builtin .append, args := #[s, x], argTypes := #[t, t] })
    (e : TypeId) (sz b : Nat) (ht : P.underlying t = some (.slice e)) (he : Elem P e sz b)
    (aa : Option Addr) (n cap : Nat) (xs : List Value) (hs : a.eval s = .slice aa n cap) (hrow : Row w e sz aa cap xs) (hn : xs.length = n * sz)
    (ad : Addr) (m c : Nat) (news : List Value) (hx : a.eval x = .slice (some ad) m c) (hl : news.length = m * sz) (hnews : ∀ j u, news[j]? = some u → w.cell? (ad.add j) = some u) (h1 : ∀ u ∈ news, u.oneCell' = true)
    (hm : 0 < m) (hle : n ≤ cap) (h63 : n + m ≤ maxLen) (hbytes : (n + m) * b ≤ 140737488355328)
    (h : ∀ a' cap' w', Grew w w' e sz aa a' n m cap cap' (xs ++ news) → K (a.put o.dst (.slice a' (n + m) cap')) w') :
    if Region.wanted o (yielded ops a.tmps) = true then Oper.wp P o a w K Q else E := by
  have hw : Region.wanted o (yielded ops a.tmps) = true := by simp [Region.wanted, hgd]
  rw [if_pos hw]
  exact wp_append_any s x t ho e sz b ht he aa n cap xs hs hrow hn ad m c news hx hl hnews h1 hm hle h63 hbytes h

theorem wpList_append_any {P : Program} {w : World} {ops : Array Oper} {rest : List Oper} {o : Oper} {a : Act} {Q : Exit → Act → World → Prop} (hgd : o.guard = none) (s x : Operand) (t : TypeId)
    (ho : o.op = .call { callee := .builtin .append, args := #[s, x], argTypes := #[t, t] })
    (e : TypeId) (sz b : Nat) (ht : P.underlying t = some (.slice e)) (he : Elem P e sz b)
    (aa : Option Addr) (n cap : Nat) (xs : List Value) (hs : a.eval s = .slice aa n cap) (hrow : Row w e sz aa cap xs) (hn : xs.length = n * sz)
    (ad : Addr) (m c : Nat) (news : List Value) (hx : a.eval x = .slice (some ad) m c) (hl : news.length = m * sz) (hnews : ∀ j u, news[j]? = some u → w.cell? (ad.add j) = some u) (h1 : ∀ u ∈ news, u.oneCell' = true)
    (hm : 0 < m) (hle : n ≤ cap) (h63 : n + m ≤ maxLen) (hbytes : (n + m) * b ≤ 140737488355328)
    (h : ∀ a' cap' w', Grew w w' e sz aa a' n m cap cap' (xs ++ news) → wpList P ops Q rest (a.put o.dst (.slice a' (n + m) cap')) w') : wpList P ops Q (o :: rest) a w :=
  wpList_plain hgd fun _ hK => wp_append_any s x t ho e sz b ht he aa n cap xs hs hrow hn ad m c news hx hl hnews h1 hm hle h63 hbytes fun a' cap' w' hg => hK _ _ (h a' cap' w' hg)
end Go.Wb

namespace Go.Wb
open Go

/-- A post that lets neither a panic nor an outgrown memory by. -/
structure Tame (Q : Exit → Act → World → Prop) : Prop where
  panic : ∀ c a w, ¬ Q (.panic c) a w
  out : ¬ LetsOut Q

/-- The post, but 'False' at a panic and where memory would be outgrown. -/
def CalmQ (Q : Exit → Act → World → Prop) : Exit → Act → World → Prop
  | .panic _, _, _ => False
  | .outgrown, _, _ => False
  | e, a, w => Q e a w
theorem CalmQ.tame (Q : Exit → Act → World → Prop) : Tame (CalmQ Q) := ⟨fun _ _ _ h => h, fun ⟨_, _, h⟩ => h⟩

section
variable {P : Program} {ops : Array Oper} {S : World → Prop} {kd : Nat → Bool} {z : Nat}

/-- Where it succeeds: a value, and the world as it was. -/
def Reads (P : Program) (s : Sem Next) : Prop := ∀ w x w', s.run P w = .ok x w' → w' = w ∧ ∃ v, x = .value v
/-- Where it succeeds: a value, whatever the world. -/
def Silent (P : Program) (s : Sem Next) : Prop := ∀ w x w', s.run P w = .ok x w' → ∃ v, x = .value v ∧ ∀ w2, s.run P w2 = .ok (.value v) w2

theorem Silent.reads {s : Sem Next} (h : Silent P s) : Reads P s := fun w x w' hr => by
  obtain ⟨v, rfl, h2⟩ := h w x w' hr
  rw [h2 w] at hr
  simp only [Result.ok.injEq] at hr
  exact ⟨hr.2.symm, v, rfl⟩

/-- A number, a string, a bool. -/
def num : Value → Prop
  | .int .. | .string _ | .bool _ => True
  | _ => False

/-- A number. -/
def isInt : Value → Prop
  | .int .. => True
  | _ => False

/-- The literal nil. -/
def nilLit : Operand → Bool
  | .const (.pointer none) | .const .nilIface | .const .nilFunc | .const (.slice none 0 0) => true
  | _ => false

/-- The frame's evaluation leaves a constant as it is. -/
def Plain (ρ : Operand → Value) : Prop := ∀ v, ρ (.const v) = v

/-- What is asked of the operands. -/
def Good (o : Oper) (ρ : Operand → Value) : Prop :=
  match o.op with
  | .binOp op _ x y _ => (nilLit y = true ∧ (op = .eql ∨ op = .neq)) ∨ (num (ρ x) ∧ num (ρ y))
  | .convert _ _ x => isInt (ρ x)
  | _ => True

/-- In the worlds that meet S it yields one value, and changes nothing. -/
def CalmAt (P : Program) (S : World → Prop) (o : Oper) (ρ : Operand → Value) : Prop :=
  ∀ w x w', S w → (execOp ρ o).run P w = .ok x w' → ∃ v, x = .value v ∧ ∀ w2, S w2 → (execOp ρ o).run P w2 = .ok (.value v) w2

theorem Silent.calm {o : Oper} {ρ : Operand → Value} (h : Silent P (execOp ρ o)) : CalmAt P S o ρ := fun w x w' _ hr => by
  obtain ⟨v, rfl, h2⟩ := h w x w' hr
  exact ⟨v, rfl, fun w2 _ => h2 w2⟩

/-- What is asked of the operation of number i: of its operands; and, where it is told as calm, that it is. -/
def Gd (P : Program) (S : World → Prop) (kd : Nat → Bool) (i : Nat) (o : Oper) (ρ : Operand → Value) : Prop :=
  Good o ρ ∧ (kd i = true → CalmAt P S o ρ)

/-- May stand on either side of the other: one of both is calm, or both only read. -/
def Comm (P : Program) (S : World → Prop) (kd : Nat → Bool) (i : Nat) (x : Oper) (j : Nat) (y : Oper) : Prop :=
  (∀ ρ, Plain ρ → Gd P S kd i x ρ → CalmAt P S x ρ) ∨ (∀ ρ, Plain ρ → Gd P S kd j y ρ → CalmAt P S y ρ) ∨ ((∀ ρ, Plain ρ → Good x ρ → Reads P (execOp ρ x)) ∧ ∀ ρ, Plain ρ → Good y ρ → Reads P (execOp ρ y))

theorem good_put {ops : Array Oper} (o : Oper) (a : Act) (dst : Option Tmp) (v : Value) (h : ∀ d, dst = some d → d ∉ o.looksAt ops) : Good o (a.put dst v).eval ↔ Good o a.eval := by
  have he : ∀ x ∈ o.op.operands, (a.put dst v).eval x = a.eval x := fun x hx => Act.eval_put fun d hd hxd => h d hd (by
    subst hxd
    exact List.mem_append_left _ (List.mem_filterMap.2 ⟨.tmp d, by simpa using hx, rfl⟩))
  obtain ⟨dst', op, type, pos, after, guard⟩ := o
  unfold Good
  cases op <;> simp only [Op.operands] at he <;> try exact Iff.rfl
  case binOp op t x y yt => simp only [he x (by simp), he y (by simp)]
  case convert s d x => simp only [he x (by simp)]

theorem gd_put {i : Nat} (o : Oper) (hs : ∀ cs b, o.op ≠ .select cs b) (a : Act) (dst : Option Tmp) (v : Value) (h : ∀ d, dst = some d → d ∉ o.looksAt ops) : Gd P S kd i o (a.put dst v).eval ↔ Gd P S kd i o a.eval := by
  unfold Gd CalmAt
  rw [execOp_put o hs a dst v h, good_put o a dst v h]

/-- The step of an operation whose operands are as asked; behind it S holds (but behind operation z). -/
def gOp (P : Program) (ops : Array Oper) (S : World → Prop) (kd : Nat → Bool) (z : Nat) (Q : Exit → Act → World → Prop) (i : Nat) (K : Act → World → Prop) (a : Act) (w : World) : Prop :=
  wpOp P ops Q i (fun a' w' => (i ≠ z → S w') ∧ K a' w') a w ∧ ∀ o, ops[i]? = some o → Region.wanted o (yielded ops a.tmps) = true → Gd P S kd i o a.eval
def gOps (P : Program) (ops : Array Oper) (S : World → Prop) (kd : Nat → Bool) (z : Nat) (Q : Exit → Act → World → Prop) : List Nat → Act → World → Prop
  | [], a, w => Q .normal a w
  | i :: rest, a, w => gOp P ops S kd z Q i (gOps P ops S kd z Q rest) a w

variable {Q : Exit → Act → World → Prop}

theorem gOp_mono {i : Nat} {a : Act} {w : World} {K K' : Act → World → Prop} (h : ∀ a w, (i ≠ z → S w) → K a w → K' a w) (hh : gOp P ops S kd z Q i K a w) : gOp P ops S kd z Q i K' a w :=
  ⟨wpOp_mono (fun a w hk => ⟨hk.1, h a w hk.1 hk.2⟩) hh.1, hh.2⟩

/-- What a calm operation yields. -/
def YieldsG (P : Program) (ops : Array Oper) (S : World → Prop) (kd : Nat → Bool) (i : Nat) (o : Oper) (v : Value) (a : Act) : Prop :=
  ((Region.wanted o (yielded ops a.tmps) = true ∧ ∀ w, S w → (execOp a.eval o).run P w = .ok (.value v) w) ∨ (Region.wanted o (yielded ops a.tmps) = false ∧ v = undef)) ∧
  (Region.wanted o (yielded ops a.tmps) = true → Gd P S kd i o a.eval)

theorem YieldsG.of_put {i : Nat} {o : Oper} {v : Value} {a : Act} {dst : Option Tmp} {u : Value} (hs : ∀ cs b, o.op ≠ .select cs b) (h : ∀ d, dst = some d → d ∉ o.looksAt ops) :
    YieldsG P ops S kd i o v (a.put dst u) ↔ YieldsG P ops S kd i o v a := by
  unfold YieldsG
  rw [execOp_put o hs a dst u h, wanted_put o a dst u h, gd_put o hs a dst u h]

theorem YieldsG.gOp {i : Nat} {o : Oper} {v : Value} {a : Act} (hi : ops[i]? = some o) (hy : YieldsG P ops S kd i o v a) {K : Act → World → Prop} {w : World} (hS : S w) (h : K (a.put o.dst v) w) : gOp P ops S kd z Q i K a w := by
  refine ⟨?_, fun o' ho' hw => by rw [hi] at ho'; cases ho'; exact hy.2 hw⟩
  unfold wpOp
  simp only [hi]
  rcases hy.1 with ⟨hw, hr⟩ | ⟨hw, rfl⟩
  · simp only [hw, if_true]
    refine .inl ?_
    unfold Oper.wp
    rw [hr w hS]
    exact ⟨fun _ => hS, h⟩
  · simp only [hw, Bool.false_eq_true, if_false]
    exact ⟨fun _ => hS, h⟩

theorem calm_yields (hQ : Tame Q) {i : Nat} {o : Oper} (hs : ∀ ρ, Plain ρ → Gd P S kd i o ρ → CalmAt P S o ρ) (hi : ops[i]? = some o) {a : Act} {w : World} {K : Act → World → Prop} (hS : S w)
    (h : gOp P ops S kd z Q i K a w) : ∃ v, YieldsG P ops S kd i o v a ∧ K (a.put o.dst v) w := by
  obtain ⟨h, hg⟩ := h
  unfold wpOp at h
  simp only [hi] at h
  split at h
  · rename_i hw
    have hgood := hg o hi hw
    rcases h with h | ⟨_, h⟩
    · unfold Oper.wp at h
      cases hr : (execOp a.eval o).run P w with
      | ok x w' =>
        obtain ⟨v, rfl, h2⟩ := hs a.eval (fun _ => rfl) hgood w x w' hS hr
        have h3 := h2 w hS
        rw [hr] at h3
        simp only [Result.ok.injEq, true_and] at h3
        subst h3
        rw [hr] at h
        exact ⟨v, ⟨.inl ⟨hw, h2⟩, fun _ => hgood⟩, h.2⟩
      | halt x w' =>
        rw [hr] at h
        cases x <;> simp only [Oper.upon] at h
        exact (hQ.panic _ _ _ h).elim
    · exact (hQ.out h).elim
  · rename_i hw
    exact ⟨undef, ⟨.inr ⟨by simpa using hw, rfl⟩, fun hw' => absurd hw' hw⟩, h.2⟩

def YieldsAt (P : Program) (ops : Array Oper) (S : World → Prop) (kd : Nat → Bool) (i : Nat) (o : Oper) (v : Value) (a : Act) (w : World) : Prop :=
  ((Region.wanted o (yielded ops a.tmps) = true ∧ (execOp a.eval o).run P w = .ok (.value v) w) ∨ (Region.wanted o (yielded ops a.tmps) = false ∧ v = undef)) ∧ (Region.wanted o (yielded ops a.tmps) = true → Gd P S kd i o a.eval)

theorem YieldsAt.of_put {i : Nat} {o : Oper} {v : Value} {a : Act} {w : World} {dst : Option Tmp} {u : Value} (hs : ∀ cs b, o.op ≠ .select cs b) (h : ∀ d, dst = some d → d ∉ o.looksAt ops) :
    YieldsAt P ops S kd i o v (a.put dst u) w ↔ YieldsAt P ops S kd i o v a w := by
  unfold YieldsAt
  rw [execOp_put o hs a dst u h, wanted_put o a dst u h, gd_put o hs a dst u h]

theorem reads_yields (hQ : Tame Q) {i : Nat} {o : Oper} (hs : ∀ ρ, Plain ρ → Good o ρ → Reads P (execOp ρ o)) (hi : ops[i]? = some o) {a : Act} {w : World} {K : Act → World → Prop}
    (hg : ∀ o, ops[i]? = some o → Region.wanted o (yielded ops a.tmps) = true → Gd P S kd i o a.eval) (h : wpOp P ops Q i K a w) : ∃ v, YieldsAt P ops S kd i o v a w ∧ K (a.put o.dst v) w := by
  unfold wpOp at h
  simp only [hi] at h
  split at h
  · rename_i hw
    have hgood := hg o hi hw
    rcases h with h | ⟨_, h⟩
    · unfold Oper.wp at h
      cases hr : (execOp a.eval o).run P w with
      | ok x w' =>
        obtain ⟨rfl, v, rfl⟩ := hs a.eval (fun _ => rfl) hgood.1 w x w' hr
        rw [hr] at h
        exact ⟨v, ⟨.inl ⟨hw, hr⟩, fun _ => hgood⟩, h⟩
      | halt x w' =>
        rw [hr] at h
        cases x <;> simp only [Oper.upon] at h
        exact (hQ.panic _ _ _ h).elim
    · exact (hQ.out h).elim
  · rename_i hw
    exact ⟨undef, ⟨.inr ⟨by simpa using hw, rfl⟩, fun hw' => absurd hw' hw⟩, h⟩

theorem reads_gOp {i : Nat} {o : Oper} (hi : ops[i]? = some o) {a : Act} {w : World} {K : Act → World → Prop} {v : Value} (hS : S w)
    (hy : YieldsAt P ops S kd i o v a w) (h : K (a.put o.dst v) w) : gOp P ops S kd z Q i K a w := by
  refine ⟨?_, fun o' ho' hw => by rw [hi] at ho'; cases ho'; exact hy.2 hw⟩
  unfold wpOp
  simp only [hi]
  rcases hy.1 with ⟨hw, hr⟩ | ⟨hw, rfl⟩
  · simp only [hw, if_true]
    refine .inl ?_
    unfold Oper.wp
    rw [hr]
    exact ⟨fun _ => hS, h⟩
  · simp only [hw, Bool.false_eq_true, if_false]
    exact ⟨fun _ => hS, h⟩

/-- (after 'wpOp_put') What holds of the frame whatever the operation puts is handed on. -/
theorem wpOp_put' (hQ : Tame Q) {i j : Nat} {oi oj : Oper} {v : Value} (hj : ops[j]? = some oj) (hap : oi.apart ops oj = true)
    (hsi : ∀ cs b, oi.op ≠ .select cs b) (hsj : ∀ cs b, oj.op ≠ .select cs b) {K : Act → World → Prop} {a : Act} {w : World}
    (hy : YieldsG P ops S kd i oi v a) (h : wpOp P ops Q j K (a.put oi.dst v) w) :
    wpOp P ops Q j (fun a' w' => YieldsG P ops S kd i oi v a' ∧ K (a'.put oi.dst v) w') a w := by
  obtain ⟨h1, h2, h3⟩ := Oper.apart_spec hap
  have keep : ∀ (a : Act), YieldsG P ops S kd i oi v a → ∀ u, YieldsG P ops S kd i oi v (a.put oj.dst u) := fun a hy u => (YieldsG.of_put hsi h3).2 hy
  have keepD : ∀ d, YieldsG P ops S kd i oi v { a with defers := d :: a.defers } := fun d => hy
  unfold wpOp at *
  simp only [hj] at *
  rw [wanted_put oj a oi.dst v h1] at h
  split
  · rename_i hw
    simp only [hw, if_true] at h
    rcases h with h | ⟨_, hlets⟩
    case inr => exact (hQ.out hlets).elim
    refine .inl ?_
    unfold Oper.wp at *
    rw [execOp_put oj hsj a oi.dst v h1] at h
    generalize (execOp a.eval oj).run P w = r at *
    cases r with
    | ok n w' =>
      cases n <;> simp only [Oper.upon] at h ⊢
      case value u => exact ⟨keep a hy u, by rw [← Act.put_comm a v u h2]; exact h⟩
      case skip => exact ⟨keep a hy _, by rw [← Act.put_comm a v undef h2]; exact h⟩
      case defer d =>
        refine ⟨keep _ (keepD d) _, ?_⟩
        rw [← Act.put_comm _ v undef h2, ← Act.put_defers]
        exact h
      case enter f args =>
        refine Calls.mono h fun e w'' he => ?_
        cases e with
        | returned u => exact ⟨keep a hy u, by rw [← Act.put_comm a v u h2]; exact he⟩
        | panicked c => exact (hQ.panic _ _ _ he).elim
        | outgrown => exact he
      case row row args => exact Rows.mono h fun u w'' he => ⟨keep a hy u, by rw [← Act.put_comm a v u h2]; exact he⟩
    | halt x w' =>
      cases x <;> simp only [Oper.upon] at h ⊢
      case panic u => exact (hQ.panic _ _ _ h).elim
  · rename_i hw
    simp only [hw] at h
    exact ⟨keep a hy _, by rw [← Act.put_comm a v undef h2]; exact h⟩

/-- An outcome of an operation: the frame is the old one, but for what it puts (and what it defers). -/
theorem outcome (hQ : Tame Q) {j : Nat} {oj : Oper} (hj : ops[j]? = some oj) {K : Act → World → Prop} {a : Act} {w : World} (h : wpOp P ops Q j K a w) :
    ∃ u w1 ds, K (({ a with defers := ds } : Act).put oj.dst u) w1 := by
  unfold wpOp at h
  simp only [hj] at h
  split at h
  · rcases h with h | ⟨_, h⟩
    case inr => exact (hQ.out h).elim
    unfold Oper.wp at h
    cases hr : (execOp a.eval oj).run P w with
    | ok n w' =>
      rw [hr] at h
      cases n <;> simp only [Oper.upon] at h
      case value u => exact ⟨u, w', a.defers, h⟩
      case skip => exact ⟨undef, w', a.defers, h⟩
      case defer d => exact ⟨undef, w', d :: a.defers, h⟩
      case enter f args =>
        obtain ⟨e, w'', fr, he, _⟩ := h []
        cases e with
        | returned u => exact ⟨u, w'', a.defers, he⟩
        | panicked c => exact (hQ.panic _ _ _ he).elim
        | outgrown => exact (hQ.out he).elim
      case row row args =>
        obtain ⟨u, w'', he, _⟩ := h default []
        exact ⟨u, w'', a.defers, he⟩
    | halt x w' =>
      rw [hr] at h
      cases x <;> simp only [Oper.upon] at h
      exact (hQ.panic _ _ _ h).elim
  · exact ⟨undef, w, a.defers, h⟩

/-- An operation behind which a calm one yields: it yields ahead of it, too. -/
theorem unput (hQ : Tame Q) {i j : Nat} {oi oj : Oper} (hi : ops[i]? = some oi) (hj : ops[j]? = some oj) (hap : oi.apart ops oj = true) (hs : ∀ ρ, Plain ρ → Gd P S kd i oi ρ → CalmAt P S oi ρ)
    (hsi : ∀ cs b, oi.op ≠ .select cs b) (hsj : ∀ cs b, oj.op ≠ .select cs b) (hS0 : ∃ w, S w)
    {K : Act → World → Prop} {a : Act} {w : World} (h : wpOp P ops Q j (fun a1 w1 => S w1 ∧ gOp P ops S kd z Q i K a1 w1) a w) :
    ∃ v, YieldsG P ops S kd i oi v a ∧ wpOp P ops Q j (fun a1 w1 => S w1 ∧ K a1 w1) (a.put oi.dst v) w := by
  obtain ⟨h1, h2, h3⟩ := Oper.apart_spec hap
  have back : ∀ (ds : List Deferred) (u : Value) (w1 : World), (S w1 ∧ gOp P ops S kd z Q i K (({ a with defers := ds } : Act).put oj.dst u) w1) → ∃ v, YieldsG P ops S kd i oi v a ∧ S w1 ∧ K ((({ a with defers := ds } : Act).put oi.dst v).put oj.dst u) w1 := fun ds u w1 ⟨hS, hh⟩ => by
    obtain ⟨v, hy, hk⟩ := calm_yields hQ hs hi hS hh
    have hy1 : YieldsG P ops S kd i oi v ({ a with defers := ds } : Act) := (YieldsG.of_put hsi h3).1 hy
    refine ⟨v, hy1, hS, ?_⟩
    rw [← Act.put_comm _ u v (fun d hd he => h2 d he hd)]
    exact hk
  have same : ∀ v v', YieldsG P ops S kd i oi v a → YieldsG P ops S kd i oi v' a → v = v' := fun v v' hv hv' => by
    rcases hv.1 with ⟨hw, hv⟩ | ⟨hw, rfl⟩ <;> rcases hv'.1 with ⟨hw', hv'⟩ | ⟨hw', rfl⟩
    · obtain ⟨w0, hw0⟩ := hS0
      have := (hv w0 hw0).symm.trans (hv' w0 hw0); simpa using this
    · rw [hw] at hw'; cases hw'
    · rw [hw] at hw'; cases hw'
    · rfl
  obtain ⟨u0, w0, ds0, h0⟩ := outcome hQ hj h
  obtain ⟨v, hy, _⟩ := back ds0 u0 w0 h0
  refine ⟨v, hy, ?_⟩
  have go : ∀ (ds : List Deferred) (u : Value) (w1 : World), (S w1 ∧ gOp P ops S kd z Q i K (({ a with defers := ds } : Act).put oj.dst u) w1) → S w1 ∧ K ((({ a with defers := ds } : Act).put oi.dst v).put oj.dst u) w1 := fun ds u w1 hh => by
    obtain ⟨v', hy', hk⟩ := back ds u w1 hh
    rw [same v v' hy hy']
    exact hk
  have exe : (execOp (a.put oi.dst v).eval oj) = execOp a.eval oj := execOp_put oj hsj a oi.dst v h1
  unfold wpOp at h ⊢
  simp only [hj] at h ⊢
  rw [wanted_put oj a oi.dst v h1]
  split at h
  · rename_i hw
    rw [if_pos hw]
    rcases h with h | ⟨_, h⟩
    case inr => exact (hQ.out h).elim
    refine .inl ?_
    unfold Oper.wp at h ⊢
    rw [exe]
    cases hr : (execOp a.eval oj).run P w with
    | ok n w' =>
      rw [hr] at h
      cases n <;> simp only [Oper.upon] at h ⊢
      case value u => exact go a.defers u w' h
      case skip => exact go a.defers undef w' h
      case defer d =>
        have := go (d :: a.defers) undef w' h
        rw [Act.put_defers]
        exact this
      case enter f args =>
        refine Calls.mono h fun e w'' he => ?_
        cases e with
        | returned u => exact go a.defers u w'' he
        | panicked c => exact (hQ.panic _ _ _ he).elim
        | outgrown => exact (hQ.out he).elim
      case row row args => exact Rows.mono h fun u w'' he => go a.defers u w'' he
    | halt x w' =>
      rw [hr] at h
      cases x <;> simp only [Oper.upon] at h ⊢
      exact (hQ.panic _ _ _ h).elim
  · rename_i hw
    rw [if_neg hw]
    exact go a.defers undef w h

theorem apart_symm {x y : Oper} (h : x.apart ops y = true) : y.apart ops x = true := by
  obtain ⟨h1, h2, h3⟩ := Oper.apart_spec h
  unfold Oper.apart
  simp only [Bool.and_eq_true]
  constructor
  · cases hy : y.dst with
    | none => rfl
    | some d =>
      simp only [Bool.and_eq_true, Bool.not_eq_true', bne_iff_ne, ne_eq]
      refine ⟨?_, fun he => h2 d he hy⟩
      have := h3 d hy
      simpa using this
  · cases hx : x.dst with
    | none => rfl
    | some d =>
      have := h1 d hx
      simpa using this

/-- j ahead of i: i ahead of j. -/
theorem swap (hQ : Tame Q) {i j : Nat} {oi oj : Oper} (hi : ops[i]? = some oi) (hj : ops[j]? = some oj) (hap : oi.apart ops oj = true) (hc : Comm P S kd j oj i oi)
    (hsi : ∀ cs b, oi.op ≠ .select cs b) (hsj : ∀ cs b, oj.op ≠ .select cs b)
    (zi : i ≠ z) (zj : j ≠ z) {K : Act → World → Prop} {a : Act} {w : World} (hS : S w) (h : gOp P ops S kd z Q j (fun a1 w1 => gOp P ops S kd z Q i K a1 w1) a w) :
    gOp P ops S kd z Q i (fun a1 w1 => gOp P ops S kd z Q j K a1 w1) a w := by
  obtain ⟨a1, a2, a3⟩ := Oper.apart_spec hap
  have hgi : ∀ o, ops[i]? = some o → Region.wanted o (yielded ops a.tmps) = true → Gd P S kd i o a.eval := fun o ho hw => by
    rw [hi] at ho
    cases ho
    obtain ⟨u, w1, ds, _, hh⟩ := outcome hQ hj h.1
    have := hh.2 _ hi (by rw [wanted_put _ _ oj.dst u a3]; exact hw)
    rw [gd_put _ hsi _ oj.dst u a3] at this
    exact this
  rcases hc with hs | hs | ⟨hrj, hri⟩
  · -- j is calm
    obtain ⟨v, hy, h2⟩ := calm_yields hQ hs hj hS h
    have h3 := wpOp_put' hQ hi (apart_symm hap) hsj hsi hy h2.1
    exact ⟨wpOp_mono (fun a' w' h4 => ⟨h4.2.1, h4.1.gOp hj (h4.2.1 zi) h4.2.2⟩) h3, hgi⟩
  · obtain ⟨v, hy, h2⟩ := unput hQ hi hj hap hs hsi hsj ⟨w, hS⟩ (wpOp_mono (fun a' w' hh => ⟨hh.1 zj, hh.2⟩) h.1)
    refine hy.gOp hi hS ⟨wpOp_mono (fun a' w' hh => ⟨fun _ => hh.1, hh.2⟩) h2, fun o ho hw => ?_⟩
    rw [hj] at ho
    cases ho
    rw [gd_put _ hsj a oi.dst v a1]
    exact h.2 _ hj (by rw [← wanted_put _ a oi.dst v a1]; exact hw)
  · obtain ⟨v, hy, _, h2⟩ := reads_yields hQ hrj hj h.2 h.1
    obtain ⟨u, hu, _, h3⟩ := reads_yields hQ hri hi h2.2 h2.1
    have hu' := (YieldsAt.of_put hsi a3).1 hu
    refine reads_gOp hi hS hu' (reads_gOp hj (v := v) hS ((YieldsAt.of_put hsj a1).2 hy) ?_)
    rw [← Act.put_comm a v u (fun d hd he => a2 d he hd)]
    exact h3

/-- Does operation i wait for operation j? -/
def needs (ops : Array Oper) : Nat → Nat → Nat → Bool
  | 0, _, _ => false
  | n + 1, i, j => match ops[i]? with
    | none => false
    | some o => o.after.any (fun e => Region.binds .any e && e.on == j) || o.after.any (fun e => Region.binds .any e && needs ops n e.on j)

def Closed (ops : Array Oper) (listed : Array Bool) : Prop :=
  ∀ i o, ops[i]? = some o → listed.getD i false = true → ∀ e ∈ o.after, Region.binds .any e = true → listed.getD e.on false = true

theorem needs_listed {listed : Array Bool} (hcl : Closed ops listed) : ∀ n i j, needs ops n i j = true →
    (∀ o, ops[i]? = some o → ∀ e ∈ o.after, Region.binds .any e = true → listed.getD e.on false = true) → listed.getD j false = true := by
  intro n
  induction n with
  | zero => intro i j h; simp [needs] at h
  | succ n ih =>
    intro i j h hall
    unfold needs at h
    split at h
    · cases h
    · rename_i o ho
      simp only [Bool.or_eq_true] at h
      rcases h with h | h
      · obtain ⟨e, he, hb⟩ := Array.any_eq_true'.1 h
        simp only [Bool.and_eq_true, beq_iff_eq] at hb
        rw [← hb.2]
        exact hall o ho e he hb.1
      · obtain ⟨e, he, hb⟩ := Array.any_eq_true'.1 h
        simp only [Bool.and_eq_true] at hb
        exact ih e.on j hb.2 fun o' ho' e' he' hb' => hcl e.on o' ho' (hall o ho e he hb.1) e' he' hb'

/-- The check: operations that do not wait for each other may change places. -/
structure Swaps (P : Program) (ops : Array Oper) (S : World → Prop) (kd : Nat → Bool) : Prop where
  sel : ∀ (j : Nat) (o : Oper) cs b, ops[j]? = some o → o.op ≠ .select cs b
  back : ∀ i o, ops[i]? = some o → ∀ e ∈ o.after, Region.binds .any e = true → e.on < i
  comm : ∀ i oi j oj, ops[i]? = some oi → ops[j]? = some oj → j < i → (∃ n, needs ops n i j = true) ∨ (oi.apart ops oj = true ∧ Comm P S kd j oj i oi)

theorem gOps_front (hQ : Tame Q) {i : Nat} {oi : Oper} (hsw : Swaps P ops S kd) (hi : ops[i]? = some oi) (post : List Nat) : ∀ (pre : List Nat) (a : Act) (w : World), S w →
    (∀ j ∈ pre, i ≠ z ∧ j ≠ z ∧ ∃ oj, ops[j]? = some oj ∧ oi.apart ops oj = true ∧ Comm P S kd j oj i oi) →
    gOps P ops S kd z Q (pre ++ i :: post) a w → gOp P ops S kd z Q i (fun a' w' => gOps P ops S kd z Q (pre ++ post) a' w') a w := by
  intro pre
  induction pre with
  | nil => intro a w _ _ h; exact h
  | cons j pre ih =>
    intro a w hS hp h
    obtain ⟨zi, zj, oj, hj, hap, hc⟩ := hp j (by simp)
    have h2 := gOp_mono (fun a' w' hS' hh => ih a' w' (hS' zj) (fun k hk => hp k (by simp [hk])) hh) h
    exact swap hQ hi hj hap hc (fun cs b => hsw.sel i oi cs b hi) (fun cs b => hsw.sel j oj cs b hj) zi zj hS h2

def left (ops : Array Oper) (listed : Array Bool) : List Nat := (List.range ops.size).filter fun i => !listed.getD i true

theorem mem_left {listed : Array Bool} {i : Nat} : i ∈ left ops listed ↔ i < ops.size ∧ listed.getD i true = false := by
  unfold left; rw [List.mem_filter, List.mem_range]; simp

theorem left_split {listed : Array Bool} (hsz : listed.size = ops.size) {i : Nat} (hi : i ∈ left ops listed) :
    ∃ pre post, left ops listed = pre ++ i :: post ∧ left ops (listed.setIfInBounds i true) = pre ++ post ∧ ∀ j ∈ pre, j < i ∧ listed.getD j true = false := by
  obtain ⟨hlt, hu⟩ := mem_left.1 hi
  have hil : i < listed.size := by omega
  have key : ∀ j, (listed.setIfInBounds i true).getD j true = (decide (j = i) || listed.getD j true) := fun j => by
    by_cases hij : i = j
    · subst hij; simp [hil]
    · rw [getD_set_ne true hij]; simp [Ne.symm hij]
  refine ⟨(List.range i).filter (fun j => !listed.getD j true), ((List.range' (i + 1) (ops.size - (i + 1)))).filter (fun j => !listed.getD j true), ?_, ?_, ?_⟩
  · have hr : List.range ops.size = List.range i ++ i :: List.range' (i + 1) (ops.size - (i + 1)) := by
      have hz : ops.size = i + ((ops.size - (i + 1)) + 1) := by omega
      generalize ops.size - (i + 1) = q at hz ⊢
      rw [List.range_eq_range', List.range_eq_range', hz, ← List.range'_append_1, List.range'_succ]
      simp
    unfold left
    rw [hr, List.filter_append, List.filter_cons]
    simp only [hu, Bool.not_false, if_true]
  · have hr : List.range ops.size = List.range i ++ i :: List.range' (i + 1) (ops.size - (i + 1)) := by
      have hz : ops.size = i + ((ops.size - (i + 1)) + 1) := by omega
      generalize ops.size - (i + 1) = q at hz ⊢
      rw [List.range_eq_range', List.range_eq_range', hz, ← List.range'_append_1, List.range'_succ]
      simp
    unfold left
    rw [hr, List.filter_append, List.filter_cons]
    simp only [key]
    simp only [decide_true, Bool.true_or, Bool.not_true, Bool.false_eq_true, if_false]
    congr 1
    · apply List.filter_congr
      intro j hj
      have : j < i := List.mem_range.1 hj
      simp [show j ≠ i by omega]
    · apply List.filter_congr
      intro j hj
      have := (List.mem_range'_1.1 hj).1
      simp [show j ≠ i by omega]
  · intro j hj
    rw [List.mem_filter, List.mem_range] at hj
    exact ⟨hj.1, by simpa using hj.2⟩

theorem wpAny_of_prog (hQ : Tame Q) (hsw : Swaps P ops S kd) (hz : ops.size ≤ z + 1 ∧ ∀ j, j < z → z < ops.size → ∃ n, needs ops n z j = true) : ∀ (fuel : Nat) (listed : Array Bool) (a : Act) (w : World), (left ops listed ≠ [] → S w) → listed.size = ops.size → Closed ops listed → (left ops listed).length ≤ fuel →
    gOps P ops S kd z Q (left ops listed) a w → wpAny P .any ops Q fuel listed a w := by
  intro fuel
  induction fuel with
  | zero =>
    intro listed a w hS hsz hcl hlen h
    have hnil : left ops listed = [] := List.eq_nil_of_length_eq_zero (by omega)
    rw [hnil] at h
    refine ⟨?_, h⟩
    apply List.eq_nil_iff_forall_not_mem.2
    intro i hi
    obtain ⟨hu, o, ho, _⟩ := mem_ready.1 hi
    have : i ∈ left ops listed := mem_left.2 ⟨(Array.getElem?_eq_some_iff.1 ho).1, hu⟩
    rw [hnil] at this
    cases this
  | succ fuel ih =>
    intro listed a w hS hsz hcl hlen h
    refine ⟨fun hr => ?_, fun i hi => ?_⟩
    · -- nothing is ready: nothing is left
      have hnil : left ops listed = [] := by
        apply Classical.byContradiction
        intro hne
        obtain ⟨i, rest, hl⟩ := List.exists_cons_of_ne_nil hne
        have hmem : i ∈ left ops listed := by rw [hl]; simp
        obtain ⟨pre, post, hpp, _, hpre⟩ := left_split hsz hmem
        have hpe : ∀ j, j < i → listed.getD j true = true := fun j hj => by
          cases hjj : listed.getD j true with
          | true => rfl
          | false =>
            have hjl : j < ops.size := by have := (mem_left.1 hmem).1; omega
            have hjm : j ∈ left ops listed := mem_left.2 ⟨hjl, hjj⟩
            -- j < i and i is the first one left
            have hs : List.Pairwise (· < ·) (left ops listed) := by
              unfold left
              exact List.Pairwise.filter _ List.pairwise_lt_range
            rw [hl] at hs hjm
            rcases List.mem_cons.1 hjm with rfl | hjr
            · omega
            · have := (List.pairwise_cons.1 hs).1 j hjr
              omega
        have hio := (mem_left.1 hmem).1
        have : i ∈ Region.ready .any ops listed := mem_ready.2 ⟨(mem_left.1 hmem).2, ops[i], by simp [hio], fun e he hb => by
          have hlt := hsw.back i ops[i] (by simp [hio]) e he hb
          have h1 := hpe e.on hlt
          have h2 : e.on < listed.size := by omega
          simp [h2] at h1 ⊢
          exact h1⟩
        rw [hr] at this
        cases this
      rw [hnil] at h
      exact h
    · obtain ⟨hu, oi, hoi, hall⟩ := mem_ready.1 hi
      have hmem : i ∈ left ops listed := mem_left.2 ⟨(Array.getElem?_eq_some_iff.1 hoi).1, hu⟩
      obtain ⟨pre, post, hpp, hpp', hpre⟩ := left_split hsz hmem
      have hS' : S w := hS (by rw [hpp]; simp)
      rw [hpp] at h
      have hzi : ∀ j ∈ pre, i ≠ z ∧ j ≠ z := fun j hj => by
        obtain ⟨hji, hju⟩ := hpre j hj
        have hil := (mem_left.1 hmem).1
        refine ⟨fun e => ?_, by omega⟩
        subst e
        obtain ⟨n, hn⟩ := hz.2 j hji hil
        have := needs_listed hcl n i j hn (fun o ho e he hb => hall e (by rw [hoi] at ho; cases ho; exact he) hb)
        have h2 : j < listed.size := by omega
        simp [h2] at this hju
        rw [this] at hju
        cases hju
      have h2 := gOps_front hQ hsw hoi post pre a w hS' (fun j hj => by
        obtain ⟨hji, hju⟩ := hpre j hj
        have hjl : j < ops.size := by have := (mem_left.1 hmem).1; omega
        refine ⟨(hzi j hj).1, (hzi j hj).2, ops[j], by simp [hjl], ?_⟩
        rcases hsw.comm i oi j ops[j] hoi (by simp [hjl]) hji with ⟨n, hn⟩ | hc
        · exfalso
          have := needs_listed hcl n i j hn (fun o ho e he hb => hall e (by rw [hoi] at ho; cases ho; exact he) hb)
          have h2 : j < listed.size := by omega
          simp [h2] at this hju
          rw [this] at hju
          cases hju
        · exact hc) h
      have hlast : left ops (listed.setIfInBounds i true) ≠ [] → i ≠ z := fun hne e => by
        rw [hpp'] at hne
        have hil := (mem_left.1 hmem).1
        cases pre with
        | cons j pre => exact (hzi j (by simp)).1 e
        | nil =>
          cases post with
          | nil => exact hne rfl
          | cons k post =>
            have hk : k ∈ left ops listed := by rw [hpp]; simp
            have hkl := (mem_left.1 hk).1
            have hs : List.Pairwise (· < ·) (left ops listed) := by
              unfold left
              exact List.Pairwise.filter _ List.pairwise_lt_range
            rw [hpp] at hs
            have := (List.pairwise_cons.1 hs).1 k (by simp)
            omega
      refine wpOp_mono (fun a' w' hh => ih (listed.setIfInBounds i true) a' w' (fun hne => hh.1 (hlast hne)) (by simp [hsz]) ?_ ?_ ?_) h2.1
      · intro k o hk hkl e he hb
        by_cases hki : i = k
        · subst hki
          rw [hoi] at hk
          cases hk
          exact getD_set_true (hall e he hb)
        · rw [getD_set_ne false hki] at hkl
          exact getD_set_true (hcl k o hk hkl e he hb)
      · rw [hpp'] 
        rw [hpp] at hlen
        simp only [List.length_append, List.length_cons] at hlen ⊢
        omega
      · rw [hpp']; exact hh.2

theorem wpAny_imp {Q Q' : Exit → Act → World → Prop} (hq : ∀ e a w, Q e a w → Q' e a w) : ∀ (fuel : Nat) (listed : Array Bool) (a : Act) (w : World), wpAny P .any ops Q fuel listed a w → wpAny P .any ops Q' fuel listed a w := by
  have lets : LetsOut Q → LetsOut Q' := fun ⟨a, w, h⟩ => ⟨a, w, hq _ _ _ h⟩
  have upon : ∀ (o : Oper) (a : Act) (K : Act → World → Prop) (r : Result Next), o.upon P a K Q r → o.upon P a K Q' r := fun o a K r h => by
    cases r with
    | ok n w' =>
      cases n <;> simp only [Oper.upon] at h ⊢ <;> first | exact h | exact Calls.mono h (fun e w'' he => by cases e <;> first | exact he | exact hq _ _ _ he | exact lets he)
    | halt x w' => cases x <;> simp only [Oper.upon] at h ⊢ <;> exact hq _ _ _ h
  have op : ∀ (i : Nat) (K : Act → World → Prop) (a : Act) (w : World), wpOp P ops Q i K a w → wpOp P ops Q' i K a w := fun i K a w h => by
    unfold wpOp at *
    split
    · rename_i ho; simpa [ho] using h
    · rename_i o ho
      simp only [ho] at h
      split
      · rename_i hw
        simp only [hw, if_true] at h
        exact h.imp (upon o a K _) (fun ⟨h1, h2⟩ => ⟨h1, lets h2⟩)
      · rename_i hw
        simp only [hw] at h
        exact h
  intro fuel
  induction fuel with
  | zero => intro listed a w h; exact ⟨h.1, hq _ _ _ h.2⟩
  | succ fuel ih => intro listed a w h; exact ⟨fun hr => hq _ _ _ (h.1 hr), fun i hi => op i _ a w (wpOp_mono (fun a w => ih _ a w) (h.2 i hi))⟩

theorem CalmQ.imp : ∀ (e : Exit) (a : Act) (w : World), CalmQ Q e a w → Q e a w := fun e a w h => by cases e <;> first | exact h | exact h.elim

theorem getD_replicate_false' (m j : Nat) : (Array.replicate m false).getD j false = false := by
  rcases Nat.lt_or_ge j m with h | h
  · simp [h]
  · simp [h]

/-- THE LAW, with the operands' facts: a region that draws its order, whose operations may change places where they do not wait for each other, is one that doesn't draw. -/
theorem wp_swaps {id : Nat} {ops : Array Oper} {a : Act} {w : World} {Q' : Exit → Act → World → Prop} (hm : P.follows .mixedOrders = true) (hQ : Tame Q) (himp : ∀ e a w, Q e a w → Q' e a w) (hsw : Swaps P ops S kd) (hz : ops.size ≤ z + 1 ∧ ∀ j, j < z → z < ops.size → ∃ n, needs ops n z j = true) (hS : S w.drew)
    (h : gOps P ops S kd z Q (List.range ops.size) a w.drew) : (Code.region id ops true).wp P Q' a w := by
  refine wp_region_any hm (wpAny_imp himp _ _ _ _ (wpAny_of_prog hQ hsw hz _ _ a _ (fun _ => hS) (by simp) ?_ ?_ ?_))
  · intro i o _ hl
    rw [getD_replicate_false'] at hl
    cases hl
  · unfold left
    exact Nat.le_trans (List.length_filter_le _ _) (by simp)
  · have hleft : left ops (Array.replicate ops.size false) = List.range ops.size := by
      unfold left
      rw [List.filter_eq_self.2]
      intro i hi
      have := List.mem_range.1 hi
      simp [this]
    rw [hleft]
    exact h
end
end Go.Wb

namespace Go.Wb
open Go
section
variable {P : Program}

/-- Where it succeeds: whatever the world, and without a change. -/
def Wl (P : Program) {α : Type} (s : Sem α) : Prop := ∀ w x w', s.run P w = .ok x w' → w' = w ∧ ∀ w2, s.run P w2 = .ok x w2
/-- Where it succeeds: without a change. -/
def Rd (P : Program) {α : Type} (s : Sem α) : Prop := ∀ w x w', s.run P w = .ok x w' → w' = w

theorem Wl.rd {α : Type} {s : Sem α} (h : Wl P s) : Rd P s := fun w x w' hr => (h w x w' hr).1

theorem Wl.pure {α : Type} (a : α) : Wl P (Pure.pure a : Sem α) := fun w x w' h => by
  rw [Sem.run_pure] at h
  simp only [Result.ok.injEq] at h
  obtain ⟨rfl, rfl⟩ := h
  exact ⟨rfl, fun w2 => by rw [Sem.run_pure]⟩
theorem Wl.never {α : Type} {s : Sem α} (h : ∀ w x w', s.run P w ≠ .ok x w') : Wl P s := fun w x w' hr => absurd hr (h w x w')
theorem Wl.halt {α : Type} (h : Halt) : Wl P (Sem.halt h : Sem α) := Wl.never fun w x w' hr => by simp [Sem.run] at hr
theorem Wl.stuck {α : Type} (s : String) : Wl P (stuck s : Sem α) := Wl.halt _
theorem Wl.unsupported {α : Type} (u : Unsupported) : Wl P (unsupported u : Sem α) := Wl.halt _
theorem Wl.bind {α β : Type} {s : Sem α} {f : α → Sem β} (h : Wl P s) (k : ∀ a, Wl P (f a)) : Wl P (s >>= f) := fun w x w' hr => by
  rw [Sem.run_bind] at hr
  cases hs : s.run P w with
  | halt e w1 => rw [hs] at hr; simp [Result.andThen] at hr
  | ok a w1 =>
    rw [hs, Result.andThen_ok] at hr
    obtain ⟨rfl, h1⟩ := h w a w1 hs
    obtain ⟨rfl, h2⟩ := k a w1 x w' hr
    exact ⟨rfl, fun w2 => by rw [Sem.run_bind, h1 w2, Result.andThen_ok, h2 w2]⟩
theorem Wl.program : Wl P program := fun w x w' h => by
  simp [Go.program, Sem.run] at h
  obtain ⟨rfl, rfl⟩ := h
  exact ⟨rfl, fun w2 => by simp [Go.program, Sem.run]⟩
theorem Wl.ite {α : Type} {c : Prop} [Decidable c] {s t : Sem α} (h : Wl P s) (k : Wl P t) : Wl P (if c then s else t) := by split <;> assumption
theorem Rd.pure {α : Type} (a : α) : Rd P (Pure.pure a : Sem α) := (Wl.pure a).rd
theorem Rd.bind {α β : Type} {s : Sem α} {f : α → Sem β} (h : Rd P s) (k : ∀ a, Rd P (f a)) : Rd P (s >>= f) := fun w x w' hr => by
  rw [Sem.run_bind] at hr
  cases hs : s.run P w with
  | halt e w1 => rw [hs] at hr; simp [Result.andThen] at hr
  | ok a w1 =>
    rw [hs, Result.andThen_ok] at hr
    obtain rfl := h w a w1 hs
    exact k a w1 x w' hr
theorem Rd.ite {α : Type} {c : Prop} [Decidable c] {s t : Sem α} (h : Rd P s) (k : Rd P t) : Rd P (if c then s else t) := by split <;> assumption

theorem silent_of {s : Sem Value} (h : Wl P s) : Silent P (do Pure.pure (Next.value (← s))) := fun w x w' hr => by
  have h1 : Wl P (do Pure.pure (Next.value (← s)) : Sem Next) := h.bind fun a => Wl.pure _
  obtain ⟨rfl, h2⟩ := h1 w x w' hr
  rw [Sem.run_bind] at hr
  cases hs : s.run P w' with
  | halt e w1 => rw [hs] at hr; simp [Result.andThen] at hr
  | ok a w1 =>
    rw [hs, Result.andThen_ok, Sem.run_pure] at hr
    simp only [Result.ok.injEq] at hr
    obtain ⟨rfl, _⟩ := hr
    exact ⟨a, rfl, h2⟩
theorem reads_of {s : Sem Value} (h : Rd P s) : Reads P (do Pure.pure (Next.value (← s))) := fun w x w' hr => by
  rw [Sem.run_bind] at hr
  cases hs : s.run P w with
  | halt e w1 => rw [hs] at hr; simp [Result.andThen] at hr
  | ok a w1 =>
    rw [hs, Result.andThen_ok, Sem.run_pure] at hr
    simp only [Result.ok.injEq] at hr
    obtain ⟨rfl, rfl⟩ := hr
    exact ⟨h w a w1 hs, a, rfl⟩

theorem Wl.underlying (t : TypeId) : Wl P (underlying t) := by
  unfold Go.underlying
  refine Wl.program.bind fun p => ?_
  split
  · exact Wl.pure _
  · exact Wl.stuck _
theorem Wl.typeInfo (t : TypeId) : Wl P (typeInfo t) := by
  unfold Go.typeInfo
  refine Wl.program.bind fun p => ?_
  split
  · exact Wl.pure _
  · exact Wl.stuck _
theorem Wl.sizeOf (t : TypeId) : Wl P (Go.sizeOf t) := by
  unfold Go.sizeOf
  exact (Wl.typeInfo t).bind fun _ => Wl.pure _
theorem Wl.zeroValue (t : TypeId) : Wl P (zeroValue t) := by
  unfold Go.zeroValue
  refine (Wl.typeInfo t).bind fun i => ?_
  split
  · exact Wl.pure _
  · exact Wl.unsupported _
theorem Wl.isAgg (t : TypeId) : Wl P (isAgg t) := by
  unfold Go.isAgg
  refine (Wl.underlying t).bind fun i => ?_
  split <;> exact Wl.pure _
theorem Wl.asIntOf (v : Value) : Wl P (asIntOf v) := by
  unfold Go.asIntOf
  split
  · exact Wl.pure _
  · exact Wl.unsupported _
  · exact Wl.stuck _
theorem Wl.asBool (v : Value) : Wl P (asBool v) := by
  unfold Go.asBool
  split
  · exact Wl.pure _
  · exact Wl.stuck _
theorem Wl.asAgg (v : Value) : Wl P (asAgg v) := by
  unfold Go.asAgg
  split
  · exact Wl.pure _
  · exact Wl.stuck _
theorem Wl.sureAddr (v : Value) : Wl P (Instr.sureAddr v) := by
  unfold Instr.sureAddr
  split
  · exact Wl.pure _
  · exact Wl.stuck _
theorem Wl.part (t : TypeId) (cs : Array Value) (off : Nat) : Wl P (part t cs off) := by
  unfold Go.part
  refine (Wl.isAgg t).bind fun b => ?_
  split
  · exact (Wl.sizeOf t).bind fun _ => Wl.pure _
  · split
    · exact Wl.pure _
    · exact Wl.stuck _
theorem never_goPanic {α : Type} (v : Value) : ∀ w x w', (goPanic v : Sem α).run P w ≠ .ok x w' := fun w x w' hr => by simp [goPanic] at hr
theorem never_bind {α β : Type} {s : Sem α} {f : α → Sem β} (h : ∀ a w x w', (f a).run P w ≠ .ok x w') : ∀ w x w', (s >>= f).run P w ≠ .ok x w' := fun w x w' hr => by
  rw [Sem.run_bind] at hr
  cases hs : s.run P w with
  | halt e w1 => rw [hs] at hr; simp [Result.andThen] at hr
  | ok a w1 => rw [hs, Result.andThen_ok] at hr; exact h a w1 x w' hr
theorem never_runtimePanic {α : Type} (e : RuntimeError) : ∀ w x w', (runtimePanic e : Sem α).run P w ≠ .ok x w' := by
  unfold runtimePanic
  refine never_bind fun p => ?_
  cases e <;> simp only
  case typeAssertion i c a m => exact never_bind fun _ => never_bind fun _ => never_goPanic _
  case panicNil => exact never_bind fun _ => never_bind fun _ => never_goPanic _
  all_goals exact never_goPanic _
theorem Wl.runtimePanic {α : Type} (e : RuntimeError) : Wl P (runtimePanic e : Sem α) := Wl.never (never_runtimePanic e)
theorem Wl.boundsPanic {α : Type} (k : IntKind) (x y : Int) (c : BoundsCode) : Wl P (boundsPanic k x y c : Sem α) := Wl.never (by
  unfold Go.boundsPanic
  dsimp only
  split
  · exact never_bind fun _ => never_runtimePanic _
  · exact never_bind fun _ => never_runtimePanic _)

theorem Wl.pick (c a b : Value) : Wl P (do Pure.pure (if ← Go.asBool c then a else b) : Sem Value) := (Wl.asBool c).bind fun _ => Wl.pure _
theorem Wl.indexAt (t : TypeId) (x i : Value) : Wl P (Instr.indexAt t x i) := by
  unfold Instr.indexAt
  repeat' (first | exact Wl.pure _ | exact Wl.stuck _ | exact Wl.unsupported _ | exact Wl.runtimePanic _ | exact Wl.boundsPanic _ _ _ _ | exact Wl.asIntOf _ | exact Wl.asBool _ | exact Wl.asAgg _ | exact Wl.sureAddr _ | exact Wl.sizeOf _ | exact Wl.typeInfo _ | exact Wl.underlying _ | exact Wl.zeroValue _ | exact Wl.isAgg _ | exact Wl.part _ _ _ | exact Wl.program | refine Wl.bind ?_ (fun _ => ?_) | split | dsimp only)
theorem Wl.sliceBound (x : Value) (y : Nat) (c : BoundsCode) : Wl P (Instr.sliceBound x y c) := by
  unfold Instr.sliceBound
  repeat' (first | exact Wl.pure _ | exact Wl.stuck _ | exact Wl.unsupported _ | exact Wl.runtimePanic _ | exact Wl.boundsPanic _ _ _ _ | exact Wl.asIntOf _ | exact Wl.asBool _ | exact Wl.asAgg _ | exact Wl.sureAddr _ | exact Wl.sizeOf _ | exact Wl.typeInfo _ | exact Wl.underlying _ | exact Wl.zeroValue _ | exact Wl.isAgg _ | exact Wl.part _ _ _ | exact Wl.program | refine Wl.bind ?_ (fun _ => ?_) | split | dsimp only)
theorem Wl.sliceBounds (b : Bool) (n m : Nat) (l h x : Option Value) : Wl P (Instr.sliceBounds b n m l h x) := by
  unfold Instr.sliceBounds
  repeat' (first | exact Wl.pure _ | exact Wl.stuck _ | exact Wl.unsupported _ | exact Wl.runtimePanic _ | exact Wl.boundsPanic _ _ _ _ | exact Wl.asIntOf _ | exact Wl.asBool _ | exact Wl.asAgg _ | exact Wl.sureAddr _ | exact Wl.sizeOf _ | exact Wl.typeInfo _ | exact Wl.underlying _ | exact Wl.zeroValue _ | exact Wl.isAgg _ | exact Wl.part _ _ _ | exact Wl.program | exact Wl.sliceBound _ _ _ | refine Wl.bind ?_ (fun _ => ?_) | split | dsimp only)
theorem Wl.asAddr (v : Value) : Wl P (Go.asAddr v) := by
  unfold Go.asAddr
  repeat' (first | exact Wl.pure _ | exact Wl.stuck _ | exact Wl.unsupported _ | exact Wl.runtimePanic _ | exact Wl.boundsPanic _ _ _ _ | exact Wl.asIntOf _ | exact Wl.asBool _ | exact Wl.asAgg _ | exact Wl.sureAddr _ | exact Wl.sizeOf _ | exact Wl.typeInfo _ | exact Wl.underlying _ | exact Wl.zeroValue _ | exact Wl.isAgg _ | exact Wl.part _ _ _ | exact Wl.program | refine Wl.bind ?_ (fun _ => ?_) | split | dsimp only)
theorem Wl.slice (t : TypeId) (x : Value) (l h m : Option Value) : Wl P (Instr.slice t x l h m) := by
  unfold Instr.slice
  repeat' (first | exact Wl.pure _ | exact Wl.stuck _ | exact Wl.unsupported _ | exact Wl.runtimePanic _ | exact Wl.boundsPanic _ _ _ _ | exact Wl.asIntOf _ | exact Wl.asBool _ | exact Wl.asAgg _ | exact Wl.sureAddr _ | exact Wl.sizeOf _ | exact Wl.typeInfo _ | exact Wl.underlying _ | exact Wl.zeroValue _ | exact Wl.isAgg _ | exact Wl.part _ _ _ | exact Wl.program | exact Wl.sliceBounds _ _ _ _ _ _ | exact Wl.asAddr _ | refine Wl.bind ?_ (fun _ => ?_) | split | dsimp only)
theorem Wl.sliceAt (t : TypeId) (x : Value) (l h m : Option Value) : Wl P (Instr.sliceAt t x l h m) := by
  unfold Instr.sliceAt
  repeat' (first | exact Wl.pure _ | exact Wl.stuck _ | exact Wl.unsupported _ | exact Wl.runtimePanic _ | exact Wl.boundsPanic _ _ _ _ | exact Wl.asIntOf _ | exact Wl.asBool _ | exact Wl.asAgg _ | exact Wl.sureAddr _ | exact Wl.sizeOf _ | exact Wl.typeInfo _ | exact Wl.underlying _ | exact Wl.zeroValue _ | exact Wl.isAgg _ | exact Wl.part _ _ _ | exact Wl.program | exact Wl.sliceBounds _ _ _ _ _ _ | exact Wl.slice _ _ _ _ _ | refine Wl.bind ?_ (fun _ => ?_) | split | dsimp only)
theorem Wl.field (t : TypeId) (x : Value) (i : Nat) : Wl P (Instr.field t x i) := by
  unfold Instr.field
  repeat' (first | exact Wl.pure _ | exact Wl.stuck _ | exact Wl.unsupported _ | exact Wl.runtimePanic _ | exact Wl.boundsPanic _ _ _ _ | exact Wl.asIntOf _ | exact Wl.asBool _ | exact Wl.asAgg _ | exact Wl.sureAddr _ | exact Wl.sizeOf _ | exact Wl.typeInfo _ | exact Wl.underlying _ | exact Wl.zeroValue _ | exact Wl.isAgg _ | exact Wl.part _ _ _ | exact Wl.program | refine Wl.bind ?_ (fun _ => ?_) | split | dsimp only)
theorem Wl.extract (x : Value) (i : Nat) : Wl P (Instr.extract x i) := by
  unfold Instr.extract
  repeat' (first | exact Wl.pure _ | exact Wl.stuck _ | exact Wl.unsupported _ | exact Wl.runtimePanic _ | exact Wl.boundsPanic _ _ _ _ | exact Wl.asIntOf _ | exact Wl.asBool _ | exact Wl.asAgg _ | exact Wl.sureAddr _ | exact Wl.sizeOf _ | exact Wl.typeInfo _ | exact Wl.underlying _ | exact Wl.zeroValue _ | exact Wl.isAgg _ | exact Wl.part _ _ _ | exact Wl.program | refine Wl.bind ?_ (fun _ => ?_) | split | dsimp only)
theorem Wl.index (t : TypeId) (x i : Value) : Wl P (Instr.index t x i) := by
  unfold Instr.index
  repeat' (first | exact Wl.pure _ | exact Wl.stuck _ | exact Wl.unsupported _ | exact Wl.runtimePanic _ | exact Wl.boundsPanic _ _ _ _ | exact Wl.asIntOf _ | exact Wl.asBool _ | exact Wl.asAgg _ | exact Wl.sureAddr _ | exact Wl.sizeOf _ | exact Wl.typeInfo _ | exact Wl.underlying _ | exact Wl.zeroValue _ | exact Wl.isAgg _ | exact Wl.part _ _ _ | exact Wl.program | refine Wl.bind ?_ (fun _ => ?_) | split | dsimp only)
theorem Wl.intArith (op : BinOp) (k : IntKind) (x y : Int) : Wl P (Op.intArith op k x y) := by
  unfold Op.intArith
  repeat' (first | exact Wl.pure _ | exact Wl.stuck _ | exact Wl.unsupported _ | exact Wl.runtimePanic _ | exact Wl.boundsPanic _ _ _ _ | exact Wl.asIntOf _ | exact Wl.asBool _ | exact Wl.asAgg _ | exact Wl.sureAddr _ | exact Wl.sizeOf _ | exact Wl.typeInfo _ | exact Wl.underlying _ | exact Wl.zeroValue _ | exact Wl.isAgg _ | exact Wl.part _ _ _ | exact Wl.program | refine Wl.bind ?_ (fun _ => ?_) | split | dsimp only)
theorem Wl.intBits (op : BinOp) (k : IntKind) (x y : Int) : Wl P (Op.intBits op k x y) := by
  unfold Op.intBits
  repeat' (first | exact Wl.pure _ | exact Wl.stuck _ | exact Wl.unsupported _ | exact Wl.runtimePanic _ | exact Wl.boundsPanic _ _ _ _ | exact Wl.asIntOf _ | exact Wl.asBool _ | exact Wl.asAgg _ | exact Wl.sureAddr _ | exact Wl.sizeOf _ | exact Wl.typeInfo _ | exact Wl.underlying _ | exact Wl.zeroValue _ | exact Wl.isAgg _ | exact Wl.part _ _ _ | exact Wl.program | refine Wl.bind ?_ (fun _ => ?_) | split | dsimp only)
theorem Wl.intCmp (op : BinOp) (x y : Int) : Wl P (Op.intCmp op x y) := by
  unfold Op.intCmp
  repeat' (first | exact Wl.pure _ | exact Wl.stuck _ | exact Wl.unsupported _ | exact Wl.runtimePanic _ | exact Wl.boundsPanic _ _ _ _ | exact Wl.asIntOf _ | exact Wl.asBool _ | exact Wl.asAgg _ | exact Wl.sureAddr _ | exact Wl.sizeOf _ | exact Wl.typeInfo _ | exact Wl.underlying _ | exact Wl.zeroValue _ | exact Wl.isAgg _ | exact Wl.part _ _ _ | exact Wl.program | refine Wl.bind ?_ (fun _ => ?_) | split | dsimp only)
theorem Wl.intDiv (op : BinOp) (k : IntKind) (x y : Int) : Wl P (Op.intDiv op k x y) := by
  unfold Op.intDiv
  repeat' (first | exact Wl.pure _ | exact Wl.stuck _ | exact Wl.unsupported _ | exact Wl.runtimePanic _ | exact Wl.boundsPanic _ _ _ _ | exact Wl.asIntOf _ | exact Wl.asBool _ | exact Wl.asAgg _ | exact Wl.sureAddr _ | exact Wl.sizeOf _ | exact Wl.typeInfo _ | exact Wl.underlying _ | exact Wl.zeroValue _ | exact Wl.isAgg _ | exact Wl.part _ _ _ | exact Wl.program | refine Wl.bind ?_ (fun _ => ?_) | split | dsimp only)
theorem Wl.shift (op : BinOp) (k : IntKind) (x : Int) (k2 : IntKind) (y : Int) : Wl P (Op.shift op k x k2 y) := by
  unfold Op.shift
  repeat' (first | exact Wl.pure _ | exact Wl.stuck _ | exact Wl.unsupported _ | exact Wl.runtimePanic _ | exact Wl.boundsPanic _ _ _ _ | exact Wl.asIntOf _ | exact Wl.asBool _ | exact Wl.asAgg _ | exact Wl.sureAddr _ | exact Wl.sizeOf _ | exact Wl.typeInfo _ | exact Wl.underlying _ | exact Wl.zeroValue _ | exact Wl.isAgg _ | exact Wl.part _ _ _ | exact Wl.program | refine Wl.bind ?_ (fun _ => ?_) | split | dsimp only)
theorem Wl.stringOp (op : BinOp) (x y : ByteArray) : Wl P (Op.stringOp op x y) := by
  unfold Op.stringOp
  repeat' (first | exact Wl.pure _ | exact Wl.stuck _ | exact Wl.unsupported _ | exact Wl.runtimePanic _ | exact Wl.boundsPanic _ _ _ _ | exact Wl.asIntOf _ | exact Wl.asBool _ | exact Wl.asAgg _ | exact Wl.sureAddr _ | exact Wl.sizeOf _ | exact Wl.typeInfo _ | exact Wl.underlying _ | exact Wl.zeroValue _ | exact Wl.isAgg _ | exact Wl.part _ _ _ | exact Wl.program | refine Wl.bind ?_ (fun _ => ?_) | split | dsimp only)
theorem Wl.unary (op : UnOp) (x : Value) : Wl P (Op.unary op x) := by
  unfold Op.unary
  repeat' (first | exact Wl.pure _ | exact Wl.stuck _ | exact Wl.unsupported _ | exact Wl.runtimePanic _ | exact Wl.boundsPanic _ _ _ _ | exact Wl.asIntOf _ | exact Wl.asBool _ | exact Wl.asAgg _ | exact Wl.sureAddr _ | exact Wl.sizeOf _ | exact Wl.typeInfo _ | exact Wl.underlying _ | exact Wl.zeroValue _ | exact Wl.isAgg _ | exact Wl.part _ _ _ | exact Wl.program | exact Wl.intArith _ _ _ _ | exact Wl.intBits _ _ _ _ | refine Wl.bind ?_ (fun _ => ?_) | split | dsimp only)
end
end Go.Wb

namespace Go.Wb
open Go
section
variable {P : Program}

theorem Wl.followBlind : ∀ (l : List FieldStep) (t : TypeId) (x : Option Value), Wl P (followBlind l t x)
  | [], t, x => by unfold Go.followBlind; exact Wl.pure _
  | s :: rest, t, x => by
    unfold Go.followBlind
    repeat' (first | exact Wl.pure _ | exact Wl.stuck _ | exact Wl.followBlind rest _ _ | exact Wl.part _ _ _ | exact Wl.underlying _ | refine Wl.bind ?_ (fun _ => ?_) | split | dsimp only)

theorem Wl.nilAhead : ∀ (n : Nat) (t : TypeId) (v : Value) (m : String), Wl P (nilAhead n t v m)
  | 0, t, v, m => by unfold Go.nilAhead; exact Wl.pure _
  | n + 1, t, v, m => by
    unfold Go.nilAhead
    repeat' (first | exact Wl.pure _ | exact Wl.stuck _ | exact Wl.nilAhead n _ _ _ | exact Wl.followBlind _ _ _ | exact Wl.typeInfo _ | exact Wl.underlying _ | refine Wl.bind ?_ (fun _ => ?_) | split | dsimp only)

theorem silent_value (v : Value) : Silent P (Pure.pure (Next.value v)) := fun w x w' h => by
  rw [Sem.run_pure] at h
  simp only [Result.ok.injEq] at h
  obtain ⟨rfl, rfl⟩ := h
  exact ⟨v, rfl, fun w2 => by rw [Sem.run_pure]⟩
theorem silent_never {s : Sem Next} (h : ∀ w x w', s.run P w ≠ .ok x w') : Silent P s := fun w x w' hr => absurd hr (h w x w')
theorem silent_bind {α : Type} {s : Sem α} {f : α → Sem Next} (h : Wl P s) (k : ∀ a, Silent P (f a)) : Silent P (s >>= f) := fun w x w' hr => by
  rw [Sem.run_bind] at hr
  cases hs : s.run P w with
  | halt e w1 => rw [hs] at hr; simp [Result.andThen] at hr
  | ok a w1 =>
    rw [hs, Result.andThen_ok] at hr
    obtain ⟨rfl, h1⟩ := h w a w1 hs
    obtain ⟨v, rfl, h2⟩ := k a w1 x w' hr
    exact ⟨v, rfl, fun w2 => by rw [Sem.run_bind, h1 w2, Result.andThen_ok, h2 w2]⟩

theorem silent_nilCheck (d : Option Tmp) (x : Operand) (t : TypeId) (pos : String) (af : Array Edge) (g : Option (Nat × Bool)) (ρ : Operand → Value) : Silent P (execOp ρ ⟨d, .nilCheck x, t, pos, af, g⟩) := by
  simp only [execOp]
  split
  · exact silent_never (never_runtimePanic _)
  · exact silent_never (never_runtimePanic _)
  · exact silent_never (never_runtimePanic _)
  · split
    · exact silent_never (never_runtimePanic _)
    · refine silent_bind Wl.program fun p => silent_bind (Wl.nilAhead _ _ _ _) fun b => ?_
      split
      · exact silent_never fun w x w' hr => by
          rw [Sem.run_bind] at hr
          simp [unsupported, Result.andThen] at hr
      · exact silent_value _
    · exact silent_value _
  · exact silent_value _

theorem Wl.len (ts : Array TypeId) (t : TypeId) (x : Value) (h : ∃ t0, ts[0]? = some t0 ∧ ((∃ e, P.underlying t0 = some (.slice e)) ∨ P.underlying t0 = some .string)) : Wl P (Builtin.len_ ts t #[x]) := by
  obtain ⟨t0, h0, hu⟩ := h
  unfold Builtin.len_
  simp only [h0, List.getElem?_toArray, List.getElem?_cons_zero]
  intro w y w' hr
  rw [Sem.run_bind] at hr
  rcases hu with ⟨e, hu⟩ | hu
  · rw [run_underlying hu, Result.andThen_ok] at hr
    cases x <;> simp [Go.stuck] at hr
    obtain ⟨rfl, rfl⟩ := hr
    exact ⟨rfl, fun w2 => by rw [Sem.run_bind, run_underlying hu]; simp⟩
  · rw [run_underlying hu, Result.andThen_ok] at hr
    cases x <;> simp [Go.stuck] at hr
    obtain ⟨rfl, rfl⟩ := hr
    exact ⟨rfl, fun w2 => by rw [Sem.run_bind, run_underlying hu]; simp⟩

theorem Wl.eqNil (n : Nat) (t : TypeId) (x y : Value) (hy : y = .pointer none ∨ y = .nilIface ∨ y = .nilFunc ∨ y = .slice none 0 0) : Wl P (Op.equalIn n t x y) := by
  cases n with
  | zero => unfold Op.equalIn; exact Wl.unsupported _
  | succ n =>
    unfold Op.equalIn
    rcases hy with rfl | rfl | rfl | rfl <;>
    repeat' (first | exact Wl.pure _ | exact Wl.stuck _ | exact Wl.unsupported _ | exact Wl.underlying _ | (refine Wl.bind (Wl.underlying _) (fun _ => ?_)) | split | dsimp only | (unfold samePointer; split) | (exfalso; simp at *; done))

theorem Wl.binNil (op : BinOp) (hop : op = .eql ∨ op = .neq) (t : TypeId) (x y : Value) (hy : y = .pointer none ∨ y = .nilIface ∨ y = .nilFunc ∨ y = .slice none 0 0) : Wl P (binOp op t x y) := by
  have hb : ∀ v, Wl P (Op.equal t v y) := fun v => Wl.eqNil _ t v y hy
  rcases hop with rfl | rfl <;> rcases hy with rfl | rfl | rfl | rfl <;> cases x <;> simp only [binOp] <;> exact (hb _).bind fun _ => Wl.pure _

theorem nilLit_val {y : Operand} (h : nilLit y = true) (ρ : Operand → Value) (hc : ∀ v, ρ (.const v) = v) : ρ y = .pointer none ∨ ρ y = .nilIface ∨ ρ y = .nilFunc ∨ ρ y = .slice none 0 0 := by
  unfold nilLit at h
  split at h <;> simp [hc] at h ⊢

theorem Wl.eqNum (n : Nat) (t : TypeId) (x y : Value) (hx : num x) (hy : num y) : Wl P (Op.equalIn n t x y) := by
  cases n with
  | zero => unfold Op.equalIn; exact Wl.unsupported _
  | succ n =>
    cases x <;> simp only [num] at hx <;> cases y <;> simp only [num] at hy <;> unfold Op.equalIn <;>
    repeat' (first | exact Wl.pure _ | exact Wl.stuck _ | exact Wl.unsupported _ | exact Wl.underlying _ | (refine Wl.bind (Wl.underlying _) (fun _ => ?_)) | split | dsimp only | (exfalso; simp at *; done))

theorem Wl.binNum (op : BinOp) (t : TypeId) (x y : Value) (hx : num x) (hy : num y) : Wl P (binOp op t x y) := by
  have he : Wl P (Op.equal t x y) := Wl.eqNum _ t x y hx hy
  cases x <;> simp only [num] at hx <;> cases y <;> simp only [num] at hy <;> cases op <;> simp only [binOp] <;>
  repeat' (first | exact Wl.pure _ | exact Wl.stuck _ | exact Wl.unsupported _ | exact Wl.intArith _ _ _ _ | exact Wl.intDiv _ _ _ _ | exact Wl.intBits _ _ _ _ | exact Wl.intCmp _ _ _ | exact Wl.shift _ _ _ _ _ | exact Wl.stringOp _ _ _ | exact he.bind fun _ => Wl.pure _ | split)

theorem Wl.guardPlain (op : BinOp) (t : TypeId) (x y : Operand) (a b : Value) (h : (∃ v, y = .const v) ∨ (num a ∧ num b)) (hag : ∀ cs, b ≠ .agg cs) : Wl P (eqGuard op t x y a b) := by
  have he : eqGuard op t x y a b = Pure.pure () := by
    unfold eqGuard
    by_cases hop : op = .eql ∨ op = .neq
    · rcases hop with rfl | rfl <;> rcases h with ⟨v, rfl⟩ | ⟨ha, hb⟩
      · cases a <;> cases b <;> first | rfl | exact absurd rfl (hag _) | simp
      · cases a <;> simp only [num] at ha <;> rfl
      · cases a <;> cases b <;> first | rfl | exact absurd rfl (hag _) | simp
      · cases a <;> simp only [num] at ha <;> rfl
    · cases op <;> first | rfl | exact absurd (.inl rfl) hop | exact absurd (.inr rfl) hop
  rw [he]
  exact Wl.pure _
end
end Go.Wb

namespace Go.Wb
open Go
section
variable {P : Program}

theorem Rd.load (a : Addr) (m : Mode) : Rd P (load a m) := fun w x w' h => by
  simp only [Go.load, Sem.run] at h
  split at h
  · simp only [Result.ok.injEq] at h; exact h.2.symm
  · split at h
    · simp only [Result.ok.injEq] at h; exact h.2.symm
    · cases h
theorem Rd.shape (r : Nat) : Rd P (shape r) := fun w x w' h => by
  simp only [Go.shape, Sem.run, Result.ok.injEq] at h; exact h.2.symm
theorem Rd.getObj (r : Nat) : Rd P (getObj r) := fun w x w' h => by
  simp only [Go.getObj, Sem.run] at h
  split at h
  · cases h
  · simp only [Result.ok.injEq] at h; exact h.2.symm
  · cases h
theorem Rd.loadCellsFrom (a : Addr) : ∀ (n i : Nat) (acc : Array Value), Rd P (loadCellsFrom a i n acc)
  | 0, i, acc => by unfold Go.loadCellsFrom; exact Rd.pure _
  | n + 1, i, acc => by unfold Go.loadCellsFrom; exact (Rd.load _ _).bind fun _ => Rd.loadCellsFrom a n _ _
theorem Rd.loadVar (t : TypeId) (a : Addr) : Rd P (loadVar t a) := by
  unfold Go.loadVar
  refine (Wl.isAgg t).rd.bind fun b => ?_
  split
  · exact (Wl.sizeOf t).rd.bind fun n => Rd.bind (by unfold loadCells; exact Rd.loadCellsFrom _ _ _ _) fun _ => Rd.pure _
  · exact Rd.load _ _
theorem Rd.loadAt (t : TypeId) (a : Value) : Rd P (Instr.loadAt t a) := by
  unfold Instr.loadAt
  exact (Wl.sureAddr a).rd.bind fun _ => Rd.loadVar _ _
theorem Rd.viewAt (r : Nat) : Rd P (viewAt r) := by
  unfold Go.viewAt
  repeat' (first | exact Rd.pure _ | exact Rd.shape _ | exact Rd.getObj _ | refine Rd.bind ?_ (fun _ => ?_) | split | dsimp only)
theorem Rd.noView (a : Addr) : Rd P (noView a) := by
  unfold Go.noView
  repeat' (first | exact Rd.pure _ | exact Rd.viewAt _ | exact (Wl.unsupported _).rd | refine Rd.bind ?_ (fun _ => ?_) | split | dsimp only)
theorem Rd.byteOf (a : Addr) : Rd P (byteOf a) := by
  unfold Go.byteOf
  repeat' (first | exact Rd.pure _ | exact Rd.noView _ | exact Rd.shape _ | exact Wl.program.rd | exact (Wl.unsupported _).rd | exact (Wl.stuck _).rd | refine Rd.bind ?_ (fun _ => ?_) | split | dsimp only)
theorem Rd.fieldAt (s : TypeId) (x : Value) (i : Nat) : Rd P (Instr.fieldAt s x i) := by
  unfold Instr.fieldAt fieldPlace partAt
  repeat' (first | exact Rd.pure _ | exact Rd.byteOf _ | exact (Wl.sizeOf _).rd | exact (Wl.underlying _).rd | exact (Wl.sureAddr _).rd | exact (Wl.stuck _).rd | refine Rd.bind ?_ (fun _ => ?_) | split | dsimp only)

theorem Wl.fieldAt {fs : Array Field} {f : Field} {inf : TypeInfo} (s : TypeId) (x : Value) (i : Nat) (hs : P.underlying s = some (.struct fs)) (hf : fs[i]? = some f) (hi : P.info? f.type = some inf) (hz : inf.size ≠ 0) : Wl P (Instr.fieldAt s x i) := by
  have hsz : ∀ w, (Go.sizeOf f.type).run P w = .ok inf.size w := fun w => by simp [Go.sizeOf, Go.typeInfo, hi]
  have key : ∀ a, Wl P (do Pure.pure (Value.pointer (some (← fieldPlace a f))) : Sem Value) := fun a => by
    have h1 : ∀ w, (fieldPlace a f).run P w = .ok (a.add f.offset) w := fun w => by
      simp [fieldPlace, hsz, hz]
    intro w x w' hr
    rw [Sem.run_bind, h1, Result.andThen_ok, Sem.run_pure] at hr
    simp only [Result.ok.injEq] at hr
    obtain ⟨rfl, rfl⟩ := hr
    exact ⟨rfl, fun w2 => by rw [Sem.run_bind, h1, Result.andThen_ok, Sem.run_pure]⟩
  have h2 : ∀ w, (Instr.fieldAt s x i).run P w = (Instr.sureAddr x >>= fun a => (do Pure.pure (Value.pointer (some (← fieldPlace a f))) : Sem Value)).run P w := fun w => by
    simp only [Instr.fieldAt, Sem.run_bind, run_underlying hs, Result.andThen_ok, hf]
  intro w y w' hr
  rw [h2] at hr
  obtain ⟨rfl, h3⟩ := ((Wl.sureAddr x).bind key) w y w' hr
  exact ⟨rfl, fun w2 => by rw [h2]; exact h3 w2⟩

/-- The builtin len, of a slice or a string. -/
def lenB (P : Program) (c : Call) : Bool :=
  (match c.callee with | .builtin b => b == .len | _ => false) && c.args.size == 1 && match c.argTypes[0]? with
    | some t => match P.underlying t with
      | some (.slice _) => true
      | some .string => true
      | _ => false
    | none => false

/-- Silent, by its kind and types. -/
def silentB (P : Program) (o : Oper) : Bool :=
  match o.op with
  | .move _ | .assign _ | .pick .. | .nilCheck _ | .extract .. | .field .. | .index .. | .indexAddr .. | .slice .. | .unOp .. | .binOp .. => true
  | .fieldAddr s _ i => match P.underlying s with
    | some (.struct fs) => match fs[i]? with
      | some f => match P.info? f.type with
        | some inf => inf.size != 0
        | none => false
      | none => false
    | _ => false
  | .convert _ dst _ => match P.underlying dst with
    | some (.int _) => true
    | _ => false
  | .call c => lenB P c
  | _ => false

/-- It only reads, by its kind. -/
def readsB (P : Program) (o : Oper) : Bool :=
  silentB P o || match o.op with
  | .load .. | .fieldAddr .. => true
  | _ => false

theorem num_agg {v : Value} (h : num v) : ∀ cs, v ≠ .agg cs := by
  cases v <;> simp only [num] at h <;> simp

theorem silentB_spec {o : Oper} (h : silentB P o = true) (ρ : Operand → Value) (hρ : Plain ρ) (hg : Good o ρ) : Silent P (execOp ρ o) := by
  obtain ⟨dst, op, type, pos, after, guard⟩ := o
  unfold silentB at h
  cases op <;> simp only [Bool.false_eq_true] at h
  case move x => exact silent_value _
  case assign x => exact silent_value _
  case pick c a b => exact silent_bind (Wl.asBool _) fun _ => silent_value _
  case nilCheck x => exact silent_nilCheck _ _ _ _ _ _ _
  case extract x i => exact silent_of (Wl.extract _ _)
  case field t x i => exact silent_of (Wl.field _ _ _)
  case index t x i => exact silent_of (Wl.index _ _ _)
  case indexAddr t x i => exact silent_of (Wl.indexAt _ _ _)
  case slice t x l hh m => exact silent_of (Wl.sliceAt _ _ _ _ _)
  case unOp op t x => exact silent_of (Wl.unary _ _)
  case binOp op t x y yt =>
    simp only [Good] at hg
    refine silent_of ?_
    rcases hg with ⟨hn, hop⟩ | ⟨hx, hy⟩
    · have hv := nilLit_val hn ρ hρ
      refine Wl.bind (Wl.guardPlain _ _ _ _ _ _ (.inl ?_) ?_) fun _ => Wl.binNil op hop t _ _ hv
      · cases y <;> simp [nilLit] at hn ⊢
      · rcases hv with hv | hv | hv | hv <;> rw [hv] <;> simp
    · exact Wl.bind (Wl.guardPlain _ _ _ _ _ _ (.inr ⟨hx, hy⟩) (num_agg hy)) fun _ => Wl.binNum op t _ _ hx hy
  case fieldAddr s x i =>
    split at h
    · rename_i fs hs
      split at h
      · rename_i f hf
        split at h
        · rename_i inf hi
          exact silent_of (Wl.fieldAt s _ i hs hf hi (by simpa using h))
        · cases h
      · cases h
    · cases h
  case convert src dst x =>
    simp only [Good] at hg
    split at h
    · rename_i k hk
      refine silent_of ?_
      simp only [convert]
      refine (Wl.underlying _).bind fun a => ?_
      intro w y w' hr
      rw [Sem.run_bind, run_underlying hk, Result.andThen_ok] at hr
      cases hx : ρ x <;> rw [hx] at hg <;> simp only [isInt] at hg
      rw [hx] at hr
      simp only [Conv.intToInt, Sem.run_pure, Result.ok.injEq] at hr
      obtain ⟨rfl, rfl⟩ := hr
      exact ⟨rfl, fun w2 => by rw [Sem.run_bind, run_underlying hk]; simp [Conv.intToInt]⟩
    · cases h
  case call c =>
    obtain ⟨callee, args, argTypes⟩ := c
    simp only [lenB, Bool.and_eq_true, beq_iff_eq] at h
    obtain ⟨⟨hb, ha⟩, ht⟩ := h
    cases callee <;> simp only [Bool.false_eq_true] at hb
    rename_i b
    obtain rfl : b = .len := by simpa using hb
    obtain ⟨x, rfl⟩ : ∃ x, args = #[x] := by
      obtain ⟨l⟩ := args
      match l, ha with
      | [x], _ => exact ⟨x, rfl⟩
    have hl : Wl P (Builtin.len_ argTypes type #[ρ x]) := Wl.len _ _ _ (by
      split at ht
      · rename_i t0 h0
        refine ⟨t0, h0, ?_⟩
        split at ht
        · rename_i e he; exact .inl ⟨e, he⟩
        · rename_i he; exact .inr he
        · cases ht
      · cases ht)
    have hs := silent_of hl
    intro w y w' hr
    have hE : ∀ w, (execOp ρ ⟨dst, .call ⟨.builtin .len, #[x], argTypes⟩, type, pos, after, guard⟩).run P w = (do Pure.pure (Next.value (← Builtin.len_ argTypes type #[ρ x])) : Sem Next).run P w := fun w => by
      simp [execOp, resolve, invoke, builtin]
    rw [hE] at hr
    obtain ⟨v, rfl, h2⟩ := hs w y w' hr
    exact ⟨v, rfl, fun w2 => by rw [hE]; exact h2 w2⟩

theorem readsB_spec {o : Oper} (h : readsB P o = true) (ρ : Operand → Value) (hρ : Plain ρ) (hg : Good o ρ) : Reads P (execOp ρ o) := by
  unfold readsB at h
  rw [Bool.or_eq_true] at h
  rcases h with h | h
  · exact (silentB_spec h ρ hρ hg).reads
  · obtain ⟨dst, op, type, pos, after, guard⟩ := o
    cases op <;> simp only [Bool.false_eq_true] at h
    case load t x => exact reads_of (Rd.loadAt _ _)
    case fieldAddr s x i => exact reads_of (Rd.fieldAt _ _ _)
end
end Go.Wb

namespace Go.Wb
open Go
section
variable {P : Program} {ops : Array Oper} {Q : Exit → Act → World → Prop}

/-- The check, by the kernel: sts are the operations that are told as calm. -/
def swapsB (P : Program) (ops : Array Oper) (sts : List Nat) : Bool :=
  Region.noSelect ops &&
  ((List.range ops.size).all fun i => match ops[i]? with
    | some oi => oi.after.all fun e => !Region.binds .any e || decide (e.on < i)
    | none => true) &&
  (List.range ops.size).all fun i => (List.range i).all fun j => match ops[i]?, ops[j]? with
    | some oi, some oj => needs ops ops.size i j || (oi.apart ops oj && (silentB P oj || silentB P oi || sts.contains j || sts.contains i || (readsB P oj && readsB P oi)))
    | _, _ => true

variable {S : World → Prop}

theorem swapsB_spec {sts : List Nat} (h : swapsB P ops sts = true) : Swaps P ops S (fun k => sts.contains k) := by
  simp only [swapsB, Bool.and_eq_true, List.all_eq_true, List.mem_range] at h
  obtain ⟨⟨h1, h2⟩, h3⟩ := h
  refine ⟨fun j o cs b => Region.noSelect_spec h1 j o cs b, fun i o ho e he hb => ?_, fun i oi j oj hi hj hji => ?_⟩
  · have := h2 i (Array.getElem?_eq_some_iff.1 ho).1
    rw [ho] at this
    simp only [Array.all_eq_true_iff_forall_mem, Bool.or_eq_true, Bool.not_eq_true', decide_eq_true_eq] at this
    exact (this e he).resolve_left (by simp [hb])
  · have := h3 i (Array.getElem?_eq_some_iff.1 hi).1 j hji
    rw [hi, hj] at this
    simp only [Bool.or_eq_true, Bool.and_eq_true] at this
    rcases this with h | ⟨hap, hc⟩
    · exact .inl ⟨_, h⟩
    · refine .inr ⟨hap, ?_⟩
      rcases hc with (((hc | hc) | hc) | hc) | ⟨hc1, hc2⟩
      · exact .inl fun ρ hρ hg => (silentB_spec hc ρ hρ hg.1).calm
      · exact .inr (.inl fun ρ hρ hg => (silentB_spec hc ρ hρ hg.1).calm)
      · exact .inl fun ρ _ hg => hg.2 hc
      · exact .inr (.inl fun ρ _ hg => hg.2 hc)
      · exact .inr (.inr ⟨fun ρ hρ hg => readsB_spec hc1 ρ hρ hg, fun ρ hρ hg => readsB_spec hc2 ρ hρ hg⟩)

/-- An operation that succeeds just where x is a number, a string, a bool; and writes nothing. -/
def chk (P : Program) (g : Option (Nat × Bool)) (t : TypeId) (x : Operand) : List Oper :=
  match x with
  | .const (.int ..) | .const (.string _) | .const (.bool _) => []
  | _ => match P.underlying t with
    | some (.int _) => [⟨none, .unOp .xor t x, t, "", #[], g⟩]
    | some .string => [⟨none, .call ⟨.builtin .len, #[x], #[t]⟩, t, "", #[], g⟩]
    | some .bool => [⟨none, .unOp .not t x, t, "", #[], g⟩]
    | _ => [⟨none, .extract (.const (.bool false)) 0, t, "", #[], g⟩]
def chkInt (g : Option (Nat × Bool)) (t : TypeId) (x : Operand) : List Oper := [⟨none, .unOp .xor t x, t, "", #[], g⟩]

def checks (P : Program) (o : Oper) : List Oper :=
  match o.op with
  | .binOp op t x y yt => if nilLit y && (op == .eql || op == .neq) then [] else chk P o.guard t x ++ chk P o.guard yt y
  | .convert s _ x => chkInt o.guard s x
  | _ => []

/-- The operations with the checks ahead of each one, cut behind each one that may turn the world. -/
def segs (P : Program) : List Oper → List Oper × List (List Oper)
  | [] => ([], [])
  | o :: l => if readsB P o then (checks P o ++ o :: (segs P l).1, (segs P l).2) else (checks P o ++ [o], (segs P l).1 :: (segs P l).2)

/-- A post for a region: it comes to its end. -/
def HQ (K : Act → World → Prop) : Exit → Act → World → Prop
  | .normal, a, w => K a w
  | _, _, _ => False
theorem HQ.tame (K : Act → World → Prop) : Tame (HQ K) := ⟨fun _ _ _ h => h, fun ⟨_, _, h⟩ => h⟩
@[go_sem] theorem HQ_normal (K : Act → World → Prop) (a : Act) (w : World) : HQ K .normal a w = K a w := rfl

/-- Each operation that is told as calm yields one value in all worlds that meet S. -/
def stabs (P : Program) (ops : Array Oper) (S : World → Prop) (a : Act) : List Nat → Prop
  | [] => True
  | k :: r => (∃ v, ∀ w, S w → ((ops[k]?).map fun o => (execOp a.eval o).run P w) = some (.ok (.value v) w)) ∧ stabs P ops S a r

def heldPost (P : Program) (ops : Array Oper) (S : World → Prop) (sts : List Nat) (Q : Exit → Act → World → Prop) : List (List Oper) → Exit → Act → World → Prop
  | [] => HQ fun a w => stabs P ops S a sts ∧ Q .normal a w
  | [[]] => HQ fun a w => stabs P ops S a sts ∧ Q .normal a w
  | seg :: rest => HQ fun a w => S w ∧ wpList P ops (heldPost P ops S sts Q rest) seg a w

theorem heldPost.tame {sts : List Nat} (rest : List (List Oper)) : Tame (heldPost P ops S sts Q rest) := by
  unfold heldPost
  split <;> exact HQ.tame _

/-- The last operation waits for all others. -/
def barB (ops : Array Oper) : Bool := (List.range (ops.size - 1)).all fun j => needs ops ops.size (ops.size - 1) j

theorem held_cons {sts : List Nat} {l : List Oper} {a : Act} {w : World} (h : heldPost P ops S sts Q ((segs P l).1 :: (segs P l).2) .normal a w) :
    (l ≠ [] → S w) ∧ wpList P ops (heldPost P ops S sts Q (segs P l).2) (segs P l).1 a w := by
  cases l with
  | nil => exact ⟨fun h => absurd rfl h, h⟩
  | cons o l =>
    have e : ∀ (seg : List Oper) rest, (seg = [] → rest ≠ []) → heldPost P ops S sts Q (seg :: rest) .normal a w → S w ∧ wpList P ops (heldPost P ops S sts Q rest) seg a w := fun seg rest hne hh => by
      cases seg with
      | nil =>
        cases rest with
        | nil => exact absurd rfl (hne rfl)
        | cons _ _ => exact hh
      | cons _ _ => exact hh
    have := e _ _ (by
      unfold segs
      split
      · intro h; simp at h
      · intro _; simp) h
    exact ⟨fun _ => this.1, this.2⟩

/-- A check that has gone through. -/
theorem chk_step (hQ : Tame Q) {c : Oper} (hd : c.dst = none) {R : (Operand → Value) → Prop} (hc : ∀ ρ, Plain ρ → ∀ w x w', (execOp ρ c).run P w = .ok x w' → w' = w ∧ (∃ v, x = .value v) ∧ R ρ) {rest : List Oper} {a : Act} {w : World}
    (h : wpList P ops Q (c :: rest) a w) : (Region.wanted c (yielded ops a.tmps) = true → R a.eval) ∧ wpList P ops Q rest a w := by
  unfold wpList at h
  split at h
  · rename_i hw
    rcases h with h | ⟨_, h⟩
    · unfold Oper.wp at h
      cases hr : (execOp a.eval c).run P w with
      | ok x w' =>
        obtain ⟨rfl, ⟨v, rfl⟩, hR⟩ := hc a.eval (fun _ => rfl) w x w' hr
        rw [hr] at h
        simp only [Oper.upon, hd, Act.put] at h
        exact ⟨fun _ => hR, h⟩
      | halt x w' =>
        rw [hr] at h
        cases x <;> simp only [Oper.upon] at h
        exact (hQ.panic _ _ _ h).elim
    · exact (hQ.out h).elim
  · rename_i hw
    rw [hd] at h
    exact ⟨fun hw' => absurd hw' hw, h⟩

theorem run_value {s : Sem Value} {w : World} {x : Next} {w' : World} (hr : (do Pure.pure (Next.value (← s)) : Sem Next).run P w = .ok x w') : ∃ v, x = .value v ∧ s.run P w = .ok v w' := by
  rw [Sem.run_bind] at hr
  cases hs : s.run P w with
  | halt e w1 => rw [hs] at hr; simp [Result.andThen] at hr
  | ok a w1 =>
    rw [hs, Result.andThen_ok, Sem.run_pure] at hr
    simp only [Result.ok.injEq] at hr
    obtain ⟨rfl, rfl⟩ := hr
    exact ⟨a, rfl, rfl⟩

theorem unary_xor {v y : Value} {w w' : World} (h : (Op.unary .xor v).run P w = .ok y w') : isInt v ∧ w' = w := by
  have := (Wl.unary (P := P) .xor v w y w' h).1
  refine ⟨?_, this⟩
  cases v <;> simp [Op.unary, Go.stuck, Go.unsupported] at h <;> first | trivial | (rename_i a; cases a <;> simp at h)
theorem unary_not {v y : Value} {w w' : World} (h : (Op.unary .not v).run P w = .ok y w') : num v ∧ w' = w := by
  have := (Wl.unary (P := P) .not v w y w' h).1
  refine ⟨?_, this⟩
  cases v <;> simp [Op.unary, Go.stuck] at h <;> trivial
theorem isInt.num {v : Value} (h : isInt v) : num v := by cases v <;> simp only [isInt] at h <;> trivial

theorem chkInt_step (hQ : Tame Q) {g : Option (Nat × Bool)} {t : TypeId} {x : Operand} {rest : List Oper} {a : Act} {w : World} (h : wpList P ops Q (chkInt g t x ++ rest) a w) :
    (∀ o : Oper, o.guard = g → Region.wanted o (yielded ops a.tmps) = true → isInt (a.eval x)) ∧ wpList P ops Q rest a w := by
  have := chk_step hQ (R := fun ρ => isInt (ρ x)) rfl (fun ρ hρ w x w' hr => by
    obtain ⟨v, rfl, hv⟩ := run_value hr
    exact ⟨(unary_xor hv).2, ⟨v, rfl⟩, (unary_xor hv).1⟩) h
  exact ⟨fun o ho hw => this.1 (by simpa [Region.wanted, ho] using hw), this.2⟩

theorem chk_num (hQ : Tame Q) {g : Option (Nat × Bool)} {t : TypeId} {x : Operand} {rest : List Oper} {a : Act} {w : World} (h : wpList P ops Q (chk P g t x ++ rest) a w) :
    (∀ o : Oper, o.guard = g → Region.wanted o (yielded ops a.tmps) = true → num (a.eval x)) ∧ wpList P ops Q rest a w := by
  unfold chk at h
  split at h
  · exact ⟨fun _ _ _ => trivial, h⟩
  · exact ⟨fun _ _ _ => trivial, h⟩
  · exact ⟨fun _ _ _ => trivial, h⟩
  · split at h
    · have := chk_step hQ (R := fun ρ => num (ρ x)) rfl (fun ρ hρ w x w' hr => by
        obtain ⟨v, rfl, hv⟩ := run_value hr
        exact ⟨(unary_xor hv).2, ⟨v, rfl⟩, (unary_xor hv).1.num⟩) h
      exact ⟨fun o ho hw => this.1 (by simpa [Region.wanted, ho] using hw), this.2⟩
    · rename_i hu
      have := chk_step hQ (R := fun ρ => num (ρ x)) rfl (fun ρ hρ w y w' hr => by
        have hE : (execOp ρ ⟨none, .call ⟨.builtin .len, #[x], #[t]⟩, t, "", #[], g⟩).run P w = (do Pure.pure (Next.value (← Builtin.len_ #[t] t #[ρ x])) : Sem Next).run P w := by
          simp [execOp, resolve, invoke, builtin]
        rw [hE] at hr
        obtain ⟨v, rfl, hv⟩ := run_value hr
        refine ⟨(Wl.len (P := P) #[t] t (ρ x) ⟨t, rfl, .inr hu⟩ w v w' hv).1, ⟨v, rfl⟩, ?_⟩
        unfold Builtin.len_ at hv
        simp only [List.getElem?_toArray, List.getElem?_cons_zero] at hv
        rw [Sem.run_bind, run_underlying hu, Result.andThen_ok] at hv
        cases hx : ρ x <;> rw [hx] at hv <;> simp [Go.stuck] at hv <;> trivial) h
      exact ⟨fun o ho hw => this.1 (by simpa [Region.wanted, ho] using hw), this.2⟩
    · have := chk_step hQ (R := fun ρ => num (ρ x)) rfl (fun ρ hρ w x w' hr => by
        obtain ⟨v, rfl, hv⟩ := run_value hr
        exact ⟨(unary_not hv).2, ⟨v, rfl⟩, (unary_not hv).1⟩) h
      exact ⟨fun o ho hw => this.1 (by simpa [Region.wanted, ho] using hw), this.2⟩
    · have := chk_step hQ (R := fun ρ => num (ρ x)) rfl (fun ρ hρ w y w' hr => by
        obtain ⟨v, rfl, hv⟩ := run_value hr
        rw [hρ] at hv
        simp [Instr.extract, Go.stuck] at hv) h
      exact ⟨fun o ho hw => this.1 (by simpa [Region.wanted, ho] using hw), this.2⟩

theorem checks_good (hQ : Tame Q) {o : Oper} {rest : List Oper} {a : Act} {w : World} (h : wpList P ops Q (checks P o ++ rest) a w) :
    (Region.wanted o (yielded ops a.tmps) = true → Good o a.eval) ∧ wpList P ops Q rest a w := by
  obtain ⟨dst, op, type, pos, after, guard⟩ := o
  unfold checks at h
  cases op <;> try exact ⟨fun _ => trivial, h⟩
  case binOp op t x y yt =>
    simp only at h
    split at h
    · rename_i hc
      simp only [Bool.and_eq_true, Bool.or_eq_true, beq_iff_eq] at hc
      exact ⟨fun _ => .inl ⟨hc.1, hc.2⟩, h⟩
    · rw [List.append_assoc] at h
      obtain ⟨h1, h2⟩ := chk_num hQ h
      obtain ⟨h3, h4⟩ := chk_num hQ h2
      exact ⟨fun hw => .inr ⟨h1 _ rfl hw, h3 _ rfl hw⟩, h4⟩
  case convert s d x =>
    obtain ⟨h1, h2⟩ := chkInt_step hQ h
    exact ⟨fun hw => h1 _ rfl hw, h2⟩

/-- The operands of what is told as calm are written by nothing behind it. -/
def stOk (ops : Array Oper) (sts : List Nat) : Bool :=
  sts.all fun k => match ops[k]? with
    | some o => o.guard.isNone && (List.range ops.size).all fun j => decide (j < k) || match ops[j]? with
      | some oj => match oj.dst with
        | some d => !(o.looksAt ops).contains d
        | none => true
      | none => true
    | none => false

theorem stabs_spec {a : Act} {sts : List Nat} (h : stabs P ops S a sts) {k : Nat} (hk : k ∈ sts) {o : Oper} (ho : ops[k]? = some o) : ∃ v, ∀ w, S w → (execOp a.eval o).run P w = .ok (.value v) w := by
  induction sts with
  | nil => cases hk
  | cons j r ih =>
    rcases List.mem_cons.1 hk with rfl | hk
    · obtain ⟨v, hv⟩ := h.1
      refine ⟨v, fun w hS => ?_⟩
      have := hv w hS
      rw [ho] at this
      simpa using this
    · exact ih h.2 hk

/-- Some end of the walk, of whose frame the slots that aren't written are as they are. -/
theorem some_end {sts : List Nat} : ∀ (l : List Oper) (k : Nat), (∀ j, l[j]? = ops[k + j]?) → ∀ (a : Act) (w : World),
    wpList P ops (heldPost P ops S sts Q (segs P l).2) (segs P l).1 a w →
    ∃ a', stabs P ops S a' sts ∧ ∀ t, (∀ j o, k ≤ j → ops[j]? = some o → o.dst ≠ some t) → a'.eval (.tmp t) = a.eval (.tmp t) := by
  intro l
  induction l with
  | nil => intro k _ a w h; exact ⟨a, h.1, fun _ _ => rfl⟩
  | cons o l ih =>
    intro k hk a w h
    have h0 : ops[k]? = some o := by simpa using (hk 0).symm
    have hk' : ∀ j, l[j]? = ops[k + 1 + j]? := fun j => by have := hk (j + 1); simpa [Nat.add_assoc, Nat.add_comm 1] using this
    have fin : ∀ (ds : List Deferred) (u : Value) (w1 : World), wpList P ops (heldPost P ops S sts Q (segs P l).2) (segs P l).1 (({ a with defers := ds } : Act).put o.dst u) w1 →
        ∃ a', stabs P ops S a' sts ∧ ∀ t, (∀ j o, k ≤ j → ops[j]? = some o → o.dst ≠ some t) → a'.eval (.tmp t) = a.eval (.tmp t) := fun ds u w1 hh => by
      obtain ⟨a', h1, h2⟩ := ih (k + 1) hk' _ w1 hh
      refine ⟨a', h1, fun t ht => ?_⟩
      rw [h2 t (fun j o hj => ht j o (by omega)), Act.eval_put (fun d hd hx => by
        simp only [Operand.tmp.injEq] at hx
        subst hx
        exact ht k o (Nat.le_refl _) h0 hd)]
      rfl
    have step : ∀ {Q' : Exit → Act → World → Prop} {rest : List Oper}, Tame Q' → wpList P ops Q' (o :: rest) a w → ∃ u w1 ds, wpList P ops Q' rest (({ a with defers := ds } : Act).put o.dst u) w1 := fun {Q' rest} hQ' hh => by
      have h2 : wpOp P ops Q' k (wpList P ops Q' rest) a w := by
        unfold wpOp
        simp only [h0]
        unfold wpList at hh
        exact hh
      exact outcome hQ' h0 h2
    unfold segs at h
    split at h
    · obtain ⟨_, h1⟩ := checks_good (heldPost.tame _) h
      obtain ⟨u, w1, ds, h2⟩ := step (heldPost.tame _) h1
      exact fin ds u w1 h2
    · obtain ⟨_, h1⟩ := checks_good (heldPost.tame _) h
      obtain ⟨u, w1, ds, h2⟩ := step (heldPost.tame _) h1
      exact fin ds u w1 (held_cons h2).2

theorem gOps_of_held {sts : List Nat} (hno : Region.noSelect ops = true) (hst : stOk ops sts = true) : ∀ (l : List Oper) (k : Nat), (∀ j, l[j]? = ops[k + j]?) → ∀ (a : Act) (w : World), (l ≠ [] → S w) →
    wpList P ops (heldPost P ops S sts Q (segs P l).2) (segs P l).1 a w → gOps P ops S (fun k => sts.contains k) (ops.size - 1) (HQ fun a w => Q .normal a w) (List.range' k l.length) a w := by
  intro l
  induction l with
  | nil => intro k _ a w _ h; exact h.2
  | cons o l ih =>
    intro k hk a w hS h
    replace hS := hS (by simp)
    have h0 : ops[k]? = some o := by simpa using (hk 0).symm
    have hk' : ∀ j, l[j]? = ops[k + 1 + j]? := fun j => by have := hk (j + 1); simpa [Nat.add_assoc, Nat.add_comm 1] using this
    have hlast : k ≠ ops.size - 1 → l ≠ [] := fun hne hl => by
      have h1 := hk' 0
      rw [hl] at h1
      have h2 := (Array.getElem?_eq_some_iff.1 h0).1
      rw [Nat.add_zero, Array.getElem?_eq_getElem (by omega)] at h1
      cases h1
    have hcalm : sts.contains k = true → CalmAt P S o a.eval := fun hc => by
      obtain ⟨a', hs, he⟩ := some_end (o :: l) k hk a w h
      have hk2 : k ∈ sts := by simpa using hc
      obtain ⟨v, hv⟩ := stabs_spec hs hk2 h0
      have hst2 := List.all_eq_true.1 hst k hk2
      rw [h0] at hst2
      simp only [Bool.and_eq_true, List.all_eq_true, List.mem_range] at hst2
      have hex : execOp a'.eval o = execOp a.eval o := execOp_congr o (fun cs b => Region.noSelect_spec hno k o cs b h0) fun x hx => by
        cases x with
        | tmp t =>
          refine he t fun j oj hj hoj hd => ?_
          have := hst2.2 j (Array.getElem?_eq_some_iff.1 hoj).1
          rw [hoj] at this
          simp only [hd, Bool.or_eq_true, decide_eq_true_eq, Bool.not_eq_true'] at this
          rcases this with h | h
          · omega
          · have hm : t ∈ o.looksAt ops := List.mem_append_left _ (List.mem_filterMap.2 ⟨.tmp t, by simpa using hx, rfl⟩)
            simp [hm] at h
        | _ => rfl
      rw [hex] at hv
      intro w1 x w1' hS1 hr
      rw [hv w1 hS1] at hr
      simp only [Result.ok.injEq] at hr
      exact ⟨v, hr.1.symm, hv⟩
    have toOp : ∀ {Q' : Exit → Act → World → Prop} {rest : List Oper}, wpList P ops Q' (o :: rest) a w → wpOp P ops Q' k (wpList P ops Q' rest) a w := fun {Q' rest} hh => by
      unfold wpOp
      simp only [h0]
      unfold wpList at hh
      exact hh
    -- a change of the post, where no panic and no outgrown memory gets by
    have post : ∀ {Q1 Q2 : Exit → Act → World → Prop} {K : Act → World → Prop}, Tame Q1 → wpOp P ops Q1 k K a w → wpOp P ops Q2 k K a w := fun {Q1 Q2 K} hQ1 hh => by
      unfold wpOp at *
      simp only [h0] at *
      split
      · rename_i hw
        simp only [hw, if_true] at hh
        rcases hh with hh | ⟨_, hh⟩
        case inr => exact (hQ1.out hh).elim
        refine .inl ?_
        unfold Oper.wp at *
        cases hr : (execOp a.eval o).run P w with
        | ok n w' =>
          rw [hr] at hh
          cases n <;> simp only [Oper.upon] at hh ⊢ <;> first | exact hh | exact Calls.mono hh (fun e w'' he => by cases e <;> first | exact he | exact (hQ1.panic _ _ _ he).elim | exact (hQ1.out he).elim)
        | halt x w' =>
          rw [hr] at hh
          cases x <;> simp only [Oper.upon] at hh ⊢ <;> exact (hQ1.panic _ _ _ hh).elim
      · rename_i hw
        simp only [hw] at hh
        exact hh
    simp only [List.length_cons, List.range'_succ]
    unfold segs at h
    split at h
    · rename_i hrd
      obtain ⟨hg, h1⟩ := checks_good (heldPost.tame _) h
      have hgd : ∀ o', ops[k]? = some o' → Region.wanted o' (yielded ops a.tmps) = true → Gd P S (fun k => sts.contains k) k o' a.eval := fun o' ho' hw => by
        rw [h0] at ho'; cases ho'; exact ⟨hg hw, hcalm⟩
      obtain ⟨v, hy, h2⟩ := reads_yields (heldPost.tame _) (fun ρ hρ hg => readsB_spec hrd ρ hρ hg) h0 hgd (toOp h1)
      exact reads_gOp h0 hS hy (ih (k + 1) hk' _ w (fun _ => hS) h2)
    · obtain ⟨hg, h1⟩ := checks_good (heldPost.tame _) h
      refine ⟨post (heldPost.tame _) (wpOp_mono (fun a' w' hh => ⟨fun hne => (held_cons hh).1 (hlast hne), ih (k + 1) hk' a' w' (held_cons hh).1 (held_cons hh).2⟩) (toOp h1)), fun o' ho' hw => ?_⟩
      rw [h0] at ho'
      cases ho'
      exact ⟨hg hw, hcalm⟩

/-- THE LAW: a region that draws its order is walked in the order of the text. S holds from its begin on, and behind each operation that may turn the world; the operations 'sts' (loads) yield one value wherever S holds. -/
theorem wp_held {id : Nat} {l : List Oper} {a : Act} {w : World} (S : World → Prop) (sts : List Nat) {seg : List Oper} {rest : List (List Oper)}
    (hm : P.follows .mixedOrders = true) (hs : swapsB P l.toArray sts = true) (hst : (stOk l.toArray sts && barB l.toArray) = true) (hl : segs P l = (seg, rest)) (hS : S w.drew)
    (h : wpList P l.toArray (heldPost P l.toArray S sts Q rest) seg a w.drew) : (Code.region id l.toArray true).wp P Q a w := by
  have hno : Region.noSelect l.toArray = true := by
    simp only [swapsB, Bool.and_eq_true] at hs
    exact hs.1.1
  rw [Bool.and_eq_true] at hst
  refine wp_swaps (Q := HQ fun a w => Q .normal a w) (z := l.toArray.size - 1) hm (HQ.tame _) (fun e a w h => by cases e <;> first | exact h | exact h.elim) (swapsB_spec (S := S) hs) ⟨by omega, fun j hj _ => ⟨_, List.all_eq_true.1 hst.2 j (List.mem_range.2 hj)⟩⟩ hS ?_
  rw [List.range_eq_range']
  have h' : wpList P l.toArray (heldPost P l.toArray S sts Q (segs P l).2) (segs P l).1 a w.drew := by rw [hl]; exact h
  exact gOps_of_held hno hst.1 l 0 (by simp) a _ (fun _ => hS) h'

theorem gOps_of_calm : ∀ (l : List Oper) (k : Nat), (∀ j, l[j]? = ops[k + j]?) → ∀ (a : Act) (w : World),
    wpList P ops (HQ fun a w => Q .normal a w) (l.flatMap fun o => checks P o ++ [o]) a w → gOps P ops (fun _ => True) (fun _ => false) ops.size (HQ fun a w => Q .normal a w) (List.range' k l.length) a w := by
  intro l
  induction l with
  | nil => intro k _ a w h; exact h
  | cons o l ih =>
    intro k hk a w h
    have h0 : ops[k]? = some o := by simpa using (hk 0).symm
    have hk' : ∀ j, l[j]? = ops[k + 1 + j]? := fun j => by have := hk (j + 1); simpa [Nat.add_assoc, Nat.add_comm 1] using this
    rw [List.flatMap_cons, List.append_assoc] at h
    obtain ⟨hg, h1⟩ := checks_good (HQ.tame _) h
    simp only [List.length_cons, List.range'_succ]
    have h2 : wpOp P ops (HQ fun a w => Q .normal a w) k (wpList P ops (HQ fun a w => Q .normal a w) (l.flatMap fun o => checks P o ++ [o])) a w := by
      unfold wpOp
      simp only [h0]
      unfold wpList at h1
      exact h1
    refine ⟨wpOp_mono (fun a' w' hh => ⟨fun _ => trivial, ih (k + 1) hk' a' w' hh⟩) h2, fun o' ho' hw => ?_⟩
    rw [h0] at ho'
    cases ho'
    exact ⟨hg hw, fun h => by cases h⟩

/-- THE LAW, where nothing need be held: the operations that may turn the world wait for all loads ahead of them, and all loads behind wait for them. -/
theorem wp_calm {id : Nat} {l : List Oper} {a : Act} {w : World} {l' : List Oper} (hm : P.follows .mixedOrders = true) (hs : swapsB P l.toArray [] = true) (hl : (l.flatMap fun o => checks P o ++ [o]) = l')
    (h : wpList P l.toArray (HQ fun a w => Q .normal a w) l' a w.drew) : (Code.region id l.toArray true).wp P Q a w := by
  refine wp_swaps (S := fun _ => True) (Q := HQ fun a w => Q .normal a w) (z := l.toArray.size) hm (HQ.tame _) (fun e a w h => by cases e <;> first | exact h | exact h.elim) (kd := fun _ => false) (swapsB_spec hs) ⟨by omega, fun j _ h => absurd h (by omega)⟩ trivial ?_
  rw [List.range_eq_range']
  subst hl
  exact gOps_of_calm l 0 (by simp) a _ h
end
end Go.Wb

namespace Go.Proofs.Ytckplcmieelmpaa.W
open Go.RowKit Go.Wb

/-- The keys, the items, their order, their cells. -/
abbrev Ky := ByteArray
abbrev It := Ky × Int
def ky (x : It) : Ky := x.1
def kv (k : Ky) : Value := .string k
def klt (a b : Ky) : Bool := Op.bytesLess a.toList b.toList
def ilt (a b : It) : Bool := klt (ky a) (ky b)
def E : Enc It := ⟨fun x => [.int .i64 x.2, kv x.1], 2, fun _ => rfl, fun x v hv => by rcases List.mem_cons.1 hv with rfl | hv <;> first | rfl | (obtain rfl := List.mem_singleton.1 hv; rfl), by omega⟩
def TT : Ty := { node := 172, nodeP := 164, pair := 161, kids := 173, s := E.s }

/-- The cells of a node's block. -/
theorem blk4 {w : World} {n : Nat} {a b c d : Value} {t : TypeId} (h : w.heap[n]? = some (.cells #[a, b, c, d] t (0, 0))) :
    w.cell? ⟨n, 0, none⟩ = some a ∧ w.cell? ⟨n, 1, none⟩ = some b ∧ w.cell? ⟨n, 2, none⟩ = some c ∧ w.cell? ⟨n, 3, none⟩ = some d ∧ ∀ o, w.frozen? ⟨n, o, none⟩ = false := by
  simp [World.cell?, World.frozen?, h]
theorem blk1 {w : World} {n : Nat} {a : Value} {t : TypeId} (h : w.heap[n]? = some (.cells #[a] t (0, 0))) :
    w.cell? ⟨n, 0, none⟩ = some a ∧ ∀ o, w.frozen? ⟨n, o, none⟩ = false := by
  simp [World.cell?, World.frozen?, h]

-- leaf
set_option maxHeartbeats 400000 in
theorem leaf_any {w : World} {n : Nat} {r : NRec It} {L : Lay} (h : NodeAt TT E w n r L) :
    Calls Try.prog 121 #[ptr n] w fun e w' => e = .returned (.bool r.kids.isNone) ∧ w = w' := by
  obtain ⟨c0, c1, c2, c3, _⟩ := blk4 h.1
  clear c0 c1 c2 h
  unfold ptr
  cases hk : r.kids with
  | none =>
    rw [hk] at c3
    simp only [kidsVal] at c3
    clear hk
    go_enter Try.func121, Try.ntmps121
    go_wp2
    go_ret
    exact ⟨rfl, rfl⟩
  | some ks =>
    rw [hk] at c3
    simp only [kidsVal, ptr] at c3
    clear hk
    go_enter Try.func121, Try.ntmps121
    go_wp2
    go_ret
    exact ⟨rfl, rfl⟩

/-- degreeToMinMax -/
def mxOf (d : Int) : Int := if d ≤ 0 then 63 else if d = 1 then 3 else d * 2 - 1
set_option maxHeartbeats 400000 in
theorem minMax_any (d : Int) (w : World) (h1 : -9223372036854775808 ≤ d) (h2 : d ≤ 4000000000000000000) :
    Calls Try.prog 170 #[.int .i64 d] w fun e w' => e = .returned (.tuple #[.int .i64 (mxOf d / 2), .int .i64 (mxOf d)]) ∧ w = w' := by
  unfold mxOf
  by_cases h0 : d ≤ 0
  · go_enter Try.func170, Try.ntmps170
    go_wp2
    go_ret2
    exact ⟨by simp, rfl⟩
  · by_cases h1' : d = 1
    · subst h1'
      go_enter Try.func170, Try.ntmps170
      go_wp2
      go_ret2
      exact ⟨rfl, rfl⟩
    · have hb : (d == 1) = false := by simpa using h1'
      have hp : 0 ≤ d * 2 - 1 := by omega
      go_enter Try.func170, Try.ntmps170
      go_wp2
      go_ret2
      exact ⟨by simp, rfl⟩
end Go.Proofs.Ytckplcmieelmpaa.W

namespace Go.Wb
open Go
/-- The address of a part that takes no cell, at the head of what it is a part of. -/
theorem run_part0 {P : Program} {w : World} {b o e n sz : Nat} (hsh : w.shape? b = some (e, n)) (hc : P.cellsOf e = sz) (hsz : sz ≠ 0) (hb : (byteOfCell P P.depth e (o % sz)).isSome = true) :
    (partAt ⟨b, o, none⟩ 0 0).run P w = .ok ⟨b, o, none⟩ w := by
  obtain ⟨v, hv⟩ := Option.isSome_iff_exists.1 hb
  have hview : ∀ a : Addr, a.block = b → (noView a).run P w = .ok () w := fun a ha => by
    simp [noView, viewAt, shape, Sem.run, ha, hsh]
  have hby : (byteOf ⟨b, o, none⟩).run P w = .ok (o / sz * P.bytesOf e + v) w := by
    have := hview ⟨b, o, none⟩ rfl
    simp [byteOf, program, shape, Sem.run, this, hsh, hc, hsz, hv]
  simp [partAt, hby]
end Go.Wb

namespace Go.Proofs.Ytckplcmieelmpaa.W
open Go.RowKit Go.Wb

/-- A tree's head. -/
structure HRec where
  iso : Int
  ctr : Option Addr
  root : Option Nat
  cnt : Int
  emp : It
  mn : Int
  mx : Int
  cv : Bool
  icv : Bool
def rootV (r : Option Nat) : Value := .pointer (r.map fun n => ⟨n, 0, none⟩)
def hdrC (h : HRec) : Array Value := #[.int .u64 h.iso, .pointer h.ctr, rootV h.root, .int .i64 h.cnt, .int .i64 h.emp.2, kv (ky h.emp), .int .i64 h.mn, .int .i64 h.mx, .bool h.cv, .bool h.icv]
/-- The head lies at block b. -/
def Hdr (w : World) (b : Nat) (h : HRec) : Prop := w.heap[b]? = some (.cells (hdrC h) 166 (0, 0))

theorem hdr_cells {w : World} {b : Nat} {h : HRec} (hh : Hdr w b h) : w.cell? ⟨b, 0, none⟩ = some (.int .u64 h.iso) ∧ w.cell? ⟨b, 1, none⟩ = some (.pointer h.ctr) ∧ w.cell? ⟨b, 2, none⟩ = some (rootV h.root) ∧ w.cell? ⟨b, 3, none⟩ = some (.int .i64 h.cnt) ∧
     w.cell? ⟨b, 4, none⟩ = some (.int .i64 h.emp.2) ∧ w.cell? ⟨b, 5, none⟩ = some (kv (ky h.emp)) ∧ w.cell? ⟨b, 6, none⟩ = some (.int .i64 h.mn) ∧ w.cell? ⟨b, 7, none⟩ = some (.int .i64 h.mx) ∧ w.cell? ⟨b, 8, none⟩ = some (.bool h.cv) ∧ w.cell? ⟨b, 9, none⟩ = some (.bool h.icv) ∧
    (∀ o, w.frozen? ⟨b, o, none⟩ = false) ∧ w.shape? b = some (166, (hdrC h).size) := by
  unfold Hdr at hh
  simp [World.cell?, World.frozen?, World.shape?, hh]
  simp [hdrC]


set_option maxHeartbeats 1000000 in
theorem init_new {w : World} {b : Nat} {h : HRec} (hh : Hdr w b h) (d : Int) (h1 : -9223372036854775808 ≤ d) (h2 : d ≤ 4000000000000000000) (h0 : h.mn = 0) :
    Calls Try.prog 122 #[ptr b, .int .i64 d] w fun e w' => e = .returned (.tuple #[]) ∧ Hdr w' b { h with mn := mxOf d / 2, mx := mxOf d, cv := false, icv := false } ∧ Keep (fun x _ => x = b) w w' := by
  obtain ⟨iso, ctr, root, cnt, emp, mn, mx, cv, icv⟩ := h
  simp only at h0
  subst h0
  have HH := Lib.hid hh
  obtain ⟨d0, d1, d2, d3, c4, c5, c6, c7, c8, c9, fz, sh⟩ := hdr_cells hh
  clear d0 d1 d2 d3 sh
  simp only at c4 c5 c6 c7 c8 c9
  clear hh
  unfold ptr
  go_enter Try.func122, Try.ntmps122
  go_wp2_with fail
  refine (minMax_any d _ h1 h2).mono ?_
  rintro e w1 ⟨rfl, rfl⟩
  go_upto_region 2 with (fail)
  refine wp_world ?_
  intro W1 hW1
  clear c4 c5 c6 c7 c8 c9 fz
  have H1 : Hid (Hdr W1 b ⟨iso, ctr, root, cnt, emp, mxOf d / 2, mxOf d, cv, icv⟩) := by
    subst hW1
    exact blk_set _ (blk_set _ HH.out)
  have K1 : Keep (fun x _ => x = b) w W1 := by
    subst hW1
    refine ((Keep.refl _ _).set _ _ _ ?_).set _ _ _ ?_ <;> exact fun _ => rfl
  replace K1 := Lib.hid K1
  clear hW1
  obtain ⟨d0, d1, d2, d3, c4, c5, c6, c7, c8, c9, fz, sh⟩ := hdr_cells H1.out
  clear d0 d1 d2 d3 sh
  simp only at c4 c5 c6 c7 c8 c9
  have mi : ∀ w', (Instr.makeInterface 3 (.int .i64 emp.2)).run Try.prog w' = .ok (.iface 3 (.int .i64 emp.2)) w' := fun _ => by kernel_rfl
  have ta : ∀ w', (Instr.typeAssert (.iface 3 (.int .i64 emp.2)) 20 239 true).run Try.prog w' = .ok (.tuple #[.nilIface, .bool false]) w' := fun w' => run_typeAssert_lacksB Try.underlying239 (by kernel_rfl) (by kernel_rfl) _ _ w'
  have tb : ∀ w', (Instr.typeAssert (.iface 3 (.int .i64 emp.2)) 20 242 true).run Try.prog w' = .ok (.tuple #[.nilIface, .bool false]) w' := fun w' => run_typeAssert_lacksB Try.underlying242 (by kernel_rfl) (by kernel_rfl) _ _ w'
  go_upto_region 3 with (fail)
  refine wp_world ?_
  intro W2 hW2
  clear c4 c5 c6 c7 c8 c9 fz
  have H2 : Hid (Hdr W2 b ⟨iso, ctr, root, cnt, emp, mxOf d / 2, mxOf d, false, icv⟩) := by
    subst hW2
    exact blk_set _ H1.out
  have K2 : Keep (fun x _ => x = b) w W2 := by
    subst hW2
    refine K1.out.set _ _ _ ?_; exact fun _ => rfl
  replace K2 := Lib.hid K2
  clear hW2
  obtain ⟨d0, d1, d2, d3, c4, c5, c6, c7, c8, c9, fz, sh⟩ := hdr_cells H2.out
  clear d0 d1 d2 d3 sh
  simp only at c4 c5 c6 c7 c8 c9
  go_wp2_with fail
  go_end0
  exact ⟨rfl, blk_set _ H2.out, K2.out.set _ _ _ (fun _ => rfl)⟩
end Go.Proofs.Ytckplcmieelmpaa.W

namespace Go.Proofs.Ytckplcmieelmpaa.W
open Go.RowKit Go.Wb

def Nothing : Nat → Nat → Prop := fun _ _ => False

def NewPost (w : World) (iso : Int) (lf : Bool) (e : Ending) (w' : World) : Prop := ∃ m L, e = .returned (ptr m) ∧ w.heap.size ≤ m ∧ Keep Nothing w w' ∧
      NodeAt TT E w' m ⟨iso, 0, [], if lf then none else some []⟩ L ∧ ∀ x o, fp TT m (⟨iso, 0, [], if lf then none else some []⟩ : NRec It) L x o → w.heap.size ≤ x
def IsoPost (w : World) (n : Nat) (e : Ending) (w' : World) : Prop := e = .returned (ptr n) ∧ ∃ k, w' = w.drewN k

set_option maxHeartbeats 1000000 in
theorem newNode_any {w : World} {b : Nat} {h : HRec} (hh : Hdr w b h) (lf : Bool) :
    Calls Try.prog 123 #[ptr b, .bool lf] w (NewPost w h.iso lf) := by
  obtain ⟨c0, _⟩ := hdr_cells hh
  have hb : b < w.heap.size := lt_of_heap hh
  clear hh
  unfold ptr
  cases lf with
  | true =>
    go_enter Try.func123, Try.ntmps123
    go_wp2
    go_ret
    refine ⟨_, ⟨none, 0, 0, none, 0⟩, rfl, Nat.le_refl _, (Keep.refl _ _).al _, ⟨heap_alloc_new w _, .inl ⟨rfl, rfl, rfl⟩, Nat.le_refl _, fun ks hk => by cases hk⟩, ?_⟩
    rintro x o (rfl | ⟨y, z, hy, _⟩ | ⟨hk, _⟩)
    · exact Nat.le_refl _
    · cases hy
    · cases hk
  | false =>
    go_enter Try.func123, Try.ntmps123
    go_wp2
    go_ret
    refine ⟨_, ⟨none, 0, w.heap.size + 1, none, 0⟩, rfl, Nat.le_refl _, ((Keep.refl _ _).al _).al _, ⟨blk_alloc _ (heap_alloc_new w _), .inl ⟨rfl, rfl, rfl⟩, Nat.le_refl _, fun ks hk => ?_⟩, ?_⟩
    · obtain rfl : ks = [] := by simpa using hk.symm
      have := heap_alloc_new (w.alloc (.cells #[.int .u64 h.iso, .int .i64 0, .slice none 0 0, .pointer (some ⟨w.heap.size + 1, 0, none⟩)] 172)) (.cells #[.slice none 0 0] 173)
      rw [World.size_alloc] at this
      exact ⟨this, .inl ⟨rfl, rfl, rfl⟩, Nat.le_refl _⟩
    rintro x o (rfl | ⟨y, z, hy, _⟩ | ⟨_, rfl | ⟨y, z, hy, _⟩⟩)
    · exact Nat.le_refl _
    · cases hy
    · exact Nat.le_succ _
    · cases hy

set_option maxHeartbeats 1000000 in
theorem isoLoad_own {w : World} {b pb po n : Nat} {h : HRec} {r : NRec It} {L : Lay} (hh : Hdr w b h) (hp : w.cell? ⟨pb, po, none⟩ = some (ptr n)) (hn : NodeAt TT E w n r L) (hi : r.iso = h.iso) (mt : Bool) :
    Calls Try.prog 120 #[ptr b, .pointer (some ⟨pb, po, none⟩), .bool mt] w (IsoPost w n) := by
  obtain ⟨c0, d1, d2⟩ := hdr_cells hh
  obtain ⟨e0, e1, e2⟩ := blk4 hn.1
  rw [hi] at e0
  clear d1 d2 e1 e2 hh hn hi
  unfold ptr at *
  have hne : (h.iso != h.iso) = false := by simp
  cases mt with
  | true =>
    go_enter Try.func120, Try.ntmps120
    go_wp2_with fail
    refine wp_calm (by kernel_rfl) (by kernel_rfl) rfl ?_
    simp only [List.flatMap_cons, List.flatMap_nil, checks, chk, nilLit, List.cons_append, List.nil_append, List.append_nil, Try.underlying162]
    go_wp2_with fail
    rw [HQ_normal]
    go_wp2_with fail
    go_ret
    exact ⟨rfl, 1, rfl⟩
  | false =>
    go_enter Try.func120, Try.ntmps120
    go_wp2_with fail
    refine wp_calm (by kernel_rfl) (by kernel_rfl) rfl ?_
    simp only [List.flatMap_cons, List.flatMap_nil, checks, chk, nilLit, List.cons_append, List.nil_append, List.append_nil, Try.underlying162]
    go_wp2_with fail
    rw [HQ_normal]
    go_wp2_with fail
    go_ret
    exact ⟨rfl, 1, rfl⟩
end Go.Proofs.Ytckplcmieelmpaa.W

namespace Go.Wb
open Go

theorem bytesLess_irr : ∀ l : List UInt8, Op.bytesLess l l = false
  | [] => rfl
  | x :: l => by simp [Op.bytesLess, bytesLess_irr l]
theorem bytesLess_trans : ∀ x y z : List UInt8, Op.bytesLess x y = true → Op.bytesLess y z = true → Op.bytesLess x z = true
  | _, [], _, h, _ => by cases ‹List UInt8› <;> simp [Op.bytesLess] at h
  | [], _ :: _, [], _, h => by simp [Op.bytesLess] at h
  | [], _ :: _, _ :: _, _, _ => by simp [Op.bytesLess]
  | _ :: _, _ :: _, [], _, h => by simp [Op.bytesLess] at h
  | a :: x, b :: y, c :: z, h1, h2 => by
    simp only [Op.bytesLess, Bool.or_eq_true, Bool.and_eq_true, decide_eq_true_eq, beq_iff_eq] at h1 h2 ⊢
    rcases h1 with h1 | ⟨rfl, h1⟩ <;> rcases h2 with h2 | ⟨rfl, h2⟩
    · exact .inl (UInt8.lt_trans h1 h2)
    · exact .inl h1
    · exact .inl h2
    · exact .inr ⟨rfl, bytesLess_trans x y z h1 h2⟩
/-- Of two unequal texts one is less. -/
theorem bytesLess_tri : ∀ x y : List UInt8, Op.bytesLess x y = false → Op.bytesLess y x = false → x = y
  | [], [], _, _ => rfl
  | [], _ :: _, h, _ => by simp [Op.bytesLess] at h
  | _ :: _, [], _, h => by simp [Op.bytesLess] at h
  | a :: x, b :: y, h1, h2 => by
    simp only [Op.bytesLess, Bool.or_eq_false_iff, Bool.and_eq_false_iff, decide_eq_false_iff_not, beq_eq_false_iff_ne] at h1 h2
    have e : a = b := by
      apply UInt8.le_antisymm
      · exact UInt8.not_lt.1 h2.1
      · exact UInt8.not_lt.1 h1.1
    subst e
    rw [bytesLess_tri x y (h1.2.resolve_left (by simp)) (h2.2.resolve_left (by simp))]
theorem bytesLess_co (x y z : List UInt8) (h : Op.bytesLess x z = true) : Op.bytesLess x y = true ∨ Op.bytesLess y z = true := by
  cases h1 : Op.bytesLess x y with
  | true => exact .inl rfl
  | false =>
    right
    cases h2 : Op.bytesLess y x with
    | true => exact bytesLess_trans y x z h2 h
    | false => rw [← bytesLess_tri x y h1 h2]; exact h
end Go.Wb

namespace Go.Wb
variable {α : Type}
/-- The cells of one of many items. -/
theorem Enc.all_get (E : Enc α) : ∀ (l : List α) (j : Nat) (x : α), l[j]? = some x → ∀ c v, (E.enc x)[c]? = some v → (E.all l)[j * E.s + c]? = some v
  | [], j, x, h, _, _, _ => by simp at h
  | y :: l, 0, x, h, c, v, hc => by
    obtain rfl : y = x := by simpa using h
    obtain ⟨hlt, _⟩ := List.getElem?_eq_some_iff.1 hc
    rw [Enc.all_cons, Nat.zero_mul, Nat.zero_add, List.getElem?_append_left hlt]
    exact hc
  | y :: l, j + 1, x, h, c, v, hc => by
    have ih := Enc.all_get E l j x (by simpa using h) c v hc
    have hl := E.len y
    have e : (j + 1) * E.s + c = (E.enc y).length + (j * E.s + c) := by rw [hl, Nat.add_mul]; omega
    rw [Enc.all_cons, e, List.getElem?_append_right (by omega), Nat.add_sub_cancel_left]
    exact ih
theorem Enc.all_set_two (E : Enc α) {x : α} {a b : Value} (hx : E.enc x = [a, b]) (hs : E.s = 2) : ∀ (l : List α) (i : Nat), i < l.length → E.all (l.set i x) = ((E.all l).set (i * 2) a).set (i * 2 + 1) b
  | [], i, h => by simp at h
  | y :: l, 0, _ => by
    have hl := E.len y
    rw [hs] at hl
    obtain ⟨c, d, hy⟩ : ∃ c d, E.enc y = [c, d] := by
      match hq : E.enc y, hl with
      | [c, d], _ => exact ⟨c, d, rfl⟩
    simp [Enc.all_cons, hx, hy]
  | y :: l, i + 1, h => by
    have ih := Enc.all_set_two E hx hs l i (by simpa using h)
    have hl := E.len y
    rw [hs] at hl
    obtain ⟨c, d, hy⟩ : ∃ c d, E.enc y = [c, d] := by
      match hq : E.enc y, hl with
      | [c, d], _ => exact ⟨c, d, rfl⟩
    have e : (i + 1) * 2 = i * 2 + 2 := by omega
    simp only [List.set_cons_succ, Enc.all_cons, hy, ih, e]
    simp
end Go.Wb

namespace Go.Proofs.Ytckplcmieelmpaa.W
open Go.RowKit Go.Wb

/-- What a search in a node tells. -/
def SearchPost (w : World) (its : List It) (k : Ky) (e : Ending) (w' : World) : Prop :=
  ∃ (i : Nat) (f : Bool), e = .returned (.tuple #[.int .i64 i, .bool f]) ∧ (∃ n, w' = w.drewN n) ∧ i ≤ its.length ∧
    match f with
    | true => ∃ x, its[i]? = some x ∧ klt k (ky x) = false ∧ klt (ky x) k = false
    | false => (∀ j x, j < i → its[j]? = some x → klt (ky x) k = true) ∧ ∀ j x, i ≤ j → its[j]? = some x → klt k (ky x) = true

/-- Where the loop of the search stands. -/
def Between (its : List It) (k : Ky) (l h : Nat) : Prop :=
  (∀ j x, j < l → its[j]? = some x → klt k (ky x) = false) ∧ ∀ j x, h ≤ j → its[j]? = some x → klt k (ky x) = true

theorem kord : Ord klt where
  irr a := by
    exact bytesLess_irr _
  tr a b c := by
    unfold klt; generalize a.toList = x; generalize b.toList = y; generalize c.toList = z; intro h1 h2; exact bytesLess_trans x y z h1 h2
  co a b c := by
    unfold klt; generalize a.toList = x; generalize b.toList = y; generalize c.toList = z; intro h; exact bytesLess_co x y z h

theorem not_t {b : Bool} (h : (!b) = true) : b = false := by cases b <;> simp_all
theorem not_f {b : Bool} (h : (!b) = false) : b = true := by cases b <;> simp_all

theorem all_two (its : List It) (j : Nat) (x : It) (hj : its[j]? = some x) (c : Nat) (v : Value) (hv : (E.enc x)[c]? = some v) : (E.all its)[j * 2 + c]? = some v := E.all_get its j x hj c v hv
/-- The key's cell of an item. -/
theorem key_cell {w : World} {ib io cap : Nat} {its : List It} (h : Row w TT.pair TT.s (some ⟨ib, io, none⟩) cap (E.all its)) {j : Nat} {x : It} (hj : its[j]? = some x) :
    w.cell? ⟨ib, io + j * 2 + 1, none⟩ = some (kv (ky x)) := by
  have := h.cell (i := j * 2 + 1) (v := kv (ky x)) ?_
  · rwa [← Nat.add_assoc] at this
  · exact all_two its j x hj 1 _ rfl

theorem val_cell {w : World} {ib io cap : Nat} {its : List It} (h : Row w TT.pair TT.s (some ⟨ib, io, none⟩) cap (E.all its)) {j : Nat} {x : It} (hj : its[j]? = some x) : w.cell? ⟨ib, io + j * 2, none⟩ = some (.int .i64 x.2) := h.cell (i := j * 2) (all_two its j x hj 0 _ rfl)
theorem blk2 {w : World} {n : Nat} {a b : Value} {t : TypeId} (h : w.heap[n]? = some (.cells #[a, b] t (0, 0))) : w.cell? ⟨n, 0, none⟩ = some a ∧ w.cell? ⟨n, 1, none⟩ = some b ∧ ∀ o, w.frozen? ⟨n, o, none⟩ = false := by
   simp [World.cell?, World.frozen?, h]

theorem between_lo {its : List It} {k : Ky} {l h m : Nat} {x : It} (hs : Sorted ilt its) (hb : Between its k l h) (hx : its[m]? = some x) (hf : klt k (ky x) = false) : Between its k (m + 1) h := by
  refine ⟨fun j y hj hy => ?_, hb.2⟩
  obtain ⟨hml, rfl⟩ := List.getElem?_eq_some_iff.1 hx
  obtain ⟨hjl, rfl⟩ := List.getElem?_eq_some_iff.1 hy
  by_cases hjm : j = m
  · subst hjm; exact hf
  · cases hk : klt k (ky its[j]) with
    | false => rfl
    | true =>
      have h1 := List.pairwise_iff_getElem.1 hs j m hjl hml (by omega)
      rw [kord.tr _ _ _ hk h1] at hf
      cases hf
theorem between_hi {its : List It} {k : Ky} {l h m : Nat} {x : It} (hs : Sorted ilt its) (hb : Between its k l h) (hx : its[m]? = some x) (hf : klt k (ky x) = true) : Between its k l m := by
  refine ⟨hb.1, fun j y hj hy => ?_⟩
  obtain ⟨hml, rfl⟩ := List.getElem?_eq_some_iff.1 hx
  obtain ⟨hjl, rfl⟩ := List.getElem?_eq_some_iff.1 hy
  by_cases hjm : j = m
  · subst hjm; exact hf
  · have h1 := List.pairwise_iff_getElem.1 hs m j hml hjl (by omega)
    exact kord.tr _ _ _ hf h1

theorem search_end {its : List It} {k : Ky} {l : Nat} (hl : l ≤ its.length) (hs : Sorted ilt its) (hb : Between its k l l) :
    (∀ x, 0 < l → its[l - 1]? = some x → klt (ky x) k = false → ∃ x, its[l - 1]? = some x ∧ klt k (ky x) = false ∧ klt (ky x) k = false) ∧
    ((0 < l → ∀ x, its[l - 1]? = some x → klt (ky x) k = true) → (∀ j x, j < l → its[j]? = some x → klt (ky x) k = true) ∧ ∀ j x, l ≤ j → its[j]? = some x → klt k (ky x) = true) := by
  refine ⟨fun x h0 hx hf => ⟨x, hx, hb.1 (l - 1) x (by omega) hx, hf⟩, fun h => ⟨fun j x hj hx => ?_, hb.2⟩⟩
  have h0 : 0 < l := by omega
  have hlt : l - 1 < its.length := by omega
  have h1 := h h0 its[l - 1] (by simp [hlt])
  by_cases hjl : j = l - 1
  · subst hjl
    rw [List.getElem?_eq_getElem hlt] at hx
    cases hx
    exact h1
  · have hjlt : j < its.length := by omega
    rw [List.getElem?_eq_getElem hjlt] at hx
    cases hx
    have := List.pairwise_iff_getElem.1 hs j (l - 1) hjlt hlt (by omega)
    exact kord.tr _ _ _ this h1

set_option maxHeartbeats 1000000 in
theorem search_some {w : World} {tr : Value} {n : Nat} {r : NRec It} {L : Lay} {ib io : Nat} (hn : NodeAt TT E w n r L) (hia : L.ia = some ⟨ib, io, none⟩) (hlen : r.items.length ≤ 1000000000000) (k : Ky) (hs : Sorted ilt r.items) :
    Calls Try.prog 171 #[tr, ptr n, kv k] w (SearchPost w r.items k) := by
  obtain ⟨d0, d1, c2, d3, _⟩ := blk4 hn.1
  have hrow := hn.2.1
  clear d0 d1 d3 hn
  rw [hia] at c2 hrow
  have HC := Lib.hid (fun j x hj => key_cell (j := j) (x := x) hrow hj)
  clear hrow hia
  generalize r.items = its at *
  generalize L.icap = cap at *
  have HS := Lib.hid hs
  clear hs
  unfold ptr
  unfold kv at *
  go_enter Try.func171, Try.ntmps171
  go_wp2_with fail
  refine wp_calm (by kernel_rfl) (by kernel_rfl) rfl ?_
  simp only [List.flatMap_cons, List.flatMap_nil, checks, chk, nilLit, List.cons_append, List.nil_append, List.append_nil]
  try simp only [Try.underlying3]
  go_wp2_with fail
  rw [HQ_normal]
  go_wp2_with fail
  go_loop [8, 9] (fun lo hi => ∃ l h : Nat, l ≤ h ∧ h ≤ its.length ∧ lo = .int .i64 l ∧ hi = .int .i64 h ∧ Between its k l h) (fun lo hi => (intOf hi - intOf lo).toNat)
  case atStart => exact ⟨0, its.length, Nat.zero_le _, Nat.le_refl _, rfl, rfl, fun j x h => by omega, fun j x h hx => by simp [List.getElem?_eq_none h] at hx⟩
  case round =>
    obtain ⟨l, h, hlh, hh, rfl, rfl, hb⟩ := hrel
    have HB := Lib.hid hb
    clear hb
    by_cases hlt : l < h
    · obtain ⟨m, hm1, hm2, hm3⟩ : ∃ m : Nat, l ≤ m ∧ m < h ∧ ((l : Int) + (h : Int)) / 2 = (m : Int) := ⟨(l + h) / 2, by omega, by omega, by omega⟩
      have hml : m < its.length := by omega
      have HX : Hid (its[m]? = some its[m]) := by exact (List.getElem?_eq_getElem hml)
      have cm := HC.out m _ HX.out
      generalize its[m] = x at *
      generalize hg : ky x = kx at *
      have HG := Lib.hid hg
      clear hg
      have HF : Hid (klt k kx = false → Between its k (m + 1) h) := by exact fun hf => between_lo HS.out HB.out HX.out (HG.out ▸ hf)
      have HT : Hid (klt k kx = true → Between its k l m) := by exact fun hf => between_hi HS.out HB.out HX.out (HG.out ▸ hf)
      unfold klt at HF HT
      go_wp2_with fail
      · rename_i hq
        have hf := HF.out (by simpa using hq)
        go_round
        case rel => exact ⟨m + 1, h, by omega, hh, by go_num, rfl, hf⟩
        case measure => simp [intOf]; omega
      · rename_i hq
        have hf := HT.out (by simpa using hq)
        go_round
        case rel => exact ⟨l, m, by omega, by omega, rfl, by rw [hm3], hf⟩
        case measure => simp [intOf]; omega
    · have hl : l = h := by omega
      subst hl
      have HE := Lib.hid (search_end (by omega) HS.out HB.out)
      by_cases h0 : 0 < l
      · have hml : l - 1 < its.length := by omega
        have HX : Hid (its[l - 1]? = some its[l - 1]) := by exact (List.getElem?_eq_getElem hml)
        have cm := HC.out (l - 1) _ HX.out
        generalize its[l - 1] = x at *
        generalize hg : ky x = kx at *
        obtain ⟨q, rfl⟩ : ∃ q, l = q + 1 := ⟨l - 1, by omega⟩
        simp only [Nat.add_sub_cancel] at cm HX hml HE
        have he : ((q : Int) + 1) - 1 = (q : Int) := by omega
        have HT : Hid (klt kx k = false → SearchPost w its k (.returned (.tuple #[.int .i64 q, .bool true])) w.drew) := by
          exact fun hf => ⟨q, true, rfl, ⟨1, rfl⟩, by omega, by obtain ⟨y, h1, h2, h3⟩ := HE.out.1 x (by omega) HX.out (hg ▸ hf); exact ⟨y, h1, h2, h3⟩⟩
        have HF : Hid (klt kx k = true → SearchPost w its k (.returned (.tuple #[.int .i64 (q + 1 : Nat), .bool false])) w.drew) := by
          exact fun hf => ⟨q + 1, false, rfl, ⟨1, rfl⟩, hh, HE.out.2 fun _ y hy => by rw [HX.out] at hy; cases hy; exact hg ▸ hf⟩
        clear hg
        unfold klt at HT HF
        go_wp2_with fail
        · have hf := HT.out (not_t ‹(!Op.bytesLess _ _) = _›)
          go_ret2
          exact hf
        · have hf := HF.out (not_f ‹(!Op.bytesLess _ _) = _›)
          go_ret2
          exact hf
      · have : l = 0 := by omega
        subst this
        have HF : Hid (SearchPost w its k (.returned (.tuple #[.int .i64 (0 : Nat), .bool false])) w.drew) := by
          exact ⟨0, false, rfl, ⟨1, rfl⟩, hh, HE.out.2 fun h => by omega⟩
        go_wp2_with fail
        go_ret2
        exact HF.out
set_option maxHeartbeats 1000000 in
theorem search_none {w : World} {tr : Value} {n : Nat} {r : NRec It} {L : Lay} (hn : NodeAt TT E w n r L) (hia : L.ia = none) (h0 : r.items = []) (k : Ky) :
    Calls Try.prog 171 #[tr, ptr n, kv k] w (SearchPost w r.items k) := by
  obtain ⟨d0, d1, c2, d3, _⟩ := blk4 hn.1
  clear d0 d1 d3 hn
  rw [hia, h0] at c2
  rw [h0]
  clear hia h0
  simp only [List.length_nil] at c2
  generalize L.icap = cap at *
  have HF : Hid (SearchPost w [] k (.returned (.tuple #[.int .i64 (0 : Nat), .bool false])) w.drew) := by
    exact ⟨0, false, rfl, ⟨1, rfl⟩, by simp, by simp⟩
  unfold ptr
  unfold kv at *
  go_enter Try.func171, Try.ntmps171
  go_wp2_with fail
  refine wp_calm (by kernel_rfl) (by kernel_rfl) rfl ?_
  simp only [List.flatMap_cons, List.flatMap_nil, checks, chk, nilLit, List.cons_append, List.nil_append, List.append_nil]
  go_wp2_with fail
  rw [HQ_normal]
  go_wp2_with fail
  go_loop [8, 9] (fun lo hi => lo = .int .i64 0 ∧ hi = .int .i64 0) (fun lo hi => (0 : Nat))
  case atStart => exact ⟨rfl, rfl⟩
  case round =>
    obtain ⟨rfl, rfl⟩ := hrel
    go_wp2_with fail
    go_ret2
    exact HF.out

theorem all_nil {l : List It} (h : E.all l = []) : l = [] := by
  have := E.all_len l
  rw [h] at this
  cases l with
  | nil => rfl
  | cons x l =>
    have hp := E.pos
    rw [List.length_cons, Nat.add_mul] at this
    simp at this
    omega

theorem search_any {w : World} {tr : Value} {n : Nat} {r : NRec It} {L : Lay} (hn : NodeAt TT E w n r L) (hlen : r.items.length ≤ 1000000000000) (k : Ky) (hs : Sorted ilt r.items) :
    Calls Try.prog 171 #[tr, ptr n, kv k] w (SearchPost w r.items k) := by
  have hrow := hn.2.1
  rcases hrow with ⟨h1, h2⟩ | ⟨ib, io, arr, h1, _⟩
  · refine search_none hn h1 ?_ k
    exact all_nil h2.2
  · exact search_some hn h1 hlen k hs
end Go.Proofs.Ytckplcmieelmpaa.W

namespace Go.Wb
open Go Go.RowKit
variable {α : Type}

/-- The blocks' types differ. -/
structure TyOk (T : Ty) : Prop where
  a : T.node ≠ T.pair
  b : T.node ≠ T.nodeP
  c : T.node ≠ T.kids
  d : T.pair ≠ T.kids
  e : T.nodeP ≠ T.kids
  f : T.pair ≠ T.nodeP

theorem Row.block {w : World} {ty s : Nat} {a : Option Addr} {cap : Nat} {cs : List Value} (h : Row w ty s a cap cs) {b o : Nat} (hf : ∃ n, rowFp a n b o) : ∃ arr, w.heap[b]? = some (.cells arr ty (0, 0)) := by
  obtain ⟨n, x, y, rfl, rfl, _⟩ := hf
  rcases h with ⟨h, _⟩ | ⟨b', o', arr, h1, h2, _⟩
  · cases h
  · obtain ⟨rfl, rfl⟩ : b = b' ∧ y = o' := by simpa using h1
    exact ⟨arr, h2⟩

/-- Only the node's own block has turned. -/
theorem NodeAt.reset {T : Ty} {E : Enc α} {w w' : World} {n : Nat} {r : NRec α} {L : Lay} (ok : TyOk T) (h : NodeAt T E w n r L) (hk : Keep (fun b _ => b = n) w w') {iso cnt : Int}
    (hb : w'.heap[n]? = some (.cells #[.int .u64 iso, .int .i64 cnt, .slice L.ia r.items.length L.icap, kidsVal r.kids L.cb] T.node (0, 0))) : NodeAt T E w' n { r with iso := iso, cnt := cnt } L := by
  obtain ⟨h1, h2, h3, h4⟩ := h
  refine ⟨hb, h2.keep' hk fun b o hf he => ?_, h3, fun ks hks => ?_⟩
  · subst he
    obtain ⟨arr, ha⟩ := h2.block ⟨_, hf⟩
    rw [h1] at ha
    exact ok.a (by simpa using (Obj.cells.inj (Option.some.inj ha)).2.1)
  · obtain ⟨h5, h6, h7⟩ := h4 ks hks
    refine ⟨blk_keep h5 hk fun o he => ?_, h6.keep' hk fun b o hf he => ?_, h7⟩
    · rw [he, h1] at h5
      exact ok.c (by simpa using (Obj.cells.inj (Option.some.inj h5)).2.1)
    · subst he
      obtain ⟨arr, ha⟩ := h6.block ⟨_, hf⟩
      rw [h1] at ha
      exact ok.b (by simpa using (Obj.cells.inj (Option.some.inj ha)).2.1)

theorem lt_of_cell {w : World} {b o : Nat} {v : Value} (h : w.cell? ⟨b, o, none⟩ = some v) : b < w.heap.size := by
  rcases Nat.lt_or_ge b w.heap.size with h' | h'
  · exact h'
  · simp [World.cell?, Array.getElem?_eq_none h'] at h
theorem Keep.cell' {S : Nat → Nat → Prop} {w w' : World} (hk : Keep S w w') {b o : Nat} {v : Value} (h : w.cell? ⟨b, o, none⟩ = some v) (hS : ¬ S b o) : w'.cell? ⟨b, o, none⟩ = some v :=
  (hk.cell (lt_of_cell h) hS).trans h

/-! ### parts of rows -/
theorem Row.cut {w : World} {ty s b o cap : Nat} {cs : List Value} (h : Row w ty s (some ⟨b, o, none⟩) cap cs) {n : Nat} (hn : n ≤ cap) : Row w ty s (some ⟨b, o, none⟩) n (cs.take (n * s)) := by
  rcases h with ⟨h, _⟩ | ⟨b', o', arr, h1, h2, h3, h4, h5⟩
  · cases h
  · refine .inr ⟨b', o', arr, h1, h2, by simp; omega, ?_, fun i v hi => h5 i v ?_⟩
    · have := Nat.mul_le_mul_right s hn
      omega
    · rw [List.getElem?_take] at hi
      split at hi
      · exact hi
      · cases hi
theorem Row.skip {w : World} {ty s b o cap : Nat} {cs : List Value} (h : Row w ty s (some ⟨b, o, none⟩) cap cs) {n : Nat} (hn : n ≤ cap) : Row w ty s (some ⟨b, o + n * s, none⟩) (cap - n) (cs.drop (n * s)) := by
  rcases h with ⟨h, _⟩ | ⟨b', o', arr, h1, h2, h3, h4, h5⟩
  · cases h
  · obtain ⟨rfl, rfl⟩ : b = b' ∧ o = o' := by simpa using h1
    have := Nat.mul_le_mul_right s hn
    refine .inr ⟨b, o + n * s, arr, rfl, h2, by rw [Nat.sub_mul]; simp; omega, by rw [Nat.sub_mul]; omega, fun i v hi => ?_⟩
    rw [List.getElem?_drop] at hi
    rw [Nat.add_assoc]
    exact h5 _ v hi
theorem Enc.all_take (E : Enc α) (l : List α) (i : Nat) : E.all (l.take i) = (E.all l).take (i * E.s) := by
  induction l generalizing i with
  | nil => simp [Enc.all]
  | cons x l ih =>
    cases i with
    | zero => simp [Enc.all]
    | succ i =>
      rw [List.take_succ_cons, E.all_cons, E.all_cons, ih, Nat.add_mul, Nat.one_mul, Nat.add_comm, ← E.len x, List.take_length_add_append, E.len]
theorem Enc.all_drop (E : Enc α) (l : List α) (i : Nat) : E.all (l.drop i) = (E.all l).drop (i * E.s) := by
  induction l generalizing i with
  | nil => simp [Enc.all]
  | cons x l ih =>
    cases i with
    | zero => simp [Enc.all]
    | succ i =>
      rw [List.drop_succ_cons, E.all_cons, ih, Nat.add_mul, Nat.one_mul, Nat.add_comm, ← E.len x, List.drop_length_add_append, E.len]

def kidSum (c : Nat → Int) : Option (List Nat) → Int
  | none => 0
  | some ks => (ks.map c).sum

theorem sum_nonneg : ∀ {l : List Int}, (∀ x ∈ l, 0 ≤ x) → 0 ≤ l.sum
  | [], _ => by simp
  | x :: l, h => by
    have h1 := h x (by simp)
    have h2 : 0 ≤ l.sum := sum_nonneg fun y hy => h y (by simp [hy])
    rw [List.sum_cons]; omega
theorem sum_take {l : List Int} (h : ∀ x ∈ l, 0 ≤ x) (i : Nat) : 0 ≤ (l.take i).sum ∧ (l.take i).sum ≤ l.sum := by
  have h1 : 0 ≤ (l.take i).sum := sum_nonneg fun x hx => h x (List.mem_of_mem_take hx)
  have h2 : 0 ≤ (l.drop i).sum := sum_nonneg fun x hx => h x (List.mem_of_mem_drop hx)
  have h3 : (l.take i).sum + (l.drop i).sum = l.sum := by rw [← List.sum_append, List.take_append_drop]
  omega
theorem sum_take_succ {l : List Int} {i : Nat} {x : Int} (h : l[i]? = some x) : (l.take (i + 1)).sum = (l.take i).sum + x := by
  obtain ⟨hlt, rfl⟩ := List.getElem?_eq_some_iff.1 h
  rw [List.take_succ_eq_append_getElem hlt, List.sum_append]
  simp
theorem sum_drop {l : List Int} (h : ∀ x ∈ l, 0 ≤ x) (i : Nat) : 0 ≤ (l.drop i).sum ∧ (l.drop i).sum ≤ l.sum := by
  have h1 : 0 ≤ (l.take i).sum := sum_nonneg fun x hx => h x (List.mem_of_mem_take hx)
  have h2 : 0 ≤ (l.drop i).sum := sum_nonneg fun x hx => h x (List.mem_of_mem_drop hx)
  have h3 : (l.take i).sum + (l.drop i).sum = l.sum := by rw [← List.sum_append, List.take_append_drop]
  omega

theorem results_tmp_cell_row {P : Program} {fn : Func} {p t : Tmp} {ty : TypeId} (h : fn.results = #[.tmp t, .cell p ty]) (tmps : Array Value) (w : World) (g : Nat) (tb : TypeId) (cs : Array Value) (fr : Nat × Nat) (d : TypeDesc)
    (hp : tmps.getD p undef = .pointer (some ⟨g, 0, none⟩)) (hg : w.heap[g]? = some (.cells cs tb fr))
    (hu : P.underlying ty = some d) (hd : (match d with | .struct _ | .array _ _ => true | _ => false) = true) (hi : (P.info? ty).map (·.size) = some cs.size) :
    (results fn tmps).run P w = .ok (.tuple #[tmps.getD t undef, .agg cs]) w := by
  have hp' : tmps[p]?.getD undef = .pointer (some ⟨g, 0, none⟩) := by simpa using hp
  simp [results, h, hp', asAddr, run_loadVar_row w g tb ty cs fr d hg hu hd hi, Result.andThen]
theorem results_cell_tmp_row {P : Program} {fn : Func} {p t : Tmp} {ty : TypeId} (h : fn.results = #[.cell p ty, .tmp t]) (tmps : Array Value) (w : World) (g : Nat) (tb : TypeId) (cs : Array Value) (fr : Nat × Nat) (d : TypeDesc)
    (hp : tmps.getD p undef = .pointer (some ⟨g, 0, none⟩)) (hg : w.heap[g]? = some (.cells cs tb fr))
    (hu : P.underlying ty = some d) (hd : (match d with | .struct _ | .array _ _ => true | _ => false) = true) (hi : (P.info? ty).map (·.size) = some cs.size) :
    (results fn tmps).run P w = .ok (.tuple #[.agg cs, tmps.getD t undef]) w := by
  have hp' : tmps[p]?.getD undef = .pointer (some ⟨g, 0, none⟩) := by simpa using hp
  simp [results, h, hp', asAddr, run_loadVar_row w g tb ty cs fr d hg hu hd hi, Result.andThen]
theorem results_cell_tmp2_row {P : Program} {fn : Func} {p t u : Tmp} {ty : TypeId} (h : fn.results = #[.cell p ty, .tmp t, .tmp u]) (tmps : Array Value) (w : World) (g : Nat) (tb : TypeId) (cs : Array Value) (fr : Nat × Nat) (d : TypeDesc)
    (hp : tmps.getD p undef = .pointer (some ⟨g, 0, none⟩)) (hg : w.heap[g]? = some (.cells cs tb fr))
    (hu : P.underlying ty = some d) (hd : (match d with | .struct _ | .array _ _ => true | _ => false) = true) (hi : (P.info? ty).map (·.size) = some cs.size) :
    (results fn tmps).run P w = .ok (.tuple #[.agg cs, tmps.getD t undef, tmps.getD u undef]) w := by
  have hp' : tmps[p]?.getD undef = .pointer (some ⟨g, 0, none⟩) := by simpa using hp
  simp [results, h, hp', asAddr, run_loadVar_row w g tb ty cs fr d hg hu hd hi, Result.andThen]

theorem wp_world2 {P : Program} {fn : Func} {R : Ending → World → Prop} {x : Exit} {a : Act} {w : World} (h : ∀ W, W = w → bodyPost P fn R x a W) : bodyPost P fn R x a w := h w rfl
theorem calls_world {P : Program} {f : Nat} {args : Array Value} {w : World} {Q : Ending → World → Prop} (h : ∀ W, W = w → Calls P f args W Q) : Calls P f args w Q := h w rfl

/-- Blocks of two types are two blocks. -/
theorem blk_ne {w : World} {a b : Nat} {c c' : Array Value} {t t' : TypeId} (h1 : w.heap[a]? = some (.cells c t (0, 0))) (h2 : w.heap[b]? = some (.cells c' t' (0, 0))) (ht : t ≠ t') : a ≠ b := by
  rintro rfl
  rw [h1] at h2
  exact ht (Obj.cells.inj (Option.some.inj h2)).2.1
theorem Row.blk {w : World} {ty s b o cap : Nat} {cs : List Value} (h : Row w ty s (some ⟨b, o, none⟩) cap cs) : ∃ arr, w.heap[b]? = some (.cells arr ty (0, 0)) := by
  rcases h with ⟨h, _⟩ | ⟨b', o', arr, h1, h2, _⟩
  · cases h
  · obtain ⟨rfl, rfl⟩ : b = b' ∧ o = o' := by simpa using h1
    exact ⟨arr, h2⟩
theorem rowFp_some {x y n b o : Nat} (h : rowFp (some ⟨x, y, none⟩) n b o) : b = x ∧ y ≤ o ∧ o < y + n := by
  obtain ⟨x', y', e, rfl, h1, h2⟩ := h
  obtain ⟨rfl, rfl⟩ : x = b ∧ y = y' := by simpa using e
  exact ⟨rfl, h1, h2⟩
end Go.Wb

namespace Go.Proofs.Ytckplcmieelmpaa.W
open Go.RowKit Go.Wb

theorem ty_ok : TyOk TT := ⟨by decide, by decide, by decide, by decide, by decide, by decide⟩

/-- What updateCount leaves. -/
def UpdPost (w : World) (n : Nat) (r : NRec It) (L : Lay) (c : Nat → Int) (e : Ending) (w' : World) : Prop :=
  e = .returned (.tuple #[]) ∧ Keep (fun b o => b = n ∧ o = 1) w w' ∧ w'.heap[n]? = some (.cells #[.int .u64 r.iso, .int .i64 (r.items.length + kidSum c r.kids), .slice L.ia r.items.length L.icap, kidsVal r.kids L.cb] 172 (0, 0))

theorem upd_node {w w' : World} {n : Nat} {r : NRec It} {L : Lay} {c : Nat → Int} {e : Ending} (hn : NodeAt TT E w n r L) (h : UpdPost w n r L c e w') : NodeAt TT E w' n { r with cnt := r.items.length + kidSum c r.kids } L :=
  hn.reset ty_ok (h.2.1.mono fun _ _ _ h => h.1) h.2.2

set_option maxHeartbeats 1000000 in
theorem updateCount_any {w : World} {n : Nat} {r : NRec It} {L : Lay} (hn : NodeAt TT E w n r L) (hlen : r.items.length ≤ 1000000000000) (c : Nat → Int)
    (hk : ∀ ks, r.kids = some ks → ks.length ≤ 1000000000000 ∧ (ks.map c).sum ≤ 4000000000000000000 ∧ ∀ k ∈ ks, k ≠ n ∧ 0 ≤ c k ∧ w.cell? ⟨k, 1, none⟩ = some (.int .i64 (c k))) :
    Calls Try.prog 126 #[ptr n] w (UpdPost w n r L c) := by
  have HN := Lib.hid hn
  obtain ⟨c0, c1, c2, c3, fz⟩ := blk4 hn.1
  have HK := Lib.hid hk
  have HB := Lib.hid hn.1
  clear hn hk c0 c3
  generalize hks : r.kids = kids at *
  have HKS := Lib.hid hks
  clear hks
  unfold ptr at *
  go_enter Try.func126, Try.ntmps126
  go_upto_region 1 with (fail)
  refine wp_world ?_
  intro W hW
  have K1 : Hid (Keep (fun b o => b = n ∧ o = 1) w W) := by
    subst hW
    refine (Keep.refl _ _).set _ _ _ ?_; exact fun _ => ⟨rfl, rfl⟩
  have B1 : Hid (W.heap[n]? = some (.cells #[.int .u64 r.iso, .int .i64 r.items.length, .slice L.ia r.items.length L.icap, kidsVal kids L.cb] 172 (0, 0))) := by
    subst hW
    exact blk_set _ HB.out
  have N1 : Hid (NodeAt TT E W n { r with cnt := r.items.length } L) := by
    exact HN.out.reset ty_ok (K1.out.mono fun _ _ _ h => h.1) (by rw [HKS.out]; exact B1.out)
  have hl := leaf_any N1.out
  clear hW c1 c2 fz
  unfold ptr at hl
  simp only [HKS.out] at hl
  cases kids with
  | none =>
    go_wp2_with fail
    refine hl.mono ?_
    rintro e w1 ⟨rfl, rfl⟩
    go_wp2_with fail
    go_end0
    exact ⟨rfl, K1.out, by rw [HKS.out]; simpa [kidSum] using B1.out⟩
  | some ks =>
    go_wp2_with fail
    refine hl.mono ?_
    rintro e w1 ⟨rfl, rfl⟩
    clear hl
    go_wp2_with fail
    go_loopg [2] (ks.length + 1) (fun k v wr => ∃ i : Nat, v = .int .i64 i ∧ i ≤ ks.length ∧ i + k = ks.length + 1 ∧ Keep (fun b o => b = n ∧ o = 1) w wr ∧
      wr.heap[n]? = some (.cells #[.int .u64 r.iso, .int .i64 (r.items.length + ((ks.map c).take i).sum), .slice L.ia r.items.length L.icap, kidsVal (some ks) L.cb] 172 (0, 0)))
    case atStart => exact ⟨0, rfl, by omega, by omega, K1.out, by simpa using B1.out⟩
    case round =>
      obtain ⟨i, rfl, hil, hik, hK, hB⟩ := hrel
      have HK2 := Lib.hid hK
      have HB2 := Lib.hid hB
      obtain ⟨_, HS1, HC⟩ := HK.out ks rfl
      have N2 : Hid (NodeAt TT E wr n { r with cnt := r.items.length + ((ks.map c).take i).sum } L) := by
        exact HN.out.reset ty_ok (hK.mono fun _ _ _ h => h.1) (by rw [HKS.out]; exact hB)
      obtain ⟨d0, d1, d2, d3, fz⟩ := blk4 hB
      have hks := N2.out.2.2.2 ks HKS.out
      obtain ⟨e0, fz2⟩ := blk1 hks.1
      have hrow := Lib.hid hks.2.1
      clear hks d0 d2 hK hB
      replace HC := Lib.hid HC
      replace HS1 := Lib.hid HS1
      unfold kidsVal ptr at d3
      have hlen2 : ks.length ≤ 1000000000000 := (HK.out ks rfl).1
      by_cases hlt : i < ks.length
      · have hpos : 0 < (ks.map ptr).length := by simp; omega
        obtain ⟨kb, ko, hka, _⟩ := hrow.out.form hpos
        rw [hka] at hrow e0
        have HI : Hid (ks[i]? = some ks[i]) := by exact (List.getElem?_eq_getElem hlt)
        have ck := hrow.out.cell (i := i) (v := ptr ks[i]) (by simp [hlt])
        obtain ⟨g1, g2, g3⟩ := HC.out ks[i] (by simp)
        have cc := HK2.out.cell' g3 (fun h => g1 h.1)
        have hsm := sum_take_succ (l := ks.map c) (i := i) (x := c ks[i]) (by simp [hlt])
        have hs1 := sum_take (l := ks.map c) (by simpa using fun k hk => (HC.out k hk).2.1) i
        have hs2 := sum_take (l := ks.map c) (by simpa using fun k hk => (HC.out k hk).2.1) (i + 1)
        have hs3 := HS1.out
        generalize ((ks.map c).take i).sum = s1 at *
        generalize hg2 : ((ks.map c).take (i + 1)).sum = s2 at hsm hs2
        have HG2 := Lib.hid hg2
        clear hg2
        generalize (ks.map c).sum = s3 at *
        generalize ks[i] = k at *
        generalize c k = cv at *
        unfold ptr at ck
        replace hka := Lib.hid hka
        replace hsm := Lib.hid hsm
        clear g3 g1
        have h4 : -9223372036854775808 ≤ (r.items.length : Int) + s1 + cv ∧ (r.items.length : Int) + s1 + cv ≤ 9223372036854775807 := by have := hsm.out; omega
        go_wp2_with fail
        refine wp_calm (by kernel_rfl) (by kernel_rfl) rfl ?_
        simp only [List.flatMap_cons, List.flatMap_nil, checks, chk, nilLit, List.cons_append, List.nil_append, List.append_nil, Try.underlying3]
        go_wp2_with fail
        rw [HQ_normal]
        go_wp2_with fail
        go_roundg (ks.length - i)
        case measure => omega
        case rel =>
          refine ⟨i + 1, by go_num, by omega, by omega, ?_, ?_⟩
          · refine (HK2.out.set _ _ _ ?_).dr; exact fun _ => ⟨rfl, rfl⟩
          · rw [HG2.out, show (r.items.length : Int) + s2 = r.items.length + s1 + cv by have := hsm.out; omega]
            exact blk_drew (blk_set _ HB2.out)
      · have hi : i = ks.length := by omega
        subst hi
        go_wp2_with fail
        go_end0
        refine ⟨rfl, HK2.out, ?_⟩
        rw [HKS.out, HB2.out]
        simp [kidSum, List.take_of_length_le]
end Go.Proofs.Ytckplcmieelmpaa.W

namespace Go.Proofs.Ytckplcmieelmpaa.W
open Go.RowKit Go.Wb

def zeroKy : Ky := ⟨#[]⟩

theorem hdr_mx {w : World} {b : Nat} {h : HRec} (hh : Hdr w b h) : 
    w.cell? ⟨b, 7, none⟩ = some (.int .i64 h.mx) := (hdr_cells hh).2.2.2.2.2.2.2.1

theorem hdr_emp {w : World} {b : Nat} {h : HRec} (hh : Hdr w b h) : 
    w.cell? ⟨b, 4, none⟩ = some (.int .i64 h.emp.2) ∧ w.cell? ⟨b, 5, none⟩ = some (kv (ky h.emp)) := ⟨(hdr_cells hh).2.2.2.2.1, (hdr_cells hh).2.2.2.2.2.1⟩

/-- An item's value. -/
def pv (x : It) : Value := .agg #[.int .i64 x.2, kv (ky x)]

/-- What a split leaves. -/
def SplitPost (w : World) (n : Nat) (iso : Int) (r : NRec It) (L : Lay) (i : Nat) (c : Nat → Int) (e : Ending) (w' : World) : Prop :=
  ∃ m L1 L2 med, r.items[i]? = some med ∧ e = .returned (.tuple #[ptr m, pv med]) ∧ w.heap.size ≤ m ∧ Keep (fp TT n r L) w w' ∧
    NodeAt TT E w' n ⟨r.iso, (r.items.take i).length + kidSum c (r.kids.map (List.take (i + 1))), r.items.take i, r.kids.map (List.take (i + 1))⟩ L1 ∧
    NodeAt TT E w' m ⟨iso, (r.items.drop (i + 1)).length + kidSum c (r.kids.map (List.drop (i + 1))), r.items.drop (i + 1), r.kids.map (List.drop (i + 1))⟩ L2 ∧
    (∀ b o, fp TT n (⟨r.iso, (r.items.take i).length + kidSum c (r.kids.map (List.take (i + 1))), r.items.take i, r.kids.map (List.take (i + 1))⟩ : NRec It) L1 b o → fp TT n r L b o) ∧
    (∀ b o, fp TT m (⟨iso, (r.items.drop (i + 1)).length + kidSum c (r.kids.map (List.drop (i + 1))), r.items.drop (i + 1), r.kids.map (List.drop (i + 1))⟩ : NRec It) L2 b o → fp TT n r L b o ∨ w.heap.size ≤ b) ∧
    ∀ b o, fp TT n (⟨r.iso, (r.items.take i).length + kidSum c (r.kids.map (List.take (i + 1))), r.items.take i, r.kids.map (List.take (i + 1))⟩ : NRec It) L1 b o →
      fp TT m (⟨iso, (r.items.drop (i + 1)).length + kidSum c (r.kids.map (List.drop (i + 1))), r.items.drop (i + 1), r.kids.map (List.drop (i + 1))⟩ : NRec It) L2 b o → False

/-- What a split writes of the old cells. -/
def cutS (n : Nat) (cb : Nat) (ib lo hi : Nat) (b o : Nat) : Prop := b = n ∨ b = cb ∨ (b = ib ∧ lo ≤ o ∧ o < hi)

set_option maxHeartbeats 4000000 in
theorem split_any {w : World} {b n : Nat} {h : HRec} {r : NRec It} {L : Lay} (hh : Hdr w b h) (hn : NodeAt TT E w n r L) {mx : Nat} (hmx : h.mx = (mx : Int)) (hl : r.items.length = mx) (h3 : 3 ≤ mx) (hb3 : mx ≤ 1000000000000) {i : Nat} (hi2 : mx / 2 = i) (c : Nat → Int)
    (hc : ∀ ks, r.kids = some ks → ks.length = mx + 1 ∧ (ks.map c).sum ≤ 4000000000000000000 ∧ ∀ k ∈ ks, k ≠ n ∧ 0 ≤ c k ∧ ∃ q Lq, NodeAt TT E w k q Lq ∧ q.cnt = c k) :
    Calls Try.prog 125 #[ptr b, ptr n] w (SplitPost w n h.iso r L i c) := by
  have HN := Lib.hid hn
  have HC := Lib.hid hc
  clear hc
  have HH := Lib.hid hh
  have hlt := lt_of_heap hn.1
  have HM := Lib.hid hmx
  clear hmx hh hn
  unfold ptr at *
  go_enter Try.func125, Try.ntmps125
  go_upto_region 1 with (fail)
  generalize hmb : w.heap.size = mb
  refine wp_world ?_
  intro W1 hW1
  have K1 : Hid (Keep Nothing w W1) := by subst hW1; exact (Keep.refl _ _).al _
  have M1 : Hid (W1.heap[mb]? = some (.cells #[.int .i64 0, kv zeroKy] 161 (0, 0))) := by subst hW1; subst hmb; exact heap_alloc_new w _
  have HMB := Lib.hid hmb
  clear hW1 hmb
  have HN1 : Hid (NodeAt TT E W1 n r L) := by exact HN.out.keep K1.out fun _ _ _ h => h
  have HH1 : Hid (Hdr W1 b h) := by exact blk_keep HH.out K1.out fun _ h => h
  obtain ⟨c0, c1, c2, c3, fz⟩ := blk4 HN1.out.1
  have x6 := hdr_mx HH1.out
  rw [HM.out] at x6
  have hrow := HN1.out.2.1
  have hpos : 0 < (E.all r.items).length := by rw [E.all_len]; exact Nat.mul_pos (by omega) E.pos
  obtain ⟨ib, io, hia, _⟩ := hrow.form hpos
  rw [hia] at c2 hrow
  have hil : i < mx := by omega
  have hi : i < r.items.length := by omega
  have HI : Hid (r.items[i]? = some r.items[i]) := by exact List.getElem?_eq_getElem hi
  have ck := key_cell hrow HI.out
  have cv := val_cell hrow HI.out
  have hdi : (mx : Int) / 2 = (i : Int) := by omega
  generalize r.items[i] = med at *
  have HIA := Lib.hid hia
  have HI2 := Lib.hid hi2
  obtain ⟨y0, y1, fz1⟩ := blk2 M1.out
  clear hrow hia hi2
  unfold kv at *
  go_upto_region 3 with (fail)
  refine wp_world ?_
  intro W2 hW2
  have K2 : Hid (Keep Nothing w W2) := by subst hW2; refine (K1.out.set _ _ _ ?_).set _ _ _ ?_ <;> exact fun h => by rw [HMB.out] at h; exact absurd h (Nat.lt_irrefl _)
  have M2 : Hid (W2.heap[mb]? = some (.cells #[.int .i64 med.2, .string (ky med)] 161 (0, 0))) := by subst hW2; exact blk_set _ (blk_set _ M1.out)
  clear hW2 M1 K1 HN1 HH1 c0 c1 c2 c3 fz x6 ck y0 fz1 cv y1
  have HN2 : Hid (NodeAt TT E W2 n r L) := by exact HN.out.keep K2.out fun _ _ _ h => h
  have HH2 : Hid (Hdr W2 b h) := by exact blk_keep HH.out K2.out fun _ h => h
  have hlf := leaf_any HN2.out
  have hnn := newNode_any HH2.out r.kids.isNone
  unfold ptr at hlf hnn
  go_wp2_with fail
  refine hlf.mono ?_
  rintro e w1 ⟨rfl, rfl⟩
  go_wp2_with fail
  refine hnn.mono ?_
  rintro e W3 ⟨m, Lm, rfl, hm, hK3, hN3, hfp3⟩
  clear hlf hnn
  have K3 : Hid (Keep Nothing w W3) := by exact K2.out.trans hK3 fun _ _ _ h => h
  have hmw : w.heap.size ≤ m := Nat.le_trans K2.out.size hm
  have M3 : Hid (W3.heap[mb]? = some (.cells #[.int .i64 med.2, .string (ky med)] 161 (0, 0))) := by exact blk_keep M2.out hK3 fun _ h => h
  have HN3 : Hid (NodeAt TT E W3 n r L) := by exact HN.out.keep K3.out fun _ _ _ h => h
  have hmmb : m ≠ mb := fun e => by
    have h1 := hN3.1
    rw [e, M3.out] at h1
    exact ty_ok.a (Obj.cells.inj (Option.some.inj h1)).2.1.symm
  have NM3 := Lib.hid hN3
  have FP3 := Lib.hid hfp3
  have hcap : mx ≤ L.icap := hl ▸ HN.out.2.2.1
  have K2s : Hid (w.heap.size ≤ W2.heap.size) := by exact K2.out.size
  clear hK3 hN3 hfp3 HN2 HH2 K2 M2
  obtain ⟨c0, c1, c2, c3, fz⟩ := blk4 HN3.out.1
  obtain ⟨d0, d1, d2, d3, fz2⟩ := blk4 NM3.out.1
  rw [HIA.out] at c2
  clear c0 c1 c3 d0 d1 d3
  unfold ptr at *
  go_upto_region 5 with (fail)
  refine wp_world ?_
  intro W4 hW4
  have hrow := HN.out.2.1
  rw [HIA.out] at hrow
  have R2 : Hid (Row w TT.pair TT.s (some ⟨ib, io + (i + 1) * 2, none⟩) (L.icap - (i + 1)) (E.all (r.items.drop (i + 1)))) := by
    have := hrow.skip (n := i + 1) (by omega)
    rw [show (i + 1) * TT.s = (i + 1) * 2 by simp [TT, E]] at this
    rw [E.all_drop, show (i + 1) * E.s = (i + 1) * 2 by simp [E]]
    exact this
  have R1 : Hid (Row w TT.pair TT.s (some ⟨ib, io, none⟩) i (E.all (r.items.take i))) := by
    have := hrow.cut (n := i) (by omega)
    rw [E.all_take]
    exact this
  clear hrow
  have K4 : Hid (Keep Nothing w W4) := by subst hW4; exact K3.out.set _ _ _ fun h => absurd h (by omega)
  have M4 : Hid (W4.heap[mb]? = some (.cells #[.int .i64 med.2, .string (ky med)] 161 (0, 0))) := by subst hW4; exact blk_far _ M3.out hmmb.symm
  have B4 : Hid (W4.heap[m]? = some (.cells #[.int .u64 h.iso, .int .i64 0, .slice (some ⟨ib, io + (i + 1) * 2, none⟩) (mx - (i + 1)) (L.icap - (i + 1)), kidsVal (if r.kids.isNone = true then none else some []) Lm.cb] 172 (0, 0))) := by
    subst hW4
    have := blk_set (o := 2) (.slice (some ⟨ib, io + (i + 1) * 2, none⟩) (mx - (i + 1)) (L.icap - (i + 1))) NM3.out.1
    exact this
  have C4 : Hid (∀ ks, r.kids = some ks → W4.heap[Lm.cb]? = some (.cells #[.slice Lm.ka 0 Lm.kcap] 173 (0, 0))) := by
    intro ks hks
    have h1 := (NM3.out.2.2.2 [] (by simp [hks])).1
    subst hW4
    exact blk_far _ h1 (blk_ne NM3.out.1 h1 ty_ok.c).symm
  have HN4 : Hid (NodeAt TT E W4 n r L) := by exact HN.out.keep K4.out fun _ _ _ h => h
  have HH4 : Hid (Hdr W4 b h) := by exact blk_keep HH.out K4.out fun _ h => h
  clear hW4 c2 fz d2 fz2 HN3 K3 M3
  have hlf := leaf_any HN4.out
  unfold ptr at hlf
  cases hk : r.kids with
  | none =>
    rw [hk] at hlf
    simp only [Option.isNone_none, hk, if_true] at hlf B4 ⊢
    have HKS := Lib.hid hk
    clear hk
    have HN4b : Hid (NodeAt TT E W4 m ⟨h.iso, 0, r.items.drop (i + 1), none⟩ ⟨some ⟨ib, io + (i + 1) * 2, none⟩, L.icap - (i + 1), Lm.cb, none, 0⟩) := by
      refine ⟨?_, R2.out.keep' K4.out fun _ _ _ h => h, by simp only [List.length_drop, hl]; omega, fun k2 hk2 => by cases hk2⟩
      simp only [List.length_drop, hl]; exact B4.out
    have hup := updateCount_any HN4b.out (by simp; omega) c fun k2 hk2 => by cases hk2
    clear C4 HN4 HH4
    unfold ptr at hup
    go_wp2_with fail
    refine hlf.mono ?_
    rintro e w1 ⟨rfl, rfl⟩
    go_wp2_with fail
    refine hup.mono ?_
    rintro e W6 hU
    obtain ⟨rfl, hK6, hB6⟩ := hU
    clear hup hlf
    have K6 : Hid (Keep Nothing w W6) := by exact K4.out.trans hK6 fun x o hx ⟨e1, e2⟩ => absurd hx (by omega)
    have NM6 : Hid (NodeAt TT E W6 m ⟨h.iso, (r.items.drop (i + 1)).length + kidSum c none, r.items.drop (i + 1), none⟩ ⟨some ⟨ib, io + (i + 1) * 2, none⟩, L.icap - (i + 1), Lm.cb, none, 0⟩) := by
      exact upd_node HN4b.out ⟨rfl, hK6, hB6⟩
    have M6 : Hid (W6.heap[mb]? = some (.cells #[.int .i64 med.2, .string (ky med)] 161 (0, 0))) := by exact blk_keep M4.out hK6 fun o he => hmmb he.1.symm
    have HN6 : Hid (NodeAt TT E W6 n r L) := by exact HN.out.keep K6.out fun _ _ _ h => h
    have HH6 : Hid (Hdr W6 b h) := by exact blk_keep HH.out K6.out fun _ h => h
    clear hK6 hB6 HN4b K4 M4 B4
    obtain ⟨c0, c1, c2, c3, fz⟩ := blk4 HN6.out.1
    rw [HIA.out] at c2
    have hrow := HN6.out.2.1
    rw [HIA.out] at hrow
    have ck := key_cell hrow HI.out
    have hrow' := hrow
    have fz2 := hrow.frozen
    obtain ⟨arr, harr⟩ := hrow.blk
    have hnib : ib ≠ n := (blk_ne HN6.out.1 harr ty_ok.a).symm
    have hibw : ib < w.heap.size := by
      have h1 := HN.out.2.1
      rw [HIA.out] at h1
      exact lt_of_heap h1.blk.choose_spec
    have e4 := hdr_emp HH6.out
    clear c0 c1 c3 hrow harr
    have cv := val_cell hrow' HI.out
    clear hrow'
    obtain ⟨e4, e5⟩ := e4
    unfold kv at ck e5
    go_wp2_with fail
    refine wp_calm (by kernel_rfl) (by kernel_rfl) rfl ?_
    simp only [List.flatMap_cons, List.flatMap_nil, checks, chk, nilLit, List.cons_append, List.nil_append, List.append_nil]
    go_wp2_with fail
    rw [HQ_normal]
    go_upto_region 9 with (fail)
    refine wp_world ?_
    intro W7 hW7
    have K7 : Hid (Keep (cutS n n ib (io + i * 2) (io + (i + 1) * 2)) W6 W7) := by
      subst hW7; exact (((Keep.refl _ _).set _ _ _ fun _ => .inr (.inr ⟨rfl, by omega, by omega⟩)).set _ _ _ fun _ => .inr (.inr ⟨rfl, by omega, by omega⟩)).dr
    have M7 : Hid (W7.heap[mb]? = some (.cells #[.int .i64 med.2, .string (ky med)] 161 (0, 0))) := by subst hW7; exact blk_drew (blk_far _ (blk_far _ M6.out (by have := HMB.out; omega)) (by have := HMB.out; omega))
    have B7 : Hid (W7.heap[n]? = some (.cells #[.int .u64 r.iso, .int .i64 r.cnt, .slice (some ⟨ib, io, none⟩) mx L.icap, .pointer none] 172 (0, 0))) := by
      have h1 := HN6.out.1
      rw [HIA.out, hl, HKS.out] at h1
      subst hW7
      exact blk_drew (blk_far _ (blk_far _ h1 hnib.symm) hnib.symm)
    clear hW7 M6 c2 fz ck fz2 e4 cv e5
    obtain ⟨c0, c1, c2, c3, fz⟩ := blk4 B7.out
    have hil2 : i ≤ L.icap := by omega
    clear c0 c1 c3
    go_upto_region 10 with (fail)
    refine wp_world ?_
    intro W8 hW8
    have K8 : Hid (Keep (cutS n n ib (io + i * 2) (io + (i + 1) * 2)) W6 W8) := by
      subst hW8; exact K7.out.set _ _ _ fun _ => .inl rfl
    have M8 : Hid (W8.heap[mb]? = some (.cells #[.int .i64 med.2, .string (ky med)] 161 (0, 0))) := by subst hW8; exact blk_far _ M7.out (by have := HMB.out; omega)
    have B8 : Hid (W8.heap[n]? = some (.cells #[.int .u64 r.iso, .int .i64 r.cnt, .slice (some ⟨ib, io, none⟩) i i, .pointer none] 172 (0, 0))) := by
      subst hW8; exact blk_set _ B7.out
    clear hW8 c2 fz K7 M7 B7
    have hti : (r.items.take i).length = i := by simp; omega
    have hS1 : ∀ x o, rowFp (some ⟨ib, io, none⟩) (i * TT.s) x o → ¬ cutS n n ib (io + i * 2) (io + (i + 1) * 2) x o := by
      intro x o hf
      obtain ⟨rfl, h1, h2⟩ := rowFp_some hf
      simp only [TT, E] at h2
      rintro (h | h | ⟨h, _, _⟩)
      · exact hnib h
      · exact hnib h
      · omega
    have hS2 : ∀ N x o, rowFp (some ⟨ib, io + (i + 1) * 2, none⟩) N x o → ¬ cutS n n ib (io + i * 2) (io + (i + 1) * 2) x o := by
      intro N x o hf
      obtain ⟨rfl, h1, h2⟩ := rowFp_some hf
      rintro (h | h | ⟨h, _, _⟩)
      · exact hnib h
      · exact hnib h
      · omega
    have KW8 : Hid (Keep (cutS n n ib (io + i * 2) (io + (i + 1) * 2)) w W8) := by exact (K6.out.mono fun _ _ _ h => h.elim).trans K8.out fun _ _ _ h => h
    have NN8 : Hid (NodeAt TT E W8 n ⟨r.iso, r.cnt, r.items.take i, none⟩ ⟨some ⟨ib, io, none⟩, i, L.cb, none, 0⟩) := by
      refine ⟨by simp only [hti]; exact B8.out, R1.out.keep' (KW8.out) hS1, by simp only [hti]; omega, ?_⟩
      rintro k2 hk2
      cases hk2
    have hlf2 := leaf_any NN8.out
    unfold ptr at hlf2
    simp only [Option.isNone_none] at hlf2
    have hup := updateCount_any NN8.out (by simp; omega) c fun k2 hk2 => by cases hk2
    unfold ptr at hup
    go_wp2_with fail
    refine hlf2.mono ?_
    rintro e w1 ⟨rfl, rfl⟩
    clear hlf2
    go_wp2_with fail
    refine hup.mono ?_
    rintro e W10 hU
    obtain ⟨rfl, hK10, hB10⟩ := hU
    clear hup
    have K10 : Hid (Keep (cutS n n ib (io + i * 2) (io + (i + 1) * 2)) W6 W10) := by exact K8.out.trans hK10 fun x o hx ⟨e1, e2⟩ => .inl e1
    have NN10 := Lib.hid (upd_node NN8.out ⟨rfl, hK10, hB10⟩)
    have M10 := blk_keep M8.out hK10 fun o he => by have := HMB.out; omega
    obtain ⟨y0, y1, fz⟩ := blk2 M10
    have KW10 : Hid (Keep (cutS n n ib (io + i * 2) (io + (i + 1) * 2)) w W10) := by exact (K6.out.mono fun _ _ _ h => h.elim).trans K10.out fun _ _ _ h => h
    replace M10 := Lib.hid M10
    clear hK10 hB10 K8 M8 B8
    go_wp2_with fail
    refine wp_calm (by kernel_rfl) (by kernel_rfl) rfl ?_
    simp only [List.flatMap_cons, List.flatMap_nil, checks, chk, nilLit, List.cons_append, List.nil_append, List.append_nil]
    go_wp2_with fail
    rw [HQ_normal]
    go_wp2_with fail
    refine wp_world2 ?_
    intro W11 hW11
    have K11 : Keep (fun x _ => x = mb) W10 W11 := by
      subst hW11; refine (((Keep.refl _ _).set _ _ _ ?_).set _ _ _ ?_).dr <;> exact fun _ => rfl
    have M11 : W11.heap[mb]? = some (.cells (E.enc med).toArray 161 (0, 0)) := by
      subst hW11; exact blk_drew (blk_set _ (blk_set _ M10.out))
    refine bodyPost_ret (results_tmp_cell_row rfl _ _ mb 161 (E.enc med).toArray (0, 0) _ rfl M11 Try.underlying161 rfl (by kernel_rfl)) rfl ?_
    have KW11 : Keep (fp TT n r L) w W11 := by
      refine (KW10.out.mono ?_).trans K11 (fun x o hx e => absurd hx (by have := HMB.out; omega))
      rintro x o hx (rfl | rfl | ⟨rfl, h1, h2⟩)
      · exact .inl rfl
      · exact .inl rfl
      · refine .inr (.inl ⟨_, _, HIA.out, rfl, by omega, ?_⟩)
        simp only [TT, E]
        omega
    have fp1 : ∀ x o, fp TT n (⟨r.iso, (r.items.take i).length + kidSum c (r.kids.map (List.take (i + 1))), r.items.take i, r.kids.map (List.take (i + 1))⟩ : NRec It) ⟨some ⟨ib, io, none⟩, i, L.cb, none, 0⟩ x o → fp TT n r L x o := by
      rintro x o (rfl | hf | ⟨hk, _⟩)
      · exact .inl rfl
      · obtain ⟨rfl, h1, h2⟩ := rowFp_some hf
        refine .inr (.inl ⟨_, _, HIA.out, rfl, by omega, ?_⟩)
        simp only [TT, E] at h2 ⊢
        omega
      · rw [HKS.out] at hk; cases hk
    have fp2 : ∀ x o, fp TT m (⟨h.iso, (r.items.drop (i + 1)).length + kidSum c (r.kids.map (List.drop (i + 1))), r.items.drop (i + 1), r.kids.map (List.drop (i + 1))⟩ : NRec It) ⟨some ⟨ib, io + (i + 1) * 2, none⟩, L.icap - (i + 1), Lm.cb, none, 0⟩ x o → fp TT n r L x o ∨ w.heap.size ≤ x := by
      rintro x o (rfl | hf | ⟨hk, _⟩)
      · exact .inr hmw
      · obtain ⟨rfl, h1, h2⟩ := rowFp_some hf
        refine .inl (.inr (.inl ⟨_, _, HIA.out, rfl, by omega, ?_⟩))
        simp only [TT, E] at h2 ⊢
        omega
      · rw [HKS.out] at hk; cases hk
    refine ⟨m, _, _, med, HI.out, rfl, hmw, KW11, ?_, ?_, fp1, fp2, ?_⟩
    · have h1 := NN10.out.keep K11 (fun x o hf e => by
        have h2 := HN.out.lt (fp1 x o (by rw [HKS.out]; exact hf))
        have := HMB.out
        omega)
      rw [HKS.out]
      exact h1
    · have h0 := NM6.out.keep K10.out (fun x o hf hS => by
        rcases hf with rfl | hf | ⟨hk, _⟩
        · rcases hS with e | e | ⟨e, _⟩ <;> (try dsimp only at e) <;> omega
        · exact hS2 _ x o hf hS
        · cases hk)
      have h1 := h0.keep K11 (fun x o hf e => by
        have := HMB.out
        rcases hf with rfl | hf | ⟨hk, _⟩
        · exact hmmb e
        · obtain ⟨rfl, _, _⟩ := rowFp_some hf; omega
        · cases hk)
      rw [HKS.out]
      exact h1
    · rintro x o (hf | hf | ⟨hk, _⟩) (hg | hg | ⟨hk, _⟩)
      · omega
      · exact hnib ((rowFp_some hg).1.symm.trans hf)
      · rw [HKS.out] at hk; cases hk
      · have := (rowFp_some hf).1; omega
      · have h1 := (rowFp_some hf).2.2
        have h2 := (rowFp_some hg).2.1
        simp only [TT, E] at h1
        omega
      · rw [HKS.out] at hk; cases hk
      all_goals (rw [HKS.out] at hk; cases hk)
  | some ks =>
    rw [hk] at hlf
    simp only [Option.isNone_some, hk, Bool.false_eq_true, if_false] at hlf B4 ⊢
    have HKS := Lib.hid hk
    clear hk
    obtain ⟨c0, c1, c2, c3, fz⟩ := blk4 HN4.out.1
    obtain ⟨g1, g2, g3⟩ := HN4.out.2.2.2 ks HKS.out
    obtain ⟨hkl, hkc⟩ := HC.out ks HKS.out
    have hkp : 0 < (ks.map ptr).length := by simp; omega
    obtain ⟨kb, ko, hka, _⟩ := g2.form hkp
    have HKA := Lib.hid hka
    rw [hka] at g1
    obtain ⟨g4, fz3⟩ := blk1 g1
    have C4' := C4.out ks HKS.out
    obtain ⟨g5, fz4⟩ := blk1 C4'
    obtain ⟨d0, d1, d2, d3, fz2⟩ := blk4 B4.out
    rw [HKS.out] at c3
    have hk1 : ¬ L.kcap = i + 1 := by omega
    simp only [kidsVal, ptr] at c3 d3
    replace C4' := Lib.hid C4'
    clear c0 c1 d0 d1 g1 g2 hka
    go_wp2_with fail
    refine hlf.mono ?_
    rintro e w1 ⟨rfl, rfl⟩
    go_wp2_with fail
    refine wp_calm (by kernel_rfl) (by kernel_rfl) rfl ?_
    simp only [List.flatMap_cons, List.flatMap_nil, checks, chk, nilLit, List.cons_append, List.nil_append, List.append_nil]
    try simp only [Try.underlying3]
    go_wp2_with fail
    rw [HQ_normal]
    go_upto_region 7 with (fail)
    refine wp_world ?_
    intro W5 hW5
    have hcbw' : w.heap.size ≤ Lm.cb := by
      refine Nat.le_trans K2s.out (FP3.out Lm.cb 0 (.inr (.inr ⟨by simp [HKS.out], .inl rfl⟩)))
    have hcm : Lm.cb ≠ m := (blk_ne B4.out C4'.out ty_ok.c).symm
    have hcmb : mb ≠ Lm.cb := blk_ne M4.out C4'.out ty_ok.d
    have hke : ks.length - (i + 1) = mx - i := by omega
    have hrow := (HN.out.2.2.2 ks HKS.out).2.1
    rw [HKA.out] at hrow
    have R4 : Hid (Row w TT.nodeP 1 (some ⟨kb, ko + (i + 1), none⟩) (L.kcap - (i + 1)) ((ks.drop (i + 1)).map ptr)) := by
      have := hrow.skip (n := i + 1) (by omega)
      rw [Nat.mul_one] at this
      rw [List.map_drop]
      exact this
    have R3 : Hid (Row w TT.nodeP 1 (some ⟨kb, ko, none⟩) (i + 1) ((ks.take (i + 1)).map ptr)) := by
      have := hrow.cut (n := i + 1) (by omega)
      rw [Nat.mul_one] at this
      rw [List.map_take]
      exact this
    clear hrow
    have K5 : Hid (Keep Nothing w W5) := by subst hW5; exact (K4.out.set _ _ _ fun h => absurd h (by omega)).dr
    have M5 : Hid (W5.heap[mb]? = some (.cells #[.int .i64 med.2, .string (ky med)] 161 (0, 0))) := by subst hW5; exact blk_drew (blk_far _ M4.out hcmb)
    have B5 : Hid (W5.heap[m]? = some (.cells #[.int .u64 h.iso, .int .i64 0, .slice (some ⟨ib, io + (i + 1) * 2, none⟩) (mx - (i + 1)) (L.icap - (i + 1)), ptr Lm.cb] 172 (0, 0))) := by
      subst hW5; exact blk_drew (blk_far _ B4.out hcm.symm)
    have C5 : Hid (W5.heap[Lm.cb]? = some (.cells #[.slice (some ⟨kb, ko + (i + 1), none⟩) (mx - i) (L.kcap - (i + 1))] 173 (0, 0))) := by
      subst hW5; exact blk_drew (blk_set _ C4'.out)
    clear hW5
    have HN5 : Hid (NodeAt TT E W5 n r L) := by exact HN.out.keep K5.out fun _ _ _ h => h
    have NM5 : Hid (NodeAt TT E W5 m ⟨h.iso, 0, r.items.drop (i + 1), some (ks.drop (i + 1))⟩ ⟨some ⟨ib, io + (i + 1) * 2, none⟩, L.icap - (i + 1), Lm.cb, some ⟨kb, ko + (i + 1), none⟩, L.kcap - (i + 1)⟩) := by
      refine ⟨?_, R2.out.keep' K5.out fun _ _ _ h => h, by simp only [List.length_drop, hl]; omega, fun k2 hk2 => ?_⟩
      · simp only [List.length_drop, hl]; exact B5.out
      · cases hk2
        refine ⟨?_, R4.out.keep' K5.out fun _ _ _ h => h, by simp only [List.length_drop]; omega⟩
        simp only [List.length_drop, hke]; exact C5.out
    have hup := updateCount_any NM5.out (by simp; omega) c fun k2 hk2 => by
      cases hk2
      refine ⟨by simp; omega, ?_, fun k hk => ?_⟩
      · rw [List.map_drop]
        have := sum_drop (l := ks.map c) (by simpa using fun k hk => (hkc.2 k hk).2.1) (i + 1)
        omega
      · obtain ⟨e1, e2, q, Lq, e3, e4⟩ := hkc.2 k (List.mem_of_mem_drop hk)
        refine ⟨?_, e2, ?_⟩
        · have := lt_of_heap e3.1; omega
        · rw [← e4]; exact (blk4 (e3.keep K5.out fun _ _ _ h => h).1).2.1
    clear K4 M4 B4 C4' C4 HN4 HH4 c2 c3 fz g4 fz3 g5 fz4 d2 d3 fz2
    unfold ptr at hup
    go_wp2_with fail
    refine hup.mono ?_
    rintro e W6 hU
    obtain ⟨rfl, hK6, hB6⟩ := hU
    clear hup
    have K6 : Hid (Keep Nothing w W6) := by exact K5.out.trans hK6 fun x o hx ⟨e1, e2⟩ => absurd hx (by omega)
    have NM6 : Hid (NodeAt TT E W6 m ⟨h.iso, (r.items.drop (i + 1)).length + kidSum c (some (ks.drop (i + 1))), r.items.drop (i + 1), some (ks.drop (i + 1))⟩ ⟨some ⟨ib, io + (i + 1) * 2, none⟩, L.icap - (i + 1), Lm.cb, some ⟨kb, ko + (i + 1), none⟩, L.kcap - (i + 1)⟩) := by
      exact upd_node NM5.out ⟨rfl, hK6, hB6⟩
    have M6 : Hid (W6.heap[mb]? = some (.cells #[.int .i64 med.2, .string (ky med)] 161 (0, 0))) := by exact blk_keep M5.out hK6 fun o he => hmmb he.1.symm
    have HN6 : Hid (NodeAt TT E W6 n r L) := by exact HN.out.keep K6.out fun _ _ _ h => h
    have HH6 : Hid (Hdr W6 b h) := by exact blk_keep HH.out K6.out fun _ h => h
    clear hK6 hB6 HN5 NM5 K5 M5 B5 C5
    obtain ⟨c0, c1, c2, c3, fz⟩ := blk4 HN6.out.1
    rw [HIA.out] at c2
    have hrow := HN6.out.2.1
    rw [HIA.out] at hrow
    have ck := key_cell hrow HI.out
    have hrow' := hrow
    have fz2 := hrow.frozen
    obtain ⟨arr, harr⟩ := hrow.blk
    have hnib : ib ≠ n := (blk_ne HN6.out.1 harr ty_ok.a).symm
    have hibw : ib < w.heap.size := by
      have h1 := HN.out.2.1
      rw [HIA.out] at h1
      exact lt_of_heap h1.blk.choose_spec
    have e4 := hdr_emp HH6.out
    have hcbw : L.cb < w.heap.size := lt_of_heap (HN.out.2.2.2 ks HKS.out).1
    clear c0 c1 c3 hrow harr
    have cv := val_cell hrow' HI.out
    clear hrow'
    obtain ⟨e4, e5⟩ := e4
    unfold kv at ck e5
    go_wp2_with fail
    refine wp_calm (by kernel_rfl) (by kernel_rfl) rfl ?_
    simp only [List.flatMap_cons, List.flatMap_nil, checks, chk, nilLit, List.cons_append, List.nil_append, List.append_nil]
    try simp only [Try.underlying3]
    go_wp2_with fail
    rw [HQ_normal]
    go_upto_region 9 with (fail)
    refine wp_world ?_
    intro W7 hW7
    have K7 : Hid (Keep (cutS n L.cb ib (io + i * 2) (io + (i + 1) * 2)) W6 W7) := by
      subst hW7; exact (((Keep.refl _ _).set _ _ _ fun _ => .inr (.inr ⟨rfl, by omega, by omega⟩)).set _ _ _ fun _ => .inr (.inr ⟨rfl, by omega, by omega⟩)).dr
    have M7 : Hid (W7.heap[mb]? = some (.cells #[.int .i64 med.2, .string (ky med)] 161 (0, 0))) := by subst hW7; exact blk_drew (blk_far _ (blk_far _ M6.out (by have := HMB.out; omega)) (by have := HMB.out; omega))
    have B7 : Hid (W7.heap[n]? = some (.cells #[.int .u64 r.iso, .int .i64 r.cnt, .slice (some ⟨ib, io, none⟩) mx L.icap, ptr L.cb] 172 (0, 0))) := by
      have h1 := HN6.out.1
      rw [HIA.out, hl, HKS.out] at h1
      subst hW7
      exact blk_drew (blk_far _ (blk_far _ h1 hnib.symm) hnib.symm)
    have hbk := (HN6.out.2.2.2 ks HKS.out).1
    rw [HKA.out] at hbk
    have hncb : n ≠ L.cb := blk_ne HN6.out.1 hbk ty_ok.c
    have hibcb : ib ≠ L.cb := by
      have h1 := HN6.out.2.1
      rw [HIA.out] at h1
      exact blk_ne h1.blk.choose_spec hbk ty_ok.d
    have C7 : Hid (W7.heap[L.cb]? = some (.cells #[.slice (some ⟨kb, ko, none⟩) ks.length L.kcap] 173 (0, 0))) := by
      subst hW7
      exact blk_drew (blk_far _ (blk_far _ hbk hibcb.symm) hibcb.symm)
    clear hW7 hbk M6 c2 fz ck fz2 e4 cv e5
    obtain ⟨c0, c1, c2, c3, fz⟩ := blk4 B7.out
    have hil2 : i ≤ L.icap := by omega
    clear c0 c1 c3
    go_upto_region 10 with (fail)
    refine wp_world ?_
    intro W8 hW8
    have K8 : Hid (Keep (cutS n L.cb ib (io + i * 2) (io + (i + 1) * 2)) W6 W8) := by
      subst hW8; exact K7.out.set _ _ _ fun _ => .inl rfl
    have M8 : Hid (W8.heap[mb]? = some (.cells #[.int .i64 med.2, .string (ky med)] 161 (0, 0))) := by subst hW8; exact blk_far _ M7.out (by have := HMB.out; omega)
    have B8 : Hid (W8.heap[n]? = some (.cells #[.int .u64 r.iso, .int .i64 r.cnt, .slice (some ⟨ib, io, none⟩) i i, ptr L.cb] 172 (0, 0))) := by
      subst hW8; exact blk_set _ B7.out
    have C8 : Hid (W8.heap[L.cb]? = some (.cells #[.slice (some ⟨kb, ko, none⟩) ks.length L.kcap] 173 (0, 0))) := by
      subst hW8; exact blk_far _ C7.out hncb.symm
    clear hW8 c2 fz K7 M7 B7 C7
    obtain ⟨arr, hkb⟩ := R3.out.blk
    obtain ⟨arr2, hib⟩ := R1.out.blk
    have hkbn : kb ≠ n := (blk_ne HN.out.1 hkb ty_ok.b).symm
    have hkbcb : kb ≠ L.cb := blk_ne hkb (HN.out.2.2.2 ks HKS.out).1 ty_ok.e
    have hkbib : kb ≠ ib := (blk_ne hib hkb ty_ok.f).symm
    clear hkb hib
    have hti : (r.items.take i).length = i := by simp; omega
    have htk : (ks.take (i + 1)).length = i + 1 := by simp; omega
    have hS1 : ∀ x o, rowFp (some ⟨ib, io, none⟩) (i * TT.s) x o → ¬ cutS n L.cb ib (io + i * 2) (io + (i + 1) * 2) x o := by
      intro x o hf
      obtain ⟨rfl, h1, h2⟩ := rowFp_some hf
      simp only [TT, E] at h2
      rintro (h | h | ⟨h, _, _⟩)
      · exact hnib h
      · exact hibcb h
      · omega
    have hS2 : ∀ N x o, rowFp (some ⟨ib, io + (i + 1) * 2, none⟩) N x o → ¬ cutS n L.cb ib (io + i * 2) (io + (i + 1) * 2) x o := by
      intro N x o hf
      obtain ⟨rfl, h1, h2⟩ := rowFp_some hf
      rintro (h | h | ⟨h, _, _⟩)
      · exact hnib h
      · exact hibcb h
      · omega
    have hS3 : ∀ y N x o, rowFp (some ⟨kb, y, none⟩) N x o → ¬ cutS n L.cb ib (io + i * 2) (io + (i + 1) * 2) x o := by
      intro y N x o hf
      obtain ⟨rfl, h1, h2⟩ := rowFp_some hf
      rintro (h | h | ⟨h, _⟩)
      · exact hkbn h
      · exact hkbcb h
      · exact hkbib h
    have KW8 : Hid (Keep (cutS n L.cb ib (io + i * 2) (io + (i + 1) * 2)) w W8) := by exact (K6.out.mono fun _ _ _ h => h.elim).trans K8.out fun _ _ _ h => h
    have NN8 : Hid (NodeAt TT E W8 n ⟨r.iso, r.cnt, r.items.take i, some ks⟩ ⟨some ⟨ib, io, none⟩, i, L.cb, L.ka, L.kcap⟩) := by
      refine ⟨by simp only [hti]; exact B8.out, R1.out.keep' (KW8.out) ?_, by simp only [hti]; omega, ?_⟩
      · intro x o hf
        exact hS1 x o hf
      · rintro k2 hk2
        cases hk2
        refine ⟨by rw [HKA.out]; exact C8.out, ?_, g3⟩
        exact (HN.out.2.2.2 ks HKS.out).2.1.keep' KW8.out fun x o hf => by
          rw [HKA.out] at hf
          obtain ⟨rfl, _, _⟩ := rowFp_some hf
          rintro (h | h | ⟨h, _⟩)
          · exact hkbn h
          · exact hkbcb h
          · exact hkbib h
    have hlf2 := leaf_any NN8.out
    unfold ptr at hlf2
    simp only [Option.isNone_some] at hlf2
    obtain ⟨c0, c1, c2, c3, fz⟩ := blk4 B8.out
    obtain ⟨g4, fz3⟩ := blk1 C8.out
    have hk2 : i + 1 ≤ ks.length := by omega
    have hk3 : i + 1 ≤ L.kcap := by omega
    clear c0 c1 c2 
    unfold ptr at c3
    go_wp2_with fail
    refine hlf2.mono ?_
    rintro e w1 ⟨rfl, rfl⟩
    clear hlf2
    go_wp2_with fail
    refine wp_calm (by kernel_rfl) (by kernel_rfl) rfl ?_
    simp only [List.flatMap_cons, List.flatMap_nil, checks, chk, nilLit, List.cons_append, List.nil_append, List.append_nil]
    try simp only [Try.underlying3]
    go_wp2_with fail
    rw [HQ_normal]
    go_upto_region 12 with (fail)
    refine wp_world ?_
    intro W9 hW9
    have K9 : Hid (Keep (cutS n L.cb ib (io + i * 2) (io + (i + 1) * 2)) W6 W9) := by
      subst hW9; exact (K8.out.set _ _ _ fun _ => .inr (.inl rfl)).dr
    have M9 : Hid (W9.heap[mb]? = some (.cells #[.int .i64 med.2, .string (ky med)] 161 (0, 0))) := by subst hW9; exact blk_drew (blk_far _ M8.out (by have := HMB.out; omega))
    have B9 : Hid (W9.heap[n]? = some (.cells #[.int .u64 r.iso, .int .i64 r.cnt, .slice (some ⟨ib, io, none⟩) i i, ptr L.cb] 172 (0, 0))) := by
      subst hW9; exact blk_drew (blk_far _ B8.out hncb)
    have C9 : Hid (W9.heap[L.cb]? = some (.cells #[.slice (some ⟨kb, ko, none⟩) (i + 1) (i + 1)] 173 (0, 0))) := by
      subst hW9; exact blk_drew (blk_set _ C8.out)
    clear hW9 c3 fz g4 fz3 K8 M8 B8 C8 NN8 KW8
    have KW9 : Hid (Keep (cutS n L.cb ib (io + i * 2) (io + (i + 1) * 2)) w W9) := by exact (K6.out.mono fun _ _ _ h => h.elim).trans K9.out fun _ _ _ h => h
    have NN9 : Hid (NodeAt TT E W9 n ⟨r.iso, r.cnt, r.items.take i, some (ks.take (i + 1))⟩ ⟨some ⟨ib, io, none⟩, i, L.cb, some ⟨kb, ko, none⟩, i + 1⟩) := by
      refine ⟨by simp only [hti]; exact B9.out, R1.out.keep' KW9.out hS1, by simp only [hti]; omega, ?_⟩
      rintro k2 hk2
      cases hk2
      exact ⟨by simp only [htk]; exact C9.out, R3.out.keep' KW9.out (hS3 _ _), by simp only [htk]; omega⟩
    have hup := updateCount_any NN9.out (by simp; omega) c fun k2 hk2 => by
      cases hk2
      refine ⟨by simp; omega, ?_, fun k hk => ?_⟩
      · rw [List.map_take]
        have := sum_take (l := ks.map c) (by simpa using fun k hk => (hkc.2 k hk).2.1) (i + 1)
        omega
      · obtain ⟨e1, e2, q, Lq, e3, e4⟩ := hkc.2 k (List.mem_of_mem_take hk)
        refine ⟨e1, e2, ?_⟩
        rw [← e4]
        refine KW9.out.cell' (blk4 e3.1).2.1 ?_
        rintro (h | h | ⟨h, _⟩)
        · exact e1 h
        · exact blk_ne e3.1 (HN.out.2.2.2 ks HKS.out).1 ty_ok.c h
        · exact blk_ne e3.1 R1.out.blk.choose_spec ty_ok.a h
    unfold ptr at hup
    go_wp2_with fail
    refine hup.mono ?_
    rintro e W10 hU
    obtain ⟨rfl, hK10, hB10⟩ := hU
    clear hup
    have K10 : Hid (Keep (cutS n L.cb ib (io + i * 2) (io + (i + 1) * 2)) W6 W10) := by exact K9.out.trans hK10 fun x o hx ⟨e1, e2⟩ => .inl e1
    have NN10 := Lib.hid (upd_node NN9.out ⟨rfl, hK10, hB10⟩)
    have M10 := blk_keep M9.out hK10 fun o he => by have := HMB.out; omega
    obtain ⟨y0, y1, fz⟩ := blk2 M10
    have KW10 : Hid (Keep (cutS n L.cb ib (io + i * 2) (io + (i + 1) * 2)) w W10) := by exact (K6.out.mono fun _ _ _ h => h.elim).trans K10.out fun _ _ _ h => h
    replace M10 := Lib.hid M10
    clear hK10 hB10 K9 M9 B9 C9
    go_wp2_with fail
    refine wp_calm (by kernel_rfl) (by kernel_rfl) rfl ?_
    simp only [List.flatMap_cons, List.flatMap_nil, checks, chk, nilLit, List.cons_append, List.nil_append, List.append_nil]
    try simp only [Try.underlying3]
    go_wp2_with fail
    rw [HQ_normal]
    go_wp2_with fail
    refine wp_world2 ?_
    intro W11 hW11
    have K11 : Keep (fun x _ => x = mb) W10 W11 := by
      subst hW11; refine (((Keep.refl _ _).set _ _ _ ?_).set _ _ _ ?_).dr <;> exact fun _ => rfl
    have M11 : W11.heap[mb]? = some (.cells (E.enc med).toArray 161 (0, 0)) := by
      subst hW11; exact blk_drew (blk_set _ (blk_set _ M10.out))
    refine bodyPost_ret (results_tmp_cell_row rfl _ _ mb 161 (E.enc med).toArray (0, 0) _ rfl M11 Try.underlying161 rfl (by kernel_rfl)) rfl ?_
    have KW11 : Keep (fp TT n r L) w W11 := by
      refine (KW10.out.mono ?_).trans K11 (fun x o hx e => absurd hx (by have := HMB.out; omega))
      rintro x o hx (rfl | rfl | ⟨rfl, h1, h2⟩)
      · exact .inl rfl
      · exact .inr (.inr ⟨by simp [HKS.out], .inl rfl⟩)
      · refine .inr (.inl ⟨_, _, HIA.out, rfl, by omega, ?_⟩)
        simp only [TT, E]
        omega
    have fp1 : ∀ x o, fp TT n (⟨r.iso, (r.items.take i).length + kidSum c (r.kids.map (List.take (i + 1))), r.items.take i, r.kids.map (List.take (i + 1))⟩ : NRec It) ⟨some ⟨ib, io, none⟩, i, L.cb, some ⟨kb, ko, none⟩, i + 1⟩ x o → fp TT n r L x o := by
      rintro x o (rfl | hf | ⟨_, rfl | hf⟩)
      · exact .inl rfl
      · obtain ⟨rfl, h1, h2⟩ := rowFp_some hf
        refine .inr (.inl ⟨_, _, HIA.out, rfl, by omega, ?_⟩)
        simp only [TT, E] at h2 ⊢
        omega
      · exact .inr (.inr ⟨by simp [HKS.out], .inl rfl⟩)
      · obtain ⟨rfl, h1, h2⟩ := rowFp_some hf
        dsimp only at h1 h2
        exact .inr (.inr ⟨by simp [HKS.out], .inr ⟨_, _, HKA.out, rfl, by omega, by omega⟩⟩)
    have fp2 : ∀ x o, fp TT m (⟨h.iso, (r.items.drop (i + 1)).length + kidSum c (r.kids.map (List.drop (i + 1))), r.items.drop (i + 1), r.kids.map (List.drop (i + 1))⟩ : NRec It) ⟨some ⟨ib, io + (i + 1) * 2, none⟩, L.icap - (i + 1), Lm.cb, some ⟨kb, ko + (i + 1), none⟩, L.kcap - (i + 1)⟩ x o → fp TT n r L x o ∨ w.heap.size ≤ x := by
      rintro x o (rfl | hf | ⟨_, rfl | hf⟩)
      · exact .inr hmw
      · obtain ⟨rfl, h1, h2⟩ := rowFp_some hf
        refine .inl (.inr (.inl ⟨_, _, HIA.out, rfl, by omega, ?_⟩))
        simp only [TT, E] at h2 ⊢
        omega
      · exact .inr hcbw'
      · obtain ⟨rfl, h1, h2⟩ := rowFp_some hf
        dsimp only at h1 h2
        exact .inl (.inr (.inr ⟨by simp [HKS.out], .inr ⟨_, _, HKA.out, rfl, by omega, by omega⟩⟩))
    have hkbw : kb < w.heap.size := lt_of_heap R3.out.blk.choose_spec
    refine ⟨m, _, _, med, HI.out, rfl, hmw, KW11, ?_, ?_, fp1, fp2, ?_⟩
    · have h1 := NN10.out.keep K11 (fun x o hf e => by
        have h2 := HN.out.lt (fp1 x o (by rw [HKS.out]; exact hf))
        have := HMB.out
        omega)
      rw [HKS.out]
      exact h1
    · have h0 := NM6.out.keep K10.out (fun x o hf hS => by
        rcases hf with rfl | hf | ⟨_, rfl | hf⟩
        · rcases hS with e | e | ⟨e, _⟩ <;> (try dsimp only at e) <;> omega
        · exact hS2 _ x o hf hS
        · rcases hS with e | e | ⟨e, _⟩ <;> (try dsimp only at e) <;> omega
        · exact hS3 _ _ x o hf hS)
      have h1 := h0.keep K11 (fun x o hf e => by
        have := HMB.out
        rcases hf with rfl | hf | ⟨_, rfl | hf⟩
        · exact hmmb e
        · obtain ⟨rfl, _, _⟩ := rowFp_some hf; omega
        · exact hcmb e.symm
        · obtain ⟨rfl, _, _⟩ := rowFp_some hf; omega)
      rw [HKS.out]
      exact h1
    · have hlk := (Nat.lt_of_lt_of_le hcbw hcbw')
      rintro x o (hf | hf | ⟨_, hf | hf⟩) (hg | hg | ⟨_, hg | hg⟩)
      · omega
      · exact hnib ((rowFp_some hg).1.symm.trans hf)
      · dsimp only at hg; omega
      · exact hkbn ((rowFp_some hg).1.symm.trans hf)
      · have := (rowFp_some hf).1; omega
      · have h1 := (rowFp_some hf).2.2
        have h2 := (rowFp_some hg).2.1
        simp only [TT, E] at h1
        omega
      · have := (rowFp_some hf).1; dsimp only at hg; omega
      · exact hkbib ((rowFp_some hg).1.symm.trans (rowFp_some hf).1)
      · dsimp only at hf; omega
      · exact hibcb ((rowFp_some hg).1.symm.trans hf)
      · dsimp only at hf hg; omega
      · exact hkbcb ((rowFp_some hg).1.symm.trans hf)
      · have := (rowFp_some hf).1; omega
      · exact hkbib ((rowFp_some hf).1.symm.trans (rowFp_some hg).1)
      · have := (rowFp_some hf).1; dsimp only at hg; omega
      · have h1 := (rowFp_some hf).2.2
        have h2 := (rowFp_some hg).2.1
        dsimp only at h1 h2
        omega
end Go.Proofs.Ytckplcmieelmpaa.W

namespace Go.Proofs.Ytckplcmieelmpaa.W
open Go.RowKit Go.Wb

/-- Where a key belongs among items. -/
def Loc (its : List It) (k : Ky) (i : Nat) (f : Bool) : Prop := i ≤ its.length ∧
    match f with
    | true => ∃ x, its[i]? = some x ∧ klt k (ky x) = false ∧ klt (ky x) k = false
    | false => (∀ j x, j < i → its[j]? = some x → klt (ky x) k = true) ∧ ∀ j x, i ≤ j → its[j]? = some x → klt k (ky x) = true

theorem klt_of_eq {a b c : Ky} (_h1 : klt a b = false) (h2 : klt b a = false) (h : klt c a = true) : klt c b = true := by
  rcases kord.co c b a h with h | h
  · exact h
  · rw [h2] at h; cases h
theorem klt_of_eq' {a b c : Ky} (h1 : klt a b = false) (_h2 : klt b a = false) (h : klt a c = true) : klt b c = true := by
  rcases kord.co a b c h with h | h
  · rw [h1] at h; cases h
  · exact h

theorem Loc.uniq {its : List It} {k : Ky} {i j : Nat} {f g : Bool} (hs : Sorted ilt its) (h1 : Loc its k i f) (h2 : Loc its k j g) : i = j ∧ f = g := by
  have lt (a b : Nat) (x y : It) (ha : its[a]? = some x) (hb : its[b]? = some y) (hab : a < b) : klt (ky x) (ky y) = true := by
    obtain ⟨hal, rfl⟩ := List.getElem?_eq_some_iff.1 ha
    obtain ⟨hbl, rfl⟩ := List.getElem?_eq_some_iff.1 hb
    exact List.pairwise_iff_getElem.1 hs a b hal hbl hab
  have one (a b : Nat) (ha : Loc its k a true) (hb : Loc its k b true) (hab : a < b) : False := by
    obtain ⟨_, x, hx, h3, h4⟩ := ha
    obtain ⟨_, y, hy, h5, h6⟩ := hb
    have h7 := lt a b x y hx hy hab
    have h8 := klt_of_eq' h4 h3 h7
    rw [h5] at h8
    cases h8
  have two (a b : Nat) (ha : Loc its k a true) (hb : Loc its k b false) : False := by
    obtain ⟨_, x, hx, h3, h4⟩ := ha
    obtain ⟨_, h5, h6⟩ := hb
    by_cases h : a < b
    · rw [h5 a x h hx] at h4; cases h4
    · rw [h6 a x (by omega) hx] at h3; cases h3
  have three (a b : Nat) (ha : Loc its k a false) (hb : Loc its k b false) (hab : a < b) : False := by
    obtain ⟨_, h3, h4⟩ := ha
    obtain ⟨h5, h6, h7⟩ := hb
    have hal : a < its.length := by omega
    have h8 := h4 a its[a] (Nat.le_refl _) (by simp [hal])
    have h9 := h6 a its[a] hab (by simp [hal])
    rw [kord.asymm h8] at h9
    cases h9
  cases f <;> cases g
  · refine ⟨?_, rfl⟩
    rcases Nat.lt_trichotomy i j with h | h | h
    · exact (three i j h1 h2 h).elim
    · exact h
    · exact (three j i h2 h1 h).elim
  · exact (two j i h2 h1).elim
  · exact (two i j h1 h2).elim
  · refine ⟨?_, rfl⟩
    rcases Nat.lt_trichotomy i j with h | h | h
    · exact (one i j h1 h2 h).elim
    · exact h
    · exact (one j i h2 h1 h).elim

theorem Loc.ex (k : Ky) : ∀ (its : List It), Sorted ilt its → ∃ i f, Loc its k i f
  | [], _ => ⟨0, false, by simp, by simp, by simp⟩
  | x :: l, hs => by
    have hp := List.pairwise_cons.1 hs
    cases h1 : klt (ky x) k with
    | true =>
      obtain ⟨i, f, h2, h3⟩ := Loc.ex k l hp.2
      refine ⟨i + 1, f, by simp; omega, ?_⟩
      cases f with
      | true =>
        obtain ⟨y, h4, h5⟩ := h3
        exact ⟨y, by simpa using h4, h5⟩
      | false =>
        refine ⟨fun j y hj hy => ?_, fun j y hj hy => ?_⟩
        · cases j with
          | zero => obtain rfl : x = y := by simpa using hy
                    exact h1
          | succ j => exact h3.1 j y (by omega) (by simpa using hy)
        · cases j with
          | zero => omega
          | succ j => exact h3.2 j y (by omega) (by simpa using hy)
    | false =>
      cases h2 : klt k (ky x) with
      | true =>
        refine ⟨0, false, by simp, fun j y hj => by omega, fun j y _ hy => ?_⟩
        cases j with
        | zero => obtain rfl : x = y := by simpa using hy
                  exact h2
        | succ j => exact kord.tr _ _ _ h2 (hp.1 y (List.mem_of_getElem? (by simpa using hy)))
      | false => exact ⟨0, true, by simp, x, by simp, h2, h1⟩

theorem search_loc {w : World} {tr : Value} {n : Nat} {r : NRec It} {L : Lay} (hn : NodeAt TT E w n r L) (hlen : r.items.length ≤ 1000000000000) {k : Ky} (hs : Sorted ilt r.items) {i : Nat} {f : Bool} (hl : Loc r.items k i f) :
    Calls Try.prog 171 #[tr, ptr n, kv k] w fun e w' => e = .returned (.tuple #[.int .i64 i, .bool f]) ∧ ∃ n, w' = w.drewN n := by
  refine (search_any (tr := tr) hn hlen k hs).mono ?_
  rintro e w' ⟨i', f', rfl, h1, h2, h3⟩
  obtain ⟨rfl, rfl⟩ := Loc.uniq hs (show Loc r.items k i' f' from ⟨h2, h3⟩) hl
  exact ⟨rfl, h1⟩
end Go.Proofs.Ytckplcmieelmpaa.W

namespace Go.Wb
open Go Go.RowKit
variable {α : Type}

theorem Row.setCell {w : World} {ty s b o cap : Nat} {cs : List Value} (h : Row w ty s (some ⟨b, o, none⟩) cap cs) {j : Nat} (v : Value) (hj : j < cs.length) : Row (w.setCell ⟨b, o + j, none⟩ v) ty s (some ⟨b, o, none⟩) cap (cs.set j v) := by
  rcases h with ⟨h, _⟩ | ⟨b', o', arr, h1, h2, h3, h4, h5⟩
  · cases h
  · obtain ⟨rfl, rfl⟩ : b = b' ∧ o = o' := by simpa using h1
    refine .inr ⟨b, o, arr.setIfInBounds (o + j) v, rfl, blk_set v h2, by simpa using h3, by simpa using h4, fun i u hi => ?_⟩
    rw [List.getElem?_set] at hi
    split at hi
    · rename_i hji
      subst hji
      rw [Array.getElem?_setIfInBounds, if_pos rfl, if_pos (by omega)]
      exact hi
    · rename_i hji
      rw [Array.getElem?_setIfInBounds, if_neg (by omega)]
      exact h5 i u hi

theorem new_cells {w : World} {b : Nat} {cs : List Value} {t : TypeId} {f : Nat × Nat} (h : w.heap[b]? = some (.cells cs.toArray t f)) (j : Nat) (u : Value) (hj : cs[j]? = some u) : w.cell? ((⟨b, 0, none⟩ : Addr).add j) = some u := by
  have hadd : (⟨b, 0, none⟩ : Addr).add j = ⟨b, j, none⟩ := by unfold Addr.add; split <;> simp_all
  rw [hadd]
  simp [World.cell?, h, hj]
theorem grow_row {s n cap : Nat} {a : Option Addr} (_hle : n ≤ cap) {b o : Nat} (h : ∃ x y, a = some ⟨x, y, none⟩ ∧ b = x ∧ y + n * s ≤ o ∧ o < y + cap * s) : rowFp a (cap * s) b o := by
  obtain ⟨x, y, h1, h2, h3, h4⟩ := h
  exact ⟨x, y, h1, h2, by omega, h4⟩
theorem held_world {P : Program} {ops : Array Oper} {S : World → Prop} {sts : List Nat} {Q : Exit → Act → World → Prop} {rest : List (List Oper)} {x : Exit} {a : Act} {w : World} (h : ∀ W, W = w → heldPost P ops S sts Q rest x a W) :
    heldPost P ops S sts Q rest x a w := h w rfl
theorem held_next {P : Program} {ops : Array Oper} {S : World → Prop} {sts : List Nat} {Q : Exit → Act → World → Prop} {o : Oper} {seg : List Oper} {rest : List (List Oper)} {a : Act} {w : World} (hS : S w) (h : wpList P ops (heldPost P ops S sts Q rest) (o :: seg) a w) :
    heldPost P ops S sts Q ((o :: seg) :: rest) .normal a w := ⟨hS, h⟩
theorem held_end {P : Program} {ops : Array Oper} {S : World → Prop} {sts : List Nat} {Q : Exit → Act → World → Prop} {a : Act} {w : World} (h : stabs P ops S a sts) (hq : Q .normal a w) :
    heldPost P ops S sts Q [[]] .normal a w := ⟨h, hq⟩
end Go.Wb

namespace Go.Proofs.Ytckplcmieelmpaa.W
open Go.RowKit Go.Wb

/-- A value of the map. -/
def vv (x : It) : Value := .int .i64 x.2



theorem all_set {l : List It} {i : Nat} (x : It) (h : i < l.length) : E.all (l.set i x) = ((E.all l).set (i * 2) (.int .i64 x.2)).set (i * 2 + 1) (kv (ky x)) := E.all_set_two (x := x) rfl rfl l i h

set_option maxRecDepth 100000 in
set_option maxHeartbeats 4000000 in
theorem set_found {w : World} {b pb po n : Nat} {hr : HRec} {r : NRec It} {L : Lay} (hh : Hdr w b hr) (hp : w.cell? ⟨pb, po, none⟩ = some (ptr n)) (hn : NodeAt TT E w n r L) (hi : r.iso = hr.iso)
    (hlen : r.items.length ≤ 1000000000000) (hs : Sorted ilt r.items) {x y : It} {i : Nat} (hloc : Loc r.items (ky x) i true) (hy : r.items[i]? = some y) :
    Calls Try.prog 124 #[ptr b, .pointer (some ⟨pb, po, none⟩), pv x] w fun e w' => e = .returned (.tuple #[vv y, .bool true, .bool false]) ∧ Keep (fp TT n r L) w w' ∧ NodeAt TT E w' n { r with items := r.items.set i x } L := by
  have HN := Lib.hid hn
  have HH := Lib.hid hh
  have HP := Lib.hid hp
  have HLOC := Lib.hid hloc
  have HS := Lib.hid hs
  have HI := Lib.hid hi
  have hnw := lt_of_heap hn.1
  have hpw := lt_of_cell hp
  have hbw := lt_of_heap hh
  clear hh hn hp hs hloc hi
  unfold ptr pv kv at *
  go_enter Try.func124, Try.ntmps124
  go_upto_region 1 with (fail)
  refine wp_world ?_
  intro W1 hW1
  generalize hq : w.heap.size = q at *
  have XQ := Lib.hid hq
  have K1 : Hid (Keep Nothing w W1) := by subst hW1; exact (Keep.refl _ _).al _
  have X1 : Hid (W1.heap[q]? = some (.cells (E.enc x).toArray 161 (0, 0))) := by subst hW1; subst hq; exact heap_alloc_new w _
  have S1 : W1.heap.size = q + 1 := by subst hW1; rw [World.size_alloc, hq]
  clear hW1 hq
  have HN1 : Hid (NodeAt TT E W1 n r L) := by exact HN.out.keep K1.out fun _ _ _ h => h
  have HH1 : Hid (Hdr W1 b hr) := by exact blk_keep HH.out K1.out fun _ h => h
  have hiso := isoLoad_own HH1.out (K1.out.cell' HP.out fun h => h) HN1.out HI.out true
  unfold ptr at hiso
  go_wp2_with fail
  refine hiso.mono ?_
  rintro e w1 ⟨rfl, kd, rfl⟩
  clear hiso
  have K1d : Hid (Keep Nothing w (W1.drewN kd)) := by exact K1.out.drN kd
  have S1d : (W1.drewN kd).heap.size = q + 1 := S1
  have X1d : Hid ((W1.drewN kd).heap[q]? = some (.cells (E.enc x).toArray 161 (0, 0))) := by exact X1.out
  clear HN1 HH1 K1 S1 X1
  generalize W1.drewN kd = W1 at *
  unfold ptr
  go_upto_region 2 with (fail)
  refine wp_world ?_
  intro W2 hW2
  have K2 : Hid (Keep Nothing w W2) := by subst hW2; exact K1d.out.al _
  have X2 : Hid (W2.heap[q]? = some (.cells (E.enc x).toArray 161 (0, 0))) := by subst hW2; exact blk_alloc _ X1d.out
  have Z2 : Hid (W2.heap[q + 1]? = some (.cells #[.pointer (some ⟨n, 0, none⟩)] 164 (0, 0))) := by subst hW2; rw [← S1d]; exact heap_alloc_new W1 _
  have Y2 := Lib.hid Z2.out
  have S2 : W2.heap.size = q + 2 := by subst hW2; rw [World.size_alloc, S1d]
  clear hW2 K1d X1d S1d
  have HN2 : Hid (NodeAt TT E W2 n r L) := by exact HN.out.keep K2.out fun _ _ _ h => h
  have hse := search_loc (tr := ptr b) HN2.out hlen HS.out HLOC.out
  have kc : W2.cell? ⟨q, 1, none⟩ = some (.string (ky x)) := by have := X2.out; simp only [World.cell?, this]; rfl
  have zc := (blk1 Z2.out).1
  unfold ptr kv at hse
  go_wp2_with fail
  refine hse.mono ?_
  rintro e w1 ⟨rfl, kd, rfl⟩
  clear hse kc zc HN2
  have K2d : Hid (Keep Nothing w (W2.drewN kd)) := by exact K2.out.drN kd
  have S2d : (W2.drewN kd).heap.size = q + 2 := S2
  have X2d : Hid ((W2.drewN kd).heap[q]? = some (.cells (E.enc x).toArray 161 (0, 0))) := by exact X2.out
  have Y2d : Hid ((W2.drewN kd).heap[q + 1]? = some (.cells #[.pointer (some ⟨n, 0, none⟩)] 164 (0, 0))) := by exact Y2.out
  have Z2d : Hid ((W2.drewN kd).heap[q + 1]? = some (.cells #[.pointer (some ⟨n, 0, none⟩)] 164 (0, 0))) := by exact Z2.out
  clear K2 S2 X2 Y2 Z2
  generalize W2.drewN kd = W at *
  have HNd : Hid (NodeAt TT E W n r L) := by exact HN.out.keep K2d.out fun _ _ _ h => h
  have HHd : Hid (Hdr W b hr) := by exact blk_keep HH.out K2d.out fun _ h => h
  have hrow := HNd.out.2.1
  have hpos : 0 < (E.all r.items).length := by
    obtain ⟨hil, _⟩ := List.getElem?_eq_some_iff.1 hy
    rw [E.all_len]; exact Nat.mul_pos (by omega) E.pos
  obtain ⟨ib, io, hia, _⟩ := hrow.form hpos
  have HIA := Lib.hid hia
  rw [hia] at hrow
  obtain ⟨c0, c1, c2, c3, fz⟩ := blk4 HNd.out.1
  rw [hia] at c2
  have ck := key_cell hrow hy
  have cv := val_cell hrow hy
  have fz2 := hrow.frozen
  have zc := (blk1 Z2d.out).1
  have HY := Lib.hid hy
  obtain ⟨hil, _⟩ := List.getElem?_eq_some_iff.1 hy
  unfold kv at ck
  clear c0 c1 c3 hrow hy hia
  go_upto_region 5 with (fail)
  have xc : W.cell? ⟨q, 0, none⟩ = some (.int .i64 x.2) := by have := X2d.out; simp only [World.cell?, this]; rfl
  have xc1 : W.cell? ⟨q, 1, none⟩ = some (.string (ky x)) := by have := X2d.out; simp only [World.cell?, this]; rfl
  go_wp2_with fail
  refine wp_calm (by kernel_rfl) (by kernel_rfl) rfl ?_
  simp only [List.flatMap_cons, List.flatMap_nil, checks, chk, nilLit, List.cons_append, List.nil_append, List.append_nil]
  go_wp2_with fail
  rw [HQ_normal]
  go_upto_region 6 with (fail)
  refine wp_world ?_
  intro W3 hW3
  have hrow := HNd.out.2.1
  rw [HIA.out] at hrow
  have hib := hrow.blk
  have hibn : ib ≠ n := (blk_ne HNd.out.1 hib.choose_spec ty_ok.a).symm
  have hibw : ib < w.heap.size := by
    have h1 := HN.out.2.1
    rw [HIA.out] at h1
    exact lt_of_heap h1.blk.choose_spec
  have K3 : Keep (fun x o => x = ib ∧ io + i * 2 ≤ o ∧ o < io + (i + 1) * 2) W W3 := by
    subst hW3; refine (((Keep.refl _ _).set _ _ _ ?_).set _ _ _ ?_).dr <;> exact fun _ => ⟨rfl, by omega, by omega⟩
  have B3 : W3.heap[n]? = some (.cells #[.int .u64 r.iso, .int .i64 r.cnt, .slice L.ia (r.items.set i x).length L.icap, kidsVal r.kids L.cb] 172 (0, 0)) := by
    have h1 := HNd.out.1
    rw [List.length_set]
    exact blk_keep h1 K3 fun o h => hibn h.1.symm
  have N3 : Hid (NodeAt TT E W3 n { r with items := r.items.set i x } L) := by
    refine ⟨B3, ?_, by simpa using HNd.out.2.2.1, fun ks hks => ?_⟩
    · subst hW3
      have hl2 : (E.all r.items).length = r.items.length * 2 := E.all_len _
      have := (hrow.setCell (j := i * 2) (.int .i64 x.2) (by omega)).setCell (j := i * 2 + 1) (kv (ky x)) (by rw [List.length_set]; omega)
      rw [← Nat.add_assoc] at this
      rw [HIA.out]
      simp only
      rw [all_set x hil]
      exact this.keep (Keep.drew Nothing _) fun _ _ _ h => h
    · obtain ⟨h5, h6, h7⟩ := HNd.out.2.2.2 ks hks
      refine ⟨blk_keep h5 K3 fun o h => ?_, h6.keep' K3 fun x o hf h => ?_, h7⟩
      · exact blk_ne hib.choose_spec h5 ty_ok.d h.1.symm
      · obtain ⟨arr, harr⟩ := h6.block ⟨_, hf⟩
        exact blk_ne hib.choose_spec harr ty_ok.f h.1.symm
  have Y3 := blk_keep Y2d.out K3 fun o h => by have := XQ.out; omega
  have KW3 : Hid (Keep (fp TT n r L) w W3) := by
    refine (K2d.out.mono fun _ _ _ h => h.elim).trans K3 ?_
    rintro x o hx ⟨rfl, h1, h2⟩
    refine .inr (.inl ⟨_, _, HIA.out, rfl, by omega, ?_⟩)
    have := HNd.out.2.2.1
    simp only [TT, E]
    omega
  clear hW3 K3 B3 hib hrow HNd X2d Y2d Z2d ck fz2 zc c2 fz xc K2d xc1 cv
  replace Y3 := Lib.hid Y3
  go_wp2_with fail
  go_ret3
  exact ⟨rfl, KW3.out, N3.out⟩
end Go.Proofs.Ytckplcmieelmpaa.W

namespace Go.Proofs.Ytckplcmieelmpaa.W
open Go.RowKit Go.Wb

set_option maxRecDepth 100000 in
set_option maxHeartbeats 4000000 in
theorem set_full {w : World} {b pb po n : Nat} {hr : HRec} {r : NRec It} {L : Lay} (hh : Hdr w b hr) (hp : w.cell? ⟨pb, po, none⟩ = some (ptr n)) (hn : NodeAt TT E w n r L) (hi : r.iso = hr.iso)
    (hlen : r.items.length ≤ 1000000000000) (hs : Sorted ilt r.items) {x : It} {i : Nat} (hloc : Loc r.items (ky x) i false) (hlf : r.kids = none) (hfull : hr.mx = r.items.length) :
    Calls Try.prog 124 #[ptr b, .pointer (some ⟨pb, po, none⟩), pv x] w fun e w' => e = .returned (.tuple #[vv hr.emp, .bool false, .bool true]) ∧ Keep Nothing w w' := by
  have HN := Lib.hid hn
  have HH := Lib.hid hh
  have HP := Lib.hid hp
  have HLOC := Lib.hid hloc
  have HS := Lib.hid hs
  have HI := Lib.hid hi
  have hnw := lt_of_heap hn.1
  have hpw := lt_of_cell hp
  have hbw := lt_of_heap hh
  clear hh hn hp hs hloc hi
  unfold ptr pv kv at *
  go_enter Try.func124, Try.ntmps124
  go_upto_region 1 with (fail)
  refine wp_world ?_
  intro W1 hW1
  generalize hq : w.heap.size = q at *
  have XQ := Lib.hid hq
  have K1 : Hid (Keep Nothing w W1) := by subst hW1; exact (Keep.refl _ _).al _
  have X1 : Hid (W1.heap[q]? = some (.cells (E.enc x).toArray 161 (0, 0))) := by subst hW1; subst hq; exact heap_alloc_new w _
  have S1 : W1.heap.size = q + 1 := by subst hW1; rw [World.size_alloc, hq]
  clear hW1 hq
  have HN1 : Hid (NodeAt TT E W1 n r L) := by exact HN.out.keep K1.out fun _ _ _ h => h
  have HH1 : Hid (Hdr W1 b hr) := by exact blk_keep HH.out K1.out fun _ h => h
  have hiso := isoLoad_own HH1.out (K1.out.cell' HP.out fun h => h) HN1.out HI.out true
  unfold ptr at hiso
  go_wp2_with fail
  refine hiso.mono ?_
  rintro e w1 ⟨rfl, kd, rfl⟩
  clear hiso
  have K1d : Hid (Keep Nothing w (W1.drewN kd)) := by exact K1.out.drN kd
  have S1d : (W1.drewN kd).heap.size = q + 1 := S1
  have X1d : Hid ((W1.drewN kd).heap[q]? = some (.cells (E.enc x).toArray 161 (0, 0))) := by exact X1.out
  clear HN1 HH1 K1 S1 X1
  generalize W1.drewN kd = W1 at *
  unfold ptr
  go_upto_region 2 with (fail)
  refine wp_world ?_
  intro W2 hW2
  have K2 : Hid (Keep Nothing w W2) := by subst hW2; exact K1d.out.al _
  have X2 : Hid (W2.heap[q]? = some (.cells (E.enc x).toArray 161 (0, 0))) := by subst hW2; exact blk_alloc _ X1d.out
  have Z2 : Hid (W2.heap[q + 1]? = some (.cells #[.pointer (some ⟨n, 0, none⟩)] 164 (0, 0))) := by subst hW2; rw [← S1d]; exact heap_alloc_new W1 _
  have Y2 := Lib.hid Z2.out
  have S2 : W2.heap.size = q + 2 := by subst hW2; rw [World.size_alloc, S1d]
  clear hW2 K1d X1d S1d
  have HN2 : Hid (NodeAt TT E W2 n r L) := by exact HN.out.keep K2.out fun _ _ _ h => h
  have hse := search_loc (tr := ptr b) HN2.out hlen HS.out HLOC.out
  have kc : W2.cell? ⟨q, 1, none⟩ = some (.string (ky x)) := by have := X2.out; simp only [World.cell?, this]; rfl
  have zc := (blk1 Z2.out).1
  unfold ptr kv at hse
  go_wp2_with fail
  refine hse.mono ?_
  rintro e w1 ⟨rfl, kd, rfl⟩
  clear hse kc zc HN2
  have K2d : Hid (Keep Nothing w (W2.drewN kd)) := by exact K2.out.drN kd
  have S2d : (W2.drewN kd).heap.size = q + 2 := S2
  have X2d : Hid ((W2.drewN kd).heap[q]? = some (.cells (E.enc x).toArray 161 (0, 0))) := by exact X2.out
  have Y2d : Hid ((W2.drewN kd).heap[q + 1]? = some (.cells #[.pointer (some ⟨n, 0, none⟩)] 164 (0, 0))) := by exact Y2.out
  have Z2d : Hid ((W2.drewN kd).heap[q + 1]? = some (.cells #[.pointer (some ⟨n, 0, none⟩)] 164 (0, 0))) := by exact Z2.out
  clear K2 S2 X2 Y2 Z2
  generalize W2.drewN kd = W at *
  have HNd : Hid (NodeAt TT E W n r L) := by exact HN.out.keep K2d.out fun _ _ _ h => h
  have HHd : Hid (Hdr W b hr) := by exact blk_keep HH.out K2d.out fun _ h => h
  have hlv := leaf_any HNd.out
  rw [hlf] at hlv
  simp only [Option.isNone_none] at hlv
  obtain ⟨c0, c1, c2, c3, fz⟩ := blk4 HNd.out.1
  have x6 := hdr_mx HHd.out
  rw [hfull] at x6
  have zc := (blk1 Z2d.out).1
  have he := hdr_emp HHd.out
  have hev := he.1
  unfold ptr at hlv
  clear c0 c1 c3 he hlf hfull
  go_wp2_with fail
  refine hlv.mono ?_
  rintro e w1 ⟨rfl, rfl⟩
  clear hlv
  go_wp2_with fail
  refine wp_calm (by kernel_rfl) (by kernel_rfl) rfl ?_
  simp only [List.flatMap_cons, List.flatMap_nil, checks, chk, nilLit, List.cons_append, List.nil_append, List.append_nil, Try.underlying3]
  go_wp2_with fail
  rw [HQ_normal]
  go_wp2_with fail
  go_ret3
  exact ⟨rfl, K2d.out.dr⟩
end Go.Proofs.Ytckplcmieelmpaa.W
