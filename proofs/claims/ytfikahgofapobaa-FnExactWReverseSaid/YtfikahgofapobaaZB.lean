/- Part 2 of the common texts: the package's tree of maps and sets, its functions' contracts. -/
import Derived.Test.YtfikahgofapobaaZA
namespace Go.Wb
variable {α : Type} {lt : α → α → Bool}

/-- An item put into sorted ones. -/
def putF (lt : α → α → Bool) (l : List α) (x : α) : List α := l.filter (fun a => lt a x) ++ x :: l.filter (fun b => lt x b)
/-- The item that is as x. -/
def sameF (lt : α → α → Bool) (l : List α) (x : α) : Option α := l.find? fun a => !lt a x && !lt x a

theorem Put.eq (o : Ord lt) {l l' : List α} {x : α} {p : Option α} (h : Put lt l x l' p) : l' = putF lt l x ∧ p = sameF lt l x := by
  have hA : ∀ A : List α, (∀ a ∈ A, lt a x = true) → A.filter (fun a => lt a x) = A ∧ A.filter (fun b => lt x b) = [] := fun A hA => ⟨List.filter_eq_self.2 hA, List.filter_eq_nil_iff.2 fun a ha => by rw [o.asymm (hA a ha)]; simp⟩
  have hB : ∀ B : List α, (∀ b ∈ B, lt x b = true) → B.filter (fun a => lt a x) = [] ∧ B.filter (fun b => lt x b) = B := fun B hB => ⟨List.filter_eq_nil_iff.2 fun a ha => by rw [o.asymm (hB a ha)]; simp, List.filter_eq_self.2 hB⟩
  cases p with
  | none =>
    obtain ⟨A, B, rfl, rfl, h1, h2⟩ := h
    refine ⟨by simp [putF, hA A h1, hB B h2], ?_⟩
    rw [sameF, eq_comm, List.find?_eq_none]
    intro a ha
    rcases List.mem_append.1 ha with h | h
    · simp [h1 a h]
    · simp [h2 a h]
  | some p =>
    obtain ⟨A, B, rfl, rfl, e1, e2, h1, h2⟩ := h
    refine ⟨by simp [putF, hA A h1, hB B h2, e1, e2], ?_⟩
    rw [sameF, List.find?_append, List.find?_eq_none.2 (fun a ha => by simp [h1 a ha])]
    simp [e1, e2]

theorem putF_len (l : List α) (x : α) (o : Ord lt) : (putF lt l x).length ≤ l.length + 1 := by
  have h : ∀ l : List α, (l.filter (fun a => lt a x)).length + (l.filter (fun b => lt x b)).length ≤ l.length := by
    intro l
    induction l with
    | nil => simp
    | cons a l ih =>
      simp only [List.filter_cons]
      cases h1 : lt a x with
      | true => rw [o.asymm h1]; simp; omega
      | false => cases h2 : lt x a <;> simp <;> omega
  have := h l
  simp [putF]; omega
theorem foldl_put_len (o : Ord lt) (xs : List α) : ∀ l : List α, (xs.foldl (putF lt) l).length ≤ l.length + xs.length := by
  induction xs with
  | nil => intro l; simp
  | cons x xs ih => intro l; have h1 := ih (putF lt l x); have h2 := putF_len l x o; simp only [List.foldl_cons, List.length_cons]; omega
end Go.Wb
namespace Go.Wb
variable {α : Type} {lt : α → α → Bool}
theorem mem_putF {l : List α} {x y : α} (h : y ∈ putF lt l x) : y ∈ l ∨ y = x := by
  simp only [putF, List.mem_append, List.mem_cons, List.mem_filter] at h
  rcases h with h | h | h
  · exact .inl h.1
  · exact .inr h
  · exact .inl h.1
theorem mem_foldl_put {xs : List α} : ∀ {l : List α} {y : α}, y ∈ xs.foldl (putF lt) l → y ∈ l ∨ y ∈ xs := by
  induction xs with
  | nil => intro l y h; exact .inl h
  | cons x xs ih =>
    intro l y h
    rcases ih h with h | h
    · rcases mem_putF h with h | h
      · exact .inl h
      · exact .inr (by simp [h])
    · exact .inr (by simp [h])
theorem putF_sorted (o : Ord lt) {l : List α} (hs : Sorted lt l) (x : α) : Sorted lt (putF lt l x) := by
  refine List.pairwise_append.2 ⟨hs.filter _, List.pairwise_cons.2 ⟨fun b hb => (List.mem_filter.1 hb).2, hs.filter _⟩, fun a ha b hb => ?_⟩
  have h1 := (List.mem_filter.1 ha).2
  rcases List.mem_cons.1 hb with rfl | hb
  · exact h1
  · exact o.tr _ _ _ h1 (List.mem_filter.1 hb).2
theorem foldl_put_sorted (o : Ord lt) (xs : List α) : ∀ {l : List α}, Sorted lt l → Sorted lt (xs.foldl (putF lt) l) := by
  induction xs with
  | nil => intro l h; exact h
  | cons x xs ih => intro l h; exact ih (putF_sorted o h x)
/-- What is put is there, or one that is as it. -/
theorem putF_has (o : Ord lt) {l : List α} {x y : α} (h : y ∈ l ∨ y = x) : ∃ z ∈ putF lt l x, lt z y = false ∧ lt y z = false := by
  rcases h with h | rfl
  · cases h1 : lt y x with
    | true => exact ⟨y, by simp [putF, h, h1], o.irr y, o.irr y⟩
    | false => cases h2 : lt x y with
      | true => exact ⟨y, by simp [putF, h, h2], o.irr y, o.irr y⟩
      | false => exact ⟨x, by simp [putF], h2, h1⟩
  · exact ⟨y, by simp [putF], o.irr y, o.irr y⟩
theorem putF_map {β : Type} {lt' : β → β → Bool} (f : α → β) (hf : ∀ a b, lt' (f a) (f b) = lt a b) (l : List α) (x : α) : putF lt' (l.map f) (f x) = (putF lt l x).map f := by
  simp only [putF, List.map_append, List.map_cons, List.filter_map]
  congr 1
  · congr 1; apply List.filter_congr; intro a _; simp [hf]
  · congr 2; apply List.filter_congr; intro a _; simp [hf]
theorem foldl_put_map {β : Type} {lt' : β → β → Bool} (f : α → β) (hf : ∀ a b, lt' (f a) (f b) = lt a b) (xs : List α) : ∀ l : List α, (xs.map f).foldl (putF lt') (l.map f) = (xs.foldl (putF lt) l).map f := by
  induction xs with
  | nil => intro l; rfl
  | cons x xs ih => intro l; simp only [List.map_cons, List.foldl_cons]; rw [putF_map f hf, ih]
end Go.Wb

namespace Go.Wb
open Go Go.RowKit

/-- The cells of a slice that is only read. -/
def Given (w : World) (a : Option Addr) (cs : List Value) : Prop := cs = [] ∨ ∃ b o, a = some ⟨b, o, none⟩ ∧ ∀ i v, cs[i]? = some v → w.cell? ⟨b, o + i, none⟩ = some v

theorem Given.keep {w w' : World} {a : Option Addr} {cs : List Value} (h : Given w a cs) (hk : Keep (fun _ _ => False) w w') : Given w' a cs := by
  rcases h with h | ⟨b, o, h1, h2⟩
  · exact .inl h
  · exact .inr ⟨b, o, h1, fun i v hi => hk.cell' (h2 i v hi) fun h => h⟩
theorem Given.cell {w : World} {a : Option Addr} {cs : List Value} (h : Given w a cs) {i : Nat} (hi : i < cs.length) : ∃ b o, a = some ⟨b, o, none⟩ ∧ w.cell? ⟨b, o + i, none⟩ = some cs[i] := by
  rcases h with h | ⟨b, o, h1, h2⟩
  · subst h; simp at hi
  · exact ⟨b, o, h1, h2 i _ (by simp)⟩
theorem Row.reads {w : World} {ty s : Nat} {a : Option Addr} {cap : Nat} {cs : List Value} (h : Row w ty s a cap cs) : Given w a cs := by
  rcases h with ⟨_, _, h⟩ | ⟨b, o, arr, rfl, h2, h3, h4, h5⟩
  · exact .inl h
  · exact .inr ⟨b, o, rfl, fun i v hi => by simp [World.cell?, h2, h5 i v hi]⟩
/-- In a window of blocks that were there, too. -/
theorem Given.keep' {S : Nat → Nat → Prop} {w w' : World} {a : Option Addr} {cs : List Value} (h : Given w a cs) (hk : Keep S w w') (hS : ∀ b o, b < w.heap.size → ¬ S b o) : Given w' a cs := h.keep (hk.mono fun b o hb hs => (hS b o hb hs).elim)
end Go.Wb

namespace Go.Wb
variable {α : Type}
/-- The cells of one of many items. -/
theorem Enc.all_get (E : Enc α) : ∀ (l : List α) (j : Nat) (x : α), l[j]? = some x → ∀ c v, (E.enc x)[c]? = some v → (E.all l)[j * E.s + c]? = some v
  | [], j, x, h, _, _, _ => by simp at h
  | y :: l, 0, x, h, c, v, hc => by
    obtain rfl : y = x := by simpa using h
    obtain ⟨hlt, _⟩ := List.getElem?_eq_some_iff.1 hc
    rw [Enc.all_cons, Nat.zero_mul, Nat.zero_add, List.getElem?_append_left hlt]
    exact hc
  | y :: l, j + 1, x, h, c, v, hc => by
    have ih := Enc.all_get E l j x (by simpa using h) c v hc
    have hl := E.len y
    have e : (j + 1) * E.s + c = (E.enc y).length + (j * E.s + c) := by rw [hl, Nat.add_mul]; omega
    rw [Enc.all_cons, e, List.getElem?_append_right (by omega), Nat.add_sub_cancel_left]
    exact ih
theorem Enc.all_set_two (E : Enc α) {x : α} {a b : Value} (hx : E.enc x = [a, b]) (hs : E.s = 2) : ∀ (l : List α) (i : Nat), i < l.length → E.all (l.set i x) = ((E.all l).set (i * 2) a).set (i * 2 + 1) b
  | [], i, h => by simp at h
  | y :: l, 0, _ => by
    have hl := E.len y
    rw [hs] at hl
    obtain ⟨c, d, hy⟩ : ∃ c d, E.enc y = [c, d] := by
      match hq : E.enc y, hl with
      | [c, d], _ => exact ⟨c, d, rfl⟩
    simp [Enc.all_cons, hx, hy]
  | y :: l, i + 1, h => by
    have ih := Enc.all_set_two E hx hs l i (by simpa using h)
    have hl := E.len y
    rw [hs] at hl
    obtain ⟨c, d, hy⟩ : ∃ c d, E.enc y = [c, d] := by
      match hq : E.enc y, hl with
      | [c, d], _ => exact ⟨c, d, rfl⟩
    have e : (i + 1) * 2 = i * 2 + 2 := by omega
    simp only [List.set_cons_succ, Enc.all_cons, hy, ih, e]
    simp
end Go.Wb

namespace Go.Wb
variable {α : Type}

/-- What is handed on, an item in turn, until a function of all that was handed on says no. -/
def handOn (go : List α → Bool) : List α → List α → List α × Bool
  | acc, [] => (acc, true)
  | acc, x :: l => if go (acc ++ [x]) = true then handOn go (acc ++ [x]) l else (acc ++ [x], false)

variable {go : List α → Bool}
theorem handOn_yes {acc l : List α} {x : α} (h : go (acc ++ [x]) = true) : handOn go acc (x :: l) = handOn go (acc ++ [x]) l := by simp [handOn, h]
theorem handOn_no {acc l : List α} {x : α} (h : go (acc ++ [x]) = false) : handOn go acc (x :: l) = (acc ++ [x], false) := by simp [handOn, h]
theorem handOn_append : ∀ (l k acc : List α), handOn go acc (l ++ k) = if (handOn go acc l).2 = true then handOn go (handOn go acc l).1 k else handOn go acc l
  | [], k, acc => by simp [handOn]
  | x :: l, k, acc => by
    simp only [List.cons_append, handOn]
    split
    · exact handOn_append l k _
    · simp
theorem handOn_on {acc acc' l : List α} (h : handOn go acc l = (acc', true)) (k : List α) : handOn go acc (l ++ k) = handOn go acc' k := by simp [handOn_append, h]
theorem handOn_end {acc acc' l : List α} (h : handOn go acc l = (acc', false)) (k : List α) : handOn go acc (l ++ k) = (acc', false) := by simp [handOn_append, h]

theorem handOn_true : ∀ {l acc a : List α}, handOn go acc l = (a, true) → a = acc ++ l
  | [], acc, a, h => by simp [handOn] at h; simp [h]
  | x :: l, acc, a, h => by
    simp only [handOn] at h
    split at h
    · rw [handOn_true h]; simp
    · cases h
theorem handOn_len {l acc a : List α} (h : handOn go acc l = (a, true)) : a.length = acc.length + l.length := by rw [handOn_true h, List.length_append]

/-- Items below a node: those ahead of child i (i is at most the number of items), those behind it, those from it on. -/
def lo (h : Nat) (its : List α) (ks : List (Tr α)) (i : Nat) : List α := wl ((ks.map (flat h)).take i) (its.take i)
def hi (h : Nat) (its : List α) (ks : List (Tr α)) (i : Nat) : List α := wr (its.drop i) ((ks.map (flat h)).drop (i + 1))
def tl (h : Nat) (its : List α) (ks : List (Tr α)) (i : Nat) : List α := weave ((ks.map (flat h)).drop i) (its.drop i)

variable {h i : Nat} {its : List α} {ks : List (Tr α)}
theorem wl_succ_ (K : List (List α)) (I : List α) (i : Nat) {k : List α} {x : α} (hk : K[i]? = some k) (hx : I[i]? = some x) : wl (K.take (i + 1)) (I.take (i + 1)) = wl (K.take i) (I.take i) ++ k ++ [x] := by
  induction i generalizing K I with
  | zero =>
    cases K with
    | nil => simp at hk
    | cons a K => cases I with
      | nil => simp at hx
      | cons b I => simp at hk hx; subst hk; subst hx; simp [wl]
  | succ i ih =>
    cases K with
    | nil => simp at hk
    | cons a K => cases I with
      | nil => simp at hx
      | cons b I =>
        simp only [List.take_succ_cons, wl, List.cons_append, List.append_assoc]
        rw [ih K I (by simpa using hk) (by simpa using hx)]
        simp
theorem lo_zero : lo h its ks 0 = [] := by simp [lo, wl]
theorem lo_succ {k : Tr α} {x : α} (hk : ks[i]? = some k) (hx : its[i]? = some x) : lo h its ks (i + 1) = lo h its ks i ++ flat h k ++ [x] :=
  wl_succ_ _ _ i (by simp [hk]) hx
theorem tl_zero : flat (h + 1) (.node its ks) = tl h its ks 0 := by simp [tl, flat, Tr.its, Tr.ks]
theorem tl_succ {k : Tr α} {x : α} (hk : ks[i]? = some k) (hx : its[i]? = some x) (hl : ks.length = its.length + 1) : tl h its ks i = flat h k ++ x :: tl h its ks (i + 1) := by
  obtain ⟨h1, rfl⟩ := List.getElem?_eq_some_iff.1 hk
  obtain ⟨h2, rfl⟩ := List.getElem?_eq_some_iff.1 hx
  unfold tl
  rw [List.drop_eq_getElem_cons (by simpa using h1), weave, List.drop_eq_getElem_cons (l := its) h2, List.drop_eq_getElem_cons (l := ks.map (flat h)) (i := i + 1) (by simp; omega)]
  simp [wr, weave]
theorem tl_last {k : Tr α} (hk : ks[its.length]? = some k) (_hl : ks.length = its.length + 1) : tl h its ks its.length = flat h k := by
  obtain ⟨h1, rfl⟩ := List.getElem?_eq_some_iff.1 hk
  unfold tl
  rw [List.drop_eq_getElem_cons (by simpa using h1), weave, (List.drop_eq_nil_of_le (Nat.le_refl _) : its.drop its.length = [])]
  simp [wr]
theorem hi_succ {k : Tr α} {x : α} (hk : ks[i + 1]? = some k) (hx : its[i]? = some x) : hi h its ks i = x :: (flat h k ++ hi h its ks (i + 1)) := by
  obtain ⟨h1, rfl⟩ := List.getElem?_eq_some_iff.1 hk
  obtain ⟨h2, rfl⟩ := List.getElem?_eq_some_iff.1 hx
  unfold hi
  rw [List.drop_eq_getElem_cons (l := its) h2, List.drop_eq_getElem_cons (l := ks.map (flat h)) (i := i + 1) (by simpa using h1)]
  simp [wr]
theorem hi_last : hi h its ks its.length = [] := by
  unfold hi
  rw [(List.drop_eq_nil_of_le (Nat.le_refl _) : its.drop its.length = [])]
  simp [wr]
theorem flat_at {k : Tr α} (hl : ks.length = its.length + 1) (hi' : i ≤ its.length) (hk : ks[i]? = some k) : flat (h + 1) (.node its ks) = lo h its ks i ++ flat h k ++ hi h its ks i := by
  obtain ⟨h1, rfl⟩ := List.getElem?_eq_some_iff.1 hk
  have e : ks = ks.take i ++ ks[i] :: ks.drop (i + 1) := by
    have := List.take_append_drop i ks
    rw [List.drop_eq_getElem_cons h1] at this
    exact this.symm
  have e2 : its = its.take i ++ its.drop i := (List.take_append_drop i its).symm
  have := wl_wr ((ks.take i).map (flat h)) (its.take i) (flat h ks[i]) (its.drop i) ((ks.drop (i + 1)).map (flat h)) (by simp; omega)
  have key : weave (ks.map (flat h)) its = weave ((ks.take i).map (flat h) ++ flat h ks[i] :: (ks.drop (i + 1)).map (flat h)) (its.take i ++ its.drop i) := by
    rw [← e2, ← List.map_cons, ← List.map_append, ← e]
  simp only [flat, Tr.its, Tr.ks]
  unfold lo hi
  rw [← List.map_take, ← List.map_drop, key, this]
theorem lo_last {k : Tr α} (hl : ks.length = its.length + 1) (hk : ks[its.length]? = some k) : flat (h + 1) (.node its ks) = lo h its ks its.length ++ flat h k := by
  rw [flat_at hl (Nat.le_refl _) hk, hi_last, List.append_nil]

/-- Stopped at the n-th item, never for n below 1. -/
def upTo (n : Int) (l : List α) : Bool := decide (n < 1) || decide ((l.length : Int) < n)
def firstN (n : Int) (l : List α) : List α := if n < 1 then l else l.take n.toNat
theorem handOn_upTo (n : Int) : ∀ (l acc : List α), (n < 1 ∨ (acc.length : Int) < n) → (handOn (upTo n) acc l).1 = if n < 1 then acc ++ l else acc ++ l.take (n.toNat - acc.length)
  | [], acc, h => by simp [handOn]
  | x :: l, acc, h => by
    cases hg : upTo n (acc ++ [x]) with
    | true =>
      rw [handOn_yes hg]
      simp only [upTo, Bool.or_eq_true, decide_eq_true_eq, List.length_append, List.length_cons, List.length_nil] at hg
      rw [handOn_upTo n l (acc ++ [x]) (by simp; omega)]
      split
      · simp
      · obtain ⟨m, hm⟩ : ∃ m, n.toNat - acc.length = m + 1 := ⟨n.toNat - acc.length - 1, by omega⟩
        have : n.toNat - (acc ++ [x]).length = m := by simp; omega
        rw [this, hm]
        simp
    | false =>
      rw [handOn_no hg]
      simp only [upTo, Bool.or_eq_false_iff, decide_eq_false_iff_not, List.length_append, List.length_cons, List.length_nil] at hg
      have : n.toNat - acc.length = 1 := by omega
      rw [if_neg hg.1, this]
      simp
theorem handOn_first (n : Int) (l : List α) : (handOn (upTo n) [] l).1 = firstN n l := by
  rw [handOn_upTo n l [] (by simp; omega)]
  simp [firstN]
theorem handOn_all {l : List α} : ∀ {acc : List α}, (∀ a, go a = true) → handOn go acc l = (acc ++ l, true) := by
  induction l with
  | nil => intro acc _; simp [handOn]
  | cons x l ih => intro acc h; rw [handOn_yes (h _), ih h]; simp
end Go.Wb

namespace Go.Wb
open Go Go.RowKit

/-- Nothing is appended. -/
theorem run_append_zero {P : Program} (w : World) (t ty e : TypeId) (s b : Nat) (ht : P.underlying t = some (.slice e)) (he : Elem P e s b) (a : Option Addr) (n cap : Nat) (hle : n ≤ cap) (sa : Option Addr) (c : Nat) :
    (Builtin.append_ #[t, t] ty #[.slice a n cap, .slice sa 0 c]).run P w = .ok (.slice a n cap) w := by
  obtain ⟨h2, _, _⟩ := he
  cases hi : P.info? e with
  | none => rw [hi] at h2; cases h2
  | some i =>
    have hst : ∀ q : Addr, (storeCells q ([] : List Value)).run P w = .ok () w := fun q => by simp [storeCells]
    cases sa with
    | none => cases a <;> simp [Builtin.append_, run_underlying ht, sizeOf, typeInfo, hi, Builtin.lenOf, hle, Builtin.firstCells, hst]
    | some ad =>
      have hf := run_firstCells_some (P := P) w i.size 0 ad 0 c [] (by simp) (by simp)
      cases a <;> simp [Builtin.append_, run_underlying ht, sizeOf, typeInfo, hi, Builtin.lenOf, hle, hf, hst]

/-- Whatever list is appended. -/
theorem run_append_src {P : Program} (w : World) (t ty e : TypeId) (s b : Nat) (ht : P.underlying t = some (.slice e)) (he : Elem P e s b)
    (a : Option Addr) (n cap : Nat) (xs : List Value) (hrow : Row w e s a cap xs) (hn : xs.length = n * s)
    (sa : Option Addr) (m c : Nat) (news : List Value) (hs : 0 < s) (hl : news.length = m * s) (hnews : Given w sa news) (h1 : ∀ u ∈ news, u.oneCell' = true)
    (hle : n ≤ cap) (h63 : n + m ≤ maxLen) (hbytes : (n + m) * b ≤ 140737488355328) :
    ∃ a' cap' w', (Builtin.append_ #[t, t] ty #[.slice a n cap, .slice sa m c]).run P w = .ok (.slice a' (n + m) cap') w' ∧ Grew w w' e s a a' n m cap cap' (xs ++ news) := by
  by_cases hm : m = 0
  · subst hm
    obtain rfl : news = [] := by simpa using hl
    exact ⟨a, cap, w, run_append_zero w t ty e s b ht he a n cap hle sa c, ⟨by simpa using hrow, Keep.refl _ _, fun _ _ h => .inl h, by omega⟩⟩
  · rcases hnews with h | ⟨q, o, rfl, hc⟩
    · subst h
      have : 0 < m * s := Nat.mul_pos (by omega) hs
      simp at hl
      omega
    · exact run_append_any w t ty e s b ht he a n cap xs hrow hn ⟨q, o, none⟩ m c news hl (fun j u hj => by
        have hadd : (⟨q, o, none⟩ : Addr).add j = ⟨q, o + j, none⟩ := by unfold Addr.add; split <;> simp_all
        rw [hadd]; exact hc j u hj) h1 (by omega) hle h63 hbytes

theorem wpList_append_src {P : Program} {w : World} {ops : Array Oper} {rest : List Oper} {o : Oper} {a : Act} {Q : Exit → Act → World → Prop} (hgd : o.guard = none) (s x : Operand) (t : TypeId)
    (ho : o.op = .call { callee := .builtin .append, args := #[s, x], argTypes := #[t, t] })
    (e : TypeId) (sz b : Nat) (ht : P.underlying t = some (.slice e)) (he : Elem P e sz b)
    (aa : Option Addr) (n cap : Nat) (xs : List Value) (hs : a.eval s = .slice aa n cap) (hrow : Row w e sz aa cap xs) (hn : xs.length = n * sz)
    (sa : Option Addr) (m c : Nat) (news : List Value) (hx : a.eval x = .slice sa m c) (hsz : 0 < sz) (hl : news.length = m * sz) (hnews : Given w sa news) (h1 : ∀ u ∈ news, u.oneCell' = true)
    (hle : n ≤ cap) (h63 : n + m ≤ maxLen) (hbytes : (n + m) * b ≤ 140737488355328)
    (h : ∀ a' cap' w', Grew w w' e sz aa a' n m cap cap' (xs ++ news) → wpList P ops Q rest (a.put o.dst (.slice a' (n + m) cap')) w') : wpList P ops Q (o :: rest) a w := by
  refine wpList_plain hgd fun K hK => ?_
  obtain ⟨a', cap', w', hr, hg⟩ := run_append_src (P := P) w t o.type e sz b ht he aa n cap xs hrow hn sa m c news hsz hl hnews h1 hle h63 hbytes
  unfold Oper.wp execOp
  simp only [ho, resolve, invoke, builtin, Sem.run_bind, Sem.run_pure, Result.andThen_ok, List.map_toArray, List.map_cons, List.map_nil, hs, hx, hr]
  exact hK _ _ (h a' cap' w' hg)

/-- A part of a given slice. -/
theorem Given.drop {w : World} {a : Option Addr} {cs : List Value} (h : Given w a cs) (k : Nat) {b o : Nat} (ha : a = some ⟨b, o, none⟩) : Given w (some ⟨b, o + k, none⟩) (cs.drop k) := by
  rcases h with h | ⟨b', o', h1, h2⟩
  · subst h; exact .inl (by simp)
  · rw [ha] at h1
    obtain ⟨rfl, rfl⟩ : b = b' ∧ o = o' := by simpa using h1
    refine .inr ⟨b, o + k, rfl, fun i v hi => ?_⟩
    rw [List.getElem?_drop] at hi
    have := h2 (k + i) v hi
    rwa [← Nat.add_assoc] at this
theorem Given.take {w : World} {a : Option Addr} {cs : List Value} (h : Given w a cs) (k : Nat) : Given w a (cs.take k) := by
  rcases h with h | ⟨b', o', h1, h2⟩
  · subst h; exact .inl (by simp)
  · refine .inr ⟨b', o', h1, fun i v hi => h2 i v ?_⟩
    rw [List.getElem?_take] at hi
    split at hi
    · exact hi
    · cases hi
end Go.Wb

namespace Go.Wb
open Go Go.RowKit

theorem int_wf {n : Int} (h : (Lit.int .i64 n).wf = true) : -9223372036854775808 ≤ n ∧ n ≤ 9223372036854775807 := by
  simp only [Lit.wf, Bool.and_eq_true] at h
  have h1 := of_decide_eq_true h.1
  have h2 := of_decide_eq_true h.2
  rw [show IntKind.i64.min = -9223372036854775808 from rfl] at h1
  rw [show IntKind.i64.max = 9223372036854775807 from rfl] at h2
  exact ⟨h1, h2⟩
/-- A new block reads as what was laid into it. -/
theorem new_given (w : World) (cs : List Value) (ty : TypeId) : Given (w.alloc (.cells cs.toArray ty)) (some ⟨w.heap.size, 0, none⟩) cs :=
  .inr ⟨_, 0, rfl, fun i v hi => by rw [Nat.zero_add]; have h := heap_alloc_new w (.cells cs.toArray ty); simp only [World.cell?, h]; simpa using hi⟩
/-- A slice that grows, told. -/
structure Rw where
  ty : Nat
  s : Nat
  a : Option Addr
  n : Nat
  cap : Nat
  cs : List Value
def Rw.fp (r : Rw) (b : Nat) : Prop := ∃ o, rowFp r.a (r.cap * r.s) b o
/-- Slices that grow, in blocks of their own from B on. -/
structure Accs (B : Nat) (w : World) (l : List Rw) : Prop where
  acc : ∀ (i : Nat) (r : Rw), l[i]? = some r → Acc B w r.ty r.s r.a r.n r.cap r.cs
  apart : ∀ (i j : Nat) (r q : Rw), i ≠ j → l[i]? = some r → l[j]? = some q → ∀ b, r.fp b → q.fp b → False

variable {B : Nat} {w w' : World} {l : List Rw}
theorem Accs.nil (B : Nat) (w : World) : Accs B w [] := ⟨fun i r h => by simp at h, fun i j r q _ h => by simp at h⟩
theorem Accs.quiet (h : Accs B w l) (hk : Keep (fun _ _ => False) w w') : Accs B w' l := ⟨fun i r hi => (h.acc i r hi).quiet hk, h.apart⟩
/-- What turns is none of the rows'. -/
theorem Accs.calm (h : Accs B w l) {S : Nat → Nat → Prop} (hk : Keep S w w') (hS : ∀ b o, B ≤ b → ¬ S b o) : Accs B w' l := ⟨fun i r hi => (h.acc i r hi).calm hk hS, h.apart⟩
/-- One more, in new blocks. -/
theorem Accs.add (h : Accs B w l) (hB : B ≤ w.heap.size) (hk : Keep (fun _ _ => False) w w') {r : Rw} (hr : Row w' r.ty r.s r.a r.cap r.cs) (hl : r.cs.length = r.n * r.s) (hle : r.n ≤ r.cap) (hn : ∀ b, r.fp b → w.heap.size ≤ b) : Accs B w' (l ++ [r]) := by
  have get : ∀ (i : Nat) (q : Rw), (l ++ [r])[i]? = some q → l[i]? = some q ∨ (i = l.length ∧ q = r) := fun i q hi => by
    rw [List.getElem?_append] at hi
    split at hi
    · exact .inl hi
    · rename_i hlt
      have : i - l.length = 0 := by
        rcases Nat.eq_zero_or_pos (i - l.length) with h | h
        · exact h
        · rw [List.getElem?_eq_none (by simp; omega)] at hi; cases hi
      rw [this] at hi
      exact .inr ⟨by omega, by simpa using hi.symm⟩
  have old : ∀ (i : Nat) (q : Rw), l[i]? = some q → ∀ b, q.fp b → b < w.heap.size := fun i q hi b ⟨o, hf⟩ => rowFp_lt (h.acc i q hi).row hf
  refine ⟨fun i q hi => ?_, fun i j p q hij hi hj b hp hq => ?_⟩
  · rcases get i q hi with h1 | ⟨_, rfl⟩
    · exact (h.acc i q h1).quiet hk
    · exact ⟨hr, hl, hle, fun b o hf => Nat.le_trans hB (hn b ⟨o, hf⟩)⟩
  · rcases get i p hi with h1 | ⟨e1, rfl⟩ <;> rcases get j q hj with h2 | ⟨e2, rfl⟩
    · exact h.apart i j p q hij h1 h2 b hp hq
    · have := old i p h1 b hp; have := hn b hq; omega
    · have := old j q h2 b hq; have := hn b hp; omega
    · omega
theorem Accs.addNil (h : Accs B w l) (hB : B ≤ w.heap.size) (ty s : Nat) : Accs B w (l ++ [⟨ty, s, none, 0, 0, []⟩]) :=
  h.add hB (Keep.refl _ _) (.inl ⟨rfl, rfl, rfl⟩) (by simp) (Nat.le_refl _) fun b ⟨o, _, _, h, _⟩ => by cases h
/-- One grows. -/
theorem Accs.grow (h : Accs B w l) (hB : B ≤ w.heap.size) (i : Nat) {ty s n cap m cap' : Nat} {a a' : Option Addr} {cs news : List Value} (hi : l[i]? = some ⟨ty, s, a, n, cap, cs⟩) (hg : Grew w w' ty s a a' n m cap cap' (cs ++ news)) (hl : news.length = m * s) :
    Accs B w' (l.set i ⟨ty, s, a', n + m, cap', cs ++ news⟩) ∧ Keep (fun b _ => B ≤ b) w w' := by
  obtain ⟨g1, g2⟩ := (h.acc i _ hi).grow hB hg hl
  have get : ∀ (j : Nat) (q : Rw), (l.set i ⟨ty, s, a', n + m, cap', cs ++ news⟩)[j]? = some q → (j = i ∧ q = ⟨ty, s, a', n + m, cap', cs ++ news⟩) ∨ (j ≠ i ∧ l[j]? = some q) := fun j q hj => by
    rw [List.getElem?_set] at hj
    split at hj
    · rename_i hij
      split at hj
      · exact .inl ⟨hij.symm, by simpa using hj.symm⟩
      · cases hj
    · rename_i hij
      exact .inr ⟨fun e => hij e.symm, hj⟩
  have old : ∀ (j : Nat) (q : Rw), l[j]? = some q → ∀ b, q.fp b → b < w.heap.size := fun j q hj b ⟨o, hf⟩ => rowFp_lt (h.acc j q hj).row hf
  have fp' : ∀ b, (⟨ty, s, a', n + m, cap', cs ++ news⟩ : Rw).fp b → (⟨ty, s, a, n, cap, cs⟩ : Rw).fp b ∨ w.heap.size ≤ b := fun b ⟨o, hf⟩ => by
    rcases hg.fp b o hf with h1 | ⟨h1, _⟩
    · exact .inl ⟨o, h1⟩
    · exact .inr (by omega)
  refine ⟨⟨fun j q hj => ?_, fun j k p q hjk hj hk b hp hq => ?_⟩, g2⟩
  · rcases get j q hj with ⟨rfl, rfl⟩ | ⟨hne, hj⟩
    · exact g1
    · have hq := h.acc j q hj
      refine ⟨hq.row.keep' hg.keep fun b o hf ⟨x, y, e1, e2, e3, e4⟩ => ?_, hq.len, hq.le, hq.own⟩
      exact h.apart j i q _ hne hj hi b ⟨o, hf⟩ ⟨o, x, y, e1, e2, by omega, e4⟩
  · rcases get j p hj with ⟨rfl, rfl⟩ | ⟨hj1, hj2⟩ <;> rcases get k q hk with ⟨rfl, rfl⟩ | ⟨hk1, hk2⟩
    · exact hjk rfl
    · rcases fp' b hp with h1 | h1
      · exact h.apart j k _ q hjk hi hk2 b h1 hq
      · have := old k q hk2 b hq; omega
    · rcases fp' b hq with h1 | h1
      · exact h.apart j k p _ hjk hj2 hi b hp h1
      · have := old j p hj2 b hp; omega
    · exact h.apart j k p q hjk hj2 hk2 b hp hq
/-- A cell of one is written. -/
theorem Accs.set (h : Accs B w l) (i : Nat) {ty s n cap b o j : Nat} {cs : List Value} (hi : l[i]? = some ⟨ty, s, some ⟨b, o, none⟩, n, cap, cs⟩) (hj : j < cs.length) (v : Value) : Accs B (w.setCell ⟨b, o + j, none⟩ v) (l.set i ⟨ty, s, some ⟨b, o, none⟩, n, cap, cs.set j v⟩) := by
  have hr := h.acc i _ hi
  have hlen := hr.row.len
  have hk : Keep (fun x y => x = b ∧ o ≤ y ∧ y < o + cap * s) w (w.setCell ⟨b, o + j, none⟩ v) := Keep.set (Keep.refl _ _) _ _ _ fun _ => ⟨rfl, by omega, by simp only at hlen; omega⟩
  have get : ∀ (k : Nat) (q : Rw), (l.set i ⟨ty, s, some ⟨b, o, none⟩, n, cap, cs.set j v⟩)[k]? = some q → (k = i ∧ q = ⟨ty, s, some ⟨b, o, none⟩, n, cap, cs.set j v⟩) ∨ (k ≠ i ∧ l[k]? = some q) := fun k q hk => by
    rw [List.getElem?_set] at hk
    split at hk
    · rename_i hij
      split at hk
      · exact .inl ⟨hij.symm, by simpa using hk.symm⟩
      · cases hk
    · rename_i hij
      exact .inr ⟨fun e => hij e.symm, hk⟩
  refine ⟨fun k q hq => ?_, fun k m p q hkm hp hq c hc hd => ?_⟩
  · rcases get k q hq with ⟨rfl, rfl⟩ | ⟨hne, hq2⟩
    · exact ⟨hr.row.setCell v hj, by rw [List.length_set]; exact hr.len, hr.le, hr.own⟩
    · have hq' := h.acc k q hq2
      refine ⟨hq'.row.keep' hk fun c y hf ⟨e, h1, h2⟩ => ?_, hq'.len, hq'.le, hq'.own⟩
      exact h.apart k i q _ hne hq2 hi c ⟨y, hf⟩ ⟨y, b, o, rfl, e, h1, h2⟩
  · rcases get k p hp with ⟨rfl, rfl⟩ | ⟨hk1, hp2⟩ <;> rcases get m q hq with ⟨rfl, rfl⟩ | ⟨hm1, hq2⟩
    · exact hkm rfl
    · exact h.apart k m _ q hkm hi hq2 c hc hd
    · exact h.apart k m p _ hkm hp2 hi c hc hd
    · exact h.apart k m p q hkm hp2 hq2 c hc hd
/-- A new block of one element. -/
theorem Accs.addBlk (h : Accs B w l) (hB : B ≤ w.heap.size) {w' : World} (hk : Keep (fun _ _ => False) w w') {ty s b n : Nat} {cs : List Value} (hb : w'.heap[b]? = some (.cells cs.toArray ty (0, 0))) (hw : w.heap.size ≤ b) (hs : cs.length = n * s) : Accs B w' (l ++ [⟨ty, s, some ⟨b, 0, none⟩, n, n, cs⟩]) :=
  h.add hB hk (.inr ⟨b, 0, cs.toArray, rfl, hb, by simp only; omega, by simp only [List.size_toArray]; omega, fun i v hi => by simpa using hi⟩) hs (Nat.le_refl _) fun c ⟨o, x, y, e, e2, _⟩ => by
    obtain ⟨rfl, _⟩ : b = x ∧ 0 = y := by simpa using e
    omega
/-- Some of them, in another order. -/
theorem Accs.sub (h : Accs B w l) {l' : List Rw} (f : Nat → Nat) (hf : ∀ i r, l'[i]? = some r → l[f i]? = some r) (inj : ∀ i j, i < l'.length → j < l'.length → f i = f j → i = j) : Accs B w l' :=
  ⟨fun i r hi => h.acc (f i) r (hf i r hi), fun i j r q hij hi hj => h.apart (f i) (f j) r q (fun e => hij (inj i j (List.getElem?_eq_some_iff.1 hi).1 (List.getElem?_eq_some_iff.1 hj).1 e)) (hf i r hi) (hf j q hj)⟩
end Go.Wb
