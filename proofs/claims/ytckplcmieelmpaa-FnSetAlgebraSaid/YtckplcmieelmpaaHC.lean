/- Part 3 of the texts for the statement FnSetAlgebraSaid: the package's tree of maps and sets, its functions' contracts. -/
import Derived.Test.YtckplcmieelmpaaHB
import Derived.Laws.MakeOwn
namespace Go.Wb
open Go Go.RowKit
variable {α : Type} {T : Ty} {E : Enc α}

/-! ### a node turns -/
/-- Node n's record turns, in its own cells and new ones. -/
structure NTurn (T : Ty) (E : Enc α) (w : World) (n : Nat) (r : NRec α) (L : Lay) (w' : World) (r' : NRec α) (L' : Lay) : Prop where
  at_ : NodeAt T E w' n r' L'
  keep : Keep (fp T n r L) w w'
  fp : ∀ b o, b < w.heap.size → fp T n r' L' b o → fp T n r L b o

theorem NTurn.refl {w : World} {n : Nat} {r : NRec α} {L : Lay} (h : NodeAt T E w n r L) : NTurn T E w n r L w r L := ⟨h, Keep.refl _ _, fun _ _ _ h => h⟩
theorem NTurn.trans {w w1 w2 : World} {n : Nat} {r r1 r2 : NRec α} {L L1 L2 : Lay} (h : NTurn T E w n r L w1 r1 L1) (k : NTurn T E w1 n r1 L1 w2 r2 L2) : NTurn T E w n r L w2 r2 L2 :=
  ⟨k.at_, h.keep.trans k.keep fun b o hb hf => h.fp b o hb hf, fun b o hb hf => h.fp b o hb (k.fp b o (Nat.lt_of_lt_of_le hb h.keep.size) hf)⟩
theorem NTurn.ahead {w w1 w2 : World} {n : Nat} {r r2 : NRec α} {L L2 : Lay} (hk : Keep (fun _ _ => False) w w1) (k : NTurn T E w1 n r L w2 r2 L2) : NTurn T E w n r L w2 r2 L2 :=
  ⟨k.at_, (hk.mono fun _ _ _ h => h.elim).trans k.keep fun _ _ _ h => h, fun b o hb hf => k.fp b o (Nat.lt_of_lt_of_le hb hk.size) hf⟩
theorem NTurn.behind {w w1 w2 : World} {n : Nat} {r r1 : NRec α} {L L1 : Lay} (k : NTurn T E w n r L w1 r1 L1) (hk : Keep (fun _ _ => False) w1 w2) : NTurn T E w n r L w2 r1 L1 :=
  ⟨k.at_.keep hk fun _ _ _ h => h, k.keep.trans (hk.mono fun _ _ _ h => h.elim : Keep (Wb.fp T n r L) w1 w2) fun _ _ _ h => h, k.fp⟩
theorem NTurn.dr {w w1 : World} {n : Nat} {r r1 : NRec α} {L L1 : Lay} (k : NTurn T E w n r L w1 r1 L1) : NTurn T E w n r L w1.drew r1 L1 := k.behind (Keep.drew _ _)

/-- The node's own block. -/
theorem NodeAt.own {w : World} {n : Nat} {r : NRec α} {L : Lay} (h : NodeAt T E w n r L) : w.cell? ⟨n, 0, none⟩ = some (.int .u64 r.iso) ∧ w.cell? ⟨n, 1, none⟩ = some (.int .i64 r.cnt) ∧ w.cell? ⟨n, 2, none⟩ = some (.slice L.ia r.items.length L.icap) ∧
    w.cell? ⟨n, 3, none⟩ = some (kidsVal r.kids L.cb) ∧ ∀ o, w.frozen? ⟨n, o, none⟩ = false := by
  have := h.1
  simp [World.cell?, World.frozen?, this]
/-- The block of a node's children. -/
theorem NodeAt.kids {w : World} {n : Nat} {r : NRec α} {L : Lay} (h : NodeAt T E w n r L) {ks : List Nat} (hk : r.kids = some ks) : w.cell? ⟨n, 3, none⟩ = some (ptr L.cb) ∧ w.cell? ⟨L.cb, 0, none⟩ = some (.slice L.ka ks.length L.kcap) ∧
    (∀ o, w.frozen? ⟨L.cb, o, none⟩ = false) ∧ Row w T.nodeP 1 L.ka L.kcap (ks.map ptr) ∧ ks.length ≤ L.kcap := by
  have h1 := h.own
  obtain ⟨h5, h6, h7⟩ := h.2.2.2 ks hk
  refine ⟨by rw [h1.2.2.2.1, hk]; rfl, ?_, ?_, h6, h7⟩
  · simp [World.cell?, h5]
  · simp [World.frozen?, h5]

section ops
variable {w : World} {n : Nat} {r : NRec α} {L : Lay}

theorem nt_head (ok : TyOk T) (h : NodeAt T E w n r L) {w' : World} {iso cnt : Int} (hk : Keep (fun b _ => b = n) w w') (hb : w'.heap[n]? = some (.cells #[.int .u64 iso, .int .i64 cnt, .slice L.ia r.items.length L.icap, kidsVal r.kids L.cb] T.node (0, 0))) :
    NTurn T E w n r L w' { r with iso := iso, cnt := cnt } L :=
  ⟨h.reset ok hk hb, hk.mono fun _ _ _ h => .inl h, fun _ _ _ h => h⟩
/-- n.count = c -/
theorem nt_cnt (ok : TyOk T) (h : NodeAt T E w n r L) (c : Int) : NTurn T E w n r L (w.setCell ⟨n, 1, none⟩ (.int .i64 c)) { r with cnt := c } L :=
  nt_head ok h ((Keep.refl _ _).set _ _ _ fun _ => rfl) (by rw [blk_set _ h.1]; rfl)
theorem nt_iso (ok : TyOk T) (h : NodeAt T E w n r L) (c : Int) : NTurn T E w n r L (w.setCell ⟨n, 0, none⟩ (.int .u64 c)) { r with iso := c } L :=
  nt_head ok h ((Keep.refl _ _).set _ _ _ fun _ => rfl) (by rw [blk_set _ h.1]; rfl)

/-- The row of the items is another one, or has turned: n.items = .. -/
theorem nt_items (ok : TyOk T) (h : NodeAt T E w n r L) {w1 : World} {its : List α} {a : Option Addr} {cap : Nat} (hk : Keep (rowFp L.ia (L.icap * T.s)) w w1) (hrow : Row w1 T.pair T.s a cap (E.all its)) (hle : its.length ≤ cap)
    (hfp : ∀ b o, b < w.heap.size → rowFp a (cap * T.s) b o → rowFp L.ia (L.icap * T.s) b o) :
    NTurn T E w n r L (w1.setCell ⟨n, 2, none⟩ (.slice a its.length cap)) { r with items := its } { L with ia := a, icap := cap } := by
  have hnp : ∀ b o, rowFp L.ia (L.icap * T.s) b o → b ≠ n := fun b o hf e => by
    obtain ⟨arr, ha⟩ := h.2.1.block ⟨_, hf⟩
    subst e
    exact blk_ne h.1 ha ok.a rfl
  have hb1 : w1.heap[n]? = some (.cells #[.int .u64 r.iso, .int .i64 r.cnt, .slice L.ia r.items.length L.icap, kidsVal r.kids L.cb] T.node (0, 0)) := blk_keep h.1 hk fun o hf => hnp _ _ hf rfl
  have hk2 : Keep (fun b o => b = n ∧ o = 2) w1 (w1.setCell ⟨n, 2, none⟩ (.slice a its.length cap)) := (Keep.refl _ _).set _ _ _ fun _ => ⟨rfl, rfl⟩
  refine ⟨⟨by rw [blk_set _ hb1]; rfl, ?_, hle, fun ks hks => ?_⟩, ?_, ?_⟩
  · refine hrow.keep' hk2 fun b o hf e => ?_
    obtain ⟨arr, ha⟩ := hrow.block ⟨_, hf⟩
    rw [e.1] at ha
    exact blk_ne hb1 ha ok.a rfl
  · obtain ⟨h5, h6, h7⟩ := h.2.2.2 ks hks
    have h5' : w1.heap[L.cb]? = _ := blk_keep h5 hk fun o hf => by
      obtain ⟨arr, ha⟩ := h.2.1.block ⟨_, hf⟩
      exact blk_ne ha h5 ok.d rfl
    have h6' : Row w1 T.nodeP 1 L.ka L.kcap (ks.map ptr) := h6.keep' hk fun b o hf hg => by
      obtain ⟨arr, ha⟩ := h.2.1.block ⟨_, hg⟩
      obtain ⟨arr', ha'⟩ := h6.block ⟨_, hf⟩
      exact blk_ne ha ha' ok.f rfl
    refine ⟨blk_keep h5' hk2 fun o e => ?_, h6'.keep' hk2 fun b o hf e => ?_, h7⟩
    · exact blk_ne hb1 h5' ok.c e.1.symm
    · obtain ⟨arr', ha'⟩ := h6'.block ⟨_, hf⟩
      rw [e.1] at ha'
      exact blk_ne hb1 ha' ok.b rfl
  · exact (hk.mono fun b o _ hf => .inr (.inl hf) : Keep (Wb.fp T n r L) w w1).trans hk2 fun b o _ e => .inl e.1
  · rintro b o hb (e | hf | hf)
    · exact .inl e
    · exact .inr (.inl (hfp b o hb hf))
    · exact .inr (.inr hf)

/-- append to the items -/
theorem nt_append (ok : TyOk T) (h : NodeAt T E w n r L) {w0 w1 : World} {its : List α} {news : List Value} {a' : Option Addr} {m cap' : Nat} (hk0 : Keep (fun _ _ => False) w w0) (hg : Grew w0 w1 T.pair T.s L.ia a' r.items.length m L.icap cap' (E.all r.items ++ news)) (hn : E.all r.items ++ news = E.all its) (hl : its.length = r.items.length + m) :
    NTurn T E w n r L (w1.setCell ⟨n, 2, none⟩ (.slice a' (r.items.length + m) cap')) { r with items := its } { L with ia := a', icap := cap' } := by
  have h0 := h.keep hk0 fun _ _ _ h => h
  rw [← hl]
  refine NTurn.ahead hk0 (nt_items ok h0 (hg.keep.mono fun b o _ hf => ?_) (hn ▸ hg.row) (by rw [hl]; exact hg.cap) fun b o hb hf => ?_)
  · obtain ⟨x, y, e1, e2, e3, e4⟩ := hf
    exact ⟨x, y, e1, e2, by omega, e4⟩
  · rcases hg.fp b o hf with h | ⟨h, _⟩
    · exact h
    · omega
theorem nt_append1 (ok : TyOk T) (h : NodeAt T E w n r L) {w0 w1 : World} {x : α} {a' : Option Addr} {cap' : Nat} (hk0 : Keep (fun _ _ => False) w w0) (hg : Grew w0 w1 T.pair T.s L.ia a' r.items.length 1 L.icap cap' (E.all r.items ++ E.enc x)) :
    NTurn T E w n r L (w1.setCell ⟨n, 2, none⟩ (.slice a' (r.items.length + 1) cap')) { r with items := r.items ++ [x] } { L with ia := a', icap := cap' } :=
  nt_append ok h hk0 hg (by simp [Enc.all]) (by simp)

/-- Cells of the items turn in place. -/
theorem nt_row (ok : TyOk T) (h : NodeAt T E w n r L) {w1 : World} {its : List α} (hk : Keep (rowFp L.ia (L.icap * T.s)) w w1) (hrow : Row w1 T.pair T.s L.ia L.icap (E.all its)) (hl : its.length = r.items.length) :
    NTurn T E w n r L w1 { r with items := its } L := by
  have hb1 : w1.heap[n]? = some (.cells #[.int .u64 r.iso, .int .i64 r.cnt, .slice L.ia its.length L.icap, kidsVal r.kids L.cb] T.node (0, 0)) := by
    rw [hl]
    exact blk_keep h.1 hk fun o hf => by
      obtain ⟨arr, ha⟩ := h.2.1.block ⟨_, hf⟩
      exact blk_ne h.1 ha ok.a rfl
  refine ⟨⟨hb1, hrow, by rw [hl]; exact h.2.2.1, fun ks hks => ?_⟩, hk.mono fun b o _ hf => .inr (.inl hf), fun _ _ _ h => h⟩
  obtain ⟨h5, h6, h7⟩ := h.2.2.2 ks hks
  refine ⟨blk_keep h5 hk fun o hf => ?_, h6.keep' hk fun b o hf hg => ?_, h7⟩
  · obtain ⟨arr, ha⟩ := h.2.1.block ⟨_, hf⟩
    exact blk_ne ha h5 ok.d rfl
  · obtain ⟨arr, ha⟩ := h.2.1.block ⟨_, hg⟩
    obtain ⟨arr', ha'⟩ := h6.block ⟨_, hf⟩
    exact blk_ne ha ha' ok.f rfl

theorem all_set' (l : List α) {i : Nat} (hi : i < l.length) (x : α) : E.all (l.set i x) = (E.all l).take (i * E.s) ++ E.enc x ++ (E.all l).drop (i * E.s + (E.enc x).length) := by
  rw [List.set_eq_take_append_cons_drop, if_pos hi, E.all_append, E.all_cons, E.all_take, E.all_drop, E.len, show (i + 1) * E.s = i * E.s + E.s by rw [Nat.add_mul]; omega, List.append_assoc]

/-- n.items[i] = x -/
theorem nt_set (ok : TyOk T) (hs : T.s = E.s) (h : NodeAt T E w n r L) {i : Nat} (hi : i < r.items.length) {ib io : Nat} (hia : L.ia = some ⟨ib, io, none⟩) (x : α) :
    NTurn T E w n r L (w.setCells ib (io + i * T.s) (E.enc x)) { r with items := r.items.set i x } L := by
  have hrow := h.2.1
  have hle := h.2.2.1
  have e1 : i * T.s + T.s ≤ r.items.length * T.s := by rw [← Nat.add_one_mul]; exact Nat.mul_le_mul_right _ hi
  have e2 : r.items.length * T.s ≤ L.icap * T.s := Nat.mul_le_mul_right _ hle
  rw [hia] at hrow
  refine nt_row ok h (Keep.setCells _ _ _ _ fun j hj => ⟨_, _, hia, rfl, by omega, ?_⟩) ?_ (by simp)
  · rw [E.len, ← hs] at hj; omega
  · rw [hia]
    have := hrow.setCells (E.enc x) (k := i * T.s) (by rw [E.len, E.all_len, ← hs]; omega)
    rw [all_set' _ hi, ← hs]
    exact this

/-- n.items = n.items[:k] -/
theorem nt_cut (ok : TyOk T) (h : NodeAt T E w n r L) {k : Nat} (hk : k ≤ r.items.length) : NTurn T E w n r L (w.setCell ⟨n, 2, none⟩ (.slice L.ia k L.icap)) { r with items := r.items.take k } L := by
  have hl : (r.items.take k).length = k := by simp; omega
  have hrow := h.2.1.take (k * E.s)
  rw [← E.all_take] at hrow
  have := nt_items ok h (its := r.items.take k) (Keep.refl _ _) hrow (by have := h.2.2.1; omega) (fun _ _ _ h => h)
  rwa [hl] at this

/-- a new slice of children, or the old one turned: *n.children = .. -/
theorem nt_kids (ok : TyOk T) (h : NodeAt T E w n r L) {ks : List Nat} (hks : r.kids = some ks) {w1 : World} {ks' : List Nat} {a : Option Addr} {cap : Nat} (hk : Keep (rowFp L.ka L.kcap) w w1) (hrow : Row w1 T.nodeP 1 a cap (ks'.map ptr)) (hle : ks'.length ≤ cap)
    (hfp : ∀ b o, b < w.heap.size → rowFp a cap b o → rowFp L.ka L.kcap b o) :
    NTurn T E w n r L (w1.setCell ⟨L.cb, 0, none⟩ (.slice a ks'.length cap)) { r with kids := some ks' } { L with ka := a, kcap := cap } := by
  obtain ⟨h5, h6, h7⟩ := h.2.2.2 ks hks
  have off : ∀ b o c t, rowFp L.ka L.kcap b o → T.nodeP ≠ t → w.heap[b]? = some (.cells c t (0, 0)) → False := fun b o c t hf ht hb => by
    obtain ⟨arr, ha⟩ := h6.block ⟨_, hf⟩
    exact blk_ne ha hb ht rfl
  have hb1 := blk_keep h.1 hk fun o hf => off _ _ _ _ hf ok.b.symm h.1
  have hc1 := blk_keep h5 hk fun o hf => off _ _ _ _ hf ok.e h5
  have hr1 : Row w1 T.pair T.s L.ia L.icap (E.all r.items) := h.2.1.keep' hk fun b o hf hg => by
    obtain ⟨arr, ha⟩ := h.2.1.block ⟨_, hf⟩
    exact off b o _ _ hg ok.f.symm ha
  have hk2 : Keep (fun b o => b = L.cb ∧ o = 0) w1 (w1.setCell ⟨L.cb, 0, none⟩ (.slice a ks'.length cap)) := (Keep.refl _ _).set _ _ _ fun _ => ⟨rfl, rfl⟩
  have hkv : kidsVal r.kids L.cb = kidsVal (some ks') L.cb := by rw [hks]; rfl
  rw [hkv] at hb1
  refine ⟨⟨blk_keep hb1 hk2 fun o e => ?_, hr1.keep' hk2 fun b o hf e => ?_, h.2.2.1, fun ks2 hks2 => ?_⟩, ?_, ?_⟩
  · exact blk_ne hb1 hc1 ok.c e.1
  · obtain ⟨arr, ha⟩ := hr1.block ⟨_, hf⟩
    rw [e.1] at ha
    exact blk_ne ha hc1 ok.d rfl
  · obtain rfl : ks' = ks2 := Option.some.inj hks2
    refine ⟨by show (w1.setCell ⟨L.cb, 0, none⟩ _).heap[L.cb]? = _; rw [blk_set _ hc1]; rfl, ?_, hle⟩
    refine hrow.keep' hk2 fun b o hf e => ?_
    obtain ⟨arr, ha⟩ := hrow.block ⟨_, hf⟩
    rw [e.1] at ha
    exact blk_ne ha hc1 ok.e rfl
  · exact (hk.mono fun b o _ hf => .inr (.inr ⟨by simp [hks], .inr hf⟩) : Keep (Wb.fp T n r L) w w1).trans hk2 fun b o _ e => .inr (.inr ⟨by simp [hks], .inl e.1⟩)
  · rintro b o hb (e | hf | ⟨_, hf | hf⟩)
    · exact .inl e
    · exact .inr (.inl hf)
    · exact .inr (.inr ⟨by simp [hks], .inl hf⟩)
    · exact .inr (.inr ⟨by simp [hks], .inr (hfp b o hb hf)⟩)

theorem nk_append (ok : TyOk T) (h : NodeAt T E w n r L) {ks : List Nat} (hks : r.kids = some ks) {w0 w1 : World} {new : List Nat} {a' : Option Addr} {m cap' : Nat} (hk0 : Keep (fun _ _ => False) w w0) (hg : Grew w0 w1 T.nodeP 1 L.ka a' ks.length m L.kcap cap' (ks.map ptr ++ new.map ptr)) (hm : new.length = m) :
    NTurn T E w n r L (w1.setCell ⟨L.cb, 0, none⟩ (.slice a' (ks.length + m) cap')) { r with kids := some (ks ++ new) } { L with ka := a', kcap := cap' } := by
  have h0 := h.keep hk0 fun _ _ _ h => h
  have hl : (ks ++ new).length = ks.length + m := by simp [hm]
  rw [← hl]
  refine NTurn.ahead hk0 (nt_kids ok h0 hks (hg.keep.mono fun b o _ hf => ?_) (by rw [List.map_append]; exact hg.row) (by rw [hl]; exact hg.cap) fun b o hb hf => ?_)
  · obtain ⟨x, y, e1, e2, e3, e4⟩ := hf
    exact ⟨x, y, e1, e2, by omega, by simpa using e4⟩
  · rcases hg.fp b o (by simpa using hf) with h | ⟨h, _⟩
    · simpa using h
    · omega

/-- cells of the children turn in place -/
theorem nk_row (ok : TyOk T) (h : NodeAt T E w n r L) {ks : List Nat} (hks : r.kids = some ks) {w1 : World} {ks' : List Nat} (hk : Keep (rowFp L.ka L.kcap) w w1) (hrow : Row w1 T.nodeP 1 L.ka L.kcap (ks'.map ptr)) (hl : ks'.length = ks.length) :
    NTurn T E w n r L w1 { r with kids := some ks' } L := by
  obtain ⟨h5, h6, h7⟩ := h.2.2.2 ks hks
  have off : ∀ b o c t, rowFp L.ka L.kcap b o → T.nodeP ≠ t → w.heap[b]? = some (.cells c t (0, 0)) → False := fun b o c t hf ht hb => by
    obtain ⟨arr, ha⟩ := h6.block ⟨_, hf⟩
    exact blk_ne ha hb ht rfl
  have hb1 := blk_keep h.1 hk fun o hf => off _ _ _ _ hf ok.b.symm h.1
  have hkv : kidsVal r.kids L.cb = kidsVal (some ks') L.cb := by rw [hks]; rfl
  rw [hkv] at hb1
  refine ⟨⟨hb1, h.2.1.keep' hk fun b o hf hg => ?_, h.2.2.1, fun ks2 hks2 => ?_⟩, hk.mono fun b o _ hf => .inr (.inr ⟨by simp [hks], .inr hf⟩), ?_⟩
  · obtain ⟨arr, ha⟩ := h.2.1.block ⟨_, hf⟩
    exact off b o _ _ hg ok.f.symm ha
  · obtain rfl : ks' = ks2 := Option.some.inj hks2
    refine ⟨?_, hrow, by rw [hl]; exact h7⟩
    rw [hl]
    exact blk_keep h5 hk fun o hf => off _ _ _ _ hf ok.e h5
  · rintro b o hb (e | hf | ⟨_, hf⟩)
    · exact .inl e
    · exact .inr (.inl hf)
    · exact .inr (.inr ⟨by simp [hks], hf⟩)

/-- (*n.children)[i] = m -/
theorem nk_set (ok : TyOk T) (h : NodeAt T E w n r L) {ks : List Nat} (hks : r.kids = some ks) {i : Nat} (hi : i < ks.length) {kb ko : Nat} (hka : L.ka = some ⟨kb, ko, none⟩) (m : Nat) :
    NTurn T E w n r L (w.setCell ⟨kb, ko + i, none⟩ (ptr m)) { r with kids := some (ks.set i m) } L := by
  obtain ⟨h5, h6, h7⟩ := h.2.2.2 ks hks
  refine nk_row ok h hks ((Keep.refl _ _).set _ _ _ fun _ => ⟨_, _, hka, rfl, by omega, by omega⟩) ?_ (by simp)
  rw [hka] at h6 ⊢
  rw [List.map_set]
  exact h6.setCell (ptr m) (by simpa using hi)

/-- *n.children = (*n.children)[:k] -/
theorem nk_cut (ok : TyOk T) (h : NodeAt T E w n r L) {ks : List Nat} (hks : r.kids = some ks) {k : Nat} (hk : k ≤ ks.length) : NTurn T E w n r L (w.setCell ⟨L.cb, 0, none⟩ (.slice L.ka k L.kcap)) { r with kids := some (ks.take k) } L := by
  obtain ⟨h5, h6, h7⟩ := h.2.2.2 ks hks
  have hl : (ks.take k).length = k := by simp; omega
  have := nt_kids ok h hks (ks' := ks.take k) (Keep.refl _ _) (by rw [List.map_take]; exact h6.take k) (by omega) (fun _ _ _ h => h)
  rwa [hl] at this
end ops

/-! ### the builtin copy -/
/-- Into a row, from wherever. -/
theorem run_copyCells {P : Program} (w : World) (t ty e s : Nat) (hu : P.underlying t = some (.slice e)) (hs : (P.info? e).map (·.size) = some s) {b o cap n i m ld ls : Nat} {xs cs : List Value}
    (hrow : Row w e s (some ⟨b, o, none⟩) cap xs) (hn : xs.length = n * s) (hm : Nat.min ls ld = m) (hi : i + m ≤ n) (hcs : cs.length = m * s) (d a : Option Addr) (hd : 0 < m → d = some ⟨b, o + i * s, none⟩)
    (ha : 0 < m → ∃ x, a = some x ∧ ∀ j v, cs[j]? = some v → w.cell? (x.add j) = some v) (c1 c2 : Nat) (one : ∀ v ∈ cs, v.oneCell' = true) :
    ∃ w', (Builtin.copy_ #[t, t] ty #[.slice d ld c1, .slice a ls c2]).run P w = .ok (goInt (m : Nat)) w' ∧
      Keep (fun x y => x = b ∧ o + i * s ≤ y ∧ y < o + (i + m) * s) w w' ∧ Row w' e s (some ⟨b, o, none⟩) cap (xs.take (i * s) ++ cs ++ xs.drop (i * s + cs.length)) := by
  cases hq : P.info? e with
  | none => simp [hq] at hs
  | some inf =>
    have hz : inf.size = s := by simpa [hq] using hs
    have hle : i * s + m * s ≤ n * s := by rw [← Nat.add_mul]; exact Nat.mul_le_mul_right _ hi
    by_cases hlt : 0 < m
    · obtain ⟨x, rfl, hsrc⟩ := ha hlt
      rw [hd hlt]
      obtain ⟨arr, h2, h3, h4, h5⟩ := hrow.getElem
      have hl := run_loadCells_list (P := P) w x cs hsrc
      have hst := run_storeCells_cells (P := P) b (o + i * s) cs 0 w (fun j hj => by
          have : o + i * s + 0 + j < arr.size := by omega
          simp [World.cell?, h2]; omega) (fun j hj => by simp [World.frozen?, h2]) one
      refine ⟨w.setCells b (o + i * s) cs, ?_, ?_, ?_⟩
      · rw [hcs] at hl
        simp [Builtin.copy_, run_underlying hu, Builtin.lenOf, Builtin.firstCells, sizeOf, typeInfo, hq, hz, hm, hl, hst]
      · exact Keep.setCells b cs _ w fun j hj => ⟨rfl, by omega, by rw [Nat.add_mul]; omega⟩
      · exact hrow.setCells cs (k := i * s) (by omega)
    · obtain rfl : m = 0 := by omega
      refine ⟨w, ?_, Keep.refl _ _, ?_⟩
      · have hl : ∀ (x : Addr), (loadCells x 0).run P w = .ok #[] w := fun x => by simpa using run_loadCells_list (P := P) w x [] (by simp)
        cases d <;> cases a <;> simp [Builtin.copy_, run_underlying hu, Builtin.lenOf, Builtin.firstCells, sizeOf, typeInfo, hq, hm, storeCells, hl]
      · obtain rfl : cs = [] := List.eq_nil_of_length_eq_zero (by simpa using hcs)
        simpa using hrow

theorem add_cell (b o j : Nat) : (⟨b, o, none⟩ : Addr).add j = ⟨b, o + j, none⟩ := by unfold Addr.add; split <;> simp_all

/-- Within one row. -/
theorem run_copyRow {P : Program} (w : World) (t ty e s : Nat) (hu : P.underlying t = some (.slice e)) (hs : (P.info? e).map (·.size) = some s) {b o cap n i j m ld ls : Nat} {xs : List Value}
    (hrow : Row w e s (some ⟨b, o, none⟩) cap xs) (hn : xs.length = n * s) (hm : Nat.min ls ld = m) (hi : i + m ≤ n) (hj : j + m ≤ n) (d a : Option Addr) (hd : 0 < m → d = some ⟨b, o + i * s, none⟩) (ha : 0 < m → a = some ⟨b, o + j * s, none⟩) (c1 c2 : Nat) (one : ∀ v ∈ xs, v.oneCell' = true) :
    ∃ w', (Builtin.copy_ #[t, t] ty #[.slice d ld c1, .slice a ls c2]).run P w = .ok (goInt (m : Nat)) w' ∧
      Keep (fun x y => x = b ∧ o + i * s ≤ y ∧ y < o + (i + m) * s) w w' ∧ Row w' e s (some ⟨b, o, none⟩) cap (xs.take (i * s) ++ (xs.drop (j * s)).take (m * s) ++ xs.drop ((i + m) * s)) := by
  have hle : j * s + m * s ≤ n * s := by rw [← Nat.add_mul]; exact Nat.mul_le_mul_right _ hj
  have hcl : ((xs.drop (j * s)).take (m * s)).length = m * s := by simp; omega
  obtain ⟨w', h1, h2, h3⟩ := run_copyCells (P := P) w t ty e s hu hs hrow hn hm hi hcl d a hd (fun h => ⟨_, ha h, fun k v hk => by
      rw [add_cell, Nat.add_assoc]
      refine hrow.cell ?_
      rw [List.getElem?_take] at hk
      split at hk
      · rwa [List.getElem?_drop] at hk
      · cases hk⟩) c1 c2 (fun v hv => one v (List.mem_of_mem_drop (List.mem_of_mem_take hv)))
  refine ⟨w', h1, h2, ?_⟩
  rw [hcl, ← Nat.add_mul] at h3
  exact h3

section ops2
variable {w : World} {n : Nat} {r : NRec α} {L : Lay}
/-- copy(n.items[i:], n.items[j:]), m items -/
theorem nt_copy (ok : TyOk T) (hs : T.s = E.s) (h : NodeAt T E w n r L) {ib io : Nat} (hia : L.ia = some ⟨ib, io, none⟩) {i j m : Nat} (hi : i + m ≤ r.items.length) (hj : j + m ≤ r.items.length) {w' : World}
    (hk : Keep (fun x y => x = ib ∧ io + i * T.s ≤ y ∧ y < io + (i + m) * T.s) w w') (hrow : Row w' T.pair T.s (some ⟨ib, io, none⟩) L.icap ((E.all r.items).take (i * T.s) ++ ((E.all r.items).drop (j * T.s)).take (m * T.s) ++ (E.all r.items).drop ((i + m) * T.s))) :
    NTurn T E w n r L w' { r with items := r.items.take i ++ (r.items.drop j).take m ++ r.items.drop (i + m) } L := by
  have hle := h.2.2.1
  have e2 : (i + m) * T.s ≤ L.icap * T.s := Nat.mul_le_mul_right _ (by omega)
  refine nt_row ok h (hk.mono fun x y _ ⟨e, h1, h2⟩ => ⟨ib, io, hia, e, by omega, by omega⟩) ?_ (by simp; omega)
  rw [E.all_append, E.all_append, E.all_take, E.all_take, E.all_drop, E.all_drop, hia, ← hs]
  exact hrow
/-- copy((*n.children)[i:], (*n.children)[j:]), m children -/
theorem nk_copy (ok : TyOk T) (h : NodeAt T E w n r L) {ks : List Nat} (hks : r.kids = some ks) {kb ko : Nat} (hka : L.ka = some ⟨kb, ko, none⟩) {i j m : Nat} (hi : i + m ≤ ks.length) (hj : j + m ≤ ks.length) {w' : World}
    (hk : Keep (fun x y => x = kb ∧ ko + i * 1 ≤ y ∧ y < ko + (i + m) * 1) w w') (hrow : Row w' T.nodeP 1 (some ⟨kb, ko, none⟩) L.kcap ((ks.map ptr).take (i * 1) ++ ((ks.map ptr).drop (j * 1)).take (m * 1) ++ (ks.map ptr).drop ((i + m) * 1))) :
    NTurn T E w n r L w' { r with kids := some (ks.take i ++ (ks.drop j).take m ++ ks.drop (i + m)) } L := by
  obtain ⟨h5, h6, h7⟩ := h.2.2.2 ks hks
  refine nk_row ok h hks (hk.mono fun x y _ ⟨e, h1, h2⟩ => ⟨kb, ko, hka, e, by omega, by omega⟩) ?_ (by simp; omega)
  rw [hka]
  simp only [Nat.mul_one] at hrow
  simp only [List.map_append, List.map_take, List.map_drop]
  exact hrow
end ops2

/-! ### what a walk owns -/
inductive Res (α : Type) where
  | node (n : Nat) (r : NRec α) (L : Lay)
  | blk (b : Nat) (cs : Array Value) (ty : TypeId)
def Res.ok (T : Ty) (E : Enc α) (w : World) : Res α → Prop
  | .node n r L => NodeAt T E w n r L
  | .blk b cs ty => w.heap[b]? = some (.cells cs ty (0, 0))
def Res.fp (T : Ty) : Res α → Nat → Nat → Prop
  | .node n r L => Wb.fp T n r L
  | .blk b _ _ => fun x _ => x = b
theorem Res.lt {w : World} {r : Res α} (h : r.ok T E w) {b o : Nat} (hf : r.fp T b o) : b < w.heap.size := by
  cases r with
  | node n r L => exact NodeAt.lt h hf
  | blk c cs ty => obtain rfl : b = c := hf; exact lt_of_heap h
theorem Res.keep {S : Nat → Nat → Prop} {w w' : World} {r : Res α} (h : r.ok T E w) (hk : Keep S w w') (hS : ∀ b o, r.fp T b o → ¬ S b o) : r.ok T E w' := by
  cases r with
  | node n r L => exact NodeAt.keep h hk hS
  | blk c cs ty => exact blk_keep h hk fun o => hS c o rfl

structure Own (T : Ty) (E : Enc α) (S : Nat → Nat → Prop) (w0 w : World) (l : List (Res α)) : Prop where
  ok : ∀ (i : Nat) (r : Res α), l[i]? = some r → r.ok T E w
  apart : ∀ (i j : Nat) (r q : Res α), i ≠ j → l[i]? = some r → l[j]? = some q → ∀ b o, r.fp T b o → q.fp T b o → False
  keep : Keep S w0 w
  old : ∀ (i : Nat) (r : Res α), l[i]? = some r → ∀ b o, b < w0.heap.size → r.fp T b o → S b o

variable {S : Nat → Nat → Prop} {w0 w w' : World} {l : List (Res α)}

theorem Own.nil (S : Nat → Nat → Prop) (w : World) : Own T E S w w [] := ⟨fun i r h => by simp at h, fun i j r q _ h => by simp at h, Keep.refl _ _, fun i r h => by simp at h⟩

theorem Own.turn (h : Own T E S w0 w l) (i : Nat) {r r' : Res α} (hi : l[i]? = some r) (hk : Keep (r.fp T) w w') (hok : r'.ok T E w') (hfp : ∀ b o, b < w.heap.size → r'.fp T b o → r.fp T b o) : Own T E S w0 w' (l.set i r') := by
  have get : ∀ j q, (l.set i r')[j]? = some q → (j = i ∧ q = r') ∨ (j ≠ i ∧ l[j]? = some q) := fun j q hj => by
    rw [List.getElem?_set] at hj
    split at hj
    · rename_i e
      split at hj
      · exact .inl ⟨e.symm, (Option.some.inj hj).symm⟩
      · cases hj
    · rename_i e
      exact .inr ⟨fun e' => e e'.symm, hj⟩
  refine ⟨fun j q hj => ?_, fun j k p q hjk hj hk' b o hf hg => ?_, h.keep.trans hk fun x o hx hf => h.old i r hi x o hx hf, fun j q hj b o hb hf => ?_⟩
  · rcases get j q hj with ⟨rfl, rfl⟩ | ⟨e, hq⟩
    · exact hok
    · exact Res.keep (h.ok j q hq) hk fun b o hf hg => h.apart j i q r e hq hi b o hf hg
  · rcases get j p hj with ⟨rfl, rfl⟩ | ⟨e, hp⟩ <;> rcases get k q hk' with ⟨rfl, rfl⟩ | ⟨e', hq⟩
    · exact hjk rfl
    · exact h.apart j k r q hjk hi hq b o (hfp b o (Res.lt (h.ok k q hq) hg) hf) hg
    · exact h.apart j k p r hjk hp hi b o hf (hfp b o (Res.lt (h.ok j p hp) hf) hg)
    · exact h.apart j k p q hjk hp hq b o hf hg
  · rcases get j q hj with ⟨rfl, rfl⟩ | ⟨e, hq⟩
    · exact h.old j r hi b o hb (hfp b o (Nat.lt_of_lt_of_le hb h.keep.size) hf)
    · exact h.old j q hq b o hb hf

theorem Own.nt (h : Own T E S w0 w l) (i : Nat) {n : Nat} {r r' : NRec α} {L L' : Lay} (hi : l[i]? = some (.node n r L)) (t : NTurn T E w n r L w' r' L') : Own T E S w0 w' (l.set i (.node n r' L')) :=
  h.turn i hi t.keep t.at_ t.fp

theorem Own.calm (h : Own T E S w0 w l) (hk : Keep (fun _ _ => False) w w') : Own T E S w0 w' l :=
  ⟨fun i r hi => Res.keep (h.ok i r hi) hk fun _ _ _ h => h, h.apart, h.keep.trans hk fun _ _ _ h => h.elim, h.old⟩
theorem Own.dr (h : Own T E S w0 w l) : Own T E S w0 w.drew l := h.calm (Keep.drew _ _)
theorem Own.drN (h : Own T E S w0 w l) (k : Nat) : Own T E S w0 (w.drewN k) l := h.calm (Keep.drewN _ _ _)

/-- Something new. -/
theorem Own.add (h : Own T E S w0 w l) (hk : Keep (fun _ _ => False) w w') {r : Res α} (hr : r.ok T E w') (hnew : ∀ b o, r.fp T b o → w.heap.size ≤ b) : Own T E S w0 w' (l ++ [r]) := by
  have get : ∀ j q, (l ++ [r])[j]? = some q → (j < l.length ∧ l[j]? = some q) ∨ (j = l.length ∧ q = r) := fun j q hj => by
    rw [List.getElem?_append] at hj
    split at hj
    · rename_i e; exact .inl ⟨e, hj⟩
    · rename_i e
      have : j - l.length = 0 := by
        cases e2 : j - l.length with
        | zero => rfl
        | succ k => rw [e2] at hj; simp at hj
      rw [this] at hj
      exact .inr ⟨by omega, (Option.some.inj hj).symm⟩
  refine ⟨fun j q hj => ?_, fun j k p q hjk hj hk' b o hf hg => ?_, h.keep.trans hk fun _ _ _ h => h.elim, fun j q hj b o hb hf => ?_⟩
  · rcases get j q hj with ⟨_, hq⟩ | ⟨_, rfl⟩
    · exact Res.keep (h.ok j q hq) hk fun _ _ _ h => h
    · exact hr
  · rcases get j p hj with ⟨_, hp⟩ | ⟨e, rfl⟩ <;> rcases get k q hk' with ⟨_, hq⟩ | ⟨e', rfl⟩
    · exact h.apart j k p q hjk hp hq b o hf hg
    · have := hnew b o hg; have := Res.lt (h.ok j p hp) hf; omega
    · have := hnew b o hf; have := Res.lt (h.ok k q hq) hg; omega
    · omega
  · rcases get j q hj with ⟨_, hq⟩ | ⟨_, rfl⟩
    · exact h.old j q hq b o hb hf
    · have := hnew b o hf; have := h.keep.size; omega

theorem Own.alloc (h : Own T E S w0 w l) (cs : Array Value) (ty : TypeId) : Own T E S w0 (w.alloc (.cells cs ty)) (l ++ [.blk w.heap.size cs ty]) :=
  h.add (Keep.alloc _ _ _) (heap_alloc_new w _) (by rintro b o rfl; exact Nat.le_refl _)

theorem Own.set (h : Own T E S w0 w l) (i : Nat) {b : Nat} {cs : Array Value} {ty : TypeId} (hi : l[i]? = some (.blk b cs ty)) (o : Nat) (v : Value) : Own T E S w0 (w.setCell ⟨b, o, none⟩ v) (l.set i (.blk b (cs.setIfInBounds o v) ty)) :=
  h.turn i hi ((Keep.refl _ _).set _ _ _ fun _ => rfl) (blk_set v (h.ok i _ hi)) fun _ _ _ h => h

/-- Some of what is owned. -/
theorem Own.sub (h : Own T E S w0 w l) {l' : List (Res α)} (f : Nat → Nat) (hf : ∀ i r, l'[i]? = some r → l[f i]? = some r) (inj : ∀ i j, f i = f j → i = j) : Own T E S w0 w l' :=
  ⟨fun i r hi => h.ok _ r (hf i r hi), fun i j r q hij hi hj => h.apart _ _ r q (fun e => hij (inj i j e)) (hf i r hi) (hf j q hj), h.keep, fun i r hi => h.old _ r (hf i r hi)⟩

theorem Own.blk_ (h : Own T E S w0 w l) (i : Nat) {b : Nat} {cs : Array Value} {ty : TypeId} (hi : l[i]? = some (.blk b cs ty)) : w.heap[b]? = some (.cells cs ty (0, 0)) := h.ok i _ hi
theorem Own.node_ (h : Own T E S w0 w l) (i : Nat) {n : Nat} {r : NRec α} {L : Lay} (hi : l[i]? = some (.node n r L)) : NodeAt T E w n r L := h.ok i _ hi

/-- The nodes ps. -/
def nodesOf (L : Nat → Lay) (ps : List (Nat × NRec α)) : List (Res α) := ps.map fun p => .node p.1 p.2 (L p.1)
theorem Own.of_mem {H : Store α} {L : Nat → Lay} (hm : Mem T E w H L) (ps : List (Nat × NRec α)) (hp : ∀ p ∈ ps, H p.1 = some p.2) (nd : (ps.map (·.1)).Nodup) : Own T E (FP T H L (ps.map (·.1))) w w (nodesOf L ps) := by
  have get : ∀ (i : Nat) (r : Res α), (nodesOf L ps)[i]? = some r → ∃ p, ps[i]? = some p ∧ r = .node p.1 p.2 (L p.1) := fun i r hi => by
    simp only [nodesOf, List.getElem?_map, Option.map_eq_some_iff] at hi
    obtain ⟨p, h1, rfl⟩ := hi
    exact ⟨p, h1, rfl⟩
  refine ⟨fun i r hi => ?_, fun i j r q hij hi hj b o hf hg => ?_, Keep.refl _ _, fun i r hi b o _ hf => ?_⟩
  · obtain ⟨p, h1, rfl⟩ := get i r hi
    exact hm.at_ _ _ (hp p (List.mem_of_getElem? h1))
  · obtain ⟨p, h1, rfl⟩ := get i r hi
    obtain ⟨q', h2, rfl⟩ := get j q hj
    refine hm.sep p.1 q'.1 p.2 q'.2 (fun e => hij ?_) (hp p (List.mem_of_getElem? h1)) (hp q' (List.mem_of_getElem? h2)) b o hf hg
    have e1 : (ps.map (·.1))[i]? = some p.1 := by simp [h1]
    have e2 : (ps.map (·.1))[j]? = some p.1 := by simp [h2, e]
    obtain ⟨l1, g1⟩ := List.getElem?_eq_some_iff.1 e1
    obtain ⟨l2, g2⟩ := List.getElem?_eq_some_iff.1 e2
    rcases Nat.lt_trichotomy i j with h | h | h
    · exact absurd (g1.trans g2.symm) (List.pairwise_iff_getElem.1 nd i j l1 l2 h)
    · exact h
    · exact absurd (g2.trans g1.symm) (List.pairwise_iff_getElem.1 nd j i l2 l1 h)
  · obtain ⟨p, h1, rfl⟩ := get i r hi
    exact ⟨p.1, p.2, List.mem_map.2 ⟨p, List.mem_of_getElem? h1, rfl⟩, hp p (List.mem_of_getElem? h1), hf⟩

/-- THE STEP that a walk has made: the nodes of F have become those of F', which it owns. -/
theorem Own.step {H H' : Store α} {L L' : Nat → Lay} {F F' : List Nat} (hm : Mem T E w0 H L) (h : Own T E (FP T H L F) w0 w l)
    (hout : ∀ m, m ∉ F → m ∉ F' → H' m = H m ∧ L' m = L m)
    (hold : ∀ m, m ∈ F' → m ∉ F → w0.heap.size ≤ m)
    (hgone : ∀ m, m ∈ F → m ∉ F' → H' m = none)
    (hin : ∀ m r, m ∈ F' → H' m = some r → ∃ i : Nat, l[i]? = some (Res.node m r (L' m))) : Step T E w0 H L F w H' L' F' := by
  refine Step.mk' hm h.keep hout (fun m h1 h2 => ?_) hgone (fun m h1 => ?_) (fun m r h1 h2 => ?_) (fun m r b o h1 h2 hb hf => ?_) (fun a b p q ha hb hab hp hq x o hf hg => ?_)
  · cases hq : H m with
    | none => rfl
    | some q => have := hm.lt hq; have := hold m h1 h2; omega
  · by_cases h2 : m ∈ F
    · exact .inl h2
    · exact .inr (hold m h1 h2)
  · obtain ⟨i, hi⟩ := hin m r h1 h2
    exact h.ok i _ hi
  · obtain ⟨i, hi⟩ := hin m r h1 h2
    exact h.old i _ hi b o hb hf
  · obtain ⟨i, hi⟩ := hin a p ha hp
    obtain ⟨j, hj⟩ := hin b q hb hq
    refine h.apart i j _ _ (fun e => ?_) hi hj x o hf hg
    subst e
    rw [hi] at hj
    exact hab (Res.node.inj (Option.some.inj hj)).1
end Go.Wb

namespace Go.Wb
open Go Go.RowKit
variable {α : Type} {T : Ty} {E : Enc α}

/-- A step of nodes beside which cells X turn, too. -/
structure TStep (T : Ty) (E : Enc α) (X : Nat → Nat → Prop) (w : World) (H : Store α) (L : Nat → Lay) (F : List Nat) (w' : World) (H' : Store α) (L' : Nat → Lay) (F' : List Nat) : Prop where
  mem : Mem T E w' H' L'
  keep : Keep (fun b o => FP T H L F b o ∨ X b o) w w'
  out : ∀ m, m ∉ F → ∀ r, H m = some r → H' m = some r ∧ L' m = L m
  new : ∀ m, m ∈ F' → m ∈ F ∨ w.heap.size ≤ m
  fp : ∀ b o, b < w.heap.size → FP T H' L' F' b o → FP T H L F b o
  only : ∀ m r, H' m = some r → m ∈ F' ∨ (m ∉ F ∧ H m = some r ∧ L' m = L m)

variable {X : Nat → Nat → Prop} {w w1 w2 : World} {H H1 H2 : Store α} {L L1 L2 : Nat → Lay} {F F1 F2 : List Nat}

theorem Step.t (h : Step T E w H L F w1 H1 L1 F1) (X : Nat → Nat → Prop) : TStep T E X w H L F w1 H1 L1 F1 :=
  ⟨h.mem, h.keep.mono fun _ _ _ h => .inl h, h.out, h.new, h.fp, h.only⟩
theorem TStep.refl (h : Mem T E w H L) (X : Nat → Nat → Prop) (F : List Nat) : TStep T E X w H L F w H L F := (Step.refl h F).t X

theorem TStep.trans (h : TStep T E X w H L F w1 H1 L1 F1) (k : TStep T E X w1 H1 L1 F1 w2 H2 L2 F2) (hin : ∀ m r, m ∈ F1 → H m = some r → m ∈ F) : TStep T E X w H L F w2 H2 L2 F2 := by
  refine ⟨k.mem, h.keep.trans k.keep fun b o hb hf => hf.imp (h.fp b o hb) id, fun m hm r hr => ?_, fun m hm => ?_, fun b o hb hf => ?_, fun m r hr => ?_⟩
  · obtain ⟨h1, h2⟩ := h.out m hm r hr
    obtain ⟨h3, h4⟩ := k.out m (fun hm1 => hm (hin m r hm1 hr)) r h1
    exact ⟨h3, h4.trans h2⟩
  · rcases k.new m hm with h1 | h1
    · exact h.new m h1
    · exact .inr (Nat.le_trans h.keep.size h1)
  · exact h.fp b o hb (k.fp b o (Nat.lt_of_lt_of_le hb h.keep.size) hf)
  · rcases k.only m r hr with h1 | ⟨h1, h2, h3⟩
    · exact .inl h1
    · rcases h.only m r h2 with h4 | ⟨h4, h5, h6⟩
      · exact absurd h4 h1
      · exact .inr ⟨h4, h5, h3.trans h6⟩

/-- What is new in F1 isn't a node of H. -/
theorem TStep.hin (hm : Mem T E w H L) (h : TStep T E X w H L F w1 H1 L1 F1) : ∀ m r, m ∈ F1 → H m = some r → m ∈ F := fun m r h1 h2 => by
  rcases h.new m h1 with h3 | h3
  · exact h3
  · have := hm.lt h2; omega
theorem TStep.then (hm : Mem T E w H L) (h : TStep T E X w H L F w1 H1 L1 F1) (k : TStep T E X w1 H1 L1 F1 w2 H2 L2 F2) : TStep T E X w H L F w2 H2 L2 F2 := h.trans k (h.hin hm)

/-- Behind it only cells Y turn, which are no node's. -/
theorem TStep.post (h : TStep T E X w H L F w1 H1 L1 F1) {Y : Nat → Nat → Prop} (hk : Keep Y w1 w2) (hY : ∀ b o, b < w.heap.size → Y b o → X b o) (hd : ∀ m q, H1 m = some q → ∀ b o, Wb.fp T m q (L1 m) b o → ¬ Y b o) : TStep T E X w H L F w2 H1 L1 F1 :=
  ⟨h.mem.keepS hk fun n r b o hr hf => hd n r hr b o hf, h.keep.trans hk fun b o hb hx => .inr (hY b o hb hx), h.out, h.new, h.fp, h.only⟩
theorem TStep.pre {w0 : World} (hk : Keep (fun _ _ => False) w0 w) (h : TStep T E X w H L F w1 H1 L1 F1) : TStep T E X w0 H L F w1 H1 L1 F1 :=
  ⟨h.mem, (hk.mono fun _ _ _ h => h.elim).trans h.keep fun _ _ _ h => h, h.out, fun m hm => (h.new m hm).imp id fun h1 => Nat.le_trans hk.size h1, fun b o hb hf => h.fp b o (Nat.lt_of_lt_of_le hb hk.size) hf, h.only⟩
/-- What came between w0 and w is no node's. -/
theorem TStep.clear {w0 : World} (hm0 : Mem T E w0 H L) (_hk : Keep (fun _ _ => False) w0 w) (h : TStep T E X w H L F w1 H1 L1 F1) : ∀ m q, H1 m = some q → ∀ b o, Wb.fp T m q (L1 m) b o → ¬ (w0.heap.size ≤ b ∧ b < w.heap.size) := fun m q hq b o hf ⟨h1, h2⟩ => by
  rcases h.only m q hq with hF | ⟨_, h4, h5⟩
  · obtain ⟨k, p, _, hp, hfp⟩ := h.fp b o h2 ⟨m, q, hF, hq, hf⟩
    have := (hm0.at_ k p hp).lt hfp
    omega
  · rw [h5] at hf
    have := (hm0.at_ m q h4).lt hf
    omega
theorem TStep.widen (h : TStep T E X w H L F w1 H1 L1 F1) {Y : Nat → Nat → Prop} (hY : ∀ b o, b < w.heap.size → X b o → Y b o) : TStep T E Y w H L F w1 H1 L1 F1 :=
  ⟨h.mem, h.keep.mono fun b o hb hx => hx.imp id (hY b o hb), h.out, h.new, h.fp, h.only⟩
/-- A block that is there and no node's is kept. -/
theorem TStep.blk (h : TStep T E X w H L F w1 H1 L1 F1) (_hm : Mem T E w H L) {b : Nat} {ob : Obj} (hb : w.heap[b]? = some ob) (hX : ∀ o, ¬ X b o) (hn : ∀ m q o, H m = some q → ¬ Wb.fp T m q (L m) b o) : w1.heap[b]? = some ob :=
  blk_keep hb h.keep fun o hf => hf.elim (fun ⟨m, q, _, hq, hf⟩ => hn m q o hq hf) (hX o)
end Go.Wb

namespace Go.Wb
open Go Go.RowKit
variable {α : Type} {T : Ty} {E : Enc α}

theorem Own.one {S : Nat → Nat → Prop} {w : World} {r : Res α} (h : r.ok T E w) (hS : ∀ b o, r.fp T b o → S b o) : Own T E S w w [r] := by
  have get : ∀ (i : Nat) (q : Res α), ([r] : List (Res α))[i]? = some q → i = 0 ∧ q = r := fun i q hi => by
    cases i with
    | zero => exact ⟨rfl, (Option.some.inj hi).symm⟩
    | succ i => simp at hi
  exact ⟨fun i q hi => (get i q hi).2 ▸ h, fun i j p q hij hi hj => absurd ((get i p hi).1.trans (get j q hj).1.symm) hij, Keep.refl _ _, fun i q hi b o _ hf => hS b o ((get i q hi).2 ▸ hf)⟩

/-- The step that a walk has made, beside cells X. -/
theorem Own.tstep {X : Nat → Nat → Prop} {w0 w : World} {l : List (Res α)} {H H' : Store α} {L L' : Nat → Lay} {F F' : List Nat} (hm : Mem T E w0 H L) (h : Own T E (fun b o => FP T H L F b o ∨ X b o) w0 w l)
    (hX : ∀ m r b o, H m = some r → Wb.fp T m r (L m) b o → ¬ X b o)
    (hX' : ∀ m r b o, m ∈ F' → H' m = some r → Wb.fp T m r (L' m) b o → ¬ X b o)
    (hout : ∀ m, m ∉ F → m ∉ F' → H' m = H m ∧ L' m = L m)
    (hold : ∀ m, m ∈ F' → m ∉ F → w0.heap.size ≤ m)
    (hgone : ∀ m, m ∈ F → m ∉ F' → H' m = none)
    (hin : ∀ m r, m ∈ F' → H' m = some r → ∃ i : Nat, l[i]? = some (Res.node m r (L' m))) : TStep T E X w0 H L F w H' L' F' := by
  have old : ∀ m r, m ∉ F' → H' m = some r → m ∉ F ∧ H m = some r ∧ L' m = L m := fun m r hmF hr => by
    have h1 : m ∉ F := fun h => by rw [hgone m h hmF] at hr; cases hr
    obtain ⟨h2, h3⟩ := hout m h1 hmF
    exact ⟨h1, h2 ▸ hr, h3⟩
  have own : ∀ m r b o, m ∈ F' → H' m = some r → b < w0.heap.size → Wb.fp T m r (L' m) b o → FP T H L F b o := fun m r b o h1 h2 hb hf => by
    obtain ⟨i, hi⟩ := hin m r h1 h2
    exact (h.old i _ hi b o hb hf).resolve_right (hX' m r b o h1 h2 hf)
  have cross : ∀ n m r q, n ∈ F' → m ∉ F' → H' n = some r → H' m = some q → ∀ b o, Wb.fp T n r (L' n) b o → Wb.fp T m q (L' m) b o → False := fun n m r q hn hmF hr hq b o hf1 hf2 => by
    obtain ⟨h1, h2, h3⟩ := old m q hmF hq
    rw [h3] at hf2
    obtain ⟨k, x, hkF, hx, hfx⟩ := own n r b o hn hr ((hm.at_ m q h2).lt hf2) hf1
    exact hm.sep k m x q (fun e => h1 (e ▸ hkF)) hx h2 b o hfx hf2
  refine ⟨⟨fun n r hr => ?_, fun n m r q hne hr hq b o hf1 hf2 => ?_⟩, h.keep, fun m hmF r hr => ?_, fun m h1 => (Classical.em (m ∈ F)).imp id (hold m h1), fun b o hb ⟨n, r, hn, hr, hf⟩ => own n r b o hn hr hb hf, fun m r hr => (Classical.em (m ∈ F')).imp id fun h => old m r h hr⟩
  · by_cases hn : n ∈ F'
    · obtain ⟨i, hi⟩ := hin n r hn hr
      exact h.ok i _ hi
    · obtain ⟨h1, h2, h3⟩ := old n r hn hr
      rw [h3]
      refine (hm.at_ n r h2).keep h.keep fun b o hf hs => ?_
      rcases hs with ⟨k, x, hkF, hx, hfx⟩ | hx
      · exact hm.sep k n x r (fun e => h1 (e ▸ hkF)) hx h2 b o hfx hf
      · exact hX n r b o h2 hf hx
  · by_cases hn : n ∈ F' <;> by_cases hmF : m ∈ F'
    · obtain ⟨i, hi⟩ := hin n r hn hr
      obtain ⟨j, hj⟩ := hin m q hmF hq
      refine h.apart i j _ _ (fun e => ?_) hi hj b o hf1 hf2
      subst e
      rw [hi] at hj
      exact hne (Res.node.inj (Option.some.inj hj)).1
    · exact cross n m r q hn hmF hr hq b o hf1 hf2
    · exact cross m n q r hmF hn hq hr b o hf2 hf1
    · obtain ⟨h1, h2, h3⟩ := old n r hn hr
      obtain ⟨h4, h5, h6⟩ := old m q hmF hq
      rw [h3] at hf1
      rw [h6] at hf2
      exact hm.sep n m r q hne h2 h5 b o hf1 hf2
  · by_cases h1 : m ∈ F'
    · have := hold m h1 hmF; have := hm.lt hr; omega
    · obtain ⟨h2, h3⟩ := hout m hmF h1
      exact ⟨h2.trans hr, h3⟩

theorem TStep.frame {X : Nat → Nat → Prop} {w w' : World} {H H' : Store α} {L L' : Nat → Lay} {F F' : List Nat}
    (h : TStep T E X w H L F w' H' L' F') (A B : List Nat) (hA : ∀ m, m ∈ A ++ B → m ∉ F ∧ ∃ r, H m = some r) : TStep T E X w H L (A ++ F ++ B) w' H' L' (A ++ F' ++ B) := by
  refine ⟨h.mem, h.keep.mono fun b o _ hf => hf.imp (fun ⟨n, r, hn, hr, hf⟩ => ⟨n, r, by simp [hn], hr, hf⟩) id, fun m hm r hr => h.out m (fun hf => hm (by simp [hf])) r hr, fun m hm => ?_, fun b o hb hf => ?_, fun m r hr => ?_⟩
  · simp only [List.mem_append] at hm ⊢
    rcases hm with (hm | hm) | hm
    · exact .inl (.inl (.inl hm))
    · rcases h.new m hm with h1 | h1
      · exact .inl (.inl (.inr h1))
      · exact .inr h1
    · exact .inl (.inr hm)
  · obtain ⟨n, r, hn, hr, hf⟩ := hf
    by_cases hAB : n ∈ A ++ B
    · obtain ⟨h1, q, hq⟩ := hA n hAB
      obtain ⟨h2, h3⟩ := h.out n h1 q hq
      rw [h2] at hr
      cases hr
      rw [h3] at hf
      exact ⟨n, r, by simp only [List.mem_append] at hAB ⊢; rcases hAB with h | h <;> simp [h], hq, hf⟩
    · have : n ∈ F' := by
        simp only [List.mem_append] at hn hAB
        rcases hn with (hn | hn) | hn
        · exact absurd (.inl hn) hAB
        · exact hn
        · exact absurd (.inr hn) hAB
      obtain ⟨m, q, hm, hq, hfm⟩ := h.fp b o hb ⟨n, r, this, hr, hf⟩
      exact ⟨m, q, by simp [hm], hq, hfm⟩
  · rcases h.only m r hr with h1 | ⟨h1, h2, h3⟩
    · exact .inl (by simp [h1])
    · by_cases hAB : m ∈ A ++ B
      · exact .inl (by simp only [List.mem_append] at hAB ⊢; rcases hAB with h | h <;> simp [h])
      · exact .inr ⟨by simp only [List.mem_append, not_or] at hAB ⊢; exact ⟨⟨hAB.1, h1⟩, hAB.2⟩, h2, h3⟩
theorem TStep.same {X : Nat → Nat → Prop} {w w' : World} {H H' : Store α} {L L' : Nat → Lay} {F F' G' : List Nat} (h : TStep T E X w H L F w' H' L' F') (e : ∀ m, m ∈ G' ↔ m ∈ F') : TStep T E X w H L F w' H' L' G' :=
  ⟨h.mem, h.keep, h.out, fun m hm => h.new m ((e m).1 hm), fun b o hb ⟨n, r, hn, hr, hf⟩ => h.fp b o hb ⟨n, r, (e n).1 hn, hr, hf⟩, fun m r hr => (h.only m r hr).imp (e m).2 id⟩
/-- What F is where it begins, no order. -/
theorem TStep.same0 {X : Nat → Nat → Prop} {w w' : World} {H H' : Store α} {L L' : Nat → Lay} {F F' G : List Nat} (h : TStep T E X w H L F w' H' L' F') (e : ∀ m, m ∈ G ↔ m ∈ F) : TStep T E X w H L G w' H' L' F' :=
  ⟨h.mem, h.keep.mono fun b o _ hf => hf.imp (fun ⟨n, r, hn, hr, hf⟩ => ⟨n, r, (e n).2 hn, hr, hf⟩) id, fun m hm => h.out m fun h => hm ((e m).2 h), fun m hm => (h.new m hm).imp (e m).2 id, fun b o hb hf => by
    obtain ⟨n, r, hn, hr, hf⟩ := h.fp b o hb hf
    exact ⟨n, r, (e n).2 hn, hr, hf⟩, fun m r hr => (h.only m r hr).imp id fun ⟨h1, h2⟩ => ⟨fun h => h1 ((e m).1 h), h2⟩⟩

/-- What is owned is apart from what turns. -/
theorem Own.away {S K : Nat → Nat → Prop} {w0 w w' : World} {l : List (Res α)} (h : Own T E S w0 w l) (hk : Keep K w w') (hK : ∀ (i : Nat) (r : Res α), l[i]? = some r → ∀ b o, r.fp T b o → ¬ K b o) (hS : ∀ b o, b < w0.heap.size → K b o → S b o) : Own T E S w0 w' l :=
  ⟨fun i r hi => Res.keep (h.ok i r hi) hk (hK i r hi), h.apart, h.keep.trans hk hS, h.old⟩

/-- An empty slice in a block of its own. -/
theorem Row.empty {w : World} {ty s k : Nat} (h : w.heap[k]? = some (.cells #[] ty (0, 0))) : Row w ty s (some ⟨k, 0, none⟩) 0 [] :=
  .inr ⟨k, 0, #[], rfl, h, by simp, by simp, by simp⟩
/-- A row that is a whole block. -/
theorem Row.whole {w : World} {ty s k n : Nat} {cs : Array Value} (h : w.heap[k]? = some (.cells cs ty (0, 0))) (hn : cs.size = n * s) {l : List Value} (hl : cs.toList = l) : Row w ty s (some ⟨k, 0, none⟩) n l := by
  subst hl
  refine .inr ⟨k, 0, cs, rfl, h, by simp [hn], by simp [hn], fun i v hi => ?_⟩
  simpa using hi
theorem blk_two {w : World} {k : Nat} {o : Obj} (p : Obj) (h : w.heap.size = k) : ((w.alloc o).alloc p).heap[k]? = some o := by
  subst h; exact blk_alloc p (heap_alloc_new w o)

/-- n.items = append([]T{}, x..): whatever the items were. -/
theorem nt_fresh (ok : TyOk T) {w w0 w1 : World} {n : Nat} {r : NRec α} {L : Lay} (h : NodeAt T E w n r L) {its : List α} {a : Option Addr} {cap : Nat} (hk : Keep (fun _ _ => False) w w0) (hk1 : Keep (fun b _ => w.heap.size ≤ b) w0 w1) (hrow : Row w1 T.pair T.s a cap (E.all its)) (hle : its.length ≤ cap)
    (hfp : ∀ b o, rowFp a (cap * T.s) b o → w.heap.size ≤ b) :
    NTurn T E w n r L (w1.setCell ⟨n, 2, none⟩ (.slice a its.length cap)) { r with items := its } { L with ia := a, icap := cap } :=
  nt_items ok h ((hk.mono fun _ _ _ h => h.elim : Keep _ w w0).trans hk1 fun b o hb hf => absurd hf (by omega)) hrow hle fun b o hb hf => absurd (hfp b o hf) (by omega)
theorem nk_fresh (ok : TyOk T) {w w0 w1 : World} {n : Nat} {r : NRec α} {L : Lay} (h : NodeAt T E w n r L) {ks : List Nat} (hks : r.kids = some ks) {new : List Nat} {a : Option Addr} {cap : Nat} (hk : Keep (fun _ _ => False) w w0) (hk1 : Keep (fun b _ => w.heap.size ≤ b) w0 w1) (hrow : Row w1 T.nodeP 1 a cap (new.map ptr)) (hle : new.length ≤ cap)
    (hfp : ∀ b o, rowFp a cap b o → w.heap.size ≤ b) :
    NTurn T E w n r L (w1.setCell ⟨L.cb, 0, none⟩ (.slice a new.length cap)) { r with kids := some new } { L with ka := a, kcap := cap } :=
  nt_kids ok h hks ((hk.mono fun _ _ _ h => h.elim : Keep _ w w0).trans hk1 fun b o hb hf => absurd hf (by omega)) hrow hle fun b o hb hf => absurd (hfp b o hf) (by omega)
/-- What an append to an empty slice of a new block leaves. -/
theorem Grew.new {w w' : World} {ty s k m cap' : Nat} {a' : Option Addr} {cs : List Value} (h : Grew w w' ty s (some ⟨k, 0, none⟩) a' 0 m 0 cap' cs) {B : Nat} (hk : B ≤ w.heap.size) : Keep (fun b _ => B ≤ b) w w' ∧ ∀ b o, rowFp a' (cap' * s) b o → B ≤ b := by
  refine ⟨h.keep.mono fun b o _ ⟨x, y, e1, e2, e3, e4⟩ => ?_, fun b o hf => ?_⟩
  · omega
  · rcases h.fp b o hf with ⟨x, y, e1, e2, e3, e4⟩ | ⟨e, _⟩
    · omega
    · omega
theorem Grew.calm {w w' : World} {ty s m cap' : Nat} {a a' : Option Addr} {cs : List Value} (h : Grew w w' ty s a a' 0 m 0 cap' cs) : Keep (fun _ _ => False) w w' :=
  h.keep.mono fun b o _ ⟨x, y, e1, e2, e3, e4⟩ => by omega
/-- An append to an empty slice, some calm operations behind w. -/
theorem Grew.fresh {w w0 w' : World} {ty s m cap' : Nat} {a a' : Option Addr} {cs : List Value} (h : Grew w0 w' ty s a a' 0 m 0 cap' cs) (hk : Keep (fun _ _ => False) w w0) : Keep (fun b _ => w.heap.size ≤ b) w w' ∧ ∀ b o, rowFp a' (cap' * s) b o → w.heap.size ≤ b := by
  refine ⟨(hk.trans h.calm fun _ _ _ h => h).mono fun _ _ _ h => h.elim, fun b o hf => ?_⟩
  rcases h.fp b o hf with ⟨x, y, e1, e2, e3, e4⟩ | ⟨e, _⟩
  · omega
  · have := hk.size; omega
theorem cell_al {w : World} {b o : Nat} {v : Value} (ob : Obj) (h : w.cell? ⟨b, o, none⟩ = some v) : (w.alloc ob).cell? ⟨b, o, none⟩ = some v := (Keep.alloc (fun _ _ => False) w ob).cell' h fun h => h
theorem cell_grew {w w' : World} {ty s m cap' : Nat} {a a' : Option Addr} {cs : List Value} (hg : Grew w w' ty s a a' 0 m 0 cap' cs) {b o : Nat} {v : Value} (h : w.cell? ⟨b, o, none⟩ = some v) : w'.cell? ⟨b, o, none⟩ = some v := hg.calm.cell' h fun h => h
theorem fz_al {w : World} {b o : Nat} (ob : Obj) (hb : b < w.heap.size) (h : w.frozen? ⟨b, o, none⟩ = false) : b < (w.alloc ob).heap.size ∧ (w.alloc ob).frozen? ⟨b, o, none⟩ = false := ⟨by simp; omega, by rw [← h]; exact (Keep.alloc (fun _ _ => False) w ob).frozen hb⟩
theorem fz_grew {w w' : World} {ty s m cap' : Nat} {a a' : Option Addr} {cs : List Value} (hg : Grew w w' ty s a a' 0 m 0 cap' cs) {b o : Nat} (hb : b < w.heap.size) (h : w.frozen? ⟨b, o, none⟩ = false) : b < w'.heap.size ∧ w'.frozen? ⟨b, o, none⟩ = false := ⟨Nat.lt_of_lt_of_le hb hg.calm.size, by rw [← h]; exact hg.calm.frozen hb⟩
/-- A block that is there, cell o of which is v. -/
def Cell (w : World) (b o : Nat) (v : Value) : Prop := w.cell? ⟨b, o, none⟩ = some v ∧ b < w.heap.size ∧ w.frozen? ⟨b, o, none⟩ = false
theorem cell_set {w : World} {b o b' o' : Nat} {v u : Value} (hb : b ≠ b') (h : w.cell? ⟨b, o, none⟩ = some v) : (w.setCell ⟨b', o', none⟩ u).cell? ⟨b, o, none⟩ = some v :=
  (Keep.setCell (S := fun x _ => x = b') w b' o' u fun _ => rfl).cell' h hb
theorem blk_last {w : World} {k : Nat} {o p : Obj} (h : (w.alloc o).heap.size = k) : ((w.alloc o).alloc p).heap[k]? = some p := by
  subst h; exact heap_alloc_new _ p
/-- make([]T, l, c) -/
theorem run_make0 {P : Program} (t e s b : Nat) (ht : P.underlying t = some (.slice e)) (he : Elem P e s b) (l c : Nat) (hlc : l ≤ c) (hb : b * c ≤ 281474976710656) (h63 : c ≤ 9223372036854775807) :
    ∃ cs : Array Value, cs.size = c * s ∧ ∀ w, (Instr.makeSlice t (.int .i64 (l : Int)) (.int .i64 (c : Int))).run P w = .ok (.slice (some ⟨w.heap.size, 0, none⟩) l c) (w.alloc (.cells cs e)) := by
  obtain ⟨h2, h3, h4⟩ := he
  cases hi : P.info? e with
  | none => rw [hi] at h2; cases h2
  | some i =>
    rw [hi] at h2 h3 h4
    simp only [Option.map_some, Option.some.injEq, Option.bind_some] at h2 h3 h4
    subst h2
    subst h3
    cases hz : i.zero with
    | none => rw [hz] at h4; cases h4
    | some z =>
      refine ⟨madeCells z.cells (c * i.size), size_madeCells _ _, fun w => ?_⟩
      have := run_make (P := P) w t e i z ht hi hz .i64 .i64 l c (by omega) (by omega) (by
        have h : ((i.bytes * c : Nat) : Int) ≤ 281474976710656 := by omega
        rwa [Int.natCast_mul] at h) (by omega)
      simpa using this
end Go.Wb

namespace Go.Wb
open Go Go.RowKit
variable {α : Type} {T : Ty} {E : Enc α}

theorem Step.same0 {w w' : World} {H H' : Store α} {L L' : Nat → Lay} {F F' G : List Nat} (h : Step T E w H L F w' H' L' F') (e : ∀ m, m ∈ G ↔ m ∈ F) : Step T E w H L G w' H' L' F' :=
  ⟨h.mem, h.keep.mono fun b o _ ⟨n, r, hn, hr, hf⟩ => ⟨n, r, (e n).2 hn, hr, hf⟩, fun m hm => h.out m fun h => hm ((e m).2 h), fun m hm => (h.new m hm).imp (e m).2 id, fun b o hb hf => by
    obtain ⟨n, r, hn, hr, hf⟩ := h.fp b o hb hf
    exact ⟨n, r, (e n).2 hn, hr, hf⟩, fun m r hr => (h.only m r hr).imp id fun ⟨h1, h2⟩ => ⟨fun h => h1 ((e m).1 h), h2⟩⟩

def mkids (x y : Option (List Nat)) : Option (List Nat) := x.map (· ++ y.getD [])
/-- The record of two nodes and the item between them. -/
def mrec (ra : NRec α) (m : α) (rb : NRec α) : NRec α := ⟨ra.iso, ra.cnt + rb.cnt + 1, ra.items ++ m :: rb.items, mkids ra.kids rb.kids⟩

theorem Rep.merge {H : Store α} {c : Int} {h a d : Nat} {ta tb : Tr α} {Fa Fb : List Nat} {mn mx : Nat} (ba : body mn mx h ta) (bb : body mn mx h tb) (Ra : Rep H c h a ta Fa) (Rb : Rep H c h d tb Fb) (nd : (Fa ++ Fb).Nodup) {ra rb : NRec α} (ha : H a = some ra) (hb : H d = some rb) (m : α) :
    ∃ Ga Gb, Fa = a :: Ga ∧ Fb = d :: Gb ∧ Rep (upd H a (some (mrec ra m rb))) c h a (mergeT ta m tb) (a :: (Ga ++ Gb)) := by
  have hfl := flat_merge (m := m) ba bb
  cases h with
  | zero =>
    obtain ⟨q, h1, h2, h3, h4, h5, h6, rfl⟩ := Ra
    obtain ⟨q', k1, k2, k3, k4, k5, k6, rfl⟩ := Rb
    rw [ha] at h1
    rw [hb] at k1
    cases h1
    cases k1
    refine ⟨[], [], rfl, rfl, mrec ra m rb, upd_same _ _ _, h2, by simp only [mrec, mergeT, Tr.its, h3, k3], by simp only [mergeT, Tr.ks] at *; simp [h4, k4], by simp [mrec, mkids, h5], ?_, rfl⟩
    rw [hfl]
    simp only [mrec, h6, k6, List.length_append, List.length_cons]
    omega
  | succ h =>
    obtain ⟨q, ns, Ga, h1, h2, h3, h4, h5, h6, rfl⟩ := Ra
    obtain ⟨q', ns', Gb, k1, k2, k3, k4, k5, k6, rfl⟩ := Rb
    rw [ha] at h1
    rw [hb] at k1
    cases h1
    cases k1
    have hn := List.nodup_cons.1 nd
    have o1 : ∀ k, k ∈ Ga → k ≠ a := fun k hk e => hn.1 (by subst e; simp [hk])
    have o2 : ∀ k, k ∈ Gb → k ≠ a := fun k hk e => hn.1 (by subst e; simp [hk])
    have C1 := h6.imp fun x t G hG (hR : Rep H c h x t G) => hR.congr fun k hk => upd_ne _ (some (mrec ra m rb)) (o1 k (hG k hk))
    have C2 := k6.imp fun x t G hG (hR : Rep H c h x t G) => hR.congr fun k hk => upd_ne _ (some (mrec ra m rb)) (o2 k (hG k hk))
    refine ⟨Ga, Gb, rfl, rfl, mrec ra m rb, ns ++ ns', Ga ++ Gb, upd_same _ _ _, h2, by simp only [mrec, mergeT, Tr.its, h3, k3], by simp [mrec, mkids, h4, k4], ?_, RepL.join C2 C1, rfl⟩
    rw [hfl]
    simp only [mrec, h5, k5, List.length_append, List.length_cons]
    omega

theorem Rep.halvesB {H : Store α} {c : Int} {h n : Nat} {t : Tr α} {F : List Nat} {mn mx : Nat} (hr : Rep H c h n t F) (wf : body mn mx h t) (nd : F.Nodup) {r : NRec α} (hn : H n = some r) {m : Nat} (hm : m ∉ F) {i : Nat} (hi : i < t.its.length) :
    ∃ F1 F2, F = n :: (F1 ++ F2) ∧ Rep (upd (upd H n (some (halfL H c r i))) m (some (halfR H c r i))) c h n (cutL i t) (n :: F1) ∧ Rep (upd (upd H n (some (halfL H c r i))) m (some (halfR H c r i))) c h m (cutR i t) (m :: F2) := by
  have hnm : n ≠ m := fun e => hm (e ▸ hr.root.1)
  obtain ⟨its, ks⟩ := t
  simp only [Tr.its] at hi
  cases h with
  | zero =>
    obtain ⟨q, h1, h2, h3, h4, h5, h6, rfl⟩ := hr
    rw [hn] at h1
    cases h1
    simp only [Tr.its, Tr.ks] at *
    subst h3
    subst h4
    refine ⟨[], [], rfl, ⟨halfL H c r i, by rw [upd_ne _ _ hnm, upd_same], rfl, rfl, by simp [cutL, Tr.ks], by simp [halfL, h5], ?_, rfl⟩, ⟨halfR H c r i, upd_same _ _ _, rfl, rfl, by simp [cutR, Tr.ks], by simp [halfR, h5], ?_, rfl⟩⟩
    · simp [halfL, h5, kidSum, flat, cutL, Tr.its]
    · simp [halfR, h5, kidSum, flat, cutR, Tr.its]
  | succ h =>
    obtain ⟨q, ns, F', h1, h2, h3, h4, h5, h6, rfl⟩ := hr
    rw [hn] at h1
    cases h1
    obtain ⟨w3, w4⟩ := wf
    simp only [Tr.its, Tr.ks] at *
    subst h3
    obtain ⟨F1, F2, c1, c2, rfl⟩ := h6.cut (i + 1)
    have hnF := (List.nodup_cons.1 nd).1
    have out : ∀ k, k ∈ F1 ++ F2 → upd (upd H n (some (halfL H c r i))) m (some (halfR H c r i)) k = H k := fun k hk => by
      have e1 : k ≠ n := fun e => hnF (e ▸ hk)
      have e2 : k ≠ m := fun e => hm (List.mem_cons_of_mem _ (e ▸ hk))
      rw [upd_ne _ _ e2, upd_ne _ _ e1]
    have C1 := c1.imp fun a t G hG (hR : Rep H c h a t G) => hR.congr fun k hk => out k (by simp [hG k hk])
    have C2 := c2.imp fun a t G hG (hR : Rep H c h a t G) => hR.congr fun k hk => out k (by simp [hG k hk])
    refine ⟨F1, F2, rfl, ⟨halfL H c r i, ns.take (i + 1), F1, by rw [upd_ne _ _ hnm, upd_same], rfl, rfl, by simp [halfL, h4], ?_, C1, rfl⟩, ⟨halfR H c r i, ns.drop (i + 1), F2, upd_same _ _ _, rfl, rfl, by simp [halfR, h4], ?_, C2, rfl⟩⟩
    · have := count_flat (its := r.items.take i) c1 (by simp; omega)
      simp only [halfL, h4, Option.map_some]
      exact this
    · have := count_flat (its := r.items.drop (i + 1)) c2 (by simp; omega)
      simp only [halfR, h4, Option.map_some]
      exact this

/-- How the records of a node and of two of its children turn, when they are put right. -/
def RebRec (mx i : Nat) (c : Nat → Int) (a : Nat) (N1 N2 : List Nat) (m : α) (r ra rb r' ra' rb' : NRec α) : Prop :=
  (ra.items.length + rb.items.length < mx ∧ r' = { r with items := r.items.take i ++ r.items.drop (i + 1), kids := some (N1 ++ a :: N2) } ∧ ra' = mrec ra m rb) ∨
  mx ≤ ra.items.length + rb.items.length ∧ ∃ j m', j = (if rb.items.length < ra.items.length then ra.items.length - 1 else ra.items.length + 1) ∧ (mrec ra m rb).items[j]? = some m' ∧ r' = { r with items := r.items.set i m' } ∧
    ra' = ⟨ra.iso, ((mrec ra m rb).items.take j).length + kidSum c ((mrec ra m rb).kids.map (List.take (j + 1))), (mrec ra m rb).items.take j, (mrec ra m rb).kids.map (List.take (j + 1))⟩ ∧
    rb' = ⟨rb.iso, ((mrec ra m rb).items.drop (j + 1)).length + kidSum c ((mrec ra m rb).kids.map (List.drop (j + 1))), (mrec ra m rb).items.drop (j + 1), (mrec ra m rb).kids.map (List.drop (j + 1))⟩
end Go.Wb

namespace Go.Proofs.Ytckplcmieelmpaa.S
open Go.RowKit Go.Wb

/-- What is given where two children of a node are put right. -/
structure RebIn (w : World) (b : Nat) (hr : HRec) (S : Nat → Nat → Prop) (n a d : Nat) (r ra rb : NRec It) (L La Lb : Lay) (N1 N2 : List Nat) (i : Nat) (m : It) (mx : Nat) (c : Nat → Int) : Prop where
  hdr : Hdr w b hr
  hmx : hr.mx = (mx : Int)
  hb : mx ≤ 1000000000000
  own : Own TT E S w w [.node n r L, .node a ra La, .node d rb Lb]
  hS : ∀ o, ¬ S b o
  kids : r.kids = some (N1 ++ a :: d :: N2)
  ln : N1.length = i
  item : r.items[i]? = some m
  lr : r.items.length = i + 1 + N2.length
  len : r.items.length ≤ mx
  la : ra.items.length ≤ mx
  lb : rb.items.length ≤ mx
  pos : 3 ≤ mx
  isoa : ra.iso = hr.iso
  isob : rb.iso = hr.iso
  same : (ra.kids = none ∧ rb.kids = none) ∨ ∃ x y, ra.kids = some x ∧ rb.kids = some y ∧ x.length = ra.items.length + 1 ∧ y.length = rb.items.length + 1 ∧
    ∀ k ∈ x ++ y, w.cell? ⟨k, 1, none⟩ = some (.int .i64 (c k)) ∧ (∀ o, ¬ S k o) ∧ 0 ≤ c k ∧ c k ≤ 3000000000000000000
  cnta : ra.cnt = ra.items.length + kidSum c ra.kids
  cntb : rb.cnt = rb.items.length + kidSum c rb.kids
  ca : 0 ≤ ra.cnt
  cb : 0 ≤ rb.cnt
  big : ra.cnt + rb.cnt ≤ 3000000000000000000
def RebW (w : World) (S : Nat → Nat → Prop) (mx i : Nat) (c : Nat → Int) (n a d : Nat) (N1 N2 : List Nat) (m : It) (r ra rb : NRec It) (e : Ending) (w' : World) : Prop :=
  e = .returned (.tuple #[]) ∧ ∃ r' L' ra' La' rb' Lb', RebRec mx i c a N1 N2 m r ra rb r' ra' rb' ∧ Own TT E S w w' [.node n r' L', .node a ra' La', .node d rb' Lb']
def RebRecOK : Prop := ∀ (w : World) (b : Nat) (hr : HRec) (S : Nat → Nat → Prop) (n a d : Nat) (r ra rb : NRec It) (L La Lb : Lay) (N1 N2 : List Nat) (i i0 : Nat) (m : It) (mx : Nat) (c : Nat → Int), RebIn w b hr S n a d r ra rb L La Lb N1 N2 i m mx c → (i0 = i ∨ (i0 = i + 1 ∧ i0 = r.items.length)) →
  Calls Try.prog 201 #[ptr b, ptr n, .int .i64 i0] w (RebW w S mx i c n a d N1 N2 m r ra rb)

theorem kids_body {mn mx h : Nat} {H : Store It} {c : Int} {n : Nat} {t : Tr It} {F : List Nat} (hr : Rep H c h n t F) (hb : body mn mx h t) (nd : F.Nodup) {r : NRec It} (hn : H n = some r) {ks : List Nat} (hk : r.kids = some ks) :
    ks.length = r.items.length + 1 ∧ (∀ k ∈ ks, k ∈ F ∧ k ≠ n ∧ 0 ≤ cntOf H k ∧ ∃ q, H k = some q ∧ q.cnt = cntOf H k) ∧ r.cnt = r.items.length + kidSum (cntOf H) r.kids := by
  cases h with
  | zero =>
    obtain ⟨q, h1, h2, h3, h4, h5, h6, rfl⟩ := hr
    rw [hn] at h1
    cases h1
    rw [h5] at hk
    cases hk
  | succ h =>
    obtain ⟨q, ns, F', h1, h2, h3, h4, h5, h6, rfl⟩ := hr
    rw [hn] at h1
    cases h1
    rw [h4] at hk
    cases hk
    obtain ⟨w3, w4⟩ := hb
    refine ⟨by rw [h6.len, w3, h3], fun k hk => ?_, ?_⟩
    · obtain ⟨t', G, g1, g2⟩ := h6.mem k hk
      obtain ⟨g3, q, g4, _, _, g5⟩ := g1.root
      have hkF := g2 k g3
      refine ⟨List.mem_cons_of_mem _ hkF, fun e => (List.nodup_cons.1 nd).1 (e ▸ hkF), ?_, q, g4, by simp [cntOf, g4]⟩
      simp only [cntOf, g4, g5]
      omega
    · have := count_flat (its := t.its) h6 w3
      obtain ⟨its, kk⟩ := t
      simp only [Tr.its, Tr.ks] at this h3 h5 ⊢
      rw [h5, h4, ← this, h3]
theorem leaf_cnt {H : Store It} {c : Int} {h n : Nat} {t : Tr It} {F : List Nat} (hr : Rep H c h n t F) {r : NRec It} (hn : H n = some r) (hk : r.kids = none) : r.cnt = r.items.length + kidSum (cntOf H) r.kids := by
  cases h with
  | zero =>
    obtain ⟨q, h1, h2, h3, h4, h5, h6, rfl⟩ := hr
    rw [hn] at h1
    cases h1
    simp only [flat] at h6
    rw [h6, h5, h3]
    simp [kidSum]
  | succ h =>
    obtain ⟨q, ns, F', h1, h2, h3, h4, h5, h6, rfl⟩ := hr
    rw [hn] at h1
    cases h1
    rw [hk] at h4
    cases h4
theorem rep_kids {H : Store It} {c : Int} {h n : Nat} {t : Tr It} {F : List Nat} (hr : Rep H c h n t F) {r : NRec It} (hn : H n = some r) : r.kids.isNone = decide (h = 0) := by
  cases h with
  | zero =>
    obtain ⟨q, h1, h2, h3, h4, h5, h6, rfl⟩ := hr
    rw [hn] at h1
    cases h1
    simp [h5]
  | succ h =>
    obtain ⟨q, ns, F', h1, h2, h3, h4, h5, h6, rfl⟩ := hr
    rw [hn] at h1
    cases h1
    simp [h4]

theorem kidSum_congr {c c' : Nat → Int} {ks : Option (List Nat)} (h : ∀ l, ks = some l → ∀ k ∈ l, c k = c' k) : kidSum c ks = kidSum c' ks := by
  cases ks with
  | none => rfl
  | some l =>
    simp only [kidSum]
    congr 1
    exact List.map_congr_left fun k hk => h l rfl k hk

theorem reb_of (RR : RebRecOK) : RebOK := by
  intro w b hr H L h n t F mn mx i0 P
  obtain ⟨hdr, mem, rep, nd, hmx, hb, h3, hmn, pos, le, ne, hks, hi0, kid, big⟩ := P
  obtain ⟨i, hi, hor⟩ : ∃ i, i < t.its.length ∧ (i0 = i ∨ (i0 = i + 1 ∧ i0 = t.its.length)) := by
    by_cases h : i0 = t.its.length
    · exact ⟨i0 - 1, by omega, .inr ⟨by omega, h⟩⟩
    · exact ⟨i0, by omega, .inl rfl⟩
  obtain ⟨r, ns, F', hr1, hiso, hits, hkn, hcnt, hrl, rfl⟩ := rep
  obtain ⟨its, ks⟩ := t
  simp only [Tr.its, Tr.ks] at hi hks hits hkn hrl le ne hi0 hor
  replace kid : ∀ j k, ks[j]? = some k → body mn mx h k ∧ (j = i0 → k.its.length + 1 = mn) ∧ (j ≠ i0 → mn ≤ k.its.length ∧ k.its.length ≤ mx) := kid
  subst hits
  obtain ⟨I1, m, I2, hI, hI1, hm⟩ := split_at r.items i hi
  obtain ⟨K1, ta, K2', rfl, hK1, hka⟩ := split_at ks i (by omega)
  cases K2' with
  | nil => simp at hks; omega
  | cons tb K2 =>
  obtain ⟨N1, a, N2', F1, Fa, F2', rfl, e1, e2, R1, Ra, R2', rfl⟩ := hrl.split
  cases N2' with
  | nil => simp at e2
  | cons d N2 =>
  obtain ⟨Fb, F2, Rb, R2, rfl⟩ := R2'
  have hlI : r.items.length = i + 1 + I2.length := by rw [hI]; simp; omega
  have hK2 : K2.length = I2.length := by simp at hks; omega
  have hN2 : N2.length = I2.length := by simp at e2; omega
  have k1 := kid i ta hka
  have k2 := kid (i + 1) tb (by rw [← hK1, List.getElem?_append_right (by omega)]; simp)
  have ba := k1.1
  have bb := k2.1
  have hnF := List.nodup_cons.1 nd
  obtain ⟨haF, ra, hra, hisoa, hitsa, hcnta⟩ := Ra.root
  obtain ⟨hdF, rb, hrb, hisob, hitsb, hcntb⟩ := Rb.root
  have nd2 := List.nodup_append.1 hnF.2
  have nd1 := List.nodup_append.1 nd2.1
  have nd3 := List.nodup_append.1 nd2.2.1
  have ndab : (Fa ++ Fb).Nodup := List.nodup_append.2 ⟨nd1.2.1, nd3.1, fun x hx y hy e => nd2.2.2 x (by simp [hx]) y (by simp [hy]) e⟩
  obtain ⟨Ga, Gb, rfl, rfl, RM⟩ := Rep.merge ba bb Ra Rb ndab hra hrb m
  have han : a ≠ n := fun e => hnF.1 (by rw [← e]; simp)
  have hdn : d ≠ n := fun e => hnF.1 (by rw [← e]; simp)
  have had : a ≠ d := fun e => (List.nodup_append.1 ndab).2.2 a (by simp) d (by simp) e
  have hfm : flat h (mergeT ta m tb) = flat h ta ++ m :: flat h tb := flat_merge ba bb
  have hml := merge_len ta m tb
  have et : (Tr.node r.items (K1 ++ ta :: tb :: K2)) = .node (I1 ++ m :: I2) (K1 ++ ta :: tb :: K2) := by rw [hI]
  have hflat : flat (h + 1) (.node (I1 ++ m :: I2) (K1 ++ ta :: tb :: K2)) = flat (h + 1) (.node (I1 ++ I2) (K1 ++ mergeT ta m tb :: K2)) := flat_split (by omega) hfm
  have hsub : (flat h (mergeT ta m tb)).length ≤ (flat (h + 1) (Tr.node r.items (K1 ++ ta :: tb :: K2))).length := by
    rw [et, hflat]
    exact flat_child_le (by omega)
  have hmlen : (flat h (mergeT ta m tb)).length = (flat h ta).length + (flat h tb).length + 1 := by rw [hfm]; simp; omega
  have la : ta.its.length ≤ mx := by
    by_cases e : i = i0
    · have := k1.2.1 e; omega
    · exact (k1.2.2 e).2
  have lb : tb.its.length ≤ mx := by
    by_cases e : i + 1 = i0
    · have := k2.2.1 e; omega
    · exact (k2.2.2 e).2
  have old : ∀ k, k ∈ n :: (F1 ++ a :: Ga ++ (d :: Gb ++ F2)) → ∃ q, H k = some q := Rep.dom (h := h + 1) (c := hr.iso) (t := .node r.items (K1 ++ ta :: tb :: K2)) ⟨r, N1 ++ a :: d :: N2, _, hr1, hiso, rfl, hkn, hcnt, hrl, rfl⟩
  have hown := Own.of_mem mem [(n, r), (a, ra), (d, rb)] (fun p hp => by
    simp only [List.mem_cons, List.not_mem_nil, or_false] at hp
    rcases hp with rfl | rfl | rfl
    · exact hr1
    · exact hra
    · exact hrb) (by simp [han.symm, hdn.symm, had])
  simp only [nodesOf, List.map_cons, List.map_nil] at hown
  have away : ∀ k q, H k = some q → k ∉ [n, a, d] → ∀ o, ¬ FP TT H L [n, a, d] k o := fun k q hq hk o ⟨x, p, hx, hp, hf⟩ =>
    mem.sep x k p q (fun e => hk (e ▸ hx)) hp hq k o hf (.inl rfl)
  have kidsOk : ∀ (x : Nat) (Gx : List Nat), (∀ k ∈ Gx, k ∈ Ga ++ Gb) → ∀ k ∈ Gx, (∃ q, H k = some q ∧ q.cnt = cntOf H k) → 0 ≤ cntOf H k → cntOf H k ≤ 3000000000000000000 → w.cell? ⟨k, 1, none⟩ = some (.int .i64 (cntOf H k)) ∧ (∀ o, ¬ FP TT H L [n, a, d] k o) ∧ 0 ≤ cntOf H k ∧ cntOf H k ≤ 3000000000000000000 := by
    rintro x Gx hG k hk ⟨q, hq, hqc⟩ h0 h3
    have hkG := hG k hk
    refine ⟨?_, away k q hq ?_, h0, h3⟩
    · have := (mem.at_ k q hq).own.2.1
      rw [hqc] at this
      exact this
    · intro hk3
      simp only [List.mem_cons, List.not_mem_nil, or_false] at hk3
      rcases hk3 with rfl | rfl | rfl
      · exact hnF.1 (by simp only [List.mem_append, List.mem_cons] at hkG ⊢; rcases hkG with h | h <;> simp [h])
      · rcases List.mem_append.1 hkG with h | h
        · exact (List.nodup_cons.1 nd1.2.1).1 h
        · exact (List.nodup_append.1 ndab).2.2 k (by simp) k (by simp [h]) rfl
      · rcases List.mem_append.1 hkG with h | h
        · exact (List.nodup_append.1 ndab).2.2 k (by simp [h]) k (by simp) rfl
        · exact (List.nodup_cons.1 nd3.1).1 h
  have le_sum : ∀ (l : List Nat), (∀ k ∈ l, 0 ≤ cntOf H k) → ∀ k ∈ l, cntOf H k ≤ (l.map (cntOf H)).sum := by
    intro l
    induction l with
    | nil => intro _ k hk; cases hk
    | cons x l ih =>
      intro h0 k hk
      have hs : 0 ≤ (l.map (cntOf H)).sum := sum_nonneg fun y hy => by
        obtain ⟨z, hz, rfl⟩ := List.mem_map.1 hy
        exact h0 z (by simp [hz])
      have hx := h0 x (by simp)
      rw [List.map_cons, List.sum_cons]
      rcases List.mem_cons.1 hk with rfl | hk
      · omega
      · have := ih (fun y hy => h0 y (by simp [hy])) k hk; omega
  have same : ((ra.kids = none ∧ rb.kids = none) ∨ ∃ x y, ra.kids = some x ∧ rb.kids = some y ∧ x.length = ra.items.length + 1 ∧ y.length = rb.items.length + 1 ∧
      ∀ k ∈ x ++ y, w.cell? ⟨k, 1, none⟩ = some (.int .i64 (cntOf H k)) ∧ (∀ o, ¬ FP TT H L [n, a, d] k o) ∧ 0 ≤ cntOf H k ∧ cntOf H k ≤ 3000000000000000000) ∧ ra.cnt = ra.items.length + kidSum (cntOf H) ra.kids ∧ rb.cnt = rb.items.length + kidSum (cntOf H) rb.kids ∧
      ∀ l, mkids ra.kids rb.kids = some l → ∀ k ∈ l, k ∈ Ga ++ Gb := by
    have na := rep_kids Ra hra
    have nb := rep_kids Rb hrb
    cases hx : ra.kids with
    | none =>
      rw [hx] at na
      have hy : rb.kids = none := by rw [← na] at nb; simpa using nb
      refine ⟨.inl ⟨rfl, hy⟩, ?_, leaf_cnt Rb hrb hy, fun l hl => by simp [mkids] at hl⟩
      have := leaf_cnt Ra hra hx
      rwa [hx] at this
    | some x =>
      rw [hx] at na
      obtain ⟨y, hy⟩ : ∃ y, rb.kids = some y := by
        cases hy : rb.kids with
        | none => rw [hy, ← na] at nb; simp at nb
        | some y => exact ⟨y, rfl⟩
      obtain ⟨x1, x2, x3⟩ := kids_body Ra ba nd1.2.1 hra hx
      obtain ⟨y1, y2, y3⟩ := kids_body Rb bb nd3.1 hrb hy
      rw [hx] at x3
      simp only [hy, kidSum] at y3 ⊢
      simp only [kidSum] at x3
      have xs := le_sum x fun k hk => (x2 k hk).2.2.1
      have ys := le_sum y fun k hk => (y2 k hk).2.2.1
      have gx : ∀ k ∈ x, k ∈ Ga := fun k hk => by
        have := x2 k hk
        rcases List.mem_cons.1 this.1 with h | h
        · exact absurd h this.2.1
        · exact h
      have gy : ∀ k ∈ y, k ∈ Gb := fun k hk => by
        have := y2 k hk
        rcases List.mem_cons.1 this.1 with h | h
        · exact absurd h this.2.1
        · exact h
      refine ⟨.inr ⟨x, y, rfl, rfl, x1, y1, fun k hk => ?_⟩, x3, y3, fun l hl k hk => ?_⟩
      · rcases List.mem_append.1 hk with hk | hk
        · exact kidsOk a x (fun k hk => by simp [gx k hk]) k hk (x2 k hk).2.2.2 (x2 k hk).2.2.1 (by have := xs k hk; omega)
        · exact kidsOk d y (fun k hk => by simp [gy k hk]) k hk (y2 k hk).2.2.2 (y2 k hk).2.2.1 (by have := ys k hk; omega)
      · simp [mkids] at hl
        subst hl
        rcases List.mem_append.1 hk with hk | hk
        · simp [gx k hk]
        · simp [gy k hk]
  obtain ⟨same, cnta, cntb, mk⟩ := same
  refine (RR w b hr (FP TT H L [n, a, d]) n a d r ra rb (L n) (L a) (L d) N1 N2 i i0 m mx (cntOf H) ⟨hdr, hmx, hb, hown, fun o ⟨x, p, hx, hp, hf⟩ => hdr_apart hdr (mem.at_ x p hp) hf, hkn, by omega, hm, by omega, le, (by rw [hitsa]; exact la), (by rw [hitsb]; exact lb), by omega, hisoa, hisob, same, cnta, cntb, by omega, by omega, by omega⟩ hor).mono ?_
  rintro e w' ⟨rfl, r', L', ra', La', rb', Lb', rec, O⟩
  refine ⟨rfl, ?_⟩
  have hiI : r.items.take i ++ r.items.drop (i + 1) = I1 ++ I2 := by rw [hI, ← hI1]; simp
  have hab : (ta.its.length + 1 = mn ∧ mn ≤ tb.its.length ∧ tb.its.length ≤ mx) ∨ (tb.its.length + 1 = mn ∧ mn ≤ ta.its.length ∧ ta.its.length ≤ mx) := by
    rcases hor with h | ⟨h, _⟩
    · exact .inl ⟨k1.2.1 h.symm, k2.2.2 (by omega)⟩
    · exact .inr ⟨k2.2.1 h.symm, k1.2.2 (by omega)⟩
  have hKo : ∀ k ∈ K1 ++ K2, wfr mn mn mx h k := fun k hk => by
    have fin : ∀ j, j ≠ i0 → (K1 ++ ta :: tb :: K2)[j]? = some k → wfr mn mn mx h k := fun j hj hk => by
      obtain ⟨h1, _, h2⟩ := kid j k hk
      exact h1.wfr (h2 hj).1 (h2 hj).2
    rcases List.mem_append.1 hk with hk | hk
    · obtain ⟨j, hj⟩ := List.mem_iff_getElem?.1 hk
      obtain ⟨hjl, _⟩ := List.getElem?_eq_some_iff.1 hj
      exact fin j (by omega) (by rw [List.getElem?_append_left hjl]; exact hj)
    · obtain ⟨j, hj⟩ := List.mem_iff_getElem?.1 hk
      refine fin (i + 2 + j) (by omega) ?_
      rw [List.getElem?_append_right (by omega), show i + 2 + j - K1.length = j + 1 + 1 by omega]
      simpa using hj
  have nF1 : ∀ k, k ∈ F1 ++ F2 → k ≠ n ∧ k ≠ a ∧ k ≠ d := fun k hk => by
    refine ⟨fun e => hnF.1 (by subst e; simp only [List.mem_append, List.mem_cons] at hk ⊢; rcases hk with h | h <;> simp [h]), fun e => ?_, fun e => ?_⟩
    · subst e
      rcases List.mem_append.1 hk with h | h
      · exact nd1.2.2 k h k (by simp) rfl
      · exact nd2.2.2 k (by simp) k (by simp [h]) rfl
    · subst e
      rcases List.mem_append.1 hk with h | h
      · exact nd2.2.2 k (by simp [h]) k (by simp) rfl
      · exact nd3.2.2 k (by simp) k h rfl
  have nG : ∀ k, k ∈ Ga ++ Gb → k ≠ n ∧ k ≠ a ∧ k ≠ d := fun k hk => by
    refine ⟨fun e => hnF.1 (by subst e; simp only [List.mem_append, List.mem_cons] at hk ⊢; rcases hk with h | h <;> simp [h]), fun e => ?_, fun e => ?_⟩
    · subst e
      rcases List.mem_append.1 hk with h | h
      · exact (List.nodup_cons.1 nd1.2.1).1 h
      · exact (List.nodup_append.1 ndab).2.2 k (by simp) k (by simp [h]) rfl
    · subst e
      rcases List.mem_append.1 hk with h | h
      · exact (List.nodup_append.1 ndab).2.2 k (by simp [h]) k (by simp) rfl
      · exact (List.nodup_cons.1 nd3.1).1 h
  have domR : ∀ k, k ∈ [] ++ (F1 ++ Ga ++ Gb ++ F2) → k ∉ [n, a, d] ∧ ∃ q, H k = some q := fun k hk => by
    simp only [List.nil_append, List.mem_append] at hk
    have hne : k ≠ n ∧ k ≠ a ∧ k ≠ d := by
      rcases hk with ((h | h) | h) | h
      · exact nF1 k (by simp [h])
      · exact nG k (by simp [h])
      · exact nG k (by simp [h])
      · exact nF1 k (by simp [h])
    refine ⟨by simp [hne], old k ?_⟩
    simp only [List.mem_append, List.mem_cons]
    rcases hk with ((h | h) | h) | h <;> simp [h]
  rcases rec with ⟨h1, rfl, rfl⟩ | ⟨h1, j, m', hj, hm', rfl, rfl, rfl⟩
  · have hR : Reb mx I1 I2 K1 K2 ta m tb (.node (I1 ++ I2) (K1 ++ mergeT ta m tb :: K2)) := .inl ⟨by rw [← hitsa, ← hitsb]; exact h1, rfl⟩
    obtain ⟨hbody, hlen⟩ := hR.wf (by omega) hK2 ba bb hmn hab hKo
    have hfl := hR.flat (by omega) ba bb
    rw [← et] at hfl
    generalize hH : upd (upd (upd H n (some { r with items := r.items.take i ++ r.items.drop (i + 1), kids := some (N1 ++ a :: N2) })) a (some (mrec ra m rb))) d none = H'
    generalize hL : upd (upd (upd L n L') a La') d Lb' = L2
    have en : H' n = some { r with items := r.items.take i ++ r.items.drop (i + 1), kids := some (N1 ++ a :: N2) } := by rw [← hH, upd_ne _ _ hdn.symm, upd_ne _ _ han.symm, upd_same]
    have ea : H' a = some (mrec ra m rb) := by rw [← hH, upd_ne _ _ had, upd_same]
    have ed : H' d = none := by rw [← hH, upd_same]
    have eo : ∀ k, k ≠ n → k ≠ a → k ≠ d → H' k = H k ∧ L2 k = L k := fun k k1 k2 k3 => by rw [← hH, ← hL, upd_ne _ _ k3, upd_ne _ _ k2, upd_ne _ _ k1, upd_ne _ _ k3, upd_ne _ _ k2, upd_ne _ _ k1]; exact ⟨rfl, rfl⟩
    have ln : L2 n = L' := by rw [← hL, upd_ne _ _ hdn.symm, upd_ne _ _ han.symm, upd_same]
    have lla : L2 a = La' := by rw [← hL, upd_ne _ _ had, upd_same]
    have st := O.step (H' := H') (L' := L2) (F' := [n, a]) mem (fun k k1 k2 => by
      simp only [List.mem_cons, List.not_mem_nil, or_false, not_or] at k1
      exact eo k k1.1 k1.2.1 k1.2.2) (fun k k1 k2 => absurd (by simp only [List.mem_cons, List.not_mem_nil, or_false] at k1 ⊢; rcases k1 with h | h <;> simp [h]) k2) (fun k k1 k2 => by
      simp only [List.mem_cons, List.not_mem_nil, or_false, not_or] at k1 k2
      rcases k1 with h | h | h
      · exact absurd h k2.1
      · exact absurd h k2.2
      · rw [h]; exact ed) (fun k q k1 hq => by
      simp only [List.mem_cons, List.not_mem_nil, or_false] at k1
      rcases k1 with rfl | rfl
      · rw [en] at hq; cases hq; exact ⟨0, by rw [ln]; rfl⟩
      · rw [ea] at hq; cases hq; exact ⟨1, by rw [lla]; rfl⟩)
    have st2 := ((st.frame [] (F1 ++ Ga ++ Gb ++ F2) domR).same0 (G := n :: (F1 ++ a :: Ga ++ (d :: Gb ++ F2))) (fun k => by simp only [List.mem_append, List.mem_cons, List.nil_append, List.not_mem_nil, or_false]; grind)).same (G' := n :: (F1 ++ a :: (Ga ++ Gb) ++ F2)) (fun k => by simp only [List.mem_append, List.mem_cons, List.nil_append, List.not_mem_nil, or_false]; grind)
    have A1 : RepL (Rep H' hr.iso h) N1 K1 F1 := R1.imp fun x t G hG hR => hR.congr fun k hk => (eo k (nF1 k (by simp [hG k hk])).1 (nF1 k (by simp [hG k hk])).2.1 (nF1 k (by simp [hG k hk])).2.2).1
    have A2 : RepL (Rep H' hr.iso h) N2 K2 F2 := R2.imp fun x t G hG hR => hR.congr fun k hk => (eo k (nF1 k (by simp [hG k hk])).1 (nF1 k (by simp [hG k hk])).2.1 (nF1 k (by simp [hG k hk])).2.2).1
    have Am : Rep H' hr.iso h a (mergeT ta m tb) (a :: (Ga ++ Gb)) := RM.congr fun k hk => by
      rcases List.mem_cons.1 hk with rfl | hk
      · rw [ea, upd_same]
      · have := nG k hk
        rw [(eo k this.1 this.2.1 this.2.2).1, upd_ne _ _ this.2.1]
    refine ⟨.node (I1 ++ I2) (K1 ++ mergeT ta m tb :: K2), n :: (F1 ++ a :: (Ga ++ Gb) ++ F2), H', L2, st2, ⟨_, N1 ++ a :: N2, F1 ++ (a :: (Ga ++ Gb) ++ F2), en, hiso, hiI, rfl, ?_, RepL.join (R := Rep H' hr.iso h) (N2 := a :: N2) (K2 := mergeT ta m tb :: K2) ⟨a :: (Ga ++ Gb), F2, Am, A2, rfl⟩ A1, by simp⟩, ?_, hbody, ?_, ?_, hfl⟩
    · rw [hfl]; exact hcnt
    · refine List.Nodup.sublist ?_ nd
      simp only [List.append_assoc, List.cons_append]
      exact List.Sublist.cons_cons _ (List.Sublist.append_left (List.Sublist.cons_cons _ (List.Sublist.append_left (List.sublist_cons_self _ _) _)) _)
    · simp only [Tr.its, List.length_append]; omega
    · simp only [Tr.its, List.length_append]; omega
  · have hmi : (mergeT ta m tb).its = (mrec ra m rb).items := by simp only [mrec, hitsa, hitsb]; rfl
    have hjm : (mergeT ta m tb).its[j]? = some m' := by rw [hmi]; exact hm'
    obtain ⟨hil, _⟩ := List.getElem?_eq_some_iff.1 hjm
    have hdG : d ∉ a :: (Ga ++ Gb) := fun h => by
      rcases List.mem_cons.1 h with h | h
      · exact had h.symm
      · exact (nG d h).2.2 rfl
    have ndM : (a :: (Ga ++ Gb)).Nodup := by
      refine List.Nodup.sublist ?_ ndab
      simp only [List.cons_append]
      exact List.Sublist.cons_cons _ (List.Sublist.append_left (List.sublist_cons_self _ _) _)
    obtain ⟨G1, G2, hG, RL, RRr⟩ := RM.halvesB (merge_body ba bb) ndM (upd_same _ _ _) hdG hil
    have hG' : Ga ++ Gb = G1 ++ G2 := (List.cons.inj hG).2
    have hcn : ∀ f : List Nat → List Nat, (∀ l k, k ∈ f l → k ∈ l) → kidSum (cntOf (upd H a (some (mrec ra m rb)))) ((mrec ra m rb).kids.map f) = kidSum (cntOf H) ((mrec ra m rb).kids.map f) := fun f hf => kidSum_congr fun l hl k hk => by
      obtain ⟨l0, hl0, rfl⟩ := Option.map_eq_some_iff.1 hl
      have := nG k (mk l0 hl0 k (hf l0 k hk))
      simp only [cntOf, upd_ne _ _ this.2.1]
    have hLe : halfL (upd H a (some (mrec ra m rb))) hr.iso (mrec ra m rb) j = ⟨ra.iso, ((mrec ra m rb).items.take j).length + kidSum (cntOf H) ((mrec ra m rb).kids.map (List.take (j + 1))), (mrec ra m rb).items.take j, (mrec ra m rb).kids.map (List.take (j + 1))⟩ := by
      simp only [halfL, hcn _ (fun l k h => List.mem_of_mem_take h), hisoa]
    have hRe : halfR (upd H a (some (mrec ra m rb))) hr.iso (mrec ra m rb) j = ⟨rb.iso, ((mrec ra m rb).items.drop (j + 1)).length + kidSum (cntOf H) ((mrec ra m rb).kids.map (List.drop (j + 1))), (mrec ra m rb).items.drop (j + 1), (mrec ra m rb).kids.map (List.drop (j + 1))⟩ := by
      simp only [halfR, hcn _ (fun l k h => List.mem_of_mem_drop h), hisob]
    rw [hLe, hRe] at RL RRr
    have hR : Reb mx I1 I2 K1 K2 ta m tb (.node (I1 ++ m' :: I2) (K1 ++ cutL j (mergeT ta m tb) :: cutR j (mergeT ta m tb) :: K2)) := .inr ⟨by rw [← hitsa, ← hitsb]; exact h1, j, m', by rw [← hitsa, ← hitsb]; exact hj, hjm, rfl⟩
    obtain ⟨hbody, hlen⟩ := hR.wf (by omega) hK2 ba bb hmn hab hKo
    have hfl := hR.flat (by omega) ba bb
    rw [← et] at hfl
    generalize (⟨ra.iso, ((mrec ra m rb).items.take j).length + kidSum (cntOf H) ((mrec ra m rb).kids.map (List.take (j + 1))), (mrec ra m rb).items.take j, (mrec ra m rb).kids.map (List.take (j + 1))⟩ : NRec It) = ra' at RL RRr O
    generalize (⟨rb.iso, ((mrec ra m rb).items.drop (j + 1)).length + kidSum (cntOf H) ((mrec ra m rb).kids.map (List.drop (j + 1))), (mrec ra m rb).items.drop (j + 1), (mrec ra m rb).kids.map (List.drop (j + 1))⟩ : NRec It) = rb' at RL RRr O
    generalize hH : upd (upd (upd H n (some { r with items := r.items.set i m' })) a (some ra')) d (some rb') = H'
    generalize hL : upd (upd (upd L n L') a La') d Lb' = L2
    have en : H' n = some { r with items := r.items.set i m' } := by rw [← hH, upd_ne _ _ hdn.symm, upd_ne _ _ han.symm, upd_same]
    have ea : H' a = some ra' := by rw [← hH, upd_ne _ _ had, upd_same]
    have ed : H' d = some rb' := by rw [← hH, upd_same]
    have eo : ∀ k, k ≠ n → k ≠ a → k ≠ d → H' k = H k ∧ L2 k = L k := fun k k1 k2 k3 => by rw [← hH, ← hL, upd_ne _ _ k3, upd_ne _ _ k2, upd_ne _ _ k1, upd_ne _ _ k3, upd_ne _ _ k2, upd_ne _ _ k1]; exact ⟨rfl, rfl⟩
    have ln : L2 n = L' := by rw [← hL, upd_ne _ _ hdn.symm, upd_ne _ _ han.symm, upd_same]
    have lla : L2 a = La' := by rw [← hL, upd_ne _ _ had, upd_same]
    have lld : L2 d = Lb' := by rw [← hL, upd_same]
    have st := O.step (H' := H') (L' := L2) (F' := [n, a, d]) mem (fun k k1 k2 => by
      simp only [List.mem_cons, List.not_mem_nil, or_false, not_or] at k1
      exact eo k k1.1 k1.2.1 k1.2.2) (fun k k1 k2 => absurd k1 k2) (fun k k1 k2 => absurd k1 k2) (fun k q k1 hq => by
      simp only [List.mem_cons, List.not_mem_nil, or_false] at k1
      rcases k1 with rfl | rfl | rfl
      · rw [en] at hq; cases hq; exact ⟨0, by rw [ln]; rfl⟩
      · rw [ea] at hq; cases hq; exact ⟨1, by rw [lla]; rfl⟩
      · rw [ed] at hq; cases hq; exact ⟨2, by rw [lld]; rfl⟩)
    have mG : ∀ k, (k ∈ G1 ∨ k ∈ G2) ↔ (k ∈ Ga ∨ k ∈ Gb) := fun k => by rw [← List.mem_append, ← List.mem_append, hG']
    have st2 := ((st.frame [] (F1 ++ Ga ++ Gb ++ F2) domR).same0 (G := n :: (F1 ++ a :: Ga ++ (d :: Gb ++ F2))) (fun k => by simp only [List.mem_append, List.mem_cons, List.nil_append, List.not_mem_nil, or_false]; grind)).same (G' := n :: (F1 ++ a :: G1 ++ (d :: G2 ++ F2))) (fun k => by have := mG k; simp only [List.mem_append, List.mem_cons, List.nil_append, List.not_mem_nil, or_false]; grind)
    have A1 : RepL (Rep H' hr.iso h) N1 K1 F1 := R1.imp fun x t G hG hR => hR.congr fun k hk => (eo k (nF1 k (by simp [hG k hk])).1 (nF1 k (by simp [hG k hk])).2.1 (nF1 k (by simp [hG k hk])).2.2).1
    have A2 : RepL (Rep H' hr.iso h) N2 K2 F2 := R2.imp fun x t G hG hR => hR.congr fun k hk => (eo k (nF1 k (by simp [hG k hk])).1 (nF1 k (by simp [hG k hk])).2.1 (nF1 k (by simp [hG k hk])).2.2).1
    have oth : ∀ k, k ∈ G1 ++ G2 → H' k = upd (upd (upd H a (some (mrec ra m rb))) a (some ra')) d (some rb') k := fun k hk => by
      have := nG k (by rw [hG']; exact hk)
      rw [(eo k this.1 this.2.1 this.2.2).1, upd_ne _ _ this.2.2, upd_ne _ _ this.2.1, upd_ne _ _ this.2.1]
    have Aa : Rep H' hr.iso h a (cutL j (mergeT ta m tb)) (a :: G1) := RL.congr fun k hk => by
      rcases List.mem_cons.1 hk with rfl | hk
      · rw [ea, upd_ne _ _ had, upd_same]
      · exact oth k (by simp [hk])
    have Ad : Rep H' hr.iso h d (cutR j (mergeT ta m tb)) (d :: G2) := RRr.congr fun k hk => by
      rcases List.mem_cons.1 hk with rfl | hk
      · rw [ed, upd_same]
      · exact oth k (by simp [hk])
    have hset : r.items.set i m' = I1 ++ m' :: I2 := by rw [hI, ← hI1]; simp
    refine ⟨.node (I1 ++ m' :: I2) (K1 ++ cutL j (mergeT ta m tb) :: cutR j (mergeT ta m tb) :: K2), n :: (F1 ++ a :: G1 ++ (d :: G2 ++ F2)), H', L2, st2, ⟨_, N1 ++ a :: d :: N2, F1 ++ (a :: G1 ++ (d :: G2 ++ F2)), en, hiso, hset, hkn, ?_, RepL.join (R := Rep H' hr.iso h) (N2 := a :: d :: N2) (K2 := cutL j (mergeT ta m tb) :: cutR j (mergeT ta m tb) :: K2) ⟨a :: G1, d :: G2 ++ F2, Aa, ⟨d :: G2, F2, Ad, A2, rfl⟩, rfl⟩ A1, by simp⟩, ?_, hbody, ?_, ?_, hfl⟩
    · rw [hfl]; exact hcnt
    · have p1 : (n :: (F1 ++ a :: Ga ++ (d :: Gb ++ F2))).Perm (d :: n :: (F1 ++ a :: (Ga ++ Gb) ++ F2)) := by
        have : (n :: (F1 ++ a :: Ga) ++ d :: (Gb ++ F2)).Perm (d :: (n :: (F1 ++ a :: Ga) ++ (Gb ++ F2))) := List.perm_middle
        simpa using this
      have p2 : (n :: (F1 ++ a :: G1 ++ (d :: G2 ++ F2))).Perm (d :: n :: (F1 ++ a :: (G1 ++ G2) ++ F2)) := by
        have : (n :: (F1 ++ a :: G1) ++ d :: (G2 ++ F2)).Perm (d :: (n :: (F1 ++ a :: G1) ++ (G2 ++ F2))) := List.perm_middle
        simpa using this
      rw [p2.nodup_iff, ← hG', ← p1.nodup_iff]
      exact nd
    · simp only [Tr.its, List.length_append, List.length_cons]; omega
    · simp only [Tr.its, List.length_append, List.length_cons]; omega
end Go.Proofs.Ytckplcmieelmpaa.S

namespace Go.Wb
open Go Go.RowKit

/-- A slice that grows: its row lies in blocks from B on. -/
structure Acc (B : Nat) (w : World) (ty s : Nat) (a : Option Addr) (n cap : Nat) (cs : List Value) : Prop where
  row : Row w ty s a cap cs
  len : cs.length = n * s
  le : n ≤ cap
  own : ∀ b o, rowFp a (cap * s) b o → B ≤ b

variable {B : Nat} {w w' : World} {ty s n m cap cap' : Nat} {a a' : Option Addr} {cs : List Value}

theorem Acc.calm (h : Acc B w ty s a n cap cs) {S : Nat → Nat → Prop} (hk : Keep S w w') (hS : ∀ b o, B ≤ b → ¬ S b o) : Acc B w' ty s a n cap cs :=
  ⟨h.row.keep' hk fun b o hf => hS b o (h.own b o hf), h.len, h.le, h.own⟩
theorem Acc.quiet (h : Acc B w ty s a n cap cs) (hk : Keep (fun _ _ => False) w w') : Acc B w' ty s a n cap cs := h.calm hk fun _ _ _ h => h
theorem Acc.nil (B : Nat) (w : World) (ty s : Nat) : Acc B w ty s none 0 0 [] := ⟨.inl ⟨rfl, rfl, rfl⟩, by simp, Nat.le_refl _, fun b o ⟨_, _, h, _⟩ => by cases h⟩
theorem Acc.grow (h : Acc B w ty s a n cap cs) (hB : B ≤ w.heap.size) {news : List Value} (hg : Grew w w' ty s a a' n m cap cap' (cs ++ news)) (hl : news.length = m * s) : Acc B w' ty s a' (n + m) cap' (cs ++ news) ∧ Keep (fun b _ => B ≤ b) w w' := by
  refine ⟨⟨hg.row, by rw [List.length_append, h.len, hl, Nat.add_mul], hg.cap, fun b o hf => ?_⟩, hg.keep.mono fun b o _ ⟨x, y, e1, e2, e3, e4⟩ => h.own b o ⟨x, y, e1, e2, by omega, e4⟩⟩
  rcases hg.fp b o hf with h1 | ⟨h1, _⟩
  · exact h.own b o h1
  · omega
theorem Acc.one (h : Acc B w ty s a n cap cs) {cs' : List Value} (e : cs = cs') : Acc B w ty s a n cap cs' := e ▸ h
end Go.Wb

namespace Go.Wb
open Go Go.RowKit

/-- The cells of a slice that is only read. -/
def Given (w : World) (a : Option Addr) (cs : List Value) : Prop := cs = [] ∨ ∃ b o, a = some ⟨b, o, none⟩ ∧ ∀ i v, cs[i]? = some v → w.cell? ⟨b, o + i, none⟩ = some v

theorem Given.keep {w w' : World} {a : Option Addr} {cs : List Value} (h : Given w a cs) (hk : Keep (fun _ _ => False) w w') : Given w' a cs := by
  rcases h with h | ⟨b, o, h1, h2⟩
  · exact .inl h
  · exact .inr ⟨b, o, h1, fun i v hi => hk.cell' (h2 i v hi) fun h => h⟩
theorem Given.cell {w : World} {a : Option Addr} {cs : List Value} (h : Given w a cs) {i : Nat} (hi : i < cs.length) : ∃ b o, a = some ⟨b, o, none⟩ ∧ w.cell? ⟨b, o + i, none⟩ = some cs[i] := by
  rcases h with h | ⟨b, o, h1, h2⟩
  · subst h; simp at hi
  · exact ⟨b, o, h1, h2 i _ (by simp)⟩
theorem Row.reads {w : World} {ty s : Nat} {a : Option Addr} {cap : Nat} {cs : List Value} (h : Row w ty s a cap cs) : Given w a cs := by
  rcases h with ⟨_, _, h⟩ | ⟨b, o, arr, rfl, h2, h3, h4, h5⟩
  · exact .inl h
  · exact .inr ⟨b, o, rfl, fun i v hi => by simp [World.cell?, h2, h5 i v hi]⟩
/-- In a window of blocks that were there, too. -/
theorem Given.keep' {S : Nat → Nat → Prop} {w w' : World} {a : Option Addr} {cs : List Value} (h : Given w a cs) (hk : Keep S w w') (hS : ∀ b o, b < w.heap.size → ¬ S b o) : Given w' a cs := h.keep (hk.mono fun b o hb hs => (hS b o hb hs).elim)
end Go.Wb

namespace Go.Wb
open Go Go.RowKit

/-- Nothing is appended. -/
theorem run_append_zero {P : Program} (w : World) (t ty e : TypeId) (s b : Nat) (ht : P.underlying t = some (.slice e)) (he : Elem P e s b) (a : Option Addr) (n cap : Nat) (hle : n ≤ cap) (sa : Option Addr) (c : Nat) :
    (Builtin.append_ #[t, t] ty #[.slice a n cap, .slice sa 0 c]).run P w = .ok (.slice a n cap) w := by
  obtain ⟨h2, _, _⟩ := he
  cases hi : P.info? e with
  | none => rw [hi] at h2; cases h2
  | some i =>
    have hst : ∀ q : Addr, (storeCells q ([] : List Value)).run P w = .ok () w := fun q => by simp [storeCells]
    cases sa with
    | none => cases a <;> simp [Builtin.append_, run_underlying ht, sizeOf, typeInfo, hi, Builtin.lenOf, hle, Builtin.firstCells, hst]
    | some ad =>
      have hf := run_firstCells_some (P := P) w i.size 0 ad 0 c [] (by simp) (by simp)
      cases a <;> simp [Builtin.append_, run_underlying ht, sizeOf, typeInfo, hi, Builtin.lenOf, hle, hf, hst]

/-- Whatever list is appended. -/
theorem run_append_src {P : Program} (w : World) (t ty e : TypeId) (s b : Nat) (ht : P.underlying t = some (.slice e)) (he : Elem P e s b)
    (a : Option Addr) (n cap : Nat) (xs : List Value) (hrow : Row w e s a cap xs) (hn : xs.length = n * s)
    (sa : Option Addr) (m c : Nat) (news : List Value) (hs : 0 < s) (hl : news.length = m * s) (hnews : Given w sa news) (h1 : ∀ u ∈ news, u.oneCell' = true)
    (hle : n ≤ cap) (h63 : n + m ≤ maxLen) (hbytes : (n + m) * b ≤ 140737488355328) :
    ∃ a' cap' w', (Builtin.append_ #[t, t] ty #[.slice a n cap, .slice sa m c]).run P w = .ok (.slice a' (n + m) cap') w' ∧ Grew w w' e s a a' n m cap cap' (xs ++ news) := by
  by_cases hm : m = 0
  · subst hm
    obtain rfl : news = [] := by simpa using hl
    exact ⟨a, cap, w, run_append_zero w t ty e s b ht he a n cap hle sa c, ⟨by simpa using hrow, Keep.refl _ _, fun _ _ h => .inl h, by omega⟩⟩
  · rcases hnews with h | ⟨q, o, rfl, hc⟩
    · subst h
      have : 0 < m * s := Nat.mul_pos (by omega) hs
      simp at hl
      omega
    · exact run_append_any w t ty e s b ht he a n cap xs hrow hn ⟨q, o, none⟩ m c news hl (fun j u hj => by
        have hadd : (⟨q, o, none⟩ : Addr).add j = ⟨q, o + j, none⟩ := by unfold Addr.add; split <;> simp_all
        rw [hadd]; exact hc j u hj) h1 (by omega) hle h63 hbytes

theorem wpList_append_src {P : Program} {w : World} {ops : Array Oper} {rest : List Oper} {o : Oper} {a : Act} {Q : Exit → Act → World → Prop} (hgd : o.guard = none) (s x : Operand) (t : TypeId)
    (ho : o.op = .call { callee := .builtin .append, args := #[s, x], argTypes := #[t, t] })
    (e : TypeId) (sz b : Nat) (ht : P.underlying t = some (.slice e)) (he : Elem P e sz b)
    (aa : Option Addr) (n cap : Nat) (xs : List Value) (hs : a.eval s = .slice aa n cap) (hrow : Row w e sz aa cap xs) (hn : xs.length = n * sz)
    (sa : Option Addr) (m c : Nat) (news : List Value) (hx : a.eval x = .slice sa m c) (hsz : 0 < sz) (hl : news.length = m * sz) (hnews : Given w sa news) (h1 : ∀ u ∈ news, u.oneCell' = true)
    (hle : n ≤ cap) (h63 : n + m ≤ maxLen) (hbytes : (n + m) * b ≤ 140737488355328)
    (h : ∀ a' cap' w', Grew w w' e sz aa a' n m cap cap' (xs ++ news) → wpList P ops Q rest (a.put o.dst (.slice a' (n + m) cap')) w') : wpList P ops Q (o :: rest) a w := by
  refine wpList_plain hgd fun K hK => ?_
  obtain ⟨a', cap', w', hr, hg⟩ := run_append_src (P := P) w t o.type e sz b ht he aa n cap xs hrow hn sa m c news hsz hl hnews h1 hle h63 hbytes
  unfold Oper.wp execOp
  simp only [ho, resolve, invoke, builtin, Sem.run_bind, Sem.run_pure, Result.andThen_ok, List.map_toArray, List.map_cons, List.map_nil, hs, hx, hr]
  exact hK _ _ (h a' cap' w' hg)

/-- A part of a given slice. -/
theorem Given.drop {w : World} {a : Option Addr} {cs : List Value} (h : Given w a cs) (k : Nat) {b o : Nat} (ha : a = some ⟨b, o, none⟩) : Given w (some ⟨b, o + k, none⟩) (cs.drop k) := by
  rcases h with h | ⟨b', o', h1, h2⟩
  · subst h; exact .inl (by simp)
  · rw [ha] at h1
    obtain ⟨rfl, rfl⟩ : b = b' ∧ o = o' := by simpa using h1
    refine .inr ⟨b, o + k, rfl, fun i v hi => ?_⟩
    rw [List.getElem?_drop] at hi
    have := h2 (k + i) v hi
    rwa [← Nat.add_assoc] at this
theorem Given.take {w : World} {a : Option Addr} {cs : List Value} (h : Given w a cs) (k : Nat) : Given w a (cs.take k) := by
  rcases h with h | ⟨b', o', h1, h2⟩
  · subst h; exact .inl (by simp)
  · refine .inr ⟨b', o', h1, fun i v hi => h2 i v ?_⟩
    rw [List.getElem?_take] at hi
    split at hi
    · exact hi
    · cases hi
end Go.Wb

namespace Go.Proofs.Ytckplcmieelmpaa.S
open Go.RowKit Go.Wb

theorem grew_keep {w w' : World} {ty s n m cap cap' : Nat} {a a' : Option Addr} {cs : List Value} (hg : Grew w w' ty s a a' n m cap cap' cs) : Keep (rowFp a (cap * s)) w w' := by
  refine hg.keep.mono fun x o _ h => ?_
  obtain ⟨x1, y1, e1, e2, e3, e4⟩ := h
  exact ⟨x1, y1, e1, e2, by omega, e4⟩
/-- A node's own block, where its items' row turns. -/
theorem node_row {w w' : World} {a : Nat} {r : NRec It} {L : Lay} (h : NodeAt TT E w a r L) (hk : Keep (rowFp L.ia (L.icap * TT.s)) w w') : w'.heap[a]? = some (.cells #[.int .u64 r.iso, .int .i64 r.cnt, .slice L.ia r.items.length L.icap, kidsVal r.kids L.cb] 253 (0, 0)) :=
  blk_keep h.1 hk fun o hf => by
    obtain ⟨arr, ha⟩ := h.2.1.block ⟨_, hf⟩
    exact blk_ne h.1 ha ty_ok.a rfl
theorem node_grew {w w' : World} {a : Nat} {r : NRec It} {L : Lay} (h : NodeAt TT E w a r L) {n m cap' : Nat} {a' : Option Addr} {cs : List Value} (hg : Grew w w' TT.pair TT.s L.ia a' n m L.icap cap' cs) : w'.cell? ⟨a, 2, none⟩ = some (.slice L.ia r.items.length L.icap) ∧ w'.frozen? ⟨a, 2, none⟩ = false := by
  obtain ⟨c0, c1, c2, c3, fz⟩ := blk4 (node_row h (grew_keep hg))
  exact ⟨c2, fz 2⟩
/-- The block of its children, where their row turns. -/
theorem kids_row {w w' : World} {a : Nat} {r : NRec It} {L : Lay} (h : NodeAt TT E w a r L) {ks : List Nat} (hk : r.kids = some ks) (hkk : Keep (rowFp L.ka L.kcap) w w') : w'.heap[L.cb]? = some (.cells #[.slice L.ka ks.length L.kcap] 254 (0, 0)) ∧
    w'.heap[a]? = some (.cells #[.int .u64 r.iso, .int .i64 r.cnt, .slice L.ia r.items.length L.icap, .pointer (some ⟨L.cb, 0, none⟩)] 253 (0, 0)) := by
  obtain ⟨h5, h6, h7⟩ := h.2.2.2 ks hk
  have h1 := h.1
  rw [hk] at h1
  refine ⟨blk_keep h5 hkk fun o hf => ?_, blk_keep h1 hkk fun o hf => ?_⟩
  · obtain ⟨arr, ha⟩ := h6.block ⟨_, hf⟩
    exact blk_ne ha h5 ty_ok.e rfl
  · obtain ⟨arr, ha⟩ := h6.block ⟨_, hf⟩
    exact blk_ne h1 ha ty_ok.b rfl
theorem kids_grew {w w' : World} {a : Nat} {r : NRec It} {L : Lay} (h : NodeAt TT E w a r L) {ks : List Nat} (hk : r.kids = some ks) {n m cap' : Nat} {a' : Option Addr} {cs : List Value} (hg : Grew w w' TT.nodeP 1 L.ka a' n m L.kcap cap' cs) :
    w'.cell? ⟨L.cb, 0, none⟩ = some (.slice L.ka ks.length L.kcap) ∧ w'.frozen? ⟨L.cb, 0, none⟩ = false ∧ w'.cell? ⟨a, 3, none⟩ = some (.pointer (some ⟨L.cb, 0, none⟩)) := by
  have hgk := grew_keep hg
  rw [Nat.mul_one] at hgk
  obtain ⟨h1, h2⟩ := kids_row h hk hgk
  obtain ⟨c0, c1, c2, c3, fz⟩ := blk4 h2
  obtain ⟨d0, fd⟩ := blk1 h1
  exact ⟨d0, fd 0, c3⟩
theorem all_one (l : List It) : ∀ v ∈ E.all l, v.oneCell' = true := by
  intro v hv
  unfold Enc.all at hv
  obtain ⟨y, _, hy⟩ := List.mem_flatMap.1 hv
  exact E.one y v hy
theorem ptr_one (l : List Nat) : ∀ v ∈ l.map ptr, v.oneCell' = true := by
  intro v hv
  obtain ⟨y, _, rfl⟩ := List.mem_map.1 hv
  rfl

theorem shut_list {β : Type} (I : List β) {i l : Nat} (hI : I.length = l + 1) (hi : i ≤ l) (x : β) : ((I.take i ++ (I.drop (i + 1)).take (l - i) ++ I.drop (i + (l - i))).set l x).take l = I.take i ++ I.drop (i + 1) := by
  have h1 : (I.drop (i + 1)).take (l - i) = I.drop (i + 1) := List.take_of_length_le (by simp; omega)
  rw [h1, List.take_set_of_le (Nat.le_refl l), List.take_append_of_le_length (by simp; omega)]
  exact List.take_of_length_le (by simp; omega)
theorem shut_kids {β : Type} (I : List β) {i l : Nat} (hI : I.length = l + 1) (hi : i ≤ l) : (I.take i ++ (I.drop (i + 1)).take (l - i) ++ I.drop (i + (l - i))).take l = I.take i ++ I.drop (i + 1) := by
  have h1 : (I.drop (i + 1)).take (l - i) = I.drop (i + 1) := List.take_of_length_le (by simp; omega)
  rw [h1, List.take_append_of_le_length (by simp; omega)]
  exact List.take_of_length_le (by simp; omega)

theorem copy_len {β : Type} (I : List β) {i j m : Nat} (h1 : i + m ≤ I.length) (h2 : j + m ≤ I.length) : (I.take i ++ (I.drop j).take m ++ I.drop (i + m)).length = I.length := by
  simp; omega
/-- The last child is given up: its place has turned to nil, then the slice is cut. -/
theorem nk_last2 {w w1 : World} {a : Nat} {r : NRec It} {L : Lay} (h : NodeAt TT E w a r L) {ks : List Nat} (hks : r.kids = some ks) {j : Nat} (hj : ks.length = j + 1) {kb ko : Nat} (hka : L.ka = some ⟨kb, ko, none⟩) (hk : Keep (fun x y => x = kb ∧ y = ko + j) w w1) :
    NTurn TT E w a r L (w1.setCell ⟨L.cb, 0, none⟩ (.slice (some ⟨kb, ko, none⟩) j L.kcap)) { r with kids := some (ks.take j) } L := by
  obtain ⟨h5, h6, h7⟩ := h.2.2.2 ks hks
  have hl : (ks.take j).length = j := by simp; omega
  have hk2 : Keep (rowFp L.ka L.kcap) w w1 := hk.mono fun x y _ ⟨e1, e2⟩ => ⟨kb, ko, hka, e1, by omega, by omega⟩
  have hr : Row w1 TT.nodeP 1 L.ka L.kcap ((ks.take j).map ptr) := by
    have h8 := h6.take j
    rw [← List.map_take] at h8
    refine h8.keep hk fun x o ⟨x1, y1, e1, e2, e3, e4⟩ ⟨f1, f2⟩ => ?_
    rw [hka] at e1
    cases e1
    rw [List.length_map, hl] at e4
    omega
  have := nt_kids ty_ok h hks (ks' := ks.take j) hk2 hr (by omega) (fun _ _ _ h => h)
  rw [hl] at this
  rw [← hka]
  exact this
/-- The last child is given up: its place is nil, and the slice is cut. -/
theorem nk_last {w : World} {a : Nat} {r : NRec It} {L : Lay} (h : NodeAt TT E w a r L) {ks : List Nat} (hks : r.kids = some ks) {j : Nat} (hj : ks.length = j + 1) {kb ko : Nat} (hka : L.ka = some ⟨kb, ko, none⟩) :
    NTurn TT E w a r L ((w.setCell ⟨kb, ko + j, none⟩ (.pointer none)).setCell ⟨L.cb, 0, none⟩ (.slice (some ⟨kb, ko, none⟩) j L.kcap)) { r with kids := some (ks.take j) } L := by
  obtain ⟨h5, h6, h7⟩ := h.2.2.2 ks hks
  have hl : (ks.take j).length = j := by simp; omega
  have hk : Keep (rowFp L.ka L.kcap) w (w.setCell ⟨kb, ko + j, none⟩ (.pointer none)) := (Keep.refl _ _).set _ _ _ fun _ => ⟨kb, ko, hka, rfl, by omega, by omega⟩
  have hr : Row (w.setCell ⟨kb, ko + j, none⟩ (.pointer none)) TT.nodeP 1 L.ka L.kcap ((ks.take j).map ptr) := by
    rw [hka] at h6 ⊢
    have h8 := (h6.setCell (j := j) (.pointer none) (by simp; omega)).take j
    have e : ((ks.map ptr).set j (.pointer none)).take j = (ks.take j).map ptr := by
      rw [List.map_take]
      exact List.take_set_of_le (Nat.le_refl j)
    rwa [e] at h8
  have := nt_kids ty_ok h hks (ks' := ks.take j) hk hr (by omega) (fun _ _ _ h => h)
  rw [hl] at this
  rw [← hka]
  exact this
end Go.Proofs.Ytckplcmieelmpaa.S

namespace Go.Wb
open Go Go.RowKit
variable {α : Type} {mx i : Nat} {c : Nat → Int} {a : Nat} {N1 N2 : List Nat} {m m' : α} {r ra rb : NRec α} {A B : List α}

theorem rebL_leaf (hge : mx ≤ ra.items.length + rb.items.length) (hlt : ¬ rb.items.length < ra.items.length) (hb : rb.items = m' :: B) (ka : ra.kids = none) (kb : rb.kids = none) (ca : ra.cnt = ra.items.length + kidSum c ra.kids) (cb : rb.cnt = rb.items.length + kidSum c rb.kids) :
    RebRec mx i c a N1 N2 m r ra rb { r with items := r.items.set i m' } ⟨ra.iso, ra.cnt + 1, ra.items ++ [m], none⟩ ⟨rb.iso, rb.cnt - 1, B, none⟩ := by
  have e1 : (mrec ra m rb).items.take (ra.items.length + 1) = ra.items ++ [m] := by simp only [mrec]; rw [List.take_length_add_append]; rfl
  have e2 : (mrec ra m rb).items.drop (ra.items.length + 1 + 1) = B := by simp only [mrec]; rw [Nat.add_assoc, List.drop_length_add_append, hb]; rfl
  have e3 : (mrec ra m rb).kids = none := by simp [mrec, mkids, ka]
  rw [ka] at ca
  rw [kb, hb] at cb
  simp only [kidSum] at ca cb
  refine .inr ⟨hge, ra.items.length + 1, m', (if_neg hlt).symm, ?_, rfl, ?_, ?_⟩
  · simp only [mrec]; rw [List.getElem?_append_right (by omega)]; simp [hb]
  · rw [e1, e3]; simp only [Option.map_none, kidSum, List.length_append, List.length_cons, List.length_nil, NRec.mk.injEq, true_and, and_true]; omega
  · rw [e2, e3]; simp only [Option.map_none, kidSum, NRec.mk.injEq, true_and, and_true]; simp only [List.length_cons] at cb; omega

theorem rebL_inner (hge : mx ≤ ra.items.length + rb.items.length) (hlt : ¬ rb.items.length < ra.items.length) (hb : rb.items = m' :: B) {x y : List Nat} {k : Nat} (ka : ra.kids = some x) (kb : rb.kids = some (k :: y)) (hx : x.length = ra.items.length + 1) (ca : ra.cnt = ra.items.length + kidSum c ra.kids) (cb : rb.cnt = rb.items.length + kidSum c rb.kids) :
    RebRec mx i c a N1 N2 m r ra rb { r with items := r.items.set i m' } ⟨ra.iso, ra.cnt + 1 + c k, ra.items ++ [m], some (x ++ [k])⟩ ⟨rb.iso, rb.cnt - 1 - c k, B, some y⟩ := by
  have e1 : (mrec ra m rb).items.take (ra.items.length + 1) = ra.items ++ [m] := by simp only [mrec]; rw [List.take_length_add_append]; rfl
  have e2 : (mrec ra m rb).items.drop (ra.items.length + 1 + 1) = B := by simp only [mrec]; rw [Nat.add_assoc, List.drop_length_add_append, hb]; rfl
  have e3 : (mrec ra m rb).kids = some (x ++ k :: y) := by simp [mrec, mkids, ka, kb]
  have e4 : (x ++ k :: y).take (ra.items.length + 1 + 1) = x ++ [k] := by rw [← hx, List.take_length_add_append]; rfl
  have e5 : (x ++ k :: y).drop (ra.items.length + 1 + 1) = y := by rw [← hx, List.drop_length_add_append]; rfl
  rw [ka] at ca
  rw [kb, hb] at cb
  simp only [kidSum, List.map_cons, List.sum_cons, List.length_cons] at ca cb
  refine .inr ⟨hge, ra.items.length + 1, m', (if_neg hlt).symm, ?_, rfl, ?_, ?_⟩
  · simp only [mrec]; rw [List.getElem?_append_right (by omega)]; simp [hb]
  · rw [e1, e3]; simp only [Option.map_some, e4, kidSum, List.length_append, List.length_cons, List.length_nil, List.map_append, List.map_cons, List.map_nil, List.sum_append, List.sum_cons, List.sum_nil, NRec.mk.injEq, true_and, and_true]; omega
  · rw [e2, e3]; simp only [Option.map_some, e5, kidSum, NRec.mk.injEq, true_and, and_true]; omega

theorem rebR_leaf (hge : mx ≤ ra.items.length + rb.items.length) (hlt : rb.items.length < ra.items.length) (ha : ra.items = A ++ [m']) (ka : ra.kids = none) (kb : rb.kids = none) (ca : ra.cnt = ra.items.length + kidSum c ra.kids) (cb : rb.cnt = rb.items.length + kidSum c rb.kids) :
    RebRec mx i c a N1 N2 m r ra rb { r with items := r.items.set i m' } ⟨ra.iso, ra.cnt - 1, A, none⟩ ⟨rb.iso, rb.cnt + 1, m :: rb.items, none⟩ := by
  have hl : ra.items.length = A.length + 1 := by rw [ha]; simp
  have e1 : (mrec ra m rb).items.take A.length = A := by simp only [mrec, ha, List.append_assoc]; simp
  have e2 : (mrec ra m rb).items.drop (A.length + 1) = m :: rb.items := by simp only [mrec]; rw [← hl]; simp
  have e3 : (mrec ra m rb).kids = none := by simp [mrec, mkids, ka]
  rw [ka] at ca
  rw [kb] at cb
  simp only [kidSum] at ca cb
  refine .inr ⟨hge, A.length, m', by rw [if_pos hlt]; omega, ?_, rfl, ?_, ?_⟩
  · simp only [mrec, ha, List.append_assoc]; simp
  · rw [e1, e3]; simp only [Option.map_none, kidSum, NRec.mk.injEq, true_and, and_true]; omega
  · rw [e2, e3]; simp only [Option.map_none, kidSum, List.length_cons, NRec.mk.injEq, true_and, and_true]; omega

theorem rebR_inner (hge : mx ≤ ra.items.length + rb.items.length) (hlt : rb.items.length < ra.items.length) (ha : ra.items = A ++ [m']) {x y : List Nat} {k : Nat} (ka : ra.kids = some (x ++ [k])) (kb : rb.kids = some y) (hx : x.length = ra.items.length) (ca : ra.cnt = ra.items.length + kidSum c ra.kids) (cb : rb.cnt = rb.items.length + kidSum c rb.kids) :
    RebRec mx i c a N1 N2 m r ra rb { r with items := r.items.set i m' } ⟨ra.iso, ra.cnt - 1 - c k, A, some x⟩ ⟨rb.iso, rb.cnt + 1 + c k, m :: rb.items, some (k :: y)⟩ := by
  have hl : ra.items.length = A.length + 1 := by rw [ha]; simp
  have e1 : (mrec ra m rb).items.take A.length = A := by simp only [mrec, ha, List.append_assoc]; simp
  have e2 : (mrec ra m rb).items.drop (A.length + 1) = m :: rb.items := by simp only [mrec]; rw [← hl]; simp
  have e3 : (mrec ra m rb).kids = some (x ++ k :: y) := by simp [mrec, mkids, ka, kb]
  have e4 : (x ++ k :: y).take (A.length + 1) = x := by rw [← hl, ← hx]; simp
  have e5 : (x ++ k :: y).drop (A.length + 1) = k :: y := by rw [← hl, ← hx]; simp
  rw [ka] at ca
  rw [kb] at cb
  simp only [kidSum, List.map_append, List.map_cons, List.map_nil, List.sum_append, List.sum_cons, List.sum_nil] at ca cb
  refine .inr ⟨hge, A.length, m', by rw [if_pos hlt]; omega, ?_, rfl, ?_, ?_⟩
  · simp only [mrec, ha, List.append_assoc]; simp
  · rw [e1, e3]; simp only [Option.map_some, e4, kidSum, NRec.mk.injEq, true_and, and_true]; omega
  · rw [e2, e3]; simp only [Option.map_some, e5, kidSum, List.length_cons, List.map_cons, List.sum_cons, NRec.mk.injEq, true_and, and_true]; omega
end Go.Wb

namespace Go.Proofs.Ytckplcmieelmpaa.S
open Go.RowKit Go.Wb

theorem front_list {β : Type} (B : List β) (e m : β) {l : Nat} (hB : B.length = l) : (((B ++ [e]).take 1 ++ ((B ++ [e]).drop 0).take l ++ (B ++ [e]).drop (1 + l)).set 0 m) = m :: B := by
  have h1 : ((B ++ [e]).drop 0).take l = B := by rw [List.drop_zero, ← hB]; simp
  have h2 : (B ++ [e]).drop (1 + l) = [] := List.drop_eq_nil_of_le (by simp; omega)
  rw [h1, h2, List.append_nil]
  cases B with
  | nil => rfl
  | cons z B => rfl

/-- A child is put ahead of all others: nil is appended, the row is moved on by one place, and its first place is set. -/
theorem nk_front {w w0 w1 wc w2 : World} {d : Nat} {r : NRec It} {L : Lay} (h : NodeAt TT E w d r L) {ks : List Nat} (hks : r.kids = some ks) {a' : Option Addr} {cap' : Nat} (hk0 : Keep Nothing w w0) (hg : Grew w0 w1 TT.nodeP 1 L.ka a' ks.length 1 L.kcap cap' (ks.map ptr ++ [.pointer none]))
    {kb ko : Nat} (ha : a' = some ⟨kb, ko, none⟩) (hc0 : Keep Nothing (w1.setCell ⟨L.cb, 0, none⟩ (.slice a' (ks.length + 1) cap')) wc) (hk : Keep (fun x y => x = kb ∧ ko ≤ y ∧ y < ko + cap') wc w2) {k : Nat} (hrow : Row w2 TT.nodeP 1 a' cap' ((k :: ks).map ptr)) :
    NTurn TT E w d r L w2 { r with kids := some (k :: ks) } { L with ka := a', kcap := cap' } := by
  have h0 : NodeAt TT E w0 d r L := h.keep hk0 fun _ _ _ h => h
  have hgk := grew_keep hg
  rw [Nat.mul_one] at hgk
  obtain ⟨e1, e2⟩ := kids_row h0 hks hgk
  have hrow1 := hg.row
  rw [ha] at hrow1
  obtain ⟨arr, harr⟩ := hrow1.blk
  have hkc : kb ≠ L.cb := blk_ne harr e1 ty_ok.e
  have hkd : kb ≠ d := (blk_ne e2 harr ty_ok.b).symm
  have hdc : d ≠ L.cb := blk_ne e2 e1 ty_ok.c
  have hr1 : Row w1 TT.pair TT.s L.ia L.icap (E.all r.items) := h0.2.1.keep' hgk fun b o hf hg2 => by
    obtain ⟨arr, ha⟩ := h0.2.1.block ⟨_, hf⟩
    obtain ⟨arr', ha'⟩ := (h0.2.2.2 ks hks).2.1.block ⟨_, hg2⟩
    exact blk_ne ha ha' ty_ok.f rfl
  have K1c : Keep (fun b o => b = L.cb ∧ o = 0) w1 wc := ((Keep.refl _ _).set _ _ _ fun _ => ⟨rfl, rfl⟩ : Keep (fun b o => b = L.cb ∧ o = 0) w1 (w1.setCell ⟨L.cb, 0, none⟩ (.slice a' (ks.length + 1) cap'))).trans hc0 fun _ _ _ h => h.elim
  have K12 : Keep (fun b o => (b = L.cb ∧ o = 0) ∨ (b = kb ∧ ko ≤ o ∧ o < ko + cap')) w1 w2 := (K1c.mono fun _ _ _ h => .inl h).trans hk fun _ _ _ h => .inr h
  have ec : w2.heap[L.cb]? = some (.cells #[.slice a' (ks.length + 1) cap'] 254 (0, 0)) := by
    refine blk_keep (blk_keep ?_ hc0 fun _ h => h) hk fun o h => hkc h.1.symm
    rw [blk_set _ e1]; rfl
  have hfp : ∀ b o, b < w.heap.size → rowFp a' cap' b o → rowFp L.ka L.kcap b o := fun b o hb hf => by
    have := hk0.size
    rcases hg.fp b o (by simpa using hf) with h | ⟨h, _⟩
    · simpa using h
    · omega
  refine ⟨⟨?_, ?_, h.2.2.1, fun ks2 hks2 => ?_⟩, ?_, ?_⟩
  · show w2.heap[d]? = some (.cells #[.int .u64 r.iso, .int .i64 r.cnt, .slice L.ia r.items.length L.icap, .pointer (some ⟨L.cb, 0, none⟩)] 253 (0, 0))
    exact blk_keep e2 K12 fun o h => h.elim (fun h => hdc h.1) fun h => hkd h.1.symm
  · refine hr1.keep' K12 fun b o hf h => ?_
    obtain ⟨arr2, ha2⟩ := hr1.block ⟨_, hf⟩
    rcases h with h | h
    · rw [h.1] at ha2; exact blk_ne ha2 e1 ty_ok.d rfl
    · rw [h.1] at ha2; exact blk_ne ha2 harr ty_ok.f rfl
  · obtain rfl : k :: ks = ks2 := Option.some.inj hks2
    exact ⟨ec, hrow, hg.cap⟩
  · refine ((hk0.mono fun _ _ _ h => h.elim : Keep (Wb.fp TT d r L) w w0).trans hgk fun b o hb hf => .inr (.inr ⟨by simp [hks], .inr hf⟩)).trans K12 fun b o hb h => ?_
    rcases h with h | h
    · exact .inr (.inr ⟨by simp [hks], .inl h.1⟩)
    · exact .inr (.inr ⟨by simp [hks], .inr (hfp b o hb ⟨kb, ko, ha, h.1, h.2.1, h.2.2⟩)⟩)
  · rintro b o hb (e | hf | ⟨_, hf | hf⟩)
    · exact .inl e
    · exact .inr (.inl hf)
    · exact .inr (.inr ⟨by simp [hks], .inl hf⟩)
    · exact .inr (.inr ⟨by simp [hks], .inr (hfp b o hb hf)⟩)

/-- Where nil is appended to a node's children. -/
theorem front_mid {w w0 w1 wc : World} {d : Nat} {r : NRec It} {L : Lay} (h : NodeAt TT E w d r L) {ks : List Nat} (hks : r.kids = some ks) {a' : Option Addr} {cap' : Nat} (hk0 : Keep Nothing w w0) (hg : Grew w0 w1 TT.nodeP 1 L.ka a' ks.length 1 L.kcap cap' (ks.map ptr ++ [.pointer none]))
    {kb ko : Nat} (ha : a' = some ⟨kb, ko, none⟩) (hc0 : Keep Nothing (w1.setCell ⟨L.cb, 0, none⟩ (.slice a' (ks.length + 1) cap')) wc) :
    wc.cell? ⟨d, 3, none⟩ = some (.pointer (some ⟨L.cb, 0, none⟩)) ∧ wc.cell? ⟨L.cb, 0, none⟩ = some (.slice a' (ks.length + 1) cap') ∧ Row wc TT.nodeP 1 a' cap' (ks.map ptr ++ [.pointer none]) ∧ Keep (fp TT d r L) w wc ∧ d ≠ kb ∧ L.cb ≠ kb := by
  have h0 : NodeAt TT E w0 d r L := h.keep hk0 fun _ _ _ h => h
  have hgk := grew_keep hg
  rw [Nat.mul_one] at hgk
  obtain ⟨e1, e2⟩ := kids_row h0 hks hgk
  have hrow1 := hg.row
  rw [ha] at hrow1
  obtain ⟨arr, harr⟩ := hrow1.blk
  have hkc : kb ≠ L.cb := blk_ne harr e1 ty_ok.e
  have hkd : kb ≠ d := (blk_ne e2 harr ty_ok.b).symm
  have hdc : d ≠ L.cb := blk_ne e2 e1 ty_ok.c
  have KS : Keep (fun b o => b = L.cb ∧ o = 0) w1 (w1.setCell ⟨L.cb, 0, none⟩ (.slice a' (ks.length + 1) cap')) := (Keep.refl _ _).set _ _ _ fun _ => ⟨rfl, rfl⟩
  have K1c : Keep (fun b o => b = L.cb ∧ o = 0) w1 wc := KS.trans hc0 fun _ _ _ h => h.elim
  have ec : wc.heap[L.cb]? = some (.cells #[.slice a' (ks.length + 1) cap'] 254 (0, 0)) := by
    refine blk_keep ?_ hc0 fun _ h => h
    rw [blk_set _ e1]; rfl
  have ed := blk_keep e2 K1c fun o h => hdc h.1
  refine ⟨(blk4 ed).2.2.2.1, (blk1 ec).1, ?_, ?_, hkd.symm, hkc.symm⟩
  · refine hg.row.keep' K1c fun b o hf h => ?_
    rw [ha] at hf
    exact hkc ((rowFp_some hf).1.symm.trans h.1)
  · refine ((hk0.mono fun _ _ _ h => h.elim : Keep (Wb.fp TT d r L) w w0).trans hgk fun b o hb hf => .inr (.inr ⟨by simp [hks], .inr hf⟩)).trans K1c fun b o hb h => ?_
    exact .inr (.inr ⟨by simp [hks], .inl h.1⟩)
theorem ptr_one2 (l : List Nat) : ∀ v ∈ l.map ptr ++ [Value.pointer none], v.oneCell' = true := by
  intro v hv
  rcases List.mem_append.1 hv with hv | hv
  · exact ptr_one l v hv
  · obtain rfl := List.mem_singleton.1 hv; rfl
end Go.Proofs.Ytckplcmieelmpaa.S
