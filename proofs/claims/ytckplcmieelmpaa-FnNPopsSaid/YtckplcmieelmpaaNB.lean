/- Part 2 of the texts for the statement FnNPopsSaid: the package's tree of maps and sets, its functions' contracts. -/
import Derived.Test.YtckplcmieelmpaaNA
import Derived.Laws.MakeOwn
import Derived.Test.YtckplcmieelmpaaRows
import Derived.WalkKit
import Derived.WalkSpells
import Derived.WalkLawsBesides
import Derived.Lib.Hide
import Derived.Lib.SliceRun
import Derived.Outline
import Derived.Deep.QuietTactic
import Derived.BigQuiet
import Derived.Laws.EntriesVeiled
import Derived.Deep.Cut
import Derived.Deep.RegionHeld3
import Derived.Deep.MidRow
import Derived.Deep.DeepCutAuto
import Derived.Deep.CutBlock
import Derived.ProofKit
import Derived.SliceStrings
import Derived.Deep.SlicePairs
import Derived.ChangeSlices
namespace Go.Wb
open Go Go.RowKit
variable {α : Type} {T : Ty} {E : Enc α}

theorem Own.one {S : Nat → Nat → Prop} {w : World} {r : Res α} (h : r.ok T E w) (hS : ∀ b o, r.fp T b o → S b o) : Own T E S w w [r] := by
  have get : ∀ (i : Nat) (q : Res α), ([r] : List (Res α))[i]? = some q → i = 0 ∧ q = r := fun i q hi => by
    cases i with
    | zero => exact ⟨rfl, (Option.some.inj hi).symm⟩
    | succ i => simp at hi
  exact ⟨fun i q hi => (get i q hi).2 ▸ h, fun i j p q hij hi hj => absurd ((get i p hi).1.trans (get j q hj).1.symm) hij, Keep.refl _ _, fun i q hi b o _ hf => hS b o ((get i q hi).2 ▸ hf)⟩

/-- The step that a walk has made, beside cells X. -/
theorem Own.tstep {X : Nat → Nat → Prop} {w0 w : World} {l : List (Res α)} {H H' : Store α} {L L' : Nat → Lay} {F F' : List Nat} (hm : Mem T E w0 H L) (h : Own T E (fun b o => FP T H L F b o ∨ X b o) w0 w l)
    (hX : ∀ m r b o, H m = some r → Wb.fp T m r (L m) b o → ¬ X b o)
    (hX' : ∀ m r b o, m ∈ F' → H' m = some r → Wb.fp T m r (L' m) b o → ¬ X b o)
    (hout : ∀ m, m ∉ F → m ∉ F' → H' m = H m ∧ L' m = L m)
    (hold : ∀ m, m ∈ F' → m ∉ F → w0.heap.size ≤ m)
    (hgone : ∀ m, m ∈ F → m ∉ F' → H' m = none)
    (hin : ∀ m r, m ∈ F' → H' m = some r → ∃ i : Nat, l[i]? = some (Res.node m r (L' m))) : TStep T E X w0 H L F w H' L' F' := by
  have old : ∀ m r, m ∉ F' → H' m = some r → m ∉ F ∧ H m = some r ∧ L' m = L m := fun m r hmF hr => by
    have h1 : m ∉ F := fun h => by rw [hgone m h hmF] at hr; cases hr
    obtain ⟨h2, h3⟩ := hout m h1 hmF
    exact ⟨h1, h2 ▸ hr, h3⟩
  have own : ∀ m r b o, m ∈ F' → H' m = some r → b < w0.heap.size → Wb.fp T m r (L' m) b o → FP T H L F b o := fun m r b o h1 h2 hb hf => by
    obtain ⟨i, hi⟩ := hin m r h1 h2
    exact (h.old i _ hi b o hb hf).resolve_right (hX' m r b o h1 h2 hf)
  have cross : ∀ n m r q, n ∈ F' → m ∉ F' → H' n = some r → H' m = some q → ∀ b o, Wb.fp T n r (L' n) b o → Wb.fp T m q (L' m) b o → False := fun n m r q hn hmF hr hq b o hf1 hf2 => by
    obtain ⟨h1, h2, h3⟩ := old m q hmF hq
    rw [h3] at hf2
    obtain ⟨k, x, hkF, hx, hfx⟩ := own n r b o hn hr ((hm.at_ m q h2).lt hf2) hf1
    exact hm.sep k m x q (fun e => h1 (e ▸ hkF)) hx h2 b o hfx hf2
  refine ⟨⟨fun n r hr => ?_, fun n m r q hne hr hq b o hf1 hf2 => ?_⟩, h.keep, fun m hmF r hr => ?_, fun m h1 => (Classical.em (m ∈ F)).imp id (hold m h1), fun b o hb ⟨n, r, hn, hr, hf⟩ => own n r b o hn hr hb hf, fun m r hr => (Classical.em (m ∈ F')).imp id fun h => old m r h hr⟩
  · by_cases hn : n ∈ F'
    · obtain ⟨i, hi⟩ := hin n r hn hr
      exact h.ok i _ hi
    · obtain ⟨h1, h2, h3⟩ := old n r hn hr
      rw [h3]
      refine (hm.at_ n r h2).keep h.keep fun b o hf hs => ?_
      rcases hs with ⟨k, x, hkF, hx, hfx⟩ | hx
      · exact hm.sep k n x r (fun e => h1 (e ▸ hkF)) hx h2 b o hfx hf
      · exact hX n r b o h2 hf hx
  · by_cases hn : n ∈ F' <;> by_cases hmF : m ∈ F'
    · obtain ⟨i, hi⟩ := hin n r hn hr
      obtain ⟨j, hj⟩ := hin m q hmF hq
      refine h.apart i j _ _ (fun e => ?_) hi hj b o hf1 hf2
      subst e
      rw [hi] at hj
      exact hne (Res.node.inj (Option.some.inj hj)).1
    · exact cross n m r q hn hmF hr hq b o hf1 hf2
    · exact cross m n q r hmF hn hq hr b o hf2 hf1
    · obtain ⟨h1, h2, h3⟩ := old n r hn hr
      obtain ⟨h4, h5, h6⟩ := old m q hmF hq
      rw [h3] at hf1
      rw [h6] at hf2
      exact hm.sep n m r q hne h2 h5 b o hf1 hf2
  · by_cases h1 : m ∈ F'
    · have := hold m h1 hmF; have := hm.lt hr; omega
    · obtain ⟨h2, h3⟩ := hout m hmF h1
      exact ⟨h2.trans hr, h3⟩

theorem TStep.frame {X : Nat → Nat → Prop} {w w' : World} {H H' : Store α} {L L' : Nat → Lay} {F F' : List Nat}
    (h : TStep T E X w H L F w' H' L' F') (A B : List Nat) (hA : ∀ m, m ∈ A ++ B → m ∉ F ∧ ∃ r, H m = some r) : TStep T E X w H L (A ++ F ++ B) w' H' L' (A ++ F' ++ B) := by
  refine ⟨h.mem, h.keep.mono fun b o _ hf => hf.imp (fun ⟨n, r, hn, hr, hf⟩ => ⟨n, r, by simp [hn], hr, hf⟩) id, fun m hm r hr => h.out m (fun hf => hm (by simp [hf])) r hr, fun m hm => ?_, fun b o hb hf => ?_, fun m r hr => ?_⟩
  · simp only [List.mem_append] at hm ⊢
    rcases hm with (hm | hm) | hm
    · exact .inl (.inl (.inl hm))
    · rcases h.new m hm with h1 | h1
      · exact .inl (.inl (.inr h1))
      · exact .inr h1
    · exact .inl (.inr hm)
  · obtain ⟨n, r, hn, hr, hf⟩ := hf
    by_cases hAB : n ∈ A ++ B
    · obtain ⟨h1, q, hq⟩ := hA n hAB
      obtain ⟨h2, h3⟩ := h.out n h1 q hq
      rw [h2] at hr
      cases hr
      rw [h3] at hf
      exact ⟨n, r, by simp only [List.mem_append] at hAB ⊢; rcases hAB with h | h <;> simp [h], hq, hf⟩
    · have : n ∈ F' := by
        simp only [List.mem_append] at hn hAB
        rcases hn with (hn | hn) | hn
        · exact absurd (.inl hn) hAB
        · exact hn
        · exact absurd (.inr hn) hAB
      obtain ⟨m, q, hm, hq, hfm⟩ := h.fp b o hb ⟨n, r, this, hr, hf⟩
      exact ⟨m, q, by simp [hm], hq, hfm⟩
  · rcases h.only m r hr with h1 | ⟨h1, h2, h3⟩
    · exact .inl (by simp [h1])
    · by_cases hAB : m ∈ A ++ B
      · exact .inl (by simp only [List.mem_append] at hAB ⊢; rcases hAB with h | h <;> simp [h])
      · exact .inr ⟨by simp only [List.mem_append, not_or] at hAB ⊢; exact ⟨⟨hAB.1, h1⟩, hAB.2⟩, h2, h3⟩
theorem TStep.same {X : Nat → Nat → Prop} {w w' : World} {H H' : Store α} {L L' : Nat → Lay} {F F' G' : List Nat} (h : TStep T E X w H L F w' H' L' F') (e : ∀ m, m ∈ G' ↔ m ∈ F') : TStep T E X w H L F w' H' L' G' :=
  ⟨h.mem, h.keep, h.out, fun m hm => h.new m ((e m).1 hm), fun b o hb ⟨n, r, hn, hr, hf⟩ => h.fp b o hb ⟨n, r, (e n).1 hn, hr, hf⟩, fun m r hr => (h.only m r hr).imp (e m).2 id⟩
/-- What F is where it begins, no order. -/
theorem TStep.same0 {X : Nat → Nat → Prop} {w w' : World} {H H' : Store α} {L L' : Nat → Lay} {F F' G : List Nat} (h : TStep T E X w H L F w' H' L' F') (e : ∀ m, m ∈ G ↔ m ∈ F) : TStep T E X w H L G w' H' L' F' :=
  ⟨h.mem, h.keep.mono fun b o _ hf => hf.imp (fun ⟨n, r, hn, hr, hf⟩ => ⟨n, r, (e n).2 hn, hr, hf⟩) id, fun m hm => h.out m fun h => hm ((e m).2 h), fun m hm => (h.new m hm).imp (e m).2 id, fun b o hb hf => by
    obtain ⟨n, r, hn, hr, hf⟩ := h.fp b o hb hf
    exact ⟨n, r, (e n).2 hn, hr, hf⟩, fun m r hr => (h.only m r hr).imp id fun ⟨h1, h2⟩ => ⟨fun h => h1 ((e m).1 h), h2⟩⟩

/-- What is owned is apart from what turns. -/
theorem Own.away {S K : Nat → Nat → Prop} {w0 w w' : World} {l : List (Res α)} (h : Own T E S w0 w l) (hk : Keep K w w') (hK : ∀ (i : Nat) (r : Res α), l[i]? = some r → ∀ b o, r.fp T b o → ¬ K b o) (hS : ∀ b o, b < w0.heap.size → K b o → S b o) : Own T E S w0 w' l :=
  ⟨fun i r hi => Res.keep (h.ok i r hi) hk (hK i r hi), h.apart, h.keep.trans hk hS, h.old⟩

/-- An empty slice in a block of its own. -/
theorem Row.empty {w : World} {ty s k : Nat} (h : w.heap[k]? = some (.cells #[] ty (0, 0))) : Row w ty s (some ⟨k, 0, none⟩) 0 [] :=
  .inr ⟨k, 0, #[], rfl, h, by simp, by simp, by simp⟩
/-- A row that is a whole block. -/
theorem Row.whole {w : World} {ty s k n : Nat} {cs : Array Value} (h : w.heap[k]? = some (.cells cs ty (0, 0))) (hn : cs.size = n * s) {l : List Value} (hl : cs.toList = l) : Row w ty s (some ⟨k, 0, none⟩) n l := by
  subst hl
  refine .inr ⟨k, 0, cs, rfl, h, by simp [hn], by simp [hn], fun i v hi => ?_⟩
  simpa using hi
theorem blk_two {w : World} {k : Nat} {o : Obj} (p : Obj) (h : w.heap.size = k) : ((w.alloc o).alloc p).heap[k]? = some o := by
  subst h; exact blk_alloc p (heap_alloc_new w o)

/-- n.items = append([]T{}, x..): whatever the items were. -/
theorem nt_fresh (ok : TyOk T) {w w0 w1 : World} {n : Nat} {r : NRec α} {L : Lay} (h : NodeAt T E w n r L) {its : List α} {a : Option Addr} {cap : Nat} (hk : Keep (fun _ _ => False) w w0) (hk1 : Keep (fun b _ => w.heap.size ≤ b) w0 w1) (hrow : Row w1 T.pair T.s a cap (E.all its)) (hle : its.length ≤ cap)
    (hfp : ∀ b o, rowFp a (cap * T.s) b o → w.heap.size ≤ b) :
    NTurn T E w n r L (w1.setCell ⟨n, 2, none⟩ (.slice a its.length cap)) { r with items := its } { L with ia := a, icap := cap } :=
  nt_items ok h ((hk.mono fun _ _ _ h => h.elim : Keep _ w w0).trans hk1 fun b o hb hf => absurd hf (by omega)) hrow hle fun b o hb hf => absurd (hfp b o hf) (by omega)
theorem nk_fresh (ok : TyOk T) {w w0 w1 : World} {n : Nat} {r : NRec α} {L : Lay} (h : NodeAt T E w n r L) {ks : List Nat} (hks : r.kids = some ks) {new : List Nat} {a : Option Addr} {cap : Nat} (hk : Keep (fun _ _ => False) w w0) (hk1 : Keep (fun b _ => w.heap.size ≤ b) w0 w1) (hrow : Row w1 T.nodeP 1 a cap (new.map ptr)) (hle : new.length ≤ cap)
    (hfp : ∀ b o, rowFp a cap b o → w.heap.size ≤ b) :
    NTurn T E w n r L (w1.setCell ⟨L.cb, 0, none⟩ (.slice a new.length cap)) { r with kids := some new } { L with ka := a, kcap := cap } :=
  nt_kids ok h hks ((hk.mono fun _ _ _ h => h.elim : Keep _ w w0).trans hk1 fun b o hb hf => absurd hf (by omega)) hrow hle fun b o hb hf => absurd (hfp b o hf) (by omega)
/-- What an append to an empty slice of a new block leaves. -/
theorem Grew.new {w w' : World} {ty s k m cap' : Nat} {a' : Option Addr} {cs : List Value} (h : Grew w w' ty s (some ⟨k, 0, none⟩) a' 0 m 0 cap' cs) {B : Nat} (hk : B ≤ w.heap.size) : Keep (fun b _ => B ≤ b) w w' ∧ ∀ b o, rowFp a' (cap' * s) b o → B ≤ b := by
  refine ⟨h.keep.mono fun b o _ ⟨x, y, e1, e2, e3, e4⟩ => ?_, fun b o hf => ?_⟩
  · omega
  · rcases h.fp b o hf with ⟨x, y, e1, e2, e3, e4⟩ | ⟨e, _⟩
    · omega
    · omega
theorem Grew.calm {w w' : World} {ty s m cap' : Nat} {a a' : Option Addr} {cs : List Value} (h : Grew w w' ty s a a' 0 m 0 cap' cs) : Keep (fun _ _ => False) w w' :=
  h.keep.mono fun b o _ ⟨x, y, e1, e2, e3, e4⟩ => by omega
/-- An append to an empty slice, some calm operations behind w. -/
theorem Grew.fresh {w w0 w' : World} {ty s m cap' : Nat} {a a' : Option Addr} {cs : List Value} (h : Grew w0 w' ty s a a' 0 m 0 cap' cs) (hk : Keep (fun _ _ => False) w w0) : Keep (fun b _ => w.heap.size ≤ b) w w' ∧ ∀ b o, rowFp a' (cap' * s) b o → w.heap.size ≤ b := by
  refine ⟨(hk.trans h.calm fun _ _ _ h => h).mono fun _ _ _ h => h.elim, fun b o hf => ?_⟩
  rcases h.fp b o hf with ⟨x, y, e1, e2, e3, e4⟩ | ⟨e, _⟩
  · omega
  · have := hk.size; omega
theorem cell_al {w : World} {b o : Nat} {v : Value} (ob : Obj) (h : w.cell? ⟨b, o, none⟩ = some v) : (w.alloc ob).cell? ⟨b, o, none⟩ = some v := (Keep.alloc (fun _ _ => False) w ob).cell' h fun h => h
theorem cell_grew {w w' : World} {ty s m cap' : Nat} {a a' : Option Addr} {cs : List Value} (hg : Grew w w' ty s a a' 0 m 0 cap' cs) {b o : Nat} {v : Value} (h : w.cell? ⟨b, o, none⟩ = some v) : w'.cell? ⟨b, o, none⟩ = some v := hg.calm.cell' h fun h => h
theorem fz_al {w : World} {b o : Nat} (ob : Obj) (hb : b < w.heap.size) (h : w.frozen? ⟨b, o, none⟩ = false) : b < (w.alloc ob).heap.size ∧ (w.alloc ob).frozen? ⟨b, o, none⟩ = false := ⟨by simp; omega, by rw [← h]; exact (Keep.alloc (fun _ _ => False) w ob).frozen hb⟩
theorem fz_grew {w w' : World} {ty s m cap' : Nat} {a a' : Option Addr} {cs : List Value} (hg : Grew w w' ty s a a' 0 m 0 cap' cs) {b o : Nat} (hb : b < w.heap.size) (h : w.frozen? ⟨b, o, none⟩ = false) : b < w'.heap.size ∧ w'.frozen? ⟨b, o, none⟩ = false := ⟨Nat.lt_of_lt_of_le hb hg.calm.size, by rw [← h]; exact hg.calm.frozen hb⟩
/-- A block that is there, cell o of which is v. -/
def Cell (w : World) (b o : Nat) (v : Value) : Prop := w.cell? ⟨b, o, none⟩ = some v ∧ b < w.heap.size ∧ w.frozen? ⟨b, o, none⟩ = false
theorem cell_set {w : World} {b o b' o' : Nat} {v u : Value} (hb : b ≠ b') (h : w.cell? ⟨b, o, none⟩ = some v) : (w.setCell ⟨b', o', none⟩ u).cell? ⟨b, o, none⟩ = some v :=
  (Keep.setCell (S := fun x _ => x = b') w b' o' u fun _ => rfl).cell' h hb
theorem blk_last {w : World} {k : Nat} {o p : Obj} (h : (w.alloc o).heap.size = k) : ((w.alloc o).alloc p).heap[k]? = some p := by
  subst h; exact heap_alloc_new _ p
/-- make([]T, l, c) -/
theorem run_make0 {P : Program} (t e s b : Nat) (ht : P.underlying t = some (.slice e)) (he : Elem P e s b) (l c : Nat) (hlc : l ≤ c) (hb : b * c ≤ 281474976710656) (h63 : c ≤ 9223372036854775807) :
    ∃ cs : Array Value, cs.size = c * s ∧ ∀ w, (Instr.makeSlice t (.int .i64 (l : Int)) (.int .i64 (c : Int))).run P w = .ok (.slice (some ⟨w.heap.size, 0, none⟩) l c) (w.alloc (.cells cs e)) := by
  obtain ⟨h2, h3, h4⟩ := he
  cases hi : P.info? e with
  | none => rw [hi] at h2; cases h2
  | some i =>
    rw [hi] at h2 h3 h4
    simp only [Option.map_some, Option.some.injEq, Option.bind_some] at h2 h3 h4
    subst h2
    subst h3
    cases hz : i.zero with
    | none => rw [hz] at h4; cases h4
    | some z =>
      refine ⟨madeCells z.cells (c * i.size), size_madeCells _ _, fun w => ?_⟩
      have := run_make (P := P) w t e i z ht hi hz .i64 .i64 l c (by omega) (by omega) (by
        have h : ((i.bytes * c : Nat) : Int) ≤ 281474976710656 := by omega
        rwa [Int.natCast_mul] at h) (by omega)
      simpa using this
end Go.Wb

namespace Go.Wb
open Go Go.RowKit

/-- A slice that grows: its row lies in blocks from B on. -/
structure Acc (B : Nat) (w : World) (ty s : Nat) (a : Option Addr) (n cap : Nat) (cs : List Value) : Prop where
  row : Row w ty s a cap cs
  len : cs.length = n * s
  le : n ≤ cap
  own : ∀ b o, rowFp a (cap * s) b o → B ≤ b

variable {B : Nat} {w w' : World} {ty s n m cap cap' : Nat} {a a' : Option Addr} {cs : List Value}

theorem Acc.calm (h : Acc B w ty s a n cap cs) {S : Nat → Nat → Prop} (hk : Keep S w w') (hS : ∀ b o, B ≤ b → ¬ S b o) : Acc B w' ty s a n cap cs :=
  ⟨h.row.keep' hk fun b o hf => hS b o (h.own b o hf), h.len, h.le, h.own⟩
theorem Acc.quiet (h : Acc B w ty s a n cap cs) (hk : Keep (fun _ _ => False) w w') : Acc B w' ty s a n cap cs := h.calm hk fun _ _ _ h => h
theorem Acc.nil (B : Nat) (w : World) (ty s : Nat) : Acc B w ty s none 0 0 [] := ⟨.inl ⟨rfl, rfl, rfl⟩, by simp, Nat.le_refl _, fun b o ⟨_, _, h, _⟩ => by cases h⟩
theorem Acc.grow (h : Acc B w ty s a n cap cs) (hB : B ≤ w.heap.size) {news : List Value} (hg : Grew w w' ty s a a' n m cap cap' (cs ++ news)) (hl : news.length = m * s) : Acc B w' ty s a' (n + m) cap' (cs ++ news) ∧ Keep (fun b _ => B ≤ b) w w' := by
  refine ⟨⟨hg.row, by rw [List.length_append, h.len, hl, Nat.add_mul], hg.cap, fun b o hf => ?_⟩, hg.keep.mono fun b o _ ⟨x, y, e1, e2, e3, e4⟩ => h.own b o ⟨x, y, e1, e2, by omega, e4⟩⟩
  rcases hg.fp b o hf with h1 | ⟨h1, _⟩
  · exact h.own b o h1
  · omega
theorem Acc.one (h : Acc B w ty s a n cap cs) {cs' : List Value} (e : cs = cs') : Acc B w ty s a n cap cs' := e ▸ h
end Go.Wb

namespace Go.Wb
open Go Go.RowKit

/-- The cells of a slice that is only read. -/
def Given (w : World) (a : Option Addr) (cs : List Value) : Prop := cs = [] ∨ ∃ b o, a = some ⟨b, o, none⟩ ∧ ∀ i v, cs[i]? = some v → w.cell? ⟨b, o + i, none⟩ = some v

theorem Given.keep {w w' : World} {a : Option Addr} {cs : List Value} (h : Given w a cs) (hk : Keep (fun _ _ => False) w w') : Given w' a cs := by
  rcases h with h | ⟨b, o, h1, h2⟩
  · exact .inl h
  · exact .inr ⟨b, o, h1, fun i v hi => hk.cell' (h2 i v hi) fun h => h⟩
theorem Given.cell {w : World} {a : Option Addr} {cs : List Value} (h : Given w a cs) {i : Nat} (hi : i < cs.length) : ∃ b o, a = some ⟨b, o, none⟩ ∧ w.cell? ⟨b, o + i, none⟩ = some cs[i] := by
  rcases h with h | ⟨b, o, h1, h2⟩
  · subst h; simp at hi
  · exact ⟨b, o, h1, h2 i _ (by simp)⟩
theorem Row.reads {w : World} {ty s : Nat} {a : Option Addr} {cap : Nat} {cs : List Value} (h : Row w ty s a cap cs) : Given w a cs := by
  rcases h with ⟨_, _, h⟩ | ⟨b, o, arr, rfl, h2, h3, h4, h5⟩
  · exact .inl h
  · exact .inr ⟨b, o, rfl, fun i v hi => by simp [World.cell?, h2, h5 i v hi]⟩
/-- In a window of blocks that were there, too. -/
theorem Given.keep' {S : Nat → Nat → Prop} {w w' : World} {a : Option Addr} {cs : List Value} (h : Given w a cs) (hk : Keep S w w') (hS : ∀ b o, b < w.heap.size → ¬ S b o) : Given w' a cs := h.keep (hk.mono fun b o hb hs => (hS b o hb hs).elim)
end Go.Wb

namespace Go.Wb
open Go Go.RowKit

/-- Nothing is appended. -/
theorem run_append_zero {P : Program} (w : World) (t ty e : TypeId) (s b : Nat) (ht : P.underlying t = some (.slice e)) (he : Elem P e s b) (a : Option Addr) (n cap : Nat) (hle : n ≤ cap) (sa : Option Addr) (c : Nat) :
    (Builtin.append_ #[t, t] ty #[.slice a n cap, .slice sa 0 c]).run P w = .ok (.slice a n cap) w := by
  obtain ⟨h2, _, _⟩ := he
  cases hi : P.info? e with
  | none => rw [hi] at h2; cases h2
  | some i =>
    have hst : ∀ q : Addr, (storeCells q ([] : List Value)).run P w = .ok () w := fun q => by simp [storeCells]
    cases sa with
    | none => cases a <;> simp [Builtin.append_, run_underlying ht, sizeOf, typeInfo, hi, Builtin.lenOf, hle, Builtin.firstCells, hst]
    | some ad =>
      have hf := run_firstCells_some (P := P) w i.size 0 ad 0 c [] (by simp) (by simp)
      cases a <;> simp [Builtin.append_, run_underlying ht, sizeOf, typeInfo, hi, Builtin.lenOf, hle, hf, hst]

/-- Whatever list is appended. -/
theorem run_append_src {P : Program} (w : World) (t ty e : TypeId) (s b : Nat) (ht : P.underlying t = some (.slice e)) (he : Elem P e s b)
    (a : Option Addr) (n cap : Nat) (xs : List Value) (hrow : Row w e s a cap xs) (hn : xs.length = n * s)
    (sa : Option Addr) (m c : Nat) (news : List Value) (hs : 0 < s) (hl : news.length = m * s) (hnews : Given w sa news) (h1 : ∀ u ∈ news, u.oneCell' = true)
    (hle : n ≤ cap) (h63 : n + m ≤ maxLen) (hbytes : (n + m) * b ≤ 140737488355328) :
    ∃ a' cap' w', (Builtin.append_ #[t, t] ty #[.slice a n cap, .slice sa m c]).run P w = .ok (.slice a' (n + m) cap') w' ∧ Grew w w' e s a a' n m cap cap' (xs ++ news) := by
  by_cases hm : m = 0
  · subst hm
    obtain rfl : news = [] := by simpa using hl
    exact ⟨a, cap, w, run_append_zero w t ty e s b ht he a n cap hle sa c, ⟨by simpa using hrow, Keep.refl _ _, fun _ _ h => .inl h, by omega⟩⟩
  · rcases hnews with h | ⟨q, o, rfl, hc⟩
    · subst h
      have : 0 < m * s := Nat.mul_pos (by omega) hs
      simp at hl
      omega
    · exact run_append_any w t ty e s b ht he a n cap xs hrow hn ⟨q, o, none⟩ m c news hl (fun j u hj => by
        have hadd : (⟨q, o, none⟩ : Addr).add j = ⟨q, o + j, none⟩ := by unfold Addr.add; split <;> simp_all
        rw [hadd]; exact hc j u hj) h1 (by omega) hle h63 hbytes

theorem wpList_append_src {P : Program} {w : World} {ops : Array Oper} {rest : List Oper} {o : Oper} {a : Act} {Q : Exit → Act → World → Prop} (hgd : o.guard = none) (s x : Operand) (t : TypeId)
    (ho : o.op = .call { callee := .builtin .append, args := #[s, x], argTypes := #[t, t] })
    (e : TypeId) (sz b : Nat) (ht : P.underlying t = some (.slice e)) (he : Elem P e sz b)
    (aa : Option Addr) (n cap : Nat) (xs : List Value) (hs : a.eval s = .slice aa n cap) (hrow : Row w e sz aa cap xs) (hn : xs.length = n * sz)
    (sa : Option Addr) (m c : Nat) (news : List Value) (hx : a.eval x = .slice sa m c) (hsz : 0 < sz) (hl : news.length = m * sz) (hnews : Given w sa news) (h1 : ∀ u ∈ news, u.oneCell' = true)
    (hle : n ≤ cap) (h63 : n + m ≤ maxLen) (hbytes : (n + m) * b ≤ 140737488355328)
    (h : ∀ a' cap' w', Grew w w' e sz aa a' n m cap cap' (xs ++ news) → wpList P ops Q rest (a.put o.dst (.slice a' (n + m) cap')) w') : wpList P ops Q (o :: rest) a w := by
  refine wpList_plain hgd fun K hK => ?_
  obtain ⟨a', cap', w', hr, hg⟩ := run_append_src (P := P) w t o.type e sz b ht he aa n cap xs hrow hn sa m c news hsz hl hnews h1 hle h63 hbytes
  unfold Oper.wp execOp
  simp only [ho, resolve, invoke, builtin, Sem.run_bind, Sem.run_pure, Result.andThen_ok, List.map_toArray, List.map_cons, List.map_nil, hs, hx, hr]
  exact hK _ _ (h a' cap' w' hg)

/-- A part of a given slice. -/
theorem Given.drop {w : World} {a : Option Addr} {cs : List Value} (h : Given w a cs) (k : Nat) {b o : Nat} (ha : a = some ⟨b, o, none⟩) : Given w (some ⟨b, o + k, none⟩) (cs.drop k) := by
  rcases h with h | ⟨b', o', h1, h2⟩
  · subst h; exact .inl (by simp)
  · rw [ha] at h1
    obtain ⟨rfl, rfl⟩ : b = b' ∧ o = o' := by simpa using h1
    refine .inr ⟨b, o + k, rfl, fun i v hi => ?_⟩
    rw [List.getElem?_drop] at hi
    have := h2 (k + i) v hi
    rwa [← Nat.add_assoc] at this
theorem Given.take {w : World} {a : Option Addr} {cs : List Value} (h : Given w a cs) (k : Nat) : Given w a (cs.take k) := by
  rcases h with h | ⟨b', o', h1, h2⟩
  · subst h; exact .inl (by simp)
  · refine .inr ⟨b', o', h1, fun i v hi => h2 i v ?_⟩
    rw [List.getElem?_take] at hi
    split at hi
    · exact hi
    · cases hi
end Go.Wb

namespace Go.Wb
open Go Go.RowKit

theorem int_wf {n : Int} (h : (Lit.int .i64 n).wf = true) : -9223372036854775808 ≤ n ∧ n ≤ 9223372036854775807 := by
  simp only [Lit.wf, Bool.and_eq_true] at h
  have h1 := of_decide_eq_true h.1
  have h2 := of_decide_eq_true h.2
  rw [show IntKind.i64.min = -9223372036854775808 from rfl] at h1
  rw [show IntKind.i64.max = 9223372036854775807 from rfl] at h2
  exact ⟨h1, h2⟩
/-- A new block reads as what was laid into it. -/
theorem new_given (w : World) (cs : List Value) (ty : TypeId) : Given (w.alloc (.cells cs.toArray ty)) (some ⟨w.heap.size, 0, none⟩) cs :=
  .inr ⟨_, 0, rfl, fun i v hi => by rw [Nat.zero_add]; have h := heap_alloc_new w (.cells cs.toArray ty); simp only [World.cell?, h]; simpa using hi⟩
/-- A slice that grows, told. -/
structure Rw where
  ty : Nat
  s : Nat
  a : Option Addr
  n : Nat
  cap : Nat
  cs : List Value
def Rw.fp (r : Rw) (b : Nat) : Prop := ∃ o, rowFp r.a (r.cap * r.s) b o
/-- Slices that grow, in blocks of their own from B on. -/
structure Accs (B : Nat) (w : World) (l : List Rw) : Prop where
  acc : ∀ (i : Nat) (r : Rw), l[i]? = some r → Acc B w r.ty r.s r.a r.n r.cap r.cs
  apart : ∀ (i j : Nat) (r q : Rw), i ≠ j → l[i]? = some r → l[j]? = some q → ∀ b, r.fp b → q.fp b → False

variable {B : Nat} {w w' : World} {l : List Rw}
theorem Accs.nil (B : Nat) (w : World) : Accs B w [] := ⟨fun i r h => by simp at h, fun i j r q _ h => by simp at h⟩
theorem Accs.quiet (h : Accs B w l) (hk : Keep (fun _ _ => False) w w') : Accs B w' l := ⟨fun i r hi => (h.acc i r hi).quiet hk, h.apart⟩
/-- What turns is none of the rows'. -/
theorem Accs.calm (h : Accs B w l) {S : Nat → Nat → Prop} (hk : Keep S w w') (hS : ∀ b o, B ≤ b → ¬ S b o) : Accs B w' l := ⟨fun i r hi => (h.acc i r hi).calm hk hS, h.apart⟩
/-- One more, in new blocks. -/
theorem Accs.add (h : Accs B w l) (hB : B ≤ w.heap.size) (hk : Keep (fun _ _ => False) w w') {r : Rw} (hr : Row w' r.ty r.s r.a r.cap r.cs) (hl : r.cs.length = r.n * r.s) (hle : r.n ≤ r.cap) (hn : ∀ b, r.fp b → w.heap.size ≤ b) : Accs B w' (l ++ [r]) := by
  have get : ∀ (i : Nat) (q : Rw), (l ++ [r])[i]? = some q → l[i]? = some q ∨ (i = l.length ∧ q = r) := fun i q hi => by
    rw [List.getElem?_append] at hi
    split at hi
    · exact .inl hi
    · rename_i hlt
      have : i - l.length = 0 := by
        rcases Nat.eq_zero_or_pos (i - l.length) with h | h
        · exact h
        · rw [List.getElem?_eq_none (by simp; omega)] at hi; cases hi
      rw [this] at hi
      exact .inr ⟨by omega, by simpa using hi.symm⟩
  have old : ∀ (i : Nat) (q : Rw), l[i]? = some q → ∀ b, q.fp b → b < w.heap.size := fun i q hi b ⟨o, hf⟩ => rowFp_lt (h.acc i q hi).row hf
  refine ⟨fun i q hi => ?_, fun i j p q hij hi hj b hp hq => ?_⟩
  · rcases get i q hi with h1 | ⟨_, rfl⟩
    · exact (h.acc i q h1).quiet hk
    · exact ⟨hr, hl, hle, fun b o hf => Nat.le_trans hB (hn b ⟨o, hf⟩)⟩
  · rcases get i p hi with h1 | ⟨e1, rfl⟩ <;> rcases get j q hj with h2 | ⟨e2, rfl⟩
    · exact h.apart i j p q hij h1 h2 b hp hq
    · have := old i p h1 b hp; have := hn b hq; omega
    · have := old j q h2 b hq; have := hn b hp; omega
    · omega
theorem Accs.addNil (h : Accs B w l) (hB : B ≤ w.heap.size) (ty s : Nat) : Accs B w (l ++ [⟨ty, s, none, 0, 0, []⟩]) :=
  h.add hB (Keep.refl _ _) (.inl ⟨rfl, rfl, rfl⟩) (by simp) (Nat.le_refl _) fun b ⟨o, _, _, h, _⟩ => by cases h
/-- One grows. -/
theorem Accs.grow (h : Accs B w l) (hB : B ≤ w.heap.size) (i : Nat) {ty s n cap m cap' : Nat} {a a' : Option Addr} {cs news : List Value} (hi : l[i]? = some ⟨ty, s, a, n, cap, cs⟩) (hg : Grew w w' ty s a a' n m cap cap' (cs ++ news)) (hl : news.length = m * s) :
    Accs B w' (l.set i ⟨ty, s, a', n + m, cap', cs ++ news⟩) ∧ Keep (fun b _ => B ≤ b) w w' := by
  obtain ⟨g1, g2⟩ := (h.acc i _ hi).grow hB hg hl
  have get : ∀ (j : Nat) (q : Rw), (l.set i ⟨ty, s, a', n + m, cap', cs ++ news⟩)[j]? = some q → (j = i ∧ q = ⟨ty, s, a', n + m, cap', cs ++ news⟩) ∨ (j ≠ i ∧ l[j]? = some q) := fun j q hj => by
    rw [List.getElem?_set] at hj
    split at hj
    · rename_i hij
      split at hj
      · exact .inl ⟨hij.symm, by simpa using hj.symm⟩
      · cases hj
    · rename_i hij
      exact .inr ⟨fun e => hij e.symm, hj⟩
  have old : ∀ (j : Nat) (q : Rw), l[j]? = some q → ∀ b, q.fp b → b < w.heap.size := fun j q hj b ⟨o, hf⟩ => rowFp_lt (h.acc j q hj).row hf
  have fp' : ∀ b, (⟨ty, s, a', n + m, cap', cs ++ news⟩ : Rw).fp b → (⟨ty, s, a, n, cap, cs⟩ : Rw).fp b ∨ w.heap.size ≤ b := fun b ⟨o, hf⟩ => by
    rcases hg.fp b o hf with h1 | ⟨h1, _⟩
    · exact .inl ⟨o, h1⟩
    · exact .inr (by omega)
  refine ⟨⟨fun j q hj => ?_, fun j k p q hjk hj hk b hp hq => ?_⟩, g2⟩
  · rcases get j q hj with ⟨rfl, rfl⟩ | ⟨hne, hj⟩
    · exact g1
    · have hq := h.acc j q hj
      refine ⟨hq.row.keep' hg.keep fun b o hf ⟨x, y, e1, e2, e3, e4⟩ => ?_, hq.len, hq.le, hq.own⟩
      exact h.apart j i q _ hne hj hi b ⟨o, hf⟩ ⟨o, x, y, e1, e2, by omega, e4⟩
  · rcases get j p hj with ⟨rfl, rfl⟩ | ⟨hj1, hj2⟩ <;> rcases get k q hk with ⟨rfl, rfl⟩ | ⟨hk1, hk2⟩
    · exact hjk rfl
    · rcases fp' b hp with h1 | h1
      · exact h.apart j k _ q hjk hi hk2 b h1 hq
      · have := old k q hk2 b hq; omega
    · rcases fp' b hq with h1 | h1
      · exact h.apart j k p _ hjk hj2 hi b hp h1
      · have := old j p hj2 b hp; omega
    · exact h.apart j k p q hjk hj2 hk2 b hp hq
/-- A cell of one is written. -/
theorem Accs.set (h : Accs B w l) (i : Nat) {ty s n cap b o j : Nat} {cs : List Value} (hi : l[i]? = some ⟨ty, s, some ⟨b, o, none⟩, n, cap, cs⟩) (hj : j < cs.length) (v : Value) : Accs B (w.setCell ⟨b, o + j, none⟩ v) (l.set i ⟨ty, s, some ⟨b, o, none⟩, n, cap, cs.set j v⟩) := by
  have hr := h.acc i _ hi
  have hlen := hr.row.len
  have hk : Keep (fun x y => x = b ∧ o ≤ y ∧ y < o + cap * s) w (w.setCell ⟨b, o + j, none⟩ v) := Keep.set (Keep.refl _ _) _ _ _ fun _ => ⟨rfl, by omega, by simp only at hlen; omega⟩
  have get : ∀ (k : Nat) (q : Rw), (l.set i ⟨ty, s, some ⟨b, o, none⟩, n, cap, cs.set j v⟩)[k]? = some q → (k = i ∧ q = ⟨ty, s, some ⟨b, o, none⟩, n, cap, cs.set j v⟩) ∨ (k ≠ i ∧ l[k]? = some q) := fun k q hk => by
    rw [List.getElem?_set] at hk
    split at hk
    · rename_i hij
      split at hk
      · exact .inl ⟨hij.symm, by simpa using hk.symm⟩
      · cases hk
    · rename_i hij
      exact .inr ⟨fun e => hij e.symm, hk⟩
  refine ⟨fun k q hq => ?_, fun k m p q hkm hp hq c hc hd => ?_⟩
  · rcases get k q hq with ⟨rfl, rfl⟩ | ⟨hne, hq2⟩
    · exact ⟨hr.row.setCell v hj, by rw [List.length_set]; exact hr.len, hr.le, hr.own⟩
    · have hq' := h.acc k q hq2
      refine ⟨hq'.row.keep' hk fun c y hf ⟨e, h1, h2⟩ => ?_, hq'.len, hq'.le, hq'.own⟩
      exact h.apart k i q _ hne hq2 hi c ⟨y, hf⟩ ⟨y, b, o, rfl, e, h1, h2⟩
  · rcases get k p hp with ⟨rfl, rfl⟩ | ⟨hk1, hp2⟩ <;> rcases get m q hq with ⟨rfl, rfl⟩ | ⟨hm1, hq2⟩
    · exact hkm rfl
    · exact h.apart k m _ q hkm hi hq2 c hc hd
    · exact h.apart k m p _ hkm hp2 hi c hc hd
    · exact h.apart k m p q hkm hp2 hq2 c hc hd
/-- A new block of one element. -/
theorem Accs.addBlk (h : Accs B w l) (hB : B ≤ w.heap.size) {w' : World} (hk : Keep (fun _ _ => False) w w') {ty s b n : Nat} {cs : List Value} (hb : w'.heap[b]? = some (.cells cs.toArray ty (0, 0))) (hw : w.heap.size ≤ b) (hs : cs.length = n * s) : Accs B w' (l ++ [⟨ty, s, some ⟨b, 0, none⟩, n, n, cs⟩]) :=
  h.add hB hk (.inr ⟨b, 0, cs.toArray, rfl, hb, by simp only; omega, by simp only [List.size_toArray]; omega, fun i v hi => by simpa using hi⟩) hs (Nat.le_refl _) fun c ⟨o, x, y, e, e2, _⟩ => by
    obtain ⟨rfl, _⟩ : b = x ∧ 0 = y := by simpa using e
    omega
/-- Some of them, in another order. -/
theorem Accs.sub (h : Accs B w l) {l' : List Rw} (f : Nat → Nat) (hf : ∀ i r, l'[i]? = some r → l[f i]? = some r) (inj : ∀ i j, i < l'.length → j < l'.length → f i = f j → i = j) : Accs B w l' :=
  ⟨fun i r hi => h.acc (f i) r (hf i r hi), fun i j r q hij hi hj => h.apart (f i) (f j) r q (fun e => hij (inj i j (List.getElem?_eq_some_iff.1 hi).1 (List.getElem?_eq_some_iff.1 hj).1 e)) (hf i r hi) (hf j q hj)⟩
end Go.Wb

namespace Go.Proofs.Ytckplcmieelmpaa.P
open Go.RowKit Go.Wb Go.Wb.Heap

/-- A key's place in an order of n numbers. -/
def place (key n : Int) : Int := (key.tmod n + n) % n
theorem place_bounds {key n : Int} (hn : 0 < n) : 0 ≤ place key n ∧ place key n < n := by
  unfold place
  exact ⟨Int.emod_nonneg _ (by omega), Int.emod_lt_of_pos _ hn⟩
/-- A key's rank. -/
def rankL (order : List Int) (key : Int) : Int := if order.length = 0 then key else order.getD (place key order.length).toNat 0

theorem remainder_any {w : World} {key n : Int} (hn : 0 < n) (hm : n ≤ 4000000000) :
    Calls Try.prog 187 #[.int .i64 key, .int .i64 n] w fun e w' => e = .returned (.int .i64 (place key n)) ∧ w = w' := by
  have h1 := Int.lt_tmod_of_pos key hn
  have h2 := Int.tmod_lt_of_pos key hn
  have h3 : wrap64 (key.tmod n + n) = key.tmod n + n := by unfold wrap64; omega
  go_enter Try.func187, Try.ntmps187
  go_wp2_with fail
  go_ret
  exact ⟨rfl, rfl⟩

set_option maxHeartbeats 1000000 in
theorem rank_any {w : World} {a : Option Addr} {cap : Nat} {order : List Int} (hrow : Given w a (order.map (Value.int .i64))) (hl : order.length ≤ 4000000000) (key : Int) :
    Calls Try.prog 148 #[.slice a order.length cap, .int .i64 key] w fun e w' => e = .returned (.int .i64 (rankL order key)) ∧ w = w' := by
  by_cases h0 : order.length = 0
  · have hr : rankL order key = key := if_pos h0
    have HR := Lib.hid hr
    clear hr
    rw [h0]
    go_enter Try.func148, Try.ntmps148
    go_wp2_with fail
    go_ret
    exact ⟨by rw [HR.out]; rfl, rfl⟩
  · have hpos : (0 : Int) < (order.length : Int) := by omega
    have hb := place_bounds (key := key) hpos
    have hp := Lib.hid (remainder_any (w := w) (key := key) hpos (by omega))
    have hr : rankL order key = order.getD (place key order.length).toNat 0 := if_neg h0
    generalize place key (order.length : Int) = p at *
    obtain ⟨i, rfl⟩ : ∃ i : Nat, p = i := ⟨p.toNat, by omega⟩
    simp only [Int.toNat_natCast] at hr
    have hi : i < order.length := by omega
    obtain ⟨b, o, ha, hc⟩ := hrow.cell (i := i) (by simpa using hi)
    subst ha
    have hg : order.getD i 0 = order[i] := by simp [hi]
    rw [hg] at hr
    simp only [List.getElem_map] at hc
    have HR := Lib.hid hr
    generalize order[i] = r at *
    clear hr hg hrow
    go_enter Try.func148, Try.ntmps148
    go_wp2_with fail
    refine hp.out.mono ?_
    rintro e w' ⟨rfl, rfl⟩
    go_wp2_with fail
    go_ret
    exact ⟨by rw [HR.out]; rfl, rfl⟩
end Go.Proofs.Ytckplcmieelmpaa.P

namespace Go.Proofs.Ytckplcmieelmpaa.P
open Go.RowKit Go.Wb Go.Wb.Heap

def Nothing : Nat → Nat → Prop := fun _ _ => False

theorem one1 {w : World} {n : Nat} {a : Value} {t : TypeId} (h : w.heap[n]? = some (.cells #[a] t (0, 0))) :
    w.cell? ⟨n, 0, none⟩ = some a ∧ ∀ o, w.frozen? ⟨n, o, none⟩ = false := by
  simp [World.cell?, World.frozen?, h]
theorem two2 {w : World} {n : Nat} {a b : Value} {t : TypeId} (h : w.heap[n]? = some (.cells #[a, b] t (0, 0))) :
    w.cell? ⟨n, 0, none⟩ = some a ∧ w.cell? ⟨n, 1, none⟩ = some b ∧ ∀ o, w.frozen? ⟨n, o, none⟩ = false := by
  simp [World.cell?, World.frozen?, h]
theorem three3 {w : World} {n : Nat} {a b c : Value} {t : TypeId} (h : w.heap[n]? = some (.cells #[a, b, c] t (0, 0))) :
    w.cell? ⟨n, 0, none⟩ = some a ∧ w.cell? ⟨n, 1, none⟩ = some b ∧ w.cell? ⟨n, 2, none⟩ = some c ∧ ∀ o, w.frozen? ⟨n, o, none⟩ = false := by
  simp [World.cell?, World.frozen?, h]
theorem four4 {w : World} {n : Nat} {a b c d : Value} {t : TypeId} (h : w.heap[n]? = some (.cells #[a, b, c, d] t (0, 0))) :
    w.cell? ⟨n, 0, none⟩ = some a ∧ w.cell? ⟨n, 1, none⟩ = some b ∧ w.cell? ⟨n, 2, none⟩ = some c ∧ w.cell? ⟨n, 3, none⟩ = some d ∧ ∀ o, w.frozen? ⟨n, o, none⟩ = false := by
  simp [World.cell?, World.frozen?, h]

/-- An order's function value: its list's cell at ko, all in blocks from lo below hi. -/
structure Less (W : World) (lo hi ko : Nat) (order : List Int) : Prop where
  ex : ∃ a cap, W.heap[ko]? = some (.cells #[.slice a order.length cap] 32 (0, 0)) ∧ Row W 3 1 a cap (order.map (Value.int .i64)) ∧ ∀ b o, rowFp a (cap * 1) b o → lo ≤ b ∧ b < hi
  lo : lo ≤ ko
  hi : ko < hi
theorem Less.keep {W W' : World} {lo hi ko : Nat} {order : List Int} {S : Nat → Nat → Prop} (h : Less W lo hi ko order) (hk : Keep S W W') (hS : ∀ b o, lo ≤ b → b < hi → ¬ S b o) : Less W' lo hi ko order := by
  obtain ⟨⟨a, cap, h1, h2, h3⟩, h4, h5⟩ := h
  exact ⟨⟨a, cap, blk_keep h1 hk fun o => hS ko o h4 h5, h2.keep' hk fun b o hf => hS b o (h3 b o hf).1 (h3 b o hf).2, h3⟩, h4, h5⟩

theorem elemI : Elem Try.prog 3 1 8 := ⟨by kernel_rfl, by kernel_rfl, by kernel_rfl⟩
theorem int_one {l : List Int} : ∀ u ∈ l.map (Value.int .i64), u.oneCell' = true := by
  intro u hu
  obtain ⟨x, _, rfl⟩ := List.mem_map.1 hu
  rfl
theorem row_empty {w : World} {n ty s : Nat} (h : w.heap[n]? = some (.cells #[] ty (0, 0))) : Row w ty s (some ⟨n, 0, none⟩) 0 [] := .inr ⟨n, 0, #[], rfl, h, by simp, by simp, by simp⟩
/-- A new list of numbers. -/
def NewInts (w : World) (l : List Int) (e : Ending) (w' : World) : Prop := ∃ a cap, e = .returned (.slice a l.length cap) ∧ Acc w.heap.size w' 3 1 a l.length cap (l.map (Value.int .i64)) ∧ Keep Nothing w w'

set_option maxRecDepth 100000 in
set_option maxHeartbeats 1000000 in
theorem clone_any {w : World} {a : Option Addr} {cap : Nat} {l : List Int} (hrow : Given w a (l.map (Value.int .i64))) (hl : l.length ≤ 4000000000) :
    Calls Try.prog 76 #[.slice a l.length cap] w (NewInts w l) := by
  have HR := Lib.hid hrow
  clear hrow
  cases a with
  | none =>
    have hl0 : l = [] := by
      rcases HR.out with h | ⟨b, o, h, _⟩
      · simpa using h
      · cases h
    subst hl0
    have hnil : ∀ W, (binOp .eql 32 (.slice none 0 cap) (.slice none 0 0)).run Try.prog W = .ok (.bool true) W := fun W => Go.Lib.run_eql_slice_nil W _ 3 none _ _ _ _ Try.underlying32
    go_enter Try.func76, Try.ntmps76
    go_wp2_with fail
    go_ret
    exact ⟨none, 0, rfl, Acc.nil _ _ _ _, Keep.refl _ _⟩
  | some ad =>
    have hnil : ∀ W, (binOp .eql 32 (.slice (some ad) l.length cap) (.slice none 0 0)).run Try.prog W = .ok (.bool false) W := fun W => Go.Lib.run_eql_slice_nil W _ 3 (some ad) _ _ _ _ Try.underlying32
    go_enter Try.func76, Try.ntmps76
    have hsrc := HR.out.keep (Keep.alloc Nothing w (.cells #[] 3))
    go_wp2_with (at_builtin; refine wpList_append_src rfl _ _ _ rfl 3 1 8 Try.underlying32 elemI _ 0 0 [] (by rfl) (row_empty (heap_alloc_new w _)) rfl (some ad) l.length cap (l.map (Value.int .i64)) (by rfl) (by omega) (by simp) hsrc int_one (by omega) (by simp only [maxLen]; omega) (by omega) ?_; intro a1 c1 W1 hg)
    go_ret
    have A0 : Acc w.heap.size (w.alloc (.cells #[] 3)) 3 1 (some ⟨w.heap.size, 0, none⟩) 0 0 [] := ⟨row_empty (heap_alloc_new w _), by simp, Nat.le_refl _, fun c p hf => by obtain ⟨x, y, h1, h2, _⟩ := hf; cases h1; omega⟩
    obtain ⟨A1, k1⟩ := A0.grow (by rw [World.size_alloc]; omega) hg (by simp)
    simp only [Nat.zero_add, List.nil_append] at A1
    exact ⟨a1, c1, by simp, A1, (Keep.alloc Nothing w _).trans k1 fun c p hc h => by omega⟩

/-- A function value that tells an order. -/
def BeforePost (w : World) (order : List Int) (e : Ending) (w' : World) : Prop := ∃ ko, e = .returned (.func (.func 147) #[] #[ptr ko]) ∧ Keep Nothing w w' ∧ Less w' w.heap.size w'.heap.size ko order
set_option maxHeartbeats 1000000 in
theorem before_any {w : World} {a : Option Addr} {cap : Nat} {order : List Int} (hrow : Given w a (order.map (Value.int .i64))) (hl : order.length ≤ 4000000000) :
    Calls Try.prog 104 #[.slice a order.length cap] w (BeforePost w order) := by
  have hc := Lib.hid (clone_any (cap := cap) hrow hl)
  have hmf : ∀ (fn : Fn) (first cap : Array Value) (w : World), (Instr.makeFunc fn first cap).run Try.prog w = .ok (.func fn first cap) w := fun _ _ _ _ => rfl
  clear hrow
  go_enter Try.func104, Try.ntmps104
  go_wp2_with fail
  refine hc.out.mono ?_
  rintro e w1 ⟨a1, c1, rfl, hA, hK⟩
  have HA := Lib.hid hA
  have HK := Lib.hid hK
  clear hc hA hK
  go_wp2_with fail
  go_ret
  have ka : Keep Nothing w1 (w1.alloc (.cells #[.slice a1 order.length c1] 32)) := Keep.alloc _ _ _
  have hs := HK.out.size
  refine ⟨w1.heap.size, rfl, HK.out.trans ka fun _ _ _ h => h, ⟨a1, c1, heap_alloc_new _ _, HA.out.row.keep' ka fun _ _ _ h => h, fun b o hf => ⟨HA.out.own b o hf, ?_⟩⟩, hs, by simp⟩
  have := rowFp_lt HA.out.row hf
  simp
  omega

/-- An item's rank. -/
def rk (order : List Int) (x : Itm) : Int := rankL order x.1
/-- An item's value. -/
def iv (x : Itm) : Value := .agg #[.int .i64 x.1, .int .i64 x.2]
set_option maxRecDepth 100000 in
set_option maxHeartbeats 1000000 in
theorem less_any {W : World} {lo hi ko : Nat} {order : List Int} (h : Less W lo hi ko order) (hl : order.length ≤ 4000000000) (x y : Itm) :
    Calls Try.prog 147 #[iv x, iv y, ptr ko] W fun e w' => e = .returned (.bool (decide (rankL order x.1 < rankL order y.1))) ∧ Keep Nothing W w' := by
  obtain ⟨⟨a, cap, h1, h2, _⟩, _, _⟩ := h
  have H1 := Lib.hid h1
  have H2 := Lib.hid h2.reads
  clear h1 h2
  unfold iv ptr
  go_enter Try.func147, Try.ntmps147
  go_upto_region 1 with (fail)
  refine wp_world ?_
  intro W1 hW1
  have k1 : Keep Nothing W W1 := by subst hW1; exact ((Keep.refl _ _).al _).al _
  have X1 : W1.heap[W.heap.size]? = some (.cells #[.int .i64 x.1, .int .i64 x.2] 42 (0, 0)) := by subst hW1; exact blk_alloc _ (heap_alloc_new W _)
  have Y1 : W1.heap[W.heap.size + 1]? = some (.cells #[.int .i64 y.1, .int .i64 y.2] 42 (0, 0)) := by
    subst hW1
    have := heap_alloc_new (W.alloc (.cells #[.int .i64 x.1, .int .i64 x.2] 42)) (.cells #[.int .i64 y.1, .int .i64 y.2] 42)
    rw [World.size_alloc] at this
    exact this
  clear hW1
  have HK := Lib.hid k1
  have c0 := (one1 (blk_keep H1.out k1 fun _ h => h)).1
  have x0 := (two2 X1).1
  have y0 := (two2 Y1).1
  have hx := Lib.hid (rank_any (cap := cap) (w := W1.drew) (H2.out.keep k1.dr) hl x.1)
  have hy := Lib.hid (rank_any (cap := cap) (w := W1.drew) (H2.out.keep k1.dr) hl y.1)
  clear k1 X1 Y1 H1 H2
  generalize W.heap.size = q at *
  refine wp_held (fun w' => w'.cell? ⟨ko, 0, none⟩ = some (.slice a order.length cap) ∧ w'.cell? ⟨q + 1, 0, none⟩ = some (.int .i64 y.1)) [4, 6] (by kernel_rfl) (by kernel_rfl) (by kernel_rfl) rfl ⟨c0, y0⟩ ?_
  simp only [segs, readsB, silentB, lenB, checks, List.nil_append, Bool.or_true, Bool.or_false, Bool.false_eq_true, reduceIte, Bool.false_and]
  go_wp2_with fail
  refine hx.out.mono ?_
  rintro e w' ⟨rfl, rfl⟩
  go_wp2_with fail
  refine held_next ⟨c0, y0⟩ ?_
  go_wp2_with fail
  refine hy.out.mono ?_
  rintro e w' ⟨rfl, rfl⟩
  go_wp2_with fail
  refine held_next ⟨c0, y0⟩ ?_
  go_wp2_with fail
  refine held_end ?_ ?_
  · refine ⟨?_, ?_, trivial⟩
    · exact ⟨.slice a order.length cap, fun w' hS => by simp [execOp, hS.1, go_sem]⟩
    · exact ⟨.int .i64 y.1, fun w' hS => by simp [execOp, hS.2, go_sem]⟩
  go_wp2_with fail
  go_ret
  exact ⟨rfl, HK.out.dr⟩
end Go.Proofs.Ytckplcmieelmpaa.P

namespace Go.Wb
variable {α : Type}
/-- The cells of one of many items. -/
theorem Enc.all_get (E : Enc α) : ∀ (l : List α) (j : Nat) (x : α), l[j]? = some x → ∀ c v, (E.enc x)[c]? = some v → (E.all l)[j * E.s + c]? = some v
  | [], j, x, h, _, _, _ => by simp at h
  | y :: l, 0, x, h, c, v, hc => by
    obtain rfl : y = x := by simpa using h
    obtain ⟨hlt, _⟩ := List.getElem?_eq_some_iff.1 hc
    rw [Enc.all_cons, Nat.zero_mul, Nat.zero_add, List.getElem?_append_left hlt]
    exact hc
  | y :: l, j + 1, x, h, c, v, hc => by
    have ih := Enc.all_get E l j x (by simpa using h) c v hc
    have hl := E.len y
    have e : (j + 1) * E.s + c = (E.enc y).length + (j * E.s + c) := by rw [hl, Nat.add_mul]; omega
    rw [Enc.all_cons, e, List.getElem?_append_right (by omega), Nat.add_sub_cancel_left]
    exact ih
theorem Enc.all_set_two (E : Enc α) {x : α} {a b : Value} (hx : E.enc x = [a, b]) (hs : E.s = 2) : ∀ (l : List α) (i : Nat), i < l.length → E.all (l.set i x) = ((E.all l).set (i * 2) a).set (i * 2 + 1) b
  | [], i, h => by simp at h
  | y :: l, 0, _ => by
    have hl := E.len y
    rw [hs] at hl
    obtain ⟨c, d, hy⟩ : ∃ c d, E.enc y = [c, d] := by
      match hq : E.enc y, hl with
      | [c, d], _ => exact ⟨c, d, rfl⟩
    simp [Enc.all_cons, hx, hy]
  | y :: l, i + 1, h => by
    have ih := Enc.all_set_two E hx hs l i (by simpa using h)
    have hl := E.len y
    rw [hs] at hl
    obtain ⟨c, d, hy⟩ : ∃ c d, E.enc y = [c, d] := by
      match hq : E.enc y, hl with
      | [c, d], _ => exact ⟨c, d, rfl⟩
    have e : (i + 1) * 2 = i * 2 + 2 := by omega
    simp only [List.set_cons_succ, Enc.all_cons, hy, ih, e]
    simp
end Go.Wb

namespace Go.Proofs.Ytckplcmieelmpaa.P
open Go.RowKit Go.Wb Go.Wb.Heap

/-- The cells of an item of a list's queue. -/
def EE : Enc Itm := ⟨fun x => [.int .i64 x.1, .int .i64 x.2, .pointer none], 3, fun _ => rfl, fun x v hv => by simp at hv; rcases hv with rfl | rfl | rfl <;> rfl, by omega⟩
theorem elemE : Elem Try.prog 209 3 24 := ⟨by kernel_rfl, by kernel_rfl, by kernel_rfl⟩

/-- The list at block lb, its queue's row in blocks from hi on. -/
def ListAt (W : World) (lb hi ko : Nat) (l : List Itm) : Prop := ∃ a cap, W.heap[lb]? = some (.cells #[.func (.func 147) #[] #[ptr ko], .int .i64 0, .int .i64 0, .slice a l.length cap] 144 (0, 0)) ∧ Acc hi W 209 3 a l.length cap (EE.all l)

/-- Block b, if it is there, has cells of type t. -/
def typeAt (W : World) (b t : Nat) : Prop := ∀ arr ty f, W.heap[b]? = some (.cells arr ty f) → ty = t
/-- The cells that a list's calls turn: its own, and cells of queues. -/
def SQ (lb hi : Nat) (W : World) (b _o : Nat) : Prop := b = lb ∨ hi ≤ b ∧ typeAt W b 209
theorem type_back {S : Nat → Nat → Prop} {W W' : World} (hk : Keep S W W') {b t : Nat} (h : typeAt W' b t) : typeAt W b t := by
  intro arr ty f hb
  obtain ⟨c', h1, _⟩ := hk.at_ hb
  exact h _ _ _ h1
theorem sq_trans {lb hi : Nat} {W W1 W2 : World} (h : Keep (SQ lb hi W) W W1) (k : Keep (SQ lb hi W1) W1 W2) : Keep (SQ lb hi W) W W2 :=
  h.trans k fun x o _ hs => by
    rcases hs with hs | ⟨h1, h2⟩
    · exact .inl hs
    · exact .inr ⟨h1, type_back h h2⟩
theorem sq_quiet {lb hi : Nat} {W W1 : World} (k : Keep Nothing W W1) : Keep (SQ lb hi W) W W1 := k.mono fun _ _ _ h => h.elim
theorem sq_ahead {lb hi : Nat} {W W1 W2 : World} (k : Keep Nothing W W1) (h : Keep (SQ lb hi W1) W1 W2) : Keep (SQ lb hi W) W W2 := sq_trans (sq_quiet k) h
theorem sq_behind {lb hi : Nat} {W W1 W2 : World} (h : Keep (SQ lb hi W) W W1) (k : Keep Nothing W1 W2) : Keep (SQ lb hi W) W W2 := sq_trans h (sq_quiet k)
/-- Cells of a queue's row turn. -/
theorem sq_row {lb hi s cap : Nat} {W W1 : World} {a : Option Addr} {cs : List Value} (hr : Row W 209 s a cap cs) (ho : ∀ b o, rowFp a (cap * s) b o → hi ≤ b) (k : Keep (rowFp a (cap * s)) W W1) : Keep (SQ lb hi W) W W1 :=
  k.mono fun b o _ hf => .inr ⟨ho b o hf, fun arr ty f hb => by
    obtain ⟨arr', ha⟩ := hr.block ⟨_, hf⟩
    rw [ha] at hb
    cases hb
    rfl⟩
theorem sq_hdr {lb hi o : Nat} {W : World} (v : Value) : Keep (SQ lb hi W) W (W.setCell ⟨lb, o, none⟩ v) := Keep.setCell _ _ _ _ fun _ => .inl rfl

theorem ListAt.keep {W W' : World} {lb hi ko : Nat} {l : List Itm} (h : ListAt W lb hi ko l) (k : Keep Nothing W W') : ListAt W' lb hi ko l := by
  obtain ⟨a, cap, h1, h2⟩ := h
  exact ⟨a, cap, blk_keep h1 k fun _ h => h, h2.quiet k⟩
theorem Less.sq {W W' : World} {lb lo hi ko : Nat} {order : List Int} (h : Less W lo hi ko order) (hlb : lb < lo) (k : Keep (SQ lb hi W) W W') : Less W' lo hi ko order :=
  h.keep k fun b o h1 h2 hs => by rcases hs with hs | ⟨hs, _⟩ <;> omega

theorem all_set_three : ∀ (l : List Itm) (i : Nat) (x : Itm), i < l.length → EE.all (l.set i x) = (((EE.all l).set (i * 3) (.int .i64 x.1)).set (i * 3 + 1) (.int .i64 x.2)).set (i * 3 + 2) (.pointer none)
  | [], i, x, h => by simp at h
  | y :: l, 0, x, _ => by simp [Enc.all_cons, EE]
  | y :: l, i + 1, x, h => by
    have ih := all_set_three l i x (by simpa using h)
    have e0 : (i + 1) * 3 = (EE.enc y).length + i * 3 := by rw [EE.len]; simp [EE]; omega
    have e1 : (i + 1) * 3 + 1 = (EE.enc y).length + (i * 3 + 1) := by rw [EE.len]; simp [EE]; omega
    have e2 : (i + 1) * 3 + 2 = (EE.enc y).length + (i * 3 + 2) := by rw [EE.len]; simp [EE]; omega
    rw [List.set_cons_succ, Enc.all_cons, Enc.all_cons, ih, e0, List.set_append_right _ _ (by omega), Nat.add_sub_cancel_left, ← e0, e1, List.set_append_right _ _ (by omega), Nat.add_sub_cancel_left, e2, List.set_append_right _ _ (by omega), Nat.add_sub_cancel_left]
/-- An item is put into a row's place. -/
def put3 (W : World) (b o : Nat) (x : Itm) : World := ((W.setCell ⟨b, o, none⟩ (.int .i64 x.1)).setCell ⟨b, o + 1, none⟩ (.int .i64 x.2)).setCell ⟨b, o + 1 + 1, none⟩ (.pointer none)
theorem row_put {W : World} {b o cap ty : Nat} {l : List Itm} (h : Row W ty 3 (some ⟨b, o, none⟩) cap (EE.all l)) {i : Nat} (hi : i < l.length) (x : Itm) : Row (put3 W b (o + i * 3) x) ty 3 (some ⟨b, o, none⟩) cap (EE.all (l.set i x)) := by
  have hl : (EE.all l).length = l.length * 3 := EE.all_len l
  rw [all_set_three l i x hi]
  have r1 := h.setCell (j := i * 3) (.int .i64 x.1) (by omega)
  have r2 := r1.setCell (j := i * 3 + 1) (.int .i64 x.2) (by rw [List.length_set]; omega)
  have r3 := r2.setCell (j := i * 3 + 2) (.pointer none) (by rw [List.length_set, List.length_set]; omega)
  exact r3
theorem keep_put {W : World} {b o cap s : Nat} (i : Nat) (x : Itm) (hi : i < cap) (hs : s = 3) : Keep (rowFp (some ⟨b, o, none⟩) (cap * s)) W (put3 W b (o + i * 3) x) := by
  subst hs
  have f : ∀ j, j < 3 → rowFp (some ⟨b, o, none⟩) (cap * 3) b (o + i * 3 + j) := fun j hj => ⟨b, o, rfl, rfl, by omega, by omega⟩
  exact (((Keep.refl _ _).set _ _ _ fun _ => f 0 (by omega)).set _ _ _ fun _ => f 1 (by omega)).set _ _ _ fun _ => f 2 (by omega)
/-- The cells of an item of a row. -/
theorem item3 {W : World} {a : Option Addr} {l : List Itm} (h : Given W a (EE.all l)) {i : Nat} (hi : i < l.length) : ∃ b o, a = some ⟨b, o, none⟩ ∧ W.cell? ⟨b, o + i * 3, none⟩ = some (.int .i64 (at_ l i).1) ∧ W.cell? ⟨b, o + i * 3 + 1, none⟩ = some (.int .i64 (at_ l i).2) ∧ W.cell? ⟨b, o + i * 3 + 1 + 1, none⟩ = some (.pointer none) := by
  have h0 := EE.all_get l i _ (at_some hi) 0 (.int .i64 (at_ l i).1) rfl
  have h1 := EE.all_get l i _ (at_some hi) 1 (.int .i64 (at_ l i).2) rfl
  have h2 := EE.all_get l i _ (at_some hi) 2 (.pointer none) rfl
  simp only [show EE.s = 3 from rfl] at h0 h1 h2
  rcases h with h | ⟨b, o, ha, hc⟩
  · rw [h] at h0; simp at h0
  · exact ⟨b, o, ha, hc _ _ h0, by have := hc _ _ h1; rwa [← Nat.add_assoc] at this, by have := hc _ _ h2; rwa [← Nat.add_assoc] at this⟩
theorem there3 {W : World} {b o : Nat} {u v x : Value} (h0 : W.cell? ⟨b, o, none⟩ = some u) (h1 : W.cell? ⟨b, o + 1, none⟩ = some v) (h2 : W.cell? ⟨b, o + 1 + 1, none⟩ = some x) (hf : ∀ i, W.frozen? ⟨b, i, none⟩ = false) : W.there b o 3 := fun j hj => by
  refine ⟨?_, hf _⟩
  match j, hj with
  | 0, _ => rw [Nat.add_zero, h0]; rfl
  | 1, _ => rw [h1]; rfl
  | 2, _ => rw [h2]; rfl
def ev (x : Itm) : Value := .agg #[.int .i64 x.1, .int .i64 x.2, .pointer none]
theorem one3 (x : Itm) : (#[.int .i64 x.1, .int .i64 x.2, .pointer none] : Array Value).all (·.oneCell') = true := by simp [Value.oneCell']
theorem put3_eq (W : World) (b o : Nat) (x : Itm) : W.setCells b o [.int .i64 x.1, .int .i64 x.2, .pointer none] = put3 W b o x := rfl
theorem wpl_world {P : Program} {ops : Array Oper} {Q : Exit → Act → World → Prop} {l : List Oper} {a : Act} {w : World} (h : ∀ W, W = w → wpList P ops Q l a W) : wpList P ops Q l a w := h w rfl
theorem ee_take (l : List Itm) (n : Nat) : EE.all (l.take n) = (EE.all l).take (n * 3) := by
  induction l generalizing n with
  | nil => simp [Enc.all]
  | cons x l ih =>
    cases n with
    | zero => simp [Enc.all]
    | succ n =>
      rw [List.take_succ_cons, Enc.all_cons, Enc.all_cons, ih n, show (n + 1) * 3 = (EE.enc x).length + n * 3 by rw [EE.len]; simp [EE]; omega, List.take_append, Nat.add_sub_cancel_left, List.take_of_length_le (l := EE.enc x) (by omega)]
/-- Two places of a queue's row change their items. -/
structure Swapped (W : World) (lb hi ko b o cap A B : Nat) (l : List Itm) (hdr : Value) (W1 W2 : World) : Prop where
  c1 : W1.cell? ⟨lb, 3, none⟩ = some hdr
  t1 : W1.there b (o + B * 3) 3
  c2 : W2.cell? ⟨lb, 3, none⟩ = some hdr
  list : ListAt W2 lb hi ko (swap l A B)
  hd : W2.heap[lb]? = some (.cells #[.func (.func 147) #[] #[ptr ko], .int .i64 0, .int .i64 0, hdr] 144 (0, 0))
  acc : Acc hi W2 209 3 (some ⟨b, o, none⟩) l.length cap (EE.all (swap l A B))
  fine : Keep (rowFp (some ⟨b, o, none⟩) (cap * 3)) W W2
  keep : Keep (SQ lb hi W) W W2
theorem swap_cells {W : World} {lb hi ko b o cap : Nat} {l : List Itm} {A B : Nat} (hd : W.heap[lb]? = some (.cells #[.func (.func 147) #[] #[ptr ko], .int .i64 0, .int .i64 0, .slice (some ⟨b, o, none⟩) l.length cap] 144 (0, 0)))
    (hA : Acc hi W 209 3 (some ⟨b, o, none⟩) l.length cap (EE.all l)) (hlb : lb < hi) (h1 : A < l.length) (h2 : B < l.length) :
    Swapped W lb hi ko b o cap A B l (.slice (some ⟨b, o, none⟩) l.length cap) (put3 W b (o + A * 3) (at_ l B)) (put3 (put3 W b (o + A * 3) (at_ l B)) b (o + B * 3) (at_ l A)) := by
  have hle := hA.le
  have hb : hi ≤ b := hA.own b o ⟨b, o, rfl, rfl, Nat.le_refl _, by omega⟩
  have r1 := row_put hA.row h1 (at_ l B)
  have k1 : Keep (rowFp (some ⟨b, o, none⟩) (cap * 3)) W (put3 W b (o + A * 3) (at_ l B)) := keep_put A _ (by omega) rfl
  have r2 := row_put r1 (i := B) (by rw [List.length_set]; exact h2) (at_ l A)
  have k2 : Keep (rowFp (some ⟨b, o, none⟩) (cap * 3)) (put3 W b (o + A * 3) (at_ l B)) (put3 (put3 W b (o + A * 3) (at_ l B)) b (o + B * 3) (at_ l A)) := keep_put B _ (by omega) rfl
  have nb : ∀ p, ¬ rowFp (some ⟨b, o, none⟩) (cap * 3) lb p := fun p ⟨x, y, e, e1, _⟩ => by cases e; omega
  have d1 := blk_keep hd k1 nb
  have d2 := blk_keep d1 k2 nb
  have k12 := k1.trans k2 fun _ _ _ h => h
  have acc : Acc hi (put3 (put3 W b (o + A * 3) (at_ l B)) b (o + B * 3) (at_ l A)) 209 3 (some ⟨b, o, none⟩) l.length cap (EE.all (swap l A B)) := ⟨r2, by
    have := EE.all_len (swap l A B)
    rw [swap_length] at this
    exact this, hle, hA.own⟩
  refine ⟨(four4 d1).2.2.2.1, ?_, (four4 d2).2.2.2.1, ⟨some ⟨b, o, none⟩, cap, by rw [swap_length]; exact d2, by rw [swap_length]; exact acc⟩, d2, acc, k12, sq_row hA.row hA.own k12⟩
  · obtain ⟨b2, o2, e, y0, y1, y2⟩ := item3 r1.reads (i := B) (by rw [List.length_set]; exact h2)
    cases e
    exact there3 y0 y1 y2 r1.frozen
end Go.Proofs.Ytckplcmieelmpaa.P

namespace Go.Proofs.Ytckplcmieelmpaa.P
open Go.RowKit Go.Wb Go.Wb.Heap

def PushPost (W : World) (lb hi ko : Nat) (order : List Int) (l : List Itm) (x : Itm) (e : Ending) (W' : World) : Prop :=
  e = .returned (.tuple #[]) ∧ ∃ l', IsHeap (rk order) l' ∧ l'.Perm (l ++ [x]) ∧ ListAt W' lb hi ko l' ∧ Keep (SQ lb hi W) W W'

set_option maxRecDepth 100000 in
set_option maxHeartbeats 16000000 in
theorem push_any {W : World} {lb lo hi ko : Nat} {order : List Int} {l : List Itm} (hL : Less W lo hi ko order) (hq : ListAt W lb hi ko l) (hh : IsHeap (rk order) l) (hlb : lb < lo) (hlo : lo ≤ hi) (hhi : hi ≤ W.heap.size) (hol : order.length ≤ 4000000000) (hl : l.length ≤ 4000000000) (x : Itm) :
    Calls Try.prog 149 #[ptr lb, ev x] W (PushPost W lb hi ko order l x) := by
  obtain ⟨a, cap, hdr, hA⟩ := hq
  have HL := Lib.hid hL
  have HD := Lib.hid hdr
  have HA := Lib.hid hA
  have HH := Lib.hid hh
  have HB := Lib.hid (And.intro hlb (And.intro hlo hhi))
  clear hL hdr hA hh hlb hlo hhi
  have HWS : Hid (∃ s, s = W.heap.size) := Lib.hid ⟨_, rfl⟩
  unfold ev ptr
  go_enter Try.func149, Try.ntmps149
  go_upto_region 1 with (fail)
  refine wp_world ?_
  intro W1 hW1
  have k1 : Keep Nothing W W1 := by subst hW1; exact (Keep.refl _ _).al _
  have X1 : W1.heap[W.heap.size]? = some (.cells #[.int .i64 x.1, .int .i64 x.2, .pointer none] 209 (0, 0)) := by subst hW1; exact heap_alloc_new W _
  clear hW1
  have K1 := Lib.hid k1
  have HD1 := Lib.hid (blk_keep HD.out k1 fun _ h => h)
  have HA1 := Lib.hid (HA.out.quiet k1)
  obtain ⟨d0, _, _, d3, fz⟩ := four4 HD1.out
  obtain ⟨x0, x1, x2, _⟩ := three3 X1
  have hsz := k1.size
  clear k1 X1
  generalize hqq : W.heap.size = q at *
  refine wp_held (fun w' => w'.cell? ⟨lb, 3, none⟩ = some (.slice a l.length cap)) [4] (by kernel_rfl) (by kernel_rfl) (by kernel_rfl) rfl d3 ?_
  simp only [segs, readsB, silentB, lenB, checks, List.nil_append, Bool.or_true, Bool.or_false, Bool.false_eq_true, reduceIte, Bool.false_and, show (Builtin.append == Builtin.len) = false from rfl]
  go_wp2_with fail
  refine held_world ?_
  intro W2 hW2
  have k2 : Keep Nothing W1 W2 := by subst hW2; exact ((Keep.refl _ _).al _).dr
  have N2 : W2.heap[W1.heap.size]? = some (.cells (EE.enc x).toArray 209 (0, 0)) := by subst hW2; exact heap_alloc_new W1 _
  clear hW2
  have K2 : Hid (Keep Nothing W W2) := Lib.hid (K1.out.trans k2 fun _ _ _ h => h)
  have HD2 := Lib.hid (blk_keep HD1.out k2 fun _ h => h)
  have HA2 := Lib.hid (HA1.out.quiet k2)
  have d3' := (four4 HD2.out).2.2.2.1
  have hsz2 := K2.out.size
  clear K1 HD1 HA1 k2 d0 d3 fz x0 x1 x2
  refine held_next d3' ?_
  refine wpList_append_any rfl _ _ _ rfl 209 3 24 Try.underlying142 elemE a l.length cap (EE.all l) rfl HA2.out.row HA2.out.len ⟨W1.heap.size, 0, none⟩ 1 1 (EE.enc x) ?_ (EE.len _) ?_ (EE.one _) (by omega) HA2.out.le (by simp only [maxLen]; omega) (by omega) ?_
  · rfl
  · exact new_cells N2
  intro a' cap' W3 hG
  obtain ⟨hA3, hK3⟩ := HA2.out.grow (by have := HB.out; omega) hG (EE.len _)
  have HA3 := Lib.hid hA3
  have K3 : Hid (Keep (SQ lb hi W) W W3) := Lib.hid (sq_ahead K2.out (sq_row HA2.out.row HA2.out.own (hG.keep.mono fun b o _ h => grow_row HA2.out.le h)))
  have HD3 := Lib.hid (blk_keep HD2.out hK3 fun o (h : hi ≤ lb) => by have := HB.out; omega)
  obtain ⟨_, _, _, d3, fz⟩ := four4 HD3.out
  clear HA2 K2 HD2 hA3 hK3 hG N2 d3'
  refine held_next d3 ?_
  simp only [Act.put]
  go_wp2_with fail
  refine held_world ?_
  intro W4 hW4
  refine held_end ?_ ?_
  · exact ⟨⟨.slice a l.length cap, fun w' hS => by simp [execOp, hS, go_sem]⟩, trivial⟩
  have eall : EE.all l ++ EE.enc x = EE.all (l ++ [x]) := by rw [Enc.all_append]; simp [Enc.all]
  have K4 : Hid (Keep (SQ lb hi W) W W4) := by subst hW4; exact Lib.hid (sq_trans K3.out (sq_hdr _))
  have HL4 : Hid (ListAt W4 lb hi ko (l ++ [x])) := by
    refine Lib.hid ⟨a', cap', ?_, ?_⟩
    · subst hW4; rw [List.length_append]; exact blk_set _ HD3.out
    · rw [← eall, List.length_append]
      subst hW4
      exact HA3.out.calm (S := fun c _ => c = lb) (Keep.set (Keep.refl _ _) _ _ _ fun _ => rfl) fun c o h1 h2 => by have := HB.out; omega
  have RI := Lib.hid (Rising.init HH.out x)
  have hd4 : W4.cell? ⟨lb, 3, none⟩ = some (.slice a' (l.length + 1) cap') := by subst hW4; exact (four4 (blk_set _ HD3.out)).2.2.2.1
  clear hW4 eall HA3 K3 HD3 d3 fz HH HA HD
  go_wp2_with fail
  go_loopg [4, 5] (l.length + 1) (fun k v4 v5 wr => ∃ (l' : List Itm) (i : Nat) (p : Int), v4 = .int .i64 i ∧ v5 = .int .i64 p ∧ (0 < i → p = ((i - 1) / 2 : Nat)) ∧ i + 1 = k ∧ i ≤ l.length ∧ Rising (rk order) (l ++ [x]) l' i ∧ ListAt wr lb hi ko l' ∧ Keep (SQ lb hi W) W wr)
  case atStart =>
    refine ⟨l ++ [x], l.length, _, rfl, rfl, fun h => ?_, rfl, Nat.le_refl _, RI.out, HL4.out, K4.out⟩
    rw [Int.tdiv_eq_ediv_of_nonneg (by omega)]
    omega
  case round =>
    obtain ⟨l', i, p, rfl, rfl, hp, hk, hil, hR, hLi, hKr⟩ := hrel
    have HR := Lib.hid hR
    have HLI := Lib.hid hLi
    have HKR := Lib.hid hKr
    have HP := Lib.hid hp
    clear hR hLi hKr hp RI HL4 K4 hd4
    by_cases h0 : i = 0
    · subst h0
      go_wp2_with fail
      refine wp_calm (by kernel_rfl) (by kernel_rfl) rfl ?_
      simp only [List.flatMap_cons, List.flatMap_nil, checks, chk, nilLit, List.cons_append, List.nil_append, List.append_nil]
      go_wp2_with fail
      rw [HQ_normal]
      go_wp2_with fail
      go_end0
      exact ⟨rfl, l', HR.out.done (.inl rfl), HR.out.perm, HLI.out.keep (Keep.drew _ _), sq_behind HKR.out (Keep.drew _ _)⟩
    · obtain rfl := HP.out (by omega)
      generalize hpe : (i - 1) / 2 = p at *
      have HPE := Lib.hid hpe
      have hpi : p < i := by omega
      have hlen : l'.length = l.length + 1 := by rw [HR.out.perm.length_eq]; simp
      obtain ⟨a2, cap2, hdr2, hA2⟩ := HLI.out
      have HD2 := Lib.hid hdr2
      have HA2 := Lib.hid hA2
      obtain ⟨b, o, rfl, y0, y1, y2⟩ := item3 (HA2.out.row.reads.keep (Keep.drew _ _)) (i := i) (by omega)
      obtain ⟨b2, o2, e2, z0, z1, z2⟩ := item3 (HA2.out.row.reads.keep (Keep.drew _ wr)) (i := p) (by omega)
      obtain ⟨rfl, rfl⟩ : b = b2 ∧ o = o2 := by simpa using e2
      obtain ⟨d0, _, _, d3, fz⟩ := four4 (blk_keep HD2.out (Keep.drew Nothing wr) fun _ h => h)
      have hcap := HA2.out.le
      have HLE := Lib.hid hlen
      have hlt' : i < l'.length := by omega
      have HPL : Hid (p ≤ l.length ∧ p ≠ i ∧ 0 < i ∧ ((p : Int) - 1).tdiv 2 = ((p : Int) - 1).tdiv 2) := Lib.hid ⟨by omega, by omega, by omega, rfl⟩
      have hcall := Lib.hid (less_any ((HL.out.sq HB.out.1 HKR.out).keep (Keep.drew Nothing wr) fun _ _ _ _ h => h) hol (at_ l' i) (at_ l' p))
      rw [hlen] at d3
      clear hdr2 hA2 hpe hlen e2 HLI HP
      generalize hxi : at_ l' i = xi at *
      generalize hxp : at_ l' p = xp at *
      have HXI := Lib.hid hxi
      have HXP := Lib.hid hxp
      clear hxi hxp
      unfold iv ptr at *
      by_cases hlt : rankL order xi.1 < rankL order xp.1
      · have HLT := Lib.hid hlt
        have hdec : decide (rankL order xi.1 < rankL order xp.1) = true := decide_eq_true hlt
        rw [hdec] at hcall
        clear hlt hdec
        go_wp2_with fail
        refine wp_calm (by kernel_rfl) (by kernel_rfl) rfl ?_
        simp only [List.flatMap_cons, List.flatMap_nil, checks, chk, nilLit, List.cons_append, List.nil_append, List.append_nil]
        go_wp2_with fail
        refine hcall.out.mono ?_
        rintro e w5 ⟨rfl, hK5⟩
        have K5 := Lib.hid ((Keep.drew Nothing wr).trans hK5 fun _ _ _ h => h)
        clear hK5 hcall y0 y1 y2 z0 z1 z2 d0 d3 fz
        go_wp2_with fail
        rw [HQ_normal]
        go_upto_region 5 with (fail)
        refine wp_world ?_
        intro W6 hW6
        have K6 : Hid (Keep Nothing wr W6) := by subst hW6; exact K5
        clear hW6 K5
        have HA6 := Lib.hid (HA2.out.quiet K6.out)
        have HD6 := Lib.hid (blk_keep HD2.out K6.out fun _ h => h)
        have KS6 := Lib.hid (sq_behind HKR.out K6.out)
        obtain ⟨b3, o3, e3, y0, y1, y2⟩ := item3 (HA6.out.row.reads.keep (Keep.drew Nothing W6)) (i := i) (by have := HLE.out; omega)
        obtain ⟨rfl, rfl⟩ : b = b3 ∧ o = o3 := by simpa using e3
        obtain ⟨b2, o2, e2, z0, z1, z2⟩ := item3 (HA6.out.row.reads.keep (Keep.drew Nothing W6)) (i := p) (by have := HLE.out; omega)
        obtain ⟨rfl, rfl⟩ : b = b2 ∧ o = o2 := by simpa using e2
        obtain ⟨_, _, _, d3, fz⟩ := four4 (blk_keep HD6.out (Keep.drew Nothing W6) fun _ h => h)
        have fr := (HA6.out.row.keep' (Keep.drew Nothing W6) fun _ _ _ h => h).frozen
        rw [HLE.out] at d3
        rw [HXI.out] at y0 y1
        rw [HXP.out] at z0 z1
        clear e3 e2 HKR HA2 HD2 K6
        refine wp_held (fun w' => w'.cell? ⟨lb, 3, none⟩ = some (.slice (some ⟨b, o, none⟩) (l.length + 1) cap2)) [3, 8, 13, 20] (by kernel_rfl) (by kernel_rfl) (by kernel_rfl) rfl d3 ?_
        simp only [segs, readsB, silentB, checks, List.nil_append, Bool.or_true, Bool.or_false, Bool.false_eq_true, reduceIte]
        have thp : W6.drew.there b (o + p * 3) 3 := there3 z0 z1 z2 fr
        have SW := Lib.hid (swap_cells (ko := ko) (A := p) (B := i) (blk_keep HD6.out (Keep.drew Nothing W6) fun _ h => h) (HA6.out.quiet (Keep.drew _ _)) (by have := HB.out; omega) (by have := HLE.out; omega) (by have := HLE.out; omega))
        rw [HXI.out, HXP.out, HLE.out] at SW
        go_wp2_with (refine wpList_store_mid rfl _ _ _ rfl b (o + p * 3) #[.int .i64 xi.1, .int .i64 xi.2, .pointer none] (by rfl) (by rfl) thp (by kernel_rfl) (one3 xi) ?_)
        refine held_world ?_
        intro W7 hW7
        have E7 : W7 = put3 W6.drew b (o + p * 3) xi := hW7
        clear hW7
        subst E7
        refine held_next SW.out.c1 ?_
        go_wp2_with (refine wpList_store_mid rfl _ _ _ rfl b (o + i * 3) #[.int .i64 xp.1, .int .i64 xp.2, .pointer none] (by rfl) (by rfl) SW.out.t1 (by kernel_rfl) (one3 xp) ?_)
        refine held_world ?_
        intro W8 hW8
        have E8 : W8 = put3 (put3 W6.drew b (o + p * 3) xi) b (o + i * 3) xp := hW8
        clear hW8
        rw [← E8] at SW
        refine held_end ?_ ?_
        · refine ⟨?_, ?_, ?_, ?_, trivial⟩ <;> exact ⟨.slice (some ⟨b, o, none⟩) (l.length + 1) cap2, fun w' hS => by simp [execOp, hS, go_sem]⟩
        go_wp2_with fail
        go_roundg (p + 1)
        case measure => omega
        case rel =>
          have hlt0 := HLT.out
          rw [← HXI.out, ← HXP.out] at hlt0
          rw [← E8]
          refine ⟨swap l' p i, p, ((p : Int) - 1).tdiv 2, rfl, rfl, ?_, rfl, HPL.out.1, ?_, SW.out.list, sq_trans KS6.out (sq_ahead (Keep.drew _ _) SW.out.keep)⟩
          · intro h
            rw [Int.tdiv_eq_ediv_of_nonneg (by omega)]
            omega
          · have := HR.out.step HPL.out.2.2.1 (by rw [HPE.out]; exact hlt0)
            rw [HPE.out, swap_comm _ (fun e => HPL.out.2.1 e.symm)] at this
            exact this
      · have HLT := Lib.hid hlt
        have hdec : decide (rankL order xi.1 < rankL order xp.1) = false := decide_eq_false hlt
        rw [hdec] at hcall
        clear hlt hdec
        go_wp2_with fail
        refine wp_calm (by kernel_rfl) (by kernel_rfl) rfl ?_
        simp only [List.flatMap_cons, List.flatMap_nil, checks, chk, nilLit, List.cons_append, List.nil_append, List.append_nil]
        go_wp2_with fail
        refine hcall.out.mono ?_
        rintro e w5 ⟨rfl, hK5⟩
        have K5 := Lib.hid ((Keep.drew Nothing wr).trans hK5 fun _ _ _ h => h)
        clear hK5 hcall y0 y1 y2 z0 z1 z2 d0 d3 fz
        go_wp2_with fail
        rw [HQ_normal]
        go_wp2_with fail
        go_end0
        refine ⟨rfl, l', HR.out.done (.inr ?_), HR.out.perm, ⟨_, _, blk_keep HD2.out K5.out fun _ h => h, HA2.out.quiet K5.out⟩, sq_behind HKR.out K5.out⟩
        rw [HPE.out]
        unfold rk
        rw [HXI.out, HXP.out]
        exact Int.not_lt.2 HLT.out
end Go.Proofs.Ytckplcmieelmpaa.P

namespace Go.Wb.Heap

/-- The place chosen after the left child was looked at. -/
structure Pick1 (f : Nat → Int) (m i s : Nat) : Prop where
  at_ : s = i ∨ s = i * 2 + 1 ∧ s < m
  le : f s ≤ f i
  left : i * 2 + 1 < m → f s ≤ f (i * 2 + 1)
theorem pick1 (f : Nat → Int) (m i : Nat) {b : Bool} (hb : b = (decide (i * 2 + 1 < m) && !decide (f i < f (i * 2 + 1)))) : Pick1 f m i (if b then i * 2 + 1 else i) := by
  by_cases h1 : i * 2 + 1 < m
  · by_cases h2 : f i < f (i * 2 + 1)
    · have e : b = false := by rw [hb]; simp [h1, h2]
      subst e
      exact ⟨.inl rfl, by simp, fun _ => by simp; omega⟩
    · have e : b = true := by rw [hb]; simp [h1]; omega
      subst e
      exact ⟨.inr ⟨rfl, h1⟩, by simp; omega, fun _ => by simp⟩
  · have e : b = false := by rw [hb]; simp; intro h; omega
    subst e
    exact ⟨.inl rfl, by simp, fun h => by omega⟩
/-- The place chosen after both. -/
structure Pick2 (f : Nat → Int) (m i s : Nat) : Prop where
  at_ : s = i ∨ (s = i * 2 + 1 ∨ s = i * 2 + 2) ∧ s < m
  le : f s ≤ f i
  left : i * 2 + 1 < m → f s ≤ f (i * 2 + 1)
  right : i * 2 + 2 < m → f s ≤ f (i * 2 + 2)
theorem pick2 {f : Nat → Int} {m i s : Nat} (h : Pick1 f m i s) {b : Bool} (hb : b = (decide (i * 2 + 2 < m) && !decide (f s < f (i * 2 + 2)))) : Pick2 f m i (if b then i * 2 + 2 else s) := by
  obtain ⟨h1, h2, h3⟩ := h
  by_cases hr : i * 2 + 2 < m
  · by_cases hf : f s < f (i * 2 + 2)
    · have e : b = false := by rw [hb]; simp [hr, hf]
      subst e
      refine ⟨?_, by simpa using h2, by simpa using h3, fun _ => by simp; omega⟩
      rcases h1 with h1 | ⟨h1, h4⟩
      · exact .inl (by simpa using h1)
      · exact .inr ⟨.inl (by simpa using h1), by simpa using h4⟩
    · have e : b = true := by rw [hb]; simp [hr]; omega
      subst e
      exact ⟨.inr ⟨.inr rfl, hr⟩, by simp; omega, fun h => by have := h3 h; simp; omega, fun _ => by simp⟩
  · have e : b = false := by rw [hb]; simp; intro h; omega
    subst e
    refine ⟨?_, by simpa using h2, by simpa using h3, fun h => by omega⟩
    rcases h1 with h1 | ⟨h1, h4⟩
    · exact .inl (by simpa using h1)
    · exact .inr ⟨.inl (by simpa using h1), by simpa using h4⟩
end Go.Wb.Heap

namespace Go.Proofs.Ytckplcmieelmpaa.P
open Go.RowKit Go.Wb Go.Wb.Heap

def PopPost (W : World) (lb hi ko : Nat) (order : List Int) (l : List Itm) (e : Ending) (W' : World) : Prop :=
  ∃ l', e = .returned (.tuple #[ev (at_ l 0), .bool true]) ∧ Popped (rk order) l (at_ l 0) l' ∧ ListAt W' lb hi ko l' ∧ Keep (SQ lb hi W) W W'

/-- A pop's loop: the list, the place where the sinking item stands, the blocks of both variables. -/
structure PJ (W : World) (lb hi ko q b o cap m : Nat) (order : List Int) (l : List Itm) (x0 : Itm) (l' : List Itm) (i : Nat) (wr : World) : Prop where
  sink : Sinking (rk order) (lifted l) l' i
  len : l'.length = m
  hd : wr.heap[lb]? = some (.cells #[.func (.func 147) #[] #[ptr ko], .int .i64 0, .int .i64 0, .slice (some ⟨b, o, none⟩) m cap] 144 (0, 0))
  acc : Acc hi wr 209 3 (some ⟨b, o, none⟩) m cap (EE.all l')
  t4 : wr.heap[q + 1]? = some (.cells #[.int .i64 x0.1, .int .i64 x0.2, .pointer none] 209 (0, 0))
  t2 : wr.heap[q]? = some (.cells #[.int .i64 0, .int .i64 0, .pointer none] 209 (0, 0))
  keep : Keep (SQ lb hi W) W wr
theorem PJ.quiet {W wr wx : World} {lb hi ko q b o cap m i : Nat} {order : List Int} {l l' : List Itm} {x0 : Itm} (h : PJ W lb hi ko q b o cap m order l x0 l' i wr) (k : Keep Nothing wr wx) : PJ W lb hi ko q b o cap m order l x0 l' i wx :=
  ⟨h.sink, h.len, blk_keep h.hd k fun _ h => h, h.acc.quiet k, blk_keep h.t4 k fun _ h => h, blk_keep h.t2 k fun _ h => h, sq_behind h.keep k⟩

set_option maxRecDepth 100000 in
set_option maxHeartbeats 16000000 in
theorem pop_any {W : World} {lb lo hi ko : Nat} {order : List Int} {l : List Itm} (hL : Less W lo hi ko order) (hq : ListAt W lb hi ko l) (hh : IsHeap (rk order) l) (hlb : lb < lo) (hlo : lo ≤ hi) (hhi : hi ≤ W.heap.size) (hol : order.length ≤ 4000000000) (hl : l.length ≤ 4000000000) (h0 : 0 < l.length) :
    Calls Try.prog 150 #[ptr lb] W (PopPost W lb hi ko order l) := by
  obtain ⟨a, cap, hdr, hA⟩ := hq
  obtain ⟨m, hm⟩ : ∃ m, l.length = m + 1 := ⟨l.length - 1, by omega⟩
  obtain ⟨b, o, rfl, y0, y1, y2⟩ := item3 hA.row.reads (i := 0) (by omega)
  obtain ⟨b2, o2, e2, z0, z1, z2⟩ := item3 hA.row.reads (i := m) (by omega)
  obtain ⟨rfl, rfl⟩ : b = b2 ∧ o = o2 := by simpa using e2
  have HM := Lib.hid hm
  have HL := Lib.hid hL
  have HA := Lib.hid hA
  have HH := Lib.hid hh
  have HB := Lib.hid (And.intro hlb (And.intro hlo hhi))
  have hcap := hA.le
  rw [hm] at hdr hcap hl
  have HD := Lib.hid hdr
  have hbw := lt_of_cell y0
  clear e2 hL hdr hA hh hlb hlo hhi h0 hm y0 y1 y2 z0 z1 z2
  unfold ptr
  go_enter Try.func150, Try.ntmps150
  go_upto_region 1 with (fail)
  refine wp_world ?_
  intro W1 hW1
  have K1 : Hid (Keep Nothing W W1) := by subst hW1; exact Lib.hid ((Keep.refl _ _).al _)
  have N2 : Hid (W1.heap[W.heap.size]? = some (.cells #[.int .i64 0, .int .i64 0, .pointer none] 209 (0, 0))) := by subst hW1; exact Lib.hid (heap_alloc_new W _)
  have hs1 : W1.heap.size = W.heap.size + 1 := by subst hW1; simp
  clear hW1
  generalize hqq : W.heap.size = q at *
  have d1 := (four4 (blk_keep HD.out K1.out fun _ h => h)).2.2.2.1
  have hne : ((m : Int) + 1 == 0) = false := by rw [beq_eq_false_iff_ne]; omega
  go_upto_region 4 with (fail)
  refine wp_world ?_
  intro W2 hW2
  have K2 : Hid (Keep Nothing W W2) := by subst hW2; exact Lib.hid (K1.out.al _)
  have N3 : Hid (W2.heap[q]? = some (.cells #[.int .i64 0, .int .i64 0, .pointer none] 209 (0, 0))) := by subst hW2; exact Lib.hid (blk_alloc _ N2.out)
  have T3 : Hid (W2.heap[q + 1]? = some (.cells #[.int .i64 0, .int .i64 0, .pointer none] 209 (0, 0))) := by
    subst hW2
    rw [← hs1]
    exact Lib.hid (heap_alloc_new W1 _)
  clear hW2 K1 N2 d1 hne hs1
  have HA2 := Lib.hid (HA.out.quiet K2.out)
  have HD2 := Lib.hid (blk_keep HD.out K2.out fun _ h => h)
  obtain ⟨b2, o2, e2, y0, y1, y2⟩ := item3 (HA2.out.row.reads.keep (Keep.drew Nothing W2)) (i := 0) (by have := HM.out; omega)
  cases e2
  obtain ⟨b2, o2, e2, z0, z1, z2⟩ := item3 (HA2.out.row.reads.keep (Keep.drew Nothing W2)) (i := m) (by have := HM.out; omega)
  cases e2
  obtain ⟨_, _, _, d3, fz⟩ := four4 (blk_keep HD2.out (Keep.drew Nothing W2) fun _ h => h)
  obtain ⟨u0, u1, u2, fu⟩ := three3 (blk_keep T3.out (Keep.drew Nothing W2) fun _ h => h)
  have thu : W2.drew.there (q + 1) 0 3 := there3 u0 u1 u2 fu
  simp only [Nat.zero_mul, Nat.add_zero] at y0 y1 y2
  have fr := (HA2.out.row.keep' (Keep.drew Nothing W2) fun _ _ _ h => h).frozen
  generalize hx0 : at_ l 0 = x0 at *
  generalize hxm : at_ l m = xm at *
  have HX0 := Lib.hid hx0
  have HXM := Lib.hid hxm
  clear hx0 hxm u0 u1 u2
  refine wp_held (fun w' => w'.cell? ⟨lb, 3, none⟩ = some (.slice (some ⟨b, o, none⟩) (m + 1) cap) ∧ w'.cell? ⟨b, o + m * 3, none⟩ = some (.int .i64 xm.1) ∧ w'.cell? ⟨b, o + m * 3 + 1, none⟩ = some (.int .i64 xm.2) ∧ w'.cell? ⟨b, o + m * 3 + 1 + 1, none⟩ = some (.pointer none)) [3, 13, 17, 21] (by kernel_rfl) (by kernel_rfl) (by kernel_rfl) rfl ⟨d3, z0, z1, z2⟩ ?_
  simp only [segs, readsB, silentB, lenB, checks, List.nil_append, Bool.or_true, Bool.or_false, Bool.false_eq_true, reduceIte]
  go_wp2_with (refine wpList_store_mid rfl _ _ _ rfl (q + 1) 0 #[.int .i64 x0.1, .int .i64 x0.2, .pointer none] (by rfl) (by rfl) thu (by kernel_rfl) (one3 x0) ?_)
  refine held_world ?_
  intro W3 hW3
  have E3 : W3 = put3 W2.drew (q + 1) 0 x0 := hW3
  clear hW3
  have k3 : Keep (fun c _ => c = q + 1) W2 W3 := by
    subst E3
    exact ((((Keep.refl _ _).dr).set _ _ _ fun _ => by rfl).set _ _ _ fun _ => by rfl).set _ _ _ fun _ => by rfl
  have T4 : Hid (W3.heap[q + 1]? = some (.cells #[.int .i64 x0.1, .int .i64 x0.2, .pointer none] 209 (0, 0))) := by subst E3; exact Lib.hid (blk_set _ (blk_set _ (blk_set _ (blk_drew T3.out))))
  have N4 : Hid (W3.heap[q]? = some (.cells #[.int .i64 0, .int .i64 0, .pointer none] 209 (0, 0))) := Lib.hid (blk_keep N3.out k3 fun _ (h : q = q + 1) => by omega)
  have HD3 := Lib.hid (blk_keep HD2.out k3 fun _ (h : lb = q + 1) => by have := HB.out; omega)
  have hbq : b ≠ q + 1 := by omega
  have HA3 : Hid (Acc hi W3 209 3 (some ⟨b, o, none⟩) l.length cap (EE.all l)) := Lib.hid ⟨HA2.out.row.keep' k3 fun c p ⟨_, _, e, e1, _⟩ (h : c = q + 1) => by cases e; omega, HA2.out.len, HA2.out.le, HA2.out.own⟩
  have KW3 : Hid (Keep Nothing W W3) := Lib.hid (K2.out.trans k3 fun c _ hc (h : c = q + 1) => by omega)
  have dd := (four4 HD3.out).2.2.2.1
  obtain ⟨b2, o2, e2, v0, v1, v2⟩ := item3 HA3.out.row.reads (i := m) (by have := HM.out; omega)
  cases e2
  rw [HXM.out] at v0 v1
  obtain ⟨b2, o2, e2, s0, s1, s2⟩ := item3 HA3.out.row.reads (i := 0) (by have := HM.out; omega)
  cases e2
  simp only [Nat.zero_mul, Nat.add_zero] at s0 s1 s2
  have thb : W3.there b o 3 := there3 s0 s1 s2 HA3.out.row.frozen
  clear E3 k3 T3 N3 HD2 HA2 K2 y0 y1 y2 z0 z1 z2 d3 fz fr fu thu s0 s1 s2
  refine held_next ⟨dd, v0, v1, v2⟩ ?_
  go_wp2_with (refine wpList_store_mid rfl _ _ _ rfl b o #[.int .i64 xm.1, .int .i64 xm.2, .pointer none] (by rfl) (by rfl) thb (by kernel_rfl) (one3 xm) ?_)
  refine held_world ?_
  intro W4 hW4
  have E4 : W4 = put3 W3 b o xm := hW4
  clear hW4
  refine held_end ?_ ?_
  · refine ⟨?_, ?_, ?_, ?_, trivial⟩
    · exact ⟨.slice (some ⟨b, o, none⟩) (m + 1) cap, fun w' hS => by simp [execOp, hS.1, go_sem]⟩
    · exact ⟨.slice (some ⟨b, o, none⟩) (m + 1) cap, fun w' hS => by simp [execOp, hS.1, go_sem]⟩
    · exact ⟨.slice (some ⟨b, o, none⟩) (m + 1) cap, fun w' hS => by simp [execOp, hS.1, go_sem]⟩
    · exact ⟨.agg #[.int .i64 xm.1, .int .i64 xm.2, .pointer none], fun w' hS => by simp [execOp, hS.2.1, hS.2.2.1, hS.2.2.2, go_sem]⟩
  have k4 : Keep (rowFp (some ⟨b, o, none⟩) (cap * 3)) W3 W4 := by
    subst E4
    have := keep_put (W := W3) (b := b) (o := o) (cap := cap) (s := 3) 0 xm (by omega) rfl
    simpa only [Nat.zero_mul, Nat.add_zero] using this
  have r4 : Row W4 209 3 (some ⟨b, o, none⟩) cap (EE.all (l.set 0 xm)) := by
    subst E4
    have := row_put HA3.out.row (i := 0) (by have := HM.out; omega) xm
    simpa only [Nat.zero_mul, Nat.add_zero] using this
  have hib : hi ≤ b := HA.out.own b o ⟨b, o, rfl, rfl, Nat.le_refl _, by omega⟩
  have nb : ∀ c p, c ≠ b → ¬ rowFp (some ⟨b, o, none⟩) (cap * 3) c p := fun c p hc ⟨_, _, e, e1, _⟩ => by cases e; exact hc e1
  have HD4 := Lib.hid (blk_keep HD3.out k4 fun p => nb lb p (by have := HB.out; omega))
  have T5 := Lib.hid (blk_keep T4.out k4 fun p => nb _ p (fun e => hbq e.symm))
  have N5 := Lib.hid (blk_keep N4.out k4 fun p => nb _ p (by omega))
  have KS4 : Hid (Keep (SQ lb hi W) W W4) := Lib.hid (sq_trans (sq_quiet KW3.out) (sq_row HA3.out.row HA3.out.own k4))
  have R4 : Hid (Row W4 209 3 (some ⟨b, o, none⟩) cap (EE.all (lifted l))) := by
    unfold lifted
    rw [HM.out, Nat.add_sub_cancel, HXM.out, ee_take]
    exact Lib.hid (r4.take _)
  have d4 := (four4 HD4.out).2.2.2.1
  have f4 := (four4 HD4.out).2.2.2.2
  clear E4 k4 r4 nb HA3 HD3 KW3 T4 N4 v0 v1 v2 dd thb
  go_wp2_with fail
  refine wp_calm (by kernel_rfl) (by kernel_rfl) rfl ?_
  simp only [List.flatMap_cons, List.flatMap_nil, checks, chk, nilLit, List.cons_append, List.nil_append, List.append_nil]
  go_wp2_with fail
  rw [HQ_normal]
  go_upto_region 6 with (fail)
  refine wp_world ?_
  intro W5 hW5
  have J5 : Hid (PJ W lb hi ko q b o cap m order l x0 (lifted l) 0 W5) := by
    have k5 : Keep (fun c _ => c = lb) W4 W5 := by subst hW5; exact ((Keep.refl _ _).set _ _ _ fun _ => by rfl).dr
    have hl5 : (lifted l).length = m := by rw [lifted_length, HM.out]; rfl
    refine Lib.hid ⟨Sinking.init HH.out (by have := HM.out; omega), hl5, ?_, ⟨R4.out.keep' k5 fun c p ⟨_, _, e, e1, _⟩ (h : c = lb) => by cases e; have := HB.out; omega, by have := EE.all_len (lifted l); rw [hl5] at this; exact this, by omega, HA.out.own⟩, blk_keep T5.out k5 fun _ (h : q + 1 = lb) => by have := HB.out; omega, blk_keep N5.out k5 fun _ (h : q = lb) => by have := HB.out; omega, ?_⟩
    · subst hW5; exact blk_drew (blk_set _ HD4.out)
    · refine sq_trans KS4.out ?_
      subst hW5
      exact (sq_hdr _).dr
  clear hW5 R4 T5 N5 KS4 HD4 d4 f4
  go_wp2_with fail
  go_loopg [5] (m + 1) (fun k v5 wr => ∃ (l' : List Itm) (i : Nat), v5 = .int .i64 i ∧ i + k = m + 1 ∧ PJ W lb hi ko q b o cap m order l x0 l' i wr)
  case atStart => exact ⟨lifted l, 0, rfl, by omega, J5.out⟩
  case round =>
    obtain ⟨l', i, rfl, hik, hJ⟩ := hrel
    have J := Lib.hid hJ
    have hil := hJ.sink.lt
    have hlen := hJ.len
    rw [hlen] at hil
    have HIL := Lib.hid hil
    have HLEN := Lib.hid hlen
    have him : i ≤ m := by omega
    clear hJ J5 hlen hil
    obtain ⟨b1, hb1⟩ : ∃ b1, b1 = (decide (i * 2 + 1 < m) && !decide (rk order (at_ l' i) < rk order (at_ l' (i * 2 + 1)))) := ⟨_, rfl⟩
    have hp1 := pick1 (fun j => rk order (at_ l' j)) m i hb1
    obtain ⟨s1, hs1⟩ : ∃ s1, s1 = if b1 = true then i * 2 + 1 else i := ⟨_, rfl⟩
    rw [← hs1] at hp1
    have HB1 := Lib.hid hb1
    have HS1 := Lib.hid hs1
    have HP1 := Lib.hid hp1
    obtain ⟨b2, hb2⟩ : ∃ b2, b2 = (decide (i * 2 + 2 < m) && !decide (rk order (at_ l' s1) < rk order (at_ l' (i * 2 + 2)))) := ⟨_, rfl⟩
    have hp2 := pick2 hp1 hb2
    obtain ⟨s2, hs2⟩ : ∃ s2, s2 = if b2 = true then i * 2 + 2 else s1 := ⟨_, rfl⟩
    rw [← hs2] at hp2
    have HB2 := Lib.hid hb2
    have HS2 := Lib.hid hs2
    have HP2 := Lib.hid hp2
    have HSL : Hid (i * 2 + 1 < m → s1 < m ∧ i < m) := Lib.hid fun h => by
      rcases hp1.at_ with e | ⟨e, e'⟩ <;> omega
    clear hb1 hs1 hp1 hb2 hs2 hp2
    go_upto_region 10 with (fail)
    go_cut [5, 6, 7, 8, 90] (fun v5 v6 v7 v8 v90 wx => v5 = .int .i64 i ∧ v6 = .int .i64 i ∧ v7 = .int .i64 (i * 2 + 1) ∧ v8 = .int .i64 (i * 2 + 2) ∧ v90 = .bool b1 ∧ Keep Nothing wr wx)
    case first =>
      by_cases hkid : i * 2 + 1 < m
      · obtain ⟨b2, o2, e2, y0, y1, y2⟩ := item3 (J.out.acc.row.reads.keep (Keep.drew Nothing _)) (i := i) (by have := HLEN.out; have := HSL.out; omega)
        cases e2
        obtain ⟨b2, o2, e2, z0, z1, z2⟩ := item3 (J.out.acc.row.reads.keep (Keep.drew Nothing _)) (i := i * 2 + 1) (by have := HLEN.out; omega)
        cases e2
        obtain ⟨d0, _, _, d3, fz⟩ := four4 (blk_keep J.out.hd (Keep.drew Nothing _) fun _ h => h)
        have hcall := less_any ((HL.out.sq HB.out.1 J.out.keep).keep (Keep.drew Nothing _) fun _ _ _ _ h => h) hol (at_ l' i) (at_ l' (i * 2 + 1))
        have hd : decide (rankL order (at_ l' i).1 < rankL order (at_ l' (i * 2 + 1)).1) = !b1 := by
          rw [HB1.out, decide_eq_true hkid, Bool.true_and, Bool.not_not]
          rfl
        rw [hd] at hcall
        have HC := Lib.hid hcall
        have hsl := HSL.out
        clear hcall hd
        generalize at_ l' i = xi at *
        generalize at_ l' (i * 2 + 1) = xk at *
        unfold iv ptr at *
        go_wp2_with fail
        refine wp_calm (by kernel_rfl) (by kernel_rfl) rfl ?_
        simp only [List.flatMap_cons, List.flatMap_nil, checks, chk, nilLit, List.cons_append, List.nil_append, List.append_nil]
        go_wp2_with fail
        refine HC.out.mono ?_
        rintro e w5 ⟨rfl, hK5⟩
        have K5 := Lib.hid hK5
        clear hK5 HC y0 y1 y2 z0 z1 z2 d0 d3 fz
        go_wp2_with fail
        rw [HQ_normal]
        go_wp2_with fail
        go_meet
        exact ⟨rfl, rfl, rfl, rfl, by simp, ((Keep.refl _ _).dr).trans K5.out fun _ _ _ h => h⟩
      · have hb : b1 = false := by rw [HB1.out]; simp; intro h; omega
        obtain ⟨d0, _, _, d3, fz⟩ := four4 (blk_keep J.out.hd (Keep.drew Nothing _) fun _ h => h)
        go_wp2_with fail
        refine wp_calm (by kernel_rfl) (by kernel_rfl) rfl ?_
        simp only [List.flatMap_cons, List.flatMap_nil, checks, chk, nilLit, List.cons_append, List.nil_append, List.append_nil]
        go_wp2_with fail
        go_meet
        exact ⟨rfl, rfl, rfl, rfl, by rw [hb], (Keep.refl _ _).dr⟩
    case rest =>
      obtain ⟨rfl, rfl, rfl, rfl, rfl, hK⟩ := hcut
      have J1 := Lib.hid (J.out.quiet hK)
      clear hK J
      go_upto_if 90 with (fail)
      go_cut [5, 6, 7, 8] (fun v5 v6 v7 v8 wx => v5 = .int .i64 i ∧ v6 = .int .i64 s1 ∧ v7 = .int .i64 (i * 2 + 1) ∧ v8 = .int .i64 (i * 2 + 2) ∧ wx = wc)
      case first =>
        cases hb : b1
        · go_wp2_with fail
          go_meet
          exact ⟨rfl, by rw [HS1.out, hb]; simp, rfl, rfl, rfl⟩
        · go_wp2_with fail
          go_meet
          exact ⟨rfl, by rw [HS1.out, hb]; simp, rfl, rfl, rfl⟩
      case rest =>
        obtain ⟨rfl, rfl, rfl, rfl, hwc⟩ := hcut
        subst hwc
        go_upto_region 12 with (fail)
        go_cut [5, 6, 7, 8, 122] (fun v5 v6 v7 v8 v122 wx => v5 = .int .i64 i ∧ v6 = .int .i64 s1 ∧ v7 = .int .i64 (i * 2 + 1) ∧ v8 = .int .i64 (i * 2 + 2) ∧ v122 = .bool b2 ∧ Keep Nothing wc wx)
        case first =>
          by_cases hkid : i * 2 + 2 < m
          · obtain ⟨b2, o2, e2, y0, y1, y2⟩ := item3 (J1.out.acc.row.reads.keep (Keep.drew Nothing _)) (i := s1) (by have := HLEN.out; have := HSL.out; omega)
            cases e2
            obtain ⟨b2, o2, e2, z0, z1, z2⟩ := item3 (J1.out.acc.row.reads.keep (Keep.drew Nothing _)) (i := i * 2 + 2) (by have := HLEN.out; omega)
            cases e2
            obtain ⟨d0, _, _, d3, fz⟩ := four4 (blk_keep J1.out.hd (Keep.drew Nothing _) fun _ h => h)
            have hcall := less_any ((HL.out.sq HB.out.1 J1.out.keep).keep (Keep.drew Nothing _) fun _ _ _ _ h => h) hol (at_ l' s1) (at_ l' (i * 2 + 2))
            have hd : decide (rankL order (at_ l' s1).1 < rankL order (at_ l' (i * 2 + 2)).1) = !b2 := by
              rw [HB2.out, decide_eq_true hkid, Bool.true_and, Bool.not_not]
              rfl
            rw [hd] at hcall
            have HC := Lib.hid hcall
            have hsl := HSL.out
            clear hcall hd
            generalize at_ l' s1 = xi at *
            generalize at_ l' (i * 2 + 2) = xk at *
            unfold iv ptr at *
            go_wp2_with fail
            refine wp_calm (by kernel_rfl) (by kernel_rfl) rfl ?_
            simp only [List.flatMap_cons, List.flatMap_nil, checks, chk, nilLit, List.cons_append, List.nil_append, List.append_nil]
            go_wp2_with fail
            refine HC.out.mono ?_
            rintro e w5 ⟨rfl, hK5⟩
            have K5 := Lib.hid hK5
            clear hK5 HC y0 y1 y2 z0 z1 z2 d0 d3 fz
            go_wp2_with fail
            rw [HQ_normal]
            go_wp2_with fail
            go_meet
            exact ⟨rfl, rfl, rfl, rfl, by simp, ((Keep.refl _ _).dr).trans K5.out fun _ _ _ h => h⟩
          · have hb : b2 = false := by rw [HB2.out]; simp; intro h; omega
            obtain ⟨d0, _, _, d3, fz⟩ := four4 (blk_keep J1.out.hd (Keep.drew Nothing _) fun _ h => h)
            go_wp2_with fail
            refine wp_calm (by kernel_rfl) (by kernel_rfl) rfl ?_
            simp only [List.flatMap_cons, List.flatMap_nil, checks, chk, nilLit, List.cons_append, List.nil_append, List.append_nil]
            go_wp2_with fail
            go_meet
            exact ⟨rfl, rfl, rfl, rfl, by rw [hb], (Keep.refl _ _).dr⟩
        case rest =>
          obtain ⟨rfl, rfl, rfl, rfl, rfl, hK⟩ := hcut
          have J2 := Lib.hid (J1.out.quiet hK)
          clear hK J1
          go_upto_if 122 with (fail)
          go_cut [5, 6] (fun v5 v6 wx => v5 = .int .i64 i ∧ v6 = .int .i64 s2 ∧ wx = wc)
          case first =>
            cases hb : b2
            · go_wp2_with fail
              go_meet
              exact ⟨rfl, by rw [HS2.out, hb]; simp, rfl⟩
            · go_wp2_with fail
              go_meet
              exact ⟨rfl, by rw [HS2.out, hb]; simp, rfl⟩
          case rest =>
            obtain ⟨rfl, rfl, hwc⟩ := hcut
            subst hwc
            by_cases hsi : s2 = i
            · subst hsi
              obtain ⟨u0, u1, u2, fu⟩ := three3 J2.out.t4
              obtain ⟨n0, n1, n2, fn⟩ := three3 J2.out.t2
              have thq : wc.there q 0 3 := there3 n0 n1 n2 fn
              clear n0 n1 n2 fn
              go_wp2_with (refine wpList_store_mid rfl _ _ _ rfl q 0 #[.int .i64 x0.1, .int .i64 x0.2, .pointer none] (by rfl) (by rfl) thq (by kernel_rfl) (one3 x0) ?_; refine wpl_world ?_; intro W9 hW9; have E9 : W9 = put3 wc q 0 x0 := hW9; clear hW9; have B9 : W9.heap[q]? = some (.cells #[.int .i64 x0.1, .int .i64 x0.2, .pointer none] 209 (0, 0)) := (by subst E9; exact blk_set _ (blk_set _ (blk_set _ J2.out.t2))))
              rw [← E9]
              refine bodyPost_ret (results_cell_tmp_row rfl _ _ q 209 #[.int .i64 x0.1, .int .i64 x0.2, .pointer none] (0, 0) _ rfl B9 Try.underlying209 rfl (by kernel_rfl)) rfl ?_
              have kq : Keep (fun c _ => c = q) wc W9 := by
                subst E9
                exact (((Keep.refl _ _).set _ _ _ fun _ => by rfl).set _ _ _ fun _ => by rfl).set _ _ _ fun _ => by rfl
              have hheap : IsHeap (rk order) l' := J2.out.sink.done (fun h => HP2.out.left (by rw [← J2.out.len]; exact h)) (fun h => HP2.out.right (by rw [← J2.out.len]; exact h))
              have hpop := Popped.mk_ HH.out (by have := HM.out; omega) hheap J2.out.sink.perm
              have hwq := hqq
              refine ⟨l', by rw [HX0.out]; rfl, hpop, ⟨some ⟨b, o, none⟩, cap, ?_, ⟨J2.out.acc.row.keep' kq fun c p ⟨_, _, e, e1, _⟩ (h : c = q) => by cases e; omega, ?_, ?_, J2.out.acc.own⟩⟩, ?_⟩
              · rw [J2.out.len]
                exact blk_keep J2.out.hd kq fun _ (h : lb = q) => by have := HB.out; omega
              · rw [J2.out.len]; exact J2.out.acc.len
              · rw [J2.out.len]; exact J2.out.acc.le
              · exact J2.out.keep.trans kq fun c _ hc (h : c = q) => by omega
            · have hs2m : s2 < m ∧ i < m ∧ i < s2 := by
                rcases HP2.out.at_ with e | ⟨e, e'⟩
                · exact absurd e hsi
                · omega
              have HSM := Lib.hid hs2m
              have HSI := Lib.hid hsi
              have hh1 : s2 < m := hs2m.1
              have hh2 : i < m := hs2m.2.1
              clear hs2m
              go_upto_region 15 with (fail)
              refine wp_world ?_
              intro W6 hW6
              have J3 : Hid (PJ W lb hi ko q b o cap m order l x0 l' i W6) := Lib.hid (J2.out.quiet (by subst hW6; exact Keep.refl _ _))
              clear hW6
              obtain ⟨b3, o3, e3, y0, y1, y2⟩ := item3 (J3.out.acc.row.reads.keep (Keep.drew Nothing W6)) (i := i) (by have := J3.out.len; omega)
              cases e3
              obtain ⟨b2, o2, e2, z0, z1, z2⟩ := item3 (J3.out.acc.row.reads.keep (Keep.drew Nothing W6)) (i := s2) (by have := J3.out.len; omega)
              cases e2
              obtain ⟨_, _, _, d3, fz⟩ := four4 (blk_keep J3.out.hd (Keep.drew Nothing W6) fun _ h => h)
              have fr := (J3.out.acc.row.keep' (Keep.drew Nothing W6) fun _ _ _ h => h).frozen
              have thp : W6.drew.there b (o + s2 * 3) 3 := there3 z0 z1 z2 fr
              have SW := Lib.hid (swap_cells (ko := ko) (l := l') (A := s2) (B := i) (by rw [J3.out.len]; exact blk_keep J3.out.hd (Keep.drew Nothing W6) fun _ h => h) (by rw [J3.out.len]; exact J3.out.acc.quiet (Keep.drew _ _)) (by have := HB.out; omega) (by have := J3.out.len; omega) (by have := J3.out.len; omega))
              rw [J3.out.len] at SW
              generalize hxi : at_ l' i = xi at *
              generalize hxs : at_ l' s2 = xs at *
              have HXI := Lib.hid hxi
              have HXS := Lib.hid hxs
              clear hxi hxs J2
              refine wp_held (fun w' => w'.cell? ⟨lb, 3, none⟩ = some (.slice (some ⟨b, o, none⟩) m cap)) [3, 8, 13, 20] (by kernel_rfl) (by kernel_rfl) (by kernel_rfl) rfl d3 ?_
              simp only [segs, readsB, silentB, checks, List.nil_append, Bool.or_true, Bool.or_false, Bool.false_eq_true, reduceIte]
              go_wp2_with (refine wpList_store_mid rfl _ _ _ rfl b (o + s2 * 3) #[.int .i64 xi.1, .int .i64 xi.2, .pointer none] (by rfl) (by rfl) thp (by kernel_rfl) (one3 xi) ?_)
              refine held_world ?_
              intro W7 hW7
              have E7 : W7 = put3 W6.drew b (o + s2 * 3) xi := hW7
              clear hW7
              subst E7
              refine held_next SW.out.c1 ?_
              go_wp2_with (refine wpList_store_mid rfl _ _ _ rfl b (o + i * 3) #[.int .i64 xs.1, .int .i64 xs.2, .pointer none] (by rfl) (by rfl) SW.out.t1 (by kernel_rfl) (one3 xs) ?_)
              refine held_world ?_
              intro W8 hW8
              have E8 : W8 = put3 (put3 W6.drew b (o + s2 * 3) xi) b (o + i * 3) xs := hW8
              clear hW8
              rw [← E8] at SW
              refine held_end ?_ ?_
              · refine ⟨?_, ?_, ?_, ?_, trivial⟩ <;> exact ⟨.slice (some ⟨b, o, none⟩) m cap, fun w' hS => by simp [execOp, hS, go_sem]⟩
              have J4 : Hid (PJ W lb hi ko q b o cap m order l x0 (swap l' s2 i) s2 W8) := by
                have hwq := hqq
                have hx0 : ¬ s2 = i := HSI.out
                have nb : ∀ c p, c ≠ b → ¬ rowFp (some ⟨b, o, none⟩) (cap * 3) c p := fun c p hc ⟨_, _, e, e1, _⟩ => by cases e; exact hc e1
                have kf : Keep (rowFp (some ⟨b, o, none⟩) (cap * 3)) W6 W8 := (Keep.drew _ _).trans SW.out.fine fun _ _ _ h => h
                refine Lib.hid ⟨?_, by rw [swap_length]; exact J3.out.len, SW.out.hd, by have := SW.out.acc; rw [J3.out.len] at this; exact this, blk_keep J3.out.t4 kf fun p => nb _ p (by omega), blk_keep J3.out.t2 kf fun p => nb _ p (by omega), sq_trans J3.out.keep (sq_ahead (Keep.drew _ _) SW.out.keep)⟩
                refine J3.out.sink.step ?_ (by rw [J3.out.len]; exact HSM.out.1) (fun h => HP2.out.left (by rw [← J3.out.len]; exact h)) (fun h => HP2.out.right (by rw [← J3.out.len]; exact h)) HP2.out.le
                rcases HP2.out.at_ with e | ⟨e, _⟩
                · exact absurd e hx0
                · exact e
              clear E8 SW J3 y0 y1 y2 z0 z1 z2 d3 fz fr thp
              go_wp2_with fail
              go_roundg (m + 1 - s2)
              case measure => have := HSM.out; omega
              case rel => exact ⟨swap l' s2 i, s2, by go_num, by omega, J4.out⟩
end Go.Proofs.Ytckplcmieelmpaa.P

namespace Go.Proofs.Ytckplcmieelmpaa.P
open Go.RowKit Go.Wb Go.Wb.Heap

/-- The cells of an item. -/
def IE : Enc Itm := ⟨fun x => [.int .i64 x.1, .int .i64 x.2], 2, fun _ => rfl, fun x v hv => by simp at hv; rcases hv with rfl | rfl <;> rfl, by omega⟩
theorem elemIt : Elem Try.prog 42 2 16 := ⟨by kernel_rfl, by kernel_rfl, by kernel_rfl⟩
theorem ie_len (l : List Itm) : (IE.all l).length = l.length * 2 := IE.all_len l
theorem ie_one {l : List Itm} : ∀ u ∈ IE.all l, u.oneCell' = true := fun u hu => by
  obtain ⟨x, _, hx⟩ := List.mem_flatMap.1 hu
  exact IE.one x u hx
/-- The cells of an item of a list that is read. -/
theorem item2 {w : World} {a : Option Addr} {l : List Itm} (h : Given w a (IE.all l)) {i : Nat} (hi : i < l.length) : ∃ b o, a = some ⟨b, o, none⟩ ∧ w.cell? ⟨b, o + i * 2, none⟩ = some (.int .i64 (at_ l i).1) ∧ w.cell? ⟨b, o + i * 2 + 1, none⟩ = some (.int .i64 (at_ l i).2) := by
  have h0 := IE.all_get l i _ (at_some hi) 0 (.int .i64 (at_ l i).1) rfl
  have h1 := IE.all_get l i _ (at_some hi) 1 (.int .i64 (at_ l i).2) rfl
  simp only [show IE.s = 2 from rfl] at h0 h1
  rcases h with h | ⟨b, o, ha, hc⟩
  · rw [h] at h0; simp at h0
  · exact ⟨b, o, ha, hc _ _ h0, by have := hc _ _ h1; rwa [← Nat.add_assoc] at this⟩

set_option maxHeartbeats 1000000 in
theorem srank_any {w : World} {a : Option Addr} {cap : Nat} {order : List Int} (hrow : Given w a (order.map (Value.int .i64))) (hl : order.length ≤ 4000000000) (key : Int) :
    Calls Try.prog 151 #[.slice a order.length cap, .int .i64 key] w fun e w' => e = .returned (.int .i64 (rankL order key)) ∧ w = w' := by
  by_cases h0 : order.length = 0
  · have hr : rankL order key = key := if_pos h0
    have HR := Lib.hid hr
    clear hr
    rw [h0]
    go_enter Try.func151, Try.ntmps151
    go_wp2_with fail
    go_ret
    exact ⟨by rw [HR.out]; rfl, rfl⟩
  · have hpos : (0 : Int) < (order.length : Int) := by omega
    have hb := place_bounds (key := key) hpos
    have t1 := Int.lt_tmod_of_pos key hpos
    have t2 := Int.tmod_lt_of_pos key hpos
    have t3 : wrap64 (key.tmod order.length + order.length) = key.tmod order.length + order.length := by unfold wrap64; omega
    have hr : rankL order key = order.getD (place key order.length).toNat 0 := if_neg h0
    have t4 : (key.tmod order.length + order.length).tmod order.length = place key order.length := by
      unfold place
      exact Int.tmod_eq_emod_of_nonneg (by omega)
    obtain ⟨i, hi0⟩ : ∃ i : Nat, place key (order.length : Int) = i := ⟨(place key (order.length : Int)).toNat, by omega⟩
    have t5 : (key.tmod order.length + order.length) % order.length = (i : Int) := hi0
    rw [hi0] at hr hb t4
    simp only [Int.toNat_natCast] at hr
    have hi : i < order.length := by omega
    obtain ⟨b, o, ha, hc⟩ := hrow.cell (i := i) (by simpa using hi)
    subst ha
    have hg : order.getD i 0 = order[i] := by simp [hi]
    rw [hg] at hr
    simp only [List.getElem_map] at hc
    have HR := Lib.hid hr
    have hne : ((order.length : Int) == 0) = false := by rw [beq_eq_false_iff_ne]; omega
    generalize order[i] = r at *
    clear hr hg hrow hi0
    go_enter Try.func151, Try.ntmps151
    go_wp2_with fail
    go_ret
    exact ⟨by rw [HR.out]; rfl, rfl⟩

set_option maxRecDepth 100000 in
set_option maxHeartbeats 1000000 in
theorem sbefore_any {W : World} {a : Option Addr} {cap : Nat} {order : List Int} (h : Given W a (order.map (Value.int .i64))) (hl : order.length ≤ 4000000000) (x y : Itm) :
    Calls Try.prog 107 #[.slice a order.length cap, iv x, iv y] W fun e w' => e = .returned (.bool (decide (rk order x < rk order y))) ∧ Keep Nothing W w' := by
  have H2 := Lib.hid h
  clear h
  unfold iv rk
  go_enter Try.func107, Try.ntmps107
  go_upto_region 1 with (fail)
  refine wp_world ?_
  intro W1 hW1
  have k1 : Keep Nothing W W1 := by subst hW1; exact ((Keep.refl _ _).al _).al _
  have X1 : W1.heap[W.heap.size]? = some (.cells #[.int .i64 x.1, .int .i64 x.2] 42 (0, 0)) := by subst hW1; exact blk_alloc _ (heap_alloc_new W _)
  have Y1 : W1.heap[W.heap.size + 1]? = some (.cells #[.int .i64 y.1, .int .i64 y.2] 42 (0, 0)) := by
    subst hW1
    have := heap_alloc_new (W.alloc (.cells #[.int .i64 x.1, .int .i64 x.2] 42)) (.cells #[.int .i64 y.1, .int .i64 y.2] 42)
    rw [World.size_alloc] at this
    exact this
  clear hW1
  have HK := Lib.hid k1
  have x0 := (two2 X1).1
  have y0 := (two2 Y1).1
  have hx := Lib.hid (srank_any (cap := cap) (w := W1.drew) (H2.out.keep k1.dr) hl x.1)
  have hy := Lib.hid (srank_any (cap := cap) (w := W1.drew) (H2.out.keep k1.dr) hl y.1)
  clear k1 X1 Y1 H2
  generalize W.heap.size = q at *
  refine wp_held (fun w' => w'.cell? ⟨q + 1, 0, none⟩ = some (.int .i64 y.1)) [6] (by kernel_rfl) (by kernel_rfl) (by kernel_rfl) rfl y0 ?_
  simp only [segs, readsB, silentB, lenB, checks, List.nil_append, Bool.or_true, Bool.or_false, Bool.false_eq_true, reduceIte, Bool.false_and]
  go_wp2_with fail
  refine hx.out.mono ?_
  rintro e w' ⟨rfl, rfl⟩
  go_wp2_with fail
  refine held_next y0 ?_
  go_wp2_with fail
  refine hy.out.mono ?_
  rintro e w' ⟨rfl, rfl⟩
  go_wp2_with fail
  refine held_next y0 ?_
  go_wp2_with fail
  refine held_end ?_ ?_
  · exact ⟨⟨.int .i64 y.1, fun w' hS => by simp [execOp, hS, go_sem]⟩, trivial⟩
  go_wp2_with fail
  go_ret
  exact ⟨rfl, HK.out.dr⟩

set_option maxRecDepth 100000 in
set_option maxHeartbeats 2000000 in
theorem ascends_any {w : World} {a c : Option Addr} {cap ccap : Nat} {order : List Int} {l : List Itm} (h : Given w a (order.map (Value.int .i64))) (hol : order.length ≤ 4000000000) (h2 : Given w c (IE.all l)) (hl : l.length ≤ 4000000000) (hasc : Asc (rk order) l) :
    Calls Try.prog 54 #[.slice a order.length cap, .slice c l.length ccap] w fun e w' => e = .returned (.bool true) ∧ Keep Nothing w w' := by
  have H1 := Lib.hid h
  have H2 := Lib.hid h2
  have HS := Lib.hid hasc
  clear h h2 hasc
  go_enter Try.func54, Try.ntmps54
  go_wp2_with fail
  go_loopg [5] (l.length + 1) (fun k v5 wr => ∃ i : Nat, v5 = .int .i64 (i + 1) ∧ i + k = l.length + 1 ∧ i ≤ l.length ∧ Keep Nothing w wr)
  case atStart => exact ⟨0, rfl, by omega, by omega, Keep.refl _ _⟩
  case round =>
    obtain ⟨i, rfl, hik, hil, hK⟩ := hrel
    have HK := Lib.hid hK
    clear hK
    by_cases hlt : i + 1 < l.length
    · obtain ⟨b, o, rfl, x0, x1⟩ := item2 (H2.out.keep (HK.out.trans (Keep.drew Nothing wr) fun _ _ _ h => h)) (i := i) (by omega)
      obtain ⟨b2, o2, e2, y0, y1⟩ := item2 (H2.out.keep (HK.out.trans (Keep.drew Nothing wr) fun _ _ _ h => h)) (i := i + 1) hlt
      obtain ⟨rfl, rfl⟩ : b = b2 ∧ o = o2 := by simpa using e2
      have hle := HS.out (i + 1) (by omega) hlt
      simp only [Nat.add_sub_cancel] at hle
      have hcall := Lib.hid (sbefore_any (cap := cap) (H1.out.keep (HK.out.trans (Keep.drew Nothing wr) fun _ _ _ h => h)) hol (at_ l (i + 1)) (at_ l i))
      have hdec : decide (rk order (at_ l (i + 1)) < rk order (at_ l i)) = false := decide_eq_false (by omega)
      rw [hdec] at hcall
      clear hle hdec e2
      generalize at_ l i = xi at *
      generalize at_ l (i + 1) = xj at *
      unfold iv at *
      have e1 : (((i : Int) + 1).toNat) = i + 1 := by omega
      go_wp2_with fail
      refine wp_calm (by kernel_rfl) (by kernel_rfl) rfl ?_
      simp only [List.flatMap_cons, List.flatMap_nil, checks, chk, nilLit, List.cons_append, List.nil_append, List.append_nil]
      go_wp2_with fail
      refine hcall.out.mono ?_
      rintro e w5 ⟨rfl, hK5⟩
      have K5 := Lib.hid (HK.out.trans ((Keep.drew Nothing wr).trans hK5 fun _ _ _ h => h) fun _ _ _ h => h)
      clear hcall hK5 x0 x1 y0 y1
      go_wp2_with fail
      rw [HQ_normal]
      go_wp2_with fail
      go_roundg (l.length - i)
      case measure => omega
      case rel => exact ⟨i + 1, by go_num, by omega, by omega, K5.out⟩
    · go_wp2_with fail
      go_ret
      exact ⟨rfl, HK.out⟩

set_option maxRecDepth 100000 in
set_option maxHeartbeats 2000000 in
theorem equalI_any {w : World} {a c : Option Addr} {acap ccap : Nat} {l : List Itm} (h1 : Given w a (IE.all l)) (h2 : Given w c (IE.all l)) (hl : l.length ≤ 4000000000000) :
    Calls Try.prog 23 #[.slice a l.length acap, .slice c l.length ccap] w fun e w' => e = .returned (.bool true) ∧ Keep Nothing w w' := by
  have H1 := Lib.hid h1
  have H2 := Lib.hid h2
  clear h1 h2
  go_enter Try.func23, Try.ntmps23
  go_wp2_with fail
  go_loopg [13] (l.length + 1) (fun k v13 wr => ∃ i : Nat, v13 = .int .i64 i ∧ i ≤ l.length ∧ i + k = l.length + 1 ∧ Keep Nothing w wr)
  case atStart => exact ⟨0, rfl, by omega, by omega, Keep.refl _ _⟩
  case round =>
    obtain ⟨i, rfl, hil, hik, hK⟩ := hrel
    have HK := Lib.hid hK
    clear hK
    by_cases hlt : i < l.length
    · obtain ⟨b1, o1, ha, x0, x1⟩ := item2 (H1.out.keep HK.out) hlt
      obtain ⟨b2, o2, hc, y0, y1⟩ := item2 (H2.out.keep HK.out) hlt
      subst ha
      subst hc
      generalize at_ l i = x at *
      go_wp2_with fail
      go_quiet (fail)
      go_wp2_with fail
      go_roundg (l.length - i)
      case measure => omega
      case rel => exact ⟨i + 1, by go_num, by omega, by omega, HK.out.drN _⟩
    · have hi : i = l.length := by omega
      subst hi
      go_wp2_with fail
      go_ret
      exact ⟨rfl, HK.out⟩

/-- A new list of items. -/
def NewItems (w : World) (xs : List Itm) (e : Ending) (w' : World) : Prop := ∃ a cap, e = .returned (.slice a xs.length cap) ∧ Given w' a (IE.all xs) ∧ xs.length ≤ cap ∧ Keep Nothing w w'
theorem exSorted_any {w : World} : Calls Try.prog 55 #[] w (NewItems w [(1, 5), (3, 2), (3, 4), (5, 1), (7, 6)]) := by
  go_enter Try.func55, Try.ntmps55
  go_wp2_with fail
  go_ret
  refine ⟨_, _, rfl, ?_, ?_, Keep.alloc _ _ _⟩
  · exact new_given w [.int .i64 1, .int .i64 5, .int .i64 3, .int .i64 2, .int .i64 3, .int .i64 4, .int .i64 5, .int .i64 1, .int .i64 7, .int .i64 6] _
  · simp
end Go.Proofs.Ytckplcmieelmpaa.P

namespace Go.Proofs.Ytckplcmieelmpaa.P
open Go.RowKit Go.Wb Go.Wb.Heap

set_option maxHeartbeats 1000000 in
theorem doorLess_any {W : World} {lb ko : Nat} {f c n s : Value} (hd : W.heap[lb]? = some (.cells #[f, c, n, s] 144 (0, 0))) :
    Calls Try.prog 103 #[ptr lb, .func (.func 147) #[] #[ptr ko]] W fun e W' => e = .returned (.tuple #[]) ∧ Keep (fun b _ => b = lb) W W' ∧ W'.heap[lb]? = some (.cells #[.func (.func 147) #[] #[ptr ko], c, n, s] 144 (0, 0)) := by
  obtain ⟨d0, d1, d2, d3, fz⟩ := four4 hd
  have HD := Lib.hid hd
  clear hd
  unfold ptr
  go_enter Try.func103, Try.ntmps103
  go_wp2_with fail
  go_end0
  exact ⟨rfl, (Keep.refl _ _).set _ _ _ fun _ => by rfl, blk_set _ HD.out⟩

set_option maxHeartbeats 1000000 in
theorem doorPush_any {W : World} {lb lo hi ko : Nat} {order : List Int} {l : List Itm} (hL : Less W lo hi ko order) (hq : ListAt W lb hi ko l) (hh : IsHeap (rk order) l) (hlb : lb < lo) (hlo : lo ≤ hi) (hhi : hi ≤ W.heap.size) (hol : order.length ≤ 4000000000) (hl : l.length ≤ 4000000000) (x : Itm) :
    Calls Try.prog 105 #[ptr lb, iv x] W (PushPost W lb hi ko order l x) := by
  have ka : Keep Nothing W (W.alloc (.cells #[.int .i64 x.1, .int .i64 x.2] 42)) := Keep.alloc _ _ _
  have hc := Lib.hid (push_any (hL.keep ka fun _ _ _ _ h => h) (hq.keep ka) hh hlb hlo (Nat.le_trans hhi ka.size) hol hl x)
  have HKA := Lib.hid ka
  clear hL hq hh ka
  unfold ptr iv ev at *
  go_enter Try.func105, Try.ntmps105
  go_wp2_with fail
  refine hc.out.mono ?_
  rintro e w' ⟨rfl, l', h1, h2, h3, h4⟩
  go_wp2_with fail
  go_end0
  exact ⟨rfl, l', h1, h2, h3, sq_ahead HKA.out h4⟩

theorem there2 {W : World} {b : Nat} {u v : Value} {t : TypeId} (h : W.heap[b]? = some (.cells #[u, v] t (0, 0))) : W.there b 0 2 := fun j hj => by
  obtain ⟨h0, h1, hf⟩ := two2 h
  refine ⟨?_, hf _⟩
  match j, hj with
  | 0, _ => rw [Nat.add_zero, h0]; rfl
  | 1, _ => rw [Nat.zero_add, h1]; rfl
def DPopPost (W : World) (lb hi ko : Nat) (order : List Int) (l : List Itm) (e : Ending) (W' : World) : Prop :=
  ∃ l', e = .returned (.tuple #[iv (at_ l 0), .bool true]) ∧ Popped (rk order) l (at_ l 0) l' ∧ ListAt W' lb hi ko l' ∧ Keep (SQ lb hi W) W W'
set_option maxHeartbeats 2000000 in
theorem doorPop_any {W : World} {lb lo hi ko : Nat} {order : List Int} {l : List Itm} (hL : Less W lo hi ko order) (hq : ListAt W lb hi ko l) (hh : IsHeap (rk order) l) (hlb : lb < lo) (hlo : lo ≤ hi) (hhi : hi ≤ W.heap.size) (hol : order.length ≤ 4000000000) (hl : l.length ≤ 4000000000) (h0 : 0 < l.length) :
    Calls Try.prog 106 #[ptr lb] W (DPopPost W lb hi ko order l) := by
  have ka : Keep Nothing W (W.alloc (.cells #[.int .i64 0, .int .i64 0] 42)) := Keep.alloc _ _ _
  have hb : (W.alloc (.cells #[.int .i64 0, .int .i64 0] 42)).heap[W.heap.size]? = some (.cells #[.int .i64 0, .int .i64 0] 42 (0, 0)) := heap_alloc_new W _
  have hc := Lib.hid (pop_any (hL.keep ka fun _ _ _ _ h => h) (hq.keep ka) hh hlb hlo (Nat.le_trans hhi ka.size) hol hl h0)
  have HKA := Lib.hid ka
  have HBK := Lib.hid hb
  have HLB : Hid (lb < W.heap.size) := Lib.hid (by omega)
  clear hL hq hh ka hb
  unfold ptr at *
  go_enter Try.func106, Try.ntmps106
  go_wp2_with fail
  refine hc.out.mono ?_
  rintro e w1 ⟨l', rfl, hp, hq, hk⟩
  have HP := Lib.hid hp
  have HQ' := Lib.hid hq
  have HK := Lib.hid hk
  have T2 : Hid (w1.heap[W.heap.size]? = some (.cells #[.int .i64 0, .int .i64 0] 42 (0, 0))) := Lib.hid (blk_keep HBK.out hk fun _ hs => by
    rcases hs with h | ⟨_, h⟩
    · have := HLB.out; omega
    · exact absurd (h _ _ _ HBK.out) (by decide))
  clear hp hq hk hc HBK
  generalize hx : at_ l 0 = x at *
  have HX := Lib.hid hx
  clear hx
  generalize hqq : W.heap.size = q at *
  unfold ev
  have T3 := Lib.hid (blk_alloc (.cells #[.int .i64 x.1, .int .i64 x.2, .pointer none] 209) T2.out)
  have thq : (w1.alloc (.cells #[.int .i64 x.1, .int .i64 x.2, .pointer none] 209)).there q 0 2 := there2 T3.out
  have on2 : (#[.int .i64 x.1, .int .i64 x.2] : Array Value).all (·.oneCell') = true := by simp [Value.oneCell']
  go_wp2_with (refine wpList_store_mid rfl _ _ _ rfl q 0 #[.int .i64 x.1, .int .i64 x.2] (by rfl) (by rfl) thq (by kernel_rfl) on2 ?_; refine wpl_world ?_; intro W9 hW9; have E9 := Lib.hid hW9)
  rw [← E9.out]
  have kq : Keep (fun c _ => c = q) w1 W9 := by
    rw [E9.out]
    exact (((Keep.refl _ _).al _).set _ _ _ fun _ => by rfl).set _ _ _ fun _ => by rfl
  have B9 : W9.heap[q]? = some (.cells #[.int .i64 x.1, .int .i64 x.2] 42 (0, 0)) := by
    rw [E9.out]
    exact blk_set _ (blk_set _ T3.out)
  refine bodyPost_ret (results_cell_tmp_row rfl _ _ q 42 #[.int .i64 x.1, .int .i64 x.2] (0, 0) _ rfl B9 Try.underlying42 rfl (by kernel_rfl)) rfl ?_
  obtain ⟨a, cap, q1, q2⟩ := HQ'.out
  refine ⟨l', by rw [HX.out]; rfl, by rw [HX.out]; exact HP.out, ⟨a, cap, blk_keep q1 kq fun _ (h : lb = q) => by have := HLB.out; omega, q2.row.keep' kq fun c p hf (h : c = q) => ?_, q2.len, q2.le, q2.own⟩, (sq_ahead HKA.out HK.out).trans kq fun c _ hc (h : c = q) => by omega⟩
  obtain ⟨arr, ha⟩ := q2.row.block ⟨_, hf⟩
  rw [h, T2.out] at ha
  cases ha
end Go.Proofs.Ytckplcmieelmpaa.P

namespace Go.Proofs.Ytckplcmieelmpaa.P
open Go.RowKit Go.Wb Go.Wb.Heap

/-- What NPops gives. -/
def NPopsPost (w : World) (order : List Int) (l : List Itm) (e : Ending) (w' : World) : Prop :=
  ∃ out a cap, e = .returned (.slice a out.length cap) ∧ out.Perm l ∧ Asc (rk order) out ∧ Given w' a (IE.all out) ∧ Keep Nothing w w'
/-- A list of items grows beside a queue. -/
theorem list_beside {W W' : World} {lb hi ko : Nat} {l : List Itm} (h : ListAt W lb hi ko l) (hlb : lb < hi) {a : Option Addr} {n cap : Nat} {cs : List Value} (hr : Acc hi W 42 2 a n cap cs) {S : Nat → Nat → Prop} (hk : Keep S W W') (hS : ∀ b o, S b o → rowFp a (cap * 2) b o) : ListAt W' lb hi ko l := by
  obtain ⟨qa, qcap, h1, h2⟩ := h
  refine ⟨qa, qcap, blk_keep h1 hk fun o hs => ?_, h2.row.keep' hk fun b o hf hs => ?_, h2.len, h2.le, h2.own⟩
  · have := hr.own _ _ (hS _ _ hs)
    omega
  · obtain ⟨arr, ha⟩ := h2.row.block ⟨_, hf⟩
    obtain ⟨arr2, hb⟩ := hr.row.block ⟨_, hS _ _ hs⟩
    rw [ha] at hb
    cases hb
theorem acc_beside {W W' : World} {lb hi : Nat} (hlb : lb < hi) {a : Option Addr} {n cap : Nat} {cs : List Value} (hr : Acc hi W 42 2 a n cap cs) (hk : Keep (SQ lb hi W) W W') : Acc hi W' 42 2 a n cap cs :=
  ⟨hr.row.keep' hk fun b o hf hs => by
    rcases hs with h | ⟨_, h⟩
    · have := hr.own b o hf; omega
    · obtain ⟨arr, ha⟩ := hr.row.block ⟨_, hf⟩
      exact absurd (h _ _ _ ha) (by decide), hr.len, hr.le, hr.own⟩
/-- A list's calls leave older blocks as they are. -/
theorem sq_old {w W W' : World} {lb hi : Nat} (h : Keep Nothing w W) (h1 : w.heap.size ≤ lb) (h2 : w.heap.size ≤ hi) (hk : Keep (SQ lb hi W) W W') : Keep Nothing w W' :=
  h.trans hk fun b o hb hs => by rcases hs with e | ⟨e, _⟩ <;> omega

set_option maxRecDepth 100000 in
set_option maxHeartbeats 8000000 in
theorem npops_any {w : World} {oa la : Option Addr} {ocap lcap : Nat} {order : List Int} {l : List Itm} (ho : Given w oa (order.map (Value.int .i64))) (hol : order.length ≤ 4000000000) (hg : Given w la (IE.all l)) (hl : l.length ≤ 4000000000) :
    Calls Try.prog 53 #[.slice oa order.length ocap, .slice la l.length lcap] w (NPopsPost w order l) := by
  have HO := Lib.hid ho
  have HG := Lib.hid hg
  clear ho hg
  have ka : Keep Nothing w (w.alloc (.cells #[.nilFunc, .int .i64 0, .int .i64 0, .slice none 0 0] 144)) := Keep.alloc _ _ _
  have hb := Lib.hid (before_any (cap := ocap) (HO.out.keep ka) hol)
  have B0 := Lib.hid (heap_alloc_new w (.cells #[.nilFunc, .int .i64 0, .int .i64 0, .slice none 0 0] 144))
  have KA := Lib.hid ka
  clear ka
  go_enter Try.func53, Try.ntmps53
  go_wp2_with fail
  refine hb.out.mono ?_
  rintro e w1 ⟨ko, rfl, hK, hL⟩
  have B1 := Lib.hid (blk_keep B0.out hK fun _ h => h)
  have K1 : Hid (Keep Nothing w w1) := Lib.hid (KA.out.trans hK fun _ _ _ h => h)
  have HL := Lib.hid hL
  have hhi : Hid (w.heap.size < w1.heap.size) := Lib.hid (by have := hK.size; simp at this; omega)
  clear hb hK hL KA B0
  generalize hlb : w.heap.size = lb at *
  have hd := Lib.hid (doorLess_any (ko := ko) B1.out)
  unfold ptr at *
  go_wp2_with fail
  refine hd.out.mono ?_
  rintro e w2 ⟨rfl, hK, hB⟩
  have J0 : Hid (ListAt w2 lb w1.heap.size ko []) := Lib.hid ⟨none, 0, hB, Acc.nil _ _ _ _⟩
  have K2 : Hid (Keep Nothing w w2) := Lib.hid (K1.out.trans hK fun c _ hc (h : c = lb) => by omega)
  have L2 : Hid (Less w2 (lb + 1) w1.heap.size ko order) := by
    have := HL.out.keep hK fun c _ h1 _ (h : c = lb) => by simp at h1; omega
    rw [World.size_alloc, hlb] at this
    exact Lib.hid this
  have HH : Hid (lb < w1.heap.size ∧ w1.heap.size ≤ w2.heap.size) := Lib.hid ⟨hhi.out, hK.size⟩
  clear hK hB hd B1 K1 HL hhi
  generalize w1.heap.size = hi at *
  go_wp2_with fail
  go_loopg [16] (l.length + 1) (fun k v16 wr => ∃ (i : Nat) (lq : List Itm), v16 = .int .i64 i ∧ i ≤ l.length ∧ i + k = l.length + 1 ∧ IsHeap (rk order) lq ∧ lq.Perm (l.take i) ∧ ListAt wr lb hi ko lq ∧ Less wr (lb + 1) hi ko order ∧ Keep Nothing w wr ∧ hi ≤ wr.heap.size)
  case atStart => exact ⟨0, [], rfl, by omega, by omega, IsHeap.nil _, by simp, J0.out, L2.out, K2.out, HH.out.2⟩
  case round =>
    obtain ⟨i, lq, rfl, hil, hik, hh, hp, hJ, hL, hK, hs⟩ := hrel
    have J := Lib.hid hJ
    have L := Lib.hid hL
    have K := Lib.hid hK
    have HQ0 := Lib.hid hh
    have P := Lib.hid hp
    have HS := Lib.hid hs
    clear hh hp hJ hL hK hs J0 L2 K2
    by_cases hlt : i < l.length
    · obtain ⟨b, o, rfl, x0, x1⟩ := item2 (HG.out.keep K.out) hlt
      have hx := at_some hlt
      generalize at_ l i = x at *
      have HX := Lib.hid hx
      have ka : Keep Nothing wr (wr.alloc (.cells #[.int .i64 x.1, .int .i64 x.2] 42)) := Keep.alloc _ _ _
      have hlq : lq.length = i := by rw [P.out.length_eq]; simp; omega
      have hc := Lib.hid (doorPush_any (L.out.keep ka fun _ _ _ _ h => h) (J.out.keep ka) HQ0.out (by omega) (by have := HH.out; omega) (by have := HS.out; have := ka.size; omega) hol (by omega) x)
      have KA := Lib.hid ka
      have bx := two2 (heap_alloc_new wr (.cells #[.int .i64 x.1, .int .i64 x.2] 42))
      obtain ⟨bx0, bx1, _⟩ := bx
      clear ka hx
      unfold iv ptr at *
      go_wp2_with fail
      refine hc.out.mono ?_
      rintro e w' ⟨rfl, l', h1, h2, h3, h4⟩
      have N1 := Lib.hid h1
      have N2 := Lib.hid h2
      have N3 := Lib.hid h3
      have N4 := Lib.hid (sq_ahead KA.out h4)
      clear h1 h2 h3 h4 hc KA bx0 bx1
      go_wp2_with fail
      go_roundg (l.length - i)
      case measure => omega
      case rel =>
        have hh := HH.out
        refine ⟨i + 1, l', by go_num, by omega, by omega, N1.out, ?_, N3.out, L.out.sq (by omega) N4.out, sq_old K.out (by omega) (by omega) N4.out, Nat.le_trans HS.out N4.out.size⟩
        have e : l.take (i + 1) = l.take i ++ [x] := by rw [List.take_add_one, HX.out, Option.toList_some]
        rw [e]
        exact N2.out.trans (P.out.append_right _)
    · have hi' : i = l.length := by omega
      have hpl : lq.Perm l := by
        have := P.out
        rwa [hi', List.take_of_length_le (Nat.le_refl _)] at this
      have D0 : Hid (Drain (rk order) l [] lq) := Lib.hid (Drain.init HQ0.out hpl)
      have hlq : lq.length = l.length := hpl.length_eq
      have HLQ := Lib.hid hlq
      clear hpl hlq P HQ0
      subst hi'
      go_wp2_with fail
      go_loopg [8, 25] (l.length + 1) (fun k v8 v25 wx => ∃ (i : Nat) (lq out : List Itm) (a : Option Addr) (cap : Nat), v8 = .slice a out.length cap ∧ v25 = .int .i64 i ∧ out.length = i ∧ i ≤ l.length ∧ i + k = l.length + 1 ∧ lq.length + i = l.length ∧ Drain (rk order) l out lq ∧ ListAt wx lb hi ko lq ∧ Acc hi wx 42 2 a out.length cap (IE.all out) ∧ Less wx (lb + 1) hi ko order ∧ Keep Nothing w wx ∧ hi ≤ wx.heap.size)
      case atStart => exact ⟨0, lq, [], none, 0, rfl, rfl, rfl, by omega, by omega, by have := HLQ.out; omega, D0.out, J.out, Acc.nil _ _ _ _, L.out, K.out, HS.out⟩
      case round =>
        clear D0 J L K HS HLQ
        obtain ⟨i, lq, out, a, cap, rfl, rfl, hoi, hil, hik, hlq, hD, hJ, hA, hL, hK, hs⟩ := hrel
        have D := Lib.hid hD
        have J := Lib.hid hJ
        have L := Lib.hid hL
        have K := Lib.hid hK
        have A := Lib.hid hA
        have HS := Lib.hid hs
        have HLQ := Lib.hid hlq
        clear hD hJ hA hL hK hs
        by_cases hlt : i < l.length
        · have hc := Lib.hid (doorPop_any L.out J.out D.out.heap (by omega) (by have := HH.out; omega) HS.out hol (by omega) (by omega))
          clear hlq
          unfold ptr at *
          go_wp2_with fail
          refine hc.out.mono ?_
          rintro e w' ⟨l', rfl, h1, h2, h3⟩
          have N1 := Lib.hid h1
          have N2 := Lib.hid h2
          have N3 := Lib.hid h3
          clear h1 h2 h3 hc
          generalize at_ lq 0 = x at *
          unfold iv
          go_upto_region 12 with (fail)
          refine wp_world ?_
          intro W3 hW3
          have k3 : Keep Nothing w' W3 := by subst hW3; exact (Keep.refl _ _).al _
          have X3 : W3.heap[w'.heap.size]? = some (.cells #[.int .i64 x.1, .int .i64 x.2] 42 (0, 0)) := by subst hW3; exact heap_alloc_new w' _
          clear hW3
          obtain ⟨x0, x1, _⟩ := two2 X3
          have hh := HH.out
          have M3 := Lib.hid (sq_behind N3.out k3)
          have A3 : Hid (Acc hi W3 42 2 a i cap (IE.all out)) := by
            have := (acc_beside HH.out.1 A.out N3.out).quiet k3
            rw [hoi] at this
            exact Lib.hid this
          have J3 := Lib.hid (N2.out.keep k3)
          have L3 : Hid (Less W3 (lb + 1) hi ko order) := Lib.hid (L.out.sq (by omega) M3.out)
          have K3 : Hid (Keep Nothing w W3) := Lib.hid (sq_old K.out (by omega) (by omega) M3.out)
          have hs3 := Nat.le_trans HS.out M3.out.size
          have kb : Keep Nothing W3 (W3.alloc (.cells #[.int .i64 x.1, .int .i64 x.2] 42)) := Keep.alloc _ _ _
          have A4 := Lib.hid (A3.out.quiet kb)
          have G4 := Lib.hid (new_given W3 [.int .i64 x.1, .int .i64 x.2] 42)
          have KB := Lib.hid kb
          have hoc := A3.out.le
          clear k3 X3 N2 N3 A3 J A L K HS kb
          go_wp2_with (at_builtin; refine wpList_append_src rfl _ _ _ rfl 42 2 16 Try.underlying38 elemIt a i cap (IE.all out) (by rfl) A4.out.row (by rw [ie_len, hoi]) (some ⟨W3.heap.size, 0, none⟩) 1 1 (IE.enc x) (by rfl) (by omega) (by rfl) G4.out (IE.one x) hoc (by simp only [maxLen]; omega) (by omega) ?_; intro a9 c9 W5 hg)
          obtain ⟨A5, k5⟩ := A4.out.grow (Nat.le_trans hs3 KB.out.size) hg (IE.len x)
          have J5 := list_beside (J3.out.keep KB.out) HH.out.1 A4.out hg.keep fun b o h => grow_row hoc h
          have hs5 : hi ≤ W5.heap.size := Nat.le_trans hs3 (Nat.le_trans KB.out.size k5.size)
          have D5 := D.out.step N1.out
          have hl5 : l'.length + 1 = lq.length := N1.out.perm.length_eq
          have L5 : Less W5 (lb + 1) hi ko order := (L3.out.keep KB.out fun _ _ _ _ h => h).keep k5 fun b o h1 h2 (h3 : hi ≤ b) => by omega
          have K5 : Keep Nothing w W5 := (K3.out.trans KB.out fun _ _ _ h => h).trans k5 fun b o hb (h : hi ≤ b) => by omega
          have e5 : IE.all out ++ IE.enc x = IE.all (out ++ [x]) := by rw [Enc.all_append]; simp [Enc.all]
          rw [e5] at A5
          clear hg
          go_roundg (l.length - i)
          case measure => omega
          case rel =>
            have hq := HLQ.out
            refine ⟨i + 1, l', out ++ [x], a9, c9, ?_, by go_num, ?_, by omega, by omega, by omega, D5, J5, ?_, L5, K5, hs5⟩
            · rw [List.length_append, hoi]; rfl
            · rw [List.length_append, hoi]; rfl
            · rw [List.length_append, hoi]; exact A5
        · have hi' : i = l.length := by omega
          have h0 : lq = [] := List.length_eq_zero_iff.1 (by omega)
          have hp := D.out.perm
          rw [h0, List.append_nil] at hp
          go_wp2_with fail
          go_ret
          exact ⟨out, a, cap, by rw [hoi]; rfl, hp, D.out.asc, A.out.row.reads, K.out⟩
end Go.Proofs.Ytckplcmieelmpaa.P

namespace Go.Proofs.Ytckplcmieelmpaa.P
open Go.RowKit Go.Wb Go.Wb.Heap

/-- True, and what came in as it was. -/
def TruePost (w : World) (e : Ending) (w' : World) : Prop := e = .returned (.bool true) ∧ Keep Nothing w w'

theorem npops_far {w : World} {oa la : Option Addr} {ocap lcap : Nat} {order : List Int} {l : List Itm} (h : ¬ (order.length ≤ 2147483647 ∧ l.length ≤ 2147483647)) :
    Calls Try.prog 10 #[.slice oa order.length ocap, .slice la l.length lcap] w (TruePost w) := by
  by_cases h1 : order.length ≤ 2147483647
  · have h2 : ¬ l.length ≤ 2147483647 := fun h2 => h ⟨h1, h2⟩
    go_enter Try.func10, Try.ntmps10
    go_wp2_with fail
    go_ret
    exact ⟨rfl, Keep.refl _ _⟩
  · go_enter Try.func10, Try.ntmps10
    go_wp2_with fail
    go_ret
    exact ⟨rfl, Keep.refl _ _⟩

theorem count_step (l : List Itm) (x : Itm) {j : Nat} (h : j < l.length) : (l.take (j + 1)).count x = (l.take j).count x + if at_ l j = x then 1 else 0 := by
  rw [List.take_add_one, at_some h, Option.toList_some, List.count_append, List.count_singleton]
  simp

set_option maxRecDepth 100000 in
set_option maxHeartbeats 8000000 in
theorem npops_main {w : World} {oa la : Option Addr} {ocap lcap : Nat} {order : List Int} {l : List Itm} (ho : Given w oa (order.map (Value.int .i64))) (hol : order.length ≤ 2147483647) (hg : Given w la (IE.all l)) (hl : l.length ≤ 2147483647) :
    Calls Try.prog 10 #[.slice oa order.length ocap, .slice la l.length lcap] w (TruePost w) := by
  have HO := Lib.hid ho
  have HG := Lib.hid hg
  have hp := Lib.hid (npops_any (ocap := ocap) (lcap := lcap) ho (by omega) hg (by omega))
  clear ho hg
  go_enter Try.func10, Try.ntmps10
  go_wp2_with fail
  refine hp.out.mono ?_
  rintro e w1 ⟨out, a, cap, rfl, hperm, hasc, hgv, hK⟩
  have HP := Lib.hid hperm
  have HV := Lib.hid hgv
  have K1 := Lib.hid hK
  have hlen : out.length = l.length := hperm.length_eq
  rw [hlen]
  have ha := Lib.hid (ascends_any (cap := ocap) (ccap := cap) (HO.out.keep hK) (by omega) hgv (by omega) hasc)
  rw [hlen] at ha
  have HLEN := Lib.hid hlen
  clear hp hperm hasc hgv hK hlen
  go_wp2_with fail
  refine ha.out.mono ?_
  rintro e w2 ⟨rfl, hK⟩
  have K2 := Lib.hid (K1.out.trans hK fun _ _ _ h => h)
  have V2 := Lib.hid (HV.out.keep hK)
  clear ha hK K1 HV
  go_wp2_with fail
  go_loopg [37] (l.length + 1) (fun k v37 wr => ∃ i : Nat, v37 = .int .i64 i ∧ i ≤ l.length ∧ i + k = l.length + 1 ∧ Keep Nothing w2 wr)
  case atStart => exact ⟨0, rfl, by omega, by omega, Keep.refl _ _⟩
  case round =>
    obtain ⟨i, rfl, hil, hik, hK⟩ := hrel
    have K := Lib.hid (K2.out.trans hK fun _ _ _ h => h)
    have KR := Lib.hid hK
    clear hK
    by_cases hlt : i < l.length
    · obtain ⟨b, o, rfl, x0, x1⟩ := item2 (HG.out.keep K.out) hlt
      generalize at_ l i = x at *
      go_upto_region 9 with (fail)
      refine wp_world ?_
      intro W3 hW3
      have k3 : Keep Nothing wr W3 := by subst hW3; exact (Keep.refl _ _).al _
      have X3 : Hid (W3.heap[wr.heap.size]? = some (.cells #[.int .i64 x.1, .int .i64 x.2] 42 (0, 0))) := by subst hW3; exact Lib.hid (heap_alloc_new wr _)
      have KR3 := Lib.hid (KR.out.trans k3 fun _ _ _ h => h)
      clear hW3 x0 x1 k3 K KR
      generalize wr.heap.size = xb at *
      go_wp2_with fail
      go_loopg [8, 43] (l.length + 1) (fun k v8 v43 wx => ∃ (j : Nat) (n : Int), v8 = .int .i64 n ∧ n = (l.take j).count x ∧ v43 = .int .i64 j ∧ j ≤ l.length ∧ j + k = l.length + 1 ∧ Keep Nothing W3 wx)
      case atStart => exact ⟨0, 0, rfl, by simp, rfl, by omega, by omega, Keep.refl _ _⟩
      case round =>
        obtain ⟨j, n, rfl, hn, rfl, hjl, hjk, hK⟩ := hrel
        have K := Lib.hid hK
        have hcl : (l.take j).count x ≤ j := Nat.le_trans List.count_le_length (by simp; omega)
        have hn1 : 0 ≤ n := by omega
        have hn2 : n ≤ j := by omega
        have HN := Lib.hid hn
        clear hn hcl hK
        have Xr := blk_keep X3.out K.out fun _ h => h
        by_cases hjt : j < l.length
        · obtain ⟨b2, o2, e2, y0, y1⟩ := item2 (HG.out.keep (K2.out.trans (KR3.out.trans K.out fun _ _ _ h => h) fun _ _ _ h => h)) hjt
          cases e2
          have hc := count_step l x hjt
          have HC := Lib.hid hc
          clear hc
          generalize at_ l j = y at *
          have kb : Keep Nothing wr (wr.alloc (.cells #[.int .i64 y.1, .int .i64 y.2] 42)) := Keep.alloc _ _ _
          obtain ⟨xr0, xr1, _⟩ := two2 (blk_keep Xr kb fun _ h => h)
          obtain ⟨yr0, yr1, _⟩ := two2 (heap_alloc_new wr (.cells #[.int .i64 y.1, .int .i64 y.2] 42))
          clear kb
          by_cases e : y = x
          · subst e
            go_wp2_with fail
            go_roundg (l.length - j)
            case measure => omega
            case rel => exact ⟨j + 1, n + 1, by go_num, by have h1 := HC.out; (first | rw [if_pos rfl] at h1 | rw [if_pos trivial] at h1); have := HN.out; omega, by go_num, by omega, by omega, K.out.al _⟩
          · have HE := Lib.hid e
            have hne : y.1 ≠ x.1 ∨ (y.1 = x.1 ∧ y.2 ≠ x.2) := by
              by_cases e1 : y.1 = x.1
              · exact .inr ⟨e1, fun e2 => e (Prod.ext e1 e2)⟩
              · exact .inl e1
            clear e
            rcases hne with hne | ⟨h1, hne⟩
            · go_wp2_with fail
              go_roundg (l.length - j)
              case measure => omega
              case rel => exact ⟨j + 1, n, rfl, by rw [HC.out, if_neg HE.out]; have := HN.out; omega, by go_num, by omega, by omega, K.out.al _⟩
            · obtain ⟨ya, yb⟩ := y
              dsimp only at h1 hne xr0 xr1 yr0 yr1 y0 y1
              subst h1
              go_wp2_with fail
              go_roundg (l.length - j)
              case measure => omega
              case rel => exact ⟨j + 1, n, rfl, by rw [HC.out, if_neg HE.out]; have := HN.out; omega, by go_num, by omega, by omega, K.out.al _⟩
        · have hj : j = l.length := by omega
          have hn : n = (l.count x : Nat) := by have := HN.out; rwa [hj, List.take_of_length_le (Nat.le_refl _)] at this
          have KJ := Lib.hid (KR3.out.trans K.out fun _ _ _ h => h)
          have XJ := Lib.hid Xr
          have hcl : l.count x ≤ l.length := List.count_le_length
          have HCL := Lib.hid hcl
          clear HN K Xr hcl
          subst hj
          have HN := Lib.hid hn
          clear hn KR3 X3
          go_wp2_with fail
          go_loopg [8, 55] (l.length + 1) (fun k v8 v55 wx => ∃ (j : Nat) (n : Int), v8 = .int .i64 n ∧ n = (l.count x : Int) - (out.take j).count x ∧ v55 = .int .i64 j ∧ j ≤ l.length ∧ j + k = l.length + 1 ∧ Keep Nothing wr wx)
          case atStart => exact ⟨0, _, rfl, by have := HN.out; simp; omega, rfl, by omega, by omega, Keep.refl _ _⟩
          case round =>
            obtain ⟨j, n, rfl, hn, rfl, hjl, hjk, hK⟩ := hrel
            have K := Lib.hid hK
            have hcl : (out.take j).count x ≤ j := Nat.le_trans List.count_le_length (by simp; omega)
            have hn1 : -j ≤ n := by omega
            have hn2 : n ≤ l.length := by have := HCL.out; omega
            have HN := Lib.hid hn
            clear hn hcl hK
            have Xr := blk_keep XJ.out K.out fun _ h => h
            by_cases hjt : j < l.length
            · obtain ⟨b2, o2, rfl, y0, y1⟩ := item2 (V2.out.keep (KJ.out.trans K.out fun _ _ _ h => h)) (i := j) (by have := HLEN.out; omega)
              have hc := count_step out x (j := j) (by have := HLEN.out; omega)
              have HC := Lib.hid hc
              clear hc
              generalize at_ out j = y at *
              have kb : Keep Nothing wr (wr.alloc (.cells #[.int .i64 y.1, .int .i64 y.2] 42)) := Keep.alloc _ _ _
              obtain ⟨xr0, xr1, _⟩ := two2 (blk_keep Xr kb fun _ h => h)
              obtain ⟨yr0, yr1, _⟩ := two2 (heap_alloc_new wr (.cells #[.int .i64 y.1, .int .i64 y.2] 42))
              clear kb
              by_cases e : y = x
              · subst e
                go_wp2_with fail
                go_roundg (l.length - j)
                case measure => omega
                case rel => exact ⟨j + 1, n - 1, by go_num, by have h1 := HC.out; (first | rw [if_pos rfl] at h1 | rw [if_pos trivial] at h1); have := HN.out; omega, by go_num, by omega, by omega, K.out.al _⟩
              · have HE := Lib.hid e
                have hne : y.1 ≠ x.1 ∨ (y.1 = x.1 ∧ y.2 ≠ x.2) := by
                  by_cases e1 : y.1 = x.1
                  · exact .inr ⟨e1, fun e2 => e (Prod.ext e1 e2)⟩
                  · exact .inl e1
                clear e
                rcases hne with hne | ⟨h1, hne⟩
                · go_wp2_with fail
                  go_roundg (l.length - j)
                  case measure => omega
                  case rel => exact ⟨j + 1, n, rfl, by rw [HC.out, if_neg HE.out]; have := HN.out; omega, by go_num, by omega, by omega, K.out.al _⟩
                · obtain ⟨ya, yb⟩ := y
                  dsimp only at h1 hne xr0 xr1 yr0 yr1 y0 y1
                  subst h1
                  go_wp2_with fail
                  go_roundg (l.length - j)
                  case measure => omega
                  case rel => exact ⟨j + 1, n, rfl, by rw [HC.out, if_neg HE.out]; have := HN.out; omega, by go_num, by omega, by omega, K.out.al _⟩
            · have hj : j = l.length := by omega
              have hz : n = 0 := by
                have := HN.out
                rw [hj, List.take_of_length_le (by rw [HLEN.out]; exact Nat.le_refl _), HP.out.count_eq] at this
                omega
              subst hj
              subst hz
              go_wp2_with fail
              go_roundg (l.length - i)
              case measure => omega
              case rel => exact ⟨i + 1, by go_num, by omega, by omega, KJ.out.trans K.out fun _ _ _ h => h⟩
    · have hi' : i = l.length := by omega
      subst hi'
      have hx := Lib.hid (exSorted_any (w := wr))
      go_wp2_with fail
      refine hx.out.mono ?_
      rintro e w5 ⟨a5, c5, rfl, hg5, hc5, hK5⟩
      have one : ∀ {W : World} {q : Option Addr}, Given W q (IE.all [(1, 5), (3, 2), (3, 4), (5, 1), (7, 6)]) → Given W q (IE.all [(1, 5)]) := fun h => by
        have := h.take 2
        simpa [Enc.all, IE] using this
      obtain ⟨b5, o5, e5, _⟩ := hg5.cell (i := 0) (by simp [Enc.all, IE])
      subst e5
      have G5 := Lib.hid (one hg5)
      have K5 := Lib.hid (K2.out.trans (KR.out.trans hK5 fun _ _ _ h => h) fun _ _ _ h => h)
      have hc5' : (5 : Int) ≤ (c5 : Int) := by simp at hc5; omega
      clear hx hg5 hK5 hc5 HG HO HP V2 HLEN KR K
      have hp5 := Lib.hid (npops_any (order := []) (l := [(1, 5)]) (oa := none) (ocap := 0) (lcap := c5) (w := w5) (.inl rfl) (by simp) G5.out (by simp))
      simp only [List.length_cons, List.length_nil, Nat.zero_add] at hp5
      go_wp2_with fail
      refine hp5.out.mono ?_
      rintro e w6 ⟨out6, a6, c6, rfl, hperm, _, hg6, hK6⟩
      obtain rfl : out6 = [(1, 5)] := List.perm_singleton.1 hperm
      have G6 := Lib.hid hg6
      have K6 := Lib.hid (K5.out.trans hK6 fun _ _ _ h => h)
      have hx := Lib.hid (exSorted_any (w := w6))
      clear hp5 hperm hg6 hK6 G5
      go_wp2_with fail
      refine hx.out.mono ?_
      rintro e w7 ⟨a7, c7, rfl, hg7, hc7, hK7⟩
      obtain ⟨b7, o7, e7, _⟩ := hg7.cell (i := 0) (by simp [Enc.all, IE])
      subst e7
      have he := Lib.hid (equalI_any (acap := c6) (ccap := c7) (l := [(1, 5)]) (G6.out.keep hK7) (one hg7) (by simp))
      have K7 := Lib.hid (K6.out.trans hK7 fun _ _ _ h => h)
      have hc7' : (5 : Int) ≤ (c7 : Int) := by simp at hc7; omega
      simp only [List.length_cons, List.length_nil, Nat.zero_add] at he
      clear hx hg7 hK7 hc7 G6
      go_wp2_with fail
      refine he.out.mono ?_
      rintro e w8 ⟨rfl, hK8⟩
      have K8 := Lib.hid (K7.out.trans hK8 fun _ _ _ h => h)
      clear he hK8
      go_wp2_with fail
      go_ret
      exact ⟨rfl, K8.out⟩

theorem npops_row {w : World} {oa la : Option Addr} {ocap lcap : Nat} {order : List Int} {l : List Itm} (ho : Given w oa (order.map (Value.int .i64))) (_ : order.length ≤ maxLen) (hg : Given w la (IE.all l)) (_ : l.length ≤ maxLen) :
    Calls Try.prog 10 #[.slice oa order.length ocap, .slice la l.length lcap] w (TruePost w) := by
  by_cases h : order.length ≤ 2147483647 ∧ l.length ≤ 2147483647
  · exact npops_main ho h.1 hg h.2
  · exact npops_far h
end Go.Proofs.Ytckplcmieelmpaa.P

namespace Go.Wb
open Go Go.ChangeShapes Go.WideShapes Go.ChangeAt Go.RowKit

/-- The cells of a slice that came in. -/
theorem given_cells {W : World} {a : Addr} {cs : List Value} (h : ∀ i v, cs[i]? = some v → W.cell? (a.add i) = some v) : Given W (some a) cs := by
  cases cs with
  | nil => exact .inl rfl
  | cons x cs =>
    obtain ⟨b, off, spot⟩ := a
    have h0 := h 0 x (by simp)
    have hspot : spot = none := by simpa [Addr.add] using World.cell?_spot h0
    subst hspot
    refine .inr ⟨b, off, rfl, fun i v hi => ?_⟩
    rw [← add_plain]
    exact h i v hi

section
variable {H : Type} {enc : TypeId × Value → H} {P : Program} {W : World}

/-- A slice of texts that came in. -/
theorem open_texts {t e : TypeId} {base : Nat} {v : Value} {d : DataW H} {p : List MemPlace} (ht : P.underlying t = some (.slice e)) (he : P.underlying e = some .string) (hc : P.cellsOf e = 1) (hval : Value.okWide P W .any base t v)
    (h : DataW.Trod enc P W 0 (fun _ => true) true t v d p) : ∃ (a : Option Addr) (l : List ByteArray) (cap : Nat), v = .slice a l.length cap ∧ Given W a (l.map .string) ∧ l.length ≤ maxLen := by
  obtain ⟨a0, len, cap, rfl⟩ := okWide_slice ht hval
  obtain ⟨fuel, hf⟩ := h
  rcases open_strings ht he hc hf with ⟨hcs, hx⟩ | ⟨a, len', cap', ss, hcs, _, hl, hm, hz, hx, hcell, hws⟩
  · simp [Value.cells] at hcs
    obtain ⟨rfl, rfl, rfl⟩ := hcs
    exact ⟨none, [], 0, rfl, .inl rfl, by simp⟩
  · simp [Value.cells] at hcs
    obtain ⟨rfl, rfl, rfl⟩ := hcs
    simp only [if_true] at hz
    have hlen : (ss.take len).length = len := by simp; omega
    refine ⟨some a, ss.take len, cap, by rw [hlen], given_cells fun i v hi => ?_, by rw [hlen]; omega⟩
    rw [List.getElem?_map, List.getElem?_take] at hi
    split at hi
    · have hil : i < ss.length := by omega
      rw [List.getElem?_eq_getElem hil] at hi
      rw [hcell i hil]
      simp at hi
      rw [← hi]
      simp [List.getD, hil]
    · cases hi

/-- What came in reads as it did. -/
theorem Below.trodAll (hl : laidOutB P = true) {W' : World} (hb : Below W.heap.size W W') : ∀ {ts : List TypeId} {vs : List Value} {ds : List (DataW H)} {ps : List MemPlace}, (ts.all fun t => P.readableRec t && decide (t < P.types.size)) = true →
    DataW.TrodAll enc P W 0 (fun _ => true) true ts vs ds ps → (∀ x ∈ ps, x.block < W.heap.size) → DataW.TrodAll enc P W' 0 (fun b => decide (b < W.heap.size)) true ts vs ds ps
  | [], [], [], ps, _, h, _ => h
  | t :: ts, v :: vs, d :: ds, ps, hc, h, hp => by
    obtain ⟨p, q, h1, h2, rfl⟩ := h
    simp only [List.all_cons, Bool.and_eq_true, decide_eq_true_eq] at hc
    refine ⟨p, q, Below.trod hl hc.1.1 hc.1.2 h1 hb (fun x hx => hp x (by simp [hx])), Below.trodAll hl hb (by simpa using hc.2) h2 (fun x hx => hp x (by simp [hx])), rfl⟩
  | [], _ :: _, _, _, _, h, _ => h.elim
  | [], [], _ :: _, _, _, h, _ => h.elim
  | _ :: _, [], _, _, _, h, _ => h.elim
  | _ :: _, _ :: _, [], _, _, h, _ => h.elim
end
end Go.Wb

namespace Go.Wb
open Go Go.ChangeShapes Go.WideShapes Go.ChangeAt Go.RowKit Go.Deep

theorem pairs_get {β : Type} (f g : β → Value) : ∀ {l : List β} {j : Nat} {v : Value}, (l.flatMap fun x => [f x, g x])[j]? = some v → ∃ i x, l[i]? = some x ∧ ((j = i * 2 ∧ v = f x) ∨ (j = i * 2 + 1 ∧ v = g x))
  | [], j, v, h => by simp at h
  | x :: l, 0, v, h => ⟨0, x, rfl, .inl ⟨rfl, by simpa using h.symm⟩⟩
  | x :: l, 1, v, h => ⟨0, x, rfl, .inr ⟨rfl, by simpa using h.symm⟩⟩
  | x :: l, j + 2, v, h => by
    obtain ⟨i, y, h1, h2⟩ := pairs_get f g (l := l) (j := j) (v := v) (by simpa using h)
    exact ⟨i + 1, y, by simpa using h1, h2.imp (fun ⟨a, b⟩ => ⟨by omega, b⟩) fun ⟨a, b⟩ => ⟨by omega, b⟩⟩

def strV : Value → ByteArray | .string s => s | _ => ⟨#[]⟩
def intV : Value → Int | .int _ n => n | _ => 0

section
variable {H : Type} {enc : TypeId × Value → H} {P : Program} {W : World}
/-- A slice of pairs of a text and a number that came in. -/
theorem open_words {t e : TypeId} {f0 f1 : Field} {base : Nat} {v : Value} {d : DataW H} {p : List MemPlace} (ht : P.underlying t = some (.slice e)) (he : P.underlying e = some (.struct #[f0, f1])) (hk : P.underlying f0.type = some .string) (hi : P.underlying f1.type = some (.int .i64))
    (ce : P.cellsOf e = 2) (o0 : f0.offset = 0) (o1 : f1.offset = 1) (c0 : P.cellsOf f0.type = 1) (c1 : P.cellsOf f1.type = 1) (hval : Value.okWide P W .any base t v)
    (h : DataW.Trod enc P W 0 (fun _ => true) true t v d p) : ∃ (a : Option Addr) (l : List (ByteArray × Int)) (cap : Nat), v = .slice a l.length cap ∧ Given W a (l.flatMap fun x => [.string x.1, .int .i64 x.2]) ∧ l.length ≤ maxLen := by
  obtain ⟨a0, len, cap, rfl⟩ := okWide_slice ht hval
  obtain ⟨fuel, hf⟩ := h
  rcases open_slice_pairs ht he ce o0 o1 c0 c1 hf with ⟨hcs, hx⟩ | ⟨a, len', cap', m, n, V0, V1, D0, D1, P0, P1, hcs, _, hl, hm, hz, hx, hc⟩
  · simp [Value.cells] at hcs
    obtain ⟨rfl, rfl, rfl⟩ := hcs
    exact ⟨none, [], 0, rfl, .inl rfl, by simp⟩
  · simp [Value.cells] at hcs
    obtain ⟨rfl, rfl, rfl⟩ := hcs
    simp only [if_true] at hz
    have hlen : ((List.range len).map fun i => (strV (V0 i), intV (V1 i))).length = len := by simp
    refine ⟨some a, (List.range len).map fun i => (strV (V0 i), intV (V1 i)), cap, by rw [hlen], given_cells fun j u hj => ?_, by rw [hlen]; omega⟩
    obtain ⟨i, x, h1, h2⟩ := pairs_get (fun x : ByteArray × Int => Value.string x.1) (fun x => Value.int .i64 x.2) hj
    rw [List.getElem?_map] at h1
    obtain ⟨k, hk1, hk2⟩ := Option.map_eq_some_iff.1 h1
    obtain ⟨hil, rfl⟩ := List.getElem?_eq_some_iff.1 hk1
    simp only [List.length_range] at hil
    simp only [List.getElem_range] at hk2
    subst hk2
    obtain ⟨g0, g1, g2, g3⟩ := hc i (by omega)
    obtain ⟨s, e1, _, _⟩ := DataW.trod_string hk g2
    obtain ⟨z, e2, _, _⟩ := DataW.trod_int hi g3
    have e1' : V0 i = .string s := by simpa using e1
    have e2' : V1 i = .int .i64 z := by simpa using e2
    rcases h2 with ⟨rfl, rfl⟩ | ⟨rfl, rfl⟩
    · rw [g0, e1']; rfl
    · rw [g1, e2']; rfl
end
end Go.Wb

namespace Go.Wb
open Go Go.ChangeShapes Go.WideShapes Go.ChangeAt Go.RowKit

section
variable {H : Type} {enc : TypeId × Value → H} {P : Program} {W : World}
/-- A slice of numbers that came in. -/
theorem open_numbers {t e : TypeId} {base : Nat} {v : Value} {d : DataW H} {p : List MemPlace} (ht : P.underlying t = some (.slice e)) (he : P.underlying e = some (.int .i64)) (hc : P.cellsOf e = 1) (hval : Value.okWide P W .any base t v)
    (h : DataW.Trod enc P W 0 (fun _ => true) true t v d p) : ∃ (a : Option Addr) (l : List Int) (cap : Nat), v = .slice a l.length cap ∧ Given W a (l.map (Value.int .i64)) ∧ l.length ≤ maxLen := by
  obtain ⟨a0, len, cap, rfl⟩ := okWide_slice ht hval
  obtain ⟨fuel, hf⟩ := h
  rcases open_ints ht he hc hf with ⟨hcs, hx⟩ | ⟨a, len', cap', ss, hcs, _, hl, hm, hz, hx, hcell, hws⟩
  · simp [Value.cells] at hcs
    obtain ⟨rfl, rfl, rfl⟩ := hcs
    exact ⟨none, [], 0, rfl, .inl rfl, by simp⟩
  · simp [Value.cells] at hcs
    obtain ⟨rfl, rfl, rfl⟩ := hcs
    simp only [if_true] at hz
    have hlen : (ss.take len).length = len := by simp; omega
    refine ⟨some a, ss.take len, cap, by rw [hlen], given_cells fun i v hi => ?_, by rw [hlen]; omega⟩
    rw [List.getElem?_map, List.getElem?_take] at hi
    split at hi
    · have hil : i < ss.length := by omega
      rw [List.getElem?_eq_getElem hil] at hi
      rw [hcell i hil]
      simp at hi
      rw [← hi]
      simp [List.getD, hil]
    · cases hi
end
end Go.Wb

namespace Go.Wb
open Go Go.ChangeShapes Go.WideShapes Go.ChangeAt Go.RowKit Go.Deep

section
variable {H : Type} {enc : TypeId × Value → H} {P : Program} {W : World}
/-- A slice of pairs of numbers that came in. -/
theorem open_items {t e : TypeId} {f0 f1 : Field} {base : Nat} {v : Value} {d : DataW H} {p : List MemPlace} (ht : P.underlying t = some (.slice e)) (he : P.underlying e = some (.struct #[f0, f1])) (hk : P.underlying f0.type = some (.int .i64)) (hi : P.underlying f1.type = some (.int .i64))
    (ce : P.cellsOf e = 2) (o0 : f0.offset = 0) (o1 : f1.offset = 1) (c0 : P.cellsOf f0.type = 1) (c1 : P.cellsOf f1.type = 1) (hval : Value.okWide P W .any base t v)
    (h : DataW.Trod enc P W 0 (fun _ => true) true t v d p) : ∃ (a : Option Addr) (l : List (Int × Int)) (cap : Nat), v = .slice a l.length cap ∧ Given W a (l.flatMap fun x => [.int .i64 x.1, .int .i64 x.2]) ∧ l.length ≤ maxLen := by
  obtain ⟨a0, len, cap, rfl⟩ := okWide_slice ht hval
  obtain ⟨fuel, hf⟩ := h
  rcases open_slice_pairs ht he ce o0 o1 c0 c1 hf with ⟨hcs, hx⟩ | ⟨a, len', cap', m, n, V0, V1, D0, D1, P0, P1, hcs, _, hl, hm, hz, hx, hc⟩
  · simp [Value.cells] at hcs
    obtain ⟨rfl, rfl, rfl⟩ := hcs
    exact ⟨none, [], 0, rfl, .inl rfl, by simp⟩
  · simp [Value.cells] at hcs
    obtain ⟨rfl, rfl, rfl⟩ := hcs
    simp only [if_true] at hz
    have hlen : ((List.range len).map fun i => (intV (V0 i), intV (V1 i))).length = len := by simp
    refine ⟨some a, (List.range len).map fun i => (intV (V0 i), intV (V1 i)), cap, by rw [hlen], given_cells fun j u hj => ?_, by rw [hlen]; omega⟩
    obtain ⟨i, x, h1, h2⟩ := pairs_get (fun x : Int × Int => Value.int .i64 x.1) (fun x => Value.int .i64 x.2) hj
    rw [List.getElem?_map] at h1
    obtain ⟨k, hk1, hk2⟩ := Option.map_eq_some_iff.1 h1
    obtain ⟨hil, rfl⟩ := List.getElem?_eq_some_iff.1 hk1
    simp only [List.length_range] at hil
    simp only [List.getElem_range] at hk2
    subst hk2
    obtain ⟨g0, g1, g2, g3⟩ := hc i (by omega)
    obtain ⟨y, e1, _, _⟩ := DataW.trod_int hk g2
    obtain ⟨z, e2, _, _⟩ := DataW.trod_int hi g3
    have e1' : V0 i = .int .i64 y := by simpa using e1
    have e2' : V1 i = .int .i64 z := by simpa using e2
    rcases h2 with ⟨rfl, rfl⟩ | ⟨rfl, rfl⟩
    · rw [g0, e1']; rfl
    · rw [g1, e2']; rfl
end
end Go.Wb
