/- Part 1 of the texts for the statement FnExactWReverse: the package's tree of maps and sets, its functions' contracts. -/
import Derived.Test.YtfikahgofapobaaYB
import Derived.Test.YtfikahgofapobaaVB
import Derived.ProofKit
import Derived.SliceStrings
import Derived.Deep.SlicePairs
namespace Go.Proofs.Ytfikahgofapobaa.W
open Go.RowKit Go.Wb

set_option maxHeartbeats 2000000 in
theorem lowReverse_any {w0 w : World} {b : Nat} {hr : HRec} {H : Store It} {L : Nat → Lay} {F : List Nat} {mn mx : Nat} {s : Sh} {g : FuncId} {caps : Array Value} {go : List It → Bool} {J : List It → World → Prop} {S : Nat → Nat → Prop} {N : Nat} (P : HandPre w0 w b hr H L F mn mx s g caps go J S N) :
    Calls Try.prog 129 #[ptr b, .func (.func g) #[] caps, .bool false] w (HandedPost J (handOn go [] ((its s).reverse))) := by
  have T := P.tree
  have A := T.stay P.hb P.hS
  have hk0 := P.hands.keep _ _ P.start
  have c2 := hdr_root (A.hdr w hk0)
  cases s with
  | none =>
    obtain ⟨hroot, _⟩ := T.root
    rw [hroot] at c2
    simp only [rootV, Option.map_none] at c2
    have HP := Lib.hid P
    clear P T A hk0 hroot
    unfold ptr at *
    go_enter Try.func129, Try.ntmps129
    go_wp2_with fail
    go_end0
    exact ⟨rfl, HP.out.start⟩
  | some q =>
    obtain ⟨h, t⟩ := q
    obtain ⟨n, hroot, rep, wf⟩ := T.root
    rw [hroot] at c2
    simp only [rootV, Option.map_some] at c2
    have hcall := Lib.hid (reverse_any P.hands A T.par.hb h 1 n t F rep wf b 2 (fun W hK => by have := hdr_root (A.hdr W hK); rw [hroot] at this; exact this) [] w P.start (by have := P.len; simp only [its, List.length_nil, Nat.zero_add] at *; exact this))
    have HP := Lib.hid P
    clear P T A hk0 hroot rep wf
    unfold ptr at *
    go_enter Try.func129, Try.ntmps129
    go_wp2_with fail
    refine hcall.out.mono ?_
    rintro e w' ⟨rfl, hJ⟩
    have HJ := Lib.hid hJ
    clear hJ hcall
    go_wp2_with fail
    go_end0
    exact ⟨rfl, HJ.out⟩

set_option maxHeartbeats 1000000 in
theorem mapReverse_any {w0 w : World} {b : Nat} {hr : HRec} {H : Store It} {L : Nat → Lay} {F : List Nat} {mn mx : Nat} {s : Sh} {g : FuncId} {caps : Array Value} {go : List It → Bool} {J : List It → World → Prop} {S : Nat → Nat → Prop} {N : Nat} (P : HandPre w0 w b hr H L F mn mx s g caps go J S N) :
    Calls Try.prog 74 #[ptr b, .func (.func g) #[] caps] w (HandedPost J (handOn go [] ((its s).reverse))) := by
  have hcall := Lib.hid (lowReverse_any P)
  clear P
  unfold ptr at *
  go_enter Try.func74, Try.ntmps74
  go_wp2_with fail
  refine hcall.out.mono ?_
  rintro e w' ⟨rfl, hJ⟩
  have HJ := Lib.hid hJ
  clear hJ hcall
  go_wp2_with fail
  go_end0
  exact ⟨rfl, HJ.out⟩
end Go.Proofs.Ytfikahgofapobaa.W

namespace Go.Proofs.Ytfikahgofapobaa.W
open Go.RowKit Go.Wb
set_option maxHeartbeats 1000000 in
theorem specReverse_any {w : World} {a : Option Addr} {cap : Nat} {l : List It} (h1 : Given w a (OE.all l)) (hl : l.length ≤ 4000000000000) (n : Int) : Calls Try.prog 23 #[.slice a l.length cap, .int .i64 n] w (ReadWords w (firstN n (sortK l).reverse)) := by
  have hw := Lib.hid (words_any (cap := cap) h1 hl)
  have hll : Hid ((sortK l).length ≤ 4000000000000) := Lib.hid (Nat.le_trans (sortK_len l) hl)
  clear h1
  go_enter Try.func23, Try.ntmps23
  go_wp2_with fail
  refine hw.out.mono ?_
  rintro e W1 ⟨a1, c1, rfl, hA, hK⟩
  have ht := Lib.hid (turned_any (cap := c1) hA.row.reads hll.out)
  have K1 := Lib.hid hK
  clear hw hA hK
  go_wp2_with fail
  refine ht.out.mono ?_
  rintro e W2 ⟨a2, c2, rfl, hA, hK⟩
  have hf0 := first_any (w := W2) (a := a2) (cap := c2) (l := (sortK l).reverse) n (by simpa using hll.out) (by have := hA.le; simpa using this)
  rw [List.length_reverse] at hf0
  have hf := Lib.hid hf0
  have G2 := Lib.hid (firstN_given n hA.row.reads)
  have K2 : Hid (Keep Nothing w W2) := by exact K1.out.trans hK fun _ _ _ h => h
  clear ht hA hK K1 hf0
  go_wp2_with fail
  refine hf.out.mono ?_
  rintro e w3 ⟨rfl, rfl⟩
  go_wp2_with fail
  go_ret
  exact ⟨a2, c2, rfl, G2.out, K2.out⟩
end Go.Proofs.Ytfikahgofapobaa.W

namespace Go.Proofs.Ytfikahgofapobaa.W
open Go.RowKit Go.Wb

set_option maxHeartbeats 2000000 in
theorem wreverse_any {w : World} {a : Option Addr} {cap : Nat} {l : List It} (hg : Given w a (OE.all l)) (hl : l.length ≤ 2000000000000) (d : Int) (h1 : 2 ≤ d) (h2 : d ≤ 128) (n : Int) (hn1 : -9223372036854775808 ≤ n) (hn2 : n ≤ 9223372036854775807) :
    Calls Try.prog 22 #[.int .i64 d, .slice a l.length cap, .int .i64 n] w (NewWords w (firstN n (sortK l).reverse)) := by
  have HG := Lib.hid hg
  have HL := Lib.hid hl
  clear hg hl
  go_enter Try.func22, Try.ntmps22
  go_upto_region 2 with (fail)
  refine wp_world ?_
  intro W1 hW1
  have K1 : Hid (Keep Nothing w W1) := by subst hW1; exact (Keep.refl _ _).al _
  have O1 : Hid (W1.heap[w.heap.size]? = some (.cells #[.slice none 0 0] 29 (0, 0))) := by subst hW1; exact heap_alloc_new w _
  generalize hq : w.heap.size = ob at *
  have HQE := Lib.hid hq
  clear hW1 hq
  have hgr := Lib.hid (grow_any (cap := cap) (HG.out.keep K1.out) (by have := HL.out; omega) d h1 h2)
  go_wp2_with fail
  refine hgr.out.mono ?_
  rintro e W2 ⟨b, hr, H, L, F, s, rfl, hN, hits, _⟩
  have HN := Lib.hid hN
  have HI := Lib.hid hits
  have O2 := Lib.hid (blk_keep O1.out hN.keep fun _ h => h)
  clear hgr hN hits
  have hh := Lib.hid (hander_any (lt_of_heap O2.out) n)
  unfold ptr at *
  go_wp2_with fail
  refine hh.out.mono ?_
  rintro e W3 ⟨kf, kt, kn, rfl, k3, hd⟩
  have hob : ob < W1.heap.size := lt_of_heap O1.out
  have K3 : Hid (Keep Nothing w W3) := by exact (K1.out.trans HN.out.keep fun _ _ _ h => h).trans k3 fun _ _ _ h => h
  have O3 := Lib.hid (blk_keep O2.out k3 fun _ h => h)
  have hP : HandPre W3 W3 b hr H L F (d - 1).toNat (2 * d - 1).toNat s 131 #[ptr kf] (upTo n) (OutJ W3 ob) (fun c _ => c = ob) 4000000000000 :=
    ⟨HN.out.tree.keep k3, hands_of hd hn1 hn2, fun _ h => by have := HN.out.head; omega, fun n r c o hn hf h => by have := HN.out.nodes n r c o hn hf; omega, by have := grow_len HI.out; have := HL.out; omega, outJ_start O3.out⟩
  have hsc := Lib.hid (mapReverse_any hP)
  clear hh k3 hd hP K1 O1 O2 hob
  unfold ptr at *
  go_wp2_with fail
  refine hsc.out.mono ?_
  rintro e W4 ⟨rfl, hJ⟩
  rw [handOn_first, HI.out] at hJ
  obtain ⟨a1, c1, g1, g2, g3⟩ := out_words K3.out (by have := HQE.out; omega) hJ
  have co := (blk1 g1).1
  have G2 := Lib.hid g2
  have G3 := Lib.hid g3
  clear hJ g1 g2 g3 hsc
  go_wp2_with fail
  go_ret
  exact ⟨a1, c1, rfl, G2.out, G3.out⟩

set_option maxRecDepth 100000 in
theorem exactWReverse_small {w : World} {a : Option Addr} {cap : Nat} {l : List It} (hg : Given w a (OE.all l)) (hl : l.length ≤ maxLen) (h : fitsB l = false) (d n : Int) :
    Calls Try.prog 4 #[.int .i64 d, .slice a l.length cap, .int .i64 n] w (TruePost w) := by
  have hf := Lib.hid (fits8_any (cap := cap) hg hl)
  rw [h] at hf
  clear hg h
  go_enter Try.func4, Try.ntmps4
  go_wp2_with fail
  refine hf.out.mono ?_
  rintro e w1 ⟨rfl, hk⟩
  have HK := Lib.hid hk
  clear hk hf
  go_wp2_with fail
  go_ret
  exact ⟨rfl, HK.out⟩

set_option maxRecDepth 100000 in
set_option maxHeartbeats 4000000 in
theorem exactWReverse_main {w : World} {a : Option Addr} {cap : Nat} {l : List It} (hg : Given w a (OE.all l)) (hl : l.length ≤ maxLen) (h : fitsB l = true) (d n : Int) (hn1 : -9223372036854775808 ≤ n) (hn2 : n ≤ 9223372036854775807) :
    Calls Try.prog 4 #[.int .i64 d, .slice a l.length cap, .int .i64 n] w (TruePost w) := by
  have hf := Lib.hid (fits8_any (cap := cap) hg hl)
  rw [h] at hf
  obtain ⟨hll, _⟩ := fitsB_true.1 h
  simp only [most] at hll
  have HG := Lib.hid hg
  have hal := Lib.hid (fun W => aliveW_any W)
  clear hg h
  cases hd : fitD d with
  | false =>
    have hfi := Lib.hid (fun W => fit_any W d false hd)
    clear hd
    go_enter Try.func4, Try.ntmps4
    go_wp2_with fail
    refine hf.out.mono ?_
    rintro e w1 ⟨rfl, hk⟩
    have HK := Lib.hid hk
    clear hk hf
    go_wp2_with fail
    refine (hfi.out _).mono ?_
    rintro e w2 ⟨rfl, rfl⟩
    go_wp2_with fail
    refine (hal.out _).mono ?_
    rintro e w3 ⟨rfl, hk⟩
    have HK3 := Lib.hid (HK.out.trans hk fun _ _ _ h => h)
    clear hk HK
    go_wp2_with fail
    go_ret
    exact ⟨rfl, HK3.out⟩
  | true =>
    have hfi := Lib.hid (fun W => fit_any W d true hd)
    simp only [fitD, Bool.and_eq_true, decide_eq_true_eq] at hd
    obtain ⟨hd1, hd2⟩ := hd
    go_enter Try.func4, Try.ntmps4
    go_wp2_with fail
    refine hf.out.mono ?_
    rintro e w1 ⟨rfl, hk⟩
    have HK := Lib.hid hk
    clear hk hf
    have hwr := Lib.hid (wreverse_any (cap := cap) (HG.out.keep HK.out) (by omega) d hd1 hd2 n hn1 hn2)
    go_wp2_with fail
    refine (hfi.out _).mono ?_
    rintro e w2 ⟨rfl, rfl⟩
    go_wp2_with fail
    refine hwr.out.mono ?_
    rintro e w3 ⟨a3, c3, rfl, hA3, hk3⟩
    have HK3 : Hid (Keep Nothing w w3) := by exact HK.out.trans hk3 fun _ _ _ h => h
    have G3 := Lib.hid hA3.row.reads
    have hsp := Lib.hid (specReverse_any (cap := cap) (HG.out.keep HK3.out) (by omega) n)
    clear hwr hA3 hk3 HK
    go_wp2_with fail
    refine hsp.out.mono ?_
    rintro e w4 ⟨a4, c4, rfl, hG4, hk4⟩
    have HK4 : Hid (Keep Nothing w w4) := by exact HK3.out.trans hk4 fun _ _ _ h => h
    have heq := Lib.hid (equalW_any (acap := c3) (ccap := c4) (G3.out.keep hk4) hG4 (Nat.le_trans (firstN_len _ _) (by simp; have := sortK_len l; omega)))
    clear hsp hG4 hk4 HK3 G3
    go_wp2_with fail
    refine heq.out.mono ?_
    rintro e w5 ⟨rfl, hk5⟩
    have HK5 : Hid (Keep Nothing w w5) := by exact HK4.out.trans hk5 fun _ _ _ h => h
    clear hk5 heq HK4
    go_wp2_with fail
    refine (hal.out _).mono ?_
    rintro e w6 ⟨rfl, hk⟩
    have HK6 := Lib.hid (HK5.out.trans hk fun _ _ _ h => h)
    clear hk HK5
    go_wp2_with fail
    go_ret
    exact ⟨rfl, HK6.out⟩

theorem exactWReverse_any {w : World} {a : Option Addr} {cap : Nat} {l : List It} (d : Int) (hg : Given w a (OE.all l)) (hl : l.length ≤ maxLen) (n : Int) (hn1 : -9223372036854775808 ≤ n) (hn2 : n ≤ 9223372036854775807) :
    Calls Try.prog 4 #[.int .i64 d, .slice a l.length cap, .int .i64 n] w (TruePost w) := by
  by_cases h : fitsB l = true
  · exact exactWReverse_main hg hl h d n hn1 hn2
  · exact exactWReverse_small hg hl (by simpa using h) d n
theorem exactWReverse_row {w : World} {d : Int} (_ : (Lit.int .i64 d).wf = true) {a : Option Addr} {cap : Nat} {l : List It} (hg : Given w a (OE.all l)) (hl : l.length ≤ maxLen) {n : Int} (hn : (Lit.int .i64 n).wf = true) :
    Calls Try.prog 4 #[.int .i64 d, .slice a l.length cap, .int .i64 n] w (TruePost w) :=
  exactWReverse_any d hg hl n (int_wf hn).1 (int_wf hn).2
end Go.Proofs.Ytfikahgofapobaa.W

namespace Go.Wb
open Go Go.ChangeShapes Go.WideShapes Go.ChangeAt Go.RowKit

/-- The cells of a slice that came in. -/
theorem given_cells {W : World} {a : Addr} {cs : List Value} (h : ∀ i v, cs[i]? = some v → W.cell? (a.add i) = some v) : Given W (some a) cs := by
  cases cs with
  | nil => exact .inl rfl
  | cons x cs =>
    obtain ⟨b, off, spot⟩ := a
    have h0 := h 0 x (by simp)
    have hspot : spot = none := by simpa [Addr.add] using World.cell?_spot h0
    subst hspot
    refine .inr ⟨b, off, rfl, fun i v hi => ?_⟩
    rw [← add_plain]
    exact h i v hi

section
variable {H : Type} {enc : TypeId × Value → H} {P : Program} {W : World}

/-- A slice of texts that came in. -/
theorem open_texts {t e : TypeId} {base : Nat} {v : Value} {d : DataW H} {p : List MemPlace} (ht : P.underlying t = some (.slice e)) (he : P.underlying e = some .string) (hc : P.cellsOf e = 1) (hval : Value.okWide P W .any base t v)
    (h : DataW.Trod enc P W 0 (fun _ => true) true t v d p) : ∃ (a : Option Addr) (l : List ByteArray) (cap : Nat), v = .slice a l.length cap ∧ Given W a (l.map .string) ∧ l.length ≤ maxLen := by
  obtain ⟨a0, len, cap, rfl⟩ := okWide_slice ht hval
  obtain ⟨fuel, hf⟩ := h
  rcases open_strings ht he hc hf with ⟨hcs, hx⟩ | ⟨a, len', cap', ss, hcs, _, hl, hm, hz, hx, hcell, hws⟩
  · simp [Value.cells] at hcs
    obtain ⟨rfl, rfl, rfl⟩ := hcs
    exact ⟨none, [], 0, rfl, .inl rfl, by simp⟩
  · simp [Value.cells] at hcs
    obtain ⟨rfl, rfl, rfl⟩ := hcs
    simp only [if_true] at hz
    have hlen : (ss.take len).length = len := by simp; omega
    refine ⟨some a, ss.take len, cap, by rw [hlen], given_cells fun i v hi => ?_, by rw [hlen]; omega⟩
    rw [List.getElem?_map, List.getElem?_take] at hi
    split at hi
    · have hil : i < ss.length := by omega
      rw [List.getElem?_eq_getElem hil] at hi
      rw [hcell i hil]
      simp at hi
      rw [← hi]
      simp [List.getD, hil]
    · cases hi

/-- What came in reads as it did. -/
theorem Below.trodAll (hl : laidOutB P = true) {W' : World} (hb : Below W.heap.size W W') : ∀ {ts : List TypeId} {vs : List Value} {ds : List (DataW H)} {ps : List MemPlace}, (ts.all fun t => P.readableRec t && decide (t < P.types.size)) = true →
    DataW.TrodAll enc P W 0 (fun _ => true) true ts vs ds ps → (∀ x ∈ ps, x.block < W.heap.size) → DataW.TrodAll enc P W' 0 (fun b => decide (b < W.heap.size)) true ts vs ds ps
  | [], [], [], ps, _, h, _ => h
  | t :: ts, v :: vs, d :: ds, ps, hc, h, hp => by
    obtain ⟨p, q, h1, h2, rfl⟩ := h
    simp only [List.all_cons, Bool.and_eq_true, decide_eq_true_eq] at hc
    refine ⟨p, q, Below.trod hl hc.1.1 hc.1.2 h1 hb (fun x hx => hp x (by simp [hx])), Below.trodAll hl hb (by simpa using hc.2) h2 (fun x hx => hp x (by simp [hx])), rfl⟩
  | [], _ :: _, _, _, _, h, _ => h.elim
  | [], [], _ :: _, _, _, h, _ => h.elim
  | _ :: _, [], _, _, _, h, _ => h.elim
  | _ :: _, _ :: _, [], _, _, h, _ => h.elim
end
end Go.Wb

namespace Go.Wb
open Go Go.ChangeShapes Go.WideShapes Go.ChangeAt Go.RowKit Go.Deep

theorem pairs_get {β : Type} (f g : β → Value) : ∀ {l : List β} {j : Nat} {v : Value}, (l.flatMap fun x => [f x, g x])[j]? = some v → ∃ i x, l[i]? = some x ∧ ((j = i * 2 ∧ v = f x) ∨ (j = i * 2 + 1 ∧ v = g x))
  | [], j, v, h => by simp at h
  | x :: l, 0, v, h => ⟨0, x, rfl, .inl ⟨rfl, by simpa using h.symm⟩⟩
  | x :: l, 1, v, h => ⟨0, x, rfl, .inr ⟨rfl, by simpa using h.symm⟩⟩
  | x :: l, j + 2, v, h => by
    obtain ⟨i, y, h1, h2⟩ := pairs_get f g (l := l) (j := j) (v := v) (by simpa using h)
    exact ⟨i + 1, y, by simpa using h1, h2.imp (fun ⟨a, b⟩ => ⟨by omega, b⟩) fun ⟨a, b⟩ => ⟨by omega, b⟩⟩

def strV : Value → ByteArray | .string s => s | _ => ⟨#[]⟩
def intV : Value → Int | .int _ n => n | _ => 0

section
variable {H : Type} {enc : TypeId × Value → H} {P : Program} {W : World}
/-- A slice of pairs of a text and a number that came in. -/
theorem open_words {t e : TypeId} {f0 f1 : Field} {base : Nat} {v : Value} {d : DataW H} {p : List MemPlace} (ht : P.underlying t = some (.slice e)) (he : P.underlying e = some (.struct #[f0, f1])) (hk : P.underlying f0.type = some .string) (hi : P.underlying f1.type = some (.int .i64))
    (ce : P.cellsOf e = 2) (o0 : f0.offset = 0) (o1 : f1.offset = 1) (c0 : P.cellsOf f0.type = 1) (c1 : P.cellsOf f1.type = 1) (hval : Value.okWide P W .any base t v)
    (h : DataW.Trod enc P W 0 (fun _ => true) true t v d p) : ∃ (a : Option Addr) (l : List (ByteArray × Int)) (cap : Nat), v = .slice a l.length cap ∧ Given W a (l.flatMap fun x => [.string x.1, .int .i64 x.2]) ∧ l.length ≤ maxLen := by
  obtain ⟨a0, len, cap, rfl⟩ := okWide_slice ht hval
  obtain ⟨fuel, hf⟩ := h
  rcases open_slice_pairs ht he ce o0 o1 c0 c1 hf with ⟨hcs, hx⟩ | ⟨a, len', cap', m, n, V0, V1, D0, D1, P0, P1, hcs, _, hl, hm, hz, hx, hc⟩
  · simp [Value.cells] at hcs
    obtain ⟨rfl, rfl, rfl⟩ := hcs
    exact ⟨none, [], 0, rfl, .inl rfl, by simp⟩
  · simp [Value.cells] at hcs
    obtain ⟨rfl, rfl, rfl⟩ := hcs
    simp only [if_true] at hz
    have hlen : ((List.range len).map fun i => (strV (V0 i), intV (V1 i))).length = len := by simp
    refine ⟨some a, (List.range len).map fun i => (strV (V0 i), intV (V1 i)), cap, by rw [hlen], given_cells fun j u hj => ?_, by rw [hlen]; omega⟩
    obtain ⟨i, x, h1, h2⟩ := pairs_get (fun x : ByteArray × Int => Value.string x.1) (fun x => Value.int .i64 x.2) hj
    rw [List.getElem?_map] at h1
    obtain ⟨k, hk1, hk2⟩ := Option.map_eq_some_iff.1 h1
    obtain ⟨hil, rfl⟩ := List.getElem?_eq_some_iff.1 hk1
    simp only [List.length_range] at hil
    simp only [List.getElem_range] at hk2
    subst hk2
    obtain ⟨g0, g1, g2, g3⟩ := hc i (by omega)
    obtain ⟨s, e1, _, _⟩ := DataW.trod_string hk g2
    obtain ⟨z, e2, _, _⟩ := DataW.trod_int hi g3
    have e1' : V0 i = .string s := by simpa using e1
    have e2' : V1 i = .int .i64 z := by simpa using e2
    rcases h2 with ⟨rfl, rfl⟩ | ⟨rfl, rfl⟩
    · rw [g0, e1']; rfl
    · rw [g1, e2']; rfl
end
end Go.Wb
