/- Part 4 of the texts for the statement FnWLoadsRisingSaid: the package's tree of maps and sets, its functions' contracts. -/
import Derived.Test.YtckplcmieelmpaaLC
import Derived.ProofKit
import Derived.SliceStrings
import Derived.Deep.SlicePairs
namespace Go.Proofs.Ytckplcmieelmpaa.W
open Go.RowKit Go.Wb

abbrev most : Nat := 2147483647
def TruePost (w : World) (e : Ending) (w' : World) : Prop := e = .returned (.bool true) ∧ Keep Nothing w w'
def SayPost (w : World) (b : Bool) (e : Ending) (w' : World) : Prop := e = .returned (.bool b) ∧ Keep Nothing w w'
def fitsB (l : List It) : Bool := decide (l.length ≤ most) && l.all fun x => decide ((ky x).size ≤ most)
theorem fitsB_true {l : List It} : fitsB l = true ↔ l.length ≤ most ∧ ∀ (i : Nat) x, l[i]? = some x → (ky x).size ≤ most := by
  simp only [fitsB, Bool.and_eq_true, decide_eq_true_eq, List.all_eq_true]
  exact and_congr_right fun _ => ⟨fun h i s hi => h s (List.mem_of_getElem? hi), fun h s hs => by obtain ⟨i, hi⟩ := List.mem_iff_getElem?.1 hs; exact h i s hi⟩

set_option maxHeartbeats 1000000 in
theorem fits9_any (w : World) (x : It) (b : Bool) (hb : decide ((ky x).size ≤ most) = b) : Calls Try.prog 70 #[.agg #[kv (ky x), .int .i64 x.2]] w (SayPost w b) := by
  unfold kv
  by_cases h : (ky x).size ≤ 2147483647
  · obtain rfl : b = true := by rw [← hb]; simpa using h
    clear hb
    go_enter Try.func70, Try.ntmps70
    go_wp2_with fail
    go_ret
    exact ⟨rfl, (Keep.refl _ _).al _⟩
  · obtain rfl : b = false := by rw [← hb]; simpa using h
    clear hb
    go_enter Try.func70, Try.ntmps70
    go_wp2_with fail
    go_ret
    exact ⟨rfl, (Keep.refl _ _).al _⟩

set_option maxRecDepth 100000 in
set_option maxHeartbeats 2000000 in
theorem fits8_any {w : World} {a : Option Addr} {cap : Nat} {l : List It} (hg : Given w a (OE.all l)) (hl : l.length ≤ maxLen) :
    Calls Try.prog 25 #[.slice a l.length cap] w (SayPost w (fitsB l)) := by
  have HG := Lib.hid hg
  simp only [maxLen] at hl
  clear hg
  by_cases hbig : l.length ≤ 2147483647
  · go_enter Try.func25, Try.ntmps25
    go_wp2_with fail
    go_loopg [10] (l.length + 1) (fun k v10 wr => ∃ i : Nat, v10 = .int .i64 i ∧ i ≤ l.length ∧ i + k = l.length + 1 ∧ Keep Nothing w wr ∧ ∀ (j : Nat) (x : It), j < i → l[j]? = some x → (ky x).size ≤ most)
    case atStart => exact ⟨0, rfl, by omega, by omega, Keep.refl _ _, fun j s h => by omega⟩
    case round =>
      obtain ⟨i, rfl, hil, hik, hK, hall⟩ := hrel
      have HA := Lib.hid hall
      have HK := Lib.hid hK
      clear hall hK
      by_cases hlt : i < l.length
      · have hx : l[i]? = some l[i] := List.getElem?_eq_getElem hlt
        generalize l[i] = x at *
        have HX := Lib.hid hx
        obtain ⟨b0, o0, ha, x0, x1⟩ := word_cell (HG.out.keep HK.out) hx
        subst ha
        obtain ⟨b, hb⟩ : ∃ b, decide ((ky x).size ≤ most) = b := ⟨_, rfl⟩
        have HB := Lib.hid hb
        clear hx hb
        unfold kv at *
        go_upto_region 6 with (fail)
        refine wp_world ?_
        intro W1 hW1
        have k1 : Keep Nothing wr W1 := by subst hW1; exact (Keep.refl _ _).al _
        have X1 : W1.heap[wr.heap.size]? = some (.cells (OE.enc x).toArray 31 (0, 0)) := by subst hW1; exact heap_alloc_new wr _
        obtain ⟨xk, xv, _⟩ := blk2 X1
        have HK1 : Hid (Keep Nothing w W1) := by exact HK.out.trans k1 fun _ _ _ h => h
        generalize wr.heap.size = q at *
        have hf := Lib.hid (fits9_any W1 x b HB.out)
        clear hW1 k1 X1 HK x0 x1
        unfold kv at *
        cases b with
        | true =>
          go_wp2_with fail
          refine hf.out.mono ?_
          rintro e w2 ⟨rfl, hk2⟩
          have HK2 : Hid (Keep Nothing w w2) := by exact HK1.out.trans hk2 fun _ _ _ h => h
          clear hk2 hf xk xv
          go_wp2_with fail
          go_roundg (l.length - i)
          case measure => omega
          case rel =>
            refine ⟨i + 1, by go_num, by omega, by omega, HK2.out, fun j s' hj hs' => ?_⟩
            by_cases hji : j = i
            · subst hji
              have := HX.out
              rw [hs'] at this
              cases this
              exact of_decide_eq_true HB.out
            · exact HA.out j s' (by omega) hs'
        | false =>
          go_wp2_with fail
          refine hf.out.mono ?_
          rintro e w2 ⟨rfl, hk2⟩
          have HK2 : Hid (Keep Nothing w w2) := by exact HK1.out.trans hk2 fun _ _ _ h => h
          clear hk2 hf xk xv
          go_wp2_with fail
          go_ret
          have : fitsB l = false := by
            rw [← Bool.not_eq_true, fitsB_true]
            exact fun h => of_decide_eq_false HB.out (h.2 i x HX.out)
          rw [this]
          exact ⟨rfl, HK2.out⟩
      · have hi : i = l.length := by omega
        subst hi
        go_wp2_with fail
        go_ret
        have : fitsB l = true := fitsB_true.2 ⟨hbig, fun i s hs => HA.out i s (List.getElem?_eq_some_iff.1 hs).1 hs⟩
        rw [this]
        exact ⟨rfl, HK.out⟩
  · go_enter Try.func25, Try.ntmps25
    go_wp2
    go_ret
    have : fitsB l = false := by
      rw [← Bool.not_eq_true, fitsB_true]
      exact fun h => hbig h.1
    rw [this]
    exact ⟨rfl, Keep.refl _ _⟩

/-- The degrees of which the laws speak. -/
def fitD (d : Int) : Bool := decide (2 ≤ d) && decide (d ≤ 128)
set_option maxHeartbeats 1000000 in
theorem specFits_any (w : World) (d : Int) (h0 : 1 ≤ d) (b : Bool) (hb : fitD d = b) : Calls Try.prog 56 #[.int .i64 d] w fun e w' => e = .returned (.bool b) ∧ w = w' := by
  have hd : ((d : Int) == 0) = false := by simp; omega
  by_cases h1 : 2 ≤ d
  · by_cases h2 : d ≤ 128
    · obtain rfl : b = true := by rw [← hb]; simp [fitD, h1, h2]
      clear hb
      go_enter Try.func56, Try.ntmps56
      go_wp2_with fail
      go_ret
      exact ⟨by first | rfl | simp [h1, h2], rfl⟩
    · obtain rfl : b = false := by rw [← hb]; simp [fitD, h2]
      clear hb
      go_enter Try.func56, Try.ntmps56
      go_wp2_with fail
      go_ret
      exact ⟨by first | rfl | simp [h2], rfl⟩
  · obtain rfl : b = false := by rw [← hb]; simp [fitD, h1]
    clear hb
    go_enter Try.func56, Try.ntmps56
    go_wp2_with fail
    go_ret
    exact ⟨by first | rfl | simp [h1], rfl⟩
set_option maxHeartbeats 1000000 in
theorem fit_any (w : World) (d : Int) (b : Bool) (hb : fitD d = b) : Calls Try.prog 12 #[.int .i64 d] w fun e w' => e = .returned (.bool b) ∧ w = w' := by
  by_cases h0 : 1 ≤ d
  · have hf := Lib.hid (specFits_any w d h0 b hb)
    clear hb
    go_enter Try.func12, Try.ntmps12
    go_wp2_with fail
    refine hf.out.mono ?_
    rintro e w1 ⟨rfl, rfl⟩
    go_wp2_with fail
    go_ret
    exact ⟨by first | rfl | simp, rfl⟩
  · obtain rfl : b = false := by rw [← hb]; simp [fitD]; omega
    clear hb
    go_enter Try.func12, Try.ntmps12
    go_wp2_with fail
    go_ret
    exact ⟨by first | rfl | simp, rfl⟩

set_option maxHeartbeats 1000000 in
theorem wkeys_any {w : World} {a : Option Addr} {cap : Nat} {l : List It} (hg : Given w a (OE.all l)) (hl : l.length ≤ 4000000000000) (d : Int) (h1 : 2 ≤ d) (h2 : d ≤ 128) :
    Calls Try.prog 57 #[.int .i64 d, .slice a l.length cap] w (NewKeys w ((sortK l).map ky)) := by
  have hgr := Lib.hid (grow_any (cap := cap) hg hl d h1 h2)
  have HL := Lib.hid hl
  clear hg hl
  go_enter Try.func57, Try.ntmps57
  go_wp2_with fail
  refine hgr.out.mono ?_
  rintro e w1 ⟨b, hr, H, L, F, s, rfl, hN, hits, _⟩
  have hk := Lib.hid (mapKeys_any hN.tree (Nat.le_trans (grow_len hits) HL.out))
  have HN := Lib.hid hN
  have HI := Lib.hid hits
  clear hN hits hgr
  unfold ptr at *
  go_wp2_with fail
  refine hk.out.mono ?_
  rintro e w2 ⟨a', cap', rfl, h1, h2⟩
  go_wp2_with fail
  go_ret
  rw [HI.out] at h1 ⊢
  exact ⟨a', cap', by simp, ⟨h1.row, h1.len, h1.le, fun b o hf => Nat.le_trans HN.out.keep.size (h1.own b o hf)⟩, HN.out.keep.trans h2 fun _ _ _ h => h⟩
end Go.Proofs.Ytckplcmieelmpaa.W

namespace Go.Proofs.Ytckplcmieelmpaa.W
open Go.RowKit Go.Wb

def exL : List It := [(⟨#[98]⟩, 1), (⟨#[]⟩, 2), (⟨#[97, 98]⟩, 3), (⟨#[98]⟩, 4)]
def ExPost (w : World) (e : Ending) (w' : World) : Prop := ∃ b, e = .returned (.slice (some ⟨b, 0, none⟩) 4 4) ∧ Given w' (some ⟨b, 0, none⟩) (OE.all exL) ∧ Keep Nothing w w'
theorem exWords_any (w : World) : Calls Try.prog 58 #[] w (ExPost w) := by
  go_enter Try.func58, Try.ntmps58
  go_wp2_with fail
  go_ret
  exact ⟨w.heap.size, rfl, new_given w (OE.all exL) 31, (Keep.refl _ _).al _⟩

set_option maxRecDepth 100000 in
/-- aliveW: at a map of three words. -/
theorem aliveW_any (w : World) : Calls Try.prog 15 #[] w (TruePost w) := by
  have hK : ∀ W a cap, Given W a (OE.all (exL.take 3)) → Calls Try.prog 57 #[.int .i64 2, .slice a 3 cap] W (NewKeys W ((sortK (exL.take 3)).map ky)) := fun W a cap h1 => wkeys_any h1 (by decide) 2 (by omega) (by omega)
  have HK := Lib.hid hK
  have hE := Lib.hid (exWords_any w)
  clear hK
  go_enter Try.func15, Try.ntmps15
  go_wp2_with fail
  refine hE.out.mono ?_
  rintro e W1 ⟨b, rfl, hG, hk⟩
  have HG : Hid (Given W1 (some ⟨b, 0, none⟩) (OE.all (exL.take 3))) := by rw [out_take]; exact hG.take _
  have HK1 := Lib.hid hk
  have HC := Lib.hid (HK.out W1 _ 4 HG.out)
  clear hk hE hG
  go_wp2_with fail
  refine HC.out.mono ?_
  rintro e W2 ⟨a', cap', rfl, _, hk⟩
  have HK2 : Hid (Keep Nothing w W2) := by exact HK1.out.trans hk fun _ _ _ h => h
  have hlen : ((sortK (exL.take 3)).map ky).length = 3 := by kernel_rfl
  rw [hlen]
  clear hk HC hlen
  go_wp2_with fail
  go_ret
  exact ⟨rfl, HK2.out⟩
end Go.Proofs.Ytckplcmieelmpaa.W

namespace Go.Proofs.Ytckplcmieelmpaa.W
open Go.RowKit Go.Wb

-- equal lists of bools
set_option maxRecDepth 100000 in
set_option maxHeartbeats 2000000 in
theorem equalB_any {w : World} {a c : Option Addr} {acap ccap : Nat} {l : List Bool} (h1 : Given w a (l.map .bool)) (h2 : Given w c (l.map .bool)) (hl : l.length ≤ 4000000000000) :
    Calls Try.prog 31 #[.slice a l.length acap, .slice c l.length ccap] w fun e w' => e = .returned (.bool true) ∧ Keep Nothing w w' := by
  have H1 := Lib.hid h1
  have H2 := Lib.hid h2
  clear h1 h2
  go_enter Try.func31, Try.ntmps31
  go_wp2_with fail
  go_loopg [13] (l.length + 1) (fun k v13 wr => ∃ i : Nat, v13 = .int .i64 i ∧ i ≤ l.length ∧ i + k = l.length + 1 ∧ Keep Nothing w wr)
  case atStart => exact ⟨0, rfl, by omega, by omega, Keep.refl _ _⟩
  case round =>
    obtain ⟨i, rfl, hil, hik, hK⟩ := hrel
    have HK := Lib.hid hK
    clear hK
    by_cases hlt : i < l.length
    · obtain ⟨t, ht⟩ : ∃ t, l[i] = t := ⟨_, rfl⟩
      obtain ⟨b1, o1, ha, x0⟩ := (H1.out.keep HK.out).cell (i := i) (by simpa using hlt)
      obtain ⟨b2, o2, hc, y0⟩ := (H2.out.keep HK.out).cell (i := i) (by simpa using hlt)
      subst ha
      subst hc
      rw [show (l.map Value.bool)[i]'(by simpa using hlt) = .bool t by simp [ht]] at x0 y0
      clear ht
      have hbb : (t != t) = false := by cases t <;> rfl
      go_wp2_with fail
      go_quiet (fail)
      go_wp2_with fail
      go_roundg (l.length - i)
      case measure => omega
      case rel => exact ⟨i + 1, by go_num, by omega, by omega, HK.out.drN _⟩
    · have hi : i = l.length := by omega
      subst hi
      go_wp2_with fail
      go_ret
      exact ⟨rfl, HK.out⟩
end Go.Proofs.Ytckplcmieelmpaa.W

namespace Go.Proofs.Ytckplcmieelmpaa.W
open Go.RowKit Go.Wb

theorem loads_small {w : World} {d : Int} {a : Option Addr} {cap : Nat} {l : List It} (hg : Given w a (OE.all l)) (hl : l.length ≤ maxLen) (h : fitsB l = false) :
    Calls Try.prog 5 #[.int .i64 d, .slice a l.length cap] w (TruePost w) := by
  have hf := Lib.hid (fits8_any (cap := cap) hg hl)
  rw [h] at hf
  clear hg
  go_enter Try.func5, Try.ntmps5
  go_wp2_with fail
  refine hf.out.mono ?_
  rintro e w1 ⟨rfl, hk⟩
  have HK := Lib.hid hk
  clear hk hf
  go_wp2_with fail
  go_ret
  exact ⟨rfl, HK.out⟩

set_option maxRecDepth 100000 in
set_option maxHeartbeats 8000000 in
theorem loads_main {w : World} {d : Int} {a : Option Addr} {cap : Nat} {l : List It} (hg : Given w a (OE.all l)) (hl : l.length ≤ maxLen) (h : fitsB l = true) :
    Calls Try.prog 5 #[.int .i64 d, .slice a l.length cap] w (TruePost w) := by
  have hf := Lib.hid (fits8_any (cap := cap) hg hl)
  rw [h] at hf
  have hll : l.length ≤ 2147483647 := (fitsB_true.1 h).1
  have HG := Lib.hid hg
  have hal := Lib.hid aliveW_any
  clear hg h
  go_enter Try.func5, Try.ntmps5
  go_wp2_with fail
  refine hf.out.mono ?_
  rintro e w1 ⟨rfl, hk⟩
  have HK := Lib.hid hk
  clear hk hf
  cases hd : fitD d with
  | false =>
    have hfi := Lib.hid (fun W => fit_any W d false hd)
    clear hd
    go_wp2_with fail
    refine (hfi.out _).mono ?_
    rintro e w2 ⟨rfl, rfl⟩
    go_wp2_with fail
    refine (hal.out _).mono ?_
    rintro e w3 ⟨rfl, hk⟩
    have HK3 := Lib.hid (HK.out.trans hk fun _ _ _ h => h)
    clear hk HK
    go_wp2_with fail
    go_ret
    exact ⟨rfl, HK3.out⟩
  | true =>
    have hfi := Lib.hid (fun W => fit_any W d true hd)
    simp only [fitD, Bool.and_eq_true, decide_eq_true_eq] at hd
    obtain ⟨hd1, hd2⟩ := hd
    have hki := Lib.hid (lo_keysIn (cap := cap) (HG.out.keep HK.out) (by omega))
    go_wp2_with fail
    refine (hfi.out _).mono ?_
    rintro e w2 ⟨rfl, rfl⟩
    clear hfi
    go_wp2_with fail
    refine hki.out.mono ?_
    rintro e w2 ⟨a2, c2, rfl, hA, hk⟩
    have HK2 := Lib.hid (HK.out.trans hk fun _ _ _ h => h)
    have hri := rises_any (cap := c2) (l := l.map ky) hA.row.reads (by simp; omega)
    rw [List.length_map] at hri
    have HRI := Lib.hid hri
    clear hki hA hk HK hri
    go_wp2_with fail
    refine HRI.out.mono ?_
    rintro e w3 ⟨r, rfl, hk⟩
    have HK3 := Lib.hid (HK2.out.trans hk fun _ _ _ h => h)
    clear hk HRI HK2
    cases r with
    | false =>
      go_wp2_with fail
      refine (hal.out _).mono ?_
      rintro e w4 ⟨rfl, hk⟩
      have HK4 := Lib.hid (HK3.out.trans hk fun _ _ _ h => h)
      clear hk HK3
      go_wp2_with fail
      go_ret
      exact ⟨rfl, HK4.out⟩
    | true =>
      have hlo := Lib.hid (wrunLoad_any (cap := cap) (HG.out.keep HK3.out) (by omega) d hd1 hd2)
      have n1 := setAll_len l
      have hn2 := setAll_len2 l
      have h1 : Hid ((setAll l).2.2.length ≤ l.length ∧ (setAll l).1.length = l.length ∧ (setAll l).2.1.length = l.length) := Lib.hid ⟨n1, hn2.1, hn2.2⟩
      have n4 : (setAll l).1.length ≤ 2147483647 ∧ (setAll l).2.1.length ≤ 2147483647 ∧ (setAll l).2.2.length ≤ 2147483647 := by have := h1.out; omega
      clear n1 hn2 h1
      have hwo := Lib.hid (fun W (hW : Keep Nothing w W) => wrunSet_any (w := W) (cap := cap) (HG.out.keep hW) (by omega) d hd1 hd2)
      generalize setAll l = st at *
      go_wp2_with fail
      refine hlo.out.mono ?_
      rintro e w4 ⟨a1, c1, a2, c2, a3, c3, rfl, g1, g2, g3, hk⟩
      have HK4 := Lib.hid (HK3.out.trans hk fun _ _ _ h => h)
      have G1 := Lib.hid g1
      have G2 := Lib.hid g2
      have G3 := Lib.hid g3
      clear hlo g1 g2 g3 hk HK3
      go_wp2_with fail
      refine (hwo.out _ HK4.out).mono ?_
      rintro e w5 ⟨a4, c4, a5, c5, a6, c6, rfl, g4, g5, g6, hk⟩
      have HK5 := Lib.hid (HK4.out.trans hk fun _ _ _ h => h)
      have e1 := Lib.hid (equalW_any (acap := c1) (ccap := c4) (G1.out.keep hk) g4 (by omega))
      have G2' := Lib.hid (G2.out.keep hk)
      have G3' := Lib.hid (G3.out.keep hk)
      have G5 := Lib.hid g5
      have G6 := Lib.hid g6
      clear hwo g4 g5 g6 hk HK4 G1 G2 G3
      go_wp2_with fail
      refine e1.out.mono ?_
      rintro e w6 ⟨rfl, hk⟩
      have HK6 := Lib.hid (HK5.out.trans hk fun _ _ _ h => h)
      have e2 := Lib.hid (equalB_any (acap := c2) (ccap := c5) (G2'.out.keep hk) (G5.out.keep hk) (by omega))
      have G3 := Lib.hid (G3'.out.keep hk)
      have G6' := Lib.hid (G6.out.keep hk)
      clear e1 hk HK5 G2' G3' G5 G6
      go_wp2_with fail
      refine e2.out.mono ?_
      rintro e w7 ⟨rfl, hk⟩
      have HK7 := Lib.hid (HK6.out.trans hk fun _ _ _ h => h)
      have e3 := Lib.hid (equalW_any (acap := c3) (ccap := c6) (G3.out.keep hk) (G6'.out.keep hk) (by omega))
      clear e2 hk HK6 G3 G6'
      go_wp2_with fail
      refine e3.out.mono ?_
      rintro e w8 ⟨rfl, hk⟩
      have HK8 := Lib.hid (HK7.out.trans hk fun _ _ _ h => h)
      clear e3 hk HK7
      go_wp2_with fail
      refine (hal.out _).mono ?_
      rintro e w9 ⟨rfl, hk⟩
      have HK9 := Lib.hid (HK8.out.trans hk fun _ _ _ h => h)
      clear hk HK8
      go_wp2_with fail
      go_ret
      exact ⟨rfl, HK9.out⟩

theorem loads_row {w : World} {d : Int} (_ : (Lit.int .i64 d).wf = true) {a : Option Addr} {cap : Nat} {l : List It} (hg : Given w a (OE.all l)) (hl : l.length ≤ maxLen) :
    Calls Try.prog 5 #[.int .i64 d, .slice a l.length cap] w (TruePost w) := by
  by_cases h : fitsB l = true
  · exact loads_main hg hl h
  · exact loads_small hg hl (by simpa using h)
end Go.Proofs.Ytckplcmieelmpaa.W

namespace Go.Wb
open Go Go.ChangeShapes Go.WideShapes Go.ChangeAt Go.RowKit

/-- The cells of a slice that came in. -/
theorem given_cells {W : World} {a : Addr} {cs : List Value} (h : ∀ i v, cs[i]? = some v → W.cell? (a.add i) = some v) : Given W (some a) cs := by
  cases cs with
  | nil => exact .inl rfl
  | cons x cs =>
    obtain ⟨b, off, spot⟩ := a
    have h0 := h 0 x (by simp)
    have hspot : spot = none := by simpa [Addr.add] using World.cell?_spot h0
    subst hspot
    refine .inr ⟨b, off, rfl, fun i v hi => ?_⟩
    rw [← add_plain]
    exact h i v hi

section
variable {H : Type} {enc : TypeId × Value → H} {P : Program} {W : World}

/-- A slice of texts that came in. -/
theorem open_texts {t e : TypeId} {base : Nat} {v : Value} {d : DataW H} {p : List MemPlace} (ht : P.underlying t = some (.slice e)) (he : P.underlying e = some .string) (hc : P.cellsOf e = 1) (hval : Value.okWide P W .any base t v)
    (h : DataW.Trod enc P W 0 (fun _ => true) true t v d p) : ∃ (a : Option Addr) (l : List ByteArray) (cap : Nat), v = .slice a l.length cap ∧ Given W a (l.map .string) ∧ l.length ≤ maxLen := by
  obtain ⟨a0, len, cap, rfl⟩ := okWide_slice ht hval
  obtain ⟨fuel, hf⟩ := h
  rcases open_strings ht he hc hf with ⟨hcs, hx⟩ | ⟨a, len', cap', ss, hcs, _, hl, hm, hz, hx, hcell, hws⟩
  · simp [Value.cells] at hcs
    obtain ⟨rfl, rfl, rfl⟩ := hcs
    exact ⟨none, [], 0, rfl, .inl rfl, by simp⟩
  · simp [Value.cells] at hcs
    obtain ⟨rfl, rfl, rfl⟩ := hcs
    simp only [if_true] at hz
    have hlen : (ss.take len).length = len := by simp; omega
    refine ⟨some a, ss.take len, cap, by rw [hlen], given_cells fun i v hi => ?_, by rw [hlen]; omega⟩
    rw [List.getElem?_map, List.getElem?_take] at hi
    split at hi
    · have hil : i < ss.length := by omega
      rw [List.getElem?_eq_getElem hil] at hi
      rw [hcell i hil]
      simp at hi
      rw [← hi]
      simp [List.getD, hil]
    · cases hi

/-- What came in reads as it did. -/
theorem Below.trodAll (hl : laidOutB P = true) {W' : World} (hb : Below W.heap.size W W') : ∀ {ts : List TypeId} {vs : List Value} {ds : List (DataW H)} {ps : List MemPlace}, (ts.all fun t => P.readableRec t && decide (t < P.types.size)) = true →
    DataW.TrodAll enc P W 0 (fun _ => true) true ts vs ds ps → (∀ x ∈ ps, x.block < W.heap.size) → DataW.TrodAll enc P W' 0 (fun b => decide (b < W.heap.size)) true ts vs ds ps
  | [], [], [], ps, _, h, _ => h
  | t :: ts, v :: vs, d :: ds, ps, hc, h, hp => by
    obtain ⟨p, q, h1, h2, rfl⟩ := h
    simp only [List.all_cons, Bool.and_eq_true, decide_eq_true_eq] at hc
    refine ⟨p, q, Below.trod hl hc.1.1 hc.1.2 h1 hb (fun x hx => hp x (by simp [hx])), Below.trodAll hl hb (by simpa using hc.2) h2 (fun x hx => hp x (by simp [hx])), rfl⟩
  | [], _ :: _, _, _, _, h, _ => h.elim
  | [], [], _ :: _, _, _, h, _ => h.elim
  | _ :: _, [], _, _, _, h, _ => h.elim
  | _ :: _, _ :: _, [], _, _, h, _ => h.elim
end
end Go.Wb

namespace Go.Wb
open Go Go.ChangeShapes Go.WideShapes Go.ChangeAt Go.RowKit Go.Deep

theorem pairs_get {β : Type} (f g : β → Value) : ∀ {l : List β} {j : Nat} {v : Value}, (l.flatMap fun x => [f x, g x])[j]? = some v → ∃ i x, l[i]? = some x ∧ ((j = i * 2 ∧ v = f x) ∨ (j = i * 2 + 1 ∧ v = g x))
  | [], j, v, h => by simp at h
  | x :: l, 0, v, h => ⟨0, x, rfl, .inl ⟨rfl, by simpa using h.symm⟩⟩
  | x :: l, 1, v, h => ⟨0, x, rfl, .inr ⟨rfl, by simpa using h.symm⟩⟩
  | x :: l, j + 2, v, h => by
    obtain ⟨i, y, h1, h2⟩ := pairs_get f g (l := l) (j := j) (v := v) (by simpa using h)
    exact ⟨i + 1, y, by simpa using h1, h2.imp (fun ⟨a, b⟩ => ⟨by omega, b⟩) fun ⟨a, b⟩ => ⟨by omega, b⟩⟩

def strV : Value → ByteArray | .string s => s | _ => ⟨#[]⟩
def intV : Value → Int | .int _ n => n | _ => 0

section
variable {H : Type} {enc : TypeId × Value → H} {P : Program} {W : World}
/-- A slice of pairs of a text and a number that came in. -/
theorem open_words {t e : TypeId} {f0 f1 : Field} {base : Nat} {v : Value} {d : DataW H} {p : List MemPlace} (ht : P.underlying t = some (.slice e)) (he : P.underlying e = some (.struct #[f0, f1])) (hk : P.underlying f0.type = some .string) (hi : P.underlying f1.type = some (.int .i64))
    (ce : P.cellsOf e = 2) (o0 : f0.offset = 0) (o1 : f1.offset = 1) (c0 : P.cellsOf f0.type = 1) (c1 : P.cellsOf f1.type = 1) (hval : Value.okWide P W .any base t v)
    (h : DataW.Trod enc P W 0 (fun _ => true) true t v d p) : ∃ (a : Option Addr) (l : List (ByteArray × Int)) (cap : Nat), v = .slice a l.length cap ∧ Given W a (l.flatMap fun x => [.string x.1, .int .i64 x.2]) ∧ l.length ≤ maxLen := by
  obtain ⟨a0, len, cap, rfl⟩ := okWide_slice ht hval
  obtain ⟨fuel, hf⟩ := h
  rcases open_slice_pairs ht he ce o0 o1 c0 c1 hf with ⟨hcs, hx⟩ | ⟨a, len', cap', m, n, V0, V1, D0, D1, P0, P1, hcs, _, hl, hm, hz, hx, hc⟩
  · simp [Value.cells] at hcs
    obtain ⟨rfl, rfl, rfl⟩ := hcs
    exact ⟨none, [], 0, rfl, .inl rfl, by simp⟩
  · simp [Value.cells] at hcs
    obtain ⟨rfl, rfl, rfl⟩ := hcs
    simp only [if_true] at hz
    have hlen : ((List.range len).map fun i => (strV (V0 i), intV (V1 i))).length = len := by simp
    refine ⟨some a, (List.range len).map fun i => (strV (V0 i), intV (V1 i)), cap, by rw [hlen], given_cells fun j u hj => ?_, by rw [hlen]; omega⟩
    obtain ⟨i, x, h1, h2⟩ := pairs_get (fun x : ByteArray × Int => Value.string x.1) (fun x => Value.int .i64 x.2) hj
    rw [List.getElem?_map] at h1
    obtain ⟨k, hk1, hk2⟩ := Option.map_eq_some_iff.1 h1
    obtain ⟨hil, rfl⟩ := List.getElem?_eq_some_iff.1 hk1
    simp only [List.length_range] at hil
    simp only [List.getElem_range] at hk2
    subst hk2
    obtain ⟨g0, g1, g2, g3⟩ := hc i (by omega)
    obtain ⟨s, e1, _, _⟩ := DataW.trod_string hk g2
    obtain ⟨z, e2, _, _⟩ := DataW.trod_int hi g3
    have e1' : V0 i = .string s := by simpa using e1
    have e2' : V1 i = .int .i64 z := by simpa using e2
    rcases h2 with ⟨rfl, rfl⟩ | ⟨rfl, rfl⟩
    · rw [g0, e1']; rfl
    · rw [g1, e2']; rfl
end
end Go.Wb
