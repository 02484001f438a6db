/- Part 1 of the common texts: the package's tree of maps and sets, its functions' contracts. -/
import Derived.Test.YtfikahgofapobaaZB
import Derived.Test.YtfikahgofapobaaRows
import Derived.WalkKit
import Derived.WalkSpells
import Derived.WalkLawsBesides
import Derived.Lib.Hide
import Derived.Outline
import Derived.Deep.Cut
import Derived.Stop.Asserts
import Derived.Deep.LoopGhost
import Derived.Deep.RegionHeld3
import Derived.Deep.DeepCutAuto
namespace Go.Proofs.Ytfikahgofapobaa.T
open Go.RowKit Go.Wb

/-- The keys, the items, their order, their cells. -/
abbrev Ky := ByteArray
abbrev It := Ky
def ky (x : It) : Ky := x
def kv (k : Ky) : Value := .string k
def klt (a b : Ky) : Bool := Op.bytesLess a.toList b.toList
def ilt (a b : It) : Bool := klt (ky a) (ky b)
def E : Enc It := ⟨fun x => [kv x], 1, fun _ => rfl, fun x v hv => by obtain rfl := List.mem_singleton.1 hv; rfl, by omega⟩
def TT : Ty := { node := 276, nodeP := 160, pair := 140, kids := 279, s := E.s }

/-- The cells of a node's block. -/
theorem blk4 {w : World} {n : Nat} {a b c d : Value} {t : TypeId} (h : w.heap[n]? = some (.cells #[a, b, c, d] t (0, 0))) :
    w.cell? ⟨n, 0, none⟩ = some a ∧ w.cell? ⟨n, 1, none⟩ = some b ∧ w.cell? ⟨n, 2, none⟩ = some c ∧ w.cell? ⟨n, 3, none⟩ = some d ∧ ∀ o, w.frozen? ⟨n, o, none⟩ = false := by
  simp [World.cell?, World.frozen?, h]
theorem blk1 {w : World} {n : Nat} {a : Value} {t : TypeId} (h : w.heap[n]? = some (.cells #[a] t (0, 0))) :
    w.cell? ⟨n, 0, none⟩ = some a ∧ ∀ o, w.frozen? ⟨n, o, none⟩ = false := by
  simp [World.cell?, World.frozen?, h]

-- leaf
set_option maxHeartbeats 400000 in
theorem leaf_any {w : World} {n : Nat} {r : NRec It} {L : Lay} (h : NodeAt TT E w n r L) :
    Calls Try.prog 208 #[ptr n] w fun e w' => e = .returned (.bool r.kids.isNone) ∧ w = w' := by
  obtain ⟨c0, c1, c2, c3, _⟩ := blk4 h.1
  clear c0 c1 c2 h
  unfold ptr
  cases hk : r.kids with
  | none =>
    rw [hk] at c3
    simp only [kidsVal] at c3
    clear hk
    go_enter Try.func208, Try.ntmps208
    go_wp2
    go_ret
    exact ⟨rfl, rfl⟩
  | some ks =>
    rw [hk] at c3
    simp only [kidsVal, ptr] at c3
    clear hk
    go_enter Try.func208, Try.ntmps208
    go_wp2
    go_ret
    exact ⟨rfl, rfl⟩

/-- degreeToMinMax -/
def mxOf (d : Int) : Int := if d ≤ 0 then 63 else if d = 1 then 3 else d * 2 - 1
set_option maxHeartbeats 400000 in
theorem minMax_any (d : Int) (w : World) (h1 : -9223372036854775808 ≤ d) (h2 : d ≤ 4000000000000000000) :
    Calls Try.prog 199 #[.int .i64 d] w fun e w' => e = .returned (.tuple #[.int .i64 (mxOf d / 2), .int .i64 (mxOf d)]) ∧ w = w' := by
  unfold mxOf
  by_cases h0 : d ≤ 0
  · go_enter Try.func199, Try.ntmps199
    go_wp2
    go_ret2
    exact ⟨by simp, rfl⟩
  · by_cases h1' : d = 1
    · subst h1'
      go_enter Try.func199, Try.ntmps199
      go_wp2
      go_ret2
      exact ⟨rfl, rfl⟩
    · have hb : (d == 1) = false := by simpa using h1'
      have hp : 0 ≤ d * 2 - 1 := by omega
      go_enter Try.func199, Try.ntmps199
      go_wp2
      go_ret2
      exact ⟨by simp, rfl⟩
end Go.Proofs.Ytfikahgofapobaa.T

namespace Go.Proofs.Ytfikahgofapobaa.T
open Go.RowKit Go.Wb

/-- A tree's head. -/
structure HRec where
  iso : Int
  ctr : Option Addr
  root : Option Nat
  cnt : Int
  emp : It
  mn : Int
  mx : Int
  cv : Bool
  icv : Bool
def rootV (r : Option Nat) : Value := .pointer (r.map fun n => ⟨n, 0, none⟩)
def hdrC (h : HRec) : Array Value := #[.int .u64 h.iso, .pointer h.ctr, rootV h.root, .int .i64 h.cnt, kv (ky h.emp), .int .i64 h.mn, .int .i64 h.mx, .bool h.cv, .bool h.icv]
/-- The head lies at block b. -/
def Hdr (w : World) (b : Nat) (h : HRec) : Prop := w.heap[b]? = some (.cells (hdrC h) 164 (0, 0))

theorem hdr_cells {w : World} {b : Nat} {h : HRec} (hh : Hdr w b h) : w.cell? ⟨b, 0, none⟩ = some (.int .u64 h.iso) ∧ w.cell? ⟨b, 1, none⟩ = some (.pointer h.ctr) ∧ w.cell? ⟨b, 2, none⟩ = some (rootV h.root) ∧ w.cell? ⟨b, 3, none⟩ = some (.int .i64 h.cnt) ∧
     w.cell? ⟨b, 4, none⟩ = some (kv (ky h.emp)) ∧ w.cell? ⟨b, 5, none⟩ = some (.int .i64 h.mn) ∧ w.cell? ⟨b, 6, none⟩ = some (.int .i64 h.mx) ∧ w.cell? ⟨b, 7, none⟩ = some (.bool h.cv) ∧ w.cell? ⟨b, 8, none⟩ = some (.bool h.icv) ∧
    (∀ o, w.frozen? ⟨b, o, none⟩ = false) ∧ w.shape? b = some (164, (hdrC h).size) := by
  unfold Hdr at hh
  simp [World.cell?, World.frozen?, World.shape?, hh]
  simp [hdrC]

theorem field0_hdr {w : World} {b : Nat} {h : HRec} (hh : Hdr w b h) : (partAt ⟨b, 4, none⟩ 0 0).run Try.prog w = .ok ⟨b, 4, none⟩ w :=
   run_part0 (sz := 9) (hdr_cells hh).2.2.2.2.2.2.2.2.2.2 (by kernel_rfl) (by omega) (by kernel_rfl)

set_option maxHeartbeats 1000000 in
theorem init_new {w : World} {b : Nat} {h : HRec} (hh : Hdr w b h) (d : Int) (h1 : -9223372036854775808 ≤ d) (h2 : d ≤ 4000000000000000000) (h0 : h.mn = 0) :
    Calls Try.prog 212 #[ptr b, .int .i64 d] w fun e w' => e = .returned (.tuple #[]) ∧ Hdr w' b { h with mn := mxOf d / 2, mx := mxOf d, cv := false, icv := false } ∧ Keep (fun x _ => x = b) w w' := by
  obtain ⟨iso, ctr, root, cnt, emp, mn, mx, cv, icv⟩ := h
  simp only at h0
  subst h0
  have HH := Lib.hid hh
  obtain ⟨d0, d1, d2, d3, c4, c5, c6, c7, c8, fz, sh⟩ := hdr_cells hh
  clear d0 d1 d2 d3 sh
  simp only at c4 c5 c6 c7 c8
  clear hh
  unfold ptr
  go_enter Try.func212, Try.ntmps212
  go_wp2_with fail
  refine (minMax_any d _ h1 h2).mono ?_
  rintro e w1 ⟨rfl, rfl⟩
  go_upto_region 2 with (fail)
  refine wp_world ?_
  intro W1 hW1
  clear c4 c5 c6 c7 c8 fz
  have H1 : Hid (Hdr W1 b ⟨iso, ctr, root, cnt, emp, mxOf d / 2, mxOf d, cv, icv⟩) := by
    subst hW1
    exact blk_set _ (blk_set _ HH.out)
  have K1 : Keep (fun x _ => x = b) w W1 := by
    subst hW1
    refine ((Keep.refl _ _).set _ _ _ ?_).set _ _ _ ?_ <;> exact fun _ => rfl
  replace K1 := Lib.hid K1
  clear hW1
  obtain ⟨d0, d1, d2, d3, c4, c5, c6, c7, c8, fz, sh⟩ := hdr_cells H1.out
  clear d0 d1 d2 d3 sh
  simp only at c4 c5 c6 c7 c8
  have f0 := field0_hdr H1.out
  have mi : ∀ w', (Instr.makeInterface 138 (.agg #[])).run Try.prog w' = .ok (.iface 138 (.agg #[])) w' := fun _ => by kernel_rfl
  have ta : ∀ w', (Instr.typeAssert (.iface 138 (.agg #[])) 20 303 true).run Try.prog w' = .ok (.tuple #[.nilIface, .bool false]) w' := fun w' => run_typeAssert_lacksB Try.underlying303 (by kernel_rfl) (by kernel_rfl) _ _ w'
  have tb : ∀ w', (Instr.typeAssert (.iface 138 (.agg #[])) 20 306 true).run Try.prog w' = .ok (.tuple #[.nilIface, .bool false]) w' := fun w' => run_typeAssert_lacksB Try.underlying306 (by kernel_rfl) (by kernel_rfl) _ _ w'
  go_upto_region 3 with (fail)
  refine wp_world ?_
  intro W2 hW2
  clear c4 c5 c6 c7 c8 fz
  clear f0
  have H2 : Hid (Hdr W2 b ⟨iso, ctr, root, cnt, emp, mxOf d / 2, mxOf d, false, icv⟩) := by
    subst hW2
    exact blk_set _ H1.out
  have K2 : Keep (fun x _ => x = b) w W2 := by
    subst hW2
    refine K1.out.set _ _ _ ?_; exact fun _ => rfl
  replace K2 := Lib.hid K2
  clear hW2
  obtain ⟨d0, d1, d2, d3, c4, c5, c6, c7, c8, fz, sh⟩ := hdr_cells H2.out
  clear d0 d1 d2 d3 sh
  simp only at c4 c5 c6 c7 c8
  have f0 := field0_hdr H2.out
  go_wp2_with fail
  go_end0
  exact ⟨rfl, blk_set _ H2.out, K2.out.set _ _ _ (fun _ => rfl)⟩
end Go.Proofs.Ytfikahgofapobaa.T

namespace Go.Proofs.Ytfikahgofapobaa.T
open Go.RowKit Go.Wb

def Nothing : Nat → Nat → Prop := fun _ _ => False

def NewPost (w : World) (iso : Int) (lf : Bool) (e : Ending) (w' : World) : Prop := ∃ m L, e = .returned (ptr m) ∧ w.heap.size ≤ m ∧ Keep Nothing w w' ∧
      NodeAt TT E w' m ⟨iso, 0, [], if lf then none else some []⟩ L ∧ ∀ x o, fp TT m (⟨iso, 0, [], if lf then none else some []⟩ : NRec It) L x o → w.heap.size ≤ x
def IsoPost (w : World) (n : Nat) (e : Ending) (w' : World) : Prop := e = .returned (ptr n) ∧ ∃ k, w' = w.drewN k

set_option maxHeartbeats 1000000 in
theorem newNode_any {w : World} {b : Nat} {h : HRec} (hh : Hdr w b h) (lf : Bool) :
    Calls Try.prog 213 #[ptr b, .bool lf] w (NewPost w h.iso lf) := by
  obtain ⟨c0, _⟩ := hdr_cells hh
  have hb : b < w.heap.size := lt_of_heap hh
  clear hh
  unfold ptr
  cases lf with
  | true =>
    go_enter Try.func213, Try.ntmps213
    go_wp2
    go_ret
    refine ⟨_, ⟨none, 0, 0, none, 0⟩, rfl, Nat.le_refl _, (Keep.refl _ _).al _, ⟨heap_alloc_new w _, .inl ⟨rfl, rfl, rfl⟩, Nat.le_refl _, fun ks hk => by cases hk⟩, ?_⟩
    rintro x o (rfl | ⟨y, z, hy, _⟩ | ⟨hk, _⟩)
    · exact Nat.le_refl _
    · cases hy
    · cases hk
  | false =>
    go_enter Try.func213, Try.ntmps213
    go_wp2
    go_ret
    refine ⟨_, ⟨none, 0, w.heap.size + 1, none, 0⟩, rfl, Nat.le_refl _, ((Keep.refl _ _).al _).al _, ⟨blk_alloc _ (heap_alloc_new w _), .inl ⟨rfl, rfl, rfl⟩, Nat.le_refl _, fun ks hk => ?_⟩, ?_⟩
    · obtain rfl : ks = [] := by simpa using hk.symm
      have := heap_alloc_new (w.alloc (.cells #[.int .u64 h.iso, .int .i64 0, .slice none 0 0, .pointer (some ⟨w.heap.size + 1, 0, none⟩)] 276)) (.cells #[.slice none 0 0] 279)
      rw [World.size_alloc] at this
      exact ⟨this, .inl ⟨rfl, rfl, rfl⟩, Nat.le_refl _⟩
    rintro x o (rfl | ⟨y, z, hy, _⟩ | ⟨_, rfl | ⟨y, z, hy, _⟩⟩)
    · exact Nat.le_refl _
    · cases hy
    · exact Nat.le_succ _
    · cases hy

set_option maxHeartbeats 1000000 in
theorem isoLoad_own {w : World} {b pb po n : Nat} {h : HRec} {r : NRec It} {L : Lay} (hh : Hdr w b h) (hp : w.cell? ⟨pb, po, none⟩ = some (ptr n)) (hn : NodeAt TT E w n r L) (hi : r.iso = h.iso) (mt : Bool) :
    Calls Try.prog 207 #[ptr b, .pointer (some ⟨pb, po, none⟩), .bool mt] w (IsoPost w n) := by
  obtain ⟨c0, d1, d2⟩ := hdr_cells hh
  obtain ⟨e0, e1, e2⟩ := blk4 hn.1
  rw [hi] at e0
  clear d1 d2 e1 e2 hh hn hi
  unfold ptr at *
  have hne : (h.iso != h.iso) = false := by simp
  cases mt with
  | true =>
    go_enter Try.func207, Try.ntmps207
    go_wp2_with fail
    refine wp_calm (by kernel_rfl) (by kernel_rfl) rfl ?_
    simp only [List.flatMap_cons, List.flatMap_nil, checks, chk, nilLit, List.cons_append, List.nil_append, List.append_nil, Try.underlying158]
    go_wp2_with fail
    rw [HQ_normal]
    go_wp2_with fail
    go_ret
    exact ⟨rfl, 1, rfl⟩
  | false =>
    go_enter Try.func207, Try.ntmps207
    go_wp2_with fail
    refine wp_calm (by kernel_rfl) (by kernel_rfl) rfl ?_
    simp only [List.flatMap_cons, List.flatMap_nil, checks, chk, nilLit, List.cons_append, List.nil_append, List.append_nil, Try.underlying158]
    go_wp2_with fail
    rw [HQ_normal]
    go_wp2_with fail
    go_ret
    exact ⟨rfl, 1, rfl⟩
end Go.Proofs.Ytfikahgofapobaa.T

namespace Go.Proofs.Ytfikahgofapobaa.T
open Go.RowKit Go.Wb

/-- What a search in a node tells. -/
def SearchPost (w : World) (its : List It) (k : Ky) (e : Ending) (w' : World) : Prop :=
  ∃ (i : Nat) (f : Bool), e = .returned (.tuple #[.int .i64 i, .bool f]) ∧ (∃ n, w' = w.drewN n) ∧ i ≤ its.length ∧
    match f with
    | true => ∃ x, its[i]? = some x ∧ klt k (ky x) = false ∧ klt (ky x) k = false
    | false => (∀ j x, j < i → its[j]? = some x → klt (ky x) k = true) ∧ ∀ j x, i ≤ j → its[j]? = some x → klt k (ky x) = true

/-- Where the loop of the search stands. -/
def Between (its : List It) (k : Ky) (l h : Nat) : Prop :=
  (∀ j x, j < l → its[j]? = some x → klt k (ky x) = false) ∧ ∀ j x, h ≤ j → its[j]? = some x → klt k (ky x) = true

theorem kord : Ord klt where
  irr a := by
    exact bytesLess_irr _
  tr a b c := by
    unfold klt; generalize a.toList = x; generalize b.toList = y; generalize c.toList = z; intro h1 h2; exact bytesLess_trans x y z h1 h2
  co a b c := by
    unfold klt; generalize a.toList = x; generalize b.toList = y; generalize c.toList = z; intro h; exact bytesLess_co x y z h

theorem not_t {b : Bool} (h : (!b) = true) : b = false := by cases b <;> simp_all
theorem not_f {b : Bool} (h : (!b) = false) : b = true := by cases b <;> simp_all

/-- The key's cell of an item. -/
theorem key_cell {w : World} {ib io cap : Nat} {its : List It} (h : Row w TT.pair TT.s (some ⟨ib, io, none⟩) cap (E.all its)) {j : Nat} {x : It} (hj : its[j]? = some x) :
    w.cell? ⟨ib, io + j, none⟩ = some (kv (ky x)) := by
  refine h.cell (i := j) (v := kv (ky x)) ?_
  rw [show E.all its = its.map fun x => kv (ky x) by clear hj h; unfold Enc.all; induction its with | nil => rfl | cons y l ih => simp only [List.flatMap_cons, List.map_cons, ih]; rfl]
  simp [hj]


theorem between_lo {its : List It} {k : Ky} {l h m : Nat} {x : It} (hs : Sorted ilt its) (hb : Between its k l h) (hx : its[m]? = some x) (hf : klt k (ky x) = false) : Between its k (m + 1) h := by
  refine ⟨fun j y hj hy => ?_, hb.2⟩
  obtain ⟨hml, rfl⟩ := List.getElem?_eq_some_iff.1 hx
  obtain ⟨hjl, rfl⟩ := List.getElem?_eq_some_iff.1 hy
  by_cases hjm : j = m
  · subst hjm; exact hf
  · cases hk : klt k (ky its[j]) with
    | false => rfl
    | true =>
      have h1 := List.pairwise_iff_getElem.1 hs j m hjl hml (by omega)
      rw [kord.tr _ _ _ hk h1] at hf
      cases hf
theorem between_hi {its : List It} {k : Ky} {l h m : Nat} {x : It} (hs : Sorted ilt its) (hb : Between its k l h) (hx : its[m]? = some x) (hf : klt k (ky x) = true) : Between its k l m := by
  refine ⟨hb.1, fun j y hj hy => ?_⟩
  obtain ⟨hml, rfl⟩ := List.getElem?_eq_some_iff.1 hx
  obtain ⟨hjl, rfl⟩ := List.getElem?_eq_some_iff.1 hy
  by_cases hjm : j = m
  · subst hjm; exact hf
  · have h1 := List.pairwise_iff_getElem.1 hs m j hml hjl (by omega)
    exact kord.tr _ _ _ hf h1

theorem search_end {its : List It} {k : Ky} {l : Nat} (hl : l ≤ its.length) (hs : Sorted ilt its) (hb : Between its k l l) :
    (∀ x, 0 < l → its[l - 1]? = some x → klt (ky x) k = false → ∃ x, its[l - 1]? = some x ∧ klt k (ky x) = false ∧ klt (ky x) k = false) ∧
    ((0 < l → ∀ x, its[l - 1]? = some x → klt (ky x) k = true) → (∀ j x, j < l → its[j]? = some x → klt (ky x) k = true) ∧ ∀ j x, l ≤ j → its[j]? = some x → klt k (ky x) = true) := by
  refine ⟨fun x h0 hx hf => ⟨x, hx, hb.1 (l - 1) x (by omega) hx, hf⟩, fun h => ⟨fun j x hj hx => ?_, hb.2⟩⟩
  have h0 : 0 < l := by omega
  have hlt : l - 1 < its.length := by omega
  have h1 := h h0 its[l - 1] (by simp [hlt])
  by_cases hjl : j = l - 1
  · subst hjl
    rw [List.getElem?_eq_getElem hlt] at hx
    cases hx
    exact h1
  · have hjlt : j < its.length := by omega
    rw [List.getElem?_eq_getElem hjlt] at hx
    cases hx
    have := List.pairwise_iff_getElem.1 hs j (l - 1) hjlt hlt (by omega)
    exact kord.tr _ _ _ this h1

set_option maxHeartbeats 1000000 in
theorem search_some {w : World} {tr : Value} {n : Nat} {r : NRec It} {L : Lay} {ib io : Nat} (hn : NodeAt TT E w n r L) (hia : L.ia = some ⟨ib, io, none⟩) (hlen : r.items.length ≤ 1000000000000) (k : Ky) (hs : Sorted ilt r.items) :
    Calls Try.prog 209 #[tr, ptr n, kv k] w (SearchPost w r.items k) := by
  obtain ⟨d0, d1, c2, d3, _⟩ := blk4 hn.1
  have hrow := hn.2.1
  clear d0 d1 d3 hn
  rw [hia] at c2 hrow
  have HC := Lib.hid (fun j x hj => key_cell (j := j) (x := x) hrow hj)
  clear hrow hia
  generalize r.items = its at *
  generalize L.icap = cap at *
  have HS := Lib.hid hs
  clear hs
  unfold ptr
  unfold kv at *
  go_enter Try.func209, Try.ntmps209
  go_wp2_with fail
  refine wp_calm (by kernel_rfl) (by kernel_rfl) rfl ?_
  simp only [List.flatMap_cons, List.flatMap_nil, checks, chk, nilLit, List.cons_append, List.nil_append, List.append_nil]
  try simp only [Try.underlying3]
  go_wp2_with fail
  rw [HQ_normal]
  go_wp2_with fail
  go_loop [8, 9] (fun lo hi => ∃ l h : Nat, l ≤ h ∧ h ≤ its.length ∧ lo = .int .i64 l ∧ hi = .int .i64 h ∧ Between its k l h) (fun lo hi => (intOf hi - intOf lo).toNat)
  case atStart => exact ⟨0, its.length, Nat.zero_le _, Nat.le_refl _, rfl, rfl, fun j x h => by omega, fun j x h hx => by simp [List.getElem?_eq_none h] at hx⟩
  case round =>
    obtain ⟨l, h, hlh, hh, rfl, rfl, hb⟩ := hrel
    have HB := Lib.hid hb
    clear hb
    by_cases hlt : l < h
    · obtain ⟨m, hm1, hm2, hm3⟩ : ∃ m : Nat, l ≤ m ∧ m < h ∧ ((l : Int) + (h : Int)) / 2 = (m : Int) := ⟨(l + h) / 2, by omega, by omega, by omega⟩
      have hml : m < its.length := by omega
      have HX : Hid (its[m]? = some its[m]) := by exact (List.getElem?_eq_getElem hml)
      have cm := HC.out m _ HX.out
      generalize its[m] = x at *
      generalize hg : ky x = kx at *
      have HG := Lib.hid hg
      clear hg
      have HF : Hid (klt k kx = false → Between its k (m + 1) h) := by exact fun hf => between_lo HS.out HB.out HX.out (HG.out ▸ hf)
      have HT : Hid (klt k kx = true → Between its k l m) := by exact fun hf => between_hi HS.out HB.out HX.out (HG.out ▸ hf)
      unfold klt at HF HT
      go_wp2_with fail
      · rename_i hq
        have hf := HF.out (by simpa using hq)
        go_round
        case rel => exact ⟨m + 1, h, by omega, hh, by go_num, rfl, hf⟩
        case measure => simp [intOf]; omega
      · rename_i hq
        have hf := HT.out (by simpa using hq)
        go_round
        case rel => exact ⟨l, m, by omega, by omega, rfl, by rw [hm3], hf⟩
        case measure => simp [intOf]; omega
    · have hl : l = h := by omega
      subst hl
      have HE := Lib.hid (search_end (by omega) HS.out HB.out)
      by_cases h0 : 0 < l
      · have hml : l - 1 < its.length := by omega
        have HX : Hid (its[l - 1]? = some its[l - 1]) := by exact (List.getElem?_eq_getElem hml)
        have cm := HC.out (l - 1) _ HX.out
        generalize its[l - 1] = x at *
        generalize hg : ky x = kx at *
        obtain ⟨q, rfl⟩ : ∃ q, l = q + 1 := ⟨l - 1, by omega⟩
        simp only [Nat.add_sub_cancel] at cm HX hml HE
        have he : ((q : Int) + 1) - 1 = (q : Int) := by omega
        have HT : Hid (klt kx k = false → SearchPost w its k (.returned (.tuple #[.int .i64 q, .bool true])) w.drew) := by
          exact fun hf => ⟨q, true, rfl, ⟨1, rfl⟩, by omega, by obtain ⟨y, h1, h2, h3⟩ := HE.out.1 x (by omega) HX.out (hg ▸ hf); exact ⟨y, h1, h2, h3⟩⟩
        have HF : Hid (klt kx k = true → SearchPost w its k (.returned (.tuple #[.int .i64 (q + 1 : Nat), .bool false])) w.drew) := by
          exact fun hf => ⟨q + 1, false, rfl, ⟨1, rfl⟩, hh, HE.out.2 fun _ y hy => by rw [HX.out] at hy; cases hy; exact hg ▸ hf⟩
        clear hg
        unfold klt at HT HF
        go_wp2_with fail
        · have hf := HT.out (not_t ‹(!Op.bytesLess _ _) = _›)
          go_ret2
          exact hf
        · have hf := HF.out (not_f ‹(!Op.bytesLess _ _) = _›)
          go_ret2
          exact hf
      · have : l = 0 := by omega
        subst this
        have HF : Hid (SearchPost w its k (.returned (.tuple #[.int .i64 (0 : Nat), .bool false])) w.drew) := by
          exact ⟨0, false, rfl, ⟨1, rfl⟩, hh, HE.out.2 fun h => by omega⟩
        go_wp2_with fail
        go_ret2
        exact HF.out
set_option maxHeartbeats 1000000 in
theorem search_none {w : World} {tr : Value} {n : Nat} {r : NRec It} {L : Lay} (hn : NodeAt TT E w n r L) (hia : L.ia = none) (h0 : r.items = []) (k : Ky) :
    Calls Try.prog 209 #[tr, ptr n, kv k] w (SearchPost w r.items k) := by
  obtain ⟨d0, d1, c2, d3, _⟩ := blk4 hn.1
  clear d0 d1 d3 hn
  rw [hia, h0] at c2
  rw [h0]
  clear hia h0
  simp only [List.length_nil] at c2
  generalize L.icap = cap at *
  have HF : Hid (SearchPost w [] k (.returned (.tuple #[.int .i64 (0 : Nat), .bool false])) w.drew) := by
    exact ⟨0, false, rfl, ⟨1, rfl⟩, by simp, by simp⟩
  unfold ptr
  unfold kv at *
  go_enter Try.func209, Try.ntmps209
  go_wp2_with fail
  refine wp_calm (by kernel_rfl) (by kernel_rfl) rfl ?_
  simp only [List.flatMap_cons, List.flatMap_nil, checks, chk, nilLit, List.cons_append, List.nil_append, List.append_nil]
  go_wp2_with fail
  rw [HQ_normal]
  go_wp2_with fail
  go_loop [8, 9] (fun lo hi => lo = .int .i64 0 ∧ hi = .int .i64 0) (fun lo hi => (0 : Nat))
  case atStart => exact ⟨rfl, rfl⟩
  case round =>
    obtain ⟨rfl, rfl⟩ := hrel
    go_wp2_with fail
    go_ret2
    exact HF.out

theorem all_nil {l : List It} (h : E.all l = []) : l = [] := by
  have := E.all_len l
  rw [h] at this
  cases l with
  | nil => rfl
  | cons x l =>
    have hp := E.pos
    rw [List.length_cons, Nat.add_mul] at this
    simp at this
    omega

theorem search_any {w : World} {tr : Value} {n : Nat} {r : NRec It} {L : Lay} (hn : NodeAt TT E w n r L) (hlen : r.items.length ≤ 1000000000000) (k : Ky) (hs : Sorted ilt r.items) :
    Calls Try.prog 209 #[tr, ptr n, kv k] w (SearchPost w r.items k) := by
  have hrow := hn.2.1
  rcases hrow with ⟨h1, h2⟩ | ⟨ib, io, arr, h1, _⟩
  · refine search_none hn h1 ?_ k
    exact all_nil h2.2
  · exact search_some hn h1 hlen k hs
end Go.Proofs.Ytfikahgofapobaa.T

namespace Go.Proofs.Ytfikahgofapobaa.T
open Go.RowKit Go.Wb

theorem ty_ok : TyOk TT := ⟨by decide, by decide, by decide, by decide, by decide, by decide⟩

/-- What updateCount leaves. -/
def UpdPost (w : World) (n : Nat) (r : NRec It) (L : Lay) (c : Nat → Int) (e : Ending) (w' : World) : Prop :=
  e = .returned (.tuple #[]) ∧ Keep (fun b o => b = n ∧ o = 1) w w' ∧ w'.heap[n]? = some (.cells #[.int .u64 r.iso, .int .i64 (r.items.length + kidSum c r.kids), .slice L.ia r.items.length L.icap, kidsVal r.kids L.cb] 276 (0, 0))

theorem upd_node {w w' : World} {n : Nat} {r : NRec It} {L : Lay} {c : Nat → Int} {e : Ending} (hn : NodeAt TT E w n r L) (h : UpdPost w n r L c e w') : NodeAt TT E w' n { r with cnt := r.items.length + kidSum c r.kids } L :=
  hn.reset ty_ok (h.2.1.mono fun _ _ _ h => h.1) h.2.2

set_option maxHeartbeats 1000000 in
theorem updateCount_any {w : World} {n : Nat} {r : NRec It} {L : Lay} (hn : NodeAt TT E w n r L) (hlen : r.items.length ≤ 1000000000000) (c : Nat → Int)
    (hk : ∀ ks, r.kids = some ks → ks.length ≤ 1000000000000 ∧ (ks.map c).sum ≤ 4000000000000000000 ∧ ∀ k ∈ ks, k ≠ n ∧ 0 ≤ c k ∧ w.cell? ⟨k, 1, none⟩ = some (.int .i64 (c k))) :
    Calls Try.prog 216 #[ptr n] w (UpdPost w n r L c) := by
  have HN := Lib.hid hn
  obtain ⟨c0, c1, c2, c3, fz⟩ := blk4 hn.1
  have HK := Lib.hid hk
  have HB := Lib.hid hn.1
  clear hn hk c0 c3
  generalize hks : r.kids = kids at *
  have HKS := Lib.hid hks
  clear hks
  unfold ptr at *
  go_enter Try.func216, Try.ntmps216
  go_upto_region 1 with (fail)
  refine wp_world ?_
  intro W hW
  have K1 : Hid (Keep (fun b o => b = n ∧ o = 1) w W) := by
    subst hW
    refine (Keep.refl _ _).set _ _ _ ?_; exact fun _ => ⟨rfl, rfl⟩
  have B1 : Hid (W.heap[n]? = some (.cells #[.int .u64 r.iso, .int .i64 r.items.length, .slice L.ia r.items.length L.icap, kidsVal kids L.cb] 276 (0, 0))) := by
    subst hW
    exact blk_set _ HB.out
  have N1 : Hid (NodeAt TT E W n { r with cnt := r.items.length } L) := by
    exact HN.out.reset ty_ok (K1.out.mono fun _ _ _ h => h.1) (by rw [HKS.out]; exact B1.out)
  have hl := leaf_any N1.out
  clear hW c1 c2 fz
  unfold ptr at hl
  simp only [HKS.out] at hl
  cases kids with
  | none =>
    go_wp2_with fail
    refine hl.mono ?_
    rintro e w1 ⟨rfl, rfl⟩
    go_wp2_with fail
    go_end0
    exact ⟨rfl, K1.out, by rw [HKS.out]; simpa [kidSum] using B1.out⟩
  | some ks =>
    go_wp2_with fail
    refine hl.mono ?_
    rintro e w1 ⟨rfl, rfl⟩
    clear hl
    go_wp2_with fail
    go_loopg [2] (ks.length + 1) (fun k v wr => ∃ i : Nat, v = .int .i64 i ∧ i ≤ ks.length ∧ i + k = ks.length + 1 ∧ Keep (fun b o => b = n ∧ o = 1) w wr ∧
      wr.heap[n]? = some (.cells #[.int .u64 r.iso, .int .i64 (r.items.length + ((ks.map c).take i).sum), .slice L.ia r.items.length L.icap, kidsVal (some ks) L.cb] 276 (0, 0)))
    case atStart => exact ⟨0, rfl, by omega, by omega, K1.out, by simpa using B1.out⟩
    case round =>
      obtain ⟨i, rfl, hil, hik, hK, hB⟩ := hrel
      have HK2 := Lib.hid hK
      have HB2 := Lib.hid hB
      obtain ⟨_, HS1, HC⟩ := HK.out ks rfl
      have N2 : Hid (NodeAt TT E wr n { r with cnt := r.items.length + ((ks.map c).take i).sum } L) := by
        exact HN.out.reset ty_ok (hK.mono fun _ _ _ h => h.1) (by rw [HKS.out]; exact hB)
      obtain ⟨d0, d1, d2, d3, fz⟩ := blk4 hB
      have hks := N2.out.2.2.2 ks HKS.out
      obtain ⟨e0, fz2⟩ := blk1 hks.1
      have hrow := Lib.hid hks.2.1
      clear hks d0 d2 hK hB
      replace HC := Lib.hid HC
      replace HS1 := Lib.hid HS1
      unfold kidsVal ptr at d3
      have hlen2 : ks.length ≤ 1000000000000 := (HK.out ks rfl).1
      by_cases hlt : i < ks.length
      · have hpos : 0 < (ks.map ptr).length := by simp; omega
        obtain ⟨kb, ko, hka, _⟩ := hrow.out.form hpos
        rw [hka] at hrow e0
        have HI : Hid (ks[i]? = some ks[i]) := by exact (List.getElem?_eq_getElem hlt)
        have ck := hrow.out.cell (i := i) (v := ptr ks[i]) (by simp [hlt])
        obtain ⟨g1, g2, g3⟩ := HC.out ks[i] (by simp)
        have cc := HK2.out.cell' g3 (fun h => g1 h.1)
        have hsm := sum_take_succ (l := ks.map c) (i := i) (x := c ks[i]) (by simp [hlt])
        have hs1 := sum_take (l := ks.map c) (by simpa using fun k hk => (HC.out k hk).2.1) i
        have hs2 := sum_take (l := ks.map c) (by simpa using fun k hk => (HC.out k hk).2.1) (i + 1)
        have hs3 := HS1.out
        generalize ((ks.map c).take i).sum = s1 at *
        generalize hg2 : ((ks.map c).take (i + 1)).sum = s2 at hsm hs2
        have HG2 := Lib.hid hg2
        clear hg2
        generalize (ks.map c).sum = s3 at *
        generalize ks[i] = k at *
        generalize c k = cv at *
        unfold ptr at ck
        replace hka := Lib.hid hka
        replace hsm := Lib.hid hsm
        clear g3 g1
        have h4 : -9223372036854775808 ≤ (r.items.length : Int) + s1 + cv ∧ (r.items.length : Int) + s1 + cv ≤ 9223372036854775807 := by have := hsm.out; omega
        go_wp2_with fail
        refine wp_calm (by kernel_rfl) (by kernel_rfl) rfl ?_
        simp only [List.flatMap_cons, List.flatMap_nil, checks, chk, nilLit, List.cons_append, List.nil_append, List.append_nil, Try.underlying3]
        go_wp2_with fail
        rw [HQ_normal]
        go_wp2_with fail
        go_roundg (ks.length - i)
        case measure => omega
        case rel =>
          refine ⟨i + 1, by go_num, by omega, by omega, ?_, ?_⟩
          · refine (HK2.out.set _ _ _ ?_).dr; exact fun _ => ⟨rfl, rfl⟩
          · rw [HG2.out, show (r.items.length : Int) + s2 = r.items.length + s1 + cv by have := hsm.out; omega]
            exact blk_drew (blk_set _ HB2.out)
      · have hi : i = ks.length := by omega
        subst hi
        go_wp2_with fail
        go_end0
        refine ⟨rfl, HK2.out, ?_⟩
        rw [HKS.out, HB2.out]
        simp [kidSum, List.take_of_length_le]
end Go.Proofs.Ytfikahgofapobaa.T

namespace Go.Proofs.Ytfikahgofapobaa.T
open Go.RowKit Go.Wb

def zeroKy : Ky := ⟨#[]⟩

theorem hdr_mx {w : World} {b : Nat} {h : HRec} (hh : Hdr w b h) : 
    w.cell? ⟨b, 6, none⟩ = some (.int .i64 h.mx) := (hdr_cells hh).2.2.2.2.2.2.1

theorem hdr_emp {w : World} {b : Nat} {h : HRec} (hh : Hdr w b h) : 
    w.cell? ⟨b, 4, none⟩ = some (kv (ky h.emp)) := (hdr_cells hh).2.2.2.2.1

/-- An item's value. -/
def pv (x : It) : Value := .agg #[kv (ky x)]

/-- What a split leaves. -/
def SplitPost (w : World) (n : Nat) (iso : Int) (r : NRec It) (L : Lay) (i : Nat) (c : Nat → Int) (e : Ending) (w' : World) : Prop :=
  ∃ m L1 L2 med, r.items[i]? = some med ∧ e = .returned (.tuple #[ptr m, pv med]) ∧ w.heap.size ≤ m ∧ Keep (fp TT n r L) w w' ∧
    NodeAt TT E w' n ⟨r.iso, (r.items.take i).length + kidSum c (r.kids.map (List.take (i + 1))), r.items.take i, r.kids.map (List.take (i + 1))⟩ L1 ∧
    NodeAt TT E w' m ⟨iso, (r.items.drop (i + 1)).length + kidSum c (r.kids.map (List.drop (i + 1))), r.items.drop (i + 1), r.kids.map (List.drop (i + 1))⟩ L2 ∧
    (∀ b o, fp TT n (⟨r.iso, (r.items.take i).length + kidSum c (r.kids.map (List.take (i + 1))), r.items.take i, r.kids.map (List.take (i + 1))⟩ : NRec It) L1 b o → fp TT n r L b o) ∧
    (∀ b o, fp TT m (⟨iso, (r.items.drop (i + 1)).length + kidSum c (r.kids.map (List.drop (i + 1))), r.items.drop (i + 1), r.kids.map (List.drop (i + 1))⟩ : NRec It) L2 b o → fp TT n r L b o ∨ w.heap.size ≤ b) ∧
    ∀ b o, fp TT n (⟨r.iso, (r.items.take i).length + kidSum c (r.kids.map (List.take (i + 1))), r.items.take i, r.kids.map (List.take (i + 1))⟩ : NRec It) L1 b o →
      fp TT m (⟨iso, (r.items.drop (i + 1)).length + kidSum c (r.kids.map (List.drop (i + 1))), r.items.drop (i + 1), r.kids.map (List.drop (i + 1))⟩ : NRec It) L2 b o → False

/-- What a split writes of the old cells. -/
def cutS (n : Nat) (cb : Nat) (ib lo hi : Nat) (b o : Nat) : Prop := b = n ∨ b = cb ∨ (b = ib ∧ lo ≤ o ∧ o < hi)

set_option maxHeartbeats 4000000 in
theorem split_any {w : World} {b n : Nat} {h : HRec} {r : NRec It} {L : Lay} (hh : Hdr w b h) (hn : NodeAt TT E w n r L) {mx : Nat} (hmx : h.mx = (mx : Int)) (hl : r.items.length = mx) (h3 : 3 ≤ mx) (hb3 : mx ≤ 1000000000000) {i : Nat} (hi2 : mx / 2 = i) (c : Nat → Int)
    (hc : ∀ ks, r.kids = some ks → ks.length = mx + 1 ∧ (ks.map c).sum ≤ 4000000000000000000 ∧ ∀ k ∈ ks, k ≠ n ∧ 0 ≤ c k ∧ ∃ q Lq, NodeAt TT E w k q Lq ∧ q.cnt = c k) :
    Calls Try.prog 215 #[ptr b, ptr n] w (SplitPost w n h.iso r L i c) := by
  have HN := Lib.hid hn
  have HC := Lib.hid hc
  clear hc
  have HH := Lib.hid hh
  have hlt := lt_of_heap hn.1
  have HM := Lib.hid hmx
  clear hmx hh hn
  unfold ptr at *
  go_enter Try.func215, Try.ntmps215
  go_upto_region 1 with (fail)
  generalize hmb : w.heap.size = mb
  refine wp_world ?_
  intro W1 hW1
  have K1 : Hid (Keep Nothing w W1) := by subst hW1; exact (Keep.refl _ _).al _
  have M1 : Hid (W1.heap[mb]? = some (.cells #[kv zeroKy] 140 (0, 0))) := by subst hW1; subst hmb; exact heap_alloc_new w _
  have HMB := Lib.hid hmb
  clear hW1 hmb
  have HN1 : Hid (NodeAt TT E W1 n r L) := by exact HN.out.keep K1.out fun _ _ _ h => h
  have HH1 : Hid (Hdr W1 b h) := by exact blk_keep HH.out K1.out fun _ h => h
  obtain ⟨c0, c1, c2, c3, fz⟩ := blk4 HN1.out.1
  have x6 := hdr_mx HH1.out
  rw [HM.out] at x6
  have hrow := HN1.out.2.1
  have hpos : 0 < (E.all r.items).length := by rw [E.all_len]; exact Nat.mul_pos (by omega) E.pos
  obtain ⟨ib, io, hia, _⟩ := hrow.form hpos
  rw [hia] at c2 hrow
  have hil : i < mx := by omega
  have hi : i < r.items.length := by omega
  have HI : Hid (r.items[i]? = some r.items[i]) := by exact List.getElem?_eq_getElem hi
  have ck := key_cell hrow HI.out
  have hdi : (mx : Int) / 2 = (i : Int) := by omega
  generalize r.items[i] = med at *
  have HIA := Lib.hid hia
  have HI2 := Lib.hid hi2
  obtain ⟨y0, fz1⟩ := blk1 M1.out
  clear hrow hia hi2
  unfold kv at *
  go_upto_region 3 with (fail)
  refine wp_world ?_
  intro W2 hW2
  have K2 : Hid (Keep Nothing w W2) := by subst hW2; exact K1.out.set _ _ _ fun h => by rw [HMB.out] at h; exact absurd h (Nat.lt_irrefl _)
  have M2 : Hid (W2.heap[mb]? = some (.cells #[.string (ky med)] 140 (0, 0))) := by subst hW2; exact blk_set _ M1.out
  clear hW2 M1 K1 HN1 HH1 c0 c1 c2 c3 fz x6 ck y0 fz1
  have HN2 : Hid (NodeAt TT E W2 n r L) := by exact HN.out.keep K2.out fun _ _ _ h => h
  have HH2 : Hid (Hdr W2 b h) := by exact blk_keep HH.out K2.out fun _ h => h
  have hlf := leaf_any HN2.out
  have hnn := newNode_any HH2.out r.kids.isNone
  unfold ptr at hlf hnn
  go_wp2_with fail
  refine hlf.mono ?_
  rintro e w1 ⟨rfl, rfl⟩
  go_wp2_with fail
  refine hnn.mono ?_
  rintro e W3 ⟨m, Lm, rfl, hm, hK3, hN3, hfp3⟩
  clear hlf hnn
  have K3 : Hid (Keep Nothing w W3) := by exact K2.out.trans hK3 fun _ _ _ h => h
  have hmw : w.heap.size ≤ m := Nat.le_trans K2.out.size hm
  have M3 : Hid (W3.heap[mb]? = some (.cells #[.string (ky med)] 140 (0, 0))) := by exact blk_keep M2.out hK3 fun _ h => h
  have HN3 : Hid (NodeAt TT E W3 n r L) := by exact HN.out.keep K3.out fun _ _ _ h => h
  have hmmb : m ≠ mb := fun e => by
    have h1 := hN3.1
    rw [e, M3.out] at h1
    exact ty_ok.a (Obj.cells.inj (Option.some.inj h1)).2.1.symm
  have NM3 := Lib.hid hN3
  have FP3 := Lib.hid hfp3
  have hcap : mx ≤ L.icap := hl ▸ HN.out.2.2.1
  have K2s : Hid (w.heap.size ≤ W2.heap.size) := by exact K2.out.size
  clear hK3 hN3 hfp3 HN2 HH2 K2 M2
  obtain ⟨c0, c1, c2, c3, fz⟩ := blk4 HN3.out.1
  obtain ⟨d0, d1, d2, d3, fz2⟩ := blk4 NM3.out.1
  rw [HIA.out] at c2
  clear c0 c1 c3 d0 d1 d3
  unfold ptr at *
  go_upto_region 5 with (fail)
  refine wp_world ?_
  intro W4 hW4
  have hrow := HN.out.2.1
  rw [HIA.out] at hrow
  have R2 : Hid (Row w TT.pair TT.s (some ⟨ib, io + (i + 1), none⟩) (L.icap - (i + 1)) (E.all (r.items.drop (i + 1)))) := by
    have := hrow.skip (n := i + 1) (by omega)
    rw [show (i + 1) * TT.s = (i + 1) by simp [TT, E]] at this
    rw [E.all_drop, show (i + 1) * E.s = (i + 1) by simp [E]]
    exact this
  have R1 : Hid (Row w TT.pair TT.s (some ⟨ib, io, none⟩) i (E.all (r.items.take i))) := by
    have := hrow.cut (n := i) (by omega)
    rw [E.all_take]
    exact this
  clear hrow
  have K4 : Hid (Keep Nothing w W4) := by subst hW4; exact K3.out.set _ _ _ fun h => absurd h (by omega)
  have M4 : Hid (W4.heap[mb]? = some (.cells #[.string (ky med)] 140 (0, 0))) := by subst hW4; exact blk_far _ M3.out hmmb.symm
  have B4 : Hid (W4.heap[m]? = some (.cells #[.int .u64 h.iso, .int .i64 0, .slice (some ⟨ib, io + (i + 1), none⟩) (mx - (i + 1)) (L.icap - (i + 1)), kidsVal (if r.kids.isNone = true then none else some []) Lm.cb] 276 (0, 0))) := by
    subst hW4
    have := blk_set (o := 2) (.slice (some ⟨ib, io + (i + 1), none⟩) (mx - (i + 1)) (L.icap - (i + 1))) NM3.out.1
    exact this
  have C4 : Hid (∀ ks, r.kids = some ks → W4.heap[Lm.cb]? = some (.cells #[.slice Lm.ka 0 Lm.kcap] 279 (0, 0))) := by
    intro ks hks
    have h1 := (NM3.out.2.2.2 [] (by simp [hks])).1
    subst hW4
    exact blk_far _ h1 (blk_ne NM3.out.1 h1 ty_ok.c).symm
  have HN4 : Hid (NodeAt TT E W4 n r L) := by exact HN.out.keep K4.out fun _ _ _ h => h
  have HH4 : Hid (Hdr W4 b h) := by exact blk_keep HH.out K4.out fun _ h => h
  clear hW4 c2 fz d2 fz2 HN3 K3 M3
  have hlf := leaf_any HN4.out
  unfold ptr at hlf
  cases hk : r.kids with
  | none =>
    rw [hk] at hlf
    simp only [Option.isNone_none, hk, if_true] at hlf B4 ⊢
    have HKS := Lib.hid hk
    clear hk
    have HN4b : Hid (NodeAt TT E W4 m ⟨h.iso, 0, r.items.drop (i + 1), none⟩ ⟨some ⟨ib, io + (i + 1), none⟩, L.icap - (i + 1), Lm.cb, none, 0⟩) := by
      refine ⟨?_, R2.out.keep' K4.out fun _ _ _ h => h, by simp only [List.length_drop, hl]; omega, fun k2 hk2 => by cases hk2⟩
      simp only [List.length_drop, hl]; exact B4.out
    have hup := updateCount_any HN4b.out (by simp; omega) c fun k2 hk2 => by cases hk2
    clear C4 HN4 HH4
    unfold ptr at hup
    go_wp2_with fail
    refine hlf.mono ?_
    rintro e w1 ⟨rfl, rfl⟩
    go_wp2_with fail
    refine hup.mono ?_
    rintro e W6 hU
    obtain ⟨rfl, hK6, hB6⟩ := hU
    clear hup hlf
    have K6 : Hid (Keep Nothing w W6) := by exact K4.out.trans hK6 fun x o hx ⟨e1, e2⟩ => absurd hx (by omega)
    have NM6 : Hid (NodeAt TT E W6 m ⟨h.iso, (r.items.drop (i + 1)).length + kidSum c none, r.items.drop (i + 1), none⟩ ⟨some ⟨ib, io + (i + 1), none⟩, L.icap - (i + 1), Lm.cb, none, 0⟩) := by
      exact upd_node HN4b.out ⟨rfl, hK6, hB6⟩
    have M6 : Hid (W6.heap[mb]? = some (.cells #[.string (ky med)] 140 (0, 0))) := by exact blk_keep M4.out hK6 fun o he => hmmb he.1.symm
    have HN6 : Hid (NodeAt TT E W6 n r L) := by exact HN.out.keep K6.out fun _ _ _ h => h
    have HH6 : Hid (Hdr W6 b h) := by exact blk_keep HH.out K6.out fun _ h => h
    clear hK6 hB6 HN4b K4 M4 B4
    obtain ⟨c0, c1, c2, c3, fz⟩ := blk4 HN6.out.1
    rw [HIA.out] at c2
    have hrow := HN6.out.2.1
    rw [HIA.out] at hrow
    have ck := key_cell hrow HI.out
    have fz2 := hrow.frozen
    obtain ⟨arr, harr⟩ := hrow.blk
    have hnib : ib ≠ n := (blk_ne HN6.out.1 harr ty_ok.a).symm
    have hibw : ib < w.heap.size := by
      have h1 := HN.out.2.1
      rw [HIA.out] at h1
      exact lt_of_heap h1.blk.choose_spec
    have e4 := hdr_emp HH6.out
    clear c0 c1 c3 hrow harr
    unfold kv at ck e4
    go_wp2_with fail
    refine wp_calm (by kernel_rfl) (by kernel_rfl) rfl ?_
    simp only [List.flatMap_cons, List.flatMap_nil, checks, chk, nilLit, List.cons_append, List.nil_append, List.append_nil]
    go_wp2_with fail
    rw [HQ_normal]
    go_upto_region 9 with (fail)
    refine wp_world ?_
    intro W7 hW7
    have K7 : Hid (Keep (cutS n n ib (io + i) (io + (i + 1))) W6 W7) := by
      subst hW7; exact ((Keep.refl _ _).set _ _ _ fun _ => .inr (.inr ⟨rfl, by omega, by omega⟩)).dr
    have M7 : Hid (W7.heap[mb]? = some (.cells #[.string (ky med)] 140 (0, 0))) := by subst hW7; exact blk_drew (blk_far _ M6.out (by have := HMB.out; omega))
    have B7 : Hid (W7.heap[n]? = some (.cells #[.int .u64 r.iso, .int .i64 r.cnt, .slice (some ⟨ib, io, none⟩) mx L.icap, .pointer none] 276 (0, 0))) := by
      have h1 := HN6.out.1
      rw [HIA.out, hl, HKS.out] at h1
      subst hW7
      exact blk_drew (blk_far _ h1 hnib.symm)
    clear hW7 M6 c2 fz ck fz2 e4
    obtain ⟨c0, c1, c2, c3, fz⟩ := blk4 B7.out
    have hil2 : i ≤ L.icap := by omega
    clear c0 c1 c3
    go_upto_region 10 with (fail)
    refine wp_world ?_
    intro W8 hW8
    have K8 : Hid (Keep (cutS n n ib (io + i) (io + (i + 1))) W6 W8) := by
      subst hW8; exact K7.out.set _ _ _ fun _ => .inl rfl
    have M8 : Hid (W8.heap[mb]? = some (.cells #[.string (ky med)] 140 (0, 0))) := by subst hW8; exact blk_far _ M7.out (by have := HMB.out; omega)
    have B8 : Hid (W8.heap[n]? = some (.cells #[.int .u64 r.iso, .int .i64 r.cnt, .slice (some ⟨ib, io, none⟩) i i, .pointer none] 276 (0, 0))) := by
      subst hW8; exact blk_set _ B7.out
    clear hW8 c2 fz K7 M7 B7
    have hti : (r.items.take i).length = i := by simp; omega
    have hS1 : ∀ x o, rowFp (some ⟨ib, io, none⟩) (i * TT.s) x o → ¬ cutS n n ib (io + i) (io + (i + 1)) x o := by
      intro x o hf
      obtain ⟨rfl, h1, h2⟩ := rowFp_some hf
      simp only [TT, E] at h2
      rintro (h | h | ⟨h, _, _⟩)
      · exact hnib h
      · exact hnib h
      · omega
    have hS2 : ∀ N x o, rowFp (some ⟨ib, io + (i + 1), none⟩) N x o → ¬ cutS n n ib (io + i) (io + (i + 1)) x o := by
      intro N x o hf
      obtain ⟨rfl, h1, h2⟩ := rowFp_some hf
      rintro (h | h | ⟨h, _, _⟩)
      · exact hnib h
      · exact hnib h
      · omega
    have KW8 : Hid (Keep (cutS n n ib (io + i) (io + (i + 1))) w W8) := by exact (K6.out.mono fun _ _ _ h => h.elim).trans K8.out fun _ _ _ h => h
    have NN8 : Hid (NodeAt TT E W8 n ⟨r.iso, r.cnt, r.items.take i, none⟩ ⟨some ⟨ib, io, none⟩, i, L.cb, none, 0⟩) := by
      refine ⟨by simp only [hti]; exact B8.out, R1.out.keep' (KW8.out) hS1, by simp only [hti]; omega, ?_⟩
      rintro k2 hk2
      cases hk2
    have hlf2 := leaf_any NN8.out
    unfold ptr at hlf2
    simp only [Option.isNone_none] at hlf2
    have hup := updateCount_any NN8.out (by simp; omega) c fun k2 hk2 => by cases hk2
    unfold ptr at hup
    go_wp2_with fail
    refine hlf2.mono ?_
    rintro e w1 ⟨rfl, rfl⟩
    clear hlf2
    go_wp2_with fail
    refine hup.mono ?_
    rintro e W10 hU
    obtain ⟨rfl, hK10, hB10⟩ := hU
    clear hup
    have K10 : Hid (Keep (cutS n n ib (io + i) (io + (i + 1))) W6 W10) := by exact K8.out.trans hK10 fun x o hx ⟨e1, e2⟩ => .inl e1
    have NN10 := Lib.hid (upd_node NN8.out ⟨rfl, hK10, hB10⟩)
    have M10 := blk_keep M8.out hK10 fun o he => by have := HMB.out; omega
    obtain ⟨y0, fz⟩ := blk1 M10
    have KW10 : Hid (Keep (cutS n n ib (io + i) (io + (i + 1))) w W10) := by exact (K6.out.mono fun _ _ _ h => h.elim).trans K10.out fun _ _ _ h => h
    replace M10 := Lib.hid M10
    clear hK10 hB10 K8 M8 B8
    go_wp2_with fail
    refine wp_calm (by kernel_rfl) (by kernel_rfl) rfl ?_
    simp only [List.flatMap_cons, List.flatMap_nil, checks, chk, nilLit, List.cons_append, List.nil_append, List.append_nil]
    go_wp2_with fail
    rw [HQ_normal]
    go_wp2_with fail
    refine wp_world2 ?_
    intro W11 hW11
    have K11 : Keep (fun x _ => x = mb) W10 W11 := by
      subst hW11; refine ((Keep.refl _ _).set _ _ _ ?_).dr; exact fun _ => rfl
    have M11 : W11.heap[mb]? = some (.cells (E.enc med).toArray 140 (0, 0)) := by
      subst hW11; exact blk_drew (blk_set _ M10.out)
    refine bodyPost_ret (results_tmp_cell_row rfl _ _ mb 140 (E.enc med).toArray (0, 0) _ rfl M11 Try.underlying140 rfl (by kernel_rfl)) rfl ?_
    have KW11 : Keep (fp TT n r L) w W11 := by
      refine (KW10.out.mono ?_).trans K11 (fun x o hx e => absurd hx (by have := HMB.out; omega))
      rintro x o hx (rfl | rfl | ⟨rfl, h1, h2⟩)
      · exact .inl rfl
      · exact .inl rfl
      · refine .inr (.inl ⟨_, _, HIA.out, rfl, by omega, ?_⟩)
        simp only [TT, E]
        omega
    have fp1 : ∀ x o, fp TT n (⟨r.iso, (r.items.take i).length + kidSum c (r.kids.map (List.take (i + 1))), r.items.take i, r.kids.map (List.take (i + 1))⟩ : NRec It) ⟨some ⟨ib, io, none⟩, i, L.cb, none, 0⟩ x o → fp TT n r L x o := by
      rintro x o (rfl | hf | ⟨hk, _⟩)
      · exact .inl rfl
      · obtain ⟨rfl, h1, h2⟩ := rowFp_some hf
        refine .inr (.inl ⟨_, _, HIA.out, rfl, by omega, ?_⟩)
        simp only [TT, E] at h2 ⊢
        omega
      · rw [HKS.out] at hk; cases hk
    have fp2 : ∀ x o, fp TT m (⟨h.iso, (r.items.drop (i + 1)).length + kidSum c (r.kids.map (List.drop (i + 1))), r.items.drop (i + 1), r.kids.map (List.drop (i + 1))⟩ : NRec It) ⟨some ⟨ib, io + (i + 1), none⟩, L.icap - (i + 1), Lm.cb, none, 0⟩ x o → fp TT n r L x o ∨ w.heap.size ≤ x := by
      rintro x o (rfl | hf | ⟨hk, _⟩)
      · exact .inr hmw
      · obtain ⟨rfl, h1, h2⟩ := rowFp_some hf
        refine .inl (.inr (.inl ⟨_, _, HIA.out, rfl, by omega, ?_⟩))
        simp only [TT, E] at h2 ⊢
        omega
      · rw [HKS.out] at hk; cases hk
    refine ⟨m, _, _, med, HI.out, rfl, hmw, KW11, ?_, ?_, fp1, fp2, ?_⟩
    · have h1 := NN10.out.keep K11 (fun x o hf e => by
        have h2 := HN.out.lt (fp1 x o (by rw [HKS.out]; exact hf))
        have := HMB.out
        omega)
      rw [HKS.out]
      exact h1
    · have h0 := NM6.out.keep K10.out (fun x o hf hS => by
        rcases hf with rfl | hf | ⟨hk, _⟩
        · rcases hS with e | e | ⟨e, _⟩ <;> (try dsimp only at e) <;> omega
        · exact hS2 _ x o hf hS
        · cases hk)
      have h1 := h0.keep K11 (fun x o hf e => by
        have := HMB.out
        rcases hf with rfl | hf | ⟨hk, _⟩
        · exact hmmb e
        · obtain ⟨rfl, _, _⟩ := rowFp_some hf; omega
        · cases hk)
      rw [HKS.out]
      exact h1
    · rintro x o (hf | hf | ⟨hk, _⟩) (hg | hg | ⟨hk, _⟩)
      · omega
      · exact hnib ((rowFp_some hg).1.symm.trans hf)
      · rw [HKS.out] at hk; cases hk
      · have := (rowFp_some hf).1; omega
      · have h1 := (rowFp_some hf).2.2
        have h2 := (rowFp_some hg).2.1
        simp only [TT, E] at h1
        omega
      · rw [HKS.out] at hk; cases hk
      all_goals (rw [HKS.out] at hk; cases hk)
  | some ks =>
    rw [hk] at hlf
    simp only [Option.isNone_some, hk, Bool.false_eq_true, if_false] at hlf B4 ⊢
    have HKS := Lib.hid hk
    clear hk
    obtain ⟨c0, c1, c2, c3, fz⟩ := blk4 HN4.out.1
    obtain ⟨g1, g2, g3⟩ := HN4.out.2.2.2 ks HKS.out
    obtain ⟨hkl, hkc⟩ := HC.out ks HKS.out
    have hkp : 0 < (ks.map ptr).length := by simp; omega
    obtain ⟨kb, ko, hka, _⟩ := g2.form hkp
    have HKA := Lib.hid hka
    rw [hka] at g1
    obtain ⟨g4, fz3⟩ := blk1 g1
    have C4' := C4.out ks HKS.out
    obtain ⟨g5, fz4⟩ := blk1 C4'
    obtain ⟨d0, d1, d2, d3, fz2⟩ := blk4 B4.out
    rw [HKS.out] at c3
    have hk1 : ¬ L.kcap = i + 1 := by omega
    simp only [kidsVal, ptr] at c3 d3
    replace C4' := Lib.hid C4'
    clear c0 c1 d0 d1 g1 g2 hka
    go_wp2_with fail
    refine hlf.mono ?_
    rintro e w1 ⟨rfl, rfl⟩
    go_wp2_with fail
    refine wp_calm (by kernel_rfl) (by kernel_rfl) rfl ?_
    simp only [List.flatMap_cons, List.flatMap_nil, checks, chk, nilLit, List.cons_append, List.nil_append, List.append_nil]
    try simp only [Try.underlying3]
    go_wp2_with fail
    rw [HQ_normal]
    go_upto_region 7 with (fail)
    refine wp_world ?_
    intro W5 hW5
    have hcbw' : w.heap.size ≤ Lm.cb := by
      refine Nat.le_trans K2s.out (FP3.out Lm.cb 0 (.inr (.inr ⟨by simp [HKS.out], .inl rfl⟩)))
    have hcm : Lm.cb ≠ m := (blk_ne B4.out C4'.out ty_ok.c).symm
    have hcmb : mb ≠ Lm.cb := blk_ne M4.out C4'.out ty_ok.d
    have hke : ks.length - (i + 1) = mx - i := by omega
    have hrow := (HN.out.2.2.2 ks HKS.out).2.1
    rw [HKA.out] at hrow
    have R4 : Hid (Row w TT.nodeP 1 (some ⟨kb, ko + (i + 1), none⟩) (L.kcap - (i + 1)) ((ks.drop (i + 1)).map ptr)) := by
      have := hrow.skip (n := i + 1) (by omega)
      rw [Nat.mul_one] at this
      rw [List.map_drop]
      exact this
    have R3 : Hid (Row w TT.nodeP 1 (some ⟨kb, ko, none⟩) (i + 1) ((ks.take (i + 1)).map ptr)) := by
      have := hrow.cut (n := i + 1) (by omega)
      rw [Nat.mul_one] at this
      rw [List.map_take]
      exact this
    clear hrow
    have K5 : Hid (Keep Nothing w W5) := by subst hW5; exact (K4.out.set _ _ _ fun h => absurd h (by omega)).dr
    have M5 : Hid (W5.heap[mb]? = some (.cells #[.string (ky med)] 140 (0, 0))) := by subst hW5; exact blk_drew (blk_far _ M4.out hcmb)
    have B5 : Hid (W5.heap[m]? = some (.cells #[.int .u64 h.iso, .int .i64 0, .slice (some ⟨ib, io + (i + 1), none⟩) (mx - (i + 1)) (L.icap - (i + 1)), ptr Lm.cb] 276 (0, 0))) := by
      subst hW5; exact blk_drew (blk_far _ B4.out hcm.symm)
    have C5 : Hid (W5.heap[Lm.cb]? = some (.cells #[.slice (some ⟨kb, ko + (i + 1), none⟩) (mx - i) (L.kcap - (i + 1))] 279 (0, 0))) := by
      subst hW5; exact blk_drew (blk_set _ C4'.out)
    clear hW5
    have HN5 : Hid (NodeAt TT E W5 n r L) := by exact HN.out.keep K5.out fun _ _ _ h => h
    have NM5 : Hid (NodeAt TT E W5 m ⟨h.iso, 0, r.items.drop (i + 1), some (ks.drop (i + 1))⟩ ⟨some ⟨ib, io + (i + 1), none⟩, L.icap - (i + 1), Lm.cb, some ⟨kb, ko + (i + 1), none⟩, L.kcap - (i + 1)⟩) := by
      refine ⟨?_, R2.out.keep' K5.out fun _ _ _ h => h, by simp only [List.length_drop, hl]; omega, fun k2 hk2 => ?_⟩
      · simp only [List.length_drop, hl]; exact B5.out
      · cases hk2
        refine ⟨?_, R4.out.keep' K5.out fun _ _ _ h => h, by simp only [List.length_drop]; omega⟩
        simp only [List.length_drop, hke]; exact C5.out
    have hup := updateCount_any NM5.out (by simp; omega) c fun k2 hk2 => by
      cases hk2
      refine ⟨by simp; omega, ?_, fun k hk => ?_⟩
      · rw [List.map_drop]
        have := sum_drop (l := ks.map c) (by simpa using fun k hk => (hkc.2 k hk).2.1) (i + 1)
        omega
      · obtain ⟨e1, e2, q, Lq, e3, e4⟩ := hkc.2 k (List.mem_of_mem_drop hk)
        refine ⟨?_, e2, ?_⟩
        · have := lt_of_heap e3.1; omega
        · rw [← e4]; exact (blk4 (e3.keep K5.out fun _ _ _ h => h).1).2.1
    clear K4 M4 B4 C4' C4 HN4 HH4 c2 c3 fz g4 fz3 g5 fz4 d2 d3 fz2
    unfold ptr at hup
    go_wp2_with fail
    refine hup.mono ?_
    rintro e W6 hU
    obtain ⟨rfl, hK6, hB6⟩ := hU
    clear hup
    have K6 : Hid (Keep Nothing w W6) := by exact K5.out.trans hK6 fun x o hx ⟨e1, e2⟩ => absurd hx (by omega)
    have NM6 : Hid (NodeAt TT E W6 m ⟨h.iso, (r.items.drop (i + 1)).length + kidSum c (some (ks.drop (i + 1))), r.items.drop (i + 1), some (ks.drop (i + 1))⟩ ⟨some ⟨ib, io + (i + 1), none⟩, L.icap - (i + 1), Lm.cb, some ⟨kb, ko + (i + 1), none⟩, L.kcap - (i + 1)⟩) := by
      exact upd_node NM5.out ⟨rfl, hK6, hB6⟩
    have M6 : Hid (W6.heap[mb]? = some (.cells #[.string (ky med)] 140 (0, 0))) := by exact blk_keep M5.out hK6 fun o he => hmmb he.1.symm
    have HN6 : Hid (NodeAt TT E W6 n r L) := by exact HN.out.keep K6.out fun _ _ _ h => h
    have HH6 : Hid (Hdr W6 b h) := by exact blk_keep HH.out K6.out fun _ h => h
    clear hK6 hB6 HN5 NM5 K5 M5 B5 C5
    obtain ⟨c0, c1, c2, c3, fz⟩ := blk4 HN6.out.1
    rw [HIA.out] at c2
    have hrow := HN6.out.2.1
    rw [HIA.out] at hrow
    have ck := key_cell hrow HI.out
    have fz2 := hrow.frozen
    obtain ⟨arr, harr⟩ := hrow.blk
    have hnib : ib ≠ n := (blk_ne HN6.out.1 harr ty_ok.a).symm
    have hibw : ib < w.heap.size := by
      have h1 := HN.out.2.1
      rw [HIA.out] at h1
      exact lt_of_heap h1.blk.choose_spec
    have e4 := hdr_emp HH6.out
    have hcbw : L.cb < w.heap.size := lt_of_heap (HN.out.2.2.2 ks HKS.out).1
    clear c0 c1 c3 hrow harr
    unfold kv at ck e4
    go_wp2_with fail
    refine wp_calm (by kernel_rfl) (by kernel_rfl) rfl ?_
    simp only [List.flatMap_cons, List.flatMap_nil, checks, chk, nilLit, List.cons_append, List.nil_append, List.append_nil]
    try simp only [Try.underlying3]
    go_wp2_with fail
    rw [HQ_normal]
    go_upto_region 9 with (fail)
    refine wp_world ?_
    intro W7 hW7
    have K7 : Hid (Keep (cutS n L.cb ib (io + i) (io + (i + 1))) W6 W7) := by
      subst hW7; exact ((Keep.refl _ _).set _ _ _ fun _ => .inr (.inr ⟨rfl, by omega, by omega⟩)).dr
    have M7 : Hid (W7.heap[mb]? = some (.cells #[.string (ky med)] 140 (0, 0))) := by subst hW7; exact blk_drew (blk_far _ M6.out (by have := HMB.out; omega))
    have B7 : Hid (W7.heap[n]? = some (.cells #[.int .u64 r.iso, .int .i64 r.cnt, .slice (some ⟨ib, io, none⟩) mx L.icap, ptr L.cb] 276 (0, 0))) := by
      have h1 := HN6.out.1
      rw [HIA.out, hl, HKS.out] at h1
      subst hW7
      exact blk_drew (blk_far _ h1 hnib.symm)
    have hbk := (HN6.out.2.2.2 ks HKS.out).1
    rw [HKA.out] at hbk
    have hncb : n ≠ L.cb := blk_ne HN6.out.1 hbk ty_ok.c
    have hibcb : ib ≠ L.cb := by
      have h1 := HN6.out.2.1
      rw [HIA.out] at h1
      exact blk_ne h1.blk.choose_spec hbk ty_ok.d
    have C7 : Hid (W7.heap[L.cb]? = some (.cells #[.slice (some ⟨kb, ko, none⟩) ks.length L.kcap] 279 (0, 0))) := by
      subst hW7
      exact blk_drew (blk_far _ hbk hibcb.symm)
    clear hW7 hbk M6 c2 fz ck fz2 e4
    obtain ⟨c0, c1, c2, c3, fz⟩ := blk4 B7.out
    have hil2 : i ≤ L.icap := by omega
    clear c0 c1 c3
    go_upto_region 10 with (fail)
    refine wp_world ?_
    intro W8 hW8
    have K8 : Hid (Keep (cutS n L.cb ib (io + i) (io + (i + 1))) W6 W8) := by
      subst hW8; exact K7.out.set _ _ _ fun _ => .inl rfl
    have M8 : Hid (W8.heap[mb]? = some (.cells #[.string (ky med)] 140 (0, 0))) := by subst hW8; exact blk_far _ M7.out (by have := HMB.out; omega)
    have B8 : Hid (W8.heap[n]? = some (.cells #[.int .u64 r.iso, .int .i64 r.cnt, .slice (some ⟨ib, io, none⟩) i i, ptr L.cb] 276 (0, 0))) := by
      subst hW8; exact blk_set _ B7.out
    have C8 : Hid (W8.heap[L.cb]? = some (.cells #[.slice (some ⟨kb, ko, none⟩) ks.length L.kcap] 279 (0, 0))) := by
      subst hW8; exact blk_far _ C7.out hncb.symm
    clear hW8 c2 fz K7 M7 B7 C7
    obtain ⟨arr, hkb⟩ := R3.out.blk
    obtain ⟨arr2, hib⟩ := R1.out.blk
    have hkbn : kb ≠ n := (blk_ne HN.out.1 hkb ty_ok.b).symm
    have hkbcb : kb ≠ L.cb := blk_ne hkb (HN.out.2.2.2 ks HKS.out).1 ty_ok.e
    have hkbib : kb ≠ ib := (blk_ne hib hkb ty_ok.f).symm
    clear hkb hib
    have hti : (r.items.take i).length = i := by simp; omega
    have htk : (ks.take (i + 1)).length = i + 1 := by simp; omega
    have hS1 : ∀ x o, rowFp (some ⟨ib, io, none⟩) (i * TT.s) x o → ¬ cutS n L.cb ib (io + i) (io + (i + 1)) x o := by
      intro x o hf
      obtain ⟨rfl, h1, h2⟩ := rowFp_some hf
      simp only [TT, E] at h2
      rintro (h | h | ⟨h, _, _⟩)
      · exact hnib h
      · exact hibcb h
      · omega
    have hS2 : ∀ N x o, rowFp (some ⟨ib, io + (i + 1), none⟩) N x o → ¬ cutS n L.cb ib (io + i) (io + (i + 1)) x o := by
      intro N x o hf
      obtain ⟨rfl, h1, h2⟩ := rowFp_some hf
      rintro (h | h | ⟨h, _, _⟩)
      · exact hnib h
      · exact hibcb h
      · omega
    have hS3 : ∀ y N x o, rowFp (some ⟨kb, y, none⟩) N x o → ¬ cutS n L.cb ib (io + i) (io + (i + 1)) x o := by
      intro y N x o hf
      obtain ⟨rfl, h1, h2⟩ := rowFp_some hf
      rintro (h | h | ⟨h, _⟩)
      · exact hkbn h
      · exact hkbcb h
      · exact hkbib h
    have KW8 : Hid (Keep (cutS n L.cb ib (io + i) (io + (i + 1))) w W8) := by exact (K6.out.mono fun _ _ _ h => h.elim).trans K8.out fun _ _ _ h => h
    have NN8 : Hid (NodeAt TT E W8 n ⟨r.iso, r.cnt, r.items.take i, some ks⟩ ⟨some ⟨ib, io, none⟩, i, L.cb, L.ka, L.kcap⟩) := by
      refine ⟨by simp only [hti]; exact B8.out, R1.out.keep' (KW8.out) ?_, by simp only [hti]; omega, ?_⟩
      · intro x o hf
        exact hS1 x o hf
      · rintro k2 hk2
        cases hk2
        refine ⟨by rw [HKA.out]; exact C8.out, ?_, g3⟩
        exact (HN.out.2.2.2 ks HKS.out).2.1.keep' KW8.out fun x o hf => by
          rw [HKA.out] at hf
          obtain ⟨rfl, _, _⟩ := rowFp_some hf
          rintro (h | h | ⟨h, _⟩)
          · exact hkbn h
          · exact hkbcb h
          · exact hkbib h
    have hlf2 := leaf_any NN8.out
    unfold ptr at hlf2
    simp only [Option.isNone_some] at hlf2
    obtain ⟨c0, c1, c2, c3, fz⟩ := blk4 B8.out
    obtain ⟨g4, fz3⟩ := blk1 C8.out
    have hk2 : i + 1 ≤ ks.length := by omega
    have hk3 : i + 1 ≤ L.kcap := by omega
    clear c0 c1 c2 
    unfold ptr at c3
    go_wp2_with fail
    refine hlf2.mono ?_
    rintro e w1 ⟨rfl, rfl⟩
    clear hlf2
    go_wp2_with fail
    refine wp_calm (by kernel_rfl) (by kernel_rfl) rfl ?_
    simp only [List.flatMap_cons, List.flatMap_nil, checks, chk, nilLit, List.cons_append, List.nil_append, List.append_nil]
    try simp only [Try.underlying3]
    go_wp2_with fail
    rw [HQ_normal]
    go_upto_region 12 with (fail)
    refine wp_world ?_
    intro W9 hW9
    have K9 : Hid (Keep (cutS n L.cb ib (io + i) (io + (i + 1))) W6 W9) := by
      subst hW9; exact (K8.out.set _ _ _ fun _ => .inr (.inl rfl)).dr
    have M9 : Hid (W9.heap[mb]? = some (.cells #[.string (ky med)] 140 (0, 0))) := by subst hW9; exact blk_drew (blk_far _ M8.out (by have := HMB.out; omega))
    have B9 : Hid (W9.heap[n]? = some (.cells #[.int .u64 r.iso, .int .i64 r.cnt, .slice (some ⟨ib, io, none⟩) i i, ptr L.cb] 276 (0, 0))) := by
      subst hW9; exact blk_drew (blk_far _ B8.out hncb)
    have C9 : Hid (W9.heap[L.cb]? = some (.cells #[.slice (some ⟨kb, ko, none⟩) (i + 1) (i + 1)] 279 (0, 0))) := by
      subst hW9; exact blk_drew (blk_set _ C8.out)
    clear hW9 c3 fz g4 fz3 K8 M8 B8 C8 NN8 KW8
    have KW9 : Hid (Keep (cutS n L.cb ib (io + i) (io + (i + 1))) w W9) := by exact (K6.out.mono fun _ _ _ h => h.elim).trans K9.out fun _ _ _ h => h
    have NN9 : Hid (NodeAt TT E W9 n ⟨r.iso, r.cnt, r.items.take i, some (ks.take (i + 1))⟩ ⟨some ⟨ib, io, none⟩, i, L.cb, some ⟨kb, ko, none⟩, i + 1⟩) := by
      refine ⟨by simp only [hti]; exact B9.out, R1.out.keep' KW9.out hS1, by simp only [hti]; omega, ?_⟩
      rintro k2 hk2
      cases hk2
      exact ⟨by simp only [htk]; exact C9.out, R3.out.keep' KW9.out (hS3 _ _), by simp only [htk]; omega⟩
    have hup := updateCount_any NN9.out (by simp; omega) c fun k2 hk2 => by
      cases hk2
      refine ⟨by simp; omega, ?_, fun k hk => ?_⟩
      · rw [List.map_take]
        have := sum_take (l := ks.map c) (by simpa using fun k hk => (hkc.2 k hk).2.1) (i + 1)
        omega
      · obtain ⟨e1, e2, q, Lq, e3, e4⟩ := hkc.2 k (List.mem_of_mem_take hk)
        refine ⟨e1, e2, ?_⟩
        rw [← e4]
        refine KW9.out.cell' (blk4 e3.1).2.1 ?_
        rintro (h | h | ⟨h, _⟩)
        · exact e1 h
        · exact blk_ne e3.1 (HN.out.2.2.2 ks HKS.out).1 ty_ok.c h
        · exact blk_ne e3.1 R1.out.blk.choose_spec ty_ok.a h
    unfold ptr at hup
    go_wp2_with fail
    refine hup.mono ?_
    rintro e W10 hU
    obtain ⟨rfl, hK10, hB10⟩ := hU
    clear hup
    have K10 : Hid (Keep (cutS n L.cb ib (io + i) (io + (i + 1))) W6 W10) := by exact K9.out.trans hK10 fun x o hx ⟨e1, e2⟩ => .inl e1
    have NN10 := Lib.hid (upd_node NN9.out ⟨rfl, hK10, hB10⟩)
    have M10 := blk_keep M9.out hK10 fun o he => by have := HMB.out; omega
    obtain ⟨y0, fz⟩ := blk1 M10
    have KW10 : Hid (Keep (cutS n L.cb ib (io + i) (io + (i + 1))) w W10) := by exact (K6.out.mono fun _ _ _ h => h.elim).trans K10.out fun _ _ _ h => h
    replace M10 := Lib.hid M10
    clear hK10 hB10 K9 M9 B9 C9
    go_wp2_with fail
    refine wp_calm (by kernel_rfl) (by kernel_rfl) rfl ?_
    simp only [List.flatMap_cons, List.flatMap_nil, checks, chk, nilLit, List.cons_append, List.nil_append, List.append_nil]
    try simp only [Try.underlying3]
    go_wp2_with fail
    rw [HQ_normal]
    go_wp2_with fail
    refine wp_world2 ?_
    intro W11 hW11
    have K11 : Keep (fun x _ => x = mb) W10 W11 := by
      subst hW11; refine ((Keep.refl _ _).set _ _ _ ?_).dr; exact fun _ => rfl
    have M11 : W11.heap[mb]? = some (.cells (E.enc med).toArray 140 (0, 0)) := by
      subst hW11; exact blk_drew (blk_set _ M10.out)
    refine bodyPost_ret (results_tmp_cell_row rfl _ _ mb 140 (E.enc med).toArray (0, 0) _ rfl M11 Try.underlying140 rfl (by kernel_rfl)) rfl ?_
    have KW11 : Keep (fp TT n r L) w W11 := by
      refine (KW10.out.mono ?_).trans K11 (fun x o hx e => absurd hx (by have := HMB.out; omega))
      rintro x o hx (rfl | rfl | ⟨rfl, h1, h2⟩)
      · exact .inl rfl
      · exact .inr (.inr ⟨by simp [HKS.out], .inl rfl⟩)
      · refine .inr (.inl ⟨_, _, HIA.out, rfl, by omega, ?_⟩)
        simp only [TT, E]
        omega
    have fp1 : ∀ x o, fp TT n (⟨r.iso, (r.items.take i).length + kidSum c (r.kids.map (List.take (i + 1))), r.items.take i, r.kids.map (List.take (i + 1))⟩ : NRec It) ⟨some ⟨ib, io, none⟩, i, L.cb, some ⟨kb, ko, none⟩, i + 1⟩ x o → fp TT n r L x o := by
      rintro x o (rfl | hf | ⟨_, rfl | hf⟩)
      · exact .inl rfl
      · obtain ⟨rfl, h1, h2⟩ := rowFp_some hf
        refine .inr (.inl ⟨_, _, HIA.out, rfl, by omega, ?_⟩)
        simp only [TT, E] at h2 ⊢
        omega
      · exact .inr (.inr ⟨by simp [HKS.out], .inl rfl⟩)
      · obtain ⟨rfl, h1, h2⟩ := rowFp_some hf
        dsimp only at h1 h2
        exact .inr (.inr ⟨by simp [HKS.out], .inr ⟨_, _, HKA.out, rfl, by omega, by omega⟩⟩)
    have fp2 : ∀ x o, fp TT m (⟨h.iso, (r.items.drop (i + 1)).length + kidSum c (r.kids.map (List.drop (i + 1))), r.items.drop (i + 1), r.kids.map (List.drop (i + 1))⟩ : NRec It) ⟨some ⟨ib, io + (i + 1), none⟩, L.icap - (i + 1), Lm.cb, some ⟨kb, ko + (i + 1), none⟩, L.kcap - (i + 1)⟩ x o → fp TT n r L x o ∨ w.heap.size ≤ x := by
      rintro x o (rfl | hf | ⟨_, rfl | hf⟩)
      · exact .inr hmw
      · obtain ⟨rfl, h1, h2⟩ := rowFp_some hf
        refine .inl (.inr (.inl ⟨_, _, HIA.out, rfl, by omega, ?_⟩))
        simp only [TT, E] at h2 ⊢
        omega
      · exact .inr hcbw'
      · obtain ⟨rfl, h1, h2⟩ := rowFp_some hf
        dsimp only at h1 h2
        exact .inl (.inr (.inr ⟨by simp [HKS.out], .inr ⟨_, _, HKA.out, rfl, by omega, by omega⟩⟩))
    have hkbw : kb < w.heap.size := lt_of_heap R3.out.blk.choose_spec
    refine ⟨m, _, _, med, HI.out, rfl, hmw, KW11, ?_, ?_, fp1, fp2, ?_⟩
    · have h1 := NN10.out.keep K11 (fun x o hf e => by
        have h2 := HN.out.lt (fp1 x o (by rw [HKS.out]; exact hf))
        have := HMB.out
        omega)
      rw [HKS.out]
      exact h1
    · have h0 := NM6.out.keep K10.out (fun x o hf hS => by
        rcases hf with rfl | hf | ⟨_, rfl | hf⟩
        · rcases hS with e | e | ⟨e, _⟩ <;> (try dsimp only at e) <;> omega
        · exact hS2 _ x o hf hS
        · rcases hS with e | e | ⟨e, _⟩ <;> (try dsimp only at e) <;> omega
        · exact hS3 _ _ x o hf hS)
      have h1 := h0.keep K11 (fun x o hf e => by
        have := HMB.out
        rcases hf with rfl | hf | ⟨_, rfl | hf⟩
        · exact hmmb e
        · obtain ⟨rfl, _, _⟩ := rowFp_some hf; omega
        · exact hcmb e.symm
        · obtain ⟨rfl, _, _⟩ := rowFp_some hf; omega)
      rw [HKS.out]
      exact h1
    · have hlk := (Nat.lt_of_lt_of_le hcbw hcbw')
      rintro x o (hf | hf | ⟨_, hf | hf⟩) (hg | hg | ⟨_, hg | hg⟩)
      · omega
      · exact hnib ((rowFp_some hg).1.symm.trans hf)
      · dsimp only at hg; omega
      · exact hkbn ((rowFp_some hg).1.symm.trans hf)
      · have := (rowFp_some hf).1; omega
      · have h1 := (rowFp_some hf).2.2
        have h2 := (rowFp_some hg).2.1
        simp only [TT, E] at h1
        omega
      · have := (rowFp_some hf).1; dsimp only at hg; omega
      · exact hkbib ((rowFp_some hg).1.symm.trans (rowFp_some hf).1)
      · dsimp only at hf; omega
      · exact hibcb ((rowFp_some hg).1.symm.trans hf)
      · dsimp only at hf hg; omega
      · exact hkbcb ((rowFp_some hg).1.symm.trans hf)
      · have := (rowFp_some hf).1; omega
      · exact hkbib ((rowFp_some hf).1.symm.trans (rowFp_some hg).1)
      · have := (rowFp_some hf).1; dsimp only at hg; omega
      · have h1 := (rowFp_some hf).2.2
        have h2 := (rowFp_some hg).2.1
        dsimp only at h1 h2
        omega
end Go.Proofs.Ytfikahgofapobaa.T

namespace Go.Proofs.Ytfikahgofapobaa.T
open Go.RowKit Go.Wb

/-- Where a key belongs among items. -/
def Loc (its : List It) (k : Ky) (i : Nat) (f : Bool) : Prop := i ≤ its.length ∧
    match f with
    | true => ∃ x, its[i]? = some x ∧ klt k (ky x) = false ∧ klt (ky x) k = false
    | false => (∀ j x, j < i → its[j]? = some x → klt (ky x) k = true) ∧ ∀ j x, i ≤ j → its[j]? = some x → klt k (ky x) = true

theorem klt_of_eq {a b c : Ky} (_h1 : klt a b = false) (h2 : klt b a = false) (h : klt c a = true) : klt c b = true := by
  rcases kord.co c b a h with h | h
  · exact h
  · rw [h2] at h; cases h
theorem klt_of_eq' {a b c : Ky} (h1 : klt a b = false) (_h2 : klt b a = false) (h : klt a c = true) : klt b c = true := by
  rcases kord.co a b c h with h | h
  · rw [h1] at h; cases h
  · exact h

theorem Loc.uniq {its : List It} {k : Ky} {i j : Nat} {f g : Bool} (hs : Sorted ilt its) (h1 : Loc its k i f) (h2 : Loc its k j g) : i = j ∧ f = g := by
  have lt (a b : Nat) (x y : It) (ha : its[a]? = some x) (hb : its[b]? = some y) (hab : a < b) : klt (ky x) (ky y) = true := by
    obtain ⟨hal, rfl⟩ := List.getElem?_eq_some_iff.1 ha
    obtain ⟨hbl, rfl⟩ := List.getElem?_eq_some_iff.1 hb
    exact List.pairwise_iff_getElem.1 hs a b hal hbl hab
  have one (a b : Nat) (ha : Loc its k a true) (hb : Loc its k b true) (hab : a < b) : False := by
    obtain ⟨_, x, hx, h3, h4⟩ := ha
    obtain ⟨_, y, hy, h5, h6⟩ := hb
    have h7 := lt a b x y hx hy hab
    have h8 := klt_of_eq' h4 h3 h7
    rw [h5] at h8
    cases h8
  have two (a b : Nat) (ha : Loc its k a true) (hb : Loc its k b false) : False := by
    obtain ⟨_, x, hx, h3, h4⟩ := ha
    obtain ⟨_, h5, h6⟩ := hb
    by_cases h : a < b
    · rw [h5 a x h hx] at h4; cases h4
    · rw [h6 a x (by omega) hx] at h3; cases h3
  have three (a b : Nat) (ha : Loc its k a false) (hb : Loc its k b false) (hab : a < b) : False := by
    obtain ⟨_, h3, h4⟩ := ha
    obtain ⟨h5, h6, h7⟩ := hb
    have hal : a < its.length := by omega
    have h8 := h4 a its[a] (Nat.le_refl _) (by simp [hal])
    have h9 := h6 a its[a] hab (by simp [hal])
    rw [kord.asymm h8] at h9
    cases h9
  cases f <;> cases g
  · refine ⟨?_, rfl⟩
    rcases Nat.lt_trichotomy i j with h | h | h
    · exact (three i j h1 h2 h).elim
    · exact h
    · exact (three j i h2 h1 h).elim
  · exact (two j i h2 h1).elim
  · exact (two i j h1 h2).elim
  · refine ⟨?_, rfl⟩
    rcases Nat.lt_trichotomy i j with h | h | h
    · exact (one i j h1 h2 h).elim
    · exact h
    · exact (one j i h2 h1 h).elim

theorem Loc.ex (k : Ky) : ∀ (its : List It), Sorted ilt its → ∃ i f, Loc its k i f
  | [], _ => ⟨0, false, by simp, by simp, by simp⟩
  | x :: l, hs => by
    have hp := List.pairwise_cons.1 hs
    cases h1 : klt (ky x) k with
    | true =>
      obtain ⟨i, f, h2, h3⟩ := Loc.ex k l hp.2
      refine ⟨i + 1, f, by simp; omega, ?_⟩
      cases f with
      | true =>
        obtain ⟨y, h4, h5⟩ := h3
        exact ⟨y, by simpa using h4, h5⟩
      | false =>
        refine ⟨fun j y hj hy => ?_, fun j y hj hy => ?_⟩
        · cases j with
          | zero => obtain rfl : x = y := by simpa using hy
                    exact h1
          | succ j => exact h3.1 j y (by omega) (by simpa using hy)
        · cases j with
          | zero => omega
          | succ j => exact h3.2 j y (by omega) (by simpa using hy)
    | false =>
      cases h2 : klt k (ky x) with
      | true =>
        refine ⟨0, false, by simp, fun j y hj => by omega, fun j y _ hy => ?_⟩
        cases j with
        | zero => obtain rfl : x = y := by simpa using hy
                  exact h2
        | succ j => exact kord.tr _ _ _ h2 (hp.1 y (List.mem_of_getElem? (by simpa using hy)))
      | false => exact ⟨0, true, by simp, x, by simp, h2, h1⟩

theorem search_loc {w : World} {tr : Value} {n : Nat} {r : NRec It} {L : Lay} (hn : NodeAt TT E w n r L) (hlen : r.items.length ≤ 1000000000000) {k : Ky} (hs : Sorted ilt r.items) {i : Nat} {f : Bool} (hl : Loc r.items k i f) :
    Calls Try.prog 209 #[tr, ptr n, kv k] w fun e w' => e = .returned (.tuple #[.int .i64 i, .bool f]) ∧ ∃ n, w' = w.drewN n := by
  refine (search_any (tr := tr) hn hlen k hs).mono ?_
  rintro e w' ⟨i', f', rfl, h1, h2, h3⟩
  obtain ⟨rfl, rfl⟩ := Loc.uniq hs (show Loc r.items k i' f' from ⟨h2, h3⟩) hl
  exact ⟨rfl, h1⟩
end Go.Proofs.Ytfikahgofapobaa.T

namespace Go.Proofs.Ytfikahgofapobaa.T
open Go.RowKit Go.Wb

/-- A value of the map. -/
def vv (_ : It) : Value := .agg #[]

theorem elem0 {w : World} {ib io cap i : Nat} {cs : List Value} (h : Row w TT.pair TT.s (some ⟨ib, io, none⟩) cap cs) : (partAt ⟨ib, io + i, none⟩ 0 0).run Try.prog w = .ok ⟨ib, io + i, none⟩ w := by
   obtain ⟨n, hs, _⟩ := h.shape
   refine run_part0 (sz := 1) hs (by kernel_rfl) (by omega) ?_
   rw [Nat.mod_one]
   kernel_rfl

theorem all_set {l : List It} {i : Nat} (x : It) : E.all (l.set i x) = (E.all l).set i (kv (ky x)) := by
   have e : ∀ l, E.all l = l.map fun x => kv (ky x) := fun l => by unfold Enc.all; induction l with | nil => rfl | cons y l ih => simp only [List.flatMap_cons, List.map_cons, ih]; rfl
   rw [e, e, List.map_set]


set_option maxRecDepth 100000 in
set_option maxHeartbeats 4000000 in
theorem set_found {w : World} {b pb po n : Nat} {hr : HRec} {r : NRec It} {L : Lay} (hh : Hdr w b hr) (hp : w.cell? ⟨pb, po, none⟩ = some (ptr n)) (hn : NodeAt TT E w n r L) (hi : r.iso = hr.iso)
    (hlen : r.items.length ≤ 1000000000000) (hs : Sorted ilt r.items) {x y : It} {i : Nat} (hloc : Loc r.items (ky x) i true) (hy : r.items[i]? = some y) :
    Calls Try.prog 214 #[ptr b, .pointer (some ⟨pb, po, none⟩), pv x] w fun e w' => e = .returned (.tuple #[vv y, .bool true, .bool false]) ∧ Keep (fp TT n r L) w w' ∧ NodeAt TT E w' n { r with items := r.items.set i x } L := by
  have HN := Lib.hid hn
  have HH := Lib.hid hh
  have HP := Lib.hid hp
  have HLOC := Lib.hid hloc
  have HS := Lib.hid hs
  have HI := Lib.hid hi
  have hnw := lt_of_heap hn.1
  have hpw := lt_of_cell hp
  have hbw := lt_of_heap hh
  clear hh hn hp hs hloc hi
  unfold ptr pv kv at *
  go_enter Try.func214, Try.ntmps214
  go_upto_region 1 with (fail)
  refine wp_world ?_
  intro W1 hW1
  generalize hq : w.heap.size = q at *
  have K1 : Hid (Keep Nothing w W1) := by subst hW1; exact ((Keep.refl _ _).al _).al _
  have X1 : Hid (W1.heap[q]? = some (.cells (E.enc x).toArray 140 (0, 0))) := by subst hW1; subst hq; exact blk_alloc _ (heap_alloc_new w _)
  have XQ := Lib.hid hq
  have Y1 : Hid (W1.heap[q + 1]? = some (.cells #[] 138 (0, 0))) := by subst hW1; subst hq; have := heap_alloc_new (w.alloc (.cells (E.enc x).toArray 140)) (.cells #[] 138); rwa [World.size_alloc] at this
  have S1 : W1.heap.size = q + 2 := by subst hW1; rw [World.size_alloc, World.size_alloc, hq]
  clear hW1 hq
  have HN1 : Hid (NodeAt TT E W1 n r L) := by exact HN.out.keep K1.out fun _ _ _ h => h
  have HH1 : Hid (Hdr W1 b hr) := by exact blk_keep HH.out K1.out fun _ h => h
  have hiso := isoLoad_own HH1.out (K1.out.cell' HP.out fun h => h) HN1.out HI.out true
  unfold ptr at hiso
  go_wp2_with fail
  refine hiso.mono ?_
  rintro e w1 ⟨rfl, kd, rfl⟩
  clear hiso
  have K1d : Hid (Keep Nothing w (W1.drewN kd)) := by exact K1.out.drN kd
  have S1d : (W1.drewN kd).heap.size = q + 2 := S1
  have X1d : Hid ((W1.drewN kd).heap[q]? = some (.cells (E.enc x).toArray 140 (0, 0))) := by exact X1.out
  have Y1d : Hid ((W1.drewN kd).heap[q + 1]? = some (.cells #[] 138 (0, 0))) := by exact Y1.out
  clear HN1 HH1 K1 S1 X1 Y1
  generalize W1.drewN kd = W1 at *
  unfold ptr
  go_upto_region 2 with (fail)
  refine wp_world ?_
  intro W2 hW2
  have K2 : Hid (Keep Nothing w W2) := by subst hW2; exact K1d.out.al _
  have X2 : Hid (W2.heap[q]? = some (.cells (E.enc x).toArray 140 (0, 0))) := by subst hW2; exact blk_alloc _ X1d.out
  have Y2 : Hid (W2.heap[q + 1]? = some (.cells #[] 138 (0, 0))) := by subst hW2; exact blk_alloc _ Y1d.out
  have Z2 : Hid (W2.heap[q + 2]? = some (.cells #[.pointer (some ⟨n, 0, none⟩)] 160 (0, 0))) := by subst hW2; rw [← S1d]; exact heap_alloc_new W1 _
  have S2 : W2.heap.size = q + 3 := by subst hW2; rw [World.size_alloc, S1d]
  clear hW2 K1d X1d Y1d S1d
  have HN2 : Hid (NodeAt TT E W2 n r L) := by exact HN.out.keep K2.out fun _ _ _ h => h
  have hse := search_loc (tr := ptr b) HN2.out hlen HS.out HLOC.out
  have kc : W2.cell? ⟨q, 0, none⟩ = some (.string (ky x)) := by have := X2.out; simp only [World.cell?, this]; rfl
  have zc := (blk1 Z2.out).1
  unfold ptr kv at hse
  go_wp2_with fail
  refine hse.mono ?_
  rintro e w1 ⟨rfl, kd, rfl⟩
  clear hse kc zc HN2
  have K2d : Hid (Keep Nothing w (W2.drewN kd)) := by exact K2.out.drN kd
  have S2d : (W2.drewN kd).heap.size = q + 3 := S2
  have X2d : Hid ((W2.drewN kd).heap[q]? = some (.cells (E.enc x).toArray 140 (0, 0))) := by exact X2.out
  have Y2d : Hid ((W2.drewN kd).heap[q + 1]? = some (.cells #[] 138 (0, 0))) := by exact Y2.out
  have Z2d : Hid ((W2.drewN kd).heap[q + 2]? = some (.cells #[.pointer (some ⟨n, 0, none⟩)] 160 (0, 0))) := by exact Z2.out
  clear K2 S2 X2 Y2 Z2
  generalize W2.drewN kd = W at *
  have HNd : Hid (NodeAt TT E W n r L) := by exact HN.out.keep K2d.out fun _ _ _ h => h
  have HHd : Hid (Hdr W b hr) := by exact blk_keep HH.out K2d.out fun _ h => h
  have hrow := HNd.out.2.1
  have hpos : 0 < (E.all r.items).length := by
    obtain ⟨hil, _⟩ := List.getElem?_eq_some_iff.1 hy
    rw [E.all_len]; exact Nat.mul_pos (by omega) E.pos
  obtain ⟨ib, io, hia, _⟩ := hrow.form hpos
  have HIA := Lib.hid hia
  rw [hia] at hrow
  obtain ⟨c0, c1, c2, c3, fz⟩ := blk4 HNd.out.1
  rw [hia] at c2
  have ck := key_cell hrow hy
  have fz2 := hrow.frozen
  have zc := (blk1 Z2d.out).1
  have HY := Lib.hid hy
  obtain ⟨hil, _⟩ := List.getElem?_eq_some_iff.1 hy
  unfold kv at ck
  have f0 := elem0 (i := i) hrow
  clear c0 c1 c3 hrow hy hia
  go_upto_region 5 with (fail)
  have xc : W.cell? ⟨q, 0, none⟩ = some (.string (ky x)) := by have := X2d.out; simp only [World.cell?, this]; rfl
  go_wp2_with fail
  refine wp_calm (by kernel_rfl) (by kernel_rfl) rfl ?_
  simp only [List.flatMap_cons, List.flatMap_nil, checks, chk, nilLit, List.cons_append, List.nil_append, List.append_nil]
  go_wp2_with fail
  rw [HQ_normal]
  go_upto_region 6 with (fail)
  refine wp_world ?_
  intro W3 hW3
  have hcl : i < (E.all r.items).length := by rw [E.all_len]; simpa [E] using hil
  have hrow := HNd.out.2.1
  rw [HIA.out] at hrow
  have hib := hrow.blk
  have hibn : ib ≠ n := (blk_ne HNd.out.1 hib.choose_spec ty_ok.a).symm
  have hibw : ib < w.heap.size := by
    have h1 := HN.out.2.1
    rw [HIA.out] at h1
    exact lt_of_heap h1.blk.choose_spec
  have K3 : Keep (fun x o => x = ib ∧ io + i ≤ o ∧ o < io + (i + 1)) W W3 := by
    subst hW3; refine ((Keep.refl _ _).set _ _ _ ?_).dr; exact fun _ => ⟨rfl, by omega, by omega⟩
  have B3 : W3.heap[n]? = some (.cells #[.int .u64 r.iso, .int .i64 r.cnt, .slice L.ia (r.items.set i x).length L.icap, kidsVal r.kids L.cb] 276 (0, 0)) := by
    have h1 := HNd.out.1
    rw [List.length_set]
    exact blk_keep h1 K3 fun o h => hibn h.1.symm
  have N3 : Hid (NodeAt TT E W3 n { r with items := r.items.set i x } L) := by
    refine ⟨B3, ?_, by simpa using HNd.out.2.2.1, fun ks hks => ?_⟩
    · subst hW3
      have := hrow.setCell (j := i) (kv (ky x)) hcl
      rw [HIA.out]
      simp only
      rw [all_set]
      exact this.keep (Keep.drew Nothing _) fun _ _ _ h => h
    · obtain ⟨h5, h6, h7⟩ := HNd.out.2.2.2 ks hks
      refine ⟨blk_keep h5 K3 fun o h => ?_, h6.keep' K3 fun x o hf h => ?_, h7⟩
      · exact blk_ne hib.choose_spec h5 ty_ok.d h.1.symm
      · obtain ⟨arr, harr⟩ := h6.block ⟨_, hf⟩
        exact blk_ne hib.choose_spec harr ty_ok.f h.1.symm
  have Y3 := blk_keep Y2d.out K3 fun o h => by have := XQ.out; omega
  have KW3 : Hid (Keep (fp TT n r L) w W3) := by
    refine (K2d.out.mono fun _ _ _ h => h.elim).trans K3 ?_
    rintro x o hx ⟨rfl, h1, h2⟩
    refine .inr (.inl ⟨_, _, HIA.out, rfl, by omega, ?_⟩)
    have := HNd.out.2.2.1
    simp only [TT, E]
    omega
  clear hW3 K3 B3 hib hrow HNd X2d Y2d Z2d ck fz2 zc c2 fz xc K2d
  clear f0
  replace Y3 := Lib.hid Y3
  go_wp2_with fail
  refine bodyPost_ret (results_cell_tmp2_row rfl _ _ (q + 1) 138 #[] (0, 0) _ rfl Y3.out Try.underlying138 rfl (by kernel_rfl)) rfl ?_
  exact ⟨rfl, KW3.out, N3.out⟩
end Go.Proofs.Ytfikahgofapobaa.T

namespace Go.Proofs.Ytfikahgofapobaa.T
open Go.RowKit Go.Wb

set_option maxRecDepth 100000 in
set_option maxHeartbeats 4000000 in
theorem set_full {w : World} {b pb po n : Nat} {hr : HRec} {r : NRec It} {L : Lay} (hh : Hdr w b hr) (hp : w.cell? ⟨pb, po, none⟩ = some (ptr n)) (hn : NodeAt TT E w n r L) (hi : r.iso = hr.iso)
    (hlen : r.items.length ≤ 1000000000000) (hs : Sorted ilt r.items) {x : It} {i : Nat} (hloc : Loc r.items (ky x) i false) (hlf : r.kids = none) (hfull : hr.mx = r.items.length) :
    Calls Try.prog 214 #[ptr b, .pointer (some ⟨pb, po, none⟩), pv x] w fun e w' => e = .returned (.tuple #[vv hr.emp, .bool false, .bool true]) ∧ Keep Nothing w w' := by
  have HN := Lib.hid hn
  have HH := Lib.hid hh
  have HP := Lib.hid hp
  have HLOC := Lib.hid hloc
  have HS := Lib.hid hs
  have HI := Lib.hid hi
  have hnw := lt_of_heap hn.1
  have hpw := lt_of_cell hp
  have hbw := lt_of_heap hh
  clear hh hn hp hs hloc hi
  unfold ptr pv kv at *
  go_enter Try.func214, Try.ntmps214
  go_upto_region 1 with (fail)
  refine wp_world ?_
  intro W1 hW1
  generalize hq : w.heap.size = q at *
  have K1 : Hid (Keep Nothing w W1) := by subst hW1; exact ((Keep.refl _ _).al _).al _
  have X1 : Hid (W1.heap[q]? = some (.cells (E.enc x).toArray 140 (0, 0))) := by subst hW1; subst hq; exact blk_alloc _ (heap_alloc_new w _)
  have XQ := Lib.hid hq
  have Y1 : Hid (W1.heap[q + 1]? = some (.cells #[] 138 (0, 0))) := by subst hW1; subst hq; have := heap_alloc_new (w.alloc (.cells (E.enc x).toArray 140)) (.cells #[] 138); rwa [World.size_alloc] at this
  have S1 : W1.heap.size = q + 2 := by subst hW1; rw [World.size_alloc, World.size_alloc, hq]
  clear hW1 hq
  have HN1 : Hid (NodeAt TT E W1 n r L) := by exact HN.out.keep K1.out fun _ _ _ h => h
  have HH1 : Hid (Hdr W1 b hr) := by exact blk_keep HH.out K1.out fun _ h => h
  have hiso := isoLoad_own HH1.out (K1.out.cell' HP.out fun h => h) HN1.out HI.out true
  unfold ptr at hiso
  go_wp2_with fail
  refine hiso.mono ?_
  rintro e w1 ⟨rfl, kd, rfl⟩
  clear hiso
  have K1d : Hid (Keep Nothing w (W1.drewN kd)) := by exact K1.out.drN kd
  have S1d : (W1.drewN kd).heap.size = q + 2 := S1
  have X1d : Hid ((W1.drewN kd).heap[q]? = some (.cells (E.enc x).toArray 140 (0, 0))) := by exact X1.out
  have Y1d : Hid ((W1.drewN kd).heap[q + 1]? = some (.cells #[] 138 (0, 0))) := by exact Y1.out
  clear HN1 HH1 K1 S1 X1 Y1
  generalize W1.drewN kd = W1 at *
  unfold ptr
  go_upto_region 2 with (fail)
  refine wp_world ?_
  intro W2 hW2
  have K2 : Hid (Keep Nothing w W2) := by subst hW2; exact K1d.out.al _
  have X2 : Hid (W2.heap[q]? = some (.cells (E.enc x).toArray 140 (0, 0))) := by subst hW2; exact blk_alloc _ X1d.out
  have Y2 : Hid (W2.heap[q + 1]? = some (.cells #[] 138 (0, 0))) := by subst hW2; exact blk_alloc _ Y1d.out
  have Z2 : Hid (W2.heap[q + 2]? = some (.cells #[.pointer (some ⟨n, 0, none⟩)] 160 (0, 0))) := by subst hW2; rw [← S1d]; exact heap_alloc_new W1 _
  have S2 : W2.heap.size = q + 3 := by subst hW2; rw [World.size_alloc, S1d]
  clear hW2 K1d X1d Y1d S1d
  have HN2 : Hid (NodeAt TT E W2 n r L) := by exact HN.out.keep K2.out fun _ _ _ h => h
  have hse := search_loc (tr := ptr b) HN2.out hlen HS.out HLOC.out
  have kc : W2.cell? ⟨q, 0, none⟩ = some (.string (ky x)) := by have := X2.out; simp only [World.cell?, this]; rfl
  have zc := (blk1 Z2.out).1
  unfold ptr kv at hse
  go_wp2_with fail
  refine hse.mono ?_
  rintro e w1 ⟨rfl, kd, rfl⟩
  clear hse kc zc HN2
  have K2d : Hid (Keep Nothing w (W2.drewN kd)) := by exact K2.out.drN kd
  have S2d : (W2.drewN kd).heap.size = q + 3 := S2
  have X2d : Hid ((W2.drewN kd).heap[q]? = some (.cells (E.enc x).toArray 140 (0, 0))) := by exact X2.out
  have Y2d : Hid ((W2.drewN kd).heap[q + 1]? = some (.cells #[] 138 (0, 0))) := by exact Y2.out
  have Z2d : Hid ((W2.drewN kd).heap[q + 2]? = some (.cells #[.pointer (some ⟨n, 0, none⟩)] 160 (0, 0))) := by exact Z2.out
  clear K2 S2 X2 Y2 Z2
  generalize W2.drewN kd = W at *
  have HNd : Hid (NodeAt TT E W n r L) := by exact HN.out.keep K2d.out fun _ _ _ h => h
  have HHd : Hid (Hdr W b hr) := by exact blk_keep HH.out K2d.out fun _ h => h
  have hlv := leaf_any HNd.out
  rw [hlf] at hlv
  simp only [Option.isNone_none] at hlv
  obtain ⟨c0, c1, c2, c3, fz⟩ := blk4 HNd.out.1
  have x6 := hdr_mx HHd.out
  rw [hfull] at x6
  have zc := (blk1 Z2d.out).1
  have he := hdr_emp HHd.out
  have f0 := field0_hdr (w := W.drew) (b := b) (h := hr) HHd.out
  unfold ptr at hlv
  clear c0 c1 c3 he hlf hfull
  go_wp2_with fail
  refine hlv.mono ?_
  rintro e w1 ⟨rfl, rfl⟩
  clear hlv
  go_wp2_with fail
  refine wp_calm (by kernel_rfl) (by kernel_rfl) rfl ?_
  simp only [List.flatMap_cons, List.flatMap_nil, checks, chk, nilLit, List.cons_append, List.nil_append, List.append_nil, Try.underlying3]
  go_wp2_with fail
  rw [HQ_normal]
  go_wp2_with fail
  refine bodyPost_ret (results_cell_tmp2_row rfl _ _ (q + 1) 138 #[] (0, 0) _ rfl Y2d.out Try.underlying138 rfl (by kernel_rfl)) rfl ?_
  exact ⟨rfl, K2d.out.dr⟩
end Go.Proofs.Ytfikahgofapobaa.T

namespace Go.Proofs.Ytfikahgofapobaa.T
open Go.RowKit Go.Wb

/-- A head is no node's cell. -/
theorem hdr_apart {w : World} {b n o : Nat} {h : HRec} {r : NRec It} {L : Lay} (hh : Hdr w b h) (hn : NodeAt TT E w n r L) (hf : fp TT n r L b o) : False := by
  have t1 : (164 : Nat) ≠ 276 := by decide
  have t2 : (164 : Nat) ≠ 140 := by decide
  have t3 : (164 : Nat) ≠ 279 := by decide
  have t4 : (164 : Nat) ≠ 160 := by decide
  rcases hf with rfl | hf | ⟨hk, hf⟩
  · exact blk_ne hh hn.1 t1 rfl
  · obtain ⟨arr, ha⟩ := hn.2.1.block ⟨_, hf⟩
    exact blk_ne hh ha t2 rfl
  · obtain ⟨ks, hks⟩ := Option.isSome_iff_exists.1 hk
    obtain ⟨h5, h6, _⟩ := hn.2.2.2 ks hks
    rcases hf with rfl | hf
    · exact blk_ne hh h5 t3 rfl
    · obtain ⟨arr, ha⟩ := h6.block ⟨_, hf⟩
      exact blk_ne hh ha t4 rfl

def InsPost (w : World) (n : Nat) (r : NRec It) (L : Lay) (x ep : It) (i : Nat) (e : Ending) (w' : World) : Prop :=
  e = .returned (.tuple #[vv ep, .bool false, .bool false]) ∧ Keep (fp TT n r L) w w' ∧
    ∃ L', NodeAt TT E w' n { r with cnt := r.cnt + 1, items := r.items.take i ++ x :: r.items.drop i } L' ∧
      ∀ b o, b < w.heap.size → fp TT n ({ r with cnt := r.cnt + 1, items := r.items.take i ++ x :: r.items.drop i } : NRec It) L' b o → fp TT n r L b o

set_option maxRecDepth 100000 in
set_option maxHeartbeats 4000000 in
theorem set_leaf {w : World} {b pb po n : Nat} {hr : HRec} {r : NRec It} {L : Lay} (hh : Hdr w b hr) (hp : w.cell? ⟨pb, po, none⟩ = some (ptr n)) (hn : NodeAt TT E w n r L) (hi : r.iso = hr.iso)
    (hlen : r.items.length ≤ 1000000000000) (hs : Sorted ilt r.items) {x : It} {i : Nat} (hloc : Loc r.items (ky x) i false) (hlf : r.kids = none) (hfull : hr.mx ≠ r.items.length) (hc0 : 0 ≤ r.cnt) (hc1 : r.cnt ≤ 4000000000000000000) :
    Calls Try.prog 214 #[ptr b, .pointer (some ⟨pb, po, none⟩), pv x] w (InsPost w n r L x hr.emp i) := by
  have HN := Lib.hid hn
  have HH := Lib.hid hh
  have HP := Lib.hid hp
  have HLOC := Lib.hid hloc
  have HS := Lib.hid hs
  have HI := Lib.hid hi
  have hnw := lt_of_heap hn.1
  have hpw := lt_of_cell hp
  have hbw := lt_of_heap hh
  clear hh hn hp hs hloc hi
  unfold ptr pv kv at *
  go_enter Try.func214, Try.ntmps214
  go_upto_region 1 with (fail)
  refine wp_world ?_
  intro W1 hW1
  generalize hq : w.heap.size = q at *
  have K1 : Hid (Keep Nothing w W1) := by subst hW1; exact ((Keep.refl _ _).al _).al _
  have X1 : Hid (W1.heap[q]? = some (.cells (E.enc x).toArray 140 (0, 0))) := by subst hW1; subst hq; exact blk_alloc _ (heap_alloc_new w _)
  have XQ := Lib.hid hq
  have Y1 : Hid (W1.heap[q + 1]? = some (.cells #[] 138 (0, 0))) := by subst hW1; subst hq; have := heap_alloc_new (w.alloc (.cells (E.enc x).toArray 140)) (.cells #[] 138); rwa [World.size_alloc] at this
  have S1 : W1.heap.size = q + 2 := by subst hW1; rw [World.size_alloc, World.size_alloc, hq]
  clear hW1 hq
  have HN1 : Hid (NodeAt TT E W1 n r L) := by exact HN.out.keep K1.out fun _ _ _ h => h
  have HH1 : Hid (Hdr W1 b hr) := by exact blk_keep HH.out K1.out fun _ h => h
  have hiso := isoLoad_own HH1.out (K1.out.cell' HP.out fun h => h) HN1.out HI.out true
  unfold ptr at hiso
  go_wp2_with fail
  refine hiso.mono ?_
  rintro e w1 ⟨rfl, kd, rfl⟩
  clear hiso
  have K1d : Hid (Keep Nothing w (W1.drewN kd)) := by exact K1.out.drN kd
  have S1d : (W1.drewN kd).heap.size = q + 2 := S1
  have X1d : Hid ((W1.drewN kd).heap[q]? = some (.cells (E.enc x).toArray 140 (0, 0))) := by exact X1.out
  have Y1d : Hid ((W1.drewN kd).heap[q + 1]? = some (.cells #[] 138 (0, 0))) := by exact Y1.out
  clear HN1 HH1 K1 S1 X1 Y1
  generalize W1.drewN kd = W1 at *
  unfold ptr
  go_upto_region 2 with (fail)
  refine wp_world ?_
  intro W2 hW2
  have K2 : Hid (Keep Nothing w W2) := by subst hW2; exact K1d.out.al _
  have X2 : Hid (W2.heap[q]? = some (.cells (E.enc x).toArray 140 (0, 0))) := by subst hW2; exact blk_alloc _ X1d.out
  have Y2 : Hid (W2.heap[q + 1]? = some (.cells #[] 138 (0, 0))) := by subst hW2; exact blk_alloc _ Y1d.out
  have Z2 : Hid (W2.heap[q + 2]? = some (.cells #[.pointer (some ⟨n, 0, none⟩)] 160 (0, 0))) := by subst hW2; rw [← S1d]; exact heap_alloc_new W1 _
  have S2 : W2.heap.size = q + 3 := by subst hW2; rw [World.size_alloc, S1d]
  clear hW2 K1d X1d Y1d S1d
  have HN2 : Hid (NodeAt TT E W2 n r L) := by exact HN.out.keep K2.out fun _ _ _ h => h
  have hse := search_loc (tr := ptr b) HN2.out hlen HS.out HLOC.out
  have kc : W2.cell? ⟨q, 0, none⟩ = some (.string (ky x)) := by have := X2.out; simp only [World.cell?, this]; rfl
  have zc := (blk1 Z2.out).1
  unfold ptr kv at hse
  go_wp2_with fail
  refine hse.mono ?_
  rintro e w1 ⟨rfl, kd, rfl⟩
  clear hse kc zc HN2
  have K2d : Hid (Keep Nothing w (W2.drewN kd)) := by exact K2.out.drN kd
  have S2d : (W2.drewN kd).heap.size = q + 3 := S2
  have X2d : Hid ((W2.drewN kd).heap[q]? = some (.cells (E.enc x).toArray 140 (0, 0))) := by exact X2.out
  have Y2d : Hid ((W2.drewN kd).heap[q + 1]? = some (.cells #[] 138 (0, 0))) := by exact Y2.out
  have Z2d : Hid ((W2.drewN kd).heap[q + 2]? = some (.cells #[.pointer (some ⟨n, 0, none⟩)] 160 (0, 0))) := by exact Z2.out
  clear K2 S2 X2 Y2 Z2
  generalize W2.drewN kd = W at *
  have HNd : Hid (NodeAt TT E W n r L) := by exact HN.out.keep K2d.out fun _ _ _ h => h
  have HHd : Hid (Hdr W b hr) := by exact blk_keep HH.out K2d.out fun _ h => h
  have hlv := leaf_any HNd.out
  rw [hlf] at hlv
  simp only [Option.isNone_none] at hlv
  obtain ⟨c0, c1, c2, c3, fz⟩ := blk4 HNd.out.1
  have x6 := hdr_mx HHd.out
  have hne : ((r.items.length : Int) == hr.mx) = false := by simpa using fun h => hfull h.symm
  have zc := (blk1 Z2d.out).1
  unfold ptr at hlv
  replace hfull := Lib.hid hfull
  clear c0 c1 c3
  go_wp2_with fail
  refine hlv.mono ?_
  rintro e w1 ⟨rfl, rfl⟩
  clear hlv
  go_wp2_with fail
  refine wp_calm (by kernel_rfl) (by kernel_rfl) rfl ?_
  simp only [List.flatMap_cons, List.flatMap_nil, checks, chk, nilLit, List.cons_append, List.nil_append, List.append_nil, Try.underlying3]
  go_wp2_with fail
  rw [HQ_normal]
  go_upto_region 10 with (fail)
  refine wp_world ?_
  intro W3 hW3
  have K3 : Hid (Keep Nothing w W3) := by subst hW3; exact K2d.out.dr
  have S3 : W3.heap.size = q + 3 := by subst hW3; exact S2d
  have X3 : Hid (W3.heap[q]? = some (.cells (E.enc x).toArray 140 (0, 0))) := by subst hW3; exact X2d.out
  have Y3 : Hid (W3.heap[q + 1]? = some (.cells #[] 138 (0, 0))) := by subst hW3; exact Y2d.out
  have Z3 : Hid (W3.heap[q + 2]? = some (.cells #[.pointer (some ⟨n, 0, none⟩)] 160 (0, 0))) := by subst hW3; exact Z2d.out
  have HN3 : Hid (NodeAt TT E W3 n r L) := by exact HN.out.keep K3.out fun _ _ _ h => h
  have HH3 : Hid (Hdr W3 b hr) := by exact blk_keep HH.out K3.out fun _ h => h
  clear hW3 K2d S2d X2d Y2d Z2d HNd HHd c2 fz x6 hne zc
  have he := hdr_emp HH3.out
  have zc := (blk1 Z3.out).1
  obtain ⟨c0, c1, c2, c3, fz⟩ := blk4 HN3.out.1
  clear c0 c1 c3
  unfold kv at he
  refine wp_held (fun w' => w'.cell? ⟨q + 2, 0, none⟩ = some (.pointer (some ⟨n, 0, none⟩)) ∧ w'.cell? ⟨n, 2, none⟩ = some (.slice L.ia r.items.length L.icap)) [0, 1, 4] (by kernel_rfl) (by kernel_rfl) (by kernel_rfl) rfl ⟨zc, c2⟩ ?_
  simp only [segs, readsB, silentB, lenB, checks, List.nil_append]
  go_wp2_with fail
  refine held_world ?_
  intro W4 hW4
  have K4 : Hid (Keep Nothing w W4) := by subst hW4; exact (K3.out.al _).dr
  have N4 : Hid (W4.heap[q + 3]? = some (.cells (E.enc hr.emp).toArray 140 (0, 0))) := by subst hW4; rw [← S3]; exact heap_alloc_new W3 _
  have S4 : W4.heap.size = q + 4 := by subst hW4; show (W3.alloc _).heap.size = _; rw [World.size_alloc, S3]
  have X4 : Hid (W4.heap[q]? = some (.cells (E.enc x).toArray 140 (0, 0))) := by subst hW4; exact blk_alloc _ X3.out
  have Y4 : Hid (W4.heap[q + 1]? = some (.cells #[] 138 (0, 0))) := by subst hW4; exact blk_alloc _ Y3.out
  have Z4 : Hid (W4.heap[q + 2]? = some (.cells #[.pointer (some ⟨n, 0, none⟩)] 160 (0, 0))) := by subst hW4; exact blk_alloc _ Z3.out
  clear hW4 K3 X3 Y3 Z3 HN3 HH3 he zc c2 fz
  have HN4 : Hid (NodeAt TT E W4 n r L) := by exact HN.out.keep K4.out fun _ _ _ h => h
  have zc := (blk1 Z4.out).1
  obtain ⟨c0, c1, c2, c3, fz⟩ := blk4 HN4.out.1
  clear c0 c1 c3
  refine held_next ⟨zc, c2⟩ ?_
  refine wpList_append_any rfl _ _ _ rfl 140 1 16 Try.underlying273 ⟨by kernel_rfl, by kernel_rfl, by kernel_rfl⟩ L.ia r.items.length L.icap (E.all r.items) rfl HN4.out.2.1 (E.all_len _) ⟨q + 3, 0, none⟩ 1 1 (E.enc hr.emp) ?_ (E.len _) ?_ (E.one _) (by omega) HN4.out.2.2.1 (by simp only [maxLen]; omega) (by omega) ?_
  · rfl
  · exact new_cells N4.out
  intro a' cap' W5 hG
  have GR := Lib.hid hG
  have hRW : Hid (∀ y o, rowFp L.ia (L.icap * TT.s) y o → y < q ∧ y ≠ n) := by
    intro y o hf
    refine ⟨XQ.out ▸ rowFp_lt HN.out.2.1 hf, fun e => ?_⟩
    obtain ⟨arr, ha⟩ := HN.out.2.1.block ⟨_, hf⟩
    exact blk_ne HN.out.1 ha ty_ok.a e.symm
  have hGq : Hid (∀ y o, (∃ x z, L.ia = some ⟨x, z, none⟩ ∧ y = x ∧ z + r.items.length * 1 ≤ o ∧ o < z + L.icap * 1) → y < q ∧ y ≠ n) := by
    exact fun y o h => hRW.out y o (grow_row HN.out.2.2.1 h)
  have B4 := HN4.out.1
  have B5 : Hid (W5.heap[n]? = some (.cells #[.int .u64 r.iso, .int .i64 r.cnt, .slice L.ia r.items.length L.icap, kidsVal r.kids L.cb] 276 (0, 0))) := by
    exact blk_keep B4 hG.keep fun o h => (hGq.out n o h).2 rfl
  have X5 : Hid (W5.heap[q]? = some (.cells (E.enc x).toArray 140 (0, 0))) := by exact blk_keep X4.out hG.keep fun o h => by have := (hGq.out q o h).1; omega
  have Y5 : Hid (W5.heap[q + 1]? = some (.cells #[] 138 (0, 0))) := by exact blk_keep Y4.out hG.keep fun o h => by have := (hGq.out _ o h).1; omega
  have Z5 : Hid (W5.heap[q + 2]? = some (.cells #[.pointer (some ⟨n, 0, none⟩)] 160 (0, 0))) := by exact blk_keep Z4.out hG.keep fun o h => by have := (hGq.out _ o h).1; omega
  clear hG B4 zc c2 fz
  have zc := (blk1 Z5.out).1
  obtain ⟨c0, c1, c2, c3, fz⟩ := blk4 B5.out
  clear c0 c1 c3
  refine held_next ⟨zc, c2⟩ ?_
  simp only [Act.put]
  go_wp2_with fail
  refine held_world ?_
  intro W6 hW6
  refine held_end ?_ ?_
  · refine ⟨?_, ?_, ?_, trivial⟩
    · exact ⟨.pointer (some ⟨n, 0, none⟩), fun w' hS => by simp [execOp, hS.1, go_sem]⟩
    · exact ⟨.pointer (some ⟨n, 0, none⟩), fun w' hS => by simp [execOp, hS.1, go_sem]⟩
    · exact ⟨.slice L.ia r.items.length L.icap, fun w' hS => by simp [execOp, hS.2, go_sem]⟩
  have hform : ∃ jb jo, a' = some ⟨jb, jo, none⟩ := by
    obtain ⟨jb, jo, h1, _⟩ := GR.out.row.form (by rw [List.length_append, E.len]; have := E.pos; omega)
    exact ⟨jb, jo, h1⟩
  obtain ⟨jb, jo, hja⟩ := hform
  subst hja
  obtain ⟨fc, hfc⟩ : ∃ f : Unit → Nat, f () = cap' := ⟨fun _ => cap', rfl⟩
  subst hfc
  have hcap' := GR.out.cap
  have hjb : jb < q ∨ jb = q + 4 := by
    rcases GR.out.fp jb jo ⟨jb, jo, rfl, rfl, Nat.le_refl _, by omega⟩ with h | ⟨h, _⟩
    · exact .inl (hRW.out jb jo h).1
    · exact .inr (by omega)
  obtain ⟨arr5, harr5⟩ := GR.out.row.blk
  have hjn : jb ≠ n := (blk_ne B5.out harr5 ty_ok.a).symm
  have K6 : Hid (Keep (fp TT n r L) w W6) := by
    subst hW6
    refine Keep.set ?_ _ _ _ fun _ => .inl rfl
    exact (K4.out.mono fun _ _ _ h => h.elim).trans GR.out.keep fun y o _ h => .inr (.inl (grow_row HN.out.2.2.1 h))
  have B6 : Hid (W6.heap[n]? = some (.cells #[.int .u64 r.iso, .int .i64 r.cnt, .slice (some ⟨jb, jo, none⟩) (r.items.length + 1) (fc ()), kidsVal r.kids L.cb] 276 (0, 0))) := by
    subst hW6; exact blk_set _ B5.out
  have X6 : Hid (W6.heap[q]? = some (.cells (E.enc x).toArray 140 (0, 0))) := by subst hW6; exact blk_far _ X5.out (by omega)
  have Y6 : Hid (W6.heap[q + 1]? = some (.cells #[] 138 (0, 0))) := by subst hW6; exact blk_far _ Y5.out (by omega)
  have Z6 : Hid (W6.heap[q + 2]? = some (.cells #[.pointer (some ⟨n, 0, none⟩)] 160 (0, 0))) := by subst hW6; exact blk_far _ Z5.out (by omega)
  have R6 : Hid (Row W6 TT.pair TT.s (some ⟨jb, jo, none⟩) (fc ()) (E.all r.items ++ E.enc hr.emp)) := by
    have h1 := GR.out.row
    subst hW6
    refine h1.keep' (S := fun y o => y = n ∧ o = 2) ((Keep.refl _ _).set _ _ _ fun _ => ⟨rfl, rfl⟩) fun y o hf h => ?_
    exact hjn ((rowFp_some hf).1.symm.trans h.1)
  clear hW6 K4 N4 X4 Y4 Z4 HN4 X5 Y5 Z5 B5 zc c2 fz harr5 arr5
  have hil : i ≤ r.items.length := HLOC.out.1
  obtain ⟨c0, c1, c2, c3, fz⟩ := blk4 B6.out
  have zc := (blk1 Z6.out).1
  have hcn : ¬ (fc ()) = i := by omega
  clear c0 c1 c3
  have hxs : Hid ((E.all r.items ++ E.enc hr.emp).length = (r.items.length + 1) * 1) := by
    have : (E.all r.items ++ E.enc hr.emp).length = (r.items.length + 1) * 1 := by rw [List.length_append, E.all_len, E.len, Nat.add_mul, Nat.one_mul]; rfl
    exact this
  have hone : Hid (∀ v ∈ E.all r.items ++ E.enc hr.emp, v.oneCell' = true) := by
    intro v hv
    rcases List.mem_append.1 hv with h | h
    · unfold Enc.all at h
      obtain ⟨y, _, hy⟩ := List.mem_flatMap.1 h
      exact E.one y v hy
    · exact E.one _ v h
  have R6d : Hid (Row W6.drew 140 1 (some ⟨jb, jo, none⟩) (fc ()) (E.all r.items ++ E.enc hr.emp)) := by exact R6.out.keep (Keep.drew Nothing _) fun _ _ _ h => h
  go_wp2_with fail
  refine wp_calm (by kernel_rfl) (by kernel_rfl) rfl ?_
  simp only [List.flatMap_cons, List.flatMap_nil, checks, chk, nilLit, List.cons_append, List.nil_append, List.append_nil, Try.underlying3]
  go_wp2_with fail
  case' inl =>
    obtain ⟨rv, W7, hr7, hk7, hrow7⟩ := run_copyRoom (P := Try.prog) W6.drew 273 3 140 1 Try.underlying273 (by kernel_rfl) R6d.out hxs.out hil (some ⟨jb, jo, none⟩) (some ⟨jb, jo + i, none⟩) (fun h => absurd h (by omega)) (fun h => absurd h (by omega)) 0 1 hone.out
    simp only [Nat.add_sub_add_right] at hr7
    rw [hr7]
  case' inr =>
    obtain ⟨rv, W7, hr7, hk7, hrow7⟩ := run_copyRoom (P := Try.prog) W6.drew 273 3 140 1 Try.underlying273 (by kernel_rfl) R6d.out hxs.out hil (some ⟨jb, jo + (i + 1), none⟩) (some ⟨jb, jo + i, none⟩) (fun _ => by simp) (fun _ => by simp) (fc () - (i + 1)) (fc () - i) hone.out
    simp only [Nat.add_sub_add_right] at hr7
    rw [hr7]
  all_goals
    simp only [Result.andThen_ok]
    replace hrow7 := Lib.hid hrow7
    replace hk7 := Lib.hid hk7
    clear hr7 zc c2 fz
    have K7 : Hid (Keep (fp TT n r L) w W7) := by
      refine K6.out.dr.trans hk7.out ?_
      rintro y o hy ⟨rfl, h1, h2⟩
      rcases GR.out.fp y o ⟨y, jo, rfl, rfl, by omega, by have := hcap'; simp only [TT, E] at *; omega⟩ with h | ⟨h, _⟩
      · exact .inr (.inl h)
      · have := XQ.out; omega
    have B7 : Hid (W7.heap[n]? = some (.cells #[.int .u64 r.iso, .int .i64 r.cnt, .slice (some ⟨jb, jo, none⟩) (r.items.length + 1) (fc ()), kidsVal r.kids L.cb] 276 (0, 0))) := by
      exact blk_keep (blk_drew B6.out) hk7.out fun o e => hjn e.1.symm
    have X7 : Hid (W7.heap[q]? = some (.cells (E.enc x).toArray 140 (0, 0))) := by exact blk_keep (blk_drew X6.out) hk7.out fun o e => by have := e.1; omega
    have Y7 : Hid (W7.heap[q + 1]? = some (.cells #[] 138 (0, 0))) := by exact blk_keep (blk_drew Y6.out) hk7.out fun o e => by have := e.1; omega
    have Z7 : Hid (W7.heap[q + 2]? = some (.cells #[.pointer (some ⟨n, 0, none⟩)] 160 (0, 0))) := by exact blk_keep (blk_drew Z6.out) hk7.out fun o e => by have := e.1; omega
    have hxl : Hid ((E.all r.items ++ E.enc hr.emp).length = (r.items.length + 1) * 1) := by exact hxs.out
    clear K6 B6 X6 Y6 Z6 R6 R6d hxs
    obtain ⟨c0, c1, c2, c3, fz⟩ := blk4 B7.out
    have zc := (blk1 Z7.out).1
    have xc : W7.cell? ⟨q, 0, none⟩ = some (.string (ky x)) := by have := X7.out; simp only [World.cell?, this]; rfl
    have fz2 := hrow7.out.frozen
    obtain ⟨ov, hov⟩ := hrow7.out.there (i := i) (by have := hcap'; omega)
    clear c0 c1 c3
    go_wp2_with fail
    rw [HQ_normal]
    go_wp2_with fail
    refine wp_calm (by kernel_rfl) (by kernel_rfl) rfl ?_
    simp only [List.flatMap_cons, List.flatMap_nil, checks, chk, nilLit, List.cons_append, List.nil_append, List.append_nil]
    go_wp2_with fail
    rw [HQ_normal]
    go_upto_region 13 with (fail)
    refine wp_world ?_
    intro W8 hW8
    have R8 : Hid (Row W8 TT.pair TT.s (some ⟨jb, jo, none⟩) (fc ()) (E.all (r.items.take i ++ x :: r.items.drop i))) := by
      have h1 := hrow7.out.setCells (E.enc x) (k := i * 1) (by
        have := hxl.out
        rw [E.len]
        simp only [List.length_append, List.length_take, List.length_drop, E.len, E.all_len] at *
        simp only [E] at *
        omega)
      have h2 := ins_cells E r.items x (E.enc hr.emp) hil (E.len _)
      simp only [show E.s = 1 from rfl] at h2
      simp only [Nat.mul_one] at h1 h2
      rw [← h2]
      subst hW8
      exact h1.keep (Keep.drew Nothing _) fun _ _ _ h => h
    have K8 : Hid (Keep (fp TT n r L) w W8) := by
      have hS : ∀ o, jo + i ≤ o → o < jo + (i + 1) → jb < w.heap.size → fp TT n r L jb o := fun o h1 h2 hlt => by
        rcases GR.out.fp jb o ⟨jb, jo, rfl, rfl, by omega, by have := hcap'; simp only [TT, E] at *; omega⟩ with h | ⟨h, _⟩
        · exact .inr (.inl h)
        · have := XQ.out; omega
      subst hW8
      exact (K7.out.set _ _ _ (hS _ (by omega) (by omega))).dr
    have B8 : Hid (W8.heap[n]? = some (.cells #[.int .u64 r.iso, .int .i64 r.cnt, .slice (some ⟨jb, jo, none⟩) (r.items.length + 1) (fc ()), kidsVal r.kids L.cb] 276 (0, 0))) := by
      subst hW8; exact blk_drew (blk_far _ B7.out hjn.symm)
    have Y8 : Hid (W8.heap[q + 1]? = some (.cells #[] 138 (0, 0))) := by
      subst hW8; exact blk_drew (blk_far _ Y7.out (by omega))
    have Z8 : Hid (W8.heap[q + 2]? = some (.cells #[.pointer (some ⟨n, 0, none⟩)] 160 (0, 0))) := by
      subst hW8; exact blk_drew (blk_far _ Z7.out (by omega))
    clear hW8 K7 B7 Y7 Z7 X7 hrow7 hk7 zc c2 fz xc fz2 hov
    obtain ⟨c0, c1, c2, c3, fz⟩ := blk4 B8.out
    have zc := (blk1 Z8.out).1
    have hb1 : -9223372036854775808 ≤ r.cnt + 1 ∧ r.cnt + 1 ≤ 9223372036854775807 := by omega
    clear c0 c2 c3
    go_upto_region 14 with (fail)
    refine wp_world ?_
    intro W9 hW9
    have hlen9 : (r.items.take i ++ x :: r.items.drop i).length = r.items.length + 1 := by simp; omega
    have B9 : Hid (W9.heap[n]? = some (.cells #[.int .u64 r.iso, .int .i64 (r.cnt + 1), .slice (some ⟨jb, jo, none⟩) (r.items.length + 1) (fc ()), kidsVal r.kids L.cb] 276 (0, 0))) := by
      subst hW9; exact blk_set _ B8.out
    have K9 : Hid (Keep (fp TT n r L) w W9) := by subst hW9; exact K8.out.set _ _ _ fun _ => .inl rfl
    have Y9 : Hid (W9.heap[q + 1]? = some (.cells #[] 138 (0, 0))) := by subst hW9; exact blk_far _ Y8.out (by omega)
    have R9 : Hid (Row W9 TT.pair TT.s (some ⟨jb, jo, none⟩) (fc ()) (E.all (r.items.take i ++ x :: r.items.drop i))) := by
      subst hW9
      refine R8.out.keep' (S := fun y o => y = n ∧ o = 1) ((Keep.refl _ _).set _ _ _ fun _ => ⟨rfl, rfl⟩) fun y o hf h => ?_
      exact hjn ((rowFp_some hf).1.symm.trans h.1)
    clear hW9 B8 K8 Y8 Z8 R8 zc c1 fz
    have H9 : Hid (Hdr W9 b hr) := by exact blk_keep HH.out K9.out fun o hf => hdr_apart HH.out HN.out hf
    have he := hdr_emp H9.out
    have f0 := field0_hdr (w := W9) (b := b) (h := hr) H9.out
    unfold kv at he
    go_wp2_with fail
    refine bodyPost_ret (results_cell_tmp2_row rfl _ _ (q + 1) 138 #[] (0, 0) _ rfl Y9.out Try.underlying138 rfl (by kernel_rfl)) rfl ?_
    refine ⟨rfl, K9.out, ⟨some ⟨jb, jo, none⟩, fc (), L.cb, none, 0⟩, ⟨?_, R9.out, ?_, ?_⟩, ?_⟩
    · simp only [hlen9]; exact B9.out
    · simp only [hlen9]; have := hcap'; omega
    · intro ks hks; rw [hlf] at hks; cases hks
    · rintro y o hy (rfl | hf | ⟨hk, _⟩)
      · exact .inl rfl
      · rcases GR.out.fp y o hf with h | ⟨h, _⟩
        · exact .inr (.inl h)
        · have := XQ.out; omega
      · simp only [hlf] at hk; cases hk
end Go.Proofs.Ytfikahgofapobaa.T

namespace Go.Proofs.Ytfikahgofapobaa.T
open Go.RowKit Go.Wb

/-- What a call below leaves, where it doesn't ask for a split. -/
def DownPost (w W : World) (n : Nat) (r : NRec It) (L : Lay) (G : It → Bool → World → World → Prop) (e : Ending) (W' : World) : Prop :=
  ∃ y rep, e = .returned (.tuple #[vv y, .bool rep, .bool false]) ∧ Keep (fun b _ => b < w.heap.size) W W' ∧ NodeAt TT E W' n r L ∧ G y rep W W'
def GoPost (w : World) (n : Nat) (r : NRec It) (L : Lay) (G : It → Bool → World → World → Prop) (e : Ending) (w' : World) : Prop :=
  ∃ W W' y rep, Keep Nothing w W ∧ G y rep W W' ∧ e = .returned (.tuple #[vv y, .bool rep, .bool false]) ∧ Keep (fun b _ => b < w.heap.size) W W' ∧
    Keep (fun b o => (b = n ∧ o = 1) ∨ (w.heap.size ≤ b ∧ b < W.heap.size)) W' w' ∧ NodeAt TT E w' n { r with cnt := if rep then r.cnt else r.cnt + 1 } L

set_option maxRecDepth 100000 in
set_option maxHeartbeats 4000000 in
theorem set_inner_go {w : World} {b pb po n : Nat} {hr : HRec} {r : NRec It} {L : Lay} (hh : Hdr w b hr) (hp : w.cell? ⟨pb, po, none⟩ = some (ptr n)) (hn : NodeAt TT E w n r L) (hi : r.iso = hr.iso)
    (hlen : r.items.length ≤ 1000000000000) (hs : Sorted ilt r.items) {x : It} {i : Nat} (hloc : Loc r.items (ky x) i false) (hc0 : 0 ≤ r.cnt) (hc1 : r.cnt ≤ 4000000000000000000)
    {ks : List Nat} (hks : r.kids = some ks) {kb ko : Nat} (hka : L.ka = some ⟨kb, ko, none⟩) (hik : i < ks.length) (G : It → Bool → World → World → Prop)
    (hcall : ∀ W, Keep Nothing w W → Calls Try.prog 214 #[ptr b, .pointer (some ⟨kb, ko + i, none⟩), pv x] W (DownPost w W n r L G)) :
    Calls Try.prog 214 #[ptr b, .pointer (some ⟨pb, po, none⟩), pv x] w (GoPost w n r L G) := by
  have HKS := Lib.hid hks
  have HKA := Lib.hid hka
  have HCALL := Lib.hid hcall
  clear hks hka hcall
  have HN := Lib.hid hn
  have HH := Lib.hid hh
  have HP := Lib.hid hp
  have HLOC := Lib.hid hloc
  have HS := Lib.hid hs
  have HI := Lib.hid hi
  have hnw := lt_of_heap hn.1
  have hpw := lt_of_cell hp
  have hbw := lt_of_heap hh
  clear hh hn hp hs hloc hi
  unfold ptr pv kv at *
  go_enter Try.func214, Try.ntmps214
  go_upto_region 1 with (fail)
  refine wp_world ?_
  intro W1 hW1
  generalize hq : w.heap.size = q at *
  have K1 : Hid (Keep Nothing w W1) := by subst hW1; exact ((Keep.refl _ _).al _).al _
  have X1 : Hid (W1.heap[q]? = some (.cells (E.enc x).toArray 140 (0, 0))) := by subst hW1; subst hq; exact blk_alloc _ (heap_alloc_new w _)
  have XQ := Lib.hid hq
  have Y1 : Hid (W1.heap[q + 1]? = some (.cells #[] 138 (0, 0))) := by subst hW1; subst hq; have := heap_alloc_new (w.alloc (.cells (E.enc x).toArray 140)) (.cells #[] 138); rwa [World.size_alloc] at this
  have S1 : W1.heap.size = q + 2 := by subst hW1; rw [World.size_alloc, World.size_alloc, hq]
  clear hW1 hq
  have HN1 : Hid (NodeAt TT E W1 n r L) := by exact HN.out.keep K1.out fun _ _ _ h => h
  have HH1 : Hid (Hdr W1 b hr) := by exact blk_keep HH.out K1.out fun _ h => h
  have hiso := isoLoad_own HH1.out (K1.out.cell' HP.out fun h => h) HN1.out HI.out true
  unfold ptr at hiso
  go_wp2_with fail
  refine hiso.mono ?_
  rintro e w1 ⟨rfl, kd, rfl⟩
  clear hiso
  have K1d : Hid (Keep Nothing w (W1.drewN kd)) := by exact K1.out.drN kd
  have S1d : (W1.drewN kd).heap.size = q + 2 := S1
  have X1d : Hid ((W1.drewN kd).heap[q]? = some (.cells (E.enc x).toArray 140 (0, 0))) := by exact X1.out
  have Y1d : Hid ((W1.drewN kd).heap[q + 1]? = some (.cells #[] 138 (0, 0))) := by exact Y1.out
  clear HN1 HH1 K1 S1 X1 Y1
  generalize W1.drewN kd = W1 at *
  unfold ptr
  go_upto_region 2 with (fail)
  refine wp_world ?_
  intro W2 hW2
  have K2 : Hid (Keep Nothing w W2) := by subst hW2; exact K1d.out.al _
  have X2 : Hid (W2.heap[q]? = some (.cells (E.enc x).toArray 140 (0, 0))) := by subst hW2; exact blk_alloc _ X1d.out
  have Y2 : Hid (W2.heap[q + 1]? = some (.cells #[] 138 (0, 0))) := by subst hW2; exact blk_alloc _ Y1d.out
  have Z2 : Hid (W2.heap[q + 2]? = some (.cells #[.pointer (some ⟨n, 0, none⟩)] 160 (0, 0))) := by subst hW2; rw [← S1d]; exact heap_alloc_new W1 _
  have S2 : W2.heap.size = q + 3 := by subst hW2; rw [World.size_alloc, S1d]
  clear hW2 K1d X1d Y1d S1d
  have HN2 : Hid (NodeAt TT E W2 n r L) := by exact HN.out.keep K2.out fun _ _ _ h => h
  have hse := search_loc (tr := ptr b) HN2.out hlen HS.out HLOC.out
  have kc : W2.cell? ⟨q, 0, none⟩ = some (.string (ky x)) := by have := X2.out; simp only [World.cell?, this]; rfl
  have zc := (blk1 Z2.out).1
  unfold ptr kv at hse
  go_wp2_with fail
  refine hse.mono ?_
  rintro e w1 ⟨rfl, kd, rfl⟩
  clear hse kc zc HN2
  have K2d : Hid (Keep Nothing w (W2.drewN kd)) := by exact K2.out.drN kd
  have S2d : (W2.drewN kd).heap.size = q + 3 := S2
  have X2d : Hid ((W2.drewN kd).heap[q]? = some (.cells (E.enc x).toArray 140 (0, 0))) := by exact X2.out
  have Y2d : Hid ((W2.drewN kd).heap[q + 1]? = some (.cells #[] 138 (0, 0))) := by exact Y2.out
  have Z2d : Hid ((W2.drewN kd).heap[q + 2]? = some (.cells #[.pointer (some ⟨n, 0, none⟩)] 160 (0, 0))) := by exact Z2.out
  clear K2 S2 X2 Y2 Z2
  generalize W2.drewN kd = W at *
  have HNd : Hid (NodeAt TT E W n r L) := by exact HN.out.keep K2d.out fun _ _ _ h => h
  have HHd : Hid (Hdr W b hr) := by exact blk_keep HH.out K2d.out fun _ h => h
  have hlv := leaf_any HNd.out
  rw [HKS.out] at hlv
  simp only [Option.isNone_some] at hlv
  obtain ⟨c0, c1, c2, c3, fz⟩ := blk4 HNd.out.1
  rw [HKS.out] at c3
  obtain ⟨g1, g2, g3⟩ := HNd.out.2.2.2 ks HKS.out
  rw [HKA.out] at g1
  obtain ⟨g4, fz3⟩ := blk1 g1
  have zc := (blk1 Z2d.out).1
  have xc : W.drew.cell? ⟨q, 0, none⟩ = some (.string (ky x)) := by have : W.drew.heap[q]? = _ := X2d.out; simp only [World.cell?, this]; rfl
  have hcl := HCALL.out W.drew K2d.out.dr
  unfold ptr at hlv
  simp only [kidsVal, ptr] at c3
  replace hcl := Lib.hid hcl
  clear c0 c1 c2 g1 g2
  go_wp2_with fail
  refine hlv.mono ?_
  rintro e w1 ⟨rfl, rfl⟩
  clear hlv
  go_wp2_with fail
  refine wp_calm (by kernel_rfl) (by kernel_rfl) rfl ?_
  simp only [List.flatMap_cons, List.flatMap_nil, checks, chk, nilLit, List.cons_append, List.nil_append, List.append_nil]
  go_wp2_with fail
  refine hcl.out.mono ?_
  rintro e W3 ⟨y, rep, rfl, hK3, hN3, hG3⟩
  have HN3 := Lib.hid hN3
  have HG3 := Lib.hid hG3
  have HK3 := Lib.hid hK3
  have Y3 : Hid (W3.heap[q + 1]? = some (.cells #[] 138 (0, 0))) := by exact blk_keep (blk_drew Y2d.out) hK3 fun o h => by have := XQ.out; omega
  have Z3 : Hid (W3.heap[q + 2]? = some (.cells #[.pointer (some ⟨n, 0, none⟩)] 160 (0, 0))) := by exact blk_keep (blk_drew Z2d.out) hK3 fun o h => by have := XQ.out; omega
  have S3 : q + 3 ≤ W3.heap.size := by have := hK3.size; have h2 : W.drew.heap.size = q + 3 := S2d; omega
  clear hN3 hG3 hK3 c3 fz g4 fz3 zc xc hcl
  obtain ⟨c0, c1, c2, c3, fz⟩ := blk4 HN3.out.1
  have zc := (blk1 Z3.out).1
  have hb1 : -9223372036854775808 ≤ r.cnt + 1 ∧ r.cnt + 1 ≤ 9223372036854775807 := by omega
  clear c0 c2 c3
  unfold vv
  go_wp2_with fail
  rw [HQ_normal]
  cases rep with
  | true =>
    go_wp2_with fail
    refine wp_world2 ?_
    intro W4 hW4
    have K4 : Keep (fun b o => (b = n ∧ o = 1) ∨ (w.heap.size ≤ b ∧ b < W.drew.heap.size)) W3 W4 := by
      subst hW4; exact Keep.refl _ _
    have Y4 : W4.heap[q + 1]? = some (.cells #[] 138 (0, 0)) := by
      subst hW4; exact Y3.out
    refine bodyPost_ret (results_cell_tmp2_row rfl _ _ (q + 1) 138 #[] (0, 0) _ rfl Y4 Try.underlying138 rfl (by kernel_rfl)) rfl ?_
    refine ⟨W.drew, W3, y, true, K2d.out.dr, HG3.out, rfl, HK3.out, K4, ?_⟩
    subst hW4; exact HN3.out
  | false =>
    go_wp2_with fail
    refine wp_world2 ?_
    intro W4 hW4
    have K4 : Keep (fun b o => (b = n ∧ o = 1) ∨ (w.heap.size ≤ b ∧ b < W.drew.heap.size)) W3 W4 := by
      subst hW4; refine (Keep.refl _ _).set _ _ _ ?_; exact fun _ => .inl ⟨rfl, rfl⟩
    have Y4 : W4.heap[q + 1]? = some (.cells #[] 138 (0, 0)) := by
      subst hW4; exact blk_far _ Y3.out (by omega)
    refine bodyPost_ret (results_cell_tmp2_row rfl _ _ (q + 1) 138 #[] (0, 0) _ rfl Y4 Try.underlying138 rfl (by kernel_rfl)) rfl ?_
    refine ⟨W.drew, W3, y, false, K2d.out.dr, HG3.out, rfl, HK3.out, K4, ?_⟩
    subst hW4
    refine HN3.out.reset ty_ok ?_ (blk_set _ HN3.out.1)
    refine (Keep.refl _ _).set _ _ _ ?_; exact fun _ => rfl
end Go.Proofs.Ytfikahgofapobaa.T

namespace Go.Proofs.Ytfikahgofapobaa.T
open Go.RowKit Go.Wb

/-- A call below has asked for a split. -/
def AskPost (W : World) (ep : It) (e : Ending) (W' : World) : Prop := e = .returned (.tuple #[vv ep, .bool false, .bool true]) ∧ Keep Nothing W W'

set_option maxRecDepth 100000 in
set_option maxHeartbeats 4000000 in
theorem set_inner_full {w : World} {b pb po n : Nat} {hr : HRec} {r : NRec It} {L : Lay} (hh : Hdr w b hr) (hp : w.cell? ⟨pb, po, none⟩ = some (ptr n)) (hn : NodeAt TT E w n r L) (hi : r.iso = hr.iso)
    (hlen : r.items.length ≤ 1000000000000) (hs : Sorted ilt r.items) {x : It} {i : Nat} (hloc : Loc r.items (ky x) i false) (hfull : hr.mx = r.items.length)
    {ks : List Nat} (hks : r.kids = some ks) {kb ko : Nat} (hka : L.ka = some ⟨kb, ko, none⟩) (hik : i < ks.length)
    (hcall : ∀ W, Keep Nothing w W → Calls Try.prog 214 #[ptr b, .pointer (some ⟨kb, ko + i, none⟩), pv x] W (AskPost W hr.emp)) :
    Calls Try.prog 214 #[ptr b, .pointer (some ⟨pb, po, none⟩), pv x] w (AskPost w hr.emp) := by
  have HKS := Lib.hid hks
  have HKA := Lib.hid hka
  have HCALL := Lib.hid hcall
  have HF := Lib.hid hfull
  clear hks hka hcall hfull
  have HN := Lib.hid hn
  have HH := Lib.hid hh
  have HP := Lib.hid hp
  have HLOC := Lib.hid hloc
  have HS := Lib.hid hs
  have HI := Lib.hid hi
  have hnw := lt_of_heap hn.1
  have hpw := lt_of_cell hp
  have hbw := lt_of_heap hh
  clear hh hn hp hs hloc hi
  unfold ptr pv kv at *
  go_enter Try.func214, Try.ntmps214
  go_upto_region 1 with (fail)
  refine wp_world ?_
  intro W1 hW1
  generalize hq : w.heap.size = q at *
  have K1 : Hid (Keep Nothing w W1) := by subst hW1; exact ((Keep.refl _ _).al _).al _
  have X1 : Hid (W1.heap[q]? = some (.cells (E.enc x).toArray 140 (0, 0))) := by subst hW1; subst hq; exact blk_alloc _ (heap_alloc_new w _)
  have XQ := Lib.hid hq
  have Y1 : Hid (W1.heap[q + 1]? = some (.cells #[] 138 (0, 0))) := by subst hW1; subst hq; have := heap_alloc_new (w.alloc (.cells (E.enc x).toArray 140)) (.cells #[] 138); rwa [World.size_alloc] at this
  have S1 : W1.heap.size = q + 2 := by subst hW1; rw [World.size_alloc, World.size_alloc, hq]
  clear hW1 hq
  have HN1 : Hid (NodeAt TT E W1 n r L) := by exact HN.out.keep K1.out fun _ _ _ h => h
  have HH1 : Hid (Hdr W1 b hr) := by exact blk_keep HH.out K1.out fun _ h => h
  have hiso := isoLoad_own HH1.out (K1.out.cell' HP.out fun h => h) HN1.out HI.out true
  unfold ptr at hiso
  go_wp2_with fail
  refine hiso.mono ?_
  rintro e w1 ⟨rfl, kd, rfl⟩
  clear hiso
  have K1d : Hid (Keep Nothing w (W1.drewN kd)) := by exact K1.out.drN kd
  have S1d : (W1.drewN kd).heap.size = q + 2 := S1
  have X1d : Hid ((W1.drewN kd).heap[q]? = some (.cells (E.enc x).toArray 140 (0, 0))) := by exact X1.out
  have Y1d : Hid ((W1.drewN kd).heap[q + 1]? = some (.cells #[] 138 (0, 0))) := by exact Y1.out
  clear HN1 HH1 K1 S1 X1 Y1
  generalize W1.drewN kd = W1 at *
  unfold ptr
  go_upto_region 2 with (fail)
  refine wp_world ?_
  intro W2 hW2
  have K2 : Hid (Keep Nothing w W2) := by subst hW2; exact K1d.out.al _
  have X2 : Hid (W2.heap[q]? = some (.cells (E.enc x).toArray 140 (0, 0))) := by subst hW2; exact blk_alloc _ X1d.out
  have Y2 : Hid (W2.heap[q + 1]? = some (.cells #[] 138 (0, 0))) := by subst hW2; exact blk_alloc _ Y1d.out
  have Z2 : Hid (W2.heap[q + 2]? = some (.cells #[.pointer (some ⟨n, 0, none⟩)] 160 (0, 0))) := by subst hW2; rw [← S1d]; exact heap_alloc_new W1 _
  have S2 : W2.heap.size = q + 3 := by subst hW2; rw [World.size_alloc, S1d]
  clear hW2 K1d X1d Y1d S1d
  have HN2 : Hid (NodeAt TT E W2 n r L) := by exact HN.out.keep K2.out fun _ _ _ h => h
  have hse := search_loc (tr := ptr b) HN2.out hlen HS.out HLOC.out
  have kc : W2.cell? ⟨q, 0, none⟩ = some (.string (ky x)) := by have := X2.out; simp only [World.cell?, this]; rfl
  have zc := (blk1 Z2.out).1
  unfold ptr kv at hse
  go_wp2_with fail
  refine hse.mono ?_
  rintro e w1 ⟨rfl, kd, rfl⟩
  clear hse kc zc HN2
  have K2d : Hid (Keep Nothing w (W2.drewN kd)) := by exact K2.out.drN kd
  have S2d : (W2.drewN kd).heap.size = q + 3 := S2
  have X2d : Hid ((W2.drewN kd).heap[q]? = some (.cells (E.enc x).toArray 140 (0, 0))) := by exact X2.out
  have Y2d : Hid ((W2.drewN kd).heap[q + 1]? = some (.cells #[] 138 (0, 0))) := by exact Y2.out
  have Z2d : Hid ((W2.drewN kd).heap[q + 2]? = some (.cells #[.pointer (some ⟨n, 0, none⟩)] 160 (0, 0))) := by exact Z2.out
  clear K2 S2 X2 Y2 Z2
  generalize W2.drewN kd = W at *
  have HNd : Hid (NodeAt TT E W n r L) := by exact HN.out.keep K2d.out fun _ _ _ h => h
  have HHd : Hid (Hdr W b hr) := by exact blk_keep HH.out K2d.out fun _ h => h
  have hlv := leaf_any HNd.out
  rw [HKS.out] at hlv
  simp only [Option.isNone_some] at hlv
  obtain ⟨c0, c1, c2, c3, fz⟩ := blk4 HNd.out.1
  rw [HKS.out] at c3
  obtain ⟨g1, g2, g3⟩ := HNd.out.2.2.2 ks HKS.out
  rw [HKA.out] at g1
  obtain ⟨g4, fz3⟩ := blk1 g1
  have zc := (blk1 Z2d.out).1
  have xc : W.drew.cell? ⟨q, 0, none⟩ = some (.string (ky x)) := by have : W.drew.heap[q]? = _ := X2d.out; simp only [World.cell?, this]; rfl
  have hcl := HCALL.out W.drew K2d.out.dr
  unfold ptr at hlv
  simp only [kidsVal, ptr] at c3
  replace hcl := Lib.hid hcl
  clear c0 c1 c2 g1 g2
  go_wp2_with fail
  refine hlv.mono ?_
  rintro e w1 ⟨rfl, rfl⟩
  clear hlv
  go_wp2_with fail
  refine wp_calm (by kernel_rfl) (by kernel_rfl) rfl ?_
  simp only [List.flatMap_cons, List.flatMap_nil, checks, chk, nilLit, List.cons_append, List.nil_append, List.append_nil]
  go_wp2_with fail
  refine hcl.out.mono ?_
  rintro e W3 ⟨rfl, hK3⟩
  have K3 : Hid (Keep Nothing w W3) := by exact K2d.out.dr.trans hK3 fun _ _ _ h => h
  have Y3 : Hid (W3.heap[q + 1]? = some (.cells #[] 138 (0, 0))) := by exact blk_keep (blk_drew Y2d.out) hK3 fun o h => h
  have Z3 : Hid (W3.heap[q + 2]? = some (.cells #[.pointer (some ⟨n, 0, none⟩)] 160 (0, 0))) := by exact blk_keep (blk_drew Z2d.out) hK3 fun o h => h
  have HN3 : Hid (NodeAt TT E W3 n r L) := by exact HN.out.keep K3.out fun _ _ _ h => h
  have HH3 : Hid (Hdr W3 b hr) := by exact blk_keep HH.out K3.out fun _ h => h
  clear hK3 c3 fz g4 fz3 zc xc hcl
  obtain ⟨c0, c1, c2, c3, fz⟩ := blk4 HN3.out.1
  have zc := (blk1 Z3.out).1
  have x6 := hdr_mx HH3.out
  rw [HF.out] at x6
  have f0 := field0_hdr (w := W3.drew) (b := b) (h := hr) HH3.out
  clear c0 c1 c3
  unfold vv
  go_wp2_with fail
  rw [HQ_normal]
  go_wp2_with fail
  refine wp_calm (by kernel_rfl) (by kernel_rfl) rfl ?_
  simp only [List.flatMap_cons, List.flatMap_nil, checks, chk, nilLit, List.cons_append, List.nil_append, List.append_nil, Try.underlying3]
  go_wp2_with fail
  rw [HQ_normal]
  go_wp2_with fail
  refine wp_world2 ?_
  intro W4 hW4
  have K4 : Keep Nothing w W4 := by
    subst hW4; exact K3.out.dr
  have Y4 : W4.heap[q + 1]? = some (.cells #[] 138 (0, 0)) := by
    subst hW4; exact blk_drew Y3.out
  refine bodyPost_ret (results_cell_tmp2_row rfl _ _ (q + 1) 138 #[] (0, 0) _ rfl Y4 Try.underlying138 rfl (by kernel_rfl)) rfl ?_
  exact ⟨rfl, K4⟩
end Go.Proofs.Ytfikahgofapobaa.T

namespace Go.Proofs.Ytfikahgofapobaa.T
open Go.RowKit Go.Wb

/-- A node into which the right half of child i and the item between were put. -/
def grown (r : NRec It) (ks : List Nat) (i m : Nat) (med : It) : NRec It := { r with items := r.items.take i ++ med :: r.items.drop i, kids := some (ks.take (i + 1) ++ m :: ks.drop (i + 1)) }

/-- The walk's own blocks. -/
def Lcl (W : World) (q p n : Nat) (x med : It) : Prop := W.heap[q]? = some (.cells (E.enc x).toArray 140 (0, 0)) ∧ W.heap[q + 1]? = some (.cells #[] 138 (0, 0)) ∧
  W.heap[q + 2]? = some (.cells #[.pointer (some ⟨n, 0, none⟩)] 160 (0, 0)) ∧ W.heap[p]? = some (.cells (E.enc med).toArray 140 (0, 0))
theorem Lcl.keep {S : Nat → Nat → Prop} {W W' : World} {q p n : Nat} {x med : It} (h : Lcl W q p n x med) (hk : Keep S W W') (hS : ∀ b o, S b o → b < q ∨ p < b) (hp : q + 2 < p) : Lcl W' q p n x med := by
  obtain ⟨h1, h2, h3, h4⟩ := h
  refine ⟨blk_keep h1 hk fun o e => ?_, blk_keep h2 hk fun o e => ?_, blk_keep h3 hk fun o e => ?_, blk_keep h4 hk fun o e => ?_⟩ <;> (have := hS _ _ e; omega)

def HalfPost (w W : World) (b n : Nat) (hr : HRec) (r : NRec It) (L : Lay) (G : Nat → It → World → World → Prop) (e : Ending) (W' : World) : Prop :=
  ∃ m med, e = .returned (.tuple #[ptr m, pv med]) ∧ Keep (fun b _ => b < w.heap.size) W W' ∧ NodeAt TT E W' n r L ∧ Hdr W' b hr ∧ G m med W W'

/-- Between the split and the second call. -/
structure Mid (W' W2 : World) (n : Nat) (r : NRec It) (L : Lay) (ks : List Nat) (i m : Nat) (med : It) (L2 : Lay) : Prop where
  keep : Keep (fp TT n r L) W' W2
  node : NodeAt TT E W2 n (grown r ks i m med) L2
  fp : ∀ b o, b < W'.heap.size → fp TT n (grown r ks i m med) L2 b o → fp TT n r L b o

def AgainPost (w W W2 : World) (R : Ending → World → Prop) (e : Ending) (W3 : World) : Prop :=
  R e W3 ∧ (∃ y rep sp, e = .returned (.tuple #[vv y, .bool rep, .bool sp])) ∧ Keep (fun b _ => b < w.heap.size ∨ W.heap.size ≤ b) W2 W3

def RetryPost (w : World) (n : Nat) (r : NRec It) (L : Lay) (ks : List Nat) (i : Nat) (G : Nat → It → World → World → Prop) (R : Nat → It → World → World → World → Lay → Ending → World → Prop) (e : Ending) (w' : World) : Prop :=
  ∃ W m med W' W2 L2 W3, Keep Nothing w W ∧ G m med W W' ∧ Mid W' W2 n r L ks i m med L2 ∧ R m med W W' W2 L2 e W3 ∧ Keep (fun b _ => w.heap.size ≤ b ∧ b < W.heap.size) W3 w'

set_option maxRecDepth 100000 in
set_option maxHeartbeats 8000000 in
theorem set_inner_retry {w : World} {b pb po n : Nat} {hr : HRec} {r : NRec It} {L : Lay} (hh : Hdr w b hr) (hp : w.cell? ⟨pb, po, none⟩ = some (ptr n)) (hn : NodeAt TT E w n r L) (hi : r.iso = hr.iso)
    (hlen : r.items.length ≤ 1000000000000) (hs : Sorted ilt r.items) {x : It} {i : Nat} (hloc : Loc r.items (ky x) i false) (hfull : hr.mx ≠ r.items.length)
    {ks : List Nat} (hks : r.kids = some ks) {kb ko c : Nat} (hka : L.ka = some ⟨kb, ko, none⟩) (hik : ks[i]? = some c) (hkl : ks.length ≤ 1000000000001) (G : Nat → It → World → World → Prop) (R : Nat → It → World → World → World → Lay → Ending → World → Prop)
    (hcall : ∀ W, Keep Nothing w W → Calls Try.prog 214 #[ptr b, .pointer (some ⟨kb, ko + i, none⟩), pv x] W (AskPost W hr.emp))
    (hsplit : ∀ W, Keep Nothing w W → Calls Try.prog 215 #[ptr b, ptr c] W (HalfPost w W b n hr r L G))
    (hagain : ∀ W m med W' W2 L2 pq, Keep Nothing w W → G m med W W' → Mid W' W2 n r L ks i m med L2 → w.heap.size ≤ pq → W2.cell? ⟨pq, 0, none⟩ = some (ptr n) → Hdr W2 b hr →
      Calls Try.prog 214 #[ptr b, ptr pq, pv x] W2 (AgainPost w W W2 (R m med W W' W2 L2))) :
    Calls Try.prog 214 #[ptr b, .pointer (some ⟨pb, po, none⟩), pv x] w (RetryPost w n r L ks i G R) := by
  have HKS := Lib.hid hks
  have HKA := Lib.hid hka
  have HCALL := Lib.hid hcall
  have HF := Lib.hid hfull
  have HIK := Lib.hid hik
  have HSP := Lib.hid hsplit
  have HAG := Lib.hid hagain
  have hikl : i < ks.length := (List.getElem?_eq_some_iff.1 hik).1
  clear hks hka hcall hfull hik hsplit hagain
  have HN := Lib.hid hn
  have HH := Lib.hid hh
  have HP := Lib.hid hp
  have HLOC := Lib.hid hloc
  have HS := Lib.hid hs
  have HI := Lib.hid hi
  have hnw := lt_of_heap hn.1
  have hpw := lt_of_cell hp
  have hbw := lt_of_heap hh
  clear hh hn hp hs hloc hi
  unfold ptr pv kv at *
  go_enter Try.func214, Try.ntmps214
  go_upto_region 1 with (fail)
  refine wp_world ?_
  intro W1 hW1
  generalize hq : w.heap.size = q at *
  have K1 : Hid (Keep Nothing w W1) := by subst hW1; exact ((Keep.refl _ _).al _).al _
  have X1 : Hid (W1.heap[q]? = some (.cells (E.enc x).toArray 140 (0, 0))) := by subst hW1; subst hq; exact blk_alloc _ (heap_alloc_new w _)
  have XQ := Lib.hid hq
  have Y1 : Hid (W1.heap[q + 1]? = some (.cells #[] 138 (0, 0))) := by subst hW1; subst hq; have := heap_alloc_new (w.alloc (.cells (E.enc x).toArray 140)) (.cells #[] 138); rwa [World.size_alloc] at this
  have S1 : W1.heap.size = q + 2 := by subst hW1; rw [World.size_alloc, World.size_alloc, hq]
  clear hW1 hq
  have HN1 : Hid (NodeAt TT E W1 n r L) := by exact HN.out.keep K1.out fun _ _ _ h => h
  have HH1 : Hid (Hdr W1 b hr) := by exact blk_keep HH.out K1.out fun _ h => h
  have hiso := isoLoad_own HH1.out (K1.out.cell' HP.out fun h => h) HN1.out HI.out true
  unfold ptr at hiso
  go_wp2_with fail
  refine hiso.mono ?_
  rintro e w1 ⟨rfl, kd, rfl⟩
  clear hiso
  have K1d : Hid (Keep Nothing w (W1.drewN kd)) := by exact K1.out.drN kd
  have S1d : (W1.drewN kd).heap.size = q + 2 := S1
  have X1d : Hid ((W1.drewN kd).heap[q]? = some (.cells (E.enc x).toArray 140 (0, 0))) := by exact X1.out
  have Y1d : Hid ((W1.drewN kd).heap[q + 1]? = some (.cells #[] 138 (0, 0))) := by exact Y1.out
  clear HN1 HH1 K1 S1 X1 Y1
  generalize W1.drewN kd = W1 at *
  unfold ptr
  go_upto_region 2 with (fail)
  refine wp_world ?_
  intro W2 hW2
  have K2 : Hid (Keep Nothing w W2) := by subst hW2; exact K1d.out.al _
  have X2 : Hid (W2.heap[q]? = some (.cells (E.enc x).toArray 140 (0, 0))) := by subst hW2; exact blk_alloc _ X1d.out
  have Y2 : Hid (W2.heap[q + 1]? = some (.cells #[] 138 (0, 0))) := by subst hW2; exact blk_alloc _ Y1d.out
  have Z2 : Hid (W2.heap[q + 2]? = some (.cells #[.pointer (some ⟨n, 0, none⟩)] 160 (0, 0))) := by subst hW2; rw [← S1d]; exact heap_alloc_new W1 _
  have S2 : W2.heap.size = q + 3 := by subst hW2; rw [World.size_alloc, S1d]
  clear hW2 K1d X1d Y1d S1d
  have HN2 : Hid (NodeAt TT E W2 n r L) := by exact HN.out.keep K2.out fun _ _ _ h => h
  have hse := search_loc (tr := ptr b) HN2.out hlen HS.out HLOC.out
  have kc : W2.cell? ⟨q, 0, none⟩ = some (.string (ky x)) := by have := X2.out; simp only [World.cell?, this]; rfl
  have zc := (blk1 Z2.out).1
  unfold ptr kv at hse
  go_wp2_with fail
  refine hse.mono ?_
  rintro e w1 ⟨rfl, kd, rfl⟩
  clear hse kc zc HN2
  have K2d : Hid (Keep Nothing w (W2.drewN kd)) := by exact K2.out.drN kd
  have S2d : (W2.drewN kd).heap.size = q + 3 := S2
  have X2d : Hid ((W2.drewN kd).heap[q]? = some (.cells (E.enc x).toArray 140 (0, 0))) := by exact X2.out
  have Y2d : Hid ((W2.drewN kd).heap[q + 1]? = some (.cells #[] 138 (0, 0))) := by exact Y2.out
  have Z2d : Hid ((W2.drewN kd).heap[q + 2]? = some (.cells #[.pointer (some ⟨n, 0, none⟩)] 160 (0, 0))) := by exact Z2.out
  clear K2 S2 X2 Y2 Z2
  generalize W2.drewN kd = W at *
  have HNd : Hid (NodeAt TT E W n r L) := by exact HN.out.keep K2d.out fun _ _ _ h => h
  have HHd : Hid (Hdr W b hr) := by exact blk_keep HH.out K2d.out fun _ h => h
  have hlv := leaf_any HNd.out
  rw [HKS.out] at hlv
  simp only [Option.isNone_some] at hlv
  obtain ⟨c0, c1, c2, c3, fz⟩ := blk4 HNd.out.1
  rw [HKS.out] at c3
  obtain ⟨g1, g2, g3⟩ := HNd.out.2.2.2 ks HKS.out
  rw [HKA.out] at g1
  obtain ⟨g4, fz3⟩ := blk1 g1
  have zc := (blk1 Z2d.out).1
  have xc : W.drew.cell? ⟨q, 0, none⟩ = some (.string (ky x)) := by have : W.drew.heap[q]? = _ := X2d.out; simp only [World.cell?, this]; rfl
  have hcl := HCALL.out W.drew K2d.out.dr
  unfold ptr at hlv
  simp only [kidsVal, ptr] at c3
  replace hcl := Lib.hid hcl
  clear c0 c1 c2 g1 g2
  go_wp2_with fail
  refine hlv.mono ?_
  rintro e w1 ⟨rfl, rfl⟩
  clear hlv
  go_wp2_with fail
  refine wp_calm (by kernel_rfl) (by kernel_rfl) rfl ?_
  simp only [List.flatMap_cons, List.flatMap_nil, checks, chk, nilLit, List.cons_append, List.nil_append, List.append_nil]
  go_wp2_with fail
  refine hcl.out.mono ?_
  rintro e W3 ⟨rfl, hK3⟩
  have K3 : Hid (Keep Nothing w W3) := by exact K2d.out.dr.trans hK3 fun _ _ _ h => h
  have X3 : Hid (W3.heap[q]? = some (.cells (E.enc x).toArray 140 (0, 0))) := by exact blk_keep (blk_drew X2d.out) hK3 fun o h => h
  have Y3 : Hid (W3.heap[q + 1]? = some (.cells #[] 138 (0, 0))) := by exact blk_keep (blk_drew Y2d.out) hK3 fun o h => h
  have Z3 : Hid (W3.heap[q + 2]? = some (.cells #[.pointer (some ⟨n, 0, none⟩)] 160 (0, 0))) := by exact blk_keep (blk_drew Z2d.out) hK3 fun o h => h
  have S3 : q + 3 ≤ W3.heap.size := by have h2 : W.drew.heap.size = q + 3 := S2d; have := hK3.size; omega
  have HN3 : Hid (NodeAt TT E W3 n r L) := by exact HN.out.keep K3.out fun _ _ _ h => h
  have HH3 : Hid (Hdr W3 b hr) := by exact blk_keep HH.out K3.out fun _ h => h
  clear hK3 c3 fz g4 fz3 zc xc hcl K2d X2d Y2d Z2d HNd HHd S2d
  obtain ⟨c0, c1, c2, c3, fz⟩ := blk4 HN3.out.1
  have zc := (blk1 Z3.out).1
  have x6 := hdr_mx HH3.out
  have hne : ((r.items.length : Int) == hr.mx) = false := by simpa using fun h => HF.out h.symm
  clear c0 c1 c3
  unfold vv
  go_wp2_with fail
  rw [HQ_normal]
  go_wp2_with fail
  refine wp_calm (by kernel_rfl) (by kernel_rfl) rfl ?_
  simp only [List.flatMap_cons, List.flatMap_nil, checks, chk, nilLit, List.cons_append, List.nil_append, List.append_nil, Try.underlying3]
  go_wp2_with fail
  rw [HQ_normal]
  go_upto_region 19 with (fail)
  refine wp_world ?_
  intro W4 hW4
  have K4 : Hid (Keep Nothing w W4) := by subst hW4; exact K3.out.dr
  have X4 : Hid (W4.heap[q]? = some (.cells (E.enc x).toArray 140 (0, 0))) := by subst hW4; exact X3.out
  have Y4 : Hid (W4.heap[q + 1]? = some (.cells #[] 138 (0, 0))) := by subst hW4; exact Y3.out
  have Z4 : Hid (W4.heap[q + 2]? = some (.cells #[.pointer (some ⟨n, 0, none⟩)] 160 (0, 0))) := by subst hW4; exact Z3.out
  have S4 : q + 3 ≤ W4.heap.size := by subst hW4; exact S3
  clear hW4 c2 fz zc x6 hne K3 X3 Y3 Z3 S3 HN3 HH3
  have HN4 : Hid (NodeAt TT E W4 n r L) := by exact HN.out.keep K4.out fun _ _ _ h => h
  have HSC := Lib.hid (HSP.out W4 K4.out)
  obtain ⟨c0, c1, c2, c3, fz⟩ := blk4 HN4.out.1
  rw [HKS.out] at c3
  obtain ⟨g1, g2, g3⟩ := HN4.out.2.2.2 ks HKS.out
  rw [HKA.out] at g1 g2
  obtain ⟨g4, fz3⟩ := blk1 g1
  have zc := (blk1 Z4.out).1
  have kc := g2.cell (i := i) (v := ptr c) (by simp [HIK.out])
  unfold ptr at kc
  simp only [kidsVal, ptr] at c3
  clear c0 c1 c2 g1 g2
  go_wp2_with fail
  unfold ptr at HSC
  refine HSC.out.mono ?_
  rintro e W5 ⟨m, med, rfl, hK5, hN5, hH5, hG5⟩
  have HK5 := Lib.hid hK5
  have HG5 := Lib.hid hG5
  have HN5 := Lib.hid hN5
  have HH5 := Lib.hid hH5
  have X5 : Hid (W5.heap[q]? = some (.cells (E.enc x).toArray 140 (0, 0))) := by exact blk_keep X4.out hK5 fun o h => by have := XQ.out; omega
  have Y5 : Hid (W5.heap[q + 1]? = some (.cells #[] 138 (0, 0))) := by exact blk_keep Y4.out hK5 fun o h => by have := XQ.out; omega
  have Z5 : Hid (W5.heap[q + 2]? = some (.cells #[.pointer (some ⟨n, 0, none⟩)] 160 (0, 0))) := by exact blk_keep Z4.out hK5 fun o h => by have := XQ.out; omega
  have S5 : q + 3 ≤ W5.heap.size := by have := hK5.size; omega
  clear hK5 hG5 hN5 hH5 HSC c3 fz g4 fz3 zc kc X4 Y4 Z4 HN4
  unfold ptr pv kv
  go_upto_region 20 with (fail)
  refine wp_world ?_
  intro W6 hW6
  generalize hp : W5.heap.size = p at *
  have K6 : Hid (Keep Nothing W5 W6) := by
    subst hW6; exact (Keep.refl _ _).al _
  have M6 : Hid (W6.heap[p]? = some (.cells (E.enc med).toArray 140 (0, 0))) := by
    subst hW6; subst hp; exact heap_alloc_new W5 _
  have S6 : W6.heap.size = p + 1 := by
    subst hW6; rw [World.size_alloc, hp]
  clear hW6
  have X6 : Hid (W6.heap[q]? = some (.cells (E.enc x).toArray 140 (0, 0))) := by exact blk_keep X5.out K6.out fun o h => h
  have Y6 : Hid (W6.heap[q + 1]? = some (.cells #[] 138 (0, 0))) := by exact blk_keep Y5.out K6.out fun o h => h
  have Z6 : Hid (W6.heap[q + 2]? = some (.cells #[.pointer (some ⟨n, 0, none⟩)] 160 (0, 0))) := by exact blk_keep Z5.out K6.out fun o h => h
  have HN6 : Hid (NodeAt TT E W6 n r L) := by exact HN5.out.keep K6.out fun _ _ _ h => h
  clear X5 Y5 Z5
  have HPp := Lib.hid hp
  clear hp
  obtain ⟨c0, c1, c2, c3, fz⟩ := blk4 HN6.out.1
  rw [HKS.out] at c3
  obtain ⟨g1, g2, g3⟩ := HN6.out.2.2.2 ks HKS.out
  rw [HKA.out] at g1 g2
  obtain ⟨g4, fz3⟩ := blk1 g1
  have zc := (blk1 Z6.out).1
  simp only [kidsVal, ptr] at c3
  clear c0 c1 c2 g1 g2
  refine wp_held (fun w' => w'.cell? ⟨q + 2, 0, none⟩ = some (.pointer (some ⟨n, 0, none⟩)) ∧ w'.cell? ⟨n, 3, none⟩ = some (.pointer (some ⟨L.cb, 0, none⟩)) ∧ w'.cell? ⟨L.cb, 0, none⟩ = some (.slice (some ⟨kb, ko, none⟩) ks.length L.kcap)) [0, 3, 4, 7, 9] (by kernel_rfl) (by kernel_rfl) (by kernel_rfl) rfl ⟨zc, c3, g4⟩ ?_
  simp only [segs, readsB, silentB, lenB, checks, List.nil_append]
  go_wp2_with fail
  refine held_world ?_
  intro W7 hW7
  have hqp : q + 2 < p := by have := HPp.out; omega
  have hkbq : kb < q ∧ L.cb < q := by
    obtain ⟨h1, h2, _⟩ := HN.out.2.2.2 ks HKS.out
    rw [HKA.out] at h2
    have h3 := lt_of_heap h2.blk.choose_spec
    have h4 := lt_of_heap h1
    rw [XQ.out] at h3 h4
    exact ⟨h3, h4⟩
  have LC7 : Hid (Lcl W7 q p n x med) := by
    have h6 : Lcl W6 q p n x med := ⟨X6.out, Y6.out, Z6.out, M6.out⟩
    subst hW7
    exact h6.keep (S := Nothing) ((Keep.refl _ _).al _).dr (fun _ _ h => h.elim) hqp
  have K7 : Hid (Keep Nothing W5 W7) := by subst hW7; exact (K6.out.al _).dr
  have HN7 : Hid (NodeAt TT E W7 n r L) := by exact HN5.out.keep K7.out fun _ _ _ h => h
  have N7 : Hid (W7.heap[p + 1]? = some (.cells [Value.pointer none].toArray 160 (0, 0))) := by subst hW7; rw [← S6]; exact heap_alloc_new W6 _
  have S7 : W7.heap.size = p + 2 := by subst hW7; show (W6.alloc _).heap.size = _; rw [World.size_alloc, S6]
  clear hW7 K6 X6 Y6 Z6 M6 HN6 c3 fz g4 fz3 zc
  obtain ⟨c0, c1, c2, c3, fz⟩ := blk4 HN7.out.1
  rw [HKS.out] at c3
  obtain ⟨g1, g2, g3⟩ := HN7.out.2.2.2 ks HKS.out
  rw [HKA.out] at g1 g2
  obtain ⟨g4, fz3⟩ := blk1 g1
  have zc := (blk1 LC7.out.2.2.1).1
  simp only [kidsVal, ptr] at c3
  replace g2 := Lib.hid g2
  clear c0 c1 c2 g1
  refine held_next ⟨zc, c3, g4⟩ ?_
  refine wpList_append_any rfl _ _ _ rfl 160 1 8 Try.underlying279 ⟨by kernel_rfl, by kernel_rfl, by kernel_rfl⟩ (some ⟨kb, ko, none⟩) ks.length L.kcap (ks.map ptr) rfl g2.out (by simp) ⟨p + 1, 0, none⟩ 1 1 [.pointer none] ?_ rfl ?_ (by simp; rfl) (by omega) g3 (by simp only [maxLen]; omega) (by omega) ?_
  · rfl
  · exact new_cells N7.out
  intro ak' kc' W8 hG8
  have GR8 := Lib.hid hG8
  obtain ⟨jb, jo, hja, _⟩ := hG8.row.form (by simp)
  subst hja
  have hjb : jb = kb ∨ jb = p + 2 := by
    rcases hG8.fp jb jo ⟨jb, jo, rfl, rfl, Nat.le_refl _, by have := hG8.cap; omega⟩ with h | ⟨h, _⟩
    · exact .inl (rowFp_some h).1
    · exact .inr (by omega)
  have KG8 : Hid (Keep (fun y _ => y = kb) W7 W8) := by exact hG8.keep.mono fun y o _ ⟨a, b, h, hy, _⟩ => by cases h; exact hy
  obtain ⟨arr7, harr7⟩ := g2.out.blk
  have hkbn : kb ≠ n := (blk_ne HN7.out.1 harr7 ty_ok.b).symm
  have hkbcb : kb ≠ L.cb := blk_ne harr7 (HN7.out.2.2.2 ks HKS.out).1 ty_ok.e
  have B8 : Hid (W8.heap[n]? = some (.cells #[.int .u64 r.iso, .int .i64 r.cnt, .slice L.ia r.items.length L.icap, .pointer (some ⟨L.cb, 0, none⟩)] 276 (0, 0))) := by
    have h1 := HN7.out.1
    rw [HKS.out] at h1
    exact blk_keep h1 KG8.out fun o e => hkbn e.symm
  have C8 : Hid (W8.heap[L.cb]? = some (.cells #[.slice (some ⟨kb, ko, none⟩) ks.length L.kcap] 279 (0, 0))) := by
    have h1 := (HN7.out.2.2.2 ks HKS.out).1
    rw [HKA.out] at h1
    exact blk_keep h1 KG8.out fun o e => hkbcb e.symm
  have LC8 : Hid (Lcl W8 q p n x med) := by exact LC7.out.keep KG8.out (fun y o e => by omega) hqp
  have RI8 : Hid (Row W8 TT.pair TT.s L.ia L.icap (E.all r.items)) := by exact HN7.out.2.1.off KG8.out harr7 ty_ok.f.symm
  clear hG8 c3 fz g4 fz3 zc harr7 arr7
  obtain ⟨c0, c1, c2, c3, fz⟩ := blk4 B8.out
  obtain ⟨g4, fz3⟩ := blk1 C8.out
  have zc := (blk1 LC8.out.2.2.1).1
  clear c0 c1 c2
  refine held_next ⟨zc, c3, g4⟩ ?_
  simp only [Act.put]
  go_wp2_with fail
  refine held_world ?_
  intro W9 hW9
  refine held_end ?_ ?_
  · refine ⟨?_, ?_, ?_, ?_, ?_, trivial⟩
    · exact ⟨.pointer (some ⟨n, 0, none⟩), fun w' hS => by simp [execOp, hS.1, go_sem]⟩
    · exact ⟨.pointer (some ⟨L.cb, 0, none⟩), fun w' hS => by simp [execOp, hS.2.1, go_sem]⟩
    · exact ⟨.pointer (some ⟨n, 0, none⟩), fun w' hS => by simp [execOp, hS.1, go_sem]⟩
    · exact ⟨.pointer (some ⟨L.cb, 0, none⟩), fun w' hS => by simp [execOp, hS.2.1, go_sem]⟩
    · exact ⟨.slice (some ⟨kb, ko, none⟩) ks.length L.kcap, fun w' hS => by simp [execOp, hS.2.2, go_sem]⟩
  have hkc' : ks.length + 1 ≤ kc' := GR8.out.cap
  obtain ⟨arr8, harr8⟩ := GR8.out.row.blk
  have hjn : jb ≠ n := (blk_ne B8.out harr8 ty_ok.b).symm
  have hjcb : jb ≠ L.cb := blk_ne harr8 C8.out ty_ok.e
  have hncb : n ≠ L.cb := blk_ne B8.out C8.out ty_ok.c
  have K9 : Hid (Keep (fp TT n r L) W5 W9) := by
    subst hW9
    refine Keep.set ?_ _ _ _ fun _ => .inr (.inr ⟨by simp [HKS.out], .inl rfl⟩)
    refine (K7.out.mono fun _ _ _ h => h.elim).trans GR8.out.keep fun y o _ h => ?_
    have h2 := grow_row g3 h
    rw [Nat.mul_one] at h2
    exact .inr (.inr ⟨by simp [HKS.out], .inr (by rw [HKA.out]; exact h2)⟩)
  have B9 : Hid (W9.heap[n]? = some (.cells #[.int .u64 r.iso, .int .i64 r.cnt, .slice L.ia r.items.length L.icap, .pointer (some ⟨L.cb, 0, none⟩)] 276 (0, 0))) := by
    subst hW9; exact blk_far _ B8.out hncb
  have C9 : Hid (W9.heap[L.cb]? = some (.cells #[.slice (some ⟨jb, jo, none⟩) (ks.length + 1) kc'] 279 (0, 0))) := by
    subst hW9; exact blk_set _ C8.out
  have KW9 : Hid (Keep (fun y _ => y = L.cb) W8 W9) := by subst hW9; refine (Keep.refl _ _).set _ _ _ ?_; exact fun _ => rfl
  have LC9 : Hid (Lcl W9 q p n x med) := by exact LC8.out.keep KW9.out (fun y o e => by omega) hqp
  have R9 : Hid (Row W9.drew 160 1 (some ⟨jb, jo, none⟩) kc' (ks.map ptr ++ [.pointer none])) := by
    have h1 := GR8.out.row.keep' KW9.out fun y o hf e => hjcb ((rowFp_some hf).1.symm.trans e)
    exact h1.keep (Keep.drew Nothing _) fun _ _ _ h => h
  have hjq : Hid (jb < q ∨ p < jb) := by have := hkbq; unfold Hid; omega
  replace hjb := Lib.hid hjb
  have hfj : Hid (∀ y o, y < W5.heap.size → rowFp (some ⟨jb, jo, none⟩) (kc' * 1) y o → rowFp L.ka L.kcap y o) := by
    intro y o hy hf
    rcases GR8.out.fp y o hf with h | ⟨h, _⟩
    · rw [HKA.out]; rw [Nat.mul_one] at h; exact h
    · have := HPp.out; omega
  have RI9 : Hid (Row W9 TT.pair TT.s L.ia L.icap (E.all r.items)) := by exact RI8.out.off KW9.out C8.out ty_ok.d.symm
  clear RI8
  clear hW9 LC8 C8 B8 c3 fz g4 fz3 zc N7 KW9 K7 KG8 HN7 LC7 g2 harr8 arr8
  obtain ⟨c0, c1, c2, c3, fz⟩ := blk4 B9.out
  obtain ⟨g4, fz3⟩ := blk1 C9.out
  have zc := (blk1 LC9.out.2.2.1).1
  have hcn : ¬ kc' = i := by omega
  have hcn2 : ¬ kc' = i + 1 := by omega
  have hone : Hid (∀ v ∈ ks.map ptr ++ [Value.pointer none], v.oneCell' = true) := by
    intro v hv
    rcases List.mem_append.1 hv with h | h
    · obtain ⟨k, _, rfl⟩ := List.mem_map.1 h; rfl
    · obtain rfl := List.mem_singleton.1 h; rfl
  obtain ⟨rv, W10, hr10, hk10, hrow10⟩ := run_copyRoom (P := Try.prog) W9.drew 279 3 160 1 Try.underlying279 (by kernel_rfl) R9.out (by simp) (Nat.le_of_lt hikl) (some ⟨jb, jo + (i + 1), none⟩) (some ⟨jb, jo + i, none⟩) (fun _ => by simp) (fun _ => by simp) (kc' - (i + 1)) (kc' - i) hone.out
  have HR10 := Lib.hid hr10
  replace hk10 := Lib.hid hk10
  replace hrow10 := Lib.hid hrow10
  clear c0 c1 c2 hr10
  go_wp2_with fail
  refine wp_calm (by kernel_rfl) (by kernel_rfl) rfl ?_
  simp only [List.flatMap_cons, List.flatMap_nil, checks, chk, nilLit, List.cons_append, List.nil_append, List.append_nil, Try.underlying3]
  go_wp2_with fail
  have hr10 := HR10.out
  simp only [Nat.add_sub_add_right] at hr10
  rw [hr10]
  simp only [Result.andThen_ok]
  clear c3 fz g4 fz3 zc hr10 HR10
  have KJ10 : Hid (Keep (fun y _ => y = jb) W9 W10) := by exact ((Keep.refl _ _).dr).trans (hk10.out.mono fun y o _ e => e.1 : Keep (fun y _ => y = jb) W9.drew W10) fun _ _ _ h => h
  have K10 : Hid (Keep (fp TT n r L) W5 W10) := by
    refine K9.out.dr.trans hk10.out fun y o hy e => ?_
    exact .inr (.inr ⟨by simp [HKS.out], .inr (hfj.out y o hy ⟨jb, jo, rfl, e.1, by have := e.2; omega, by have := e.2; omega⟩)⟩)
  have B10 : Hid (W10.heap[n]? = some (.cells #[.int .u64 r.iso, .int .i64 r.cnt, .slice L.ia r.items.length L.icap, .pointer (some ⟨L.cb, 0, none⟩)] 276 (0, 0))) := by exact blk_keep B9.out KJ10.out fun o e => hjn e.symm
  have C10 : Hid (W10.heap[L.cb]? = some (.cells #[.slice (some ⟨jb, jo, none⟩) (ks.length + 1) kc'] 279 (0, 0))) := by exact blk_keep C9.out KJ10.out fun o e => hjcb e.symm
  have LC10 : Hid (Lcl W10 q p n x med) := by exact LC9.out.keep KJ10.out (fun y o e => e ▸ hjq.out) hqp
  have RI10 : Hid (Row W10 TT.pair TT.s L.ia L.icap (E.all r.items)) := by
    obtain ⟨ar, ha⟩ := R9.out.blk
    exact RI9.out.off KJ10.out (show W9.heap[jb]? = _ from ha) ty_ok.f.symm
  clear RI9
  clear K9 B9 C9 LC9 R9 KJ10 hk10 hone
  obtain ⟨c0, c1, c2, c3, fz⟩ := blk4 B10.out
  obtain ⟨g4, fz3⟩ := blk1 C10.out
  have zc := (blk1 LC10.out.2.2.1).1
  have fz5 := hrow10.out.frozen
  obtain ⟨ov, hov⟩ := hrow10.out.there (i := i + 1) (by omega)
  clear c0 c1 c2
  go_wp2_with fail
  rw [HQ_normal]
  go_upto_region 23 with (fail)
  refine wp_world ?_
  intro W11 hW11
  have KJ11 : Hid (Keep (fun y _ => y = jb) W10 W11) := by subst hW11; refine (Keep.refl _ _).set _ _ _ ?_; exact fun _ => rfl
  have K11 : Hid (Keep (fp TT n r L) W5 W11) := by
    subst hW11
    refine K10.out.set _ _ _ fun hy => ?_
    exact .inr (.inr ⟨by simp [HKS.out], .inr (hfj.out jb (jo + (i + 1)) hy ⟨jb, jo, rfl, rfl, by omega, by omega⟩)⟩)
  have R11 : Hid (Row W11 160 1 (some ⟨jb, jo, none⟩) kc' ((ks.take (i + 1) ++ m :: ks.drop (i + 1)).map ptr)) := by
    rw [← ins_kids ks m (.pointer none) hikl]
    subst hW11
    exact hrow10.out.setCell (ptr m) (by simp; omega)
  have B11 : Hid (W11.heap[n]? = some (.cells #[.int .u64 r.iso, .int .i64 r.cnt, .slice L.ia r.items.length L.icap, .pointer (some ⟨L.cb, 0, none⟩)] 276 (0, 0))) := by exact blk_keep B10.out KJ11.out fun o e => hjn e.symm
  have C11 : Hid (W11.heap[L.cb]? = some (.cells #[.slice (some ⟨jb, jo, none⟩) (ks.length + 1) kc'] 279 (0, 0))) := by exact blk_keep C10.out KJ11.out fun o e => hjcb e.symm
  have LC11 : Hid (Lcl W11 q p n x med) := by exact LC10.out.keep KJ11.out (fun y o e => e ▸ hjq.out) hqp
  have RI11 : Hid (Row W11 TT.pair TT.s L.ia L.icap (E.all r.items)) := by
    obtain ⟨ar, ha⟩ := hrow10.out.blk
    exact RI10.out.off KJ11.out ha ty_ok.f.symm
  clear RI10
  clear hW11 K10 B10 C10 LC10 KJ11 hrow10 c3 fz g4 fz3 zc fz5 hov
  have H11 : Hid (Hdr W11 b hr) := by exact blk_keep HH5.out K11.out fun o hf => hdr_apart HH5.out HN5.out hf
  have he := hdr_emp H11.out
  have zc := (blk1 LC11.out.2.2.1).1
  obtain ⟨c0, c1, c2, c3, fz⟩ := blk4 B11.out
  clear c0 c1 c3
  unfold kv at he
  refine wp_held (fun w' => w'.cell? ⟨q + 2, 0, none⟩ = some (.pointer (some ⟨n, 0, none⟩)) ∧ w'.cell? ⟨n, 2, none⟩ = some (.slice L.ia r.items.length L.icap)) [0, 1, 4] (by kernel_rfl) (by kernel_rfl) (by kernel_rfl) rfl ⟨zc, c2⟩ ?_
  simp only [segs, readsB, silentB, lenB, checks, List.nil_append]
  go_wp2_with fail
  refine held_world ?_
  intro W12 hW12
  generalize he0 : W11.heap.size = e0 at *
  have hpe : p < e0 := by rw [← he0]; exact lt_of_heap LC11.out.2.2.2
  have hicap := HN.out.2.2.1
  have KA : Hid (Keep Nothing W11 W12) := by subst hW12; exact ((Keep.refl _ _).al _).dr
  have N12 : Hid (W12.heap[e0]? = some (.cells (E.enc hr.emp).toArray 140 (0, 0))) := by subst hW12; subst he0; exact heap_alloc_new W11 _
  have S12 : W12.heap.size = e0 + 1 := by subst hW12; show (W11.alloc _).heap.size = _; rw [World.size_alloc, he0]
  have B12 : Hid (W12.heap[n]? = some (.cells #[.int .u64 r.iso, .int .i64 r.cnt, .slice L.ia r.items.length L.icap, .pointer (some ⟨L.cb, 0, none⟩)] 276 (0, 0))) := by exact blk_keep B11.out KA.out fun _ h => h
  have C12 : Hid (W12.heap[L.cb]? = some (.cells #[.slice (some ⟨jb, jo, none⟩) (ks.length + 1) kc'] 279 (0, 0))) := by exact blk_keep C11.out KA.out fun _ h => h
  have R12 : Hid (Row W12 160 1 (some ⟨jb, jo, none⟩) kc' ((ks.take (i + 1) ++ m :: ks.drop (i + 1)).map ptr)) := by exact R11.out.keep KA.out fun _ _ _ h => h
  have RI12 : Hid (Row W12 TT.pair TT.s L.ia L.icap (E.all r.items)) := by exact RI11.out.keep KA.out fun _ _ _ h => h
  have LC12 : Hid (Lcl W12 q p n x med) := by exact LC11.out.keep KA.out (fun _ _ h => h.elim) hqp
  have K12 : Hid (Keep (fp TT n r L) W5 W12) := by exact K11.out.trans KA.out fun _ _ _ h => h.elim
  clear hW12 KA B11 C11 R11 RI11 LC11 K11 H11 he zc c2 fz
  have zc := (blk1 LC12.out.2.2.1).1
  obtain ⟨c0, c1, c2, c3, fz⟩ := blk4 B12.out
  clear c0 c1 c3
  refine held_next ⟨zc, c2⟩ ?_
  refine wpList_append_any rfl _ _ _ rfl 140 1 16 Try.underlying273 ⟨by kernel_rfl, by kernel_rfl, by kernel_rfl⟩ L.ia r.items.length L.icap (E.all r.items) rfl RI12.out (E.all_len _) ⟨e0, 0, none⟩ 1 1 (E.enc hr.emp) ?_ (E.len _) ?_ (E.one _) (by omega) hicap (by simp only [maxLen]; omega) (by omega) ?_
  · rfl
  · exact new_cells N12.out
  intro ai' ic' W13 hG
  have GR := Lib.hid hG
  obtain ⟨ib, io, hia, _⟩ := hG.row.form (by rw [List.length_append, E.len]; have := E.pos; omega)
  subst hia
  obtain ⟨fc, hfc⟩ : ∃ f : Unit → Nat, f () = ic' := ⟨fun _ => ic', rfl⟩
  subst hfc
  have hic' : r.items.length + 1 ≤ fc () := hG.cap
  have hrow13 := Lib.hid hG.row
  have KG := Lib.hid hG.keep
  have hRW : Hid (∀ y o, rowFp L.ia (L.icap * TT.s) y o → y < q ∧ y ≠ n ∧ y ≠ L.cb ∧ y ≠ jb) := by
    intro y o hf
    refine ⟨XQ.out ▸ rowFp_lt HN.out.2.1 hf, fun e => ?_, fun e => ?_, fun e => ?_⟩
    · obtain ⟨arr, ha⟩ := RI12.out.block ⟨_, hf⟩
      exact blk_ne B12.out ha ty_ok.a e.symm
    · obtain ⟨arr, ha⟩ := RI12.out.block ⟨_, hf⟩
      exact blk_ne C12.out ha ty_ok.d.symm e.symm
    · obtain ⟨arr, ha⟩ := RI12.out.block ⟨_, hf⟩
      obtain ⟨arr2, ha2⟩ := R12.out.blk
      exact blk_ne ha2 ha ty_ok.f.symm e.symm
  have hGq : Hid (∀ y o, (∃ x z, L.ia = some ⟨x, z, none⟩ ∧ y = x ∧ z + r.items.length * 1 ≤ o ∧ o < z + L.icap * 1) → y < q ∧ y ≠ n ∧ y ≠ L.cb ∧ y ≠ jb) := by
    exact fun y o h => hRW.out y o (grow_row hicap h)
  have hibq : Hid (ib < q ∨ ib = e0 + 1) := by
    rcases hG.fp ib io ⟨ib, io, rfl, rfl, Nat.le_refl _, by omega⟩ with h | ⟨h, _⟩
    · exact .inl (hRW.out ib io h).1
    · exact .inr (by omega)
  have hfi : Hid (∀ y o, y < W5.heap.size → rowFp (some ⟨ib, io, none⟩) (fc () * TT.s) y o → rowFp L.ia (L.icap * TT.s) y o) := by
    intro y o hy hf
    rcases hG.fp y o hf with h | ⟨h, _⟩
    · exact h
    · have := HPp.out; omega
  have B13 : Hid (W13.heap[n]? = some (.cells #[.int .u64 r.iso, .int .i64 r.cnt, .slice L.ia r.items.length L.icap, .pointer (some ⟨L.cb, 0, none⟩)] 276 (0, 0))) := by exact blk_keep B12.out KG.out fun o e => (hGq.out n o e).2.1 rfl
  have C13 : Hid (W13.heap[L.cb]? = some (.cells #[.slice (some ⟨jb, jo, none⟩) (ks.length + 1) kc'] 279 (0, 0))) := by exact blk_keep C12.out KG.out fun o e => (hGq.out _ o e).2.2.1 rfl
  have R13 : Hid (Row W13 160 1 (some ⟨jb, jo, none⟩) kc' ((ks.take (i + 1) ++ m :: ks.drop (i + 1)).map ptr)) := by
    exact R12.out.keep' KG.out fun y o hf e => (hGq.out y o e).2.2.2 (rowFp_some hf).1
  have LC13 : Hid (Lcl W13 q p n x med) := by exact LC12.out.keep KG.out (fun y o e => .inl (hGq.out y o e).1) hqp
  have K13 : Hid (Keep (fp TT n r L) W5 W13) := by exact K12.out.trans KG.out fun y o _ h => .inr (.inl (grow_row hicap h))
  clear hG N12 B12 C12 R12 RI12 LC12 K12 zc c2 fz KG
  have zc := (blk1 LC13.out.2.2.1).1
  obtain ⟨c0, c1, c2, c3, fz⟩ := blk4 B13.out
  clear c0 c1 c3
  refine held_next ⟨zc, c2⟩ ?_
  simp only [Act.put]
  go_wp2_with fail
  refine held_world ?_
  intro W14 hW14
  refine held_end ?_ ?_
  · refine ⟨?_, ?_, ?_, trivial⟩
    · exact ⟨.pointer (some ⟨n, 0, none⟩), fun w' hS => by simp [execOp, hS.1, go_sem]⟩
    · exact ⟨.pointer (some ⟨n, 0, none⟩), fun w' hS => by simp [execOp, hS.1, go_sem]⟩
    · exact ⟨.slice L.ia r.items.length L.icap, fun w' hS => by simp [execOp, hS.2, go_sem]⟩
  obtain ⟨arr13, harr13⟩ := hrow13.out.blk
  have hin : ib ≠ n := (blk_ne B13.out harr13 ty_ok.a).symm
  have hicb : ib ≠ L.cb := blk_ne harr13 C13.out ty_ok.d
  have hij : ib ≠ jb := by
    obtain ⟨ar, ha⟩ := R13.out.blk
    exact blk_ne harr13 ha ty_ok.f
  have KW14 : Hid (Keep (fun y _ => y = n) W13 W14) := by subst hW14; refine (Keep.refl _ _).set _ _ _ ?_; exact fun _ => rfl
  have B14 : Hid (W14.heap[n]? = some (.cells #[.int .u64 r.iso, .int .i64 r.cnt, .slice (some ⟨ib, io, none⟩) (r.items.length + 1) (fc ()), .pointer (some ⟨L.cb, 0, none⟩)] 276 (0, 0))) := by
    subst hW14; exact blk_set _ B13.out
  have C14 : Hid (W14.heap[L.cb]? = some (.cells #[.slice (some ⟨jb, jo, none⟩) (ks.length + 1) kc'] 279 (0, 0))) := by exact blk_keep C13.out KW14.out fun o e => hncb e.symm
  have R14 : Hid (Row W14 160 1 (some ⟨jb, jo, none⟩) kc' ((ks.take (i + 1) ++ m :: ks.drop (i + 1)).map ptr)) := by exact R13.out.keep' KW14.out fun y o hf e => hjn ((rowFp_some hf).1.symm.trans e)
  have LC14 : Hid (Lcl W14 q p n x med) := by exact LC13.out.keep KW14.out (fun y o e => .inl (e ▸ hnw)) hqp
  have K14 : Hid (Keep (fp TT n r L) W5 W14) := by exact K13.out.trans KW14.out fun y o _ h => .inl h
  have RI14 : Hid (Row W14 TT.pair TT.s (some ⟨ib, io, none⟩) (fc ()) (E.all r.items ++ E.enc hr.emp)) := by
    exact hrow13.out.keep' KW14.out fun y o hf e => hin ((rowFp_some hf).1.symm.trans e)
  clear hW14 KW14 B13 C13 R13 LC13 K13 hrow13 harr13 arr13 zc c2 fz
  have hil : i ≤ r.items.length := HLOC.out.1
  obtain ⟨c0, c1, c2, c3, fz⟩ := blk4 B14.out
  have zc := (blk1 LC14.out.2.2.1).1
  have hcn3 : ¬ (fc ()) = i := by omega
  have hxs : Hid ((E.all r.items ++ E.enc hr.emp).length = (r.items.length + 1) * 1) := by
    have : (E.all r.items ++ E.enc hr.emp).length = (r.items.length + 1) * 1 := by rw [List.length_append, E.all_len, E.len, Nat.add_mul, Nat.one_mul]; rfl
    exact this
  have hone : Hid (∀ v ∈ E.all r.items ++ E.enc hr.emp, v.oneCell' = true) := by
    intro v hv
    rcases List.mem_append.1 hv with h | h
    · unfold Enc.all at h
      obtain ⟨y, _, hy⟩ := List.mem_flatMap.1 h
      exact E.one y v hy
    · exact E.one _ v h
  have R14d : Hid (Row W14.drew 140 1 (some ⟨ib, io, none⟩) (fc ()) (E.all r.items ++ E.enc hr.emp)) := by exact RI14.out.keep (Keep.drew Nothing _) fun _ _ _ h => h
  clear c0 c1 c3
  go_wp2_with fail
  refine wp_calm (by kernel_rfl) (by kernel_rfl) rfl ?_
  simp only [List.flatMap_cons, List.flatMap_nil, checks, chk, nilLit, List.cons_append, List.nil_append, List.append_nil, Try.underlying3]
  go_wp2_with fail
  case' inl =>
    obtain ⟨rv, W15, hr7, hk7, hrow7⟩ := run_copyRoom (P := Try.prog) W14.drew 273 3 140 1 Try.underlying273 (by kernel_rfl) R14d.out hxs.out hil (some ⟨ib, io, none⟩) (some ⟨ib, io + i, none⟩) (fun h => absurd h (by omega)) (fun h => absurd h (by omega)) 0 1 hone.out
    simp only [Nat.add_sub_add_right] at hr7
    rw [hr7]
  case' inr =>
    obtain ⟨rv, W15, hr7, hk7, hrow7⟩ := run_copyRoom (P := Try.prog) W14.drew 273 3 140 1 Try.underlying273 (by kernel_rfl) R14d.out hxs.out hil (some ⟨ib, io + (i + 1), none⟩) (some ⟨ib, io + i, none⟩) (fun _ => by simp) (fun _ => by simp) (fc () - (i + 1)) (fc () - i) hone.out
    simp only [Nat.add_sub_add_right] at hr7
    rw [hr7]
  all_goals
    simp only [Result.andThen_ok]
    replace hrow7 := Lib.hid hrow7
    have KJ15 : Hid (Keep (fun y _ => y = ib) W14 W15) := by exact ((Keep.refl _ _).dr).trans (hk7.mono fun y o _ e => e.1 : Keep (fun y _ => y = ib) W14.drew W15) fun _ _ _ h => h
    have K15 : Hid (Keep (fp TT n r L) W5 W15) := by
      refine K14.out.dr.trans hk7 ?_
      rintro y o hy ⟨rfl, h1, h2⟩
      exact .inr (.inl (hfi.out y o hy ⟨y, io, rfl, rfl, by omega, by simp only [TT, E] at *; omega⟩))
    clear hr7 zc c2 fz hk7
    have B15 : Hid (W15.heap[n]? = some (.cells #[.int .u64 r.iso, .int .i64 r.cnt, .slice (some ⟨ib, io, none⟩) (r.items.length + 1) (fc ()), .pointer (some ⟨L.cb, 0, none⟩)] 276 (0, 0))) := by exact blk_keep B14.out KJ15.out fun o e => hin e.symm
    have C15 : Hid (W15.heap[L.cb]? = some (.cells #[.slice (some ⟨jb, jo, none⟩) (ks.length + 1) kc'] 279 (0, 0))) := by exact blk_keep C14.out KJ15.out fun o e => hicb e.symm
    have R15 : Hid (Row W15 160 1 (some ⟨jb, jo, none⟩) kc' ((ks.take (i + 1) ++ m :: ks.drop (i + 1)).map ptr)) := by exact R14.out.keep' KJ15.out fun y o hf e => hij (e.symm.trans (rowFp_some hf).1)
    have LC15 : Hid (Lcl W15 q p n x med) := by exact LC14.out.keep KJ15.out (fun y o e => by have := hibq.out; omega) hqp
    have hxl : Hid ((E.all r.items ++ E.enc hr.emp).length = (r.items.length + 1) * 1) := by exact hxs.out
    clear K14 B14 C14 R14 LC14 RI14 R14d hxs KJ15
    obtain ⟨c0, c1, c2, c3, fz⟩ := blk4 B15.out
    have zc := (blk1 LC15.out.2.2.1).1
    have xc : W15.cell? ⟨p, 0, none⟩ = some (.string (ky med)) := by have := LC15.out.2.2.2; simp only [World.cell?, this]; rfl
    have fz2 := hrow7.out.frozen
    obtain ⟨ov, hov⟩ := hrow7.out.there (i := i) (by omega)
    clear c0 c1 c3
    go_wp2_with fail
    rw [HQ_normal]
    go_wp2_with fail
    refine wp_calm (by kernel_rfl) (by kernel_rfl) rfl ?_
    simp only [List.flatMap_cons, List.flatMap_nil, checks, chk, nilLit, List.cons_append, List.nil_append, List.append_nil]
    go_wp2_with fail
    rw [HQ_normal]
    go_upto_region 26 with (fail)
    refine wp_world ?_
    intro W16 hW16
    have RI16 : Hid (Row W16 TT.pair TT.s (some ⟨ib, io, none⟩) (fc ()) (E.all (r.items.take i ++ med :: r.items.drop i))) := by
      have h1 := hrow7.out.setCells (E.enc med) (k := i * 1) (by
        have := hxl.out
        rw [E.len]
        simp only [List.length_append, List.length_take, List.length_drop, E.len, E.all_len] at *
        simp only [E] at *
        omega)
      have h2 := ins_cells E r.items med (E.enc hr.emp) hil (E.len _)
      simp only [show E.s = 1 from rfl] at h2
      simp only [Nat.mul_one] at h1 h2
      rw [← h2]
      subst hW16
      exact h1.keep (Keep.drew Nothing _) fun _ _ _ h => h
    have KJ16 : Hid (Keep (fun y _ => y = ib) W15 W16) := by
      subst hW16; refine ((Keep.refl _ _).set _ _ _ ?_).dr; exact fun _ => rfl
    have K16 : Hid (Keep (fp TT n r L) W5 W16) := by
      have hS : ∀ o, io + i ≤ o → o < io + (i + 1) → ib < W5.heap.size → fp TT n r L ib o := fun o h1 h2 hy => .inr (.inl (hfi.out ib o hy ⟨ib, io, rfl, rfl, by omega, by simp only [TT, E] at *; omega⟩))
      subst hW16
      exact (K15.out.set _ _ _ (hS _ (by omega) (by omega))).dr
    have B16 : Hid (W16.heap[n]? = some (.cells #[.int .u64 r.iso, .int .i64 r.cnt, .slice (some ⟨ib, io, none⟩) (r.items.length + 1) (fc ()), .pointer (some ⟨L.cb, 0, none⟩)] 276 (0, 0))) := by exact blk_keep B15.out KJ16.out fun o e => hin e.symm
    have C16 : Hid (W16.heap[L.cb]? = some (.cells #[.slice (some ⟨jb, jo, none⟩) (ks.length + 1) kc'] 279 (0, 0))) := by exact blk_keep C15.out KJ16.out fun o e => hicb e.symm
    have R16 : Hid (Row W16 160 1 (some ⟨jb, jo, none⟩) kc' ((ks.take (i + 1) ++ m :: ks.drop (i + 1)).map ptr)) := by exact R15.out.keep' KJ16.out fun y o hf e => hij (e.symm.trans (rowFp_some hf).1)
    have LC16 : Hid (Lcl W16 q p n x med) := by exact LC15.out.keep KJ16.out (fun y o e => by have := hibq.out; omega) hqp
    clear hW16 KJ16 K15 B15 C15 R15 LC15 hrow7 zc c2 fz xc fz2 hov
    have H16 : Hid (Hdr W16 b hr) := by exact blk_keep HH5.out K16.out fun o hf => hdr_apart HH5.out HN5.out hf
    have hlk : (ks.take (i + 1) ++ m :: ks.drop (i + 1)).length = ks.length + 1 := by simp; omega
    have hli : (r.items.take i ++ med :: r.items.drop i).length = r.items.length + 1 := by simp; omega
    have MID : Hid (Mid W5 W16 n r L ks i m med ⟨some ⟨ib, io, none⟩, fc (), L.cb, some ⟨jb, jo, none⟩, kc'⟩) := by
      refine ⟨K16.out, ⟨?_, RI16.out, ?_, ?_⟩, ?_⟩
      · simp only [grown, hli]; exact B16.out
      · simp only [grown, hli]; omega
      · intro ks2 hk2
        cases hk2
        simp only [hlk]
        exact ⟨C16.out, R16.out, by omega⟩
      · rintro y o hy (hf | hf | ⟨_, hf | hf⟩)
        · exact .inl hf
        · exact .inr (.inl (hfi.out y o hy hf))
        · exact .inr (.inr ⟨by simp [HKS.out], .inl hf⟩)
        · exact .inr (.inr ⟨by simp [HKS.out], .inr (hfj.out y o hy (by rw [Nat.mul_one]; exact hf))⟩)
    have zc := (blk1 LC16.out.2.2.1).1
    have xc : W16.cell? ⟨q, 0, none⟩ = some (.string (ky x)) := by have := LC16.out.1; simp only [World.cell?, this]; rfl
    have hag := HAG.out W4 m med W5 W16 _ (q + 2) K4.out HG5.out MID.out (by omega) zc H16.out
    clear B16 C16 R16 RI16
    go_wp2_with fail
    refine hag.mono ?_
    rintro e W17 ⟨hR, ⟨y, rep, sp, rfl⟩, hK17⟩
    have Y17 : Hid (W17.heap[q + 1]? = some (.cells #[] 138 (0, 0))) := by exact blk_keep LC16.out.2.1 hK17 fun o e => by have := XQ.out; omega
    replace hR := Lib.hid hR
    clear hag hK17 zc xc
    unfold vv
    go_wp2_with fail
    refine bodyPost_ret (results_cell_tmp2_row rfl _ _ (q + 1) 138 #[] (0, 0) _ rfl Y17.out Try.underlying138 rfl (by kernel_rfl)) rfl ?_
    exact ⟨W4, m, med, W5, W16, _, W17, K4.out, HG5.out, MID.out, hR.out, Keep.refl _ _⟩
end Go.Proofs.Ytfikahgofapobaa.T

namespace Go.Proofs.Ytfikahgofapobaa.T
open Go.RowKit Go.Wb

/-- What is given where an item is set below a node. -/
structure SetPre (w : World) (b : Nat) (hr : HRec) (pb po n : Nat) (H : Store It) (L : Nat → Lay) (h : Nat) (t : Tr It) (F : List Nat) (mn mx : Nat) : Prop where
  hdr : Hdr w b hr
  cell : w.cell? ⟨pb, po, none⟩ = some (ptr n)
  mem : Mem TT E w H L
  rep : Rep H hr.iso h n t F
  nd : F.Nodup
  wf : wfr 0 mn mx h t
  srt : Sorted ilt (flat h t)
  hmx : hr.mx = (mx : Int)
  h3 : 3 ≤ mx
  hb : mx ≤ 1000000000000
  hmn : mn ≤ mx / 2 ∧ mn + mx / 2 + 1 ≤ mx
  big : (flat h t).length ≤ 3000000000000000000

/-- Setting asks for a split. -/
def Asks (mx : Nat) : Nat → Tr It → Ky → Prop
  | 0, t, k => t.its.length = mx ∧ ∃ i, Loc t.its k i false
  | h + 1, t, k => t.its.length = mx ∧ ∃ i c, Loc t.its k i false ∧ t.ks[i]? = some c ∧ Asks mx h c k
theorem Asks.full {mx h : Nat} {t : Tr It} {k : Ky} (a : Asks mx h t k) : t.its.length = mx := by
  cases h with
  | zero => exact a.1
  | succ h => exact a.1
theorem Asks.loc {mx h : Nat} {t : Tr It} {k : Ky} (a : Asks mx h t k) : ∃ i, Loc t.its k i false := by
  cases h with
  | zero => exact a.2
  | succ h => obtain ⟨_, i, c, h1, _⟩ := a; exact ⟨i, h1⟩

/-- What setting leaves. -/
def SetPost (w : World) (H : Store It) (L : Nat → Lay) (F : List Nat) (iso : Int) (mn mx h n : Nat) (t : Tr It) (x ep : It) (e : Ending) (w' : World) : Prop :=
  (Asks mx h t (ky x) ∧ AskPost w ep e w') ∨
  ¬ Asks mx h t (ky x) ∧ ∃ p t' F' H' L', e = .returned (.tuple #[vv (Option.getD p ep), .bool p.isSome, .bool false]) ∧ Step TT E w H L F w' H' L' F' ∧ Rep H' iso h n t' F' ∧ F'.Nodup ∧ wfr t.its.length mn mx h t' ∧ Put ilt (flat h t) x (flat h t') p

theorem loc_found {its : List It} {k : Ky} {i : Nat} (hs : Sorted ilt its) (h : Loc its k i true) : ∃ A y B, its = A ++ y :: B ∧ A.length = i ∧ its[i]? = some y ∧ klt (ky y) k = false ∧ klt k (ky y) = false ∧
    (∀ a ∈ A, klt (ky a) k = true) ∧ ∀ b ∈ B, klt k (ky b) = true := by
  obtain ⟨_, y, hy, h1, h2⟩ := h
  obtain ⟨hil, _⟩ := List.getElem?_eq_some_iff.1 hy
  obtain ⟨A, y', B, rfl, rfl, hy'⟩ := split_at its i hil
  obtain rfl : y = y' := by rw [hy] at hy'; exact Option.some.inj hy'
  obtain ⟨_, hB, hAB⟩ := Sorted.of_append hs
  refine ⟨A, y, B, rfl, rfl, hy, h2, h1, fun a ha => ?_, fun b hb => ?_⟩
  · exact klt_of_eq h2 h1 (hAB a ha y (by simp))
  · exact klt_of_eq' h2 h1 ((List.pairwise_cons.1 hB).1 b hb)

theorem loc_none {its : List It} {k : Ky} {i : Nat} (h : Loc its k i false) : (∀ a ∈ its.take i, klt (ky a) k = true) ∧ ∀ b ∈ its.drop i, klt k (ky b) = true := by
  obtain ⟨hi, h1, h2⟩ := h
  refine ⟨fun a ha => ?_, fun b hb => ?_⟩
  · obtain ⟨j, hj⟩ := List.mem_iff_getElem?.1 ha
    rw [List.getElem?_take] at hj
    split at hj
    · exact h1 j a ‹_› hj
    · cases hj
  · obtain ⟨j, hj⟩ := List.mem_iff_getElem?.1 hb
    rw [List.getElem?_drop] at hj
    exact h2 (i + j) b (by omega) hj

/-- Setting in a leaf. -/
theorem set_zero {w : World} {b : Nat} {hr : HRec} {pb po n : Nat} {H : Store It} {L : Nat → Lay} {t : Tr It} {F : List Nat} {mn mx : Nat} (P : SetPre w b hr pb po n H L 0 t F mn mx) (x : It) :
    Calls Try.prog 214 #[ptr b, .pointer (some ⟨pb, po, none⟩), pv x] w (SetPost w H L F hr.iso mn mx 0 n t x hr.emp) := by
  obtain ⟨hdr, cell, mem, rep, nd, wf, srt, hmx, h3, hb, hmn, big⟩ := P
  obtain ⟨r, hr1, hiso, hits, hks0, hkn, hcnt, rfl⟩ := rep
  have hat := mem.at_ n r hr1
  have hwl := wf.2.1
  obtain ⟨i, f, hloc⟩ := Loc.ex (ky x) t.its srt
  rw [← hits] at hloc
  have hs : Sorted ilt r.items := by rw [hits]; exact srt
  have hlen : r.items.length ≤ 1000000000000 := by rw [hits]; omega
  obtain ⟨its, ks⟩ := t
  simp only [Tr.its, Tr.ks] at *
  subst hits
  subst hks0
  cases f with
  | true =>
    obtain ⟨A, y, B, hits2, hA, hy, h1, h2, hlA, hlB⟩ := loc_found hs hloc
    refine (set_found hdr cell hat hiso hlen hs hloc hy).mono ?_
    rintro e w' ⟨rfl, hk, hat'⟩
    have hset : r.items.set i x = A ++ x :: B := by rw [hits2, ← hA]; simp
    have st := Step.one mem hr1 hk hat' fun c o _ hf => hf
    refine .inr ⟨fun a => (by obtain ⟨j, hj⟩ := a.loc; cases (Loc.uniq hs hloc hj).2), some y, .node (r.items.set i x) [], [n], _, _, rfl, st, ⟨_, upd_same _ _ _, hiso, rfl, rfl, hkn, ?_, rfl⟩, by simp, ⟨by simp [Tr.its], by simp [Tr.its]; omega, rfl⟩, ?_⟩
    · simp only [flat, Tr.its, List.length_set] at hcnt ⊢; exact hcnt
    · exact ⟨A, B, hits2, hset, h1, h2, hlA, hlB⟩
  | false =>
    obtain ⟨hA, hB⟩ := loc_none hloc
    by_cases hfull : hr.mx = r.items.length
    · refine (set_full hdr cell hat hiso hlen hs hloc hkn hfull).mono ?_
      rintro e w' ⟨rfl, hk⟩
      exact .inl ⟨⟨by simp only [Tr.its]; omega, i, hloc⟩, ⟨rfl, hk⟩⟩
    · simp only [flat, Tr.its] at hcnt big
      refine (set_leaf hdr cell hat hiso hlen hs hloc hkn hfull (by omega) (by omega)).mono ?_
      rintro e w' ⟨rfl, hk, L', hat', hfp⟩
      have st := Step.one mem hr1 hk hat' hfp
      have hil := hloc.1
      refine .inr ⟨fun a => hfull (by have := a.full; simp only [Tr.its] at this; omega), none, .node (r.items.take i ++ x :: r.items.drop i) [], [n], _, _, rfl, st, ⟨_, upd_same _ _ _, hiso, rfl, rfl, hkn, ?_, rfl⟩, by simp, ⟨?_, ?_, rfl⟩, ?_⟩
      · simp only [flat, Tr.its, List.length_append, List.length_cons, List.length_take, List.length_drop]; omega
      · simp only [Tr.its, List.length_append, List.length_cons, List.length_take, List.length_drop]; omega
      · simp only [Tr.its, List.length_append, List.length_cons, List.length_take, List.length_drop]; omega
      · exact ⟨r.items.take i, r.items.drop i, by simp [flat, Tr.its], rfl, hA, hB⟩
end Go.Proofs.Ytfikahgofapobaa.T

namespace Go.Proofs.Ytfikahgofapobaa.T
open Go.RowKit Go.Wb

theorem rep_outside {H : Store It} {c : Int} {h n : Nat} {ns : List Nat} {ks : List (Tr It)} {F : List Nat} {r : NRec It} (hr : RepL (Rep H c h) ns ks F) (hn : n ∉ F) : RepL (Rep (upd H n (some r)) c h) ns ks F :=
  hr.imp fun _ _ _ hG hR => hR.congr fun m hm => upd_ne _ _ fun e => hn (e ▸ hG m hm)

/-- Setting an item that an inner node has. -/
theorem set_succ_found {w : World} {b : Nat} {hr : HRec} {pb po n : Nat} {H : Store It} {L : Nat → Lay} {h : Nat} {t : Tr It} {F : List Nat} {mn mx : Nat} (P : SetPre w b hr pb po n H L (h + 1) t F mn mx) (x : It) {i : Nat} (hloc : Loc t.its (ky x) i true) :
    Calls Try.prog 214 #[ptr b, .pointer (some ⟨pb, po, none⟩), pv x] w (SetPost w H L F hr.iso mn mx (h + 1) n t x hr.emp) := by
  obtain ⟨hdr, cell, mem, rep, nd, wf, srt, hmx, h3, hb, hmn, big⟩ := P
  obtain ⟨r, ns, F', hr1, hiso, hits, hkn, hcnt, hrl, rfl⟩ := rep
  have hat := mem.at_ n r hr1
  obtain ⟨w1, w2, w3, w4⟩ := id wf
  have hs : Sorted ilt r.items := by rw [hits]; exact own_sorted wf srt
  have hlen : r.items.length ≤ 1000000000000 := by rw [hits]; omega
  obtain ⟨its, ks⟩ := t
  simp only [Tr.its, Tr.ks] at *
  subst hits
  obtain ⟨A, y, B, hits2, hA, hy, h1, h2, hlA, hlB⟩ := loc_found hs hloc
  refine (set_found hdr cell hat hiso hlen hs hloc hy).mono ?_
  rintro e w' ⟨rfl, hk, hat'⟩
  have hset : r.items.set i x = A ++ x :: B := by rw [hits2, ← hA]; simp
  have st := Step.one mem hr1 hk hat' fun c o _ hf => hf
  have hnF : n ∉ F' := (List.nodup_cons.1 nd).1
  have st2 := st.frame [] F' (fun m hm => by
    simp only [List.nil_append] at hm
    exact ⟨by simp; exact fun e => hnF (e ▸ hm), RepL.dom (fun _ _ _ h => Rep.dom h) hrl m hm⟩)
  obtain ⟨C, D, hCD⟩ := flat_item (h := h) (A := A) (B := B) (y := y) (ks := ks) (by rw [← hits2]; exact w3)
  have hf0 : flat (h + 1) (.node r.items ks) = C ++ y :: D := by rw [hits2]; exact hCD y
  have hf1 : flat (h + 1) (.node (r.items.set i x) ks) = C ++ x :: D := by rw [hset]; exact hCD x
  rw [hf0] at srt
  obtain ⟨_, sD, sCD⟩ := Sorted.of_append srt
  refine .inr ⟨fun a => (by obtain ⟨j, hj⟩ := a.loc; cases (Loc.uniq hs hloc hj).2), some y, .node (r.items.set i x) ks, n :: F', _, _, rfl, st2, ⟨_, ns, F', upd_same _ _ _, hiso, rfl, hkn, ?_, rep_outside hrl hnF, rfl⟩, nd, ⟨by simp [Tr.its], by simp [Tr.its]; omega, by simp [Tr.its, Tr.ks]; omega, w4⟩, ?_⟩
  · rw [hf1]; rw [hf0] at hcnt; simpa using hcnt
  · refine ⟨C, D, hf0, hf1, h1, h2, fun a ha => ?_, fun d hd => ?_⟩
    · exact klt_of_eq h1 h2 (sCD a ha y (by simp))
    · exact klt_of_eq' h1 h2 ((List.pairwise_cons.1 sD).1 d hd)
end Go.Proofs.Ytfikahgofapobaa.T

namespace Go.Proofs.Ytfikahgofapobaa.T
open Go.RowKit Go.Wb

theorem SetPre.bnd {w : World} {b : Nat} {hr : HRec} {pb po n : Nat} {H : Store It} {L : Nat → Lay} {h : Nat} {t : Tr It} {F : List Nat} {mn mx : Nat} (P : SetPre w b hr pb po n H L h t F mn mx) : ∀ m, m ∈ F → m < w.heap.size := fun m hm => by
  obtain ⟨r, hr⟩ := P.rep.dom m hm
  exact P.mem.lt hr

/-- What is given for the child to which a key belongs. -/
theorem SetPre.child {w : World} {b : Nat} {hr : HRec} {pb po n : Nat} {H : Store It} {L : Nat → Lay} {h : Nat} {t : Tr It} {F : List Nat} {mn mx : Nat} (P : SetPre w b hr pb po n H L (h + 1) t F mn mx) {r : NRec It} (hr1 : H n = some r) {ns : List Nat} (hkn : r.kids = some ns)
    {kb ko : Nat} (hka : (L n).ka = some ⟨kb, ko, none⟩) {i c : Nat} (hc : ns[i]? = some c) {k : Tr It} {Fk : List Nat} (hrep : Rep H hr.iso h c k Fk) (nd : Fk.Nodup) (wf : wfr mn mn mx h k) (srt : Sorted ilt (flat h k)) (big : (flat h k).length ≤ 3000000000000000000)
    {W : World} (hk : Keep Nothing w W) : SetPre W b hr kb (ko + i) c H L h k Fk mn mx := by
  have hat := (P.mem.at_ n r hr1).keep hk fun _ _ _ h => h
  obtain ⟨_, g2, _⟩ := hat.2.2.2 ns hkn
  rw [hka] at g2
  exact ⟨blk_keep P.hdr hk fun _ h => h, g2.cell (by simp [hc]), P.mem.keepS hk fun _ _ _ _ _ _ h => h, hrep, nd, wf.weaken (Nat.zero_le _), srt, P.hmx, P.h3, P.hb, P.hmn, big⟩

/-- A call below that does not ask. -/
def GoG (H : Store It) (L : Nat → Lay) (Fk : List Nat) (iso : Int) (mn mx h c : Nat) (k : Tr It) (x ep : It) (y : It) (rep : Bool) (W W' : World) : Prop :=
  ∃ p k' F' H' L', y = Option.getD p ep ∧ rep = p.isSome ∧ Step TT E W H L Fk W' H' L' F' ∧ Rep H' iso h c k' F' ∧ F'.Nodup ∧ wfr k.its.length mn mx h k' ∧ Put ilt (flat h k) x (flat h k') p

theorem put_len {l l' : List It} {x : It} {p : Option It} (h : Put ilt l x l' p) : l'.length = l.length + if p.isSome then 0 else 1 := by
  cases p with
  | none => obtain ⟨A, B, rfl, rfl, _⟩ := h; simp; omega
  | some p => obtain ⟨A, B, rfl, rfl, _⟩ := h; simp

/-- Setting below: the child doesn't ask for a split. -/
theorem set_succ_go {w : World} {b : Nat} {hr : HRec} {pb po n : Nat} {H : Store It} {L : Nat → Lay} {h : Nat} {t : Tr It} {F : List Nat} {mn mx : Nat} (P : SetPre w b hr pb po n H L (h + 1) t F mn mx) (x : It) {i : Nat} (hloc : Loc t.its (ky x) i false)
    {k : Tr It} (hk : t.ks[i]? = some k) (hna : ¬ Asks mx h k (ky x))
    (IH : ∀ (w : World) (pb po n : Nat) (H : Store It) (L : Nat → Lay) (F : List Nat), SetPre w b hr pb po n H L h k F mn mx → Calls Try.prog 214 #[ptr b, .pointer (some ⟨pb, po, none⟩), pv x] w (SetPost w H L F hr.iso mn mx h n k x hr.emp)) :
    Calls Try.prog 214 #[ptr b, .pointer (some ⟨pb, po, none⟩), pv x] w (SetPost w H L F hr.iso mn mx (h + 1) n t x hr.emp) := by
  have P' := P
  obtain ⟨hdr, cell, mem, rep, nd, wf, srt, hmx, h3, hb, hmn, big⟩ := P
  obtain ⟨r, ns, F', hr1, hiso, hits, hkn, hcnt, hrl, rfl⟩ := rep
  have hat := mem.at_ n r hr1
  obtain ⟨w1, w2, w3, w4⟩ := id wf
  have hs : Sorted ilt r.items := by rw [hits]; exact own_sorted wf srt
  have hlen : r.items.length ≤ 1000000000000 := by rw [hits]; omega
  obtain ⟨its, ks⟩ := t
  simp only [Tr.its, Tr.ks] at *
  subst hits
  obtain ⟨hil, _⟩ := List.getElem?_eq_some_iff.1 hk
  obtain ⟨K1, k0, K2, hks, hK1, hk0⟩ := split_at ks i hil
  obtain rfl : k = k0 := by rw [hk] at hk0; exact Option.some.inj hk0
  subst hks
  obtain ⟨N1, c, N2, F1, Fk, F2, rfl, e1, e2, R1, Rk, R2, rfl⟩ := hrl.split
  have hc : (N1 ++ c :: N2)[i]? = some c := by rw [← hK1, ← e1]; simp
  have hnF := List.nodup_cons.1 nd
  have nd2 := List.nodup_append.1 hnF.2
  have nd1 := List.nodup_append.1 nd2.1
  obtain ⟨kb, ko, hka, _⟩ := ((hat.2.2.2 _ hkn).2.1).form (by simp; omega)
  have wfk := w4 k (by simp)
  have hI : r.items.take i ++ r.items.drop i = r.items := List.take_append_drop _ _
  have hIl : (r.items.take i).length = i := by rw [List.length_take]; have := hloc.1; omega
  have hIr : (r.items.drop i).length = K2.length := by rw [List.length_drop]; simp at w3; omega
  obtain ⟨lA, lB⟩ := loc_none hloc
  obtain ⟨C, D, hCD, hC, hD⟩ := flat_around (lt := ilt) (x := x) ⟨fun a => kord.irr _, fun a b c => kord.tr _ _ _, fun a b c => kord.co _ _ _⟩ (h := h) (I1 := r.items.take i) (I2 := r.items.drop i) (K1 := K1) (K2 := K2) (k := k) (by omega) (by omega) (by rw [hI]; exact srt) lA lB
  rw [hI] at hCD
  have srtk : Sorted ilt (flat h k) := by rw [hCD] at srt; exact srt.mid
  have bigk : (flat h k).length ≤ 3000000000000000000 := by rw [hCD] at big; simp at big; omega
  refine (set_inner_go hdr cell hat hiso hlen hs hloc (by omega) (by omega) hkn hka (List.getElem?_eq_some_iff.1 hc).1 (GoG H L Fk hr.iso mn mx h c k x hr.emp) fun W hK => ?_).mono ?_
  · refine (IH W kb (ko + i) c H L Fk (P'.child hr1 hkn hka hc Rk nd1.2.1 wfk srtk bigk hK)).mono ?_
    rintro e W' (⟨ha, _⟩ | ⟨_, p, k', G, H', L', rfl, st, rep', nd', wf', put⟩)
    · exact absurd ha hna
    · obtain ⟨o1, o2⟩ := st.out n (fun hn => hnF.1 (by simp [hn])) r hr1
      refine ⟨Option.getD p hr.emp, p.isSome, rfl, st.keep.mono fun x o _ ⟨m, q, _, hq, hf⟩ => (mem.at_ m q hq).lt hf, ?_, p, k', G, H', L', rfl, rfl, st, rep', nd', wf', put⟩
      have := st.mem.at_ n r o1
      rwa [o2] at this
  · rintro e w' ⟨W, W', y, rp, hK, ⟨p, k', G, H', L', rfl, rfl, st, rep', nd', wf', put⟩, rfl, hK2, hK3, hat'⟩
    have st1 := Step.pre hK st
    have dom : ∀ m, m ∈ (n :: F1) ++ F2 → m ∉ Fk ∧ ∃ q, H m = some q := fun m hm => by
      refine ⟨fun hf => ?_, P'.rep.dom m ?_⟩
      · rcases List.mem_append.1 hm with hm | hm
        · rcases List.mem_cons.1 hm with rfl | hm
          · exact hnF.1 (by simp [hf])
          · exact nd1.2.2 m hm m hf rfl
        · exact nd2.2.2 m (by simp [hf]) m hm rfl
      · simp at hm ⊢
        rcases hm with h | h | h <;> simp [h]
    have st2 := st1.frame (n :: F1) F2 dom
    obtain ⟨o1, o2⟩ := st.out n (fun hn => hnF.1 (by simp [hn])) r hr1
    have hcl := Step.clear mem hK st
    have st3 := Step.then mem st2 (n := n) (r := r) (r' := { r with cnt := if p.isSome then r.cnt else r.cnt + 1 }) (l' := L n) (X := fun b o => w.heap.size ≤ b ∧ b < W.heap.size) (by simp) o1 (hK3.mono fun x o _ hx => by
        rcases hx with ⟨rfl, _⟩ | hx
        · exact .inl (.inl rfl)
        · exact .inr hx) (fun _ _ h => h.1) (fun m q hq x o hf => hcl m q hq x o hf) hat' (fun x o _ hf => by rw [o2]; exact hf)
    have nF' : ∀ m, m ∈ G → m ∈ Fk ∨ w.heap.size ≤ m := fun m hm => st1.new m hm
    have old : ∀ m, m ∈ n :: (F1 ++ Fk ++ F2) → m < w.heap.size := P'.bnd
    have hnG : n ∉ G := fun hn => by
      rcases nF' n hn with h | h
      · exact hnF.1 (by simp [h])
      · have := old n (by simp); omega
    have nin : n ∉ F1 ++ G ++ F2 := fun hn => by
      simp only [List.mem_append] at hn
      rcases hn with (hn | hn) | hn
      · exact hnF.1 (by simp [hn])
      · exact hnG hn
      · exact hnF.1 (by simp [hn])
    have ndG : (n :: (F1 ++ G ++ F2)).Nodup := by
      refine List.nodup_cons.2 ⟨nin, List.nodup_append.2 ⟨List.nodup_append.2 ⟨nd1.1, nd', ?_⟩, nd2.2.1, ?_⟩⟩
      · rintro a ha _ hb rfl
        rcases nF' a hb with h | h
        · exact nd1.2.2 a ha a h rfl
        · have := old a (by simp [ha]); omega
      · rintro a ha _ hb rfl
        rcases List.mem_append.1 ha with ha | ha
        · exact nd2.2.2 a (by simp [ha]) a hb rfl
        · rcases nF' a ha with h | h
          · exact nd2.2.2 a (by simp [h]) a hb rfl
          · have := old a (by simp [hb]); omega
    have hlen' := put_len put
    have flat' : flat (h + 1) (.node r.items (K1 ++ k' :: K2)) = C ++ flat h k' ++ D := hCD k'
    refine .inr ⟨fun a => ?_, p, .node r.items (K1 ++ k' :: K2), n :: (F1 ++ G ++ F2), upd H' n (some { r with cnt := if p.isSome then r.cnt else r.cnt + 1 }), upd L' n (L n), rfl, ?_, ⟨{ r with cnt := if p.isSome then r.cnt else r.cnt + 1 }, N1 ++ c :: N2, F1 ++ G ++ F2, upd_same _ _ _, hiso, rfl, hkn, ?_, ?_, rfl⟩, ndG, ⟨by simp [Tr.its], by simp [Tr.its]; omega, by simp [Tr.its, Tr.ks] at w3 ⊢; omega, ?_⟩, ?_⟩
    · obtain ⟨_, j, c', h1, h2, h3⟩ := a
      obtain rfl := (Loc.uniq hs hloc h1).1
      simp only [Tr.ks] at h2
      rw [hk] at h2
      obtain rfl := Option.some.inj h2
      exact hna h3
    · exact st3
    · rw [flat']
      rw [hCD k] at hcnt
      simp only [List.length_append] at hcnt ⊢
      cases p <;> simp at hlen' ⊢ <;> omega
    · have out' : ∀ m, m ∈ F1 ++ F2 → upd H' n (some { r with cnt := if p.isSome then r.cnt else r.cnt + 1 }) m = H m := fun m hm => by
        have hmn : m ≠ n := fun e => hnF.1 (by subst e; simp only [List.mem_append] at hm ⊢; rcases hm with h | h <;> simp [h])
        rw [upd_ne _ _ hmn]
        obtain ⟨q, hq⟩ := (dom m (by simp only [List.mem_append, List.mem_cons] at hm ⊢; rcases hm with h | h <;> simp [h])).2
        rw [hq]
        exact (st.out m (dom m (by simp only [List.mem_append, List.mem_cons] at hm ⊢; rcases hm with h | h <;> simp [h])).1 q hq).1
      have A1 : RepL (Rep (upd H' n (some { r with cnt := if p.isSome then r.cnt else r.cnt + 1 })) hr.iso h) N1 K1 F1 := R1.imp fun a t G hG hR => hR.congr fun m hm => out' m (by simp [hG m hm])
      have A2 : RepL (Rep (upd H' n (some { r with cnt := if p.isSome then r.cnt else r.cnt + 1 })) hr.iso h) N2 K2 F2 := R2.imp fun a t G hG hR => hR.congr fun m hm => out' m (by simp [hG m hm])
      have Ak : Rep (upd H' n (some { r with cnt := if p.isSome then r.cnt else r.cnt + 1 })) hr.iso h c k' G := rep'.congr fun m hm => upd_ne _ _ fun e => hnG (e ▸ hm)
      rw [List.append_assoc]
      exact RepL.join (R := Rep (upd H' n (some { r with cnt := if p.isSome then r.cnt else r.cnt + 1 })) hr.iso h) (N2 := c :: N2) (K2 := k' :: K2) ⟨G, F2, Ak, A2, rfl⟩ A1
    · intro k2 hk2
      simp only [Tr.ks, List.mem_append, List.mem_cons] at hk2
      rcases hk2 with hk2 | rfl | hk2
      · exact w4 k2 (by simp [hk2])
      · exact wf'.weaken (Nat.le_trans wfk.own_le.1 wf'.own_le.1)
      · exact w4 k2 (by simp [hk2])
    · rw [hCD k, flat']
      exact put.frame C D hC hD
end Go.Proofs.Ytfikahgofapobaa.T

namespace Go.Proofs.Ytfikahgofapobaa.T
open Go.RowKit Go.Wb

theorem iord : Ord ilt := ⟨fun _ => kord.irr _, fun _ _ _ => kord.tr _ _ _, fun _ _ _ => kord.co _ _ _⟩

/-- Setting below: child and node are full. -/
theorem set_succ_full {w : World} {b : Nat} {hr : HRec} {pb po n : Nat} {H : Store It} {L : Nat → Lay} {h : Nat} {t : Tr It} {F : List Nat} {mn mx : Nat} (P : SetPre w b hr pb po n H L (h + 1) t F mn mx) (x : It) {i : Nat} (hloc : Loc t.its (ky x) i false)
    {k : Tr It} (hk : t.ks[i]? = some k) (hfull : t.its.length = mx) (ha : Asks mx h k (ky x))
    (IH : ∀ (w : World) (pb po n : Nat) (H : Store It) (L : Nat → Lay) (F : List Nat), SetPre w b hr pb po n H L h k F mn mx → Calls Try.prog 214 #[ptr b, .pointer (some ⟨pb, po, none⟩), pv x] w (SetPost w H L F hr.iso mn mx h n k x hr.emp)) :
    Calls Try.prog 214 #[ptr b, .pointer (some ⟨pb, po, none⟩), pv x] w (SetPost w H L F hr.iso mn mx (h + 1) n t x hr.emp) := by
  obtain ⟨r, N1, N2, c, K1, K2, F1, Fk, F2, A⟩ := around_of P.rep P.wf hk
  have hat := P.mem.at_ n r A.rec_
  have ht := A.tq
  have hits : t.its = r.items := by rw [ht]; rfl
  have hs : Sorted ilt r.items := by rw [← hits]; exact own_sorted P.wf P.srt
  have hlen : r.items.length ≤ 1000000000000 := by have := P.hb; have := A.le; omega
  obtain ⟨kb, ko, hka, _⟩ := ((hat.2.2.2 _ A.kids).2.1).form (by simp; omega)
  have hc : (N1 ++ c :: N2)[i]? = some c := by rw [← A.ln]; simp
  obtain ⟨lA, lB⟩ := loc_none hloc
  have hfl : ∃ C D, flat (h + 1) t = C ++ flat h k ++ D := by
    have e : t = .node (t.its.take i ++ t.its.drop i) (K1 ++ k :: K2) := by rw [List.take_append_drop, hits]; exact ht
    have := P.srt
    rw [e] at this ⊢
    obtain ⟨C, D, hCD, _⟩ := flat_around (lt := ilt) (x := x) iord (h := h) (I1 := t.its.take i) (I2 := t.its.drop i) (K1 := K1) (K2 := K2) (k := k) (by rw [List.length_take, hits, A.lr, A.lk]; omega) (by rw [List.length_drop, hits, A.lr]; omega) this lA lB
    exact ⟨C, D, hCD k⟩
  obtain ⟨C, D, hCD⟩ := hfl
  have srt := P.srt
  have big := P.big
  have nd := P.nd
  rw [hCD] at srt big
  rw [A.Fq] at nd
  have nd2 := List.nodup_append.1 (List.nodup_cons.1 nd).2
  have ndk := (List.nodup_append.1 nd2.1).2.1
  rw [hits] at hloc hfull
  refine (set_inner_full P.hdr P.cell hat A.isoq hlen hs hloc (by rw [P.hmx, hfull]) A.kids hka (List.getElem?_eq_some_iff.1 hc).1 fun W hK => ?_).mono ?_
  · refine (IH W kb (ko + i) c H L Fk (P.child A.rec_ A.kids hka hc A.rk ndk A.wk srt.mid (by simp at big; omega) hK)).mono ?_
    rintro e W' (⟨_, h2⟩ | ⟨h1, _⟩)
    · exact h2
    · exact absurd ha h1
  · intro e w' h1
    exact .inl ⟨⟨by rw [hits]; exact hfull, i, k, by rw [hits]; exact hloc, hk, ha⟩, h1⟩
end Go.Proofs.Ytfikahgofapobaa.T

namespace Go.Proofs.Ytfikahgofapobaa.T
open Go.RowKit Go.Wb

/-- What the split of a child leaves. -/
def Halves (H : Store It) (L : Nat → Lay) (c : Nat) (rc : NRec It) (iso : Int) (i : Nat) (m : Nat) (med : It) (W W' : World) : Prop :=
  rc.items[i]? = some med ∧ W.heap.size ≤ m ∧ ∃ L', Step TT E W H L [c] W' (upd (upd H c (some (halfL H iso rc i))) m (some (halfR H iso rc i))) L' [c, m]

theorem split_step {w : World} {b c : Nat} {hr : HRec} {H : Store It} {L : Nat → Lay} {h : Nat} {k : Tr It} {Fk : List Nat} {mn mx : Nat} (hdr : Hdr w b hr) (mem : Mem TT E w H L) (hmx : hr.mx = (mx : Int)) (h3 : 3 ≤ mx) (hb : mx ≤ 1000000000000)
    {l : Nat} (rk : Rep H hr.iso h c k Fk) (wk : wfr l mn mx h k) (ndk : Fk.Nodup) (hl : k.its.length = mx) (big : (flat h k).length ≤ 3000000000000000000) {rc : NRec It} (hrc : H c = some rc) :
    Calls Try.prog 215 #[ptr b, ptr c] w fun e W' => ∃ m med, e = .returned (.tuple #[ptr m, pv med]) ∧ Keep (fp TT c rc (L c)) w W' ∧ Halves H L c rc hr.iso (mx / 2) m med w W' := by
  obtain ⟨_, q, e1, hci, hits, _⟩ := rk.root
  rw [hrc] at e1
  cases e1
  refine (split_any (i := mx / 2) hdr (mem.at_ c rc hrc) hmx (by rw [hits]; exact hl) h3 hb rfl (cntOf H) fun ks hks => ?_).mono ?_
  · obtain ⟨o1, o2, o3⟩ := rk.kids_ok wk ndk hrc hks
    refine ⟨by omega, by omega, fun a ha => ?_⟩
    obtain ⟨p1, p2, q, p3, p4⟩ := o3 a ha
    exact ⟨p1, p2, q, _, mem.at_ a q p3, p4⟩
  · intro e W' hp
    unfold SplitPost at hp
    rw [hci] at hp
    obtain ⟨m, L1, L2, med, h1, rfl, h2, h4, h5, h6, h7, h8, h9⟩ := hp
    exact ⟨m, med, rfl, h4, h1, h2, _, Step.two mem hrc h2 h4 h5 h6 h7 h8 h9⟩

/-- What the second call leaves. -/
def RetryR (H : Store It) (L : Nat → Lay) (F : List Nat) (iso : Int) (mn mx h n : Nat) (t : Tr It) (x ep : It) (_m : Nat) (_med : It) (W _W' _W2 : World) (_L2 : Lay) (e : Ending) (W3 : World) : Prop :=
  ∃ p t' F' H' L', e = .returned (.tuple #[vv (Option.getD p ep), .bool p.isSome, .bool false]) ∧ Step TT E W H L F W3 H' L' F' ∧ Rep H' iso h n t' F' ∧ F'.Nodup ∧ wfr t.its.length mn mx h t' ∧ Put ilt (flat h t) x (flat h t') p

/-- Where a key belongs behind a split. -/
theorem loc_split {its : List It} {k : Ky} {i : Nat} (hloc : Loc its k i false) {med : It} (hs : Sorted ilt (its.take i ++ med :: its.drop i)) {j : Nat} (h : Loc (its.take i ++ med :: its.drop i) k j false) : j = i ∨ j = i + 1 := by
  obtain ⟨lA, lB⟩ := loc_none hloc
  have hil := hloc.1
  have hA : (its.take i).length = i := by simp; omega
  have mk : ∀ (A B : List It) (l : List It), A ++ B = l → (∀ a ∈ A, klt (ky a) k = true) → (∀ b ∈ B, klt k (ky b) = true) → Loc l k A.length false := by
    rintro A B l rfl h1 h2
    refine ⟨by simp, fun j y hj hy => ?_, fun j y hj hy => ?_⟩
    · rw [List.getElem?_append_left hj] at hy
      exact h1 y (List.mem_of_getElem? hy)
    · rw [List.getElem?_append_right hj] at hy
      exact h2 y (List.mem_of_getElem? hy)
  cases h1 : klt k (ky med) with
  | true =>
    have := mk (its.take i) (med :: its.drop i) _ rfl lA (fun b hb => by
      rcases List.mem_cons.1 hb with rfl | hb
      · exact h1
      · exact lB b hb)
    rw [hA] at this
    exact .inl (Loc.uniq hs h this).1
  | false =>
    cases h2 : klt (ky med) k with
    | true =>
      have := mk (its.take i ++ [med]) (its.drop i) (its.take i ++ med :: its.drop i) (by simp) (fun a ha => by
        rcases List.mem_append.1 ha with ha | ha
        · exact lA a ha
        · obtain rfl := List.mem_singleton.1 ha; exact h2) lB
      rw [List.length_append, hA] at this
      exact .inr (Loc.uniq hs h this).1
    | false =>
      have : Loc (its.take i ++ med :: its.drop i) k i true := ⟨by simp; omega, med, by rw [List.getElem?_append_right (by omega), hA]; simp, h1, h2⟩
      have := (Loc.uniq hs h this).2
      cases this

/-- Setting below: the child is full, the node is not. -/
theorem set_succ_retry {w : World} {b : Nat} {hr : HRec} {pb po n : Nat} {H : Store It} {L : Nat → Lay} {h : Nat} {t : Tr It} {F : List Nat} {mn mx : Nat} (P : SetPre w b hr pb po n H L (h + 1) t F mn mx) (x : It) {i : Nat} (hloc : Loc t.its (ky x) i false)
    {k : Tr It} (hk : t.ks[i]? = some k) (hfull : t.its.length ≠ mx) (ha : Asks mx h k (ky x))
    (IH : ∀ (k : Tr It) (w : World) (pb po n : Nat) (H : Store It) (L : Nat → Lay) (F : List Nat), SetPre w b hr pb po n H L h k F mn mx → Calls Try.prog 214 #[ptr b, .pointer (some ⟨pb, po, none⟩), pv x] w (SetPost w H L F hr.iso mn mx h n k x hr.emp)) :
    Calls Try.prog 214 #[ptr b, .pointer (some ⟨pb, po, none⟩), pv x] w (SetPost w H L F hr.iso mn mx (h + 1) n t x hr.emp) := by
  obtain ⟨r, N1, N2, c, K1, K2, F1, Fk, F2, A⟩ := around_of P.rep P.wf hk
  have hat := P.mem.at_ n r A.rec_
  have ht := A.tq
  have hits : t.its = r.items := by rw [ht]; rfl
  have hs : Sorted ilt r.items := by rw [← hits]; exact own_sorted P.wf P.srt
  have hlen : r.items.length ≤ 1000000000000 := by have := P.hb; have := A.le; omega
  obtain ⟨kb, ko, hka, _⟩ := ((hat.2.2.2 _ A.kids).2.1).form (by simp; omega)
  have hc : (N1 ++ c :: N2)[i]? = some c := by rw [← A.ln]; simp
  have lr := A.lr
  have lk := A.lk
  have ln := A.ln
  have ln2 := A.ln2
  have h3 := P.h3
  have hb := P.hb
  have hmn := P.hmn
  rw [hits] at hloc hfull
  obtain ⟨lA, lB⟩ := loc_none hloc
  have hI : r.items.take i ++ r.items.drop i = r.items := List.take_append_drop _ _
  have hIl : (r.items.take i).length = i := by rw [List.length_take]; omega
  have hIr : (r.items.drop i).length = K2.length := by rw [List.length_drop]; omega
  have et : t = .node (r.items.take i ++ r.items.drop i) (K1 ++ k :: K2) := by rw [hI]; exact ht
  obtain ⟨C, D, hCD, _, _⟩ := flat_around (lt := ilt) (x := x) iord (h := h) (I1 := r.items.take i) (I2 := r.items.drop i) (K1 := K1) (K2 := K2) (k := k) (by omega) (by omega) (by rw [← et]; exact P.srt) lA lB
  have srt := P.srt
  have big := P.big
  have nd := P.nd
  rw [et, hCD] at srt big
  rw [A.Fq] at nd
  have hnF := List.nodup_cons.1 nd
  have nd2 := List.nodup_append.1 hnF.2
  have nd1 := List.nodup_append.1 nd2.1
  have old : ∀ m, m ∈ n :: (F1 ++ Fk ++ F2) → m < w.heap.size := fun m hm => P.bnd m (by rw [A.Fq]; exact hm)
  obtain ⟨hcF, rc, hrc, hci, hcits, _⟩ := A.rk.root
  have hkfull := ha.full
  have hi2 : mx / 2 < k.its.length := by omega
  refine (set_inner_retry P.hdr P.cell hat A.isoq hlen hs hloc (by rw [P.hmx]; exact fun e => hfull (by omega)) A.kids hka hc (by simp; omega) (Halves H L c rc hr.iso (mx / 2)) (RetryR H L F hr.iso mn mx (h + 1) n t x hr.emp) (fun W hK => ?_) (fun W hK => ?_) (fun W m med W' W2 Ln pq hK hG hMid hpq hcell hHdr => ?_)).mono ?_
  · refine (IH k W kb (ko + i) c H L Fk (P.child A.rec_ A.kids hka hc A.rk nd1.2.1 A.wk srt.mid (by simp at big; omega) hK)).mono ?_
    rintro e W' (⟨_, h2⟩ | ⟨h1, _⟩)
    · exact h2
    · exact absurd ha h1
  · have memW := P.mem.keepS hK (fun _ _ _ _ _ _ h => h)
    have hdrW := blk_keep P.hdr hK fun _ h => h
    refine (split_step hdrW memW P.hmx P.h3 P.hb A.rk A.wk nd1.2.1 hkfull (by simp at big; omega) hrc).mono ?_
    rintro e W' ⟨m, med, rfl, h4, hH⟩
    refine ⟨m, med, rfl, h4.mono fun a o _ hf => (P.mem.at_ c rc hrc).lt hf, ?_, ?_, hH⟩
    · exact (memW.at_ n r A.rec_).keep h4 fun a o hf hg => P.mem.sep n c r rc (fun e => hnF.1 (by rw [e]; simp [hcF])) A.rec_ hrc a o hf hg
    · exact blk_keep hdrW h4 fun o hf => hdr_apart hdrW (memW.at_ c rc hrc) hf
  · obtain ⟨hmed, hmW, L', st⟩ := hG
    have hws : w.heap.size ≤ W.heap.size := hK.size
    have hmn0 : H m = none := by
      cases hq : H m with
      | none => rfl
      | some q => have := P.mem.lt hq; omega
    have memW := P.mem.keepS hK (fun _ _ _ _ _ _ h => h)
    obtain ⟨Fc1, Fc2, rfl, RL, RR⟩ := A.rk.halves A.wk nd1.2.1 hrc hmn0 hi2
    have hcn : c ≠ n := fun e => hnF.1 (by rw [← e]; simp)
    have hmne : ∀ a, a ∈ n :: (F1 ++ c :: (Fc1 ++ Fc2) ++ F2) → a ≠ m := fun a ha e => by have := old a ha; omega
    have ndc := List.nodup_cons.1 nd1.2.1
    have dom : ∀ a, a ∈ (n :: F1) ++ (Fc1 ++ Fc2 ++ F2) → a ∉ [c] ∧ ∃ q, H a = some q := fun a ha => by
      refine ⟨fun hf => ?_, P.rep.dom a ?_⟩
      · obtain rfl := List.mem_singleton.1 hf
        simp only [List.mem_append, List.mem_cons] at ha
        rcases ha with (rfl | ha) | (ha | ha) | ha
        · exact hcn rfl
        · exact nd1.2.2 a ha a (by simp) rfl
        · exact ndc.1 (by simp [ha])
        · exact ndc.1 (by simp [ha])
        · exact nd2.2.2 a (by simp) a ha rfl
      · rw [A.Fq]
        simp only [List.mem_append, List.mem_cons] at ha ⊢
        rcases ha with (ha | ha) | (ha | ha) | ha <;> simp [ha]
    have st1 := st.frame (n :: F1) (Fc1 ++ Fc2 ++ F2) dom
    obtain ⟨o1, o2⟩ := st.out n (by simpa using fun e => hcn e.symm) r A.rec_
    have st2 := Step.then memW st1 (n := n) (r := r) (r' := grown r (N1 ++ c :: N2) i m med) (l' := Ln) (X := fun _ _ => False) (by simp) o1 (hMid.keep.mono fun a o _ hf => .inl (by rw [o2]; exact hf)) (fun _ _ h => h.elim) (fun _ _ _ _ _ _ h => h) hMid.node (fun a o hb2 hf => by rw [o2]; exact hMid.fp a o hb2 hf)
    have st3 := st2.same (G' := n :: (F1 ++ c :: Fc1 ++ (m :: Fc2 ++ F2))) (fun a => by
      simp only [List.mem_append, List.mem_cons, List.not_mem_nil, or_false]
      grind)
    have eF : (n :: F1) ++ [c] ++ (Fc1 ++ Fc2 ++ F2) = F := by rw [A.Fq]; simp
    rw [eF] at st3
    clear st2 st1
    generalize hH2 : upd (upd (upd H c (some (halfL H hr.iso rc (mx / 2)))) m (some (halfR H hr.iso rc (mx / 2)))) n (some (grown r (N1 ++ c :: N2) i m med)) = H2 at st3
    generalize upd L' n Ln = LL2 at st3
    have hkm : k.its[mx / 2]? = some med := by rw [← hcits]; exact hmed
    have hfc := flat_cut A.wk hkm
    have hfl : flat (h + 1) (.node (r.items.take i ++ med :: r.items.drop i) (K1 ++ cutL (mx / 2) k :: cutR (mx / 2) k :: K2)) = flat (h + 1) t := by
      rw [et]
      exact flat_split (by omega) hfc
    have hks : (N1 ++ c :: N2).take (i + 1) ++ m :: (N1 ++ c :: N2).drop (i + 1) = N1 ++ c :: m :: N2 := by
      rw [← ln, List.take_length_add_append, List.drop_length_add_append]; simp
    have out2 : ∀ a, a ∈ F1 ++ F2 → H2 a = H a := fun a ha => by
      have e1 : a ≠ n := fun e => hnF.1 (by subst e; simp only [List.mem_append] at ha ⊢; rcases ha with h | h <;> simp [h])
      have e2 : a ≠ m := hmne a (by simp only [List.mem_append, List.mem_cons] at ha ⊢; rcases ha with h | h <;> simp [h])
      have e3 : a ≠ c := fun e => by
        subst e
        rcases List.mem_append.1 ha with h | h
        · exact nd1.2.2 a h a (by simp) rfl
        · exact nd2.2.2 a (by simp) a h rfl
      rw [← hH2, upd_ne _ _ e1, upd_ne _ _ e2, upd_ne _ _ e3]
    have outc : ∀ a, a ∈ c :: Fc1 ++ m :: Fc2 → H2 a = upd (upd H c (some (halfL H hr.iso rc (mx / 2)))) m (some (halfR H hr.iso rc (mx / 2))) a := fun a ha => by
      rw [← hH2]
      refine upd_ne _ _ fun e => ?_
      subst e
      simp only [List.mem_append, List.mem_cons] at ha
      rcases ha with (h | h) | (h | h)
      · exact hcn h.symm
      · exact hnF.1 (by simp [h])
      · exact hmne a (by simp) h
      · exact hnF.1 (by simp [h])
    have A1 : RepL (Rep H2 hr.iso h) N1 K1 F1 := A.r1.imp fun a t G hG hR => hR.congr fun a ha => out2 a (by simp [hG a ha])
    have A2 : RepL (Rep H2 hr.iso h) N2 K2 F2 := A.r2.imp fun a t G hG hR => hR.congr fun a ha => out2 a (by simp [hG a ha])
    have AL : Rep H2 hr.iso h c (cutL (mx / 2) k) (c :: Fc1) := RL.congr fun a ha => outc a (by simp only [List.mem_append]; exact .inl ha)
    have AR : Rep H2 hr.iso h m (cutR (mx / 2) k) (m :: Fc2) := RR.congr fun a ha => outc a (by simp only [List.mem_append]; exact .inr ha)
    have hcw := cut_wf A.wk (l1 := mn) (l2 := mn) hi2 (by omega) (by omega)
    have rep2 : Rep H2 hr.iso (h + 1) n (.node (r.items.take i ++ med :: r.items.drop i) (K1 ++ cutL (mx / 2) k :: cutR (mx / 2) k :: K2)) (n :: (F1 ++ c :: Fc1 ++ (m :: Fc2 ++ F2))) := by
      refine ⟨grown r (N1 ++ c :: N2) i m med, N1 ++ c :: m :: N2, _, by rw [← hH2, upd_same], A.isoq, rfl, by simp only [grown, hks], ?_, ?_, rfl⟩
      · rw [hfl]; exact A.cnt
      · rw [List.append_assoc]
        exact RepL.join (R := Rep H2 hr.iso h) (N2 := c :: m :: N2) (K2 := cutL (mx / 2) k :: cutR (mx / 2) k :: K2) ⟨c :: Fc1, m :: Fc2 ++ F2, AL, ⟨m :: Fc2, F2, AR, A2, rfl⟩, rfl⟩ A1
    have nd3 : (n :: (F1 ++ c :: Fc1 ++ (m :: Fc2 ++ F2))).Nodup := by
      have hp : (n :: (F1 ++ c :: Fc1 ++ (m :: Fc2 ++ F2))).Perm (m :: (n :: (F1 ++ c :: (Fc1 ++ Fc2) ++ F2))) := by
        have h1 : (n :: (F1 ++ c :: Fc1) ++ m :: (Fc2 ++ F2)).Perm (m :: (n :: (F1 ++ c :: Fc1) ++ (Fc2 ++ F2))) := List.perm_middle
        simpa using h1
      rw [hp.nodup_iff]
      exact List.nodup_cons.2 ⟨fun h => hmne m h rfl, nd⟩
    have wf2 : wfr 0 mn mx (h + 1) (.node (r.items.take i ++ med :: r.items.drop i) (K1 ++ cutL (mx / 2) k :: cutR (mx / 2) k :: K2)) := by
      have := A.le
      refine ⟨Nat.zero_le _, by simp only [Tr.its, List.length_append, List.length_cons]; omega, by simp only [Tr.its, Tr.ks, List.length_append, List.length_cons]; omega, fun k' hk' => ?_⟩
      simp only [Tr.ks, List.mem_append, List.mem_cons] at hk'
      rcases hk' with hk' | rfl | rfl | hk'
      · exact A.wo k' (by simp [hk'])
      · exact hcw.1
      · exact hcw.2
      · exact A.wo k' (by simp [hk'])
    have P2 : SetPre W2 b hr pq 0 n H2 LL2 (h + 1) (.node (r.items.take i ++ med :: r.items.drop i) (K1 ++ cutL (mx / 2) k :: cutR (mx / 2) k :: K2)) (n :: (F1 ++ c :: Fc1 ++ (m :: Fc2 ++ F2))) mn mx :=
      ⟨hHdr, hcell, st3.mem, rep2, nd3, wf2, by rw [hfl]; exact P.srt, P.hmx, P.h3, P.hb, P.hmn, by rw [hfl]; exact P.big⟩
    have srt2 : Sorted ilt (r.items.take i ++ med :: r.items.drop i) := own_sorted wf2 P2.srt
    have hcL : (cutL (mx / 2) k).its.length = mx / 2 := by show (k.its.take (mx / 2)).length = _; rw [List.length_take]; omega
    have hcR : (cutR (mx / 2) k).its.length = mx - (mx / 2 + 1) := by show (k.its.drop (mx / 2 + 1)).length = _; rw [List.length_drop]; omega
    have kid : ∀ j k', Loc (r.items.take i ++ med :: r.items.drop i) (ky x) j false → (K1 ++ cutL (mx / 2) k :: cutR (mx / 2) k :: K2)[j]? = some k' → k'.its.length ≠ mx := fun j k' hj hk' => by
      rcases loc_split hloc srt2 hj with rfl | rfl
      · rw [List.getElem?_append_right (by omega)] at hk'
        simp [lk] at hk'
        subst hk'
        omega
      · rw [List.getElem?_append_right (by omega)] at hk'
        simp [lk] at hk'
        subst hk'
        omega
    have hnA : ¬ Asks mx (h + 1) (.node (r.items.take i ++ med :: r.items.drop i) (K1 ++ cutL (mx / 2) k :: cutR (mx / 2) k :: K2)) (ky x) := by
      rintro ⟨_, j, c', h1, h2, h5⟩
      exact kid j c' h1 h2 h5.full
    have call : Calls Try.prog 214 #[ptr b, .pointer (some ⟨pq, 0, none⟩), pv x] W2 (SetPost W2 H2 LL2 (n :: (F1 ++ c :: Fc1 ++ (m :: Fc2 ++ F2))) hr.iso mn mx (h + 1) n (.node (r.items.take i ++ med :: r.items.drop i) (K1 ++ cutL (mx / 2) k :: cutR (mx / 2) k :: K2)) x hr.emp) := by
      obtain ⟨j, f, hj⟩ := Loc.ex (ky x) (r.items.take i ++ med :: r.items.drop i) srt2
      cases f with
      | true => exact set_succ_found P2 x hj
      | false =>
        have hjl : j < (K1 ++ cutL (mx / 2) k :: cutR (mx / 2) k :: K2).length := by have := hj.1; simp at this ⊢; omega
        have hk' : (K1 ++ cutL (mx / 2) k :: cutR (mx / 2) k :: K2)[j]? = some ((K1 ++ cutL (mx / 2) k :: cutR (mx / 2) k :: K2)[j]) := List.getElem?_eq_getElem hjl
        exact set_succ_go P2 x hj hk' (fun h => kid j _ hj hk' h.full) (fun w pb po n H L F => IH _ w pb po n H L F)
    refine call.mono ?_
    rintro e W3 (⟨h1, _⟩ | ⟨_, p, t', F', H', L3, rfl, st4, rep', nd', wf', put⟩)
    · exact absurd h1 hnA
    · have st5 := st3.trans st4 (fun a q ha hq => by
        rw [← eF]
        simp only [List.mem_append, List.mem_cons] at ha
        rcases ha with ha | (ha | ha | ha) | ((ha | ha) | ha)
        · simp [ha]
        · simp [ha]
        · simp [ha]
        · simp [ha]
        · subst ha; rw [hmn0] at hq; cases hq
        · simp [ha]
        · simp [ha])
      refine ⟨⟨p, t', F', H', L3, rfl, st5, rep', nd', ?_, ?_⟩, ⟨_, _, _, rfl⟩, ?_⟩
      · refine wf'.weaken ?_
        have := wf'.own_le.1
        have e : (Tr.node (r.items.take i ++ med :: r.items.drop i) (K1 ++ cutL (mx / 2) k :: cutR (mx / 2) k :: K2)).its.length = r.items.length + 1 := by show (r.items.take i ++ med :: r.items.drop i).length = _; simp; omega
        rw [hits]
        omega
      · rw [hfl] at put; exact put
      · refine st4.keep.mono fun a o _ ⟨m', q, _, hq, hf⟩ => ?_
        have := Step.clear P.mem hK st3 m' q hq a o hf
        omega
  · rintro e w' ⟨W, m, med, W', W2, L2, W3, hK, _, _, ⟨p, t', F', H', L3, rfl, st, rep', nd', wf', put⟩, hK3⟩
    refine .inr ⟨fun h => hfull (by rw [← hits]; exact h.full), p, t', F', H', L3, rfl, (Step.pre hK st).post hK3 (fun _ _ h => h.1) (Step.clear P.mem hK st), rep', nd', wf', put⟩

/-- SETTING BELOW A NODE: what it leaves. -/
theorem set_any {b : Nat} {hr : HRec} {mn mx : Nat} (x : It) : ∀ (h : Nat) (t : Tr It) (w : World) (pb po n : Nat) (H : Store It) (L : Nat → Lay) (F : List Nat), SetPre w b hr pb po n H L h t F mn mx →
    Calls Try.prog 214 #[ptr b, .pointer (some ⟨pb, po, none⟩), pv x] w (SetPost w H L F hr.iso mn mx h n t x hr.emp)
  | 0, t, w, pb, po, n, H, L, F, P => set_zero P x
  | h + 1, t, w, pb, po, n, H, L, F, P => by
    obtain ⟨i, f, hloc⟩ := Loc.ex (ky x) t.its (own_sorted P.wf P.srt)
    cases f with
    | true => exact set_succ_found P x hloc
    | false =>
      have hil : i < t.ks.length := by have := hloc.1; have := P.wf.2.2.1; omega
      have hk : t.ks[i]? = some t.ks[i] := List.getElem?_eq_getElem hil
      by_cases ha : Asks mx h t.ks[i] (ky x)
      · by_cases hfull : t.its.length = mx
        · exact set_succ_full P x hloc hk hfull ha (set_any x h _)
        · exact set_succ_retry P x hloc hk hfull ha (set_any x h)
      · exact set_succ_go P x hloc hk ha (set_any x h _)
end Go.Proofs.Ytfikahgofapobaa.T

namespace Go.Proofs.Ytfikahgofapobaa.T
open Go.RowKit Go.Wb

/-- A tree's shape: none, or a root of some height. -/
abbrev Sh := Option (Nat × Tr It)
def its : Sh → List It
  | none => []
  | some (h, t) => flat h t
def RootAt (H : Store It) (iso : Int) (root : Option Nat) (F : List Nat) (mn mx : Nat) : Sh → Prop
  | none => root = none ∧ F = []
  | some (h, t) => ∃ n, root = some n ∧ Rep H iso h n t F ∧ wfr 1 mn mx h t
/-- The sizes of nodes. -/
structure ParOk (hr : HRec) (mn mx : Nat) : Prop where
  cv : hr.cv = false
  icv : hr.icv = false
  one : (hr.mn = (mn : Int) ∧ hr.mx = (mx : Int)) ∨ (hr.mn = 0 ∧ hr.root = none ∧ mn = 31 ∧ mx = 63)
  odd : mx = 2 * mn + 1
  pos : 1 ≤ mn
  hb : mx ≤ 1000000000000

/-- A tree lies in w: its head at block b, its nodes F. -/
structure TreeAt (w : World) (b : Nat) (hr : HRec) (H : Store It) (L : Nat → Lay) (F : List Nat) (mn mx : Nat) (s : Sh) : Prop where
  hdr : Hdr w b hr
  mem : Mem TT E w H L
  nd : F.Nodup
  root : RootAt H hr.iso hr.root F mn mx s
  cnt : hr.cnt = ((its s).length : Int)
  srt : Sorted ilt (its s)
  par : ParOk hr mn mx

theorem TreeAt.keep {w w' : World} {b : Nat} {hr : HRec} {H : Store It} {L : Nat → Lay} {F : List Nat} {mn mx : Nat} {s : Sh} (h : TreeAt w b hr H L F mn mx s) (hk : Keep Nothing w w') : TreeAt w' b hr H L F mn mx s :=
  ⟨blk_keep h.hdr hk fun _ h => h, h.mem.keepS hk fun _ _ _ _ _ _ h => h, h.nd, h.root, h.cnt, h.srt, h.par⟩

/-- What setting leaves of a tree. -/
def SetT (w : World) (b : Nat) (hr : HRec) (H : Store It) (L : Nat → Lay) (F : List Nat) (mn mx : Nat) (s : Sh) (x : It) (e : Ending) (w' : World) : Prop :=
  ∃ hr' H' L' F' s' p, e = .returned (.tuple #[vv (Option.getD p hr.emp), .bool p.isSome]) ∧ TStep TT E (fun c _ => c = b) w H L F w' H' L' F' ∧ TreeAt w' b hr' H' L' F' mn mx s' ∧ Put ilt (its s) x (its s') p ∧
    hr'.iso = hr.iso ∧ hr'.ctr = hr.ctr ∧ hr'.emp = hr.emp ∧ hr'.root.isSome = true

theorem hdr_root {w : World} {b : Nat} {h : HRec} (hh : Hdr w b h) : w.cell? ⟨b, 2, none⟩ = some (rootV h.root) := (hdr_cells hh).2.2.1
theorem hdr_cnt {w : World} {b : Nat} {h : HRec} (hh : Hdr w b h) : w.cell? ⟨b, 3, none⟩ = some (.int .i64 h.cnt) := (hdr_cells hh).2.2.2.1
theorem hdr_fz {w : World} {b : Nat} {h : HRec} (hh : Hdr w b h) : ∀ o, w.frozen? ⟨b, o, none⟩ = false := (hdr_cells hh).2.2.2.2.2.2.2.2.2.1
theorem hdr_set_cnt {w : World} {b : Nat} {h : HRec} (hh : Hdr w b h) (c : Int) : Hdr (w.setCell ⟨b, 3, none⟩ (.int .i64 c)) b { h with cnt := c } := by
  unfold Hdr at hh ⊢; rw [blk_set _ hh]; rfl
theorem hdr_set_root {w : World} {b : Nat} {h : HRec} (hh : Hdr w b h) (r : Option Nat) : Hdr (w.setCell ⟨b, 2, none⟩ (rootV r)) b { h with root := r } := by
  unfold Hdr at hh ⊢; rw [blk_set _ hh]; rfl
theorem fold0 (f : Array Value → (Value × Nat) → Array Value) (i : Array Value) : Array.foldl f i ((#[] : Array Value).zipIdx) 0 0 = i := rfl
end Go.Proofs.Ytfikahgofapobaa.T

namespace Go.Proofs.Ytfikahgofapobaa.T
open Go.RowKit Go.Wb

theorem root_pre {w : World} {b : Nat} {hr : HRec} {H : Store It} {L : Nat → Lay} {F : List Nat} {mn mx h : Nat} {t : Tr It} (T : TreeAt w b hr H L F mn mx (some (h, t))) (big : (flat h t).length ≤ 3000000000000000000) :
    ∃ n, hr.root = some n ∧ ∀ W, Keep Nothing w W → SetPre W b hr b 2 n H L h t F mn mx := by
  obtain ⟨n, hroot, rep, wf⟩ := T.root
  refine ⟨n, hroot, fun W hK => ?_⟩
  have T' := T.keep hK
  have odd := T.par.odd
  have pos := T.par.pos
  have hmx : hr.mx = (mx : Int) := by
    rcases T.par.one with h | ⟨_, h, _⟩
    · exact h.2
    · rw [hroot] at h; cases h
  have hc := hdr_root T'.hdr
  rw [hroot] at hc
  exact ⟨T'.hdr, hc, T'.mem, rep, T.nd, wf.weaken (Nat.zero_le _), T.srt, hmx, by omega, T.par.hb, by omega, big⟩

/-- Behind the setting below the root. -/
def PlainRel (w : World) (H : Store It) (L : Nat → Lay) (F : List Nat) (iso : Int) (mn mx h n : Nat) (t : Tr It) (x _ep : It) (s9 s10 s11 : Value) (wx : World) : Prop :=
  ∃ W W' g p t' F' H' L', Keep Nothing w W ∧ Step TT E W H L F W' H' L' F' ∧ Rep H' iso h n t' F' ∧ F'.Nodup ∧ wfr t.its.length mn mx h t' ∧ Put ilt (flat h t) x (flat h t') p ∧ Keep Nothing W' wx ∧
    s9 = .pointer (some ⟨g, 0, none⟩) ∧ s10 = .bool p.isSome ∧ s11 = .bool false

set_option maxRecDepth 100000 in
set_option maxHeartbeats 4000000 in
theorem set_plain {w : World} {b : Nat} {hr : HRec} {H : Store It} {L : Nat → Lay} {F : List Nat} {mn mx h : Nat} {t : Tr It} (T : TreeAt w b hr H L F mn mx (some (h, t))) (big : (flat h t).length ≤ 3000000000000000000) (x : It) (hna : ¬ Asks mx h t (ky x)) :
    Calls Try.prog 175 #[ptr b, kv (ky x), vv x] w (SetT w b hr H L F mn mx (some (h, t)) x) := by
  obtain ⟨n, hroot, hpre⟩ := root_pre T big
  have hcall : ∀ W, Keep Nothing w W → Calls Try.prog 214 #[ptr b, .pointer (some ⟨b, 2, none⟩), pv x] W (SetPost W H L F hr.iso mn mx h n t x hr.emp) := fun W hK => set_any x h t W b 2 n H L F (hpre W hK)
  have HT := Lib.hid T
  have HC := Lib.hid hcall
  have HR := Lib.hid hroot
  have HNA := Lib.hid hna
  have HBIG := Lib.hid big
  clear T hcall hroot hpre hna big
  unfold ptr pv kv vv at *
  have hf0 := fold0
  go_enter Try.func175, Try.ntmps175
  go_upto_region 2 with (fail)
  refine wp_world ?_
  intro W1 hW1
  generalize hq : w.heap.size = q at *
  have K1 : Hid (Keep Nothing w W1) := by
    subst hW1; exact (((Keep.refl _ _).al _).al _).al _
  have X1 : Hid (W1.heap[q + 2]? = some (.cells (E.enc x).toArray 140 (0, 0))) := by
    subst hW1; subst hq
    have h0 := heap_alloc_new ((w.alloc (.cells #[] 138)).alloc (.cells #[] 138)) (.cells (E.enc x).toArray 140)
    rw [World.size_alloc, World.size_alloc] at h0
    exact h0
  have Y1 : Hid (W1.heap[q + 1]? = some (.cells #[] 138 (0, 0))) := by
    subst hW1; subst hq
    have h0 := heap_alloc_new (w.alloc (.cells #[] 138)) (.cells #[] 138)
    rw [World.size_alloc] at h0
    exact blk_alloc _ h0
  have S1 : W1.heap.size = q + 3 := by subst hW1; rw [World.size_alloc, World.size_alloc, World.size_alloc, hq]
  have XQ := Lib.hid hq
  clear hW1 hq
  have H1 : Hid (Hdr W1 b hr) := by exact blk_keep HT.out.hdr K1.out fun _ h => h
  have c2 := hdr_root H1.out
  rw [HR.out] at c2
  simp only [rootV, Option.map_some] at c2
  have fz := hdr_fz H1.out
  go_upto_region 9 with (fail)
  clear c2 fz
  have hfp : Hid (∀ c o, q ≤ c → ¬ FP TT H L F c o) := by
    rintro c o hc ⟨m, r, _, hr, hf⟩
    have := (HT.out.mem.at_ m r hr).lt hf
    have := XQ.out
    omega
  go_cut [9, 10, 11] (fun s9 s10 s11 wx => PlainRel w H L F hr.iso mn mx h n t x hr.emp s9 s10 s11 wx ∧ wx.heap[q + 1]? = some (.cells #[] 138 (0, 0)))
  case first =>
    have kx : W1.cell? ⟨q + 1 + 1, 0, none⟩ = some (.string (ky x)) := by have := X1.out; simp only [World.cell?, this]; rfl
    go_region_held3 (fun w' => w'.cell? ⟨q + 1 + 1, 0, none⟩ = some (.string (ky x))) (first | go_keep)
      ((go_at_call 214; refine (HC.out _ ?_).mono ?_; (first | exact K1.out.dr | exact (K1.out.al _).dr); rintro e w' (⟨h1, _⟩ | ⟨_, p, t', F', H', L', rfl, st, h2⟩); exact absurd h1 HNA.out; (have kx' : w'.cell? ⟨q + 1 + 1, 0, none⟩ = some (.string (ky x)) := by (refine st.keep.cell' (by assumption) ?_; exact hfp.out _ _ (by omega))); unfold vv))
    all_goals
      go_wp2_with fail
      go_meet
      obtain ⟨r1, r2, r3, r4⟩ := h2
      first
        | exact ⟨⟨_, _, _, p, t', F', H', L', K1.out.dr, st, r1, r2, r3, r4, (Keep.refl _ _).al _, rfl, rfl, rfl⟩, blk_alloc _ (blk_keep (blk_drew Y1.out) st.keep fun o => hfp.out _ _ (by omega))⟩
        | exact ⟨⟨_, _, _, p, t', F', H', L', (K1.out.al _).dr, st, r1, r2, r3, r4, Keep.refl _ _, rfl, rfl, rfl⟩, blk_keep (blk_drew (blk_alloc _ Y1.out)) st.keep fun o => hfp.out _ _ (by omega)⟩
  case rest =>
    obtain ⟨⟨W, W', g, p, t', F', H', L', hKW, st, r1, r2, r3, r4, hK9, rfl, rfl, rfl⟩, hY⟩ := hcut
    have T := HT.out
    have hapW : ∀ m r o, H m = some r → ¬ fp TT m r (L m) b o := fun m r o hr hf => hdr_apart T.hdr (T.mem.at_ m r hr) hf
    have HW' : Hdr W' b hr := blk_keep (blk_keep T.hdr hKW fun _ h => h) st.keep fun o ⟨m, r, _, hr, hf⟩ => hapW m r o hr hf
    have H9 := Lib.hid (blk_keep HW' hK9 fun _ h => h : Hdr wc b hr)
    have hap' : Hid (∀ m r, H' m = some r → ∀ c o, fp TT m r (L' m) c o → c ≠ b) := by exact fun m r hr c o hf e => hdr_apart HW' (st.mem.at_ m r hr) (e ▸ hf)
    have ST := Lib.hid st
    have R1 := Lib.hid r1
    have R2 := Lib.hid r2
    have R3 := Lib.hid (r3.weaken (Nat.le_trans T.root.choose_spec.2.2.own_le.1 r3.own_le.1) : wfr 1 mn mx h t')
    have R4 := Lib.hid r4
    have K9 := Lib.hid hK9
    have KW := Lib.hid hKW
    have HB := Lib.hid T.cnt
    clear hKW st r1 r2 r3 r4 hK9 HW' hapW T
    replace hY := Lib.hid hY
    have hcb : -9223372036854775808 ≤ hr.cnt + 1 ∧ hr.cnt + 1 ≤ 9223372036854775807 := by
      have := HB.out
      have := HBIG.out
      simp only [its] at *
      omega
    cases p with
    | some y =>
      go_wp2_with fail
      refine bodyPost_ret (results_cell_tmp_row rfl _ _ (q + 1) 138 #[] (0, 0) _ rfl hY.out Try.underlying138 rfl (by kernel_rfl)) rfl ?_
      have T := HT.out
      have put := R4.out
      have hpl := put_len put
      refine ⟨hr, H', L', F', some (h, t'), some y, rfl, ((ST.out.t _).pre KW.out).post (K9.out.mono fun _ _ _ h => h.elim : Keep (fun c _ => c = b) _ _) (fun _ _ _ h => h) (fun m r hr c o hf => hap'.out m r hr c o hf), ?_, put, rfl, rfl, rfl, by rw [HR.out]; rfl⟩
      refine ⟨H9.out, ST.out.mem.keepS K9.out fun _ _ _ _ _ _ h => h, R2.out, ⟨n, HR.out, R1.out, R3.out⟩, ?_, put.sorted T.srt, T.par⟩
      have := T.cnt
      simp only [its] at *
      simp at hpl
      omega
    | none =>
      have c3 := hdr_cnt H9.out
      have fz := hdr_fz H9.out
      go_upto_region 22 with (fail)
      refine wp_world ?_
      intro W5 hW5
      have H5 : Hid (Hdr W5 b { hr with cnt := hr.cnt + 1 }) := by subst hW5; exact hdr_set_cnt H9.out _
      have K5 : Hid (Keep (fun c _ => c = b) wc W5) := by subst hW5; exact (Keep.refl _ _).set _ _ _ fun _ => rfl
      have Y5 : Hid (W5.heap[q + 1]? = some (.cells #[] 138 (0, 0))) := by exact blk_keep hY.out K5.out fun o e => by have := lt_of_heap HT.out.hdr; have := XQ.out; omega
      clear hW5 c3 fz
      have f0 := field0_hdr H5.out
      go_wp2_with fail
      refine bodyPost_ret (results_cell_tmp_row rfl _ _ (q + 1) 138 #[] (0, 0) _ rfl Y5.out Try.underlying138 rfl (by kernel_rfl)) rfl ?_
      have T := HT.out
      have put := R4.out
      have hpl := put_len put
      have KA : Keep (fun c _ => c = b) W' W5 := (K9.out.mono fun _ _ _ h => h.elim : Keep (fun c _ => c = b) W' wc).trans K5.out fun _ _ _ h => h
      refine ⟨{ hr with cnt := hr.cnt + 1 }, H', L', F', some (h, t'), none, rfl, ((ST.out.t _).pre KW.out).post KA (fun _ _ _ h => h) (fun m r hr c o hf => hap'.out m r hr c o hf), ?_, put, rfl, rfl, rfl, by show hr.root.isSome = true; rw [HR.out]; rfl⟩
      refine ⟨H5.out, ST.out.mem.keepS KA fun m r c o hr hf => hap'.out m r hr c o hf, R2.out, ⟨n, HR.out, R1.out, R3.out⟩, ?_, put.sorted T.srt, T.par.cv, T.par.icv, ?_, T.par.odd, T.par.pos, T.par.hb⟩
      · have := T.cnt
        simp only [its] at *
        simp at hpl
        omega
      · exact T.par.one
end Go.Proofs.Ytfikahgofapobaa.T

namespace Go.Proofs.Ytfikahgofapobaa.T
open Go.RowKit Go.Wb

theorem hdr_mn {w : World} {b : Nat} {h : HRec} (hh : Hdr w b h) : 
    w.cell? ⟨b, 5, none⟩ = some (.int .i64 h.mn) := (hdr_cells hh).2.2.2.2.2.1

set_option maxHeartbeats 400000 in
theorem init_old {w : World} {b : Nat} {h : HRec} (hh : Hdr w b h) (d : Value) (h0 : (h.mn != 0) = true) :
    Calls Try.prog 212 #[ptr b, d] w fun e w' => e = .returned (.tuple #[]) ∧ w = w' := by
  have c := hdr_mn hh
  clear hh
  unfold ptr
  go_enter Try.func212, Try.ntmps212
  go_wp2
  refine bodyPost_ret (v := .tuple #[]) (by simp [results, Try.results212, go_sem]) rfl ⟨rfl, rfl⟩

/-- init(0) of an empty tree. -/
theorem init_par {w : World} {b : Nat} {hr : HRec} {mn mx : Nat} (hh : Hdr w b hr) (hp : ParOk hr mn mx) :
    Calls Try.prog 212 #[ptr b, .int .i64 0] w fun e w' => e = .returned (.tuple #[]) ∧ Hdr w' b { hr with mn := mn, mx := mx } ∧ Keep (fun x _ => x = b) w w' := by
  obtain ⟨iso, ctr, root, cnt, emp, hmn, hmx, cv, icv⟩ := hr
  obtain ⟨h1, h2, h3, h4, h5, h6⟩ := hp
  simp only at h1 h2 h3
  subst h1
  subst h2
  rcases h3 with ⟨rfl, rfl⟩ | ⟨rfl, _, rfl, rfl⟩
  · refine (init_old hh _ (by simp; omega)).mono ?_
    rintro e w' ⟨rfl, rfl⟩
    exact ⟨rfl, hh, Keep.refl _ _⟩
  · refine (init_new hh 0 (by omega) (by omega) rfl).mono ?_
    rintro e w' ⟨rfl, h7, h8⟩
    exact ⟨rfl, h7, h8⟩

set_option maxRecDepth 100000 in
set_option maxHeartbeats 4000000 in
theorem set_nil {w : World} {b : Nat} {hr : HRec} {H : Store It} {L : Nat → Lay} {F : List Nat} {mn mx : Nat} (T : TreeAt w b hr H L F mn mx none) (x : It) :
    Calls Try.prog 175 #[ptr b, kv (ky x), vv x] w (SetT w b hr H L F mn mx none x) := by
  have HT := Lib.hid T
  have hroot : hr.root = none := T.root.1
  have HR := Lib.hid hroot
  have O0 := Lib.hid (Own.one (T := TT) (E := E) (S := fun c o => FP TT H L [] c o ∨ c = b) (w := w) (r := .blk b (hdrC hr) 164) T.hdr (fun _ _ h => .inr h))
  have hbw := lt_of_heap T.hdr
  clear T hroot
  unfold ptr kv vv
  have hf0 := fold0
  go_enter Try.func175, Try.ntmps175
  go_upto_region 2 with (fail)
  refine wp_world ?_
  intro W1 hW1
  generalize hq : w.heap.size = q at *
  have O1 : Hid (Own TT E (fun c o => FP TT H L [] c o ∨ c = b) w W1 [.blk b (hdrC hr) 164, .blk q #[] 138, .blk (q + 1) #[] 138, .blk (q + 1 + 1) (E.enc x).toArray 140]) := by
    subst hW1; have := ((O0.out.alloc #[] 138).alloc #[] 138).alloc (E.enc x).toArray 140
    simp only [World.size_alloc, hq] at this; exact this
  clear hW1 O0
  have H1 : Hid (Hdr W1 b hr) := by exact O1.out.blk_ 0 rfl
  have c2 := hdr_root H1.out
  rw [HR.out] at c2
  simp only [rootV, Option.map_none] at c2
  have fz := hdr_fz H1.out
  have hin := Lib.hid (init_par H1.out HT.out.par)
  unfold ptr at hin
  go_wp2_with fail
  refine hin.out.mono ?_
  rintro e W2 ⟨rfl, h2, k2⟩
  have O2 := Lib.hid (O1.out.turn 0 rfl (r' := .blk b (hdrC { hr with mn := mn, mx := mx }) 164) k2 h2 (fun _ _ _ h => h))
  clear hin c2 fz H1 O1 h2 k2
  have hnn := Lib.hid (newNode_any (O2.out.blk_ 0 rfl : Hdr W2 b { hr with mn := mn, mx := mx }) true)
  unfold ptr at hnn
  go_wp2_with fail
  refine hnn.out.mono ?_
  rintro e W3 ⟨m, Lm, rfl, hmw, k3, hm, hfpm⟩
  have O3 := Lib.hid (O2.out.add k3 (r := .node m ⟨hr.iso, 0, [], none⟩ Lm) hm hfpm)
  clear hnn k3 hm hfpm O2
  simp only [List.set, List.cons_append, List.nil_append] at O3
  have fz := hdr_fz (O3.out.blk_ 0 rfl : Hdr W3 b { hr with mn := mn, mx := mx })
  have c2 := hdr_root (O3.out.blk_ 0 rfl : Hdr W3 b { hr with mn := mn, mx := mx })
  rw [show ({ hr with mn := (mn : Int), mx := (mx : Int) } : HRec).root = hr.root from rfl, HR.out] at c2
  simp only [rootV, Option.map_none] at c2
  unfold ptr
  go_upto_region 5 with (fail)
  refine wp_world ?_
  intro W4 hW4
  have O4 : Hid (Own TT E (fun c o => FP TT H L [] c o ∨ c = b) w W4 [.blk b (hdrC { hr with mn := mn, mx := mx, root := some m }) 164, .blk q #[] 138, .blk (q + 1) #[] 138, .blk (q + 1 + 1) (E.enc x).toArray 140, .node m ⟨hr.iso, 0, [], none⟩ Lm]) := by
    subst hW4; have := O3.out.set 0 rfl 2 (rootV (some m)); exact this
  clear hW4 O3 c2 fz
  have hm4 := Lib.hid (O4.out.node_ 4 rfl)
  go_cut [] (fun wx => ∃ L', NTurn TT E W4 m ⟨hr.iso, 0, [], none⟩ Lm wx ⟨hr.iso, 0, [x], none⟩ L')
  case first =>
    have c2 := hdr_root (O4.out.blk_ 0 rfl : Hdr W4 b { hr with mn := mn, mx := mx, root := some m })
    simp only [rootV, Option.map_some] at c2
    have cx : W4.cell? ⟨q + 1 + 1, 0, none⟩ = some (.string (ky x)) := by have := O4.out.blk_ 3 rfl; simp only [World.cell?, this]; rfl
    obtain ⟨d0, d1, cm, d3, fz⟩ := hm4.out.own
    clear d0 d1 d3
    have hmw4 := lt_of_cell cm
    have hbm : b ≠ m := fun e => O4.out.apart 0 4 _ _ (by omega) rfl rfl m 0 e.symm (.inl rfl)
    have hqm : q + 1 + 1 ≠ m := fun e => O4.out.apart 3 4 _ _ (by omega) rfl rfl m 0 e.symm (.inl rfl)
    have fzm := fz 2
    go_region_held3 (fun w' => w'.cell? ⟨b, 2, none⟩ = some (.pointer (some ⟨m, 0, none⟩)) ∧ w'.cell? ⟨q + 1 + 1, 0, none⟩ = some (.string (ky x))) ((go_split_ands; refine ⟨?_, ?_⟩ <;> first | assumption | (refine cell_al _ ?_; assumption) | (refine cell_grew hg ?_; assumption) | (refine cell_set ?_ ?_ <;> assumption)))
      ((refine step_append_any rfl (Operand.tmp 34) (Operand.tmp 36) 273 rfl 140 1 16 Try.underlying273 ⟨by kernel_rfl, by kernel_rfl, by kernel_rfl⟩ _ 0 0 [] (by rfl) (Row.empty (by first | exact blk_two _ rfl | exact blk_last (by simp))) rfl _ 1 1 (E.enc x) (by rfl) (E.len _) (fun j u hj => new_cells (cs := E.enc x) (by first | exact blk_two _ rfl | exact blk_last (by simp)) j u hj) (E.one _) (by omega) (by omega) (by simp [maxLen]) (by omega) ?_; intro a' cap' w1 hg; have cm1 := cell_grew hg (cell_al _ (cell_al _ cm)); have fz1 := (fz_grew hg (fz_al _ (fz_al _ hmw4 fzm).1 (fz_al _ hmw4 fzm).2).1 (fz_al _ (fz_al _ hmw4 fzm).1 (fz_al _ hmw4 fzm).2).2).2))
    all_goals
      go_wp2_with fail
      go_meet
      refine ⟨_, nt_fresh ty_ok hm4.out (its := [x]) (((Keep.refl _ _).al _).al _).dr (hg.new (B := W4.heap.size) ((((Keep.refl Nothing W4).al _).al _).dr).size).1 ?_ hg.cap (hg.new (B := W4.heap.size) ((((Keep.refl Nothing W4).al _).al _).dr).size).2⟩
      have := hg.row
      simp only [List.nil_append] at this
      simp only [Enc.all, List.flatMap_cons, List.flatMap_nil, List.append_nil]
      exact this
  case rest =>
    obtain ⟨L', nt⟩ := hcut
    have O5 := Lib.hid (O4.out.nt 4 rfl nt)
    clear nt O4 hm4
    simp only [List.set] at O5
    have c2 := hdr_root (O5.out.blk_ 0 rfl : Hdr wc b { hr with mn := mn, mx := mx, root := some m })
    simp only [rootV, Option.map_some] at c2
    obtain ⟨d0, cm, d2, d3, fz⟩ := (O5.out.node_ 4 rfl).own
    clear d0 d2 d3
    go_upto_region 7 with (fail)
    refine wp_world ?_
    intro W6 hW6
    have O6 : Hid (Own TT E (fun c o => FP TT H L [] c o ∨ c = b) w W6 [.blk b (hdrC { hr with mn := mn, mx := mx, root := some m }) 164, .blk q #[] 138, .blk (q + 1) #[] 138, .blk (q + 1 + 1) (E.enc x).toArray 140, .node m ⟨hr.iso, 1, [x], none⟩ L']) := by
      subst hW6; exact O5.out.nt 4 rfl (nt_cnt ty_ok (O5.out.node_ 4 rfl) 1)
    clear hW6 O5 c2 cm fz
    have c3 := hdr_cnt (O6.out.blk_ 0 rfl : Hdr W6 b { hr with mn := mn, mx := mx, root := some m })
    have fz := hdr_fz (O6.out.blk_ 0 rfl : Hdr W6 b { hr with mn := mn, mx := mx, root := some m })
    go_upto_region 8 with (fail)
    refine wp_world ?_
    intro W7 hW7
    have O7 : Hid (Own TT E (fun c o => FP TT H L [] c o ∨ c = b) w W7 [.blk b (hdrC { hr with mn := mn, mx := mx, root := some m, cnt := 1 }) 164, .blk q #[] 138, .blk (q + 1) #[] 138, .blk (q + 1 + 1) (E.enc x).toArray 140, .node m ⟨hr.iso, 1, [x], none⟩ L']) := by
      subst hW7; exact O6.out.set 0 rfl 3 (.int .i64 1)
    clear hW7 O6 c3 fz
    have he := hdr_emp (O7.out.blk_ 0 rfl : Hdr W7 b { hr with mn := mn, mx := mx, root := some m, cnt := 1 })
    have f0 := field0_hdr (O7.out.blk_ 0 rfl : Hdr W7 b { hr with mn := mn, mx := mx, root := some m, cnt := 1 })
    go_wp2_with fail
    refine bodyPost_ret (results_cell_tmp_row rfl _ _ (q + 1) 138 #[] (0, 0) _ rfl (O7.out.blk_ 2 rfl) Try.underlying138 rfl (by kernel_rfl)) rfl ?_
    have T := HT.out
    have hmw' : w.heap.size ≤ m := by
      rcases Nat.lt_or_ge m w.heap.size with h | h
      · exfalso
        rcases O7.out.old 4 _ rfl m 0 h (.inl rfl) with ⟨_, _, h, _⟩ | h
        · cases h
        · exact O7.out.apart 0 4 _ _ (by omega) rfl rfl m 0 h (.inl rfl)
      · exact h
    have hst : TStep TT E (fun c _ => c = b) w H L F W7 (upd H m (some ⟨hr.iso, 1, [x], none⟩)) (upd L m L') [m] := by
      obtain ⟨_, rfl⟩ := T.root
      refine Own.tstep T.mem O7.out (fun a r c o ha hf e => ?_) (fun a r c o ha hr hf e => ?_) (fun a _ ha => ?_) (fun a ha _ => ?_) (fun a ha => by cases ha) (fun a r ha hr => ?_)
      · subst e; exact hdr_apart T.hdr (T.mem.at_ a r ha) hf
      · obtain rfl := List.mem_singleton.1 ha
        rw [upd_same] at hr hf
        cases hr
        exact O7.out.apart 0 4 _ _ (by omega) rfl rfl c o e hf
      · have : a ≠ m := by simpa using ha
        exact ⟨upd_ne _ _ this, upd_ne _ _ this⟩
      · obtain rfl := List.mem_singleton.1 ha; exact hmw'
      · obtain rfl := List.mem_singleton.1 ha
        rw [upd_same] at hr ⊢
        cases hr
        exact ⟨4, rfl⟩
    refine ⟨{ hr with mn := mn, mx := mx, root := some m, cnt := 1 }, upd H m (some ⟨hr.iso, 1, [x], none⟩), upd L m L', [m], some (0, .node [x] []), none, rfl, hst, ?_, ⟨[], [], rfl, rfl, by simp, by simp⟩, rfl, rfl, rfl, rfl⟩
    · obtain ⟨_, rfl⟩ := T.root
      refine ⟨O7.out.blk_ 0 rfl, ?_, by simp, ⟨m, rfl, ⟨_, upd_same _ _ _, rfl, rfl, rfl, rfl, by simp [flat, Tr.its], rfl⟩, by simp [Tr.its], by have := T.par.odd; have := T.par.pos; simp [Tr.its]; omega, rfl⟩, by simp [its, flat, Tr.its], by simp [its, flat, Tr.its, Sorted], T.par.cv, T.par.icv, .inl ⟨rfl, rfl⟩, T.par.odd, T.par.pos, T.par.hb⟩
      exact hst.mem
end Go.Proofs.Ytfikahgofapobaa.T

namespace Go.Proofs.Ytfikahgofapobaa.T
open Go.RowKit Go.Wb

/-- The root is in two halves, and nothing else has turned. -/
structure Halved (w wx : World) (b : Nat) (hr : HRec) (H : Store It) (L : Nat → Lay) (F : List Nat) (mn mx h n : Nat) (t : Tr It) (m : Nat) (med : It) (H' : Store It) (L' : Nat → Lay) (F1 F2 : List Nat) (K : Nat) : Prop where
  clr : ∀ a r c o, H' a = some r → fp TT a r (L' a) c o → ¬ (w.heap.size ≤ c ∧ c < K)
  clk : K ≤ wx.heap.size
  ts : TStep TT E (fun c _ => c = b) w H L F wx H' L' (n :: F1 ++ m :: F2)
  nd : (n :: F1 ++ m :: F2).Nodup
  hdr : Hdr wx b hr
  rl : Rep H' hr.iso h n (cutL (mx / 2) t) (n :: F1)
  rr : Rep H' hr.iso h m (cutR (mx / 2) t) (m :: F2)
  wl : wfr mn mn mx h (cutL (mx / 2) t)
  wr : wfr mn mn mx h (cutR (mx / 2) t)
  fl : flat h t = flat h (cutL (mx / 2) t) ++ med :: flat h (cutR (mx / 2) t)

theorem halved {w W W' : World} {b : Nat} {hr : HRec} {H : Store It} {L : Nat → Lay} {F : List Nat} {mn mx h : Nat} {t : Tr It} (T : TreeAt w b hr H L F mn mx (some (h, t))) {n : Nat} (hroot : hr.root = some n) (hfull : t.its.length = mx) {rc : NRec It} (hrc : H n = some rc)
    (hK : Keep Nothing w W) {m : Nat} {med : It} (hk : Keep (fp TT n rc (L n)) W W') (hh : Halves H L n rc hr.iso (mx / 2) m med W W') :
    ∃ H' L' F1 F2, Halved w W' b hr H L F mn mx h n t m med H' L' F1 F2 W.heap.size := by
  obtain ⟨n', e, rep, wf⟩ := T.root
  rw [hroot] at e
  cases e
  obtain ⟨hmed, hmW, L', st⟩ := hh
  have hws := hK.size
  have hm0 : H m = none := by
    cases hq : H m with
    | none => rfl
    | some q => have := T.mem.lt hq; omega
  obtain ⟨_, q, e1, hci, hits, _⟩ := rep.root
  rw [hrc] at e1
  cases e1
  have odd := T.par.odd
  have pos := T.par.pos
  have hi2 : mx / 2 < t.its.length := by omega
  obtain ⟨F1, F2, rfl, RL, RR⟩ := rep.halves wf T.nd hrc hm0 hi2
  have old : ∀ a, a ∈ n :: (F1 ++ F2) → a < w.heap.size := fun a ha => by
    obtain ⟨q, hq⟩ := rep.dom a ha
    exact T.mem.lt hq
  have ndn := List.nodup_cons.1 T.nd
  have dom : ∀ a, a ∈ [] ++ (F1 ++ F2) → a ∉ [n] ∧ ∃ q, H a = some q := fun a ha => by
    simp only [List.nil_append] at ha
    refine ⟨fun h => ndn.1 ?_, rep.dom a (by simp [List.mem_append.1 ha])⟩
    obtain rfl := List.mem_singleton.1 h
    exact ha
  have st1 := (Step.pre hK st).frame [] (F1 ++ F2) dom
  have hcw := cut_wf wf (l1 := mn) (l2 := mn) hi2 (by omega) (by omega)
  have hap : ∀ a r c o, H a = some r → fp TT a r (L a) c o → c ≠ b := fun a r c o hr hf e => by
    subst e
    exact hdr_apart T.hdr (T.mem.at_ a r hr) hf
  refine ⟨_, L', F1, F2, fun a r c o h1 h2 => Step.clear T.mem hK st a r h1 c o h2, hk.size, ((st1.t _).same (G' := n :: F1 ++ m :: F2) fun a => by simp; grind), ?_, ?_, RL, RR, hcw.1, hcw.2, flat_cut wf (by rw [← hits]; exact hmed)⟩
  · have hp : (n :: F1 ++ m :: F2).Perm (m :: (n :: (F1 ++ F2))) := by
      have h1 : (n :: F1 ++ m :: F2).Perm (m :: (n :: F1 ++ F2)) := List.perm_middle
      simpa using h1
    rw [hp.nodup_iff]
    exact List.nodup_cons.2 ⟨fun h => by have := old m h; omega, T.nd⟩
  · exact blk_keep (blk_keep T.hdr hK fun _ h => h) hk fun o hf => hap n rc b o hrc hf rfl

/-- What lies apart from a tree's nodes and its head, from w on. -/
theorem Halved.local {w wx : World} {b : Nat} {hr : HRec} {H : Store It} {L : Nat → Lay} {F : List Nat} {mn mx h n : Nat} {t : Tr It} {m : Nat} {med : It} {H' : Store It} {L' : Nat → Lay} {F1 F2 : List Nat} {K : Nat} (A : Halved w wx b hr H L F mn mx h n t m med H' L' F1 F2 K) :
    ∀ a r c o, H' a = some r → fp TT a r (L' a) c o → c ≠ b := fun a r c o hr hf e => by
  subst e
  exact hdr_apart A.hdr (A.ts.mem.at_ a r hr) hf

/-- The new root's tree. -/
theorem Halved.tree {w wx we : World} {b : Nat} {hr : HRec} {H : Store It} {L : Nat → Lay} {F : List Nat} {mn mx h n : Nat} {t : Tr It} {m : Nat} {med : It} {H' : Store It} {L' : Nat → Lay} {F1 F2 : List Nat} {K : Nat} (T : TreeAt w b hr H L F mn mx (some (h, t))) (A : Halved w wx b hr H L F mn mx h n t m med H' L' F1 F2 K)
    {wy : World} (hy : Keep Nothing wx wy) {nn : Nat} {Ln : Lay} (hroot : hr.root = some n)
    (O : Own TT E (fun c o => FP TT H' L' [] c o ∨ c = b) wy we [.blk b (hdrC { hr with root := some nn }) 164, .node nn ⟨hr.iso, ((flat h t).length : Int), [med], some [n, m]⟩ Ln]) (hnew : wy.heap.size ≤ nn) :
    ∃ H2 L2 F2', TStep TT E (fun c _ => c = b) w H L F we H2 L2 F2' ∧ TreeAt we b { hr with root := some nn } H2 L2 F2' mn mx (some (h + 1, .node [med] [cutL (mx / 2) t, cutR (mx / 2) t])) ∧
      flat (h + 1) (.node [med] [cutL (mx / 2) t, cutR (mx / 2) t]) = flat h t ∧ ∀ a r c o, H2 a = some r → fp TT a r (L2 a) c o → ¬ (w.heap.size ≤ c ∧ c < K) := by
  have hmy : Mem TT E wy H' L' := A.ts.mem.keepS hy fun _ _ _ _ _ _ h => h
  have dom : ∀ a, a ∈ n :: F1 ++ m :: F2 → ∃ q, H' a = some q := fun a ha => by
    rcases List.mem_append.1 ha with h | h
    · exact A.rl.dom a h
    · exact A.rr.dom a h
  have hnn : ∀ a, a ∈ n :: F1 ++ m :: F2 → a ≠ nn := fun a ha e => by
    obtain ⟨q, hq⟩ := dom a ha
    have := hmy.lt hq
    omega
  have ts2 : TStep TT E (fun c _ => c = b) wy H' L' [] we (upd H' nn (some ⟨hr.iso, ((flat h t).length : Int), [med], some [n, m]⟩)) (upd L' nn Ln) [nn] := by
    refine Own.tstep hmy O (fun a r c o ha hf e => A.local a r c o ha hf e) (fun a r c o ha hr' hf e => ?_) (fun a _ ha => ?_) (fun a ha _ => ?_) (fun a ha => by cases ha) (fun a r ha hr' => ?_)
    · obtain rfl := List.mem_singleton.1 ha
      rw [upd_same] at hr' hf
      cases hr'
      exact O.apart 0 1 _ _ (by omega) rfl rfl c o e hf
    · have : a ≠ nn := by simpa using ha
      exact ⟨upd_ne _ _ this, upd_ne _ _ this⟩
    · obtain rfl := List.mem_singleton.1 ha; exact hnew
    · obtain rfl := List.mem_singleton.1 ha
      rw [upd_same] at hr' ⊢
      cases hr'
      exact ⟨1, rfl⟩
  have ts3 := ts2.frame [] (n :: F1 ++ m :: F2) (fun a ha => ⟨by simp, dom a (by simpa using ha)⟩)
  simp only [List.nil_append] at ts3
  have ts4 := A.ts.then T.mem (ts3.pre hy)
  have out : ∀ a, a ∈ n :: F1 ++ m :: F2 → upd H' nn (some ⟨hr.iso, ((flat h t).length : Int), [med], some [n, m]⟩) a = H' a := fun a ha => upd_ne _ _ (hnn a ha)
  have fl : flat (h + 1) (.node [med] [cutL (mx / 2) t, cutR (mx / 2) t]) = flat h t := by
    rw [A.fl]
    show flat h (cutL (mx / 2) t) ++ (med :: flat h (cutR (mx / 2) t) ++ []) = _
    simp
  have hro := A.rl.root.1
  refine ⟨_, _, [nn] ++ (n :: F1 ++ m :: F2), ts4, ⟨O.blk_ 0 rfl, ts4.mem, ?_, ⟨nn, rfl, ⟨_, [n, m], _, upd_same _ _ _, rfl, rfl, rfl, by rw [fl], ⟨n :: F1, m :: F2, A.rl.congr fun a ha => out a (List.mem_append_left _ ha), ⟨m :: F2, [], A.rr.congr fun a ha => out a (List.mem_append_right _ ha), rfl, by simp⟩, rfl⟩, rfl⟩, ?_⟩, ?_, ?_, T.par.cv, T.par.icv, ?_, T.par.odd, T.par.pos, T.par.hb⟩, fl, fun a r c o ha hf hc => ?_⟩
  · rw [List.singleton_append]
    exact List.nodup_cons.2 ⟨fun h => hnn nn h rfl, A.nd⟩
  · have := T.par.odd; have := T.par.pos
    refine ⟨by simp [Tr.its], by simp [Tr.its]; omega, by simp [Tr.its, Tr.ks], fun k hk => ?_⟩
    simp only [Tr.ks, List.mem_cons, List.not_mem_nil, or_false] at hk
    rcases hk with rfl | rfl
    · exact A.wl
    · exact A.wr
  · simp only [its]; rw [fl]; exact T.cnt
  · simp only [its]; rw [fl]; exact T.srt
  · rcases T.par.one with h | ⟨_, h, _⟩
    · exact .inl h
    · rw [hroot] at h; cases h
  · have hky : K ≤ wy.heap.size := Nat.le_trans A.clk hy.size
    by_cases e : a = nn
    · subst e
      rw [upd_same] at ha hf
      cases ha
      rcases O.old 1 _ rfl c o (by omega) hf with ⟨_, _, h, _⟩ | h
      · cases h
      · exact O.apart 0 1 _ _ (by omega) rfl rfl c o h hf
    · rw [upd_ne _ _ e] at ha hf
      exact A.clr a r c o ha hf hc
end Go.Proofs.Ytfikahgofapobaa.T
