/- Part 1 of the texts for the statement FnExactTDescend: the package's tree of maps and sets, its functions' contracts. -/
import Derived.Test.YtfikahgofapobaaYB
import Derived.Test.YtfikahgofapobaaVB
import Derived.Deep.QuietTactic
import Derived.BigQuiet
import Derived.Deep.RegionHeld3
import Derived.Laws.EntriesVeiled
import Derived.ProofKit
import Derived.SliceStrings
import Derived.Deep.SlicePairs
namespace Go.Proofs.Ytfikahgofapobaa.T
open Go.RowKit Go.Wb

/-- A function value (function g, what it captured) to which items are handed: J tells what was handed on so far; all that turns lies in S. -/
structure Hands (g : FuncId) (caps : Array Value) (go : List It → Bool) (J : List It → World → Prop) (S : Nat → Nat → Prop) (w0 : World) (N : Nat) : Prop where
  call : ∀ acc x W, J acc W → acc.length < N → Calls Try.prog g (#[kv (ky x), vv x] ++ caps) W fun e W' => e = .returned (.bool (go (acc ++ [x]))) ∧ J (acc ++ [x]) W'
  enter : ∀ args w, (callFunc g args).run Try.prog w = .ok (.enter g args) w
  keep : ∀ acc W, J acc W → Keep S w0 W
  calm : ∀ acc W W', J acc W → Keep Nothing W W' → J acc W'

/-- What handing on leaves. -/
def HandPost (J : List It → World → Prop) (r : List It × Bool) (e : Ending) (w' : World) : Prop := e = .returned (.bool r.2) ∧ J r.1 w'

/-- A node that stays while S turns, the head, and the cell that leads to it. -/
structure Stays (w0 : World) (S : Nat → Nat → Prop) (b : Nat) (hr : HRec) (pb po n : Nat) (r : NRec It) (L : Lay) : Prop where
  hdr : ∀ W, Keep S w0 W → Hdr W b hr
  cell : ∀ W, Keep S w0 W → W.cell? ⟨pb, po, none⟩ = some (ptr n)
  node : ∀ W, Keep S w0 W → NodeAt TT E W n r L
  iso : r.iso = hr.iso
  len : r.items.length ≤ 1000000000000

/-- The cells of an item of a node. -/
theorem node_item {w : World} {n : Nat} {r : NRec It} {L : Lay} (hn : NodeAt TT E w n r L) {i : Nat} {x : It} (hi : r.items[i]? = some x) : ∃ ib io, L.ia = some ⟨ib, io, none⟩ ∧
    w.cell? ⟨ib, io + i, none⟩ = some (kv (ky x)) ∧ (partAt ⟨ib, io + i, none⟩ 0 0).run Try.prog w = .ok ⟨ib, io + i, none⟩ w ∧ (partAt ⟨ib, io + i, none⟩ 0 0).run Try.prog w.drew = .ok ⟨ib, io + i, none⟩ w.drew := by
  obtain ⟨hil, _⟩ := List.getElem?_eq_some_iff.1 hi
  have hrow := hn.2.1
  obtain ⟨ib, io, hia, _⟩ := hrow.form (by rw [E.all_len]; exact Nat.mul_pos (by omega) E.pos)
  rw [hia] at hrow
  exact ⟨ib, io, hia, key_cell hrow hi, elem0 hrow, elem0 (hrow.keep' (Keep.drew (fun _ _ => False) w) fun _ _ _ h => h)⟩

/-- The cells of a child of a node. -/
theorem node_child {w : World} {n : Nat} {r : NRec It} {L : Lay} (hn : NodeAt TT E w n r L) {ns : List Nat} (hk : r.kids = some ns) {i m : Nat} (hi : ns[i]? = some m) : ∃ kb ko, L.ka = some ⟨kb, ko, none⟩ ∧ w.cell? ⟨n, 3, none⟩ = some (ptr L.cb) ∧
    w.cell? ⟨L.cb, 0, none⟩ = some (.slice (some ⟨kb, ko, none⟩) ns.length L.kcap) ∧ w.cell? ⟨kb, ko + i, none⟩ = some (ptr m) := by
  obtain ⟨c3, g1, _, hrow, _⟩ := hn.kids hk
  obtain ⟨hil, _⟩ := List.getElem?_eq_some_iff.1 hi
  obtain ⟨kb, ko, hka, _⟩ := hrow.form (by simp; omega)
  rw [hka] at hrow g1
  exact ⟨kb, ko, hka, c3, g1, hrow.cell (i := i) (v := ptr m) (by simp [hi])⟩

/-- All nodes of a tree stay while S turns, which is none of theirs. -/
structure StayAll (w0 : World) (S : Nat → Nat → Prop) (b : Nat) (hr : HRec) (H : Store It) (L : Nat → Lay) : Prop where
  hdr : ∀ W, Keep S w0 W → Hdr W b hr
  node : ∀ W, Keep S w0 W → ∀ n r, H n = some r → NodeAt TT E W n r (L n)

theorem TreeAt.stay {w0 : World} {b : Nat} {hr : HRec} {H : Store It} {L : Nat → Lay} {F : List Nat} {mn mx : Nat} {s : Sh} (T : TreeAt w0 b hr H L F mn mx s) {S : Nat → Nat → Prop} (hb : ∀ o, ¬ S b o) (hS : ∀ n r c o, H n = some r → fp TT n r (L n) c o → ¬ S c o) : StayAll w0 S b hr H L :=
  ⟨fun _ hk => blk_keep T.hdr hk hb, fun _ hk n r hr => (T.mem.at_ n r hr).keep hk fun c o hf => hS n r c o hr hf⟩

def HandedPost (J : List It → World → Prop) (r : List It × Bool) (e : Ending) (w' : World) : Prop := e = .returned (.tuple #[]) ∧ J r.1 w'

/-- What is given where a tree's items are handed to a function. -/
structure HandPre (w0 w : World) (b : Nat) (hr : HRec) (H : Store It) (L : Nat → Lay) (F : List Nat) (mn mx : Nat) (s : Sh) (g : FuncId) (caps : Array Value) (go : List It → Bool) (J : List It → World → Prop) (S : Nat → Nat → Prop) (N : Nat) : Prop where
  tree : TreeAt w0 b hr H L F mn mx s
  hands : Hands g caps go J S w0 N
  hb : ∀ o, ¬ S b o
  hS : ∀ n r c o, H n = some r → fp TT n r (L n) c o → ¬ S c o
  len : (its s).length ≤ N
  start : J [] w
theorem HandPre.calm {w0 w w' : World} {b : Nat} {hr : HRec} {H : Store It} {L : Nat → Lay} {F : List Nat} {mn mx : Nat} {s : Sh} {g : FuncId} {caps : Array Value} {go : List It → Bool} {J : List It → World → Prop} {S : Nat → Nat → Prop} {N : Nat} (P : HandPre w0 w b hr H L F mn mx s g caps go J S N) (hk : Keep Nothing w w') : HandPre w0 w' b hr H L F mn mx s g caps go J S N :=
  ⟨P.tree, P.hands, P.hb, P.hS, P.len, P.hands.calm _ _ _ P.start hk⟩
end Go.Proofs.Ytfikahgofapobaa.T

namespace Go.Proofs.Ytfikahgofapobaa.T
open Go.RowKit Go.Wb

set_option maxRecDepth 100000 in
set_option maxHeartbeats 8000000 in
theorem scan_leaf {w0 w : World} {b : Nat} {hr : HRec} {pb po n : Nat} {g : FuncId} {caps : Array Value} {go : List It → Bool} {J : List It → World → Prop} {S : Nat → Nat → Prop} {N : Nat} {r : NRec It} {L : Lay}
    (HD : Hands g caps go J S w0 N) (A : Stays w0 S b hr pb po n r L) (hkn : r.kids = none) {acc : List It} (hJ : J acc w) (hN : acc.length + r.items.length ≤ N) :
    Calls Try.prog 239 #[ptr b, .pointer (some ⟨pb, po, none⟩), .func (.func g) #[] caps, .bool false] w (HandPost J (handOn go acc r.items)) := by
  have HH := Lib.hid HD
  have hcf := HD.enter
  have HA := Lib.hid A
  have HJ := Lib.hid hJ
  have hk0 := HD.keep _ _ hJ
  have hiso := Lib.hid (isoLoad_own (A.hdr w hk0) (A.cell w hk0) (A.node w hk0) A.iso false)
  have HKN := Lib.hid hkn
  have hlen := A.len
  clear HD A hJ hk0 hkn
  unfold ptr at *
  go_enter Try.func239, Try.ntmps239
  go_wp2_with fail
  refine hiso.out.mono ?_
  rintro e w1 ⟨rfl, kd, rfl⟩
  have HJ1 : Hid (J acc (w.drewN kd)) := by exact HH.out.calm _ _ _ HJ.out (Keep.drewN _ _ _)
  clear hiso HJ
  generalize w.drewN kd = w1 at *
  have hlv := leaf_any (HA.out.node w1 (HH.out.keep _ _ HJ1.out))
  rw [HKN.out] at hlv
  simp only [Option.isNone_none] at hlv
  unfold ptr at *
  go_wp2_with fail
  refine hlv.mono ?_
  rintro e w2 ⟨rfl, rfl⟩
  clear hlv
  go_wp2_with fail
  go_loopg [10] (r.items.length + 1) (fun k v10 wr => ∃ (i : Nat) (acc' : List It), v10 = .int .i64 i ∧ i ≤ r.items.length ∧ i + k = r.items.length + 1 ∧ J acc' wr ∧ handOn go acc r.items = handOn go acc' (r.items.drop i) ∧ acc'.length + (r.items.length - i) ≤ N)
  case atStart => exact ⟨0, acc, rfl, by omega, by omega, HJ1.out, by simp, by omega⟩
  case round =>
    obtain ⟨i, acc', rfl, hil, hik, hJr, heq, hNr⟩ := hrel
    have HJr := Lib.hid hJr
    have HEQ := Lib.hid heq
    have N1 := Lib.hid (HA.out.node wr (HH.out.keep _ _ hJr))
    obtain ⟨d0, d1, c2, d3, fz⟩ := N1.out.own
    clear d0 d1 d3 hJr heq
    by_cases hlt : i < r.items.length
    · have hx : r.items[i]? = some r.items[i] := List.getElem?_eq_getElem hlt
      have hd : r.items.drop i = r.items[i] :: r.items.drop (i + 1) := List.drop_eq_getElem_cons hlt
      generalize r.items[i] = x at *
      have HD := Lib.hid hd
      obtain ⟨ib, io, hia, ck⟩ := node_item N1.out hx
      rw [hia] at c2
      obtain ⟨ck, cv, cv2⟩ := ck
      have hcall := Lib.hid (HH.out.call acc' x wr.drew (HH.out.calm _ _ _ HJr.out (Keep.drew _ _)) (by omega))
      clear hd hx hia
      unfold kv vv at *
      go_wp2_with fail
      refine wp_calm (by kernel_rfl) (by kernel_rfl) rfl ?_
      simp only [List.flatMap_cons, List.flatMap_nil, checks, chk, nilLit, List.cons_append, List.nil_append, List.append_nil]
      go_wp2_with fail
      cases hg : go (acc' ++ [x]) with
      | true =>
        have HG := Lib.hid hg
        rw [hg] at hcall
        clear hg
        refine hcall.out.mono ?_
        rintro e w3 ⟨rfl, hJ3⟩
        have HJ3 := Lib.hid hJ3
        clear hJ3 hcall
        go_wp2_with fail
        rw [HQ_normal]
        go_wp2_with fail
        go_roundg (r.items.length - i)
        case measure => omega
        case rel => exact ⟨i + 1, acc' ++ [x], by go_num, by omega, by omega, HJ3.out, by rw [HEQ.out, HD.out, handOn_yes HG.out], by simp; omega⟩
      | false =>
        have HG := Lib.hid hg
        rw [hg] at hcall
        clear hg
        refine hcall.out.mono ?_
        rintro e w3 ⟨rfl, hJ3⟩
        have HJ3 := Lib.hid hJ3
        clear hJ3 hcall
        go_wp2_with fail
        rw [HQ_normal]
        go_wp2_with fail
        go_ret
        rw [HEQ.out, HD.out, handOn_no HG.out]
        exact ⟨rfl, HJ3.out⟩
    · have hi : i = r.items.length := by omega
      subst hi
      go_wp2_with fail
      go_ret
      rw [HEQ.out, List.drop_eq_nil_of_le (Nat.le_refl _)]
      exact ⟨rfl, HJr.out⟩

set_option maxRecDepth 100000 in
set_option maxHeartbeats 8000000 in
theorem scan_inner {w0 w : World} {b : Nat} {hr : HRec} {pb po n h : Nat} {g : FuncId} {caps : Array Value} {go : List It → Bool} {J : List It → World → Prop} {S : Nat → Nat → Prop} {N : Nat} {r : NRec It} {L : Lay}
    (HD : Hands g caps go J S w0 N) (A : Stays w0 S b hr pb po n r L) {ns : List Nat} (hkn : r.kids = some ns) {ks : List (Tr It)} (hks : ks.length = r.items.length + 1) (hnl : ns.length = ks.length)
    (IH : ∀ (i m : Nat) (k : Tr It) (kb ko : Nat) (acc : List It) (W : World), ns[i]? = some m → ks[i]? = some k → L.ka = some ⟨kb, ko, none⟩ → J acc W → acc.length + (flat h k).length ≤ N →
      Calls Try.prog 239 #[ptr b, .pointer (some ⟨kb, ko + i, none⟩), .func (.func g) #[] caps, .bool false] W (HandPost J (handOn go acc (flat h k))))
    {acc : List It} (hJ : J acc w) (hN : acc.length + (flat (h + 1) (.node r.items ks)).length ≤ N) :
    Calls Try.prog 239 #[ptr b, .pointer (some ⟨pb, po, none⟩), .func (.func g) #[] caps, .bool false] w (HandPost J (handOn go acc (flat (h + 1) (.node r.items ks)))) := by
  have HH := Lib.hid HD
  have hcf := HD.enter
  have HA := Lib.hid A
  have HJ := Lib.hid hJ
  have HI := Lib.hid IH
  have hk0 := HD.keep _ _ hJ
  have hiso := Lib.hid (isoLoad_own (A.hdr w hk0) (A.cell w hk0) (A.node w hk0) A.iso false)
  have HKN := Lib.hid hkn
  have HKS := Lib.hid hks
  have HNL := Lib.hid hnl
  have hlen := A.len
  clear HD A hJ hk0 hkn IH hks hnl
  unfold ptr at *
  go_enter Try.func239, Try.ntmps239
  go_wp2_with fail
  refine hiso.out.mono ?_
  rintro e w1 ⟨rfl, kd, rfl⟩
  have HJ1 : Hid (J acc (w.drewN kd)) := by exact HH.out.calm _ _ _ HJ.out (Keep.drewN _ _ _)
  clear hiso HJ
  generalize w.drewN kd = w1 at *
  have hlv := leaf_any (HA.out.node w1 (HH.out.keep _ _ HJ1.out))
  rw [HKN.out] at hlv
  simp only [Option.isNone_some] at hlv
  unfold ptr at *
  go_wp2_with fail
  refine hlv.mono ?_
  rintro e w2 ⟨rfl, rfl⟩
  clear hlv
  go_wp2_with fail
  go_loopg [11] (r.items.length + 1) (fun k v11 wr => ∃ (i : Nat) (acc' : List It), v11 = .int .i64 i ∧ i ≤ r.items.length ∧ i + k = r.items.length + 1 ∧ J acc' wr ∧ handOn go acc (flat (h + 1) (.node r.items ks)) = handOn go acc' (tl h r.items ks i) ∧ acc'.length + (tl h r.items ks i).length ≤ N)
  case atStart => exact ⟨0, acc, rfl, by omega, by omega, HJ1.out, by rw [tl_zero], by rw [← tl_zero]; exact hN⟩
  case round =>
    obtain ⟨i, acc', rfl, hil, hik, hJr, heq, hNr⟩ := hrel
    have HJr := Lib.hid hJr
    have HEQ := Lib.hid heq
    have N1 := Lib.hid (HA.out.node wr (HH.out.keep _ _ hJr))
    obtain ⟨d0, d1, c2, d3, fz⟩ := N1.out.own
    have hkl : ks[i]? = some (ks[i]'(by have := HKS.out; omega)) := List.getElem?_eq_getElem _
    have hnl : ns[i]? = some (ns[i]'(by have := HKS.out; have := HNL.out; omega)) := List.getElem?_eq_getElem _
    have hnsl : i < ns.length := (List.getElem?_eq_some_iff.1 hnl).1
    generalize ns[i]'(by have := HKS.out; have := HNL.out; omega) = m at *
    generalize ks[i]'(by have := HKS.out; omega) = k at *
    obtain ⟨kb, ko, hka, c3, g1, ck⟩ := node_child N1.out HKN.out hnl
    have HKL := Lib.hid hkl
    unfold ptr at *
    by_cases hlt : i < r.items.length
    · have hx : r.items[i]? = some r.items[i] := List.getElem?_eq_getElem hlt
      generalize r.items[i] = x at *
      have HTL := Lib.hid (tl_succ (h := h) hkl hx HKS.out)
      have hlen2 : Hid (acc'.length + (flat h k).length + 1 + (tl h r.items ks (i + 1)).length ≤ N) := by
        have := hNr; rw [HTL.out] at this; simp only [List.length_append, List.length_cons] at this; exact Lib.hid (by omega)
      have hcall := Lib.hid (HI.out i m k kb ko acc' wr hnl hkl hka HJr.out (by have := hlen2.out; omega))
      have HX := Lib.hid hx
      clear d0 d1 d3 hJr heq hkl hnl hka hx
      obtain ⟨⟨a1, yes⟩, hro⟩ : ∃ p, handOn go acc' (flat h k) = p := ⟨_, rfl⟩
      have HRO := Lib.hid hro
      rw [hro] at hcall
      clear hro
      go_wp2_with fail
      refine hcall.out.mono ?_
      rintro e w3 ⟨rfl, hJ3⟩
      have HJ3 := Lib.hid hJ3
      clear hJ3 hcall N1 c2 fz c3 g1 ck
      cases yes with
      | false =>
        go_wp2_with fail
        go_ret
        rw [HEQ.out, HTL.out, handOn_end HRO.out]
        exact ⟨rfl, HJ3.out⟩
      | true =>
        have N3 := Lib.hid (HA.out.node w3 (HH.out.keep _ _ HJ3.out))
        obtain ⟨d0, d1, c2, d3, fz⟩ := N3.out.own
        obtain ⟨ib, io, hia, ck⟩ := node_item N3.out HX.out
        rw [hia] at c2
        obtain ⟨ck, cv, cv2⟩ := ck
        have hcall := Lib.hid (HH.out.call a1 x w3.drew (HH.out.calm _ _ _ HJ3.out (Keep.drew _ _)) (by have := handOn_len HRO.out; have := hlen2.out; omega))
        clear d0 d1 d3 hia
        unfold kv vv at *
        simp only at HJ3 HRO
        go_wp2_with fail
        refine wp_calm (by kernel_rfl) (by kernel_rfl) rfl ?_
        simp only [List.flatMap_cons, List.flatMap_nil, checks, chk, nilLit, List.cons_append, List.nil_append, List.append_nil]
        go_wp2_with fail
        cases hg : go (a1 ++ [x]) with
        | true =>
          have HG := Lib.hid hg
          rw [hg] at hcall
          clear hg
          refine hcall.out.mono ?_
          rintro e w4 ⟨rfl, hJ4⟩
          have HJ4 := Lib.hid hJ4
          clear hJ4 hcall
          go_wp2_with fail
          rw [HQ_normal]
          go_wp2_with fail
          go_roundg (r.items.length - i)
          case measure => omega
          case rel => exact ⟨i + 1, a1 ++ [x], by go_num, by omega, by omega, HJ4.out, by rw [HEQ.out, HTL.out, handOn_on HRO.out, handOn_yes HG.out], by have := handOn_len HRO.out; have := hlen2.out; simp; omega⟩
        | false =>
          have HG := Lib.hid hg
          rw [hg] at hcall
          clear hg
          refine hcall.out.mono ?_
          rintro e w4 ⟨rfl, hJ4⟩
          have HJ4 := Lib.hid hJ4
          clear hJ4 hcall
          go_wp2_with fail
          rw [HQ_normal]
          go_wp2_with fail
          go_ret
          rw [HEQ.out, HTL.out, handOn_on HRO.out, handOn_no HG.out]
          exact ⟨rfl, HJ4.out⟩
    · have hi : i = r.items.length := by omega
      subst hi
      have hcall := Lib.hid (HI.out _ m k kb ko acc' wr.drew hnl hkl hka (HH.out.calm _ _ _ HJr.out (Keep.drew _ _)) (by have := hNr; rw [tl_last hkl HKS.out] at this; exact this))
      rw [HNL.out, HKS.out] at g1
      clear d0 d1 d3 hJr heq hkl hnl hka
      go_wp2_with fail
      refine wp_calm (by kernel_rfl) (by kernel_rfl) rfl ?_
      simp only [List.flatMap_cons, List.flatMap_nil, checks, chk, nilLit, List.cons_append, List.nil_append, List.append_nil]
      go_wp2_with fail
      refine hcall.out.mono ?_
      rintro e w3 ⟨rfl, hJ3⟩
      have HJ3 := Lib.hid hJ3
      clear hJ3 hcall
      go_wp2_with fail
      rw [HQ_normal]
      go_wp2_with fail
      go_ret
      rw [HEQ.out, tl_last HKL.out HKS.out]
      exact ⟨rfl, HJ3.out⟩

/-- THE SCAN below a node. -/
theorem scan_any {w0 : World} {b : Nat} {hr : HRec} {H : Store It} {L : Nat → Lay} {g : FuncId} {caps : Array Value} {go : List It → Bool} {J : List It → World → Prop} {S : Nat → Nat → Prop} {N : Nat} {mn mx : Nat}
    (HD : Hands g caps go J S w0 N) (A : StayAll w0 S b hr H L) (hmx : mx ≤ 1000000000000) : ∀ (h l n : Nat) (t : Tr It) (F : List Nat), Rep H hr.iso h n t F → wfr l mn mx h t → ∀ (pb po : Nat), (∀ W, Keep S w0 W → W.cell? ⟨pb, po, none⟩ = some (ptr n)) → ∀ (acc : List It) (w : World), J acc w → acc.length + (flat h t).length ≤ N →
    Calls Try.prog 239 #[ptr b, .pointer (some ⟨pb, po, none⟩), .func (.func g) #[] caps, .bool false] w (HandPost J (handOn go acc (flat h t)))
  | 0, l, n, t, F, hrp, wf, pb, po, hc, acc, w, hJ, hN => by
    obtain ⟨r, h1, h2, h3, h4, h5, h6, _⟩ := hrp
    obtain ⟨its, ks⟩ := t
    simp only [Tr.its, flat] at *
    subst h3
    exact scan_leaf HD ⟨A.hdr, hc, fun W k => A.node W k n r h1, h2, by have := wf.2.1; simp only [Tr.its] at this; omega⟩ h5 hJ hN
  | h + 1, l, n, t, F, hrp, wf, pb, po, hc, acc, w, hJ, hN => by
    obtain ⟨r, ns, F', h1, h2, h3, h4, h5, h6, _⟩ := hrp
    obtain ⟨w1, w2, w3, w4⟩ := wf
    obtain ⟨its, ks⟩ := t
    simp only [Tr.its, Tr.ks] at *
    subst h3
    refine scan_inner HD ⟨A.hdr, hc, fun W k => A.node W k n r h1, h2, by omega⟩ h4 w3 h6.len (fun i m k kb ko acc W hm1 hk hka hJ hN => ?_) hJ hN
    obtain ⟨G, hR⟩ := h6.get hm1 hk
    refine scan_any HD A hmx h mn m k G hR (w4 k (List.mem_of_getElem? hk)) kb (ko + i) (fun W' hk' => ?_) acc W hJ hN
    obtain ⟨kb', ko', hka', _, _, ck⟩ := node_child (A.node W' hk' n r h1) h4 hm1
    rw [hka] at hka'
    obtain ⟨rfl, rfl⟩ : kb = kb' ∧ ko = ko' := by simpa using hka'
    exact ck
end Go.Proofs.Ytfikahgofapobaa.T

namespace Go.Proofs.Ytfikahgofapobaa.T
open Go.RowKit Go.Wb

theorem take_rev {α : Type} {l : List α} {j : Nat} {x : α} (h : l[j]? = some x) : (l.take (j + 1)).reverse = x :: (l.take j).reverse := by
  rw [List.take_add_one, h]; simp
theorem lo_rev {h j : Nat} {its : List It} {ks : List (Tr It)} {k : Tr It} {x : It} (hk : ks[j]? = some k) (hx : its[j]? = some x) : (lo h its ks (j + 1)).reverse = x :: ((flat h k).reverse ++ (lo h its ks j).reverse) := by
  rw [lo_succ hk hx]; simp

set_option maxRecDepth 100000 in
set_option maxHeartbeats 8000000 in
theorem reverse_leaf {w0 w : World} {b : Nat} {hr : HRec} {pb po n : Nat} {g : FuncId} {caps : Array Value} {go : List It → Bool} {J : List It → World → Prop} {S : Nat → Nat → Prop} {N : Nat} {r : NRec It} {L : Lay}
    (HD : Hands g caps go J S w0 N) (A : Stays w0 S b hr pb po n r L) (hkn : r.kids = none) {acc : List It} (hJ : J acc w) (hN : acc.length + r.items.length ≤ N) :
    Calls Try.prog 234 #[ptr b, .pointer (some ⟨pb, po, none⟩), .func (.func g) #[] caps, .bool false] w (HandPost J (handOn go acc r.items.reverse)) := by
  have HH := Lib.hid HD
  have hcf := HD.enter
  have HA := Lib.hid A
  have HJ := Lib.hid hJ
  have hk0 := HD.keep _ _ hJ
  have hiso := Lib.hid (isoLoad_own (A.hdr w hk0) (A.cell w hk0) (A.node w hk0) A.iso false)
  have HKN := Lib.hid hkn
  have hlen := A.len
  clear HD A hJ hk0 hkn
  unfold ptr at *
  go_enter Try.func234, Try.ntmps234
  go_wp2_with fail
  refine hiso.out.mono ?_
  rintro e w1 ⟨rfl, kd, rfl⟩
  have HJ1 : Hid (J acc (w.drewN kd)) := by exact HH.out.calm _ _ _ HJ.out (Keep.drewN _ _ _)
  clear hiso HJ
  generalize w.drewN kd = w1 at *
  have N0 := HA.out.node w1 (HH.out.keep _ _ HJ1.out)
  have hlv := leaf_any N0
  obtain ⟨d0, d1, c2, d3, fz⟩ := N0.own
  rw [HKN.out] at hlv
  simp only [Option.isNone_none] at hlv
  clear d0 d1 d3 N0
  unfold ptr at *
  go_wp2_with fail
  refine hlv.mono ?_
  rintro e w2 ⟨rfl, rfl⟩
  clear hlv
  go_wp2_with fail
  clear c2 fz
  go_loopg [10] (r.items.length + 1) (fun k v10 wr => ∃ (i : Nat) (z : Int) (acc' : List It), v10 = .int .i64 z ∧ z + 1 = i ∧ i ≤ r.items.length ∧ i < k ∧ J acc' wr ∧ handOn go acc r.items.reverse = handOn go acc' (r.items.take i).reverse ∧ acc'.length + i ≤ N)
  case atStart => exact ⟨r.items.length, _, acc, rfl, by omega, by omega, by omega, HJ1.out, by rw [List.take_of_length_le (Nat.le_refl _)], hN⟩
  case round =>
    obtain ⟨i, z, acc', rfl, hzi, hil, hik, hJr, heq, hNr⟩ := hrel
    have HJr := Lib.hid hJr
    have HEQ := Lib.hid heq
    have N1 := Lib.hid (HA.out.node wr (HH.out.keep _ _ hJr))
    obtain ⟨d0, d1, c2, d3, fz⟩ := N1.out.own
    clear d0 d1 d3 hJr heq
    cases i with
    | succ j =>
      obtain rfl : z = (j : Int) := by omega
      have hlt : j < r.items.length := by omega
      have hx : r.items[j]? = some r.items[j] := List.getElem?_eq_getElem hlt
      generalize r.items[j] = x at *
      have HD := Lib.hid (take_rev hx)
      obtain ⟨ib, io, hia, ck⟩ := node_item N1.out hx
      rw [hia] at c2
      obtain ⟨ck, cv, cv2⟩ := ck
      have hcall := Lib.hid (HH.out.call acc' x wr.drew (HH.out.calm _ _ _ HJr.out (Keep.drew _ _)) (by omega))
      clear hx hia hzi
      unfold kv vv at *
      go_wp2_with fail
      refine wp_calm (by kernel_rfl) (by kernel_rfl) rfl ?_
      simp only [List.flatMap_cons, List.flatMap_nil, checks, chk, nilLit, List.cons_append, List.nil_append, List.append_nil]
      go_wp2_with fail
      cases hg : go (acc' ++ [x]) with
      | true =>
        have HG := Lib.hid hg
        rw [hg] at hcall
        clear hg
        refine hcall.out.mono ?_
        rintro e w3 ⟨rfl, hJ3⟩
        have HJ3 := Lib.hid hJ3
        clear hJ3 hcall
        go_wp2_with fail
        rw [HQ_normal]
        go_wp2_with fail
        go_roundg (j + 1)
        case measure => omega
        case rel => exact ⟨j, _, acc' ++ [x], rfl, by omega, by omega, by omega, HJ3.out, by rw [HEQ.out, HD.out, handOn_yes HG.out], by simp; omega⟩
      | false =>
        have HG := Lib.hid hg
        rw [hg] at hcall
        clear hg
        refine hcall.out.mono ?_
        rintro e w3 ⟨rfl, hJ3⟩
        have HJ3 := Lib.hid hJ3
        clear hJ3 hcall
        go_wp2_with fail
        rw [HQ_normal]
        go_wp2_with fail
        go_ret
        rw [HEQ.out, HD.out, handOn_no HG.out]
        exact ⟨rfl, HJ3.out⟩
    | zero =>
      obtain rfl : z = -1 := by omega
      go_wp2_with fail
      go_ret
      rw [HEQ.out]
      exact ⟨rfl, HJr.out⟩

set_option maxRecDepth 100000 in
set_option maxHeartbeats 8000000 in
theorem reverse_inner {w0 w : World} {b : Nat} {hr : HRec} {pb po n h : Nat} {g : FuncId} {caps : Array Value} {go : List It → Bool} {J : List It → World → Prop} {S : Nat → Nat → Prop} {N : Nat} {r : NRec It} {L : Lay}
    (HD : Hands g caps go J S w0 N) (A : Stays w0 S b hr pb po n r L) {ns : List Nat} (hkn : r.kids = some ns) {ks : List (Tr It)} (hks : ks.length = r.items.length + 1) (hnl : ns.length = ks.length)
    (IH : ∀ (i m : Nat) (k : Tr It) (kb ko : Nat) (acc : List It) (W : World), ns[i]? = some m → ks[i]? = some k → L.ka = some ⟨kb, ko, none⟩ → J acc W → acc.length + (flat h k).length ≤ N →
      Calls Try.prog 234 #[ptr b, .pointer (some ⟨kb, ko + i, none⟩), .func (.func g) #[] caps, .bool false] W (HandPost J (handOn go acc (flat h k).reverse)))
    {acc : List It} (hJ : J acc w) (hN : acc.length + (flat (h + 1) (.node r.items ks)).length ≤ N) :
    Calls Try.prog 234 #[ptr b, .pointer (some ⟨pb, po, none⟩), .func (.func g) #[] caps, .bool false] w (HandPost J (handOn go acc (flat (h + 1) (.node r.items ks)).reverse)) := by
  have HH := Lib.hid HD
  have hcf := HD.enter
  have HA := Lib.hid A
  have HJ := Lib.hid hJ
  have HI := Lib.hid IH
  have hk0 := HD.keep _ _ hJ
  have hiso := Lib.hid (isoLoad_own (A.hdr w hk0) (A.cell w hk0) (A.node w hk0) A.iso false)
  have HKN := Lib.hid hkn
  have HKS := Lib.hid hks
  have HNL := Lib.hid hnl
  have hlen := A.len
  clear HD A hJ hk0 hkn IH hks hnl
  unfold ptr at *
  go_enter Try.func234, Try.ntmps234
  go_wp2_with fail
  refine hiso.out.mono ?_
  rintro e w1 ⟨rfl, kd, rfl⟩
  have HJ1 : Hid (J acc (w.drewN kd)) := by exact HH.out.calm _ _ _ HJ.out (Keep.drewN _ _ _)
  clear hiso HJ
  generalize w.drewN kd = w1 at *
  have N0 := Lib.hid (HA.out.node w1 (HH.out.keep _ _ HJ1.out))
  have hlv := leaf_any N0.out
  rw [HKN.out] at hlv
  simp only [Option.isNone_some] at hlv
  unfold ptr at *
  go_wp2_with fail
  refine hlv.mono ?_
  rintro e w2 ⟨rfl, rfl⟩
  clear hlv
  -- the last child
  obtain ⟨q, hq⟩ : ∃ q, r.items.length = q := ⟨_, rfl⟩
  have HQ := Lib.hid hq
  have hkl : ks[q]? = some (ks[q]'(by have := HKS.out; omega)) := List.getElem?_eq_getElem _
  have hnl : ns[q]? = some (ns[q]'(by have := HKS.out; have := HNL.out; omega)) := List.getElem?_eq_getElem _
  generalize ns[q]'(by have := HKS.out; have := HNL.out; omega) = m at *
  generalize ks[q]'(by have := HKS.out; omega) = k at *
  obtain ⟨kb, ko, hka, c3, g1, ck⟩ := node_child N0.out HKN.out hnl
  have HLAST : Hid (flat (h + 1) (.node r.items ks) = lo h r.items ks q ++ flat h k) := by subst hq; exact lo_last HKS.out hkl
  have HLL : Hid (acc.length + (lo h r.items ks q).length + (flat h k).length ≤ N) := by
    have := hN; rw [HLAST.out] at this; simp only [List.length_append] at this; exact Lib.hid (by omega)
  have hcall := Lib.hid (HI.out _ m k kb ko acc w1.drew hnl hkl hka (HH.out.calm _ _ _ HJ1.out (Keep.drew _ _)) (by have := HLL.out; omega))
  clear hN
  rw [HNL.out, HKS.out, HQ.out] at g1
  obtain ⟨⟨a1, yes⟩, hro⟩ : ∃ p, handOn go acc (flat h k).reverse = p := ⟨_, rfl⟩
  have HRO := Lib.hid hro
  rw [hro] at hcall
  have hlq : q ≤ 1000000000000 := by omega
  clear hro hkl hnl hka hq
  unfold ptr at *
  go_wp2_with fail
  refine wp_calm (by kernel_rfl) (by kernel_rfl) rfl ?_
  simp only [List.flatMap_cons, List.flatMap_nil, checks, chk, nilLit, List.cons_append, List.nil_append, List.append_nil]
  go_wp2_with fail
  refine hcall.out.mono ?_
  rintro e w3 ⟨rfl, hJ3⟩
  have HJ3 := Lib.hid hJ3
  clear hJ3 hcall c3 g1 ck N0 HJ1
  cases yes with
  | false =>
    go_wp2_with fail
    rw [HQ_normal]
    go_wp2_with fail
    go_ret
    rw [HLAST.out, List.reverse_append, handOn_end HRO.out]
    exact ⟨rfl, HJ3.out⟩
  | true =>
    simp only at HJ3 HRO
    have N3 := HA.out.node w3 (HH.out.keep _ _ HJ3.out)
    obtain ⟨d0, d1, c2, d3, fz⟩ := N3.own
    rw [HQ.out] at c2
    clear d0 d1 d3 N3
    go_wp2_with fail
    rw [HQ_normal]
    go_wp2_with fail
    clear c2 fz
    go_loopg [11] (q + 1) (fun c v11 wr => ∃ (i : Nat) (z : Int) (acc' : List It), v11 = .int .i64 z ∧ z + 1 = i ∧ i ≤ q ∧ i < c ∧ J acc' wr ∧ handOn go acc (flat (h + 1) (.node r.items ks)).reverse = handOn go acc' (lo h r.items ks i).reverse ∧ acc'.length + (lo h r.items ks i).length ≤ N)
    case atStart => exact ⟨q, _, a1, rfl, by omega, by omega, by omega, HJ3.out, by rw [HLAST.out, List.reverse_append, handOn_on HRO.out], by have := handOn_len HRO.out; have := HLL.out; simp at *; omega⟩
    case round =>
      obtain ⟨i, z, acc', rfl, hzi, hil, hik, hJr, heq, hNr⟩ := hrel
      have HJr := Lib.hid hJr
      have HEQ := Lib.hid heq
      have N1 := Lib.hid (HA.out.node wr (HH.out.keep _ _ hJr))
      obtain ⟨d0, d1, c2, d3, fz⟩ := N1.out.own
      rw [HQ.out] at c2
      clear d0 d1 d3 hJr heq
      cases i with
      | succ j =>
        obtain rfl : z = (j : Int) := by omega
        have hlt : j < r.items.length := by have := HQ.out; omega
        have hkl : ks[j]? = some (ks[j]'(by have := HKS.out; omega)) := List.getElem?_eq_getElem _
        have hnl : ns[j]? = some (ns[j]'(by have := HKS.out; have := HNL.out; omega)) := List.getElem?_eq_getElem _
        have hnsl : j < ns.length := (List.getElem?_eq_some_iff.1 hnl).1
        have hx : r.items[j]? = some r.items[j] := List.getElem?_eq_getElem hlt
        generalize ns[j]'(by have := HKS.out; have := HNL.out; omega) = m2 at *
        generalize ks[j]'(by have := HKS.out; omega) = k2 at *
        generalize r.items[j] = x at *
        have HD := Lib.hid (lo_rev (h := h) hkl hx)
        have HLR : Hid (acc'.length + 1 + (flat h k2).length + (lo h r.items ks j).length ≤ N) := by
          have := hNr; rw [lo_succ hkl hx] at this; simp only [List.length_append, List.length_cons, List.length_nil] at this; exact Lib.hid (by omega)
        clear hNr
        have HKL := Lib.hid hkl
        have HNN := Lib.hid hnl
        obtain ⟨ib, io, hia, ck⟩ := node_item N1.out hx
        rw [hia] at c2
        obtain ⟨ck, cv, cv2⟩ := ck
        have hcall := Lib.hid (HH.out.call acc' x wr.drew (HH.out.calm _ _ _ HJr.out (Keep.drew _ _)) (by have := HLR.out; omega))
        clear hx hia hzi hkl hnl hlt
        unfold kv vv at *
        go_wp2_with fail
        refine wp_calm (by kernel_rfl) (by kernel_rfl) rfl ?_
        simp only [List.flatMap_cons, List.flatMap_nil, checks, chk, nilLit, List.cons_append, List.nil_append, List.append_nil]
        go_wp2_with fail
        cases hg : go (acc' ++ [x]) with
        | false =>
          have HG := Lib.hid hg
          rw [hg] at hcall
          clear hg
          refine hcall.out.mono ?_
          rintro e w4 ⟨rfl, hJ4⟩
          have HJ4 := Lib.hid hJ4
          clear hJ4 hcall
          go_wp2_with fail
          rw [HQ_normal]
          go_wp2_with fail
          go_ret
          rw [HEQ.out, HD.out, handOn_no HG.out]
          exact ⟨rfl, HJ4.out⟩
        | true =>
          have HG := Lib.hid hg
          rw [hg] at hcall
          clear hg
          refine hcall.out.mono ?_
          rintro e w4 ⟨rfl, hJ4⟩
          have HJ4 := Lib.hid hJ4
          clear hJ4 hcall N1 c2 fz ck cv
          clear cv2
          have N4 := Lib.hid (HA.out.node w4 (HH.out.keep _ _ HJ4.out))
          obtain ⟨kb, ko, hka, c3, g1, ck⟩ := node_child N4.out HKN.out HNN.out
          have hcall := Lib.hid (HI.out _ m2 k2 kb ko (acc' ++ [x]) w4 HNN.out HKL.out hka HJ4.out (by have := HLR.out; simp; omega))
          obtain ⟨⟨a3, yes⟩, hro⟩ : ∃ p, handOn go (acc' ++ [x]) (flat h k2).reverse = p := ⟨_, rfl⟩
          have HRO2 := Lib.hid hro
          rw [hro] at hcall
          clear hro hka
          unfold ptr at *
          go_wp2_with fail
          rw [HQ_normal]
          go_wp2_with fail
          refine hcall.out.mono ?_
          rintro e w5 ⟨rfl, hJ5⟩
          have HJ5 := Lib.hid hJ5
          clear hJ5 hcall c3 g1 ck
          cases yes with
          | false =>
            go_wp2_with fail
            go_ret
            rw [HEQ.out, HD.out, handOn_yes HG.out, handOn_end HRO2.out]
            exact ⟨rfl, HJ5.out⟩
          | true =>
            simp only at HJ5 HRO2
            go_wp2_with fail
            go_roundg (j + 1)
            case measure => omega
            case rel => exact ⟨j, _, a3, rfl, by omega, by omega, by omega, HJ5.out, by rw [HEQ.out, HD.out, handOn_yes HG.out, handOn_on HRO2.out], by have := handOn_len HRO2.out; have := HLR.out; simp at *; omega⟩
      | zero =>
        obtain rfl : z = -1 := by omega
        go_wp2_with fail
        go_ret
        rw [HEQ.out, lo_zero]
        exact ⟨rfl, HJr.out⟩

/-- IN REVERSE below a node. -/
theorem reverse_any {w0 : World} {b : Nat} {hr : HRec} {H : Store It} {L : Nat → Lay} {g : FuncId} {caps : Array Value} {go : List It → Bool} {J : List It → World → Prop} {S : Nat → Nat → Prop} {N : Nat} {mn mx : Nat}
    (HD : Hands g caps go J S w0 N) (A : StayAll w0 S b hr H L) (hmx : mx ≤ 1000000000000) : ∀ (h l n : Nat) (t : Tr It) (F : List Nat), Rep H hr.iso h n t F → wfr l mn mx h t → ∀ (pb po : Nat), (∀ W, Keep S w0 W → W.cell? ⟨pb, po, none⟩ = some (ptr n)) → ∀ (acc : List It) (w : World), J acc w → acc.length + (flat h t).length ≤ N →
    Calls Try.prog 234 #[ptr b, .pointer (some ⟨pb, po, none⟩), .func (.func g) #[] caps, .bool false] w (HandPost J (handOn go acc (flat h t).reverse))
  | 0, l, n, t, F, hrp, wf, pb, po, hc, acc, w, hJ, hN => by
    obtain ⟨r, h1, h2, h3, h4, h5, h6, _⟩ := hrp
    obtain ⟨its, ks⟩ := t
    simp only [Tr.its, flat] at *
    subst h3
    exact reverse_leaf HD ⟨A.hdr, hc, fun W k => A.node W k n r h1, h2, by have := wf.2.1; simp only [Tr.its] at this; omega⟩ h5 hJ hN
  | h + 1, l, n, t, F, hrp, wf, pb, po, hc, acc, w, hJ, hN => by
    obtain ⟨r, ns, F', h1, h2, h3, h4, h5, h6, _⟩ := hrp
    obtain ⟨w1, w2, w3, w4⟩ := wf
    obtain ⟨its, ks⟩ := t
    simp only [Tr.its, Tr.ks] at *
    subst h3
    refine reverse_inner HD ⟨A.hdr, hc, fun W k => A.node W k n r h1, h2, by omega⟩ h4 w3 h6.len (fun i m k kb ko acc W hm1 hk hka hJ hN => ?_) hJ hN
    obtain ⟨G, hR⟩ := h6.get hm1 hk
    refine reverse_any HD A hmx h mn m k G hR (w4 k (List.mem_of_getElem? hk)) kb (ko + i) (fun W' hk' => ?_) acc W hJ hN
    obtain ⟨kb', ko', hka', _, _, ck⟩ := node_child (A.node W' hk' n r h1) h4 hm1
    rw [hka] at hka'
    obtain ⟨rfl, rfl⟩ : kb = kb' ∧ ko = ko' := by simpa using hka'
    exact ck
end Go.Proofs.Ytfikahgofapobaa.T

namespace Go.Proofs.Ytfikahgofapobaa.T
open Go.RowKit Go.Wb

/-- The items from a key on; those up to it. -/
def fromK (p : Ky) (l : List It) : List It := l.filter fun x => !klt (ky x) p
def uptoK (p : Ky) (l : List It) : List It := l.filter fun x => !klt p (ky x)

theorem fromK_append (p : Ky) (l m : List It) : fromK p (l ++ m) = fromK p l ++ fromK p m := List.filter_append ..
theorem uptoK_append (p : Ky) (l m : List It) : uptoK p (l ++ m) = uptoK p l ++ uptoK p m := List.filter_append ..
theorem fromK_less {p : Ky} {l : List It} (h : ∀ a ∈ l, klt (ky a) p = true) : fromK p l = [] := List.filter_eq_nil_iff.2 fun a ha => by simp [h a ha]
theorem fromK_more {p : Ky} {l : List It} (h : ∀ a ∈ l, klt (ky a) p = false) : fromK p l = l := List.filter_eq_self.2 fun a ha => by simp [h a ha]
theorem uptoK_less {p : Ky} {l : List It} (h : ∀ a ∈ l, klt p (ky a) = false) : uptoK p l = l := List.filter_eq_self.2 fun a ha => by simp [h a ha]
theorem uptoK_more {p : Ky} {l : List It} (h : ∀ a ∈ l, klt p (ky a) = true) : uptoK p l = [] := List.filter_eq_nil_iff.2 fun a ha => by simp [h a ha]

/-- A sorted list parted at a key that is not there. -/
theorem part_none {p : Ky} {A B : List It} (hA : ∀ a ∈ A, klt (ky a) p = true) (hB : ∀ b ∈ B, klt p (ky b) = true) (M : List It) : fromK p (A ++ M ++ B) = fromK p M ++ B ∧ uptoK p (A ++ M ++ B) = A ++ uptoK p M := by
  rw [fromK_append, fromK_append, uptoK_append, uptoK_append, fromK_less hA, fromK_more (l := B) fun b hb => kord.asymm (hB b hb), uptoK_less (l := A) fun a ha => kord.asymm (hA a ha), uptoK_more hB]
  simp
/-- At one that is. -/
theorem part_found {p : Ky} {A B : List It} {y : It} (h1 : klt (ky y) p = false) (h2 : klt p (ky y) = false) (hs : Sorted ilt (A ++ y :: B)) : fromK p (A ++ y :: B) = y :: B ∧ uptoK p (A ++ y :: B) = A ++ [y] := by
  obtain ⟨_, hB, hAB⟩ := Sorted.of_append hs
  have hA : ∀ a ∈ A, klt (ky a) p = true := fun a ha => klt_of_eq h1 h2 (hAB a ha y (by simp))
  have hB : ∀ b ∈ B, klt p (ky b) = true := fun b hb => klt_of_eq' h1 h2 ((List.pairwise_cons.1 hB).1 b hb)
  have hyB : fromK p (y :: B) = y :: B := fromK_more fun b hb => by
    rcases List.mem_cons.1 hb with rfl | hb
    · exact h1
    · exact kord.asymm (hB b hb)
  have hyB2 : uptoK p (y :: B) = [y] := by
    rw [show y :: B = [y] ++ B from rfl, uptoK_append, uptoK_more hB, uptoK_less (l := [y]) fun b hb => by rw [List.mem_singleton.1 hb]; exact h2]
    simp
  rw [fromK_append, uptoK_append, fromK_less hA, uptoK_less (l := A) fun a ha => kord.asymm (hA a ha), hyB, hyB2]
  simp

theorem leaf_from {p : Ky} {its : List It} {i : Nat} {f : Bool} (hs : Sorted ilt its) (hl : Loc its p i f) : fromK p its = its.drop i := by
  cases f with
  | false =>
    obtain ⟨hA, hB⟩ := loc_none hl
    have := (part_none hA hB []).1
    rw [List.append_nil, List.take_append_drop] at this
    simpa [fromK] using this
  | true =>
    obtain ⟨A, y, B, e, hA, hy, h1, h2, _, _⟩ := loc_found hs hl
    subst e
    rw [(part_found h1 h2 hs).1, ← hA]
    simp
theorem leaf_upto {p : Ky} {its : List It} {i : Nat} {f : Bool} (hs : Sorted ilt its) (hl : Loc its p i f) : uptoK p its = its.take (if f then i + 1 else i) := by
  cases f with
  | false =>
    obtain ⟨hA, hB⟩ := loc_none hl
    have := (part_none hA hB []).2
    rw [List.append_nil, List.take_append_drop] at this
    simpa [uptoK] using this
  | true =>
    obtain ⟨A, y, B, e, hA, hy, h1, h2, _, _⟩ := loc_found hs hl
    subst e
    rw [(part_found h1 h2 hs).2, ← hA, if_pos rfl, show A ++ y :: B = (A ++ [y]) ++ B by simp, List.take_left' (by simp)]

/-- Below an inner node. -/
theorem inner_none {h i : Nat} {p : Ky} {its : List It} {ks : List (Tr It)} {k : Tr It} (hs : Sorted ilt (flat (h + 1) (.node its ks))) (hl : ks.length = its.length + 1) (hloc : Loc its p i false) (hk : ks[i]? = some k) :
    fromK p (flat (h + 1) (.node its ks)) = fromK p (flat h k) ++ hi h its ks i ∧ uptoK p (flat (h + 1) (.node its ks)) = lo h its ks i ++ uptoK p (flat h k) ∧ Sorted ilt (flat h k) := by
  obtain ⟨lA, lB⟩ := loc_none hloc
  have hil := hloc.1
  rw [flat_at hl hil hk] at hs ⊢
  have hA := mem_wl_lt (x := itOf p) iord ((ks.map (flat h)).take i) (its.take i) (by simp; omega) hs.left lA
  have hB := mem_wr_lt (x := itOf p) iord (its.drop i) ((ks.map (flat h)).drop (i + 1)) (by simp; omega) hs.right lB
  exact ⟨(part_none hA hB _).1, (part_none hA hB _).2, hs.mid⟩
theorem inner_found {h i : Nat} {p : Ky} {its : List It} {ks : List (Tr It)} (hs : Sorted ilt (flat (h + 1) (.node its ks))) (hso : Sorted ilt its) (hl : ks.length = its.length + 1) (hloc : Loc its p i true) :
    fromK p (flat (h + 1) (.node its ks)) = hi h its ks i ∧ uptoK p (flat (h + 1) (.node its ks)) = lo h its ks (i + 1) := by
  obtain ⟨A, y, B, e, hA, hy, h1, h2, _, _⟩ := loc_found hso hloc
  have hil : i < its.length := (List.getElem?_eq_some_iff.1 hy).1
  have hk1 : ks[i]? = some ks[i] := List.getElem?_eq_getElem (by omega)
  have hk2 : ks[i + 1]? = some ks[i + 1] := List.getElem?_eq_getElem (by omega)
  have e2 : flat (h + 1) (.node its ks) = (lo h its ks i ++ flat h ks[i]) ++ y :: (flat h ks[i + 1] ++ hi h its ks (i + 1)) := by
    rw [flat_at hl (by omega) hk1, hi_succ hk2 hy]
  rw [e2] at hs ⊢
  obtain ⟨q1, q2⟩ := part_found h1 h2 hs
  exact ⟨by rw [q1, hi_succ hk2 hy], by rw [q2, lo_succ hk1 hy]⟩
end Go.Proofs.Ytfikahgofapobaa.T

namespace Go.Proofs.Ytfikahgofapobaa.T
open Go.RowKit Go.Wb

-- equal lists
set_option maxRecDepth 100000 in
set_option maxHeartbeats 2000000 in
theorem equalT_any {w : World} {a c : Option Addr} {acap ccap : Nat} {l : List Ky} (h1 : Given w a (l.map kv)) (h2 : Given w c (l.map kv)) (hl : l.length ≤ 4000000000000) :
    Calls Try.prog 27 #[.slice a l.length acap, .slice c l.length ccap] w fun e w' => e = .returned (.bool true) ∧ Keep Nothing w w' := by
  have H1 := Lib.hid h1
  have H2 := Lib.hid h2
  clear h1 h2
  go_enter Try.func27, Try.ntmps27
  go_wp2_with fail
  go_loopg [13] (l.length + 1) (fun k v13 wr => ∃ i : Nat, v13 = .int .i64 i ∧ i ≤ l.length ∧ i + k = l.length + 1 ∧ Keep Nothing w wr)
  case atStart => exact ⟨0, rfl, by omega, by omega, Keep.refl _ _⟩
  case round =>
    obtain ⟨i, rfl, hil, hik, hK⟩ := hrel
    have HK := Lib.hid hK
    clear hK
    by_cases hlt : i < l.length
    · obtain ⟨t, ht⟩ : ∃ t, l[i] = t := ⟨_, rfl⟩
      obtain ⟨b1, o1, ha, x0⟩ := (H1.out.keep HK.out).cell (i := i) (by simpa using hlt)
      obtain ⟨b2, o2, hc, y0⟩ := (H2.out.keep HK.out).cell (i := i) (by simpa using hlt)
      subst ha
      subst hc
      rw [show (l.map kv)[i]'(by simpa using hlt) = kv t by simp [ht]] at x0 y0
      clear ht
      unfold kv at *
      go_wp2_with fail
      go_quiet (fail)
      go_wp2_with fail
      go_roundg (l.length - i)
      case measure => omega
      case rel => exact ⟨i + 1, by go_num, by omega, by omega, HK.out.drN _⟩
    · have hi : i = l.length := by omega
      subst hi
      go_wp2_with fail
      go_ret
      exact ⟨rfl, HK.out⟩

/-- The keys as words. -/
theorem sortW_named (l : List ByteArray) : W.sortK (l.map W.nameK) = (sortK l).map W.nameK :=
  foldl_put_map (lt := ilt) (lt' := W.ilt) W.nameK (fun _ _ => rfl) l []
theorem uptoW_named (p : ByteArray) (l : List ByteArray) : W.uptoK p (l.map W.nameK) = (uptoK p l).map W.nameK := by
  unfold W.uptoK uptoK
  rw [List.filter_map]
  rfl
theorem fromW_named (p : ByteArray) (l : List ByteArray) : W.fromK p (l.map W.nameK) = (fromK p l).map W.nameK := by
  unfold W.fromK fromK
  rw [List.filter_map]
  rfl
theorem firstN_map {α β : Type} (f : α → β) (n : Int) (l : List α) : firstN n (l.map f) = (firstN n l).map f := by
  unfold firstN; split <;> simp [List.map_take]
theorem keys_named (l : List ByteArray) : (l.map W.nameK).map W.ky = l := by
  rw [List.map_map]
  exact List.map_id'' (fun _ => rfl) l
theorem all_map (l : List ByteArray) : E.all l = l.map kv := by
  unfold Enc.all; induction l with
  | nil => rfl
  | cons y l ih => simp only [List.flatMap_cons, List.map_cons, ih]; rfl
end Go.Proofs.Ytfikahgofapobaa.T

namespace Go.Proofs.Ytfikahgofapobaa.T
open Go.RowKit Go.Wb

/-- What a list keeps of an item. -/
abbrev OE : Enc It := E
theorem elemO : Elem Try.prog 9 1 16 := ⟨by kernel_rfl, by kernel_rfl, by kernel_rfl⟩
/-- The list at block ob, its row in blocks from B on. -/
def OutAt (B ob : Nat) (acc : List It) (W : World) : Prop := ∃ a cap, W.heap[ob]? = some (.cells #[.slice a acc.length cap] 22 (0, 0)) ∧ Acc B W 9 1 a acc.length cap (OE.all acc)
def OutJ (w0 : World) (ob : Nat) (acc : List It) (W : World) : Prop := Keep (fun c _ => c = ob) w0 W ∧ OutAt w0.heap.size ob acc W
theorem OutJ.calm {w0 : World} {ob : Nat} {acc : List It} {W W' : World} (h : OutJ w0 ob acc W) (hk : Keep Nothing W W') : OutJ w0 ob acc W' := by
  obtain ⟨h1, a, cap, h2, h3⟩ := h
  exact ⟨h1.trans hk fun _ _ _ h => h.elim, a, cap, blk_keep h2 hk fun _ h => h, h3.quiet hk⟩

def TakePost (w0 : World) (ob : Nat) (n : Int) (acc : List It) (e : Ending) (W' : World) : Prop := e = .returned (.bool (upTo n acc)) ∧ OutJ w0 ob acc W'

set_option maxRecDepth 100000 in
set_option maxHeartbeats 8000000 in
theorem take_any {w0 : World} {ob kt kn : Nat} {n : Int} (hkt : w0.heap[kt]? = some (.cells #[ptr ob] 109 (0, 0))) (hkn : w0.heap[kn]? = some (.cells #[.int .i64 n] 3 (0, 0))) (d1 : kt ≠ ob) (d2 : kn ≠ ob) (hob : ob < w0.heap.size)
    (_hn1 : -9223372036854775808 ≤ n) (_hn2 : n ≤ 9223372036854775807) {acc : List It} {x : It} {W : World} (hJ : OutJ w0 ob acc W) (hl : acc.length < 4000000000000) :
    Calls Try.prog 140 #[kv (ky x), ptr kt, ptr kn] W (TakePost w0 ob n (acc ++ [x])) := by
  obtain ⟨hK, a, cap, hout, hA⟩ := hJ
  have HKT := Lib.hid hkt
  have HKL := Lib.hid (lt_of_heap hkt)
  have HKN := Lib.hid hkn
  have HK := Lib.hid hK
  have HOUT := Lib.hid hout
  have HA := Lib.hid hA
  have HD1 := Lib.hid d1
  have HD2 := Lib.hid d2
  have hsz := hK.size
  have hobW := Nat.lt_of_lt_of_le hob hsz
  clear hkt hkn hK hout hA d1 d2
  unfold ptr kv at *
  go_enter Try.func140, Try.ntmps140
  go_upto_region 1 with (fail)
  refine wp_world ?_
  intro W1 hW1
  have k1 : Keep Nothing W W1 := by subst hW1; exact Keep.refl _ _
  clear hW1
  have HK1 : Hid (Keep (fun c _ => c = ob) w0 W1) := by exact HK.out.trans k1 fun _ _ _ h => h.elim
  have HO1 := Lib.hid (blk_keep HOUT.out k1 fun _ h => h)
  have HA1 := Lib.hid (HA.out.quiet k1)
  have kt1 := (blk1 (blk_keep HKT.out HK1.out fun _ e => HD1.out e)).1
  have kn1 := (blk1 (blk_keep HKN.out HK1.out fun _ e => HD2.out e)).1
  obtain ⟨co, fz⟩ := blk1 HO1.out
  have hsz1 := HK1.out.size
  clear HK HOUT HA k1
  generalize W.heap.size = q at *
  refine wp_held (fun w' => w'.cell? ⟨kt, 0, none⟩ = some (.pointer (some ⟨ob, 0, none⟩)) ∧ w'.cell? ⟨ob, 0, none⟩ = some (.slice a acc.length cap)) [0, 1, 3] (by kernel_rfl) (by kernel_rfl) (by kernel_rfl) rfl ⟨kt1, co⟩ ?_
  simp only [segs, readsB, silentB, lenB, checks, List.nil_append]
  go_wp2_with fail
  refine held_world ?_
  intro W2 hW2
  have k2 : Keep Nothing W1 W2 := by subst hW2; exact ((Keep.refl _ _).al _).dr
  have N2 : W2.heap[W1.heap.size]? = some (.cells (OE.enc x).toArray 9 (0, 0)) := by subst hW2; exact heap_alloc_new W1 _
  clear hW2
  have HK2 : Hid (Keep (fun c _ => c = ob) w0 W2) := by exact HK1.out.trans k2 fun _ _ _ h => h.elim
  have HO2 := Lib.hid (blk_keep HO1.out k2 fun _ h => h)
  have HA2 := Lib.hid (HA1.out.quiet k2)
  have kt2 := k2.cell' kt1 fun h => h
  have co2 := (blk1 HO2.out).1
  have hsz2 := HK2.out.size
  clear HK1 HO1 HA1 co fz kt1 k2 kn1
  refine held_next ⟨kt2, co2⟩ ?_
  refine wpList_append_any rfl _ _ _ rfl 9 1 16 Try.underlying22 elemO a acc.length cap (OE.all acc) rfl HA2.out.row HA2.out.len ⟨W1.heap.size, 0, none⟩ 1 1 (OE.enc x) ?_ (OE.len _) ?_ (OE.one _) (by omega) HA2.out.le (by simp only [maxLen]; omega) (by omega) ?_
  · rfl
  · exact new_cells N2
  intro a' cap' W3 hG
  obtain ⟨hA3, hK3⟩ := HA2.out.grow hsz2 hG (OE.len _)
  have HA3 := Lib.hid hA3
  have HK3 : Hid (Keep (fun c _ => c = ob) w0 W3) := by exact HK2.out.trans hK3 fun x o hx h => absurd h (by omega)
  have HO3 := Lib.hid (blk_keep HO2.out hK3 fun o (h : w0.heap.size ≤ ob) => by omega)
  have kt3 := hK3.cell' kt2 (fun (h : w0.heap.size ≤ kt) => by have := HKL.out; omega)
  obtain ⟨co3, fz3⟩ := blk1 HO3.out
  clear HK2 HO2 HA2 hA3 hK3 hG N2 kt2 co2
  refine held_next ⟨kt3, co3⟩ ?_
  simp only [Act.put]
  go_wp2_with fail
  refine held_world ?_
  intro W4 hW4
  refine held_end ?_ ?_
  · refine ⟨?_, ?_, ?_, trivial⟩
    · exact ⟨.pointer (some ⟨ob, 0, none⟩), fun w' hS => by simp [execOp, hS.1, go_sem]⟩
    · exact ⟨.pointer (some ⟨ob, 0, none⟩), fun w' hS => by simp [execOp, hS.1, go_sem]⟩
    · exact ⟨.slice a acc.length cap, fun w' hS => by simp [execOp, hS.2, go_sem]⟩
  have eall : OE.all acc ++ OE.enc x = OE.all (acc ++ [x]) := by rw [Enc.all_append]; simp [Enc.all]
  have HK4 : Hid (Keep (fun c _ => c = ob) w0 W4) := by subst hW4; exact HK3.out.set _ _ _ fun _ => rfl
  have HO4 : Hid (W4.heap[ob]? = some (.cells #[.slice a' (acc.length + 1) cap'] 22 (0, 0))) := by subst hW4; exact blk_set _ HO3.out
  have HA4 : Hid (Acc w0.heap.size W4 9 1 a' (acc.length + 1) cap' (OE.all (acc ++ [x]))) := by
    rw [← eall]
    subst hW4
    exact HA3.out.calm (S := fun c _ => c = ob) (Keep.set (Keep.refl _ _) _ _ _ fun _ => rfl) fun c o h1 h2 => by omega
  have HJ4 : Hid (OutJ w0 ob (acc ++ [x]) W4) := by
    refine ⟨HK4.out, a', cap', ?_, ?_⟩
    · rw [List.length_append]; exact HO4.out
    · rw [List.length_append]; exact HA4.out
  have kt4 := (HK4.out.cell' (blk1 HKT.out).1 (HD1.out))
  have kn4 := (HK4.out.cell' (blk1 HKN.out).1 (HD2.out))
  have co4 := (blk1 HO4.out).1
  clear hW4 eall HK4 HO4 HA4 HK3 HO3 HA3 co3 fz3 kt3
  by_cases h1 : n < 1
  · have hu : upTo n (acc ++ [x]) = true := by simp [upTo, h1]
    go_wp2_with fail
    refine wp_calm (by kernel_rfl) (by kernel_rfl) rfl ?_
    simp only [List.flatMap_cons, List.flatMap_nil, checks, chk, nilLit, List.cons_append, List.nil_append, List.append_nil, Try.underlying3]
    go_wp2_with fail
    rw [HQ_normal]
    go_wp2_with fail
    go_ret
    rw [TakePost, hu]
    exact ⟨by first | rfl | simp [h1, h2] | simp [h1], HJ4.out.calm (Keep.drew _ _)⟩
  · by_cases h2 : (acc.length : Int) + 1 < n
    · have hu : upTo n (acc ++ [x]) = true := by simp [upTo, h2]
      have HU := Lib.hid hu
      clear hu
      go_wp2_with fail
      refine wp_calm (by kernel_rfl) (by kernel_rfl) rfl ?_
      simp only [List.flatMap_cons, List.flatMap_nil, checks, chk, nilLit, List.cons_append, List.nil_append, List.append_nil, Try.underlying3]
      go_wp2_with fail
      rw [HQ_normal]
      go_wp2_with fail
      go_ret
      rw [TakePost, HU.out]
      exact ⟨by first | rfl | simp [h1, h2] | simp [h1], HJ4.out.calm (Keep.drew _ _)⟩
    · have hu : upTo n (acc ++ [x]) = false := by simp [upTo, h1, h2]
      have HU := Lib.hid hu
      clear hu
      go_wp2_with fail
      refine wp_calm (by kernel_rfl) (by kernel_rfl) rfl ?_
      simp only [List.flatMap_cons, List.flatMap_nil, checks, chk, nilLit, List.cons_append, List.nil_append, List.append_nil, Try.underlying3]
      go_wp2_with fail
      rw [HQ_normal]
      go_wp2_with fail
      go_ret
      rw [TakePost, HU.out]
      exact ⟨by first | rfl | simp [h1, h2] | simp [h1], HJ4.out.calm (Keep.drew _ _)⟩

/-- The function value that keeps what is handed to it. -/
structure Taker (w0 : World) (ob kt kn : Nat) (n : Int) : Prop where
  t : w0.heap[kt]? = some (.cells #[ptr ob] 109 (0, 0))
  n : w0.heap[kn]? = some (.cells #[.int .i64 n] 3 (0, 0))
  d1 : kt ≠ ob
  d2 : kn ≠ ob
  ob : ob < w0.heap.size
def TakerPost (w : World) (ob : Nat) (n : Int) (e : Ending) (w' : World) : Prop := ∃ kt kn, e = .returned (.func (.func 140) #[] #[ptr kt, ptr kn]) ∧ Keep Nothing w w' ∧ Taker w' ob kt kn n
set_option maxHeartbeats 1000000 in
theorem taker_any {w : World} {ob : Nat} (hob : ob < w.heap.size) (n : Int) : Calls Try.prog 85 #[ptr ob, .int .i64 n] w (TakerPost w ob n) := by
  unfold ptr
  have hmf : ∀ (fn : Fn) (first cap : Array Value) (w : World), (Instr.makeFunc fn first cap).run Try.prog w = .ok (.func fn first cap) w := fun _ _ _ _ => rfl
  go_enter Try.func85, Try.ntmps85
  go_wp2_with fail
  go_ret
  refine ⟨_, _, rfl, ((Keep.refl _ _).al _).al _, blk_alloc _ (heap_alloc_new w _), ?_, by omega, ?_, ?_⟩
  · have := heap_alloc_new (w.alloc (.cells #[.pointer (some ⟨ob, 0, none⟩)] 109)) (.cells #[.int .i64 n] 3)
    rw [World.size_alloc] at this
    exact this
  · omega
  · simp; omega
end Go.Proofs.Ytfikahgofapobaa.T

namespace Go.Proofs.Ytfikahgofapobaa.T
open Go.RowKit Go.Wb

set_option maxRecDepth 100000 in
set_option maxHeartbeats 8000000 in
theorem ascend_leaf {w0 w : World} {b : Nat} {hr : HRec} {pb po n : Nat} {g : FuncId} {caps : Array Value} {go : List It → Bool} {J : List It → World → Prop} {S : Nat → Nat → Prop} {N : Nat} {r : NRec It} {L : Lay}
    (HD : Hands g caps go J S w0 N) (A : Stays w0 S b hr pb po n r L) (hkn : r.kids = none) (hs : Sorted ilt r.items) (p : Ky) {acc : List It} (hJ : J acc w) (hN : acc.length + (fromK p r.items).length ≤ N) :
    Calls Try.prog 233 #[ptr b, .pointer (some ⟨pb, po, none⟩), kv p, .func (.func g) #[] caps, .bool false] w (HandPost J (handOn go acc (fromK p r.items))) := by
  obtain ⟨i0, f, hloc⟩ := Loc.ex p r.items hs
  have HLF := Lib.hid (leaf_from hs hloc)
  have HH := Lib.hid HD
  have hcf := HD.enter
  have HA := Lib.hid A
  have HJ := Lib.hid hJ
  have hk0 := HD.keep _ _ hJ
  have hiso := Lib.hid (isoLoad_own (A.hdr w hk0) (A.cell w hk0) (A.node w hk0) A.iso false)
  have HKN := Lib.hid hkn
  have HS := Lib.hid hs
  have HLO := Lib.hid hloc
  have hlen := A.len
  have hi0 := hloc.1
  clear HD A hJ hk0 hkn hs hloc
  unfold ptr kv at *
  go_enter Try.func233, Try.ntmps233
  go_wp2_with fail
  refine hiso.out.mono ?_
  rintro e w1 ⟨rfl, kd, rfl⟩
  have HJ1 : Hid (J acc (w.drewN kd)) := by exact HH.out.calm _ _ _ HJ.out (Keep.drewN _ _ _)
  clear hiso HJ
  generalize w.drewN kd = w1 at *
  have hse := search_loc (tr := ptr b) (HA.out.node w1 (HH.out.keep _ _ HJ1.out)) hlen HS.out HLO.out
  unfold ptr kv at *
  go_wp2_with fail
  refine hse.mono ?_
  rintro e w2 ⟨rfl, kd2, rfl⟩
  have HJ2 : Hid (J acc (w1.drewN kd2)) := by exact HH.out.calm _ _ _ HJ1.out (Keep.drewN _ _ _)
  clear hse HJ1
  generalize w1.drewN kd2 = w2 at *
  have hlv := leaf_any (HA.out.node w2 (HH.out.keep _ _ HJ2.out))
  rw [HKN.out] at hlv
  simp only [Option.isNone_none] at hlv
  unfold ptr at *
  cases f
  case' true => go_wp2_with fail
  case' false => (go_wp2_with fail; refine hlv.mono ?_; rintro e w4 ⟨rfl, rfl⟩; go_wp2_with fail)
  all_goals
    clear hlv
    go_loopg [12] (r.items.length + 1) (fun c v12 wr => ∃ (i : Nat) (acc' : List It), v12 = .int .i64 i ∧ i ≤ r.items.length ∧ r.items.length + 1 ≤ i + c ∧ J acc' wr ∧ handOn go acc (fromK p r.items) = handOn go acc' (r.items.drop i) ∧ acc'.length + (r.items.length - i) ≤ N)
    case atStart => exact ⟨i0, acc, rfl, hi0, by omega, HJ2.out, by rw [HLF.out], by rw [HLF.out, List.length_drop] at hN; exact hN⟩
    case round =>
      obtain ⟨i, acc', rfl, hil, hik, hJr, heq, hNr⟩ := hrel
      have HJr := Lib.hid hJr
      have HEQ := Lib.hid heq
      have N1 := Lib.hid (HA.out.node wr (HH.out.keep _ _ hJr))
      obtain ⟨d0, d1, c2, d3, fz⟩ := N1.out.own
      clear d0 d1 d3 hJr heq
      by_cases hlt : i < r.items.length
      · have hx : r.items[i]? = some r.items[i] := List.getElem?_eq_getElem hlt
        have hd : r.items.drop i = r.items[i] :: r.items.drop (i + 1) := List.drop_eq_getElem_cons hlt
        generalize r.items[i] = x at *
        have HD := Lib.hid hd
        obtain ⟨ib, io, hia, ck⟩ := node_item N1.out hx
        rw [hia] at c2
        obtain ⟨ck, cv, cv2⟩ := ck
        have hcall := Lib.hid (HH.out.call acc' x wr.drew (HH.out.calm _ _ _ HJr.out (Keep.drew _ _)) (by omega))
        clear hd hx hia
        unfold kv vv at *
        go_wp2_with fail
        refine wp_calm (by kernel_rfl) (by kernel_rfl) rfl ?_
        simp only [List.flatMap_cons, List.flatMap_nil, checks, chk, nilLit, List.cons_append, List.nil_append, List.append_nil]
        go_wp2_with fail
        cases hg : go (acc' ++ [x]) with
        | true =>
          have HG := Lib.hid hg
          rw [hg] at hcall
          clear hg
          refine hcall.out.mono ?_
          rintro e w3 ⟨rfl, hJ3⟩
          have HJ3 := Lib.hid hJ3
          have hlv := leaf_any (HA.out.node w3 (HH.out.keep _ _ hJ3))
          rw [HKN.out] at hlv
          simp only [Option.isNone_none] at hlv
          clear hJ3 hcall
          unfold ptr at *
          go_wp2_with fail
          rw [HQ_normal]
          go_wp2_with fail
          refine hlv.mono ?_
          rintro e w4 ⟨rfl, rfl⟩
          go_wp2_with fail
          go_roundg (r.items.length - i)
          case measure => omega
          case rel => exact ⟨i + 1, acc' ++ [x], by go_num, by omega, by omega, HJ3.out, by rw [HEQ.out, HD.out, handOn_yes HG.out], by simp; omega⟩
        | false =>
          have HG := Lib.hid hg
          rw [hg] at hcall
          clear hg
          refine hcall.out.mono ?_
          rintro e w3 ⟨rfl, hJ3⟩
          have HJ3 := Lib.hid hJ3
          clear hJ3 hcall
          go_wp2_with fail
          rw [HQ_normal]
          go_wp2_with fail
          go_ret
          rw [HEQ.out, HD.out, handOn_no HG.out]
          exact ⟨rfl, HJ3.out⟩
      · have hi : i = r.items.length := by omega
        subst hi
        go_wp2_with fail
        go_ret
        rw [HEQ.out, List.drop_eq_nil_of_le (Nat.le_refl _)]
        exact ⟨rfl, HJr.out⟩

set_option maxRecDepth 100000 in
set_option maxHeartbeats 8000000 in
theorem ascend_inner {w0 w : World} {b : Nat} {hr : HRec} {pb po n h : Nat} {g : FuncId} {caps : Array Value} {go : List It → Bool} {J : List It → World → Prop} {S : Nat → Nat → Prop} {N : Nat} {r : NRec It} {L : Lay}
    (HD : Hands g caps go J S w0 N) (A : Stays w0 S b hr pb po n r L) {ns : List Nat} (hkn : r.kids = some ns) {ks : List (Tr It)} (hks : ks.length = r.items.length + 1) (hnl : ns.length = ks.length)
    (hso : Sorted ilt r.items) (hs : Sorted ilt (flat (h + 1) (.node r.items ks))) (p : Ky)
    (IH : ∀ (i m : Nat) (k : Tr It) (kb ko : Nat) (acc : List It) (W : World), ns[i]? = some m → ks[i]? = some k → L.ka = some ⟨kb, ko, none⟩ → J acc W → Sorted ilt (flat h k) → acc.length + (fromK p (flat h k)).length ≤ N →
      Calls Try.prog 233 #[ptr b, .pointer (some ⟨kb, ko + i, none⟩), kv p, .func (.func g) #[] caps, .bool false] W (HandPost J (handOn go acc (fromK p (flat h k)))))
    (SC : ∀ (i m : Nat) (k : Tr It) (kb ko : Nat) (acc : List It) (W : World), ns[i]? = some m → ks[i]? = some k → L.ka = some ⟨kb, ko, none⟩ → J acc W → acc.length + (flat h k).length ≤ N →
      Calls Try.prog 239 #[ptr b, .pointer (some ⟨kb, ko + i, none⟩), .func (.func g) #[] caps, .bool false] W (HandPost J (handOn go acc (flat h k))))
    {acc : List It} (hJ : J acc w) (hN : acc.length + (fromK p (flat (h + 1) (.node r.items ks))).length ≤ N) :
    Calls Try.prog 233 #[ptr b, .pointer (some ⟨pb, po, none⟩), kv p, .func (.func g) #[] caps, .bool false] w (HandPost J (handOn go acc (fromK p (flat (h + 1) (.node r.items ks))))) := by
  obtain ⟨i0, f, hloc⟩ := Loc.ex p r.items hso
  have HH := Lib.hid HD
  have hcf := HD.enter
  have HA := Lib.hid A
  have HJ := Lib.hid hJ
  have HI := Lib.hid IH
  have HSC := Lib.hid SC
  have hk0 := HD.keep _ _ hJ
  have hiso := Lib.hid (isoLoad_own (A.hdr w hk0) (A.cell w hk0) (A.node w hk0) A.iso false)
  have HKN := Lib.hid hkn
  have HKS := Lib.hid hks
  have HNL := Lib.hid hnl
  have HS := Lib.hid hs
  have HSO := Lib.hid hso
  have HLO := Lib.hid hloc
  have hlen := A.len
  have hi0 := hloc.1
  clear HD A hJ hk0 hkn IH SC hks hnl hs hso hloc
  unfold ptr kv at *
  go_enter Try.func233, Try.ntmps233
  go_wp2_with fail
  refine hiso.out.mono ?_
  rintro e w1 ⟨rfl, kd, rfl⟩
  have HJ1 : Hid (J acc (w.drewN kd)) := by exact HH.out.calm _ _ _ HJ.out (Keep.drewN _ _ _)
  clear hiso HJ
  generalize w.drewN kd = w1 at *
  have hse := search_loc (tr := ptr b) (HA.out.node w1 (HH.out.keep _ _ HJ1.out)) hlen HSO.out HLO.out
  unfold ptr kv at *
  go_wp2_with fail
  refine hse.mono ?_
  rintro e w2 ⟨rfl, kd2, rfl⟩
  have HJ2 : Hid (J acc (w1.drewN kd2)) := by exact HH.out.calm _ _ _ HJ1.out (Keep.drewN _ _ _)
  clear hse HJ1
  generalize w1.drewN kd2 = w2 at *
  have N2 := Lib.hid (HA.out.node w2 (HH.out.keep _ _ HJ2.out))
  have hlv := leaf_any N2.out
  rw [HKN.out] at hlv
  simp only [Option.isNone_some] at hlv
  go_upto_if 26 with (fail)
  go_cut [10, 11, 12] (fun v10 v11 v12 wx => v10 = .bool false ∧ v11 = .pointer (some ⟨n, 0, none⟩) ∧ v12 = .int .i64 i0 ∧ ∃ a1, J a1 wx ∧ handOn go acc (fromK p (flat (h + 1) (.node r.items ks))) = handOn go a1 (hi h r.items ks i0) ∧ a1.length + (hi h r.items ks i0).length ≤ N)
  case first =>
    cases f with
    | true =>
      have HFO := Lib.hid (inner_found HS.out HSO.out HKS.out HLO.out)
      go_wp2_with fail
      go_meet
      exact ⟨rfl, rfl, rfl, acc, HJ2.out, by rw [HFO.out.1], by rw [HFO.out.1] at hN; exact hN⟩
    | false =>
      have hkl : ks[i0]? = some (ks[i0]'(by have := HKS.out; omega)) := List.getElem?_eq_getElem _
      have hnl : ns[i0]? = some (ns[i0]'(by have := HKS.out; have := HNL.out; omega)) := List.getElem?_eq_getElem _
      have hnsl : i0 < ns.length := (List.getElem?_eq_some_iff.1 hnl).1
      generalize ns[i0]'(by have := HKS.out; have := HNL.out; omega) = m at *
      generalize ks[i0]'(by have := HKS.out; omega) = k at *
      obtain ⟨kb, ko, hka, c3, g1, ck⟩ := node_child N2.out HKN.out hnl
      have HFO := Lib.hid (inner_none HS.out HKS.out HLO.out hkl)
      have hcall := Lib.hid (HI.out _ m k kb ko acc w2 hnl hkl hka HJ2.out HFO.out.2.2 (by rw [HFO.out.1] at hN; simp only [List.length_append] at hN; omega))
      obtain ⟨⟨a1, yes⟩, hro⟩ : ∃ q, handOn go acc (fromK p (flat h k)) = q := ⟨_, rfl⟩
      have HRO := Lib.hid hro
      rw [hro] at hcall
      clear hro hkl hnl hka
      unfold ptr at *
      go_wp2_with fail
      refine hlv.mono ?_
      rintro e w3 ⟨rfl, rfl⟩
      clear hlv
      go_wp2_with fail
      refine hcall.out.mono ?_
      rintro e w4 ⟨rfl, hJ4⟩
      have HJ4 := Lib.hid hJ4
      clear hJ4 hcall c3 g1 ck
      cases yes with
      | false =>
        go_wp2_with fail
        go_ret
        rw [HFO.out.1, handOn_end HRO.out]
        exact ⟨rfl, HJ4.out⟩
      | true =>
        go_wp2_with fail
        go_meet
        exact ⟨rfl, rfl, rfl, a1, HJ4.out, by rw [HFO.out.1, handOn_on HRO.out], by have := handOn_len HRO.out; rw [HFO.out.1] at hN; simp only [List.length_append] at hN; omega⟩
  case rest =>
    obtain ⟨rfl, rfl, rfl, a1, hJ5, heq5, hN5⟩ := hcut
    have HJ5 := Lib.hid hJ5
    have HEQ5 := Lib.hid heq5
    clear hJ5 heq5 hlv N2 HJ2
    go_wp2_with fail
    go_loopg [12] (r.items.length + 1) (fun c v12 wr => ∃ (i : Nat) (acc' : List It), v12 = .int .i64 i ∧ i ≤ r.items.length ∧ r.items.length + 1 ≤ i + c ∧ J acc' wr ∧ handOn go acc (fromK p (flat (h + 1) (.node r.items ks))) = handOn go acc' (hi h r.items ks i) ∧ acc'.length + (hi h r.items ks i).length ≤ N)
    case atStart => exact ⟨i0, a1, rfl, hi0, by omega, HJ5.out, HEQ5.out, hN5⟩
    case round =>
      obtain ⟨i, acc', rfl, hil, hik, hJr, heq, hNr⟩ := hrel
      have HJr := Lib.hid hJr
      have HEQ := Lib.hid heq
      have N1 := Lib.hid (HA.out.node wr (HH.out.keep _ _ hJr))
      obtain ⟨d0, d1, c2, d3, fz⟩ := N1.out.own
      clear d0 d1 d3 hJr heq
      by_cases hlt : i < r.items.length
      · have hx : r.items[i]? = some r.items[i] := List.getElem?_eq_getElem hlt
        have hkl : ks[i + 1]? = some (ks[i + 1]'(by have := HKS.out; omega)) := List.getElem?_eq_getElem _
        have hnl : ns[i + 1]? = some (ns[i + 1]'(by have := HKS.out; have := HNL.out; omega)) := List.getElem?_eq_getElem _
        have hnsl : i + 1 < ns.length := (List.getElem?_eq_some_iff.1 hnl).1
        generalize ns[i + 1]'(by have := HKS.out; have := HNL.out; omega) = m at *
        generalize ks[i + 1]'(by have := HKS.out; omega) = k at *
        generalize r.items[i] = x at *
        have HD := Lib.hid (hi_succ (h := h) hkl hx)
        have HLR : Hid (acc'.length + 1 + (flat h k).length + (hi h r.items ks (i + 1)).length ≤ N) := by
          have := hNr; rw [HD.out] at this; simp only [List.length_append, List.length_cons] at this; exact Lib.hid (by omega)
        clear hNr
        have HKL := Lib.hid hkl
        have HNN := Lib.hid hnl
        obtain ⟨ib, io, hia, ck⟩ := node_item N1.out hx
        rw [hia] at c2
        obtain ⟨ck, cv, cv2⟩ := ck
        have hcall := Lib.hid (HH.out.call acc' x wr.drew (HH.out.calm _ _ _ HJr.out (Keep.drew _ _)) (by have := HLR.out; omega))
        clear hx hia hkl hnl
        unfold kv vv at *
        go_wp2_with fail
        refine wp_calm (by kernel_rfl) (by kernel_rfl) rfl ?_
        simp only [List.flatMap_cons, List.flatMap_nil, checks, chk, nilLit, List.cons_append, List.nil_append, List.append_nil]
        go_wp2_with fail
        cases hg : go (acc' ++ [x]) with
        | false =>
          have HG := Lib.hid hg
          rw [hg] at hcall
          clear hg
          refine hcall.out.mono ?_
          rintro e w3 ⟨rfl, hJ3⟩
          have HJ3 := Lib.hid hJ3
          clear hJ3 hcall
          go_wp2_with fail
          rw [HQ_normal]
          go_wp2_with fail
          go_ret
          rw [HEQ.out, HD.out, handOn_no HG.out]
          exact ⟨rfl, HJ3.out⟩
        | true =>
          have HG := Lib.hid hg
          rw [hg] at hcall
          clear hg
          refine hcall.out.mono ?_
          rintro e w3 ⟨rfl, hJ3⟩
          have HJ3 := Lib.hid hJ3
          have N3 := Lib.hid (HA.out.node w3 (HH.out.keep _ _ hJ3))
          have hlv := leaf_any N3.out
          rw [HKN.out] at hlv
          simp only [Option.isNone_some] at hlv
          clear hJ3 hcall N1 c2 fz ck cv
          clear cv2
          obtain ⟨kb, ko, hka, c3, g1, ck⟩ := node_child N3.out HKN.out HNN.out
          have hcall := Lib.hid (HSC.out _ m k kb ko (acc' ++ [x]) w3 HNN.out HKL.out hka HJ3.out (by have := HLR.out; simp; omega))
          obtain ⟨⟨a3, yes⟩, hro⟩ : ∃ q, handOn go (acc' ++ [x]) (flat h k) = q := ⟨_, rfl⟩
          have HRO2 := Lib.hid hro
          rw [hro] at hcall
          clear hro hka
          unfold ptr at *
          go_wp2_with fail
          rw [HQ_normal]
          go_wp2_with fail
          refine hlv.mono ?_
          rintro e w4 ⟨rfl, rfl⟩
          clear hlv
          go_wp2_with fail
          refine hcall.out.mono ?_
          rintro e w5 ⟨rfl, hJ5⟩
          have HJ5 := Lib.hid hJ5
          clear hJ5 hcall c3 g1 ck
          cases yes with
          | false =>
            go_wp2_with fail
            go_ret
            rw [HEQ.out, HD.out, handOn_yes HG.out, handOn_end HRO2.out]
            exact ⟨rfl, HJ5.out⟩
          | true =>
            simp only at HJ5 HRO2
            go_wp2_with fail
            go_roundg (r.items.length - i)
            case measure => omega
            case rel => exact ⟨i + 1, a3, by go_num, by omega, by omega, HJ5.out, by rw [HEQ.out, HD.out, handOn_yes HG.out, handOn_on HRO2.out], by have := handOn_len HRO2.out; have := HLR.out; simp at *; omega⟩
      · have hi : i = r.items.length := by omega
        subst hi
        go_wp2_with fail
        go_ret
        rw [HEQ.out, hi_last]
        exact ⟨rfl, HJr.out⟩

/-- ASCENDING below a node. -/
theorem ascend_any {w0 : World} {b : Nat} {hr : HRec} {H : Store It} {L : Nat → Lay} {g : FuncId} {caps : Array Value} {go : List It → Bool} {J : List It → World → Prop} {S : Nat → Nat → Prop} {N : Nat} {mn mx : Nat}
    (HD : Hands g caps go J S w0 N) (A : StayAll w0 S b hr H L) (hmx : mx ≤ 1000000000000) (p : Ky) : ∀ (h l n : Nat) (t : Tr It) (F : List Nat), Rep H hr.iso h n t F → wfr l mn mx h t → Sorted ilt (flat h t) → ∀ (pb po : Nat), (∀ W, Keep S w0 W → W.cell? ⟨pb, po, none⟩ = some (ptr n)) → ∀ (acc : List It) (w : World), J acc w → acc.length + (fromK p (flat h t)).length ≤ N →
    Calls Try.prog 233 #[ptr b, .pointer (some ⟨pb, po, none⟩), kv p, .func (.func g) #[] caps, .bool false] w (HandPost J (handOn go acc (fromK p (flat h t))))
  | 0, l, n, t, F, hrp, wf, hs, pb, po, hc, acc, w, hJ, hN => by
    obtain ⟨r, h1, h2, h3, h4, h5, h6, _⟩ := hrp
    obtain ⟨its, ks⟩ := t
    simp only [Tr.its, flat] at *
    subst h3
    exact ascend_leaf HD ⟨A.hdr, hc, fun W k => A.node W k n r h1, h2, by have := wf.2.1; simp only [Tr.its] at this; omega⟩ h5 hs p hJ hN
  | h + 1, l, n, t, F, hrp, wf, hs, pb, po, hc, acc, w, hJ, hN => by
    have hso := own_sorted wf hs
    obtain ⟨r, ns, F', h1, h2, h3, h4, h5, h6, _⟩ := hrp
    obtain ⟨w1, w2, w3, w4⟩ := wf
    obtain ⟨its, ks⟩ := t
    simp only [Tr.its, Tr.ks] at *
    subst h3
    refine ascend_inner HD ⟨A.hdr, hc, fun W k => A.node W k n r h1, h2, by omega⟩ h4 w3 h6.len hso hs p (fun i m k kb ko acc W hm1 hk hka hJ hsk hN => ?_) (fun i m k kb ko acc W hm1 hk hka hJ hN => ?_) hJ hN
    · obtain ⟨G, hR⟩ := h6.get hm1 hk
      refine ascend_any HD A hmx p h mn m k G hR (w4 k (List.mem_of_getElem? hk)) hsk kb (ko + i) (fun W' hk' => ?_) acc W hJ hN
      obtain ⟨kb', ko', hka', _, _, ck⟩ := node_child (A.node W' hk' n r h1) h4 hm1
      rw [hka] at hka'
      obtain ⟨rfl, rfl⟩ : kb = kb' ∧ ko = ko' := by simpa using hka'
      exact ck
    · obtain ⟨G, hR⟩ := h6.get hm1 hk
      refine scan_any HD A hmx h mn m k G hR (w4 k (List.mem_of_getElem? hk)) kb (ko + i) (fun W' hk' => ?_) acc W hJ hN
      obtain ⟨kb', ko', hka', _, _, ck⟩ := node_child (A.node W' hk' n r h1) h4 hm1
      rw [hka] at hka'
      obtain ⟨rfl, rfl⟩ : kb = kb' ∧ ko = ko' := by simpa using hka'
      exact ck
end Go.Proofs.Ytfikahgofapobaa.T

namespace Go.Proofs.Ytfikahgofapobaa.T
open Go.RowKit Go.Wb

set_option maxRecDepth 100000 in
set_option maxHeartbeats 8000000 in
theorem descend_leaf {w0 w : World} {b : Nat} {hr : HRec} {pb po n : Nat} {g : FuncId} {caps : Array Value} {go : List It → Bool} {J : List It → World → Prop} {S : Nat → Nat → Prop} {N : Nat} {r : NRec It} {L : Lay}
    (HD : Hands g caps go J S w0 N) (A : Stays w0 S b hr pb po n r L) (hkn : r.kids = none) (hs : Sorted ilt r.items) (p : Ky) {acc : List It} (hJ : J acc w) (hN : acc.length + (uptoK p r.items).length ≤ N) :
    Calls Try.prog 217 #[ptr b, .pointer (some ⟨pb, po, none⟩), kv p, .func (.func g) #[] caps, .bool false] w (HandPost J (handOn go acc (uptoK p r.items).reverse)) := by
  obtain ⟨i0, f, hloc⟩ := Loc.ex p r.items hs
  have HLF := Lib.hid (leaf_upto hs hloc)
  have HH := Lib.hid HD
  have hcf := HD.enter
  have HA := Lib.hid A
  have HJ := Lib.hid hJ
  have hk0 := HD.keep _ _ hJ
  have hiso := Lib.hid (isoLoad_own (A.hdr w hk0) (A.cell w hk0) (A.node w hk0) A.iso false)
  have HKN := Lib.hid hkn
  have HS := Lib.hid hs
  have HLO := Lib.hid hloc
  have hlen := A.len
  have hi0 := hloc.1
  clear HD A hJ hk0 hkn hs hloc
  unfold ptr kv at *
  go_enter Try.func217, Try.ntmps217
  go_wp2_with fail
  refine hiso.out.mono ?_
  rintro e w1 ⟨rfl, kd, rfl⟩
  have HJ1 : Hid (J acc (w.drewN kd)) := by exact HH.out.calm _ _ _ HJ.out (Keep.drewN _ _ _)
  clear hiso HJ
  generalize w.drewN kd = w1 at *
  have hse := search_loc (tr := ptr b) (HA.out.node w1 (HH.out.keep _ _ HJ1.out)) hlen HS.out HLO.out
  unfold ptr kv at *
  go_wp2_with fail
  refine hse.mono ?_
  rintro e w2 ⟨rfl, kd2, rfl⟩
  have HJ2 : Hid (J acc (w1.drewN kd2)) := by exact HH.out.calm _ _ _ HJ1.out (Keep.drewN _ _ _)
  clear hse HJ1
  generalize w1.drewN kd2 = w2 at *
  have hlv := leaf_any (HA.out.node w2 (HH.out.keep _ _ HJ2.out))
  rw [HKN.out] at hlv
  simp only [Option.isNone_none] at hlv
  unfold ptr at *
  cases f
  case' true => go_wp2_with fail
  case' false => (go_wp2_with fail; refine hlv.mono ?_; rintro e w4 ⟨rfl, rfl⟩; go_wp2_with fail)
  all_goals
    clear hlv
    go_loopg [12] (r.items.length + 1) (fun c v12 wr => ∃ (i : Nat) (z : Int) (acc' : List It), v12 = .int .i64 z ∧ z + 1 = i ∧ i ≤ r.items.length ∧ i < c ∧ J acc' wr ∧ handOn go acc (uptoK p r.items).reverse = handOn go acc' (r.items.take i).reverse ∧ acc'.length + i ≤ N)
    case atStart =>
      have hN2 := hN
      rw [HLF.out, List.length_take] at hN2
      have hl := HLO.out
      first
        | (obtain ⟨_, y, hy, _⟩ := hl; have := (List.getElem?_eq_some_iff.1 hy).1; exact ⟨i0 + 1, _, acc, rfl, by omega, by omega, by omega, HJ2.out, by rw [HLF.out]; rfl, by simp only [if_true] at hN2; omega⟩)
        | exact ⟨i0, _, acc, rfl, by omega, by omega, by omega, HJ2.out, by rw [HLF.out]; rfl, by simp only [if_false, Bool.false_eq_true] at hN2; omega⟩
    case round =>
      obtain ⟨i, z, acc', rfl, hzi, hil, hik, hJr, heq, hNr⟩ := hrel
      have HJr := Lib.hid hJr
      have HEQ := Lib.hid heq
      have N1 := Lib.hid (HA.out.node wr (HH.out.keep _ _ hJr))
      obtain ⟨d0, d1, c2, d3, fz⟩ := N1.out.own
      clear d0 d1 d3 hJr heq
      cases i with
      | succ j =>
        obtain rfl : z = (j : Int) := by omega
        have hlt : j < r.items.length := by omega
        have hx : r.items[j]? = some r.items[j] := List.getElem?_eq_getElem hlt
        generalize r.items[j] = x at *
        have HD := Lib.hid (take_rev hx)
        obtain ⟨ib, io, hia, ck⟩ := node_item N1.out hx
        rw [hia] at c2
        obtain ⟨ck, cv, cv2⟩ := ck
        have hcall := Lib.hid (HH.out.call acc' x wr.drew (HH.out.calm _ _ _ HJr.out (Keep.drew _ _)) (by omega))
        clear hx hia hzi
        unfold kv vv at *
        go_wp2_with fail
        refine wp_calm (by kernel_rfl) (by kernel_rfl) rfl ?_
        simp only [List.flatMap_cons, List.flatMap_nil, checks, chk, nilLit, List.cons_append, List.nil_append, List.append_nil]
        go_wp2_with fail
        cases hg : go (acc' ++ [x]) with
        | true =>
          have HG := Lib.hid hg
          rw [hg] at hcall
          clear hg
          refine hcall.out.mono ?_
          rintro e w3 ⟨rfl, hJ3⟩
          have HJ3 := Lib.hid hJ3
          have hlv := leaf_any (HA.out.node w3 (HH.out.keep _ _ hJ3))
          rw [HKN.out] at hlv
          simp only [Option.isNone_none] at hlv
          clear hJ3 hcall
          unfold ptr at *
          go_wp2_with fail
          rw [HQ_normal]
          go_wp2_with fail
          refine hlv.mono ?_
          rintro e w4 ⟨rfl, rfl⟩
          go_wp2_with fail
          go_roundg (j + 1)
          case measure => omega
          case rel => exact ⟨j, _, acc' ++ [x], rfl, by omega, by omega, by omega, HJ3.out, by rw [HEQ.out, HD.out, handOn_yes HG.out], by simp; omega⟩
        | false =>
          have HG := Lib.hid hg
          rw [hg] at hcall
          clear hg
          refine hcall.out.mono ?_
          rintro e w3 ⟨rfl, hJ3⟩
          have HJ3 := Lib.hid hJ3
          clear hJ3 hcall
          go_wp2_with fail
          rw [HQ_normal]
          go_wp2_with fail
          go_ret
          rw [HEQ.out, HD.out, handOn_no HG.out]
          exact ⟨rfl, HJ3.out⟩
      | zero =>
        obtain rfl : z = -1 := by omega
        go_wp2_with fail
        go_ret
        rw [HEQ.out]
        exact ⟨rfl, HJr.out⟩

set_option maxRecDepth 100000 in
set_option maxHeartbeats 8000000 in
theorem descend_inner {w0 w : World} {b : Nat} {hr : HRec} {pb po n h : Nat} {g : FuncId} {caps : Array Value} {go : List It → Bool} {J : List It → World → Prop} {S : Nat → Nat → Prop} {N : Nat} {r : NRec It} {L : Lay}
    (HD : Hands g caps go J S w0 N) (A : Stays w0 S b hr pb po n r L) {ns : List Nat} (hkn : r.kids = some ns) {ks : List (Tr It)} (hks : ks.length = r.items.length + 1) (hnl : ns.length = ks.length)
    (hso : Sorted ilt r.items) (hs : Sorted ilt (flat (h + 1) (.node r.items ks))) (p : Ky)
    (IH : ∀ (i m : Nat) (k : Tr It) (kb ko : Nat) (acc : List It) (W : World), ns[i]? = some m → ks[i]? = some k → L.ka = some ⟨kb, ko, none⟩ → J acc W → Sorted ilt (flat h k) → acc.length + (uptoK p (flat h k)).length ≤ N →
      Calls Try.prog 217 #[ptr b, .pointer (some ⟨kb, ko + i, none⟩), kv p, .func (.func g) #[] caps, .bool false] W (HandPost J (handOn go acc (uptoK p (flat h k)).reverse)))
    (SC : ∀ (i m : Nat) (k : Tr It) (kb ko : Nat) (acc : List It) (W : World), ns[i]? = some m → ks[i]? = some k → L.ka = some ⟨kb, ko, none⟩ → J acc W → acc.length + (flat h k).length ≤ N →
      Calls Try.prog 234 #[ptr b, .pointer (some ⟨kb, ko + i, none⟩), .func (.func g) #[] caps, .bool false] W (HandPost J (handOn go acc (flat h k).reverse)))
    {acc : List It} (hJ : J acc w) (hN : acc.length + (uptoK p (flat (h + 1) (.node r.items ks))).length ≤ N) :
    Calls Try.prog 217 #[ptr b, .pointer (some ⟨pb, po, none⟩), kv p, .func (.func g) #[] caps, .bool false] w (HandPost J (handOn go acc (uptoK p (flat (h + 1) (.node r.items ks))).reverse)) := by
  obtain ⟨i0, f, hloc⟩ := Loc.ex p r.items hso
  have HH := Lib.hid HD
  have hcf := HD.enter
  have HA := Lib.hid A
  have HJ := Lib.hid hJ
  have HI := Lib.hid IH
  have HSC := Lib.hid SC
  have hk0 := HD.keep _ _ hJ
  have hiso := Lib.hid (isoLoad_own (A.hdr w hk0) (A.cell w hk0) (A.node w hk0) A.iso false)
  have HKN := Lib.hid hkn
  have HKS := Lib.hid hks
  have HNL := Lib.hid hnl
  have HS := Lib.hid hs
  have HSO := Lib.hid hso
  have HLO := Lib.hid hloc
  have hlen := A.len
  have hi0 := hloc.1
  clear HD A hJ hk0 hkn IH SC hks hnl hs hso hloc
  unfold ptr kv at *
  go_enter Try.func217, Try.ntmps217
  go_wp2_with fail
  refine hiso.out.mono ?_
  rintro e w1 ⟨rfl, kd, rfl⟩
  have HJ1 : Hid (J acc (w.drewN kd)) := by exact HH.out.calm _ _ _ HJ.out (Keep.drewN _ _ _)
  clear hiso HJ
  generalize w.drewN kd = w1 at *
  have hse := search_loc (tr := ptr b) (HA.out.node w1 (HH.out.keep _ _ HJ1.out)) hlen HSO.out HLO.out
  unfold ptr kv at *
  go_wp2_with fail
  refine hse.mono ?_
  rintro e w2 ⟨rfl, kd2, rfl⟩
  have HJ2 : Hid (J acc (w1.drewN kd2)) := by exact HH.out.calm _ _ _ HJ1.out (Keep.drewN _ _ _)
  clear hse HJ1
  generalize w1.drewN kd2 = w2 at *
  have N2 := Lib.hid (HA.out.node w2 (HH.out.keep _ _ HJ2.out))
  have hlv := leaf_any N2.out
  rw [HKN.out] at hlv
  simp only [Option.isNone_some] at hlv
  go_upto_if 26 with (fail)
  go_cut [10, 11, 12] (fun v10 v11 v12 wx => v10 = .bool false ∧ v11 = .pointer (some ⟨n, 0, none⟩) ∧ ∃ (z : Int) (i : Nat) (a1 : List It), v12 = .int .i64 z ∧ z + 1 = i ∧ i ≤ r.items.length ∧ J a1 wx ∧ handOn go acc (uptoK p (flat (h + 1) (.node r.items ks))).reverse = handOn go a1 (lo h r.items ks i).reverse ∧ a1.length + (lo h r.items ks i).length ≤ N)
  case first =>
    cases f with
    | true =>
      have HFO := Lib.hid (inner_found HS.out HSO.out HKS.out HLO.out)
      go_wp2_with fail
      go_meet
      exact ⟨rfl, rfl, _, i0 + 1, acc, rfl, by omega, by have := HLO.out; obtain ⟨_, y, hy, _⟩ := this; have := (List.getElem?_eq_some_iff.1 hy).1; omega, HJ2.out, by rw [HFO.out.2], by rw [HFO.out.2] at hN; exact hN⟩
    | false =>
      have hkl : ks[i0]? = some (ks[i0]'(by have := HKS.out; omega)) := List.getElem?_eq_getElem _
      have hnl : ns[i0]? = some (ns[i0]'(by have := HKS.out; have := HNL.out; omega)) := List.getElem?_eq_getElem _
      have hnsl : i0 < ns.length := (List.getElem?_eq_some_iff.1 hnl).1
      generalize ns[i0]'(by have := HKS.out; have := HNL.out; omega) = m at *
      generalize ks[i0]'(by have := HKS.out; omega) = k at *
      obtain ⟨kb, ko, hka, c3, g1, ck⟩ := node_child N2.out HKN.out hnl
      have HFO := Lib.hid (inner_none HS.out HKS.out HLO.out hkl)
      have hcall := Lib.hid (HI.out _ m k kb ko acc w2 hnl hkl hka HJ2.out HFO.out.2.2 (by rw [HFO.out.2.1] at hN; simp only [List.length_append] at hN; omega))
      obtain ⟨⟨a1, yes⟩, hro⟩ : ∃ q, handOn go acc (uptoK p (flat h k)).reverse = q := ⟨_, rfl⟩
      have HRO := Lib.hid hro
      rw [hro] at hcall
      clear hro hkl hnl hka
      unfold ptr at *
      go_wp2_with fail
      refine hlv.mono ?_
      rintro e w3 ⟨rfl, rfl⟩
      clear hlv
      go_wp2_with fail
      refine hcall.out.mono ?_
      rintro e w4 ⟨rfl, hJ4⟩
      have HJ4 := Lib.hid hJ4
      clear hJ4 hcall c3 g1 ck
      cases yes with
      | false =>
        go_wp2_with fail
        go_ret
        rw [HFO.out.2.1, List.reverse_append, handOn_end HRO.out]
        exact ⟨rfl, HJ4.out⟩
      | true =>
        go_wp2_with fail
        go_meet
        exact ⟨rfl, rfl, _, i0, a1, rfl, by omega, hi0, HJ4.out, by rw [HFO.out.2.1, List.reverse_append, handOn_on HRO.out], by have := handOn_len HRO.out; rw [HFO.out.2.1] at hN; simp only [List.length_append, List.length_reverse] at *; omega⟩
  case rest =>
    obtain ⟨rfl, rfl, z0, i1, a1, rfl, hz0, hi1, hJ5, heq5, hN5⟩ := hcut
    have HJ5 := Lib.hid hJ5
    have HEQ5 := Lib.hid heq5
    clear hJ5 heq5 hlv N2 HJ2
    go_wp2_with fail
    go_loopg [12] (r.items.length + 1) (fun c v12 wr => ∃ (i : Nat) (z : Int) (acc' : List It), v12 = .int .i64 z ∧ z + 1 = i ∧ i ≤ r.items.length ∧ i < c ∧ J acc' wr ∧ handOn go acc (uptoK p (flat (h + 1) (.node r.items ks))).reverse = handOn go acc' (lo h r.items ks i).reverse ∧ acc'.length + (lo h r.items ks i).length ≤ N)
    case atStart => exact ⟨i1, z0, a1, rfl, hz0, hi1, by omega, HJ5.out, HEQ5.out, hN5⟩
    case round =>
      obtain ⟨i, z, acc', rfl, hzi, hil, hik, hJr, heq, hNr⟩ := hrel
      have HJr := Lib.hid hJr
      have HEQ := Lib.hid heq
      have N1 := Lib.hid (HA.out.node wr (HH.out.keep _ _ hJr))
      obtain ⟨d0, d1, c2, d3, fz⟩ := N1.out.own
      clear d0 d1 d3 hJr heq
      cases i with
      | succ j =>
        obtain rfl : z = (j : Int) := by omega
        have hlt : j < r.items.length := by omega
        have hkl : ks[j]? = some (ks[j]'(by have := HKS.out; omega)) := List.getElem?_eq_getElem _
        have hnl : ns[j]? = some (ns[j]'(by have := HKS.out; have := HNL.out; omega)) := List.getElem?_eq_getElem _
        have hnsl : j < ns.length := (List.getElem?_eq_some_iff.1 hnl).1
        have hx : r.items[j]? = some r.items[j] := List.getElem?_eq_getElem hlt
        generalize ns[j]'(by have := HKS.out; have := HNL.out; omega) = m2 at *
        generalize ks[j]'(by have := HKS.out; omega) = k2 at *
        generalize r.items[j] = x at *
        have HD := Lib.hid (lo_rev (h := h) hkl hx)
        have HLR : Hid (acc'.length + 1 + (flat h k2).length + (lo h r.items ks j).length ≤ N) := by
          have := hNr; rw [lo_succ hkl hx] at this; simp only [List.length_append, List.length_cons, List.length_nil] at this; exact Lib.hid (by omega)
        clear hNr
        have HKL := Lib.hid hkl
        have HNN := Lib.hid hnl
        obtain ⟨ib, io, hia, ck⟩ := node_item N1.out hx
        rw [hia] at c2
        obtain ⟨ck, cv, cv2⟩ := ck
        have hcall := Lib.hid (HH.out.call acc' x wr.drew (HH.out.calm _ _ _ HJr.out (Keep.drew _ _)) (by have := HLR.out; omega))
        clear hx hia hzi hkl hnl hlt
        unfold kv vv at *
        go_wp2_with fail
        refine wp_calm (by kernel_rfl) (by kernel_rfl) rfl ?_
        simp only [List.flatMap_cons, List.flatMap_nil, checks, chk, nilLit, List.cons_append, List.nil_append, List.append_nil]
        go_wp2_with fail
        cases hg : go (acc' ++ [x]) with
        | false =>
          have HG := Lib.hid hg
          rw [hg] at hcall
          clear hg
          refine hcall.out.mono ?_
          rintro e w4 ⟨rfl, hJ4⟩
          have HJ4 := Lib.hid hJ4
          clear hJ4 hcall
          go_wp2_with fail
          rw [HQ_normal]
          go_wp2_with fail
          go_ret
          rw [HEQ.out, HD.out, handOn_no HG.out]
          exact ⟨rfl, HJ4.out⟩
        | true =>
          have HG := Lib.hid hg
          rw [hg] at hcall
          clear hg
          refine hcall.out.mono ?_
          rintro e w4 ⟨rfl, hJ4⟩
          have HJ4 := Lib.hid hJ4
          clear hJ4 hcall N1 c2 fz ck cv
          clear cv2
          have N4 := Lib.hid (HA.out.node w4 (HH.out.keep _ _ HJ4.out))
          have hlv := leaf_any N4.out
          rw [HKN.out] at hlv
          simp only [Option.isNone_some] at hlv
          obtain ⟨kb, ko, hka, c3, g1, ck⟩ := node_child N4.out HKN.out HNN.out
          have hcall := Lib.hid (HSC.out _ m2 k2 kb ko (acc' ++ [x]) w4 HNN.out HKL.out hka HJ4.out (by have := HLR.out; simp; omega))
          obtain ⟨⟨a3, yes⟩, hro⟩ : ∃ p, handOn go (acc' ++ [x]) (flat h k2).reverse = p := ⟨_, rfl⟩
          have HRO2 := Lib.hid hro
          rw [hro] at hcall
          clear hro hka
          unfold ptr at *
          go_wp2_with fail
          rw [HQ_normal]
          go_wp2_with fail
          refine hlv.mono ?_
          rintro e w6 ⟨rfl, rfl⟩
          clear hlv
          go_wp2_with fail
          refine hcall.out.mono ?_
          rintro e w5 ⟨rfl, hJ5⟩
          have HJ5 := Lib.hid hJ5
          clear hJ5 hcall c3 g1 ck
          cases yes with
          | false =>
            go_wp2_with fail
            go_ret
            rw [HEQ.out, HD.out, handOn_yes HG.out, handOn_end HRO2.out]
            exact ⟨rfl, HJ5.out⟩
          | true =>
            simp only at HJ5 HRO2
            go_wp2_with fail
            go_roundg (j + 1)
            case measure => omega
            case rel => exact ⟨j, _, a3, rfl, by omega, by omega, by omega, HJ5.out, by rw [HEQ.out, HD.out, handOn_yes HG.out, handOn_on HRO2.out], by have := handOn_len HRO2.out; have := HLR.out; simp at *; omega⟩
      | zero =>
        obtain rfl : z = -1 := by omega
        go_wp2_with fail
        go_ret
        rw [HEQ.out, lo_zero]
        exact ⟨rfl, HJr.out⟩

/-- DESCENDING below a node. -/
theorem descend_any {w0 : World} {b : Nat} {hr : HRec} {H : Store It} {L : Nat → Lay} {g : FuncId} {caps : Array Value} {go : List It → Bool} {J : List It → World → Prop} {S : Nat → Nat → Prop} {N : Nat} {mn mx : Nat}
    (HD : Hands g caps go J S w0 N) (A : StayAll w0 S b hr H L) (hmx : mx ≤ 1000000000000) (p : Ky) : ∀ (h l n : Nat) (t : Tr It) (F : List Nat), Rep H hr.iso h n t F → wfr l mn mx h t → Sorted ilt (flat h t) → ∀ (pb po : Nat), (∀ W, Keep S w0 W → W.cell? ⟨pb, po, none⟩ = some (ptr n)) → ∀ (acc : List It) (w : World), J acc w → acc.length + (uptoK p (flat h t)).length ≤ N →
    Calls Try.prog 217 #[ptr b, .pointer (some ⟨pb, po, none⟩), kv p, .func (.func g) #[] caps, .bool false] w (HandPost J (handOn go acc (uptoK p (flat h t)).reverse))
  | 0, l, n, t, F, hrp, wf, hs, pb, po, hc, acc, w, hJ, hN => by
    obtain ⟨r, h1, h2, h3, h4, h5, h6, _⟩ := hrp
    obtain ⟨its, ks⟩ := t
    simp only [Tr.its, flat] at *
    subst h3
    exact descend_leaf HD ⟨A.hdr, hc, fun W k => A.node W k n r h1, h2, by have := wf.2.1; simp only [Tr.its] at this; omega⟩ h5 hs p hJ hN
  | h + 1, l, n, t, F, hrp, wf, hs, pb, po, hc, acc, w, hJ, hN => by
    have hso := own_sorted wf hs
    obtain ⟨r, ns, F', h1, h2, h3, h4, h5, h6, _⟩ := hrp
    obtain ⟨w1, w2, w3, w4⟩ := wf
    obtain ⟨its, ks⟩ := t
    simp only [Tr.its, Tr.ks] at *
    subst h3
    refine descend_inner HD ⟨A.hdr, hc, fun W k => A.node W k n r h1, h2, by omega⟩ h4 w3 h6.len hso hs p (fun i m k kb ko acc W hm1 hk hka hJ hsk hN => ?_) (fun i m k kb ko acc W hm1 hk hka hJ hN => ?_) hJ hN
    · obtain ⟨G, hR⟩ := h6.get hm1 hk
      refine descend_any HD A hmx p h mn m k G hR (w4 k (List.mem_of_getElem? hk)) hsk kb (ko + i) (fun W' hk' => ?_) acc W hJ hN
      obtain ⟨kb', ko', hka', _, _, ck⟩ := node_child (A.node W' hk' n r h1) h4 hm1
      rw [hka] at hka'
      obtain ⟨rfl, rfl⟩ : kb = kb' ∧ ko = ko' := by simpa using hka'
      exact ck
    · obtain ⟨G, hR⟩ := h6.get hm1 hk
      refine reverse_any HD A hmx h mn m k G hR (w4 k (List.mem_of_getElem? hk)) kb (ko + i) (fun W' hk' => ?_) acc W hJ hN
      obtain ⟨kb', ko', hka', _, _, ck⟩ := node_child (A.node W' hk' n r h1) h4 hm1
      rw [hka] at hka'
      obtain ⟨rfl, rfl⟩ : kb = kb' ∧ ko = ko' := by simpa using hka'
      exact ck
end Go.Proofs.Ytfikahgofapobaa.T

namespace Go.Proofs.Ytfikahgofapobaa.T
open Go.RowKit Go.Wb

set_option maxHeartbeats 2000000 in
theorem lowDescend_any {w0 w : World} {b : Nat} {hr : HRec} {H : Store It} {L : Nat → Lay} {F : List Nat} {mn mx : Nat} {s : Sh} {g : FuncId} {caps : Array Value} {go : List It → Bool} {J : List It → World → Prop} {S : Nat → Nat → Prop} {N : Nat} (P : HandPre w0 w b hr H L F mn mx s g caps go J S N) (p : Ky) :
    Calls Try.prog 184 #[ptr b, kv p, .func (.func g) #[] caps, .bool false] w (HandedPost J (handOn go [] ((uptoK p (its s)).reverse))) := by
  have T := P.tree
  have A := T.stay P.hb P.hS
  have hk0 := P.hands.keep _ _ P.start
  have c2 := hdr_root (A.hdr w hk0)
  cases s with
  | none =>
    obtain ⟨hroot, _⟩ := T.root
    rw [hroot] at c2
    simp only [rootV, Option.map_none] at c2
    have HP := Lib.hid P
    clear P T A hk0 hroot
    unfold ptr kv at *
    go_enter Try.func184, Try.ntmps184
    go_wp2_with fail
    go_end0
    exact ⟨rfl, HP.out.start⟩
  | some q =>
    obtain ⟨h, t⟩ := q
    obtain ⟨n, hroot, rep, wf⟩ := T.root
    rw [hroot] at c2
    simp only [rootV, Option.map_some] at c2
    have hcall := Lib.hid (descend_any P.hands A T.par.hb p h 1 n t F rep wf T.srt b 2 (fun W hK => by have := hdr_root (A.hdr W hK); rw [hroot] at this; exact this) [] w P.start (by have h1 := P.len; have h2 := List.length_filter_le (fun x => !klt p (ky x)) (flat h t); simp only [its, uptoK, List.length_nil] at *; omega))
    have HP := Lib.hid P
    clear P T A hk0 hroot rep wf
    unfold ptr kv at *
    go_enter Try.func184, Try.ntmps184
    go_wp2_with fail
    refine hcall.out.mono ?_
    rintro e w' ⟨rfl, hJ⟩
    have HJ := Lib.hid hJ
    clear hJ hcall
    go_wp2_with fail
    go_end0
    exact ⟨rfl, HJ.out⟩

set_option maxHeartbeats 1000000 in
theorem mapDescend_any {w0 w : World} {b : Nat} {hr : HRec} {H : Store It} {L : Nat → Lay} {F : List Nat} {mn mx : Nat} {s : Sh} {g : FuncId} {caps : Array Value} {go : List It → Bool} {J : List It → World → Prop} {S : Nat → Nat → Prop} {N : Nat} (P : HandPre w0 w b hr H L F mn mx s g caps go J S N) (p : Ky) :
    Calls Try.prog 138 #[ptr b, kv p, .func (.func g) #[] caps] w (HandedPost J (handOn go [] ((uptoK p (its s)).reverse))) := by
  have hcall := Lib.hid (lowDescend_any P p)
  clear P
  unfold ptr kv at *
  go_enter Try.func138, Try.ntmps138
  go_wp2_with fail
  refine hcall.out.mono ?_
  rintro e w' ⟨rfl, hJ⟩
  have HJ := Lib.hid hJ
  clear hJ hcall
  go_wp2_with fail
  go_end0
  exact ⟨rfl, HJ.out⟩
end Go.Proofs.Ytfikahgofapobaa.T

namespace Go.Proofs.Ytfikahgofapobaa.T
open Go.RowKit Go.Wb

/-- The function value that hands a key on to the taker. -/
structure DescendHander (w0 : World) (ob kf kt kn : Nat) (n : Int) : Prop where
  tk : Taker w0 ob kt kn n
  f : w0.heap[kf]? = some (.cells #[.func (.func 140) #[] #[ptr kt, ptr kn]] 93 (0, 0))
  ne : kf ≠ ob

set_option maxHeartbeats 1000000 in
theorem sDescend1_any {w0 : World} {ob kf kt kn : Nat} {n : Int} (hh : DescendHander w0 ob kf kt kn n) (hn1 : -9223372036854775808 ≤ n) (hn2 : n ≤ 9223372036854775807) {acc : List It} {x : It} {W : World} (hJ : OutJ w0 ob acc W) (hl : acc.length < 4000000000000) :
    Calls Try.prog 139 #[kv (ky x), vv x, ptr kf] W (TakePost w0 ob n (acc ++ [x])) := by
  have hJ2 : ∀ o, OutJ w0 ob acc (W.alloc o) := fun o => hJ.calm (Keep.alloc _ _ _)
  have ht : ∀ o, Calls Try.prog 140 #[kv (ky x), ptr kt, ptr kn] (W.alloc o) (TakePost w0 ob n (acc ++ [x])) := fun o => take_any hh.tk.t hh.tk.n hh.tk.d1 hh.tk.d2 hh.tk.ob hn1 hn2 (x := x) (hJ2 o) hl
  have HT := Lib.hid ht
  have cf0 := (blk1 (blk_keep hh.f hJ.1 fun _ e => hh.ne e)).1
  have cf := fun o => cell_al o cf0
  clear cf0
  clear hh hJ hl hJ2 ht
  unfold ptr kv vv at *
  go_enter Try.func139, Try.ntmps139
  go_wp2_with fail
  refine (HT.out _).mono ?_
  rintro e w' ⟨rfl, hJ⟩
  have HJ := Lib.hid hJ
  clear hJ HT
  go_wp2_with fail
  go_ret
  exact ⟨rfl, HJ.out⟩

theorem Descendhands_of {w0 : World} {ob kf kt kn : Nat} {n : Int} (hh : DescendHander w0 ob kf kt kn n) (hn1 : -9223372036854775808 ≤ n) (hn2 : n ≤ 9223372036854775807) : Hands 139 #[ptr kf] (upTo n) (OutJ w0 ob) (fun c _ => c = ob) w0 4000000000000 :=
  ⟨fun _ _ _ hJ hl => sDescend1_any hh hn1 hn2 hJ hl, fun args w => Try.call139 args w, fun _ _ hJ => hJ.1, fun _ _ _ hJ hk => hJ.calm hk⟩

/-- Handed on to a taker's list. -/
def DescendPost (w : World) (ob : Nat) (xs : List It) (e : Ending) (w' : World) : Prop := e = .returned (.tuple #[]) ∧ ∃ w0, Keep Nothing w w0 ∧ OutJ w0 ob xs w'

set_option maxHeartbeats 1000000 in
theorem setDescend_any {w : World} {b : Nat} {hr : HRec} {H : Store It} {L : Nat → Lay} {F : List Nat} {mn mx : Nat} {s : Sh} (T : TreeAt w b hr H L F mn mx s) (hl : (its s).length ≤ 4000000000000) (p : Ky) {ob kt kn : Nat} {n : Int} (tk : Taker w ob kt kn n) (hn1 : -9223372036854775808 ≤ n) (hn2 : n ≤ 9223372036854775807)
    (ho : w.heap[ob]? = some (.cells #[.slice none 0 0] 22 (0, 0))) (hb : b ≠ ob) (hS : ∀ m r c o, H m = some r → fp TT m r (L m) c o → c ≠ ob) :
    Calls Try.prog 84 #[ptr b, kv p, .func (.func 140) #[] #[ptr kt, ptr kn]] w (DescendPost w ob (firstN n ((uptoK p (its s)).reverse))) := by
  have key : ∀ W, W = w.alloc (.cells #[.func (.func 140) #[] #[ptr kt, ptr kn]] 93) → Calls Try.prog 138 #[ptr b, kv p, .func (.func 139) #[] #[ptr w.heap.size]] W (HandedPost (OutJ W ob) (handOn (upTo n) [] ((uptoK p (its s)).reverse))) := by
    rintro W rfl
    have k := Keep.alloc Nothing w (.cells #[.func (.func 140) #[] #[ptr kt, ptr kn]] 93)
    refine mapDescend_any ⟨T.keep k, Descendhands_of ⟨⟨blk_keep tk.t k fun _ h => h, blk_keep tk.n k fun _ h => h, tk.d1, tk.d2, by have := tk.ob; simp; omega⟩, heap_alloc_new w _, by have := tk.ob; omega⟩ hn1 hn2, fun _ h => hb h, fun m r c o hm hf h => hS m r c o hm hf h, hl, ⟨Keep.refl _ _, none, 0, blk_keep ho k fun _ h => h, Acc.nil _ _ _ _⟩⟩ p
  have HK := Lib.hid key
  have hmf : ∀ (fn : Fn) (first cap : Array Value) (w : World), (Instr.makeFunc fn first cap).run Try.prog w = .ok (.func fn first cap) w := fun _ _ _ _ => rfl
  clear T hl tk ho hb hS key
  unfold ptr kv at *
  go_enter Try.func84, Try.ntmps84
  go_wp2_with fail
  refine (HK.out _ rfl).mono ?_
  rintro e w' ⟨rfl, hJ⟩
  rw [handOn_first] at hJ
  have HJ := Lib.hid hJ
  clear hJ HK
  go_wp2_with fail
  go_end0
  exact ⟨rfl, _, Keep.alloc _ _ _, HJ.out⟩
end Go.Proofs.Ytfikahgofapobaa.T

namespace Go.Proofs.Ytfikahgofapobaa.T
open Go.RowKit Go.Wb

/-- A new list of keys, read. -/
def ReadKeys (w : World) (xs : List Ky) (e : Ending) (w' : World) : Prop := ∃ a cap, e = .returned (.slice a xs.length cap) ∧ Given w' a (xs.map kv) ∧ Keep Nothing w w'

set_option maxHeartbeats 2000000 in
theorem tdescend_any {w : World} {a : Option Addr} {cap : Nat} {l : List ByteArray} (hg : Given w a (l.map .string)) (hl : l.length ≤ 2000000000000) (p : ByteArray) (n : Int) (hn1 : -9223372036854775808 ≤ n) (hn2 : n ≤ 9223372036854775807) :
    Calls Try.prog 35 #[.slice a l.length cap, .string p, .int .i64 n] w (ReadKeys w (firstN n (uptoK p (sortK l)).reverse)) := by
  have HG := Lib.hid hg
  have HL := Lib.hid hl
  clear hg hl
  go_enter Try.func35, Try.ntmps35
  go_upto_region 2 with (fail)
  refine wp_world ?_
  intro W1 hW1
  have K1 : Hid (Keep Nothing w W1) := by subst hW1; exact (Keep.refl _ _).al _
  have O1 : Hid (W1.heap[w.heap.size]? = some (.cells #[.slice none 0 0] 22 (0, 0))) := by subst hW1; exact heap_alloc_new w _
  generalize hq : w.heap.size = ob at *
  have HQE := Lib.hid hq
  clear hW1 hq
  have hgr := Lib.hid (grow_any (cap := cap) (HG.out.keep K1.out : Given W1 a (l.map fun x => kv (ky x))) (by have := HL.out; omega))
  go_wp2_with fail
  refine hgr.out.mono ?_
  rintro e W2 ⟨b, hr, H, L, F, s, rfl, hN, hits⟩
  have HN := Lib.hid hN
  have HI : Hid (its s = sortK l) := Lib.hid hits
  have O2 := Lib.hid (blk_keep O1.out hN.keep fun _ h => h)
  clear hgr hN hits
  have hh := Lib.hid (taker_any (lt_of_heap O2.out) n)
  unfold ptr at *
  go_wp2_with fail
  refine hh.out.mono ?_
  rintro e W3 ⟨kt, kn, rfl, k3, tk⟩
  have hob : ob < W1.heap.size := lt_of_heap O1.out
  have K3 : Hid (Keep Nothing w W3) := by exact (K1.out.trans HN.out.keep fun _ _ _ h => h).trans k3 fun _ _ _ h => h
  have O3 := Lib.hid (blk_keep O2.out k3 fun _ h => h)
  have hsd := Lib.hid (setDescend_any (HN.out.tree.keep k3) (by rw [HI.out]; have := foldl_put_len iord l []; have := HL.out; simp [sortK] at *; omega) p tk hn1 hn2 O3.out (by have := HN.out.head; omega) (fun m r c o hm hf h => by have := HN.out.nodes m r c o hm hf; omega))
  clear hh k3 tk K1 O1 O2 hob
  unfold ptr kv at *
  go_wp2_with fail
  refine hsd.out.mono ?_
  rintro e W4 ⟨rfl, W0, k0, hJ⟩
  rw [HI.out] at hJ
  obtain ⟨h1, a1, c1, h2, h3⟩ := hJ
  have co := (blk1 h2).1
  have G2 : Hid (Given W4 a1 ((firstN n (uptoK p (sortK l)).reverse).map kv)) := by rw [← all_map]; exact h3.row.reads
  have G3 : Hid (Keep Nothing w W4) := by exact (K3.out.trans k0 fun _ _ _ h => h).trans h1 fun c o hc (h : c = ob) => by have := HQE.out; omega
  clear h1 h2 h3 k0 hsd
  go_wp2_with fail
  go_ret
  exact ⟨a1, c1, rfl, G2.out, G3.out⟩

theorem due_descend (l : List ByteArray) (p : ByteArray) (n : Int) : (firstN n (W.uptoK p (W.sortK (l.map W.nameK))).reverse).map W.ky = firstN n (uptoK p (sortK l)).reverse := by
  rw [sortW_named, uptoW_named, ← List.map_reverse, firstN_map, keys_named]

set_option maxRecDepth 100000 in
theorem exactTDescend_small {w : World} {a : Option Addr} {cap : Nat} {l : List ByteArray} (hg : Given w a (l.map .string)) (hl : l.length ≤ maxLen) (p : ByteArray) (hp : p.size ≤ maxLen) (n : Int) (h : fitsB l = false ∨ most < p.size) :
    Calls Try.prog 7 #[.slice a l.length cap, .string p, .int .i64 n] w (TruePost w) := by
  have hf := Lib.hid (fits13_any (cap := cap) hg hl)
  simp only [maxLen] at hp
  simp only [most] at h
  clear hg
  cases hb : fitsB l with
  | false =>
    rw [hb] at hf
    clear hb h
    go_enter Try.func7, Try.ntmps7
    go_wp2_with fail
    refine hf.out.mono ?_
    rintro e w1 ⟨rfl, rfl⟩
    go_wp2_with fail
    go_ret
    exact ⟨rfl, Keep.refl _ _⟩
  | true =>
    have hp2 : 2147483647 < p.size := h.resolve_left (by simp [hb])
    rw [hb] at hf
    clear hb h
    go_enter Try.func7, Try.ntmps7
    go_wp2_with fail
    refine hf.out.mono ?_
    rintro e w1 ⟨rfl, rfl⟩
    go_wp2_with fail
    go_ret
    exact ⟨rfl, Keep.refl _ _⟩

set_option maxRecDepth 100000 in
set_option maxHeartbeats 4000000 in
theorem exactTDescend_main {w : World} {a : Option Addr} {cap : Nat} {l : List ByteArray} (hg : Given w a (l.map .string)) (hl : l.length ≤ maxLen) (p : ByteArray) (n : Int) (hn1 : -9223372036854775808 ≤ n) (hn2 : n ≤ 9223372036854775807) (h : fitsB l = true) (hp : p.size ≤ 2147483647) :
    Calls Try.prog 7 #[.slice a l.length cap, .string p, .int .i64 n] w (TruePost w) := by
  have hf := Lib.hid (fits13_any (cap := cap) hg hl)
  rw [h] at hf
  obtain ⟨hll, _⟩ := fitsB_true.1 h
  simp only [most] at hll
  have HG := Lib.hid hg
  have hco := Lib.hid (tdescend_any (cap := cap) hg (by omega) p n hn1 hn2)
  have hal := Lib.hid (fun W => aliveT_any W)
  clear hg h
  go_enter Try.func7, Try.ntmps7
  go_wp2_with fail
  refine hf.out.mono ?_
  rintro e w1 ⟨rfl, rfl⟩
  go_wp2_with fail
  refine hco.out.mono ?_
  rintro e w2 ⟨d, dcap, rfl, hD, hK2⟩
  have HD := Lib.hid hD
  have HK2 := Lib.hid hK2
  have hnm := Lib.hid (W.named_any (cap := cap) (HG.out.keep hK2 : Given w2 a (l.map W.kv)) (by omega))
  clear hf hco hD hK2
  go_wp2_with fail
  refine hnm.out.mono ?_
  rintro e w3 ⟨a3, c3, rfl, hA3, hk3⟩
  have HK3 : Hid (Keep Nothing w w3) := by exact HK2.out.trans hk3 fun _ _ _ h => h
  have HD3 := Lib.hid (HD.out.keep hk3)
  have hsp := Lib.hid (W.specDescend_any (cap := c3) hA3.row.reads (by simp; omega) p n)
  simp only [List.length_map] at hsp
  clear hnm hA3 hk3 HK2 HD
  unfold W.kv at hsp
  simp only [List.length_map]
  go_wp2_with fail
  refine hsp.out.mono ?_
  rintro e w4 ⟨a4, c4, rfl, hG4, hk4⟩
  have HK4 : Hid (Keep Nothing w w4) := by exact HK3.out.trans hk4 fun _ _ _ h => h
  have HD4 := Lib.hid (HD3.out.keep hk4)
  have hlen4 : Hid ((firstN n (W.uptoK p (W.sortK (l.map W.nameK))).reverse).length ≤ 4000000000000) := by
    have h1 := W.firstN_len n (W.uptoK p (W.sortK (l.map W.nameK))).reverse
    have h2 : (W.uptoK p (W.sortK (l.map W.nameK))).length ≤ (W.sortK (l.map W.nameK)).length := List.length_filter_le _ _
    have h3 := W.sortK_len (l.map W.nameK)
    simp at h1 h3
    exact Lib.hid (by omega)
  have hki := Lib.hid (W.keysIn_any (cap := c4) hG4 hlen4.out)
  rw [due_descend] at hki
  clear hsp hG4 hk4 HK3 HD3
  go_wp2_with fail
  refine hki.out.mono ?_
  rintro e w5 ⟨a5, c5, rfl, hA5, hk5⟩
  have HK5 : Hid (Keep Nothing w w5) := by exact HK4.out.trans hk5 fun _ _ _ h => h
  have heq := Lib.hid (equalT_any (acap := dcap) (ccap := c5) (HD4.out.keep hk5) hA5.row.reads (by have := hlen4.out; have e := congrArg List.length (due_descend l p n); simp only [List.length_map] at e; omega))
  clear hki hA5 hk5 HK4 HD4
  go_wp2_with fail
  refine heq.out.mono ?_
  rintro e w6 ⟨rfl, hk6⟩
  have HK6 : Hid (Keep Nothing w w6) := by exact HK5.out.trans hk6 fun _ _ _ h => h
  clear heq hk6 HK5
  go_wp2_with fail
  refine (hal.out _).mono ?_
  rintro e w7 ⟨rfl, hK7⟩
  have HK7 : Hid (Keep Nothing w w7) := by exact HK6.out.trans hK7 fun _ _ _ h => h
  clear hK7 HK6
  go_wp2_with fail
  go_ret
  exact ⟨rfl, HK7.out⟩

theorem exactTDescend_row {w : World} {a : Option Addr} {cap : Nat} {l : List ByteArray} (hg : Given w a (l.map .string)) (hl : l.length ≤ maxLen) {p : ByteArray} (hp : p.size ≤ maxLen) {n : Int} (hn : (Lit.int .i64 n).wf = true) :
    Calls Try.prog 7 #[.slice a l.length cap, .string p, .int .i64 n] w (TruePost w) := by
  by_cases h : fitsB l = true
  · by_cases h2 : p.size ≤ 2147483647
    · exact exactTDescend_main hg hl p n (int_wf hn).1 (int_wf hn).2 h h2
    · exact exactTDescend_small hg hl p hp n (.inr (by simp only [most]; omega))
  · exact exactTDescend_small hg hl p hp n (.inl (by simpa using h))
end Go.Proofs.Ytfikahgofapobaa.T

namespace Go.Wb
open Go Go.ChangeShapes Go.WideShapes Go.ChangeAt Go.RowKit

/-- The cells of a slice that came in. -/
theorem given_cells {W : World} {a : Addr} {cs : List Value} (h : ∀ i v, cs[i]? = some v → W.cell? (a.add i) = some v) : Given W (some a) cs := by
  cases cs with
  | nil => exact .inl rfl
  | cons x cs =>
    obtain ⟨b, off, spot⟩ := a
    have h0 := h 0 x (by simp)
    have hspot : spot = none := by simpa [Addr.add] using World.cell?_spot h0
    subst hspot
    refine .inr ⟨b, off, rfl, fun i v hi => ?_⟩
    rw [← add_plain]
    exact h i v hi

section
variable {H : Type} {enc : TypeId × Value → H} {P : Program} {W : World}

/-- A slice of texts that came in. -/
theorem open_texts {t e : TypeId} {base : Nat} {v : Value} {d : DataW H} {p : List MemPlace} (ht : P.underlying t = some (.slice e)) (he : P.underlying e = some .string) (hc : P.cellsOf e = 1) (hval : Value.okWide P W .any base t v)
    (h : DataW.Trod enc P W 0 (fun _ => true) true t v d p) : ∃ (a : Option Addr) (l : List ByteArray) (cap : Nat), v = .slice a l.length cap ∧ Given W a (l.map .string) ∧ l.length ≤ maxLen := by
  obtain ⟨a0, len, cap, rfl⟩ := okWide_slice ht hval
  obtain ⟨fuel, hf⟩ := h
  rcases open_strings ht he hc hf with ⟨hcs, hx⟩ | ⟨a, len', cap', ss, hcs, _, hl, hm, hz, hx, hcell, hws⟩
  · simp [Value.cells] at hcs
    obtain ⟨rfl, rfl, rfl⟩ := hcs
    exact ⟨none, [], 0, rfl, .inl rfl, by simp⟩
  · simp [Value.cells] at hcs
    obtain ⟨rfl, rfl, rfl⟩ := hcs
    simp only [if_true] at hz
    have hlen : (ss.take len).length = len := by simp; omega
    refine ⟨some a, ss.take len, cap, by rw [hlen], given_cells fun i v hi => ?_, by rw [hlen]; omega⟩
    rw [List.getElem?_map, List.getElem?_take] at hi
    split at hi
    · have hil : i < ss.length := by omega
      rw [List.getElem?_eq_getElem hil] at hi
      rw [hcell i hil]
      simp at hi
      rw [← hi]
      simp [List.getD, hil]
    · cases hi

/-- What came in reads as it did. -/
theorem Below.trodAll (hl : laidOutB P = true) {W' : World} (hb : Below W.heap.size W W') : ∀ {ts : List TypeId} {vs : List Value} {ds : List (DataW H)} {ps : List MemPlace}, (ts.all fun t => P.readableRec t && decide (t < P.types.size)) = true →
    DataW.TrodAll enc P W 0 (fun _ => true) true ts vs ds ps → (∀ x ∈ ps, x.block < W.heap.size) → DataW.TrodAll enc P W' 0 (fun b => decide (b < W.heap.size)) true ts vs ds ps
  | [], [], [], ps, _, h, _ => h
  | t :: ts, v :: vs, d :: ds, ps, hc, h, hp => by
    obtain ⟨p, q, h1, h2, rfl⟩ := h
    simp only [List.all_cons, Bool.and_eq_true, decide_eq_true_eq] at hc
    refine ⟨p, q, Below.trod hl hc.1.1 hc.1.2 h1 hb (fun x hx => hp x (by simp [hx])), Below.trodAll hl hb (by simpa using hc.2) h2 (fun x hx => hp x (by simp [hx])), rfl⟩
  | [], _ :: _, _, _, _, h, _ => h.elim
  | [], [], _ :: _, _, _, h, _ => h.elim
  | _ :: _, [], _, _, _, h, _ => h.elim
  | _ :: _, _ :: _, [], _, _, h, _ => h.elim
end
end Go.Wb

namespace Go.Wb
open Go Go.ChangeShapes Go.WideShapes Go.ChangeAt Go.RowKit Go.Deep

theorem pairs_get {β : Type} (f g : β → Value) : ∀ {l : List β} {j : Nat} {v : Value}, (l.flatMap fun x => [f x, g x])[j]? = some v → ∃ i x, l[i]? = some x ∧ ((j = i * 2 ∧ v = f x) ∨ (j = i * 2 + 1 ∧ v = g x))
  | [], j, v, h => by simp at h
  | x :: l, 0, v, h => ⟨0, x, rfl, .inl ⟨rfl, by simpa using h.symm⟩⟩
  | x :: l, 1, v, h => ⟨0, x, rfl, .inr ⟨rfl, by simpa using h.symm⟩⟩
  | x :: l, j + 2, v, h => by
    obtain ⟨i, y, h1, h2⟩ := pairs_get f g (l := l) (j := j) (v := v) (by simpa using h)
    exact ⟨i + 1, y, by simpa using h1, h2.imp (fun ⟨a, b⟩ => ⟨by omega, b⟩) fun ⟨a, b⟩ => ⟨by omega, b⟩⟩

def strV : Value → ByteArray | .string s => s | _ => ⟨#[]⟩
def intV : Value → Int | .int _ n => n | _ => 0

section
variable {H : Type} {enc : TypeId × Value → H} {P : Program} {W : World}
/-- A slice of pairs of a text and a number that came in. -/
theorem open_words {t e : TypeId} {f0 f1 : Field} {base : Nat} {v : Value} {d : DataW H} {p : List MemPlace} (ht : P.underlying t = some (.slice e)) (he : P.underlying e = some (.struct #[f0, f1])) (hk : P.underlying f0.type = some .string) (hi : P.underlying f1.type = some (.int .i64))
    (ce : P.cellsOf e = 2) (o0 : f0.offset = 0) (o1 : f1.offset = 1) (c0 : P.cellsOf f0.type = 1) (c1 : P.cellsOf f1.type = 1) (hval : Value.okWide P W .any base t v)
    (h : DataW.Trod enc P W 0 (fun _ => true) true t v d p) : ∃ (a : Option Addr) (l : List (ByteArray × Int)) (cap : Nat), v = .slice a l.length cap ∧ Given W a (l.flatMap fun x => [.string x.1, .int .i64 x.2]) ∧ l.length ≤ maxLen := by
  obtain ⟨a0, len, cap, rfl⟩ := okWide_slice ht hval
  obtain ⟨fuel, hf⟩ := h
  rcases open_slice_pairs ht he ce o0 o1 c0 c1 hf with ⟨hcs, hx⟩ | ⟨a, len', cap', m, n, V0, V1, D0, D1, P0, P1, hcs, _, hl, hm, hz, hx, hc⟩
  · simp [Value.cells] at hcs
    obtain ⟨rfl, rfl, rfl⟩ := hcs
    exact ⟨none, [], 0, rfl, .inl rfl, by simp⟩
  · simp [Value.cells] at hcs
    obtain ⟨rfl, rfl, rfl⟩ := hcs
    simp only [if_true] at hz
    have hlen : ((List.range len).map fun i => (strV (V0 i), intV (V1 i))).length = len := by simp
    refine ⟨some a, (List.range len).map fun i => (strV (V0 i), intV (V1 i)), cap, by rw [hlen], given_cells fun j u hj => ?_, by rw [hlen]; omega⟩
    obtain ⟨i, x, h1, h2⟩ := pairs_get (fun x : ByteArray × Int => Value.string x.1) (fun x => Value.int .i64 x.2) hj
    rw [List.getElem?_map] at h1
    obtain ⟨k, hk1, hk2⟩ := Option.map_eq_some_iff.1 h1
    obtain ⟨hil, rfl⟩ := List.getElem?_eq_some_iff.1 hk1
    simp only [List.length_range] at hil
    simp only [List.getElem_range] at hk2
    subst hk2
    obtain ⟨g0, g1, g2, g3⟩ := hc i (by omega)
    obtain ⟨s, e1, _, _⟩ := DataW.trod_string hk g2
    obtain ⟨z, e2, _, _⟩ := DataW.trod_int hi g3
    have e1' : V0 i = .string s := by simpa using e1
    have e2' : V1 i = .int .i64 z := by simpa using e2
    rcases h2 with ⟨rfl, rfl⟩ | ⟨rfl, rfl⟩
    · rw [g0, e1']; rfl
    · rw [g1, e2']; rfl
end
end Go.Wb
