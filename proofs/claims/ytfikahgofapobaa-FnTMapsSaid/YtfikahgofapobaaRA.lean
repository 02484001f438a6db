/- Part 1 of the texts for the statement FnTMaps: the package's tree of maps and sets, its functions' contracts. -/
import Derived.Test.YtfikahgofapobaaYB
import Derived.Test.YtfikahgofapobaaVB
import Derived.Deep.QuietTactic
import Derived.BigQuiet
import Derived.ProofKit
import Derived.SliceStrings
import Derived.Deep.SlicePairs
namespace Go.Proofs.Ytfikahgofapobaa.T
open Go.RowKit Go.Wb

/-- A function value (function g, what it captured) to which items are handed: J tells what was handed on so far; all that turns lies in S. -/
structure Hands (g : FuncId) (caps : Array Value) (go : List It → Bool) (J : List It → World → Prop) (S : Nat → Nat → Prop) (w0 : World) (N : Nat) : Prop where
  call : ∀ acc x W, J acc W → acc.length < N → Calls Try.prog g (#[kv (ky x), vv x] ++ caps) W fun e W' => e = .returned (.bool (go (acc ++ [x]))) ∧ J (acc ++ [x]) W'
  enter : ∀ args w, (callFunc g args).run Try.prog w = .ok (.enter g args) w
  keep : ∀ acc W, J acc W → Keep S w0 W
  calm : ∀ acc W W', J acc W → Keep Nothing W W' → J acc W'

/-- What handing on leaves. -/
def HandPost (J : List It → World → Prop) (r : List It × Bool) (e : Ending) (w' : World) : Prop := e = .returned (.bool r.2) ∧ J r.1 w'

/-- A node that stays while S turns, the head, and the cell that leads to it. -/
structure Stays (w0 : World) (S : Nat → Nat → Prop) (b : Nat) (hr : HRec) (pb po n : Nat) (r : NRec It) (L : Lay) : Prop where
  hdr : ∀ W, Keep S w0 W → Hdr W b hr
  cell : ∀ W, Keep S w0 W → W.cell? ⟨pb, po, none⟩ = some (ptr n)
  node : ∀ W, Keep S w0 W → NodeAt TT E W n r L
  iso : r.iso = hr.iso
  len : r.items.length ≤ 1000000000000

/-- The cells of an item of a node. -/
theorem node_item {w : World} {n : Nat} {r : NRec It} {L : Lay} (hn : NodeAt TT E w n r L) {i : Nat} {x : It} (hi : r.items[i]? = some x) : ∃ ib io, L.ia = some ⟨ib, io, none⟩ ∧
    w.cell? ⟨ib, io + i, none⟩ = some (kv (ky x)) ∧ (partAt ⟨ib, io + i, none⟩ 0 0).run Try.prog w = .ok ⟨ib, io + i, none⟩ w ∧ (partAt ⟨ib, io + i, none⟩ 0 0).run Try.prog w.drew = .ok ⟨ib, io + i, none⟩ w.drew := by
  obtain ⟨hil, _⟩ := List.getElem?_eq_some_iff.1 hi
  have hrow := hn.2.1
  obtain ⟨ib, io, hia, _⟩ := hrow.form (by rw [E.all_len]; exact Nat.mul_pos (by omega) E.pos)
  rw [hia] at hrow
  exact ⟨ib, io, hia, key_cell hrow hi, elem0 hrow, elem0 (hrow.keep' (Keep.drew (fun _ _ => False) w) fun _ _ _ h => h)⟩

/-- The cells of a child of a node. -/
theorem node_child {w : World} {n : Nat} {r : NRec It} {L : Lay} (hn : NodeAt TT E w n r L) {ns : List Nat} (hk : r.kids = some ns) {i m : Nat} (hi : ns[i]? = some m) : ∃ kb ko, L.ka = some ⟨kb, ko, none⟩ ∧ w.cell? ⟨n, 3, none⟩ = some (ptr L.cb) ∧
    w.cell? ⟨L.cb, 0, none⟩ = some (.slice (some ⟨kb, ko, none⟩) ns.length L.kcap) ∧ w.cell? ⟨kb, ko + i, none⟩ = some (ptr m) := by
  obtain ⟨c3, g1, _, hrow, _⟩ := hn.kids hk
  obtain ⟨hil, _⟩ := List.getElem?_eq_some_iff.1 hi
  obtain ⟨kb, ko, hka, _⟩ := hrow.form (by simp; omega)
  rw [hka] at hrow g1
  exact ⟨kb, ko, hka, c3, g1, hrow.cell (i := i) (v := ptr m) (by simp [hi])⟩

/-- All nodes of a tree stay while S turns, which is none of theirs. -/
structure StayAll (w0 : World) (S : Nat → Nat → Prop) (b : Nat) (hr : HRec) (H : Store It) (L : Nat → Lay) : Prop where
  hdr : ∀ W, Keep S w0 W → Hdr W b hr
  node : ∀ W, Keep S w0 W → ∀ n r, H n = some r → NodeAt TT E W n r (L n)

theorem TreeAt.stay {w0 : World} {b : Nat} {hr : HRec} {H : Store It} {L : Nat → Lay} {F : List Nat} {mn mx : Nat} {s : Sh} (T : TreeAt w0 b hr H L F mn mx s) {S : Nat → Nat → Prop} (hb : ∀ o, ¬ S b o) (hS : ∀ n r c o, H n = some r → fp TT n r (L n) c o → ¬ S c o) : StayAll w0 S b hr H L :=
  ⟨fun _ hk => blk_keep T.hdr hk hb, fun _ hk n r hr => (T.mem.at_ n r hr).keep hk fun c o hf => hS n r c o hr hf⟩

def HandedPost (J : List It → World → Prop) (r : List It × Bool) (e : Ending) (w' : World) : Prop := e = .returned (.tuple #[]) ∧ J r.1 w'

/-- What is given where a tree's items are handed to a function. -/
structure HandPre (w0 w : World) (b : Nat) (hr : HRec) (H : Store It) (L : Nat → Lay) (F : List Nat) (mn mx : Nat) (s : Sh) (g : FuncId) (caps : Array Value) (go : List It → Bool) (J : List It → World → Prop) (S : Nat → Nat → Prop) (N : Nat) : Prop where
  tree : TreeAt w0 b hr H L F mn mx s
  hands : Hands g caps go J S w0 N
  hb : ∀ o, ¬ S b o
  hS : ∀ n r c o, H n = some r → fp TT n r (L n) c o → ¬ S c o
  len : (its s).length ≤ N
  start : J [] w
theorem HandPre.calm {w0 w w' : World} {b : Nat} {hr : HRec} {H : Store It} {L : Nat → Lay} {F : List Nat} {mn mx : Nat} {s : Sh} {g : FuncId} {caps : Array Value} {go : List It → Bool} {J : List It → World → Prop} {S : Nat → Nat → Prop} {N : Nat} (P : HandPre w0 w b hr H L F mn mx s g caps go J S N) (hk : Keep Nothing w w') : HandPre w0 w' b hr H L F mn mx s g caps go J S N :=
  ⟨P.tree, P.hands, P.hb, P.hS, P.len, P.hands.calm _ _ _ P.start hk⟩
end Go.Proofs.Ytfikahgofapobaa.T

namespace Go.Proofs.Ytfikahgofapobaa.T
open Go.RowKit Go.Wb

set_option maxRecDepth 100000 in
set_option maxHeartbeats 8000000 in
theorem scan_leaf {w0 w : World} {b : Nat} {hr : HRec} {pb po n : Nat} {g : FuncId} {caps : Array Value} {go : List It → Bool} {J : List It → World → Prop} {S : Nat → Nat → Prop} {N : Nat} {r : NRec It} {L : Lay}
    (HD : Hands g caps go J S w0 N) (A : Stays w0 S b hr pb po n r L) (hkn : r.kids = none) {acc : List It} (hJ : J acc w) (hN : acc.length + r.items.length ≤ N) :
    Calls Try.prog 239 #[ptr b, .pointer (some ⟨pb, po, none⟩), .func (.func g) #[] caps, .bool false] w (HandPost J (handOn go acc r.items)) := by
  have HH := Lib.hid HD
  have hcf := HD.enter
  have HA := Lib.hid A
  have HJ := Lib.hid hJ
  have hk0 := HD.keep _ _ hJ
  have hiso := Lib.hid (isoLoad_own (A.hdr w hk0) (A.cell w hk0) (A.node w hk0) A.iso false)
  have HKN := Lib.hid hkn
  have hlen := A.len
  clear HD A hJ hk0 hkn
  unfold ptr at *
  go_enter Try.func239, Try.ntmps239
  go_wp2_with fail
  refine hiso.out.mono ?_
  rintro e w1 ⟨rfl, kd, rfl⟩
  have HJ1 : Hid (J acc (w.drewN kd)) := by exact HH.out.calm _ _ _ HJ.out (Keep.drewN _ _ _)
  clear hiso HJ
  generalize w.drewN kd = w1 at *
  have hlv := leaf_any (HA.out.node w1 (HH.out.keep _ _ HJ1.out))
  rw [HKN.out] at hlv
  simp only [Option.isNone_none] at hlv
  unfold ptr at *
  go_wp2_with fail
  refine hlv.mono ?_
  rintro e w2 ⟨rfl, rfl⟩
  clear hlv
  go_wp2_with fail
  go_loopg [10] (r.items.length + 1) (fun k v10 wr => ∃ (i : Nat) (acc' : List It), v10 = .int .i64 i ∧ i ≤ r.items.length ∧ i + k = r.items.length + 1 ∧ J acc' wr ∧ handOn go acc r.items = handOn go acc' (r.items.drop i) ∧ acc'.length + (r.items.length - i) ≤ N)
  case atStart => exact ⟨0, acc, rfl, by omega, by omega, HJ1.out, by simp, by omega⟩
  case round =>
    obtain ⟨i, acc', rfl, hil, hik, hJr, heq, hNr⟩ := hrel
    have HJr := Lib.hid hJr
    have HEQ := Lib.hid heq
    have N1 := Lib.hid (HA.out.node wr (HH.out.keep _ _ hJr))
    obtain ⟨d0, d1, c2, d3, fz⟩ := N1.out.own
    clear d0 d1 d3 hJr heq
    by_cases hlt : i < r.items.length
    · have hx : r.items[i]? = some r.items[i] := List.getElem?_eq_getElem hlt
      have hd : r.items.drop i = r.items[i] :: r.items.drop (i + 1) := List.drop_eq_getElem_cons hlt
      generalize r.items[i] = x at *
      have HD := Lib.hid hd
      obtain ⟨ib, io, hia, ck⟩ := node_item N1.out hx
      rw [hia] at c2
      obtain ⟨ck, cv, cv2⟩ := ck
      have hcall := Lib.hid (HH.out.call acc' x wr.drew (HH.out.calm _ _ _ HJr.out (Keep.drew _ _)) (by omega))
      clear hd hx hia
      unfold kv vv at *
      go_wp2_with fail
      refine wp_calm (by kernel_rfl) (by kernel_rfl) rfl ?_
      simp only [List.flatMap_cons, List.flatMap_nil, checks, chk, nilLit, List.cons_append, List.nil_append, List.append_nil]
      go_wp2_with fail
      cases hg : go (acc' ++ [x]) with
      | true =>
        have HG := Lib.hid hg
        rw [hg] at hcall
        clear hg
        refine hcall.out.mono ?_
        rintro e w3 ⟨rfl, hJ3⟩
        have HJ3 := Lib.hid hJ3
        clear hJ3 hcall
        go_wp2_with fail
        rw [HQ_normal]
        go_wp2_with fail
        go_roundg (r.items.length - i)
        case measure => omega
        case rel => exact ⟨i + 1, acc' ++ [x], by go_num, by omega, by omega, HJ3.out, by rw [HEQ.out, HD.out, handOn_yes HG.out], by simp; omega⟩
      | false =>
        have HG := Lib.hid hg
        rw [hg] at hcall
        clear hg
        refine hcall.out.mono ?_
        rintro e w3 ⟨rfl, hJ3⟩
        have HJ3 := Lib.hid hJ3
        clear hJ3 hcall
        go_wp2_with fail
        rw [HQ_normal]
        go_wp2_with fail
        go_ret
        rw [HEQ.out, HD.out, handOn_no HG.out]
        exact ⟨rfl, HJ3.out⟩
    · have hi : i = r.items.length := by omega
      subst hi
      go_wp2_with fail
      go_ret
      rw [HEQ.out, List.drop_eq_nil_of_le (Nat.le_refl _)]
      exact ⟨rfl, HJr.out⟩

set_option maxRecDepth 100000 in
set_option maxHeartbeats 8000000 in
theorem scan_inner {w0 w : World} {b : Nat} {hr : HRec} {pb po n h : Nat} {g : FuncId} {caps : Array Value} {go : List It → Bool} {J : List It → World → Prop} {S : Nat → Nat → Prop} {N : Nat} {r : NRec It} {L : Lay}
    (HD : Hands g caps go J S w0 N) (A : Stays w0 S b hr pb po n r L) {ns : List Nat} (hkn : r.kids = some ns) {ks : List (Tr It)} (hks : ks.length = r.items.length + 1) (hnl : ns.length = ks.length)
    (IH : ∀ (i m : Nat) (k : Tr It) (kb ko : Nat) (acc : List It) (W : World), ns[i]? = some m → ks[i]? = some k → L.ka = some ⟨kb, ko, none⟩ → J acc W → acc.length + (flat h k).length ≤ N →
      Calls Try.prog 239 #[ptr b, .pointer (some ⟨kb, ko + i, none⟩), .func (.func g) #[] caps, .bool false] W (HandPost J (handOn go acc (flat h k))))
    {acc : List It} (hJ : J acc w) (hN : acc.length + (flat (h + 1) (.node r.items ks)).length ≤ N) :
    Calls Try.prog 239 #[ptr b, .pointer (some ⟨pb, po, none⟩), .func (.func g) #[] caps, .bool false] w (HandPost J (handOn go acc (flat (h + 1) (.node r.items ks)))) := by
  have HH := Lib.hid HD
  have hcf := HD.enter
  have HA := Lib.hid A
  have HJ := Lib.hid hJ
  have HI := Lib.hid IH
  have hk0 := HD.keep _ _ hJ
  have hiso := Lib.hid (isoLoad_own (A.hdr w hk0) (A.cell w hk0) (A.node w hk0) A.iso false)
  have HKN := Lib.hid hkn
  have HKS := Lib.hid hks
  have HNL := Lib.hid hnl
  have hlen := A.len
  clear HD A hJ hk0 hkn IH hks hnl
  unfold ptr at *
  go_enter Try.func239, Try.ntmps239
  go_wp2_with fail
  refine hiso.out.mono ?_
  rintro e w1 ⟨rfl, kd, rfl⟩
  have HJ1 : Hid (J acc (w.drewN kd)) := by exact HH.out.calm _ _ _ HJ.out (Keep.drewN _ _ _)
  clear hiso HJ
  generalize w.drewN kd = w1 at *
  have hlv := leaf_any (HA.out.node w1 (HH.out.keep _ _ HJ1.out))
  rw [HKN.out] at hlv
  simp only [Option.isNone_some] at hlv
  unfold ptr at *
  go_wp2_with fail
  refine hlv.mono ?_
  rintro e w2 ⟨rfl, rfl⟩
  clear hlv
  go_wp2_with fail
  go_loopg [11] (r.items.length + 1) (fun k v11 wr => ∃ (i : Nat) (acc' : List It), v11 = .int .i64 i ∧ i ≤ r.items.length ∧ i + k = r.items.length + 1 ∧ J acc' wr ∧ handOn go acc (flat (h + 1) (.node r.items ks)) = handOn go acc' (tl h r.items ks i) ∧ acc'.length + (tl h r.items ks i).length ≤ N)
  case atStart => exact ⟨0, acc, rfl, by omega, by omega, HJ1.out, by rw [tl_zero], by rw [← tl_zero]; exact hN⟩
  case round =>
    obtain ⟨i, acc', rfl, hil, hik, hJr, heq, hNr⟩ := hrel
    have HJr := Lib.hid hJr
    have HEQ := Lib.hid heq
    have N1 := Lib.hid (HA.out.node wr (HH.out.keep _ _ hJr))
    obtain ⟨d0, d1, c2, d3, fz⟩ := N1.out.own
    have hkl : ks[i]? = some (ks[i]'(by have := HKS.out; omega)) := List.getElem?_eq_getElem _
    have hnl : ns[i]? = some (ns[i]'(by have := HKS.out; have := HNL.out; omega)) := List.getElem?_eq_getElem _
    have hnsl : i < ns.length := (List.getElem?_eq_some_iff.1 hnl).1
    generalize ns[i]'(by have := HKS.out; have := HNL.out; omega) = m at *
    generalize ks[i]'(by have := HKS.out; omega) = k at *
    obtain ⟨kb, ko, hka, c3, g1, ck⟩ := node_child N1.out HKN.out hnl
    have HKL := Lib.hid hkl
    unfold ptr at *
    by_cases hlt : i < r.items.length
    · have hx : r.items[i]? = some r.items[i] := List.getElem?_eq_getElem hlt
      generalize r.items[i] = x at *
      have HTL := Lib.hid (tl_succ (h := h) hkl hx HKS.out)
      have hlen2 : Hid (acc'.length + (flat h k).length + 1 + (tl h r.items ks (i + 1)).length ≤ N) := by
        have := hNr; rw [HTL.out] at this; simp only [List.length_append, List.length_cons] at this; exact Lib.hid (by omega)
      have hcall := Lib.hid (HI.out i m k kb ko acc' wr hnl hkl hka HJr.out (by have := hlen2.out; omega))
      have HX := Lib.hid hx
      clear d0 d1 d3 hJr heq hkl hnl hka hx
      obtain ⟨⟨a1, yes⟩, hro⟩ : ∃ p, handOn go acc' (flat h k) = p := ⟨_, rfl⟩
      have HRO := Lib.hid hro
      rw [hro] at hcall
      clear hro
      go_wp2_with fail
      refine hcall.out.mono ?_
      rintro e w3 ⟨rfl, hJ3⟩
      have HJ3 := Lib.hid hJ3
      clear hJ3 hcall N1 c2 fz c3 g1 ck
      cases yes with
      | false =>
        go_wp2_with fail
        go_ret
        rw [HEQ.out, HTL.out, handOn_end HRO.out]
        exact ⟨rfl, HJ3.out⟩
      | true =>
        have N3 := Lib.hid (HA.out.node w3 (HH.out.keep _ _ HJ3.out))
        obtain ⟨d0, d1, c2, d3, fz⟩ := N3.out.own
        obtain ⟨ib, io, hia, ck⟩ := node_item N3.out HX.out
        rw [hia] at c2
        obtain ⟨ck, cv, cv2⟩ := ck
        have hcall := Lib.hid (HH.out.call a1 x w3.drew (HH.out.calm _ _ _ HJ3.out (Keep.drew _ _)) (by have := handOn_len HRO.out; have := hlen2.out; omega))
        clear d0 d1 d3 hia
        unfold kv vv at *
        simp only at HJ3 HRO
        go_wp2_with fail
        refine wp_calm (by kernel_rfl) (by kernel_rfl) rfl ?_
        simp only [List.flatMap_cons, List.flatMap_nil, checks, chk, nilLit, List.cons_append, List.nil_append, List.append_nil]
        go_wp2_with fail
        cases hg : go (a1 ++ [x]) with
        | true =>
          have HG := Lib.hid hg
          rw [hg] at hcall
          clear hg
          refine hcall.out.mono ?_
          rintro e w4 ⟨rfl, hJ4⟩
          have HJ4 := Lib.hid hJ4
          clear hJ4 hcall
          go_wp2_with fail
          rw [HQ_normal]
          go_wp2_with fail
          go_roundg (r.items.length - i)
          case measure => omega
          case rel => exact ⟨i + 1, a1 ++ [x], by go_num, by omega, by omega, HJ4.out, by rw [HEQ.out, HTL.out, handOn_on HRO.out, handOn_yes HG.out], by have := handOn_len HRO.out; have := hlen2.out; simp; omega⟩
        | false =>
          have HG := Lib.hid hg
          rw [hg] at hcall
          clear hg
          refine hcall.out.mono ?_
          rintro e w4 ⟨rfl, hJ4⟩
          have HJ4 := Lib.hid hJ4
          clear hJ4 hcall
          go_wp2_with fail
          rw [HQ_normal]
          go_wp2_with fail
          go_ret
          rw [HEQ.out, HTL.out, handOn_on HRO.out, handOn_no HG.out]
          exact ⟨rfl, HJ4.out⟩
    · have hi : i = r.items.length := by omega
      subst hi
      have hcall := Lib.hid (HI.out _ m k kb ko acc' wr.drew hnl hkl hka (HH.out.calm _ _ _ HJr.out (Keep.drew _ _)) (by have := hNr; rw [tl_last hkl HKS.out] at this; exact this))
      rw [HNL.out, HKS.out] at g1
      clear d0 d1 d3 hJr heq hkl hnl hka
      go_wp2_with fail
      refine wp_calm (by kernel_rfl) (by kernel_rfl) rfl ?_
      simp only [List.flatMap_cons, List.flatMap_nil, checks, chk, nilLit, List.cons_append, List.nil_append, List.append_nil]
      go_wp2_with fail
      refine hcall.out.mono ?_
      rintro e w3 ⟨rfl, hJ3⟩
      have HJ3 := Lib.hid hJ3
      clear hJ3 hcall
      go_wp2_with fail
      rw [HQ_normal]
      go_wp2_with fail
      go_ret
      rw [HEQ.out, tl_last HKL.out HKS.out]
      exact ⟨rfl, HJ3.out⟩

/-- THE SCAN below a node. -/
theorem scan_any {w0 : World} {b : Nat} {hr : HRec} {H : Store It} {L : Nat → Lay} {g : FuncId} {caps : Array Value} {go : List It → Bool} {J : List It → World → Prop} {S : Nat → Nat → Prop} {N : Nat} {mn mx : Nat}
    (HD : Hands g caps go J S w0 N) (A : StayAll w0 S b hr H L) (hmx : mx ≤ 1000000000000) : ∀ (h l n : Nat) (t : Tr It) (F : List Nat), Rep H hr.iso h n t F → wfr l mn mx h t → ∀ (pb po : Nat), (∀ W, Keep S w0 W → W.cell? ⟨pb, po, none⟩ = some (ptr n)) → ∀ (acc : List It) (w : World), J acc w → acc.length + (flat h t).length ≤ N →
    Calls Try.prog 239 #[ptr b, .pointer (some ⟨pb, po, none⟩), .func (.func g) #[] caps, .bool false] w (HandPost J (handOn go acc (flat h t)))
  | 0, l, n, t, F, hrp, wf, pb, po, hc, acc, w, hJ, hN => by
    obtain ⟨r, h1, h2, h3, h4, h5, h6, _⟩ := hrp
    obtain ⟨its, ks⟩ := t
    simp only [Tr.its, flat] at *
    subst h3
    exact scan_leaf HD ⟨A.hdr, hc, fun W k => A.node W k n r h1, h2, by have := wf.2.1; simp only [Tr.its] at this; omega⟩ h5 hJ hN
  | h + 1, l, n, t, F, hrp, wf, pb, po, hc, acc, w, hJ, hN => by
    obtain ⟨r, ns, F', h1, h2, h3, h4, h5, h6, _⟩ := hrp
    obtain ⟨w1, w2, w3, w4⟩ := wf
    obtain ⟨its, ks⟩ := t
    simp only [Tr.its, Tr.ks] at *
    subst h3
    refine scan_inner HD ⟨A.hdr, hc, fun W k => A.node W k n r h1, h2, by omega⟩ h4 w3 h6.len (fun i m k kb ko acc W hm1 hk hka hJ hN => ?_) hJ hN
    obtain ⟨G, hR⟩ := h6.get hm1 hk
    refine scan_any HD A hmx h mn m k G hR (w4 k (List.mem_of_getElem? hk)) kb (ko + i) (fun W' hk' => ?_) acc W hJ hN
    obtain ⟨kb', ko', hka', _, _, ck⟩ := node_child (A.node W' hk' n r h1) h4 hm1
    rw [hka] at hka'
    obtain ⟨rfl, rfl⟩ : kb = kb' ∧ ko = ko' := by simpa using hka'
    exact ck
end Go.Proofs.Ytfikahgofapobaa.T

namespace Go.Proofs.Ytfikahgofapobaa.T
open Go.RowKit Go.Wb

theorem take_rev {α : Type} {l : List α} {j : Nat} {x : α} (h : l[j]? = some x) : (l.take (j + 1)).reverse = x :: (l.take j).reverse := by
  rw [List.take_add_one, h]; simp
theorem lo_rev {h j : Nat} {its : List It} {ks : List (Tr It)} {k : Tr It} {x : It} (hk : ks[j]? = some k) (hx : its[j]? = some x) : (lo h its ks (j + 1)).reverse = x :: ((flat h k).reverse ++ (lo h its ks j).reverse) := by
  rw [lo_succ hk hx]; simp

set_option maxRecDepth 100000 in
set_option maxHeartbeats 8000000 in
theorem reverse_leaf {w0 w : World} {b : Nat} {hr : HRec} {pb po n : Nat} {g : FuncId} {caps : Array Value} {go : List It → Bool} {J : List It → World → Prop} {S : Nat → Nat → Prop} {N : Nat} {r : NRec It} {L : Lay}
    (HD : Hands g caps go J S w0 N) (A : Stays w0 S b hr pb po n r L) (hkn : r.kids = none) {acc : List It} (hJ : J acc w) (hN : acc.length + r.items.length ≤ N) :
    Calls Try.prog 234 #[ptr b, .pointer (some ⟨pb, po, none⟩), .func (.func g) #[] caps, .bool false] w (HandPost J (handOn go acc r.items.reverse)) := by
  have HH := Lib.hid HD
  have hcf := HD.enter
  have HA := Lib.hid A
  have HJ := Lib.hid hJ
  have hk0 := HD.keep _ _ hJ
  have hiso := Lib.hid (isoLoad_own (A.hdr w hk0) (A.cell w hk0) (A.node w hk0) A.iso false)
  have HKN := Lib.hid hkn
  have hlen := A.len
  clear HD A hJ hk0 hkn
  unfold ptr at *
  go_enter Try.func234, Try.ntmps234
  go_wp2_with fail
  refine hiso.out.mono ?_
  rintro e w1 ⟨rfl, kd, rfl⟩
  have HJ1 : Hid (J acc (w.drewN kd)) := by exact HH.out.calm _ _ _ HJ.out (Keep.drewN _ _ _)
  clear hiso HJ
  generalize w.drewN kd = w1 at *
  have N0 := HA.out.node w1 (HH.out.keep _ _ HJ1.out)
  have hlv := leaf_any N0
  obtain ⟨d0, d1, c2, d3, fz⟩ := N0.own
  rw [HKN.out] at hlv
  simp only [Option.isNone_none] at hlv
  clear d0 d1 d3 N0
  unfold ptr at *
  go_wp2_with fail
  refine hlv.mono ?_
  rintro e w2 ⟨rfl, rfl⟩
  clear hlv
  go_wp2_with fail
  clear c2 fz
  go_loopg [10] (r.items.length + 1) (fun k v10 wr => ∃ (i : Nat) (z : Int) (acc' : List It), v10 = .int .i64 z ∧ z + 1 = i ∧ i ≤ r.items.length ∧ i < k ∧ J acc' wr ∧ handOn go acc r.items.reverse = handOn go acc' (r.items.take i).reverse ∧ acc'.length + i ≤ N)
  case atStart => exact ⟨r.items.length, _, acc, rfl, by omega, by omega, by omega, HJ1.out, by rw [List.take_of_length_le (Nat.le_refl _)], hN⟩
  case round =>
    obtain ⟨i, z, acc', rfl, hzi, hil, hik, hJr, heq, hNr⟩ := hrel
    have HJr := Lib.hid hJr
    have HEQ := Lib.hid heq
    have N1 := Lib.hid (HA.out.node wr (HH.out.keep _ _ hJr))
    obtain ⟨d0, d1, c2, d3, fz⟩ := N1.out.own
    clear d0 d1 d3 hJr heq
    cases i with
    | succ j =>
      obtain rfl : z = (j : Int) := by omega
      have hlt : j < r.items.length := by omega
      have hx : r.items[j]? = some r.items[j] := List.getElem?_eq_getElem hlt
      generalize r.items[j] = x at *
      have HD := Lib.hid (take_rev hx)
      obtain ⟨ib, io, hia, ck⟩ := node_item N1.out hx
      rw [hia] at c2
      obtain ⟨ck, cv, cv2⟩ := ck
      have hcall := Lib.hid (HH.out.call acc' x wr.drew (HH.out.calm _ _ _ HJr.out (Keep.drew _ _)) (by omega))
      clear hx hia hzi
      unfold kv vv at *
      go_wp2_with fail
      refine wp_calm (by kernel_rfl) (by kernel_rfl) rfl ?_
      simp only [List.flatMap_cons, List.flatMap_nil, checks, chk, nilLit, List.cons_append, List.nil_append, List.append_nil]
      go_wp2_with fail
      cases hg : go (acc' ++ [x]) with
      | true =>
        have HG := Lib.hid hg
        rw [hg] at hcall
        clear hg
        refine hcall.out.mono ?_
        rintro e w3 ⟨rfl, hJ3⟩
        have HJ3 := Lib.hid hJ3
        clear hJ3 hcall
        go_wp2_with fail
        rw [HQ_normal]
        go_wp2_with fail
        go_roundg (j + 1)
        case measure => omega
        case rel => exact ⟨j, _, acc' ++ [x], rfl, by omega, by omega, by omega, HJ3.out, by rw [HEQ.out, HD.out, handOn_yes HG.out], by simp; omega⟩
      | false =>
        have HG := Lib.hid hg
        rw [hg] at hcall
        clear hg
        refine hcall.out.mono ?_
        rintro e w3 ⟨rfl, hJ3⟩
        have HJ3 := Lib.hid hJ3
        clear hJ3 hcall
        go_wp2_with fail
        rw [HQ_normal]
        go_wp2_with fail
        go_ret
        rw [HEQ.out, HD.out, handOn_no HG.out]
        exact ⟨rfl, HJ3.out⟩
    | zero =>
      obtain rfl : z = -1 := by omega
      go_wp2_with fail
      go_ret
      rw [HEQ.out]
      exact ⟨rfl, HJr.out⟩

set_option maxRecDepth 100000 in
set_option maxHeartbeats 8000000 in
theorem reverse_inner {w0 w : World} {b : Nat} {hr : HRec} {pb po n h : Nat} {g : FuncId} {caps : Array Value} {go : List It → Bool} {J : List It → World → Prop} {S : Nat → Nat → Prop} {N : Nat} {r : NRec It} {L : Lay}
    (HD : Hands g caps go J S w0 N) (A : Stays w0 S b hr pb po n r L) {ns : List Nat} (hkn : r.kids = some ns) {ks : List (Tr It)} (hks : ks.length = r.items.length + 1) (hnl : ns.length = ks.length)
    (IH : ∀ (i m : Nat) (k : Tr It) (kb ko : Nat) (acc : List It) (W : World), ns[i]? = some m → ks[i]? = some k → L.ka = some ⟨kb, ko, none⟩ → J acc W → acc.length + (flat h k).length ≤ N →
      Calls Try.prog 234 #[ptr b, .pointer (some ⟨kb, ko + i, none⟩), .func (.func g) #[] caps, .bool false] W (HandPost J (handOn go acc (flat h k).reverse)))
    {acc : List It} (hJ : J acc w) (hN : acc.length + (flat (h + 1) (.node r.items ks)).length ≤ N) :
    Calls Try.prog 234 #[ptr b, .pointer (some ⟨pb, po, none⟩), .func (.func g) #[] caps, .bool false] w (HandPost J (handOn go acc (flat (h + 1) (.node r.items ks)).reverse)) := by
  have HH := Lib.hid HD
  have hcf := HD.enter
  have HA := Lib.hid A
  have HJ := Lib.hid hJ
  have HI := Lib.hid IH
  have hk0 := HD.keep _ _ hJ
  have hiso := Lib.hid (isoLoad_own (A.hdr w hk0) (A.cell w hk0) (A.node w hk0) A.iso false)
  have HKN := Lib.hid hkn
  have HKS := Lib.hid hks
  have HNL := Lib.hid hnl
  have hlen := A.len
  clear HD A hJ hk0 hkn IH hks hnl
  unfold ptr at *
  go_enter Try.func234, Try.ntmps234
  go_wp2_with fail
  refine hiso.out.mono ?_
  rintro e w1 ⟨rfl, kd, rfl⟩
  have HJ1 : Hid (J acc (w.drewN kd)) := by exact HH.out.calm _ _ _ HJ.out (Keep.drewN _ _ _)
  clear hiso HJ
  generalize w.drewN kd = w1 at *
  have N0 := Lib.hid (HA.out.node w1 (HH.out.keep _ _ HJ1.out))
  have hlv := leaf_any N0.out
  rw [HKN.out] at hlv
  simp only [Option.isNone_some] at hlv
  unfold ptr at *
  go_wp2_with fail
  refine hlv.mono ?_
  rintro e w2 ⟨rfl, rfl⟩
  clear hlv
  -- the last child
  obtain ⟨q, hq⟩ : ∃ q, r.items.length = q := ⟨_, rfl⟩
  have HQ := Lib.hid hq
  have hkl : ks[q]? = some (ks[q]'(by have := HKS.out; omega)) := List.getElem?_eq_getElem _
  have hnl : ns[q]? = some (ns[q]'(by have := HKS.out; have := HNL.out; omega)) := List.getElem?_eq_getElem _
  generalize ns[q]'(by have := HKS.out; have := HNL.out; omega) = m at *
  generalize ks[q]'(by have := HKS.out; omega) = k at *
  obtain ⟨kb, ko, hka, c3, g1, ck⟩ := node_child N0.out HKN.out hnl
  have HLAST : Hid (flat (h + 1) (.node r.items ks) = lo h r.items ks q ++ flat h k) := by subst hq; exact lo_last HKS.out hkl
  have HLL : Hid (acc.length + (lo h r.items ks q).length + (flat h k).length ≤ N) := by
    have := hN; rw [HLAST.out] at this; simp only [List.length_append] at this; exact Lib.hid (by omega)
  have hcall := Lib.hid (HI.out _ m k kb ko acc w1.drew hnl hkl hka (HH.out.calm _ _ _ HJ1.out (Keep.drew _ _)) (by have := HLL.out; omega))
  clear hN
  rw [HNL.out, HKS.out, HQ.out] at g1
  obtain ⟨⟨a1, yes⟩, hro⟩ : ∃ p, handOn go acc (flat h k).reverse = p := ⟨_, rfl⟩
  have HRO := Lib.hid hro
  rw [hro] at hcall
  have hlq : q ≤ 1000000000000 := by omega
  clear hro hkl hnl hka hq
  unfold ptr at *
  go_wp2_with fail
  refine wp_calm (by kernel_rfl) (by kernel_rfl) rfl ?_
  simp only [List.flatMap_cons, List.flatMap_nil, checks, chk, nilLit, List.cons_append, List.nil_append, List.append_nil]
  go_wp2_with fail
  refine hcall.out.mono ?_
  rintro e w3 ⟨rfl, hJ3⟩
  have HJ3 := Lib.hid hJ3
  clear hJ3 hcall c3 g1 ck N0 HJ1
  cases yes with
  | false =>
    go_wp2_with fail
    rw [HQ_normal]
    go_wp2_with fail
    go_ret
    rw [HLAST.out, List.reverse_append, handOn_end HRO.out]
    exact ⟨rfl, HJ3.out⟩
  | true =>
    simp only at HJ3 HRO
    have N3 := HA.out.node w3 (HH.out.keep _ _ HJ3.out)
    obtain ⟨d0, d1, c2, d3, fz⟩ := N3.own
    rw [HQ.out] at c2
    clear d0 d1 d3 N3
    go_wp2_with fail
    rw [HQ_normal]
    go_wp2_with fail
    clear c2 fz
    go_loopg [11] (q + 1) (fun c v11 wr => ∃ (i : Nat) (z : Int) (acc' : List It), v11 = .int .i64 z ∧ z + 1 = i ∧ i ≤ q ∧ i < c ∧ J acc' wr ∧ handOn go acc (flat (h + 1) (.node r.items ks)).reverse = handOn go acc' (lo h r.items ks i).reverse ∧ acc'.length + (lo h r.items ks i).length ≤ N)
    case atStart => exact ⟨q, _, a1, rfl, by omega, by omega, by omega, HJ3.out, by rw [HLAST.out, List.reverse_append, handOn_on HRO.out], by have := handOn_len HRO.out; have := HLL.out; simp at *; omega⟩
    case round =>
      obtain ⟨i, z, acc', rfl, hzi, hil, hik, hJr, heq, hNr⟩ := hrel
      have HJr := Lib.hid hJr
      have HEQ := Lib.hid heq
      have N1 := Lib.hid (HA.out.node wr (HH.out.keep _ _ hJr))
      obtain ⟨d0, d1, c2, d3, fz⟩ := N1.out.own
      rw [HQ.out] at c2
      clear d0 d1 d3 hJr heq
      cases i with
      | succ j =>
        obtain rfl : z = (j : Int) := by omega
        have hlt : j < r.items.length := by have := HQ.out; omega
        have hkl : ks[j]? = some (ks[j]'(by have := HKS.out; omega)) := List.getElem?_eq_getElem _
        have hnl : ns[j]? = some (ns[j]'(by have := HKS.out; have := HNL.out; omega)) := List.getElem?_eq_getElem _
        have hnsl : j < ns.length := (List.getElem?_eq_some_iff.1 hnl).1
        have hx : r.items[j]? = some r.items[j] := List.getElem?_eq_getElem hlt
        generalize ns[j]'(by have := HKS.out; have := HNL.out; omega) = m2 at *
        generalize ks[j]'(by have := HKS.out; omega) = k2 at *
        generalize r.items[j] = x at *
        have HD := Lib.hid (lo_rev (h := h) hkl hx)
        have HLR : Hid (acc'.length + 1 + (flat h k2).length + (lo h r.items ks j).length ≤ N) := by
          have := hNr; rw [lo_succ hkl hx] at this; simp only [List.length_append, List.length_cons, List.length_nil] at this; exact Lib.hid (by omega)
        clear hNr
        have HKL := Lib.hid hkl
        have HNN := Lib.hid hnl
        obtain ⟨ib, io, hia, ck⟩ := node_item N1.out hx
        rw [hia] at c2
        obtain ⟨ck, cv, cv2⟩ := ck
        have hcall := Lib.hid (HH.out.call acc' x wr.drew (HH.out.calm _ _ _ HJr.out (Keep.drew _ _)) (by have := HLR.out; omega))
        clear hx hia hzi hkl hnl hlt
        unfold kv vv at *
        go_wp2_with fail
        refine wp_calm (by kernel_rfl) (by kernel_rfl) rfl ?_
        simp only [List.flatMap_cons, List.flatMap_nil, checks, chk, nilLit, List.cons_append, List.nil_append, List.append_nil]
        go_wp2_with fail
        cases hg : go (acc' ++ [x]) with
        | false =>
          have HG := Lib.hid hg
          rw [hg] at hcall
          clear hg
          refine hcall.out.mono ?_
          rintro e w4 ⟨rfl, hJ4⟩
          have HJ4 := Lib.hid hJ4
          clear hJ4 hcall
          go_wp2_with fail
          rw [HQ_normal]
          go_wp2_with fail
          go_ret
          rw [HEQ.out, HD.out, handOn_no HG.out]
          exact ⟨rfl, HJ4.out⟩
        | true =>
          have HG := Lib.hid hg
          rw [hg] at hcall
          clear hg
          refine hcall.out.mono ?_
          rintro e w4 ⟨rfl, hJ4⟩
          have HJ4 := Lib.hid hJ4
          clear hJ4 hcall N1 c2 fz ck cv
          clear cv2
          have N4 := Lib.hid (HA.out.node w4 (HH.out.keep _ _ HJ4.out))
          obtain ⟨kb, ko, hka, c3, g1, ck⟩ := node_child N4.out HKN.out HNN.out
          have hcall := Lib.hid (HI.out _ m2 k2 kb ko (acc' ++ [x]) w4 HNN.out HKL.out hka HJ4.out (by have := HLR.out; simp; omega))
          obtain ⟨⟨a3, yes⟩, hro⟩ : ∃ p, handOn go (acc' ++ [x]) (flat h k2).reverse = p := ⟨_, rfl⟩
          have HRO2 := Lib.hid hro
          rw [hro] at hcall
          clear hro hka
          unfold ptr at *
          go_wp2_with fail
          rw [HQ_normal]
          go_wp2_with fail
          refine hcall.out.mono ?_
          rintro e w5 ⟨rfl, hJ5⟩
          have HJ5 := Lib.hid hJ5
          clear hJ5 hcall c3 g1 ck
          cases yes with
          | false =>
            go_wp2_with fail
            go_ret
            rw [HEQ.out, HD.out, handOn_yes HG.out, handOn_end HRO2.out]
            exact ⟨rfl, HJ5.out⟩
          | true =>
            simp only at HJ5 HRO2
            go_wp2_with fail
            go_roundg (j + 1)
            case measure => omega
            case rel => exact ⟨j, _, a3, rfl, by omega, by omega, by omega, HJ5.out, by rw [HEQ.out, HD.out, handOn_yes HG.out, handOn_on HRO2.out], by have := handOn_len HRO2.out; have := HLR.out; simp at *; omega⟩
      | zero =>
        obtain rfl : z = -1 := by omega
        go_wp2_with fail
        go_ret
        rw [HEQ.out, lo_zero]
        exact ⟨rfl, HJr.out⟩

/-- IN REVERSE below a node. -/
theorem reverse_any {w0 : World} {b : Nat} {hr : HRec} {H : Store It} {L : Nat → Lay} {g : FuncId} {caps : Array Value} {go : List It → Bool} {J : List It → World → Prop} {S : Nat → Nat → Prop} {N : Nat} {mn mx : Nat}
    (HD : Hands g caps go J S w0 N) (A : StayAll w0 S b hr H L) (hmx : mx ≤ 1000000000000) : ∀ (h l n : Nat) (t : Tr It) (F : List Nat), Rep H hr.iso h n t F → wfr l mn mx h t → ∀ (pb po : Nat), (∀ W, Keep S w0 W → W.cell? ⟨pb, po, none⟩ = some (ptr n)) → ∀ (acc : List It) (w : World), J acc w → acc.length + (flat h t).length ≤ N →
    Calls Try.prog 234 #[ptr b, .pointer (some ⟨pb, po, none⟩), .func (.func g) #[] caps, .bool false] w (HandPost J (handOn go acc (flat h t).reverse))
  | 0, l, n, t, F, hrp, wf, pb, po, hc, acc, w, hJ, hN => by
    obtain ⟨r, h1, h2, h3, h4, h5, h6, _⟩ := hrp
    obtain ⟨its, ks⟩ := t
    simp only [Tr.its, flat] at *
    subst h3
    exact reverse_leaf HD ⟨A.hdr, hc, fun W k => A.node W k n r h1, h2, by have := wf.2.1; simp only [Tr.its] at this; omega⟩ h5 hJ hN
  | h + 1, l, n, t, F, hrp, wf, pb, po, hc, acc, w, hJ, hN => by
    obtain ⟨r, ns, F', h1, h2, h3, h4, h5, h6, _⟩ := hrp
    obtain ⟨w1, w2, w3, w4⟩ := wf
    obtain ⟨its, ks⟩ := t
    simp only [Tr.its, Tr.ks] at *
    subst h3
    refine reverse_inner HD ⟨A.hdr, hc, fun W k => A.node W k n r h1, h2, by omega⟩ h4 w3 h6.len (fun i m k kb ko acc W hm1 hk hka hJ hN => ?_) hJ hN
    obtain ⟨G, hR⟩ := h6.get hm1 hk
    refine reverse_any HD A hmx h mn m k G hR (w4 k (List.mem_of_getElem? hk)) kb (ko + i) (fun W' hk' => ?_) acc W hJ hN
    obtain ⟨kb', ko', hka', _, _, ck⟩ := node_child (A.node W' hk' n r h1) h4 hm1
    rw [hka] at hka'
    obtain ⟨rfl, rfl⟩ : kb = kb' ∧ ko = ko' := by simpa using hka'
    exact ck
end Go.Proofs.Ytfikahgofapobaa.T

namespace Go.Proofs.Ytfikahgofapobaa.T
open Go.RowKit Go.Wb

/-- The items from a key on; those up to it. -/
def fromK (p : Ky) (l : List It) : List It := l.filter fun x => !klt (ky x) p
def uptoK (p : Ky) (l : List It) : List It := l.filter fun x => !klt p (ky x)

theorem fromK_append (p : Ky) (l m : List It) : fromK p (l ++ m) = fromK p l ++ fromK p m := List.filter_append ..
theorem uptoK_append (p : Ky) (l m : List It) : uptoK p (l ++ m) = uptoK p l ++ uptoK p m := List.filter_append ..
theorem fromK_less {p : Ky} {l : List It} (h : ∀ a ∈ l, klt (ky a) p = true) : fromK p l = [] := List.filter_eq_nil_iff.2 fun a ha => by simp [h a ha]
theorem fromK_more {p : Ky} {l : List It} (h : ∀ a ∈ l, klt (ky a) p = false) : fromK p l = l := List.filter_eq_self.2 fun a ha => by simp [h a ha]
theorem uptoK_less {p : Ky} {l : List It} (h : ∀ a ∈ l, klt p (ky a) = false) : uptoK p l = l := List.filter_eq_self.2 fun a ha => by simp [h a ha]
theorem uptoK_more {p : Ky} {l : List It} (h : ∀ a ∈ l, klt p (ky a) = true) : uptoK p l = [] := List.filter_eq_nil_iff.2 fun a ha => by simp [h a ha]

/-- A sorted list parted at a key that is not there. -/
theorem part_none {p : Ky} {A B : List It} (hA : ∀ a ∈ A, klt (ky a) p = true) (hB : ∀ b ∈ B, klt p (ky b) = true) (M : List It) : fromK p (A ++ M ++ B) = fromK p M ++ B ∧ uptoK p (A ++ M ++ B) = A ++ uptoK p M := by
  rw [fromK_append, fromK_append, uptoK_append, uptoK_append, fromK_less hA, fromK_more (l := B) fun b hb => kord.asymm (hB b hb), uptoK_less (l := A) fun a ha => kord.asymm (hA a ha), uptoK_more hB]
  simp
/-- At one that is. -/
theorem part_found {p : Ky} {A B : List It} {y : It} (h1 : klt (ky y) p = false) (h2 : klt p (ky y) = false) (hs : Sorted ilt (A ++ y :: B)) : fromK p (A ++ y :: B) = y :: B ∧ uptoK p (A ++ y :: B) = A ++ [y] := by
  obtain ⟨_, hB, hAB⟩ := Sorted.of_append hs
  have hA : ∀ a ∈ A, klt (ky a) p = true := fun a ha => klt_of_eq h1 h2 (hAB a ha y (by simp))
  have hB : ∀ b ∈ B, klt p (ky b) = true := fun b hb => klt_of_eq' h1 h2 ((List.pairwise_cons.1 hB).1 b hb)
  have hyB : fromK p (y :: B) = y :: B := fromK_more fun b hb => by
    rcases List.mem_cons.1 hb with rfl | hb
    · exact h1
    · exact kord.asymm (hB b hb)
  have hyB2 : uptoK p (y :: B) = [y] := by
    rw [show y :: B = [y] ++ B from rfl, uptoK_append, uptoK_more hB, uptoK_less (l := [y]) fun b hb => by rw [List.mem_singleton.1 hb]; exact h2]
    simp
  rw [fromK_append, uptoK_append, fromK_less hA, uptoK_less (l := A) fun a ha => kord.asymm (hA a ha), hyB, hyB2]
  simp

theorem leaf_from {p : Ky} {its : List It} {i : Nat} {f : Bool} (hs : Sorted ilt its) (hl : Loc its p i f) : fromK p its = its.drop i := by
  cases f with
  | false =>
    obtain ⟨hA, hB⟩ := loc_none hl
    have := (part_none hA hB []).1
    rw [List.append_nil, List.take_append_drop] at this
    simpa [fromK] using this
  | true =>
    obtain ⟨A, y, B, e, hA, hy, h1, h2, _, _⟩ := loc_found hs hl
    subst e
    rw [(part_found h1 h2 hs).1, ← hA]
    simp
theorem leaf_upto {p : Ky} {its : List It} {i : Nat} {f : Bool} (hs : Sorted ilt its) (hl : Loc its p i f) : uptoK p its = its.take (if f then i + 1 else i) := by
  cases f with
  | false =>
    obtain ⟨hA, hB⟩ := loc_none hl
    have := (part_none hA hB []).2
    rw [List.append_nil, List.take_append_drop] at this
    simpa [uptoK] using this
  | true =>
    obtain ⟨A, y, B, e, hA, hy, h1, h2, _, _⟩ := loc_found hs hl
    subst e
    rw [(part_found h1 h2 hs).2, ← hA, if_pos rfl, show A ++ y :: B = (A ++ [y]) ++ B by simp, List.take_left' (by simp)]

/-- Below an inner node. -/
theorem inner_none {h i : Nat} {p : Ky} {its : List It} {ks : List (Tr It)} {k : Tr It} (hs : Sorted ilt (flat (h + 1) (.node its ks))) (hl : ks.length = its.length + 1) (hloc : Loc its p i false) (hk : ks[i]? = some k) :
    fromK p (flat (h + 1) (.node its ks)) = fromK p (flat h k) ++ hi h its ks i ∧ uptoK p (flat (h + 1) (.node its ks)) = lo h its ks i ++ uptoK p (flat h k) ∧ Sorted ilt (flat h k) := by
  obtain ⟨lA, lB⟩ := loc_none hloc
  have hil := hloc.1
  rw [flat_at hl hil hk] at hs ⊢
  have hA := mem_wl_lt (x := itOf p) iord ((ks.map (flat h)).take i) (its.take i) (by simp; omega) hs.left lA
  have hB := mem_wr_lt (x := itOf p) iord (its.drop i) ((ks.map (flat h)).drop (i + 1)) (by simp; omega) hs.right lB
  exact ⟨(part_none hA hB _).1, (part_none hA hB _).2, hs.mid⟩
theorem inner_found {h i : Nat} {p : Ky} {its : List It} {ks : List (Tr It)} (hs : Sorted ilt (flat (h + 1) (.node its ks))) (hso : Sorted ilt its) (hl : ks.length = its.length + 1) (hloc : Loc its p i true) :
    fromK p (flat (h + 1) (.node its ks)) = hi h its ks i ∧ uptoK p (flat (h + 1) (.node its ks)) = lo h its ks (i + 1) := by
  obtain ⟨A, y, B, e, hA, hy, h1, h2, _, _⟩ := loc_found hso hloc
  have hil : i < its.length := (List.getElem?_eq_some_iff.1 hy).1
  have hk1 : ks[i]? = some ks[i] := List.getElem?_eq_getElem (by omega)
  have hk2 : ks[i + 1]? = some ks[i + 1] := List.getElem?_eq_getElem (by omega)
  have e2 : flat (h + 1) (.node its ks) = (lo h its ks i ++ flat h ks[i]) ++ y :: (flat h ks[i + 1] ++ hi h its ks (i + 1)) := by
    rw [flat_at hl (by omega) hk1, hi_succ hk2 hy]
  rw [e2] at hs ⊢
  obtain ⟨q1, q2⟩ := part_found h1 h2 hs
  exact ⟨by rw [q1, hi_succ hk2 hy], by rw [q2, lo_succ hk1 hy]⟩
end Go.Proofs.Ytfikahgofapobaa.T

namespace Go.Proofs.Ytfikahgofapobaa.T
open Go.RowKit Go.Wb

-- equal lists
set_option maxRecDepth 100000 in
set_option maxHeartbeats 2000000 in
theorem equalT_any {w : World} {a c : Option Addr} {acap ccap : Nat} {l : List Ky} (h1 : Given w a (l.map kv)) (h2 : Given w c (l.map kv)) (hl : l.length ≤ 4000000000000) :
    Calls Try.prog 27 #[.slice a l.length acap, .slice c l.length ccap] w fun e w' => e = .returned (.bool true) ∧ Keep Nothing w w' := by
  have H1 := Lib.hid h1
  have H2 := Lib.hid h2
  clear h1 h2
  go_enter Try.func27, Try.ntmps27
  go_wp2_with fail
  go_loopg [13] (l.length + 1) (fun k v13 wr => ∃ i : Nat, v13 = .int .i64 i ∧ i ≤ l.length ∧ i + k = l.length + 1 ∧ Keep Nothing w wr)
  case atStart => exact ⟨0, rfl, by omega, by omega, Keep.refl _ _⟩
  case round =>
    obtain ⟨i, rfl, hil, hik, hK⟩ := hrel
    have HK := Lib.hid hK
    clear hK
    by_cases hlt : i < l.length
    · obtain ⟨t, ht⟩ : ∃ t, l[i] = t := ⟨_, rfl⟩
      obtain ⟨b1, o1, ha, x0⟩ := (H1.out.keep HK.out).cell (i := i) (by simpa using hlt)
      obtain ⟨b2, o2, hc, y0⟩ := (H2.out.keep HK.out).cell (i := i) (by simpa using hlt)
      subst ha
      subst hc
      rw [show (l.map kv)[i]'(by simpa using hlt) = kv t by simp [ht]] at x0 y0
      clear ht
      unfold kv at *
      go_wp2_with fail
      go_quiet (fail)
      go_wp2_with fail
      go_roundg (l.length - i)
      case measure => omega
      case rel => exact ⟨i + 1, by go_num, by omega, by omega, HK.out.drN _⟩
    · have hi : i = l.length := by omega
      subst hi
      go_wp2_with fail
      go_ret
      exact ⟨rfl, HK.out⟩

/-- The keys as words. -/
theorem sortW_named (l : List ByteArray) : W.sortK (l.map W.nameK) = (sortK l).map W.nameK :=
  foldl_put_map (lt := ilt) (lt' := W.ilt) W.nameK (fun _ _ => rfl) l []
theorem uptoW_named (p : ByteArray) (l : List ByteArray) : W.uptoK p (l.map W.nameK) = (uptoK p l).map W.nameK := by
  unfold W.uptoK uptoK
  rw [List.filter_map]
  rfl
theorem fromW_named (p : ByteArray) (l : List ByteArray) : W.fromK p (l.map W.nameK) = (fromK p l).map W.nameK := by
  unfold W.fromK fromK
  rw [List.filter_map]
  rfl
theorem firstN_map {α β : Type} (f : α → β) (n : Int) (l : List α) : firstN n (l.map f) = (firstN n l).map f := by
  unfold firstN; split <;> simp [List.map_take]
theorem keys_named (l : List ByteArray) : (l.map W.nameK).map W.ky = l := by
  rw [List.map_map]
  exact List.map_id'' (fun _ => rfl) l
theorem all_map (l : List ByteArray) : E.all l = l.map kv := by
  unfold Enc.all; induction l with
  | nil => rfl
  | cons y l ih => simp only [List.flatMap_cons, List.map_cons, ih]; rfl
end Go.Proofs.Ytfikahgofapobaa.T

namespace Go.Proofs.Ytfikahgofapobaa.T
open Go.RowKit Go.Wb

set_option maxHeartbeats 1000000 in
theorem setContains_any {w : World} {b : Nat} {hr : HRec} {H : Store It} {L : Nat → Lay} {F : List Nat} {mn mx : Nat} {s : Sh} (T : TreeAt w b hr H L F mn mx s) (k : Ky) :
    Calls Try.prog 69 #[ptr b, kv k] w fun e w' => e = .returned (.bool (findK (its s) k).isSome) ∧ Keep Nothing w w' := by
  have hg := Lib.hid (mapGet_any T k)
  clear T
  generalize findK (its s) k = p at *
  unfold ptr kv at *
  go_enter Try.func69, Try.ntmps69
  go_wp2_with fail
  refine hg.out.mono ?_
  rintro e w' ⟨rfl, hk⟩
  unfold vv
  go_wp2_with fail
  go_ret
  exact ⟨rfl, hk.al _⟩

theorem elemBool : Elem Try.prog 4 1 1 := ⟨by kernel_rfl, by kernel_rfl, by kernel_rfl⟩
def NewBools (w : World) (xs : List Bool) (e : Ending) (w' : World) : Prop := ∃ a cap, e = .returned (.slice a xs.length cap) ∧ Given w' a (xs.map .bool) ∧ Keep Nothing w w'

set_option maxRecDepth 100000 in
set_option maxHeartbeats 4000000 in
theorem tcontains_any {w : World} {a : Option Addr} {cap : Nat} {l : List ByteArray} (hg : Given w a (l.map .string)) (hl : l.length ≤ 4000000000000) {c : Option Addr} {ccap : Nat} {ks : List ByteArray} (hk : Given w c (ks.map .string)) (hkl : ks.length ≤ 4000000000000) :
    Calls Try.prog 16 #[.slice a l.length cap, .slice c ks.length ccap] w (NewBools w (ks.map fun k => (findK (sortK l) k).isSome)) := by
  have hgr := Lib.hid (grow_any (cap := cap) (hg : Given w a (l.map fun x => kv (ky x))) hl)
  have HKS := Lib.hid hk
  have HKL := Lib.hid hkl
  clear hg hk hkl
  go_enter Try.func16, Try.ntmps16
  go_wp2_with fail
  refine hgr.out.mono ?_
  rintro e w1 ⟨b, hr, H, L, F, s, rfl, hN, hits⟩
  have HN := Lib.hid hN
  have HI := Lib.hid hits
  clear hgr hN hits
  unfold ptr
  go_wp2_with fail
  go_loopg [6, 13] (ks.length + 1) (fun m v6 v13 wr => ∃ (i : Nat) (a1 : Option Addr) (cap1 : Nat), v13 = .int .i64 i ∧ v6 = .slice a1 i cap1 ∧ i ≤ ks.length ∧ i + m = ks.length + 1 ∧ Keep Nothing w1 wr ∧ Acc w1.heap.size wr 4 1 a1 i cap1 ((ks.take i).map fun k => .bool (findK (its s) k).isSome))
  case atStart => exact ⟨0, none, 0, rfl, rfl, by omega, by omega, Keep.refl _ _, Acc.nil _ _ _ _⟩
  case round =>
    obtain ⟨i, a1, cap1, rfl, rfl, hil, hik, hK, hA⟩ := hrel
    have HK := Lib.hid hK
    have HA := Lib.hid hA
    clear hK hA
    by_cases hlt : i < ks.length
    · obtain ⟨kb, ko, hka, ck⟩ := ((HKS.out.keep HN.out.keep).keep HK.out).cell (i := i) (by simpa using hlt)
      subst hka
      obtain ⟨t, ht⟩ : ∃ t, ks[i] = t := ⟨_, rfl⟩
      rw [show (ks.map Value.string)[i]'(by simpa using hlt) = .string t by simp [ht]] at ck
      have hx : ks[i]? = some t := by rw [← ht]; exact List.getElem?_eq_getElem hlt
      have HX := Lib.hid hx
      have hco := Lib.hid (setContains_any (HN.out.tree.keep HK.out) t)
      have hww := HK.out.size
      have hkl := HKL.out
      clear ht hx
      unfold ptr kv at hco
      go_wp2_with fail
      refine hco.out.mono ?_
      rintro e w2 ⟨rfl, hK2⟩
      have HK2 : Hid (Keep Nothing w1 w2) := by exact HK.out.trans hK2 fun _ _ _ h => h
      have HA2 := Lib.hid (HA.out.calm hK2 fun _ _ _ h => h)
      have hww2 := HK2.out.size
      clear hco hK2 HK HA ck
      go_wp2_with (at_builtin; refine wpList_append_any rfl _ _ _ rfl 4 1 1 Try.underlying24 elemBool a1 i cap1 _ rfl (HA2.out.quiet (Keep.alloc _ _ _)).row HA2.out.len ⟨w2.heap.size, 0, none⟩ 1 1 [.bool (findK (its s) t).isSome] rfl rfl (new_cells (heap_alloc_new w2 _)) (by intro u hu; rw [List.mem_singleton.1 hu]; rfl) (by omega) HA2.out.le (by simp only [maxLen]; omega) (by omega) ?_; intro a3 cap3 w3 hg)
      obtain ⟨hA3, hK3⟩ := (HA2.out.quiet (Keep.alloc _ _ _)).grow (by simp; omega) hg rfl
      have HA3 := Lib.hid hA3
      have HK3 : Hid (Keep Nothing w1 w3) := by exact (HK2.out.al _).trans hK3 fun x o hx h => absurd h (by omega)
      clear hg hA3 hK3
      go_wp2_with fail
      go_roundg (ks.length - i)
      case measure => omega
      case rel =>
        refine ⟨i + 1, a3, cap3, by go_num, rfl, by omega, by omega, HK3.out, ?_⟩
        have e : ((ks.take (i + 1)).map fun k => Value.bool (findK (its s) k).isSome) = ((ks.take i).map fun k => Value.bool (findK (its s) k).isSome) ++ [Value.bool (findK (its s) t).isSome] := by
          rw [List.take_add_one, HX.out]; simp
        rw [e]
        exact HA3.out
    · have hi : i = ks.length := by omega
      subst hi
      rw [List.take_of_length_le (Nat.le_refl _)] at HA
      go_wp2_with fail
      go_ret
      refine ⟨a1, cap1, by simp, ?_, HN.out.keep.trans HK.out fun _ _ _ h => h⟩
      have := HA.out.row.reads
      rw [HI.out] at this
      simp only [List.map_map]
      exact this

theorem find_has {l : List ByteArray} {k : ByteArray} (hs : ∀ v, v ∈ l → hasB (sortK l) v = true) (hf : ∀ v, v ∈ sortK l → hasB l v = true) : (findK (sortK l) k).isSome = hasB l k := by
  have key : (findK (sortK l) k).isSome = hasB (sortK l) k := by
    unfold findK hasB
    rw [Bool.eq_iff_iff, List.find?_isSome, List.any_eq_true]
    constructor
    · rintro ⟨x, h1, h2⟩
      simp only [Bool.and_eq_true, Bool.not_eq_true'] at h2
      refine ⟨x, h1, ?_⟩
      rw [beq_iff_eq]
      exact bytesLess_tri _ _ h2.2 h2.1
    · rintro ⟨x, h1, h2⟩
      refine ⟨x, h1, ?_⟩
      rw [beq_iff_eq] at h2
      simp only [Bool.and_eq_true, Bool.not_eq_true']
      unfold klt
      simp only [ky]
      rw [h2]
      exact ⟨bytesLess_irr _, bytesLess_irr _⟩
  rw [key]
  rw [Bool.eq_iff_iff]
  have tr : ∀ (p q : List ByteArray), (∀ v, v ∈ p → hasB q v = true) → hasB p k = true → hasB q k = true := fun p q h h1 => by
    obtain ⟨x, h2, h3⟩ := List.any_eq_true.1 h1
    obtain ⟨y, h4, h5⟩ := List.any_eq_true.1 (h x h2)
    rw [beq_iff_eq] at h3 h5
    exact hasB_of h4 (h3.trans h5)
  exact ⟨tr _ _ hf, tr _ _ hs⟩

set_option maxRecDepth 100000 in
theorem exactTContains_small {w : World} {a : Option Addr} {cap : Nat} {l : List ByteArray} (hg : Given w a (l.map .string)) (hl : l.length ≤ maxLen) {c : Option Addr} {ccap : Nat} {ks : List ByteArray} (hk : Given w c (ks.map .string)) (hkl : ks.length ≤ maxLen) (h : fitsB l = false ∨ fitsB ks = false) :
    Calls Try.prog 3 #[.slice a l.length cap, .slice c ks.length ccap] w (TruePost w) := by
  have hf := Lib.hid (fits13_any (cap := cap) hg hl)
  have hf2 := Lib.hid (fits13_any (cap := ccap) hk hkl)
  clear hg hk
  by_cases hb : fitsB l = false
  · rw [hb] at hf
    clear hb h
    go_enter Try.func3, Try.ntmps3
    go_wp2_with fail
    refine hf.out.mono ?_
    rintro e w1 ⟨rfl, rfl⟩
    go_wp2_with fail
    go_ret
    exact ⟨rfl, Keep.refl _ _⟩
  · have hkb := h.resolve_left hb
    have hb' : fitsB l = true := by simpa using hb
    rw [hb'] at hf
    rw [hkb] at hf2
    clear hb h hb' hkb
    go_enter Try.func3, Try.ntmps3
    go_wp2_with fail
    refine hf.out.mono ?_
    rintro e w1 ⟨rfl, rfl⟩
    go_wp2_with fail
    refine hf2.out.mono ?_
    rintro e w1 ⟨rfl, rfl⟩
    go_wp2_with fail
    go_ret
    exact ⟨rfl, Keep.refl _ _⟩

set_option maxRecDepth 100000 in
set_option maxHeartbeats 8000000 in
theorem exactTContains_main {w : World} {a : Option Addr} {cap : Nat} {l : List ByteArray} (hg : Given w a (l.map .string)) (hl : l.length ≤ maxLen) {c : Option Addr} {ccap : Nat} {ks : List ByteArray} (hk : Given w c (ks.map .string)) (hkl : ks.length ≤ maxLen) (h : fitsB l = true) (h2 : fitsB ks = true) :
    Calls Try.prog 3 #[.slice a l.length cap, .slice c ks.length ccap] w (TruePost w) := by
  have hf := Lib.hid (fits13_any (cap := cap) hg hl)
  have hf2 := Lib.hid (fits13_any (cap := ccap) hk hkl)
  rw [h] at hf
  rw [h2] at hf2
  obtain ⟨hll, _⟩ := fitsB_true.1 h
  obtain ⟨hkll, _⟩ := fitsB_true.1 h2
  simp only [most] at hll hkll
  have HG := Lib.hid hg
  have HK := Lib.hid hk
  have hco := Lib.hid (tcontains_any (cap := cap) (ccap := ccap) hg (by omega) hk (by omega))
  have hal := Lib.hid (fun W => aliveT_any W)
  clear hg hk h h2
  go_enter Try.func3, Try.ntmps3
  go_wp2_with fail
  refine hf.out.mono ?_
  rintro e w1 ⟨rfl, rfl⟩
  go_wp2_with fail
  refine hf2.out.mono ?_
  rintro e w1 ⟨rfl, rfl⟩
  go_wp2_with fail
  refine hco.out.mono ?_
  rintro e w2 ⟨d, dcap, rfl, hD, hK2⟩
  have HD : Hid (Given w2 d (ks.map fun k => .bool (hasB l k))) := by
    have e : (fun k => (findK (sortK l) k).isSome) = fun k => hasB l k := funext fun k => find_has (fun v hv => sortK_has hv) (fun v hv => sortK_from hv)
    rw [e, List.map_map] at hD
    exact hD
  have HK2 := Lib.hid hK2
  have HG2 := Lib.hid (HG.out.keep hK2)
  have HKS2 := Lib.hid (HK.out.keep hK2)
  clear hf hf2 hco hD hK2
  simp only [List.length_map] at *
  go_wp2_with fail
  go_loopg [21] (ks.length + 1) (fun k v wq => ∃ j : Nat, v = .int .i64 j ∧ j ≤ ks.length ∧ j + k = ks.length + 1 ∧ Keep Nothing w2 wq)
  case atStart => exact ⟨0, rfl, by omega, by omega, Keep.refl _ _⟩
  case round =>
    obtain ⟨j, rfl, hj1, hjk, hKj⟩ := hrel
    have HKJ := Lib.hid hKj
    clear hKj
    by_cases hltj : j < ks.length
    · obtain ⟨kb, ko, hka, ck⟩ := (HKS2.out.keep HKJ.out).cell (i := j) (by simpa using hltj)
      subst hka
      obtain ⟨jb, jo, hja, cj⟩ := (HD.out.keep HKJ.out).cell (i := j) (by simpa using hltj)
      subst hja
      obtain ⟨s, hs⟩ : ∃ s, ks[j] = s := ⟨_, rfl⟩
      rw [show (ks.map Value.string)[j]'(by simpa using hltj) = .string s by simp [hs]] at ck
      rw [show (ks.map fun k => Value.bool (hasB l k))[j]'(by simpa using hltj) = .bool (hasB l s) by simp [hs]] at cj
      have hin : Hid (∀ W, Keep Nothing wr W → Calls Try.prog 17 #[.slice a l.length cap, .string s] W (Bools W (hasB l s))) := by exact fun W hW => contains_any (cap := cap) s ((HG2.out.keep HKJ.out).keep hW) (by simp only [maxLen]; omega)
      generalize hasB l s = bb at *
      clear hs
      have hd : decide (ks.length ≤ j) = false := by simp; omega
      go_wp2_with fail
      go_region_held3 (fun w' => w'.cell? ⟨jb, jo + j, none⟩ = some (.bool bb)) (first | go_keep)
        ((go_at_call 17; refine (hin.out _ ?_).mono ?_; exact (Keep.refl _ _).dr; rintro e w' ⟨rfl, rfl⟩))
      have hbb : (bb != bb) = false := by cases bb <;> rfl
      go_wp2_with fail
      go_roundg (ks.length - j)
      case measure => omega
      case rel => exact ⟨j + 1, by go_num, by omega, by omega, HKJ.out.dr⟩
    · have hi : j = ks.length := by omega
      subst hi
      go_wp2_with fail
      refine (hal.out _).mono ?_
      rintro e w6 ⟨rfl, hK6⟩
      go_wp2_with fail
      go_ret
      exact ⟨rfl, (HK2.out.trans HKJ.out fun _ _ _ h => h).trans hK6 fun _ _ _ h => h⟩

theorem exactTContains_any {w : World} {a : Option Addr} {cap : Nat} {l : List ByteArray} (hg : Given w a (l.map .string)) (hl : l.length ≤ maxLen) {c : Option Addr} {ccap : Nat} {ks : List ByteArray} (hk : Given w c (ks.map .string)) (hkl : ks.length ≤ maxLen) :
    Calls Try.prog 3 #[.slice a l.length cap, .slice c ks.length ccap] w (TruePost w) := by
  by_cases h : fitsB l = true
  · by_cases h2 : fitsB ks = true
    · exact exactTContains_main hg hl hk hkl h h2
    · exact exactTContains_small hg hl hk hkl (.inr (by simpa using h2))
  · exact exactTContains_small hg hl hk hkl (.inl (by simpa using h))
end Go.Proofs.Ytfikahgofapobaa.T

namespace Go.Proofs.Ytfikahgofapobaa.W
open Go.RowKit Go.Wb

theorem elemInt : Elem Try.prog 3 1 8 := ⟨by kernel_rfl, by kernel_rfl, by kernel_rfl⟩
/-- Two lists that grow together, since w. -/
structure Twin (B : Nat) (w wr : World) (tyA sA : Nat) (a5 a7 : Option Addr) (i c5 c7 : Nat) (cs : List Value) (bs : List Bool) : Prop where
  keep : Keep Nothing w wr
  rows : Accs B wr [⟨tyA, sA, a5, i, c5, cs⟩, ⟨4, 1, a7, i, c7, bs.map .bool⟩]
  hB : B ≤ w.heap.size

variable {B : Nat} {w wr : World} {tyA sA : Nat} {a5 a7 : Option Addr} {i c5 c7 : Nat} {cs : List Value} {bs : List Bool}
theorem Twin.start (w : World) (tyA sA : Nat) : Twin w.heap.size w w tyA sA none none 0 0 0 [] [] :=
  ⟨Keep.refl _ _, ((Accs.nil w.heap.size w).addNil (Nat.le_refl _) tyA sA).addNil (Nat.le_refl _) 4 1, Nat.le_refl _⟩
theorem Twin.quiet (h : Twin B w wr tyA sA a5 a7 i c5 c7 cs bs) {w' : World} (hk : Keep Nothing wr w') : Twin B w w' tyA sA a5 a7 i c5 c7 cs bs := ⟨h.keep.trans hk fun _ _ _ h => h, h.rows.quiet hk, h.hB⟩
/-- Behind the first append, then the second one. -/
theorem Twin.one (h : Twin B w wr tyA sA a5 a7 i c5 c7 cs bs) (hw : B = w.heap.size) (o : Obj) {W : World} {a' : Option Addr} {c' : Nat} {news : List Value} (hg : Grew (wr.alloc o) W tyA sA a5 a' i 1 c5 c' (cs ++ news)) (hl : news.length = 1 * sA) :
    Keep Nothing w W ∧ Accs B W [⟨tyA, sA, a', i + 1, c', cs ++ news⟩, ⟨4, 1, a7, i, c7, bs.map .bool⟩] := by
  have hs := h.keep.size
  obtain ⟨g8, k8⟩ := (h.rows.quiet (Keep.alloc _ _ o)).grow (by simp; omega) 0 rfl hg hl
  exact ⟨(h.keep.al _).trans k8 fun c o hc h => absurd h (by omega), by simpa [List.set] using g8⟩
theorem Twin.two {W W' : World} {a' a2 : Option Addr} {n c' c2 : Nat} {cs2 : List Value} (hB : B = w.heap.size) (h : Keep Nothing w W ∧ Accs B W [⟨tyA, sA, a', n, c', cs2⟩, ⟨4, 1, a7, i, c7, bs.map .bool⟩]) (o : Obj) {f : Bool} (hg : Grew (W.alloc o) W' 4 1 a7 a2 i 1 c7 c2 (bs.map .bool ++ [.bool f])) (hn : n = i + 1) :
    Twin B w W' tyA sA a' a2 (i + 1) c' c2 cs2 (bs ++ [f]) := by
  subst hn
  have hs := h.1.size
  obtain ⟨g8, k8⟩ := (h.2.quiet (Keep.alloc _ _ o)).grow (by simp; omega) 1 rfl hg rfl
  exact ⟨(h.1.al _).trans k8 fun c o hc h => absurd h (by omega), by simpa [List.set] using g8, by omega⟩

/-- The value that is found. -/
def foundV (l : List It) (k : Ky) : Int := ((findK l k).getD zeroHdr.emp).2
def WGetPost (w : World) (vs : List Int) (oks : List Bool) (e : Ending) (w' : World) : Prop :=
  ∃ a c a2 c2, e = .returned (.tuple #[.slice a vs.length c, .slice a2 oks.length c2]) ∧ Given w' a (vs.map (Value.int .i64)) ∧ Given w' a2 (oks.map .bool) ∧ Keep Nothing w w'

set_option maxRecDepth 100000 in
set_option maxHeartbeats 8000000 in
theorem wget_any {w : World} {a : Option Addr} {cap : Nat} {l : List It} (hg : Given w a (OE.all l)) (hl : l.length ≤ 4000000000000) (d : Int) (h1 : 2 ≤ d) (h2 : d ≤ 128) {ka : Option Addr} {kcap : Nat} {ks : List Ky} (hk : Given w ka (ks.map kv)) (hkl : ks.length ≤ 4000000000000) :
    Calls Try.prog 26 #[.int .i64 d, .slice a l.length cap, .slice ka ks.length kcap] w (WGetPost w (ks.map (foundV (sortK l))) (ks.map fun k => (findK (sortK l) k).isSome)) := by
  have hgr := Lib.hid (grow_any (cap := cap) hg hl d h1 h2)
  have HKS := Lib.hid hk
  have HKL := Lib.hid hkl
  clear hg hl hk
  go_enter Try.func26, Try.ntmps26
  go_wp2_with fail
  refine hgr.out.mono ?_
  rintro e w1 ⟨b, hr, H, L, F, s, rfl, hN, hits, hemp⟩
  have HN := Lib.hid hN
  have HI := Lib.hid hits
  have HEM := Lib.hid hemp
  clear hgr hN hits hemp
  unfold ptr
  go_wp2_with fail
  go_loopg [9, 10, 20] (ks.length + 1) (fun m v9 v10 v20 wr => ∃ (i : Nat) (a5 a7 : Option Addr) (c5 c7 : Nat), v9 = .slice a5 i c5 ∧ v10 = .slice a7 i c7 ∧ v20 = .int .i64 i ∧ i ≤ ks.length ∧ i + m = ks.length + 1 ∧ Twin w1.heap.size w1 wr 3 1 a5 a7 i c5 c7 ((ks.take i).map fun k => .int .i64 (foundV (sortK l) k)) ((ks.take i).map fun k => (findK (sortK l) k).isSome))
  case atStart => exact ⟨0, none, none, 0, 0, rfl, rfl, rfl, by omega, by omega, Twin.start w1 _ _⟩
  case round =>
    obtain ⟨i, a5, a7, c5, c7, rfl, rfl, rfl, hil, hik, hT⟩ := hrel
    have HT := Lib.hid hT
    clear hT
    by_cases hlt : i < ks.length
    · obtain ⟨kb, ko, hka, ck⟩ := ((HKS.out.keep HN.out.keep).keep HT.out.keep).cell (i := i) (by simpa using hlt)
      subst hka
      obtain ⟨t, ht⟩ : ∃ t, ks[i] = t := ⟨_, rfl⟩
      rw [show (ks.map kv)[i]'(by simpa using hlt) = kv t by simp [ht]] at ck
      have hx : ks[i]? = some t := by rw [← ht]; exact List.getElem?_eq_getElem hlt
      have HX := Lib.hid hx
      have hget := Lib.hid (mapGet_any (HN.out.tree.keep HT.out.keep) t)
      rw [HI.out, HEM.out] at hget
      clear hx ht
      obtain ⟨vv0, hv0⟩ : ∃ z : Int, z = foundV (sortK l) t := ⟨_, rfl⟩
      obtain ⟨ff, hff⟩ : ∃ f : Bool, f = (findK (sortK l) t).isSome := ⟨_, rfl⟩
      have HV := Lib.hid hv0
      have HF := Lib.hid hff
      have hget2 : Calls Try.prog 80 #[ptr b, kv t] wr fun e w' => e = .returned (.tuple #[.int .i64 vv0, .bool ff]) ∧ Keep Nothing wr w' := by
        rw [hv0, hff]; exact hget.out
      have HG2 := Lib.hid hget2
      clear hget hget2 hv0 hff
      unfold ptr kv at *
      go_upto_region 7 with (fail)
      go_upto_region 8 with (refine HG2.out.mono ?_; rintro e w2 ⟨rfl, hK2⟩; have HT2 := Lib.hid (HT.out.quiet hK2); clear hK2)
      have hB := HT2.out.hB
      have hro := ((HT2.out.rows.quiet (Keep.alloc Nothing w2 (.cells [Value.int .i64 vv0].toArray 3))).acc 0 _ rfl).row
      have hln := ((HT2.out.rows.quiet (Keep.alloc Nothing w2 (.cells [Value.int .i64 vv0].toArray 3))).acc 0 _ rfl).len
      have hnew := new_given w2 [Value.int .i64 vv0] 3
      have hone : ∀ u ∈ [Value.int .i64 vv0], u.oneCell' = true := by intro u hu; simp at hu; subst hu; rfl
      have hone2 : ∀ u ∈ [Value.bool ff], u.oneCell' = true := by intro u hu; simp at hu; subst hu; rfl
      have h5 : i ≤ c5 := (HT2.out.rows.acc 0 _ rfl).le
      have h7 : i ≤ c7 := (HT2.out.rows.acc 1 _ rfl).le
      have hkb := HKL.out
      clear ck HT
      go_wp2_with (first
        | (at_builtin; refine wpList_append_src rfl _ _ _ rfl 3 1 8 Try.underlying39 elemInt a5 i c5 _ (by rfl) hro hln (some ⟨w2.heap.size, 0, none⟩) 1 1 [.int .i64 vv0] (by rfl) (by omega) rfl hnew hone h5 (by simp only [maxLen]; omega) (by omega) ?_; intro a11 c11 W8 hg; have F8 := Lib.hid (HT2.out.one rfl _ hg rfl); have hro8 := ((F8.out.2.quiet (Keep.alloc Nothing W8 (.cells [Value.bool ff].toArray 4))).acc 1 _ rfl).row; have hln8 := ((F8.out.2.quiet (Keep.alloc Nothing W8 (.cells [Value.bool ff].toArray 4))).acc 1 _ rfl).len; have hnew8 := new_given W8 [Value.bool ff] 4; clear hg)
        | (at_builtin; refine wpList_append_src rfl _ _ _ rfl 4 1 1 Try.underlying24 elemBool a7 i c7 _ (by rfl) hro8 hln8 (some ⟨W8.heap.size, 0, none⟩) 1 1 [.bool ff] (by rfl) (by omega) rfl hnew8 hone2 h7 (by simp only [maxLen]; omega) (by omega) ?_; intro a12 c12 W9 hg; have F9 := Lib.hid (Twin.two rfl F8.out _ hg rfl); clear hg))
      go_roundg (ks.length - i)
      case measure => omega
      case rel =>
        refine ⟨i + 1, a11, a12, c11, c12, rfl, rfl, by go_num, by omega, by omega, ?_⟩
        have := F9.out
        rw [HV.out, HF.out] at this
        rw [List.take_add_one, HX.out]
        simpa using this
    · have hi : i = ks.length := by omega
      subst hi
      go_wp2_with fail
      go_ret2
      have hT := HT.out
      rw [List.take_of_length_le (Nat.le_refl _)] at hT
      refine ⟨a5, c5, a7, c7, by simp, ?_, ?_, HN.out.keep.trans hT.keep fun _ _ _ h => h⟩
      · rw [List.map_map]
        exact (hT.rows.acc 0 _ rfl).row.reads
      · exact (hT.rows.acc 1 _ rfl).row.reads
end Go.Proofs.Ytfikahgofapobaa.W

namespace Go.Proofs.Ytfikahgofapobaa.T
open Go.RowKit Go.Wb

-- equal lists of bools
set_option maxRecDepth 100000 in
set_option maxHeartbeats 2000000 in
theorem equalB_any {w : World} {a c : Option Addr} {acap ccap : Nat} {l : List Bool} (h1 : Given w a (l.map .bool)) (h2 : Given w c (l.map .bool)) (hl : l.length ≤ 4000000000000) :
    Calls Try.prog 30 #[.slice a l.length acap, .slice c l.length ccap] w fun e w' => e = .returned (.bool true) ∧ Keep Nothing w w' := by
  have H1 := Lib.hid h1
  have H2 := Lib.hid h2
  clear h1 h2
  go_enter Try.func30, Try.ntmps30
  go_wp2_with fail
  go_loopg [13] (l.length + 1) (fun k v13 wr => ∃ i : Nat, v13 = .int .i64 i ∧ i ≤ l.length ∧ i + k = l.length + 1 ∧ Keep Nothing w wr)
  case atStart => exact ⟨0, rfl, by omega, by omega, Keep.refl _ _⟩
  case round =>
    obtain ⟨i, rfl, hil, hik, hK⟩ := hrel
    have HK := Lib.hid hK
    clear hK
    by_cases hlt : i < l.length
    · obtain ⟨t, ht⟩ : ∃ t, l[i] = t := ⟨_, rfl⟩
      obtain ⟨b1, o1, ha, x0⟩ := (H1.out.keep HK.out).cell (i := i) (by simpa using hlt)
      obtain ⟨b2, o2, hc, y0⟩ := (H2.out.keep HK.out).cell (i := i) (by simpa using hlt)
      subst ha
      subst hc
      rw [show (l.map Value.bool)[i]'(by simpa using hlt) = .bool t by simp [ht]] at x0 y0
      clear ht
      have hbb : (t != t) = false := by cases t <;> rfl
      go_wp2_with fail
      go_quiet (fail)
      go_wp2_with fail
      go_roundg (l.length - i)
      case measure => omega
      case rel => exact ⟨i + 1, by go_num, by omega, by omega, HK.out.drN _⟩
    · have hi : i = l.length := by omega
      subst hi
      go_wp2_with fail
      go_ret
      exact ⟨rfl, HK.out⟩

theorem find_named (l : List ByteArray) (k : ByteArray) : (W.findK (W.sortK (l.map W.nameK)) k).isSome = (findK (sortK l) k).isSome := by
  rw [sortW_named]
  unfold W.findK findK
  rw [List.find?_map, Option.isSome_map]
  rfl
def oksT (l ks : List ByteArray) : List Bool := ks.map fun k => (findK (sortK l) k).isSome
theorem oksT_len (l ks : List ByteArray) : (oksT l ks).length = ks.length := List.length_map _
theorem oks_named (l ks : List ByteArray) : (ks.map fun k => (W.findK (W.sortK (l.map W.nameK)) k).isSome) = oksT l ks := List.map_congr_left fun k _ => find_named l k
theorem sort_named (l : List ByteArray) : (W.sortK (l.map W.nameK)).map W.ky = sortK l := by rw [sortW_named, keys_named]

set_option maxRecDepth 100000 in
theorem tmaps_small {w : World} {a : Option Addr} {cap : Nat} {l : List ByteArray} (hg : Given w a (l.map .string)) (hl : l.length ≤ maxLen) {c : Option Addr} {ccap : Nat} {ks : List ByteArray} (hk : Given w c (ks.map .string)) (hkl : ks.length ≤ maxLen) (h : fitsB l = false ∨ fitsB ks = false) :
    Calls Try.prog 5 #[.slice a l.length cap, .slice c ks.length ccap] w (TruePost w) := by
  have hf := Lib.hid (fits13_any (cap := cap) hg hl)
  have hf2 := Lib.hid (fits13_any (cap := ccap) hk hkl)
  clear hg hk
  by_cases hb : fitsB l = false
  · rw [hb] at hf
    clear hb h
    go_enter Try.func5, Try.ntmps5
    go_wp2_with fail
    refine hf.out.mono ?_
    rintro e w1 ⟨rfl, rfl⟩
    go_wp2_with fail
    go_ret
    exact ⟨rfl, Keep.refl _ _⟩
  · have hkb := h.resolve_left hb
    have hb' : fitsB l = true := by simpa using hb
    rw [hb'] at hf
    rw [hkb] at hf2
    clear hb h hb' hkb
    go_enter Try.func5, Try.ntmps5
    go_wp2_with fail
    refine hf.out.mono ?_
    rintro e w1 ⟨rfl, rfl⟩
    go_wp2_with fail
    refine hf2.out.mono ?_
    rintro e w1 ⟨rfl, rfl⟩
    go_wp2_with fail
    go_ret
    exact ⟨rfl, Keep.refl _ _⟩

set_option maxRecDepth 100000 in
set_option maxHeartbeats 8000000 in
theorem tmaps_main {w : World} {a : Option Addr} {cap : Nat} {l : List ByteArray} (hg : Given w a (l.map .string)) (hl : l.length ≤ maxLen) {c : Option Addr} {ccap : Nat} {ks : List ByteArray} (hk : Given w c (ks.map .string)) (hkl : ks.length ≤ maxLen) (h : fitsB l = true) (h2 : fitsB ks = true) :
    Calls Try.prog 5 #[.slice a l.length cap, .slice c ks.length ccap] w (TruePost w) := by
  have hf := Lib.hid (fits13_any (cap := cap) hg hl)
  have hf2 := Lib.hid (fits13_any (cap := ccap) hk hkl)
  rw [h] at hf
  rw [h2] at hf2
  obtain ⟨hll, _⟩ := fitsB_true.1 h
  obtain ⟨hkll, _⟩ := fitsB_true.1 h2
  simp only [most] at hll hkll
  have HG := Lib.hid hg
  have HK := Lib.hid hk
  have hnm := Lib.hid (W.named_any (cap := cap) (hg : Given w a (l.map W.kv)) (by omega))
  have hal := Lib.hid (fun W => aliveT_any W)
  have hsl : Hid ((sortK l).length ≤ 4000000000000) := by
    have := foldl_put_len iord l []
    exact Lib.hid (by simp [sortK] at *; omega)
  clear hg hk h h2
  go_enter Try.func5, Try.ntmps5
  go_wp2_with fail
  refine hf.out.mono ?_
  rintro e w1 ⟨rfl, rfl⟩
  go_wp2_with fail
  refine hf2.out.mono ?_
  rintro e w1 ⟨rfl, rfl⟩
  go_wp2_with fail
  refine hnm.out.mono ?_
  rintro e w3 ⟨a3, c3, rfl, hA3, hk3⟩
  have HK3 := Lib.hid hk3
  have HR3 := Lib.hid hA3.row.reads
  have hwg := Lib.hid (W.wget_any (cap := c3) (kcap := ccap) hA3.row.reads (by simp; omega) 2 (by omega) (by omega) (HK.out.keep hk3 : Given w3 c (ks.map W.kv)) (by omega))
  rw [oks_named] at hwg
  simp only [List.length_map] at hwg
  clear hf hf2 hnm hA3 hk3
  simp only [List.length_map]
  go_wp2_with fail
  refine hwg.out.mono ?_
  rintro e w4 ⟨a4, c4, a5, c5, rfl, -, hO4, hk4⟩
  have HK4 : Hid (Keep Nothing w w4) := by exact HK3.out.trans hk4 fun _ _ _ h => h
  have HO4 := Lib.hid hO4
  have HR4 := Lib.hid (HR3.out.keep hk4)
  have hti := Lib.hid (tinsert_any (cap := cap) (HG.out.keep HK4.out : Given w4 a (l.map fun x => kv (ky x))) (by omega))
  rw [show (sortK l).map ky = sortK l from List.map_id'' (fun _ => rfl) _] at hti
  clear hwg hO4 hk4 HK3 HR3
  go_wp2_with fail
  refine hti.out.mono ?_
  rintro e w5 ⟨a6, c6, rfl, hA6, hk6⟩
  have HK6 : Hid (Keep Nothing w w5) := by exact HK4.out.trans hk6 fun _ _ _ h => h
  have HA6 := Lib.hid hA6.row.reads
  have HO6 := Lib.hid (HO4.out.keep hk6)
  have hwk := Lib.hid (W.wkeys_any (cap := c3) (HR4.out.keep hk6) (by simp; omega) 2 (by omega) (by omega))
  rw [sort_named] at hwk
  simp only [List.length_map] at hwk
  clear hti hA6 hk6 HK4 HO4 HR4
  go_wp2_with fail
  refine hwk.out.mono ?_
  rintro e w6 ⟨a7, c7, rfl, hA7, hk7⟩
  have HK7 : Hid (Keep Nothing w w6) := by exact HK6.out.trans hk7 fun _ _ _ h => h
  have HO7 := Lib.hid (HO6.out.keep hk7)
  have heq := Lib.hid (equalT_any (acap := c6) (ccap := c7) (HA6.out.keep hk7) hA7.row.reads hsl.out)
  clear hwk hA7 hk7 HK6 HO6 HA6
  go_wp2_with fail
  refine heq.out.mono ?_
  rintro e w7 ⟨rfl, hk8⟩
  have HK8 : Hid (Keep Nothing w w7) := by exact HK7.out.trans hk8 fun _ _ _ h => h
  have HO8 := Lib.hid (HO7.out.keep hk8)
  have htc := Lib.hid (tcontains_any (cap := cap) (ccap := ccap) (HG.out.keep HK8.out) (by omega) (HK.out.keep HK8.out) (by omega))
  rw [show (ks.map fun k => (findK (sortK l) k).isSome) = oksT l ks from rfl] at htc
  clear heq hk8 HK7 HO7
  go_wp2_with fail
  refine htc.out.mono ?_
  rintro e w8 ⟨a9, c9, rfl, hA9, hk9⟩
  have HK9 : Hid (Keep Nothing w w8) := by exact HK8.out.trans hk9 fun _ _ _ h => h
  have heb := Lib.hid (equalB_any (acap := c9) (ccap := c5) hA9 (HO8.out.keep hk9) (by rw [oksT_len]; omega))
  clear htc hA9 hk9 HK8 HO8
  go_wp2_with fail
  refine heb.out.mono ?_
  rintro e w9 ⟨rfl, hk10⟩
  have HK10 : Hid (Keep Nothing w w9) := by exact HK9.out.trans hk10 fun _ _ _ h => h
  clear heb hk10 HK9
  go_wp2_with fail
  refine (hal.out _).mono ?_
  rintro e w10 ⟨rfl, hK11⟩
  have HK11 : Hid (Keep Nothing w w10) := by exact HK10.out.trans hK11 fun _ _ _ h => h
  clear hK11 HK10
  go_wp2_with fail
  go_ret
  exact ⟨rfl, HK11.out⟩

theorem tmaps_any {w : World} {a : Option Addr} {cap : Nat} {l : List ByteArray} (hg : Given w a (l.map .string)) (hl : l.length ≤ maxLen) {c : Option Addr} {ccap : Nat} {ks : List ByteArray} (hk : Given w c (ks.map .string)) (hkl : ks.length ≤ maxLen) :
    Calls Try.prog 5 #[.slice a l.length cap, .slice c ks.length ccap] w (TruePost w) := by
  by_cases h : fitsB l = true
  · by_cases h2 : fitsB ks = true
    · exact tmaps_main hg hl hk hkl h h2
    · exact tmaps_small hg hl hk hkl (.inr (by simpa using h2))
  · exact tmaps_small hg hl hk hkl (.inl (by simpa using h))
end Go.Proofs.Ytfikahgofapobaa.T

namespace Go.Wb
open Go Go.ChangeShapes Go.WideShapes Go.ChangeAt Go.RowKit

/-- The cells of a slice that came in. -/
theorem given_cells {W : World} {a : Addr} {cs : List Value} (h : ∀ i v, cs[i]? = some v → W.cell? (a.add i) = some v) : Given W (some a) cs := by
  cases cs with
  | nil => exact .inl rfl
  | cons x cs =>
    obtain ⟨b, off, spot⟩ := a
    have h0 := h 0 x (by simp)
    have hspot : spot = none := by simpa [Addr.add] using World.cell?_spot h0
    subst hspot
    refine .inr ⟨b, off, rfl, fun i v hi => ?_⟩
    rw [← add_plain]
    exact h i v hi

section
variable {H : Type} {enc : TypeId × Value → H} {P : Program} {W : World}

/-- A slice of texts that came in. -/
theorem open_texts {t e : TypeId} {base : Nat} {v : Value} {d : DataW H} {p : List MemPlace} (ht : P.underlying t = some (.slice e)) (he : P.underlying e = some .string) (hc : P.cellsOf e = 1) (hval : Value.okWide P W .any base t v)
    (h : DataW.Trod enc P W 0 (fun _ => true) true t v d p) : ∃ (a : Option Addr) (l : List ByteArray) (cap : Nat), v = .slice a l.length cap ∧ Given W a (l.map .string) ∧ l.length ≤ maxLen := by
  obtain ⟨a0, len, cap, rfl⟩ := okWide_slice ht hval
  obtain ⟨fuel, hf⟩ := h
  rcases open_strings ht he hc hf with ⟨hcs, hx⟩ | ⟨a, len', cap', ss, hcs, _, hl, hm, hz, hx, hcell, hws⟩
  · simp [Value.cells] at hcs
    obtain ⟨rfl, rfl, rfl⟩ := hcs
    exact ⟨none, [], 0, rfl, .inl rfl, by simp⟩
  · simp [Value.cells] at hcs
    obtain ⟨rfl, rfl, rfl⟩ := hcs
    simp only [if_true] at hz
    have hlen : (ss.take len).length = len := by simp; omega
    refine ⟨some a, ss.take len, cap, by rw [hlen], given_cells fun i v hi => ?_, by rw [hlen]; omega⟩
    rw [List.getElem?_map, List.getElem?_take] at hi
    split at hi
    · have hil : i < ss.length := by omega
      rw [List.getElem?_eq_getElem hil] at hi
      rw [hcell i hil]
      simp at hi
      rw [← hi]
      simp [List.getD, hil]
    · cases hi

/-- What came in reads as it did. -/
theorem Below.trodAll (hl : laidOutB P = true) {W' : World} (hb : Below W.heap.size W W') : ∀ {ts : List TypeId} {vs : List Value} {ds : List (DataW H)} {ps : List MemPlace}, (ts.all fun t => P.readableRec t && decide (t < P.types.size)) = true →
    DataW.TrodAll enc P W 0 (fun _ => true) true ts vs ds ps → (∀ x ∈ ps, x.block < W.heap.size) → DataW.TrodAll enc P W' 0 (fun b => decide (b < W.heap.size)) true ts vs ds ps
  | [], [], [], ps, _, h, _ => h
  | t :: ts, v :: vs, d :: ds, ps, hc, h, hp => by
    obtain ⟨p, q, h1, h2, rfl⟩ := h
    simp only [List.all_cons, Bool.and_eq_true, decide_eq_true_eq] at hc
    refine ⟨p, q, Below.trod hl hc.1.1 hc.1.2 h1 hb (fun x hx => hp x (by simp [hx])), Below.trodAll hl hb (by simpa using hc.2) h2 (fun x hx => hp x (by simp [hx])), rfl⟩
  | [], _ :: _, _, _, _, h, _ => h.elim
  | [], [], _ :: _, _, _, h, _ => h.elim
  | _ :: _, [], _, _, _, h, _ => h.elim
  | _ :: _, _ :: _, [], _, _, h, _ => h.elim
end
end Go.Wb

namespace Go.Wb
open Go Go.ChangeShapes Go.WideShapes Go.ChangeAt Go.RowKit Go.Deep

theorem pairs_get {β : Type} (f g : β → Value) : ∀ {l : List β} {j : Nat} {v : Value}, (l.flatMap fun x => [f x, g x])[j]? = some v → ∃ i x, l[i]? = some x ∧ ((j = i * 2 ∧ v = f x) ∨ (j = i * 2 + 1 ∧ v = g x))
  | [], j, v, h => by simp at h
  | x :: l, 0, v, h => ⟨0, x, rfl, .inl ⟨rfl, by simpa using h.symm⟩⟩
  | x :: l, 1, v, h => ⟨0, x, rfl, .inr ⟨rfl, by simpa using h.symm⟩⟩
  | x :: l, j + 2, v, h => by
    obtain ⟨i, y, h1, h2⟩ := pairs_get f g (l := l) (j := j) (v := v) (by simpa using h)
    exact ⟨i + 1, y, by simpa using h1, h2.imp (fun ⟨a, b⟩ => ⟨by omega, b⟩) fun ⟨a, b⟩ => ⟨by omega, b⟩⟩

def strV : Value → ByteArray | .string s => s | _ => ⟨#[]⟩
def intV : Value → Int | .int _ n => n | _ => 0

section
variable {H : Type} {enc : TypeId × Value → H} {P : Program} {W : World}
/-- A slice of pairs of a text and a number that came in. -/
theorem open_words {t e : TypeId} {f0 f1 : Field} {base : Nat} {v : Value} {d : DataW H} {p : List MemPlace} (ht : P.underlying t = some (.slice e)) (he : P.underlying e = some (.struct #[f0, f1])) (hk : P.underlying f0.type = some .string) (hi : P.underlying f1.type = some (.int .i64))
    (ce : P.cellsOf e = 2) (o0 : f0.offset = 0) (o1 : f1.offset = 1) (c0 : P.cellsOf f0.type = 1) (c1 : P.cellsOf f1.type = 1) (hval : Value.okWide P W .any base t v)
    (h : DataW.Trod enc P W 0 (fun _ => true) true t v d p) : ∃ (a : Option Addr) (l : List (ByteArray × Int)) (cap : Nat), v = .slice a l.length cap ∧ Given W a (l.flatMap fun x => [.string x.1, .int .i64 x.2]) ∧ l.length ≤ maxLen := by
  obtain ⟨a0, len, cap, rfl⟩ := okWide_slice ht hval
  obtain ⟨fuel, hf⟩ := h
  rcases open_slice_pairs ht he ce o0 o1 c0 c1 hf with ⟨hcs, hx⟩ | ⟨a, len', cap', m, n, V0, V1, D0, D1, P0, P1, hcs, _, hl, hm, hz, hx, hc⟩
  · simp [Value.cells] at hcs
    obtain ⟨rfl, rfl, rfl⟩ := hcs
    exact ⟨none, [], 0, rfl, .inl rfl, by simp⟩
  · simp [Value.cells] at hcs
    obtain ⟨rfl, rfl, rfl⟩ := hcs
    simp only [if_true] at hz
    have hlen : ((List.range len).map fun i => (strV (V0 i), intV (V1 i))).length = len := by simp
    refine ⟨some a, (List.range len).map fun i => (strV (V0 i), intV (V1 i)), cap, by rw [hlen], given_cells fun j u hj => ?_, by rw [hlen]; omega⟩
    obtain ⟨i, x, h1, h2⟩ := pairs_get (fun x : ByteArray × Int => Value.string x.1) (fun x => Value.int .i64 x.2) hj
    rw [List.getElem?_map] at h1
    obtain ⟨k, hk1, hk2⟩ := Option.map_eq_some_iff.1 h1
    obtain ⟨hil, rfl⟩ := List.getElem?_eq_some_iff.1 hk1
    simp only [List.length_range] at hil
    simp only [List.getElem_range] at hk2
    subst hk2
    obtain ⟨g0, g1, g2, g3⟩ := hc i (by omega)
    obtain ⟨s, e1, _, _⟩ := DataW.trod_string hk g2
    obtain ⟨z, e2, _, _⟩ := DataW.trod_int hi g3
    have e1' : V0 i = .string s := by simpa using e1
    have e2' : V1 i = .int .i64 z := by simpa using e2
    rcases h2 with ⟨rfl, rfl⟩ | ⟨rfl, rfl⟩
    · rw [g0, e1']; rfl
    · rw [g1, e2']; rfl
end
end Go.Wb
