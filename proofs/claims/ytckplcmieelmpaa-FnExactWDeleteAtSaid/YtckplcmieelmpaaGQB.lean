/- Part 2 of the texts for the statement FnExactWDeleteAtSaid: the package's tree of maps and sets, its functions' contracts. -/
import Derived.Test.YtckplcmieelmpaaGQA
import Derived.Deep.QuietTactic
import Derived.BigQuiet
import Derived.WalkMore
import Derived.Deep.CutBlock
import Derived.ProofKit
import Derived.SliceStrings
import Derived.Deep.SlicePairs
import Derived.ChangeSlices
namespace Go.Proofs.Ytckplcmieelmpaa.W
open Go.RowKit Go.Wb

theorem del_pre {w : World} {b : Nat} {hr : HRec} {H : Store It} {L : Nat → Lay} {F : List Nat} {mn mx h : Nat} {t : Tr It} (T : TreeAt w b hr H L F mn mx (some (h, t))) (big : (flat h t).length ≤ 3000000000000000000) : ∃ n, hr.root = some n ∧ DelPre w b hr b 2 n H L h t F mn mx := by
  obtain ⟨n, hroot, hpre⟩ := root_pre T big
  have hm : hr.mn = (mn : Int) := by
    rcases T.par.one with h | ⟨_, h, _⟩
    · exact h.1
    · rw [hroot] at h; cases h
  obtain ⟨n', hn', rep, wf⟩ := T.root
  exact ⟨n, hroot, hpre w (Keep.refl _ _), hm, T.par.pos, wf.own_le.1⟩

set_option maxRecDepth 100000 in
set_option maxHeartbeats 4000000 in
theorem del_some (R : RebOK) {w : World} {b : Nat} {hr : HRec} {H : Store It} {L : Nat → Lay} {F : List Nat} {mn mx h : Nat} {t : Tr It} (T : TreeAt w b hr H L F mn mx (some (h, t))) (big : (flat h t).length ≤ 3000000000000000000) (k : Ky) :
    Calls Try.prog 83 #[ptr b, kv k] w (DelT w b hr H L F mn mx (some (h, t)) k) := by
  obtain ⟨n, hroot, hpre⟩ := del_pre T big
  have HC := Lib.hid (del_any R h t w b 2 n H L F false k hpre)
  have HT := Lib.hid T
  have HBIG := Lib.hid big
  have HR := Lib.hid hroot
  have HPR := Lib.hid hpre
  have c2 := hdr_root T.hdr
  rw [hroot] at c2
  simp only [rootV, Option.map_some] at c2
  clear T big hroot hpre
  unfold ptr kv at *
  go_enter Try.func83, Try.ntmps83
  go_wp2_with fail
  refine HC.out.mono ?_
  rintro e W' ⟨p, t', F', H', L', rfl, st, rep, nd, less, dl⟩
  have ST := Lib.hid st
  have T := HT.out
  have HW' := Lib.hid (blk_keep T.hdr st.keep fun o ⟨m, r, _, hr, hf⟩ => hdr_apart T.hdr (T.mem.at_ m r hr) hf : Hdr W' b hr)
  have hap' : Hid (∀ m r, H' m = some r → ∀ c o, fp TT m r (L' m) c o → c ≠ b) := by exact fun m r hr c o hf e => hdr_apart HW'.out (st.mem.at_ m r hr) (e ▸ hf)
  have hle : t'.its.length ≤ mx := by have := less.le; have := HPR.out.pre.wf.own_le.2; omega
  have BH : Hid (Behind W' hr H' hr.iso mn mx h n t' F') := by exact ⟨rep, nd, less.body, hle⟩
  have LS := Lib.hid less
  have DL := Lib.hid dl
  have hlen := dl.len
  have hcn := T.cnt
  simp only [its] at hcn
  have hbig := HBIG.out
  clear st rep nd less dl c2 T
  unfold pv kv
  go_upto_region 4 with (fail)
  refine wp_world ?_
  intro W1 hW1
  generalize hq : W'.heap.size = q at *
  have hbq : b < q := by rw [← hq]; exact lt_of_heap HW'.out
  have K1 : Hid (Keep Nothing W' W1) := by
    subst hW1
    exact (Keep.refl _ _).al _
  have X1 : Hid (W1.heap[q]? = some (.cells (E.enc (Option.getD p hr.emp)).toArray 161 (0, 0))) := by
    subst hW1
    subst hq
    exact heap_alloc_new W' _
  have XQ := Lib.hid hq
  clear hW1 hq
  have H1 := Lib.hid (blk_keep HW'.out K1.out fun _ h => h : Hdr W1 b hr)
  have M1 := Lib.hid (ST.out.mem.keepS K1.out fun _ _ _ _ _ _ h => h)
  cases p with
  | none =>
    have hev := (hdr_emp H1.out).1
    go_wp2_with fail
    go_ret2
    have hits := LS.out.non rfl
    have hne := HPR.out.ne
    obtain ⟨hroot, _⟩ := behind_same BH.out (by omega)
    have T := HT.out
    refine ⟨hr, H', L', F', some (h, t'), none, rfl, ((ST.out.t _).post (K1.out.mono fun _ _ _ h => h.elim : Keep (fun c _ => c = b) _ _) (fun _ _ _ h => h) fun m r hr c o hf => hap'.out m r hr c o hf), ⟨H1.out, M1.out, BH.out.nd, by rw [HR.out]; exact hroot, ?_, DL.out.sorted T.srt, T.par⟩, DL.out, rfl, rfl, rfl⟩
    simp only [its]
    simp at hlen
    omega
  | some y =>
    simp only [Option.isSome_some, if_true] at hlen
    obtain ⟨_, r, hr1, _, hri, _⟩ := BH.out.rep.root
    have N1 := Lib.hid (M1.out.at_ n r hr1)
    have c2 := hdr_root H1.out
    rw [HR.out] at c2
    simp only [rootV, Option.map_some] at c2
    obtain ⟨d0, d1, cn2, d3, fzn⟩ := blk4 N1.out.1
    clear d0 d1 d3 fzn
    have hcb : -9223372036854775808 ≤ hr.cnt - 1 ∧ hr.cnt - 1 ≤ 9223372036854775807 := by omega
    have HLEN := Lib.hid hlen
    have HCN := Lib.hid hcn
    clear hlen hcn
    by_cases h0 : t'.its.length = 0
    case neg =>
      have hne : ¬ r.items.length = 0 := by rw [hri]; exact h0
      obtain ⟨hroot, hfl⟩ := behind_same BH.out (by omega)
      have hnz : ¬ (hr.cnt - 1 = 0) := by have := HLEN.out; have := HCN.out; omega
      have c3 := hdr_cnt H1.out
      have fz := hdr_fz H1.out
      go_upto_region 9 with (fail)
      refine wp_world ?_
      intro W2 hW2
      have H2 : Hid (Hdr W2 b { hr with cnt := hr.cnt - 1 }) := by subst hW2; exact hdr_set_cnt H1.out _
      have K2 : Hid (Keep (fun c _ => c = b) W1 W2) := by subst hW2; exact (Keep.refl _ _).set _ _ _ fun _ => rfl
      have X2 : Hid (W2.heap[q]? = some (.cells (E.enc (Option.getD (some y) hr.emp)).toArray 161 (0, 0))) := by exact blk_keep X1.out K2.out fun o e => by omega
      clear hW2 c2 c3 fz cn2
      have c3 := hdr_cnt H2.out
      obtain ⟨x0, x1, xf⟩ := blk2 X2.out
      go_wp2_with fail
      go_ret2
      have T := HT.out
      have KA : Keep (fun c _ => c = b) W' W2 := (K1.out.mono fun _ _ _ h => h.elim : Keep (fun c _ => c = b) W' W1).trans K2.out fun _ _ _ h => h
      refine ⟨{ hr with cnt := hr.cnt - 1 }, H', L', F', some (h, t'), some y, rfl, ((ST.out.t _).post KA (fun _ _ _ h => h) fun m r hr c o hf => hap'.out m r hr c o hf), ⟨H2.out, ST.out.mem.keepS KA fun m r c o hr hf => hap'.out m r hr c o hf, BH.out.nd, by show RootAt H' hr.iso hr.root F' mn mx _; rw [HR.out]; exact hroot, ?_, DL.out.sorted T.srt, T.par.cv, T.par.icv, T.par.one, T.par.odd, T.par.pos, T.par.hb⟩, DL.out, rfl, rfl, rfl⟩
      simp only [its]
      have := HLEN.out
      have := HCN.out
      omega
    case pos =>
      have hze : r.items.length = 0 := by rw [hri]; exact h0
      have hlv := Lib.hid (leaf_any N1.out)
      unfold ptr at hlv
      rw [hze] at cn2
      go_upto_region 6 with (fail)
      cases h with
      | zero =>
        obtain ⟨hF, hfl⟩ := behind_none BH.out h0
        have hk : r.kids = none := by
          obtain ⟨q, e1, _, _, _, e5, _⟩ := BH.out.rep
          rw [hr1] at e1; cases e1; exact e5
        have hnz : hr.cnt - 1 = 0 := by have h1 := HLEN.out; have h2 := HCN.out; rw [hfl] at h1; simp at h1; omega
        go_wp2_with fail
        refine hlv.out.mono ?_
        rintro e w1 ⟨rfl, rfl⟩
        simp only [hk, Option.isNone_none]
        have c3 := hdr_cnt H1.out
        have fz := hdr_fz H1.out
        go_upto_region 9 with (fail)
        refine wp_world ?_
        intro W2 hW2
        have H2 : Hid (Hdr W2 b { hr with cnt := hr.cnt - 1 }) := by subst hW2; rw [hnz]; exact hdr_set_cnt H1.out _
        have K2 : Hid (Keep (fun c _ => c = b) W1 W2) := by subst hW2; exact (Keep.refl _ _).set _ _ _ fun _ => rfl
        have X2 : Hid (W2.heap[q]? = some (.cells (E.enc (Option.getD (some y) hr.emp)).toArray 161 (0, 0))) := by exact blk_keep X1.out K2.out fun o e => by omega
        clear hW2 c2 c3 fz cn2 hlv
        have c3 := hdr_cnt H2.out
        have fz := hdr_fz H2.out
        have c2b := hdr_root H2.out
        simp only [rootV, HR.out, Option.map_some] at c2b
        go_upto_region 11 with (fail)
        refine wp_world ?_
        intro W3 hW3
        have H3 : Hid (Hdr W3 b { hr with root := none, cnt := hr.cnt - 1 }) := by subst hW3; exact hdr_set_root H2.out none
        have K3 : Hid (Keep (fun c _ => c = b) W2 W3) := by subst hW3; exact (Keep.refl _ _).set _ _ _ fun _ => rfl
        have X3 : Hid (W3.heap[q]? = some (.cells (E.enc (Option.getD (some y) hr.emp)).toArray 161 (0, 0))) := by exact blk_keep X2.out K3.out fun o e => by omega
        clear hW3 c3 fz c2b
        obtain ⟨x0, x1, xf⟩ := blk2 X3.out
        go_wp2_with fail
        go_ret2
        have T := HT.out
        have KA : Keep (fun c _ => c = b) W' W3 := ((K1.out.mono fun _ _ _ h => h.elim : Keep (fun c _ => c = b) W' W1).trans K2.out fun _ _ _ h => h).trans K3.out fun _ _ _ h => h
        have ts := ((ST.out.t (fun c _ => c = b)).post KA (fun _ _ _ h => h) fun m r hr c o hf => hap'.out m r hr c o hf)
        subst hF
        have ts2 := TStep.drop T.mem ts (n := n) (G := []) (by simp) (fun m => by simp)
        refine ⟨{ hr with root := none, cnt := hr.cnt - 1 }, upd H' n none, L', [], none, some y, rfl, ts2, ⟨H3.out, ts2.mem, by simp, ⟨rfl, rfl⟩, ?_, List.Pairwise.nil, T.par.cv, T.par.icv, ?_, T.par.odd, T.par.pos, T.par.hb⟩, ?_, rfl, rfl, rfl⟩
        · show hr.cnt - 1 = _; rw [hnz]; rfl
        · rcases T.par.one with h | ⟨_, h, _⟩
          · exact .inl h
          · rw [HR.out] at h; cases h
        · have hd := DL.out
          rw [hfl] at hd
          exact hd
      | succ h =>
        obtain ⟨r2, c, kc, Fc, hr2, hk, hF, hfl, hroot, hfl1, ndc, hnc⟩ := behind_down BH.out HPR.out.pos h0
        rw [hr1] at hr2
        cases hr2
        have hnz : ¬ (hr.cnt - 1 = 0) := by have h1 := HLEN.out; have h2 := HCN.out; rw [hfl] at h1; omega
        have XN := N1.out.kids hk
        have p1 := XN.1
        have p2 := XN.2.1
        have hrK := XN.2.2.2.1
        obtain ⟨kb, ko, hka, _⟩ := hrK.form (by simp)
        rw [hka] at p2 hrK
        have hk0 : W1.cell? ⟨kb, ko + 0, none⟩ = some (ptr c) := hrK.cell (by simp)
        rw [Nat.add_zero] at hk0
        unfold ptr at p1 hk0
        clear XN hrK
        go_wp2_with fail
        refine hlv.out.mono ?_
        rintro e w1 ⟨rfl, rfl⟩
        simp only [hk, Option.isNone_some]
        have fz := hdr_fz H1.out
        go_upto_region 8 with (fail)
        refine wp_world ?_
        intro W2 hW2
        have H2 : Hid (Hdr W2 b { hr with root := some c }) := by subst hW2; exact hdr_set_root H1.out (some c)
        have K2 : Hid (Keep (fun c _ => c = b) W1 W2) := by subst hW2; exact (Keep.refl _ _).set _ _ _ fun _ => rfl
        have X2 : Hid (W2.heap[q]? = some (.cells (E.enc (Option.getD (some y) hr.emp)).toArray 161 (0, 0))) := by exact blk_keep X1.out K2.out fun o e => by omega
        clear hW2 c2 fz cn2 hlv p1 p2 hk0
        have c3 := hdr_cnt H2.out
        have fz := hdr_fz H2.out
        go_upto_region 9 with (fail)
        refine wp_world ?_
        intro W3 hW3
        have H3 : Hid (Hdr W3 b { hr with root := some c, cnt := hr.cnt - 1 }) := by subst hW3; exact hdr_set_cnt H2.out _
        have K3 : Hid (Keep (fun c _ => c = b) W2 W3) := by subst hW3; exact (Keep.refl _ _).set _ _ _ fun _ => rfl
        have X3 : Hid (W3.heap[q]? = some (.cells (E.enc (Option.getD (some y) hr.emp)).toArray 161 (0, 0))) := by exact blk_keep X2.out K3.out fun o e => by omega
        clear hW3 c3 fz
        have c3 := hdr_cnt H3.out
        obtain ⟨x0, x1, xf⟩ := blk2 X3.out
        go_wp2_with fail
        go_ret2
        have T := HT.out
        have KA : Keep (fun c _ => c = b) W' W3 := ((K1.out.mono fun _ _ _ h => h.elim : Keep (fun c _ => c = b) W' W1).trans K2.out fun _ _ _ h => h).trans K3.out fun _ _ _ h => h
        have ts := ((ST.out.t (fun c _ => c = b)).post KA (fun _ _ _ h => h) fun m r hr c o hf => hap'.out m r hr c o hf)
        subst hF
        have ts2 := TStep.drop T.mem ts (n := n) (G := Fc) (by simp) (fun m => by simp only [List.mem_cons]; exact ⟨fun hm => ⟨.inr hm, fun e => hnc (e ▸ hm)⟩, fun ⟨h1, h2⟩ => h1.resolve_left h2⟩)
        refine ⟨{ hr with root := some c, cnt := hr.cnt - 1 }, upd H' n none, L', Fc, some (h, kc), some y, rfl, ts2, ⟨H3.out, ts2.mem, ndc, hroot, ?_, ?_, T.par.cv, T.par.icv, ?_, T.par.odd, T.par.pos, T.par.hb⟩, ?_, rfl, rfl, rfl⟩
        · have h1 := HLEN.out
          have h2 := HCN.out
          simp only [its]
          rw [hfl] at h1
          show hr.cnt - 1 = _
          omega
        · have := DL.out.sorted T.srt
          rw [hfl] at this
          exact this
        · rcases T.par.one with h | ⟨_, h, _⟩
          · exact .inl h
          · rw [HR.out] at h; cases h
        · have hd := DL.out
          rw [hfl] at hd
          exact hd
end Go.Proofs.Ytckplcmieelmpaa.W

namespace Go.Proofs.Ytckplcmieelmpaa.W
open Go.RowKit Go.Wb

theorem rebRec_ok : RebRecOK := fun w b hr S n a d r ra rb L La Lb N1 N2 i i0 m mx c P h => by
  by_cases h1 : ra.items.length + rb.items.length < mx
  · exact reb_merge P h h1
  · by_cases h2 : rb.items.length < ra.items.length
    · exact reb_right P h (by omega) h2
    · exact reb_left P h (by omega) h2

/-- MAP.DELETE: what it leaves. -/
theorem delete_any {w : World} {b : Nat} {hr : HRec} {H : Store It} {L : Nat → Lay} {F : List Nat} {mn mx : Nat} {s : Sh} (T : TreeAt w b hr H L F mn mx s) (big : (its s).length ≤ 3000000000000000000) (k : Ky) :
    Calls Try.prog 83 #[ptr b, kv k] w (DelT w b hr H L F mn mx s k) := by
  cases s with
  | none => exact del_none T k
  | some p => exact del_some (reb_of rebRec_ok) T big k
end Go.Proofs.Ytckplcmieelmpaa.W

namespace Go.Proofs.Ytckplcmieelmpaa.W
open Go.RowKit Go.Wb

theorem accs_off {B : Nat} {w w' : World} {l : List Rw} (h : Accs B w l) {S : Nat → Nat → Prop} (hk : Keep S w w') (hS : ∀ (i : Nat) (r : Rw), l[i]? = some r → ∀ b o, rowFp r.a (r.cap * r.s) b o → ¬ S b o) : Accs B w' l :=
  ⟨fun i r hi => ⟨(h.acc i r hi).row.keep' hk (hS i r hi), (h.acc i r hi).len, (h.acc i r hi).le, (h.acc i r hi).own⟩, h.apart⟩
theorem NewTree.grow {w0 w w' : World} {b : Nat} {hr : HRec} {H : Store It} {L : Nat → Lay} {F : List Nat} {mn mx : Nat} {s : Sh} (N : NewTree w0 w b hr H L F mn mx s) {B : Nat} {l : List Rw} (A : Accs B w l) (hB : w0.heap.size ≤ B) (i : Nat) {ty z n cap m cap' : Nat} {a a' : Option Addr} {cs cs2 : List Value} (hi : l[i]? = some ⟨ty, z, a, n, cap, cs⟩) (hty : ¬ treeTy ty) (hg : Grew w w' ty z a a' n m cap cap' cs2) : NewTree w0 w' b hr H L F mn mx s := by
  have hA := A.acc i _ hi
  refine N.off hg.keep (fun x o ⟨x1, y1, e1, e2, e3, e4⟩ => ?_) fun x o hx ⟨x1, y1, e1, e2, e3, e4⟩ => ?_
  · have e3' : y1 ≤ o := Nat.le_trans (Nat.le_add_right _ _) e3
    exact Nat.le_trans hB (hA.own x o ⟨x1, y1, e1, e2, e3', e4⟩)
  · have e3' : y1 ≤ o := Nat.le_trans (Nat.le_add_right _ _) e3
    obtain ⟨arr, ha⟩ := hA.row.block ⟨_, (show rowFp a (cap * z) x o from ⟨x1, y1, e1, e2, e3', e4⟩)⟩
    exact ⟨arr, ty, ha, hty⟩

/-- Without a key. -/
def delK (l : List It) (k : Ky) : List It := l.filter fun x => klt (ky x) k || klt k (ky x)
theorem delK_all {l : List It} {k : Ky} (h : ∀ x ∈ l, klt (ky x) k = true ∨ klt k (ky x) = true) : delK l k = l := List.filter_eq_self.2 fun x hx => by simpa using h x hx
theorem del_eq {l l' : List It} {k : Ky} {p : Option It} (h : Del ilt l (mkIt k) l' p) : l' = delK l k ∧ p = findK l k := by
  cases p with
  | none =>
    obtain ⟨rfl, A, B, rfl, hA, hB⟩ := h
    refine ⟨(delK_all fun x hx => ?_).symm, ?_⟩
    · rcases List.mem_append.1 hx with hx | hx
      · exact .inl (hA x hx)
      · exact .inr (hB x hx)
    · rw [findK_append, findK_less (k := k) hA, findK_more (k := k) hB]; rfl
  | some p =>
    obtain ⟨A, B, rfl, rfl, h1, h2, hA, hB⟩ := h
    have e1 : delK A k = A := delK_all fun x hx => .inl (hA x hx)
    have e2 : delK B k = B := delK_all fun x hx => .inr (hB x hx)
    have e3 : klt (ky p) k = false := h1
    have e4 : klt k (ky p) = false := h2
    refine ⟨?_, (findK_mid (k := k) hA e3 e4).symm⟩
    unfold delK at *
    rw [List.filter_append, List.filter_cons, e1, e2]
    simp [e3, e4]
end Go.Proofs.Ytckplcmieelmpaa.W

namespace Go.Proofs.Ytckplcmieelmpaa.W
open Go.RowKit Go.Wb

theorem elemInt : Elem Try.prog 3 1 8 := ⟨by kernel_rfl, by kernel_rfl, by kernel_rfl⟩
/-- Two lists that grow together, since w. -/
structure Twin (B : Nat) (w wr : World) (tyA sA : Nat) (a5 a7 : Option Addr) (i c5 c7 : Nat) (cs : List Value) (bs : List Bool) : Prop where
  keep : Keep Nothing w wr
  rows : Accs B wr [⟨tyA, sA, a5, i, c5, cs⟩, ⟨4, 1, a7, i, c7, bs.map .bool⟩]
  hB : B ≤ w.heap.size

variable {B : Nat} {w wr : World} {tyA sA : Nat} {a5 a7 : Option Addr} {i c5 c7 : Nat} {cs : List Value} {bs : List Bool}
theorem Twin.start (w : World) (tyA sA : Nat) : Twin w.heap.size w w tyA sA none none 0 0 0 [] [] :=
  ⟨Keep.refl _ _, ((Accs.nil w.heap.size w).addNil (Nat.le_refl _) tyA sA).addNil (Nat.le_refl _) 4 1, Nat.le_refl _⟩
theorem Twin.quiet (h : Twin B w wr tyA sA a5 a7 i c5 c7 cs bs) {w' : World} (hk : Keep Nothing wr w') : Twin B w w' tyA sA a5 a7 i c5 c7 cs bs := ⟨h.keep.trans hk fun _ _ _ h => h, h.rows.quiet hk, h.hB⟩
/-- Behind the first append, then the second one. -/
theorem Twin.one (h : Twin B w wr tyA sA a5 a7 i c5 c7 cs bs) (hw : B = w.heap.size) (o : Obj) {W : World} {a' : Option Addr} {c' : Nat} {news : List Value} (hg : Grew (wr.alloc o) W tyA sA a5 a' i 1 c5 c' (cs ++ news)) (hl : news.length = 1 * sA) :
    Keep Nothing w W ∧ Accs B W [⟨tyA, sA, a', i + 1, c', cs ++ news⟩, ⟨4, 1, a7, i, c7, bs.map .bool⟩] := by
  have hs := h.keep.size
  obtain ⟨g8, k8⟩ := (h.rows.quiet (Keep.alloc _ _ o)).grow (by simp; omega) 0 rfl hg hl
  exact ⟨(h.keep.al _).trans k8 fun c o hc h => absurd h (by omega), by simpa [List.set] using g8⟩
theorem Twin.two {W W' : World} {a' a2 : Option Addr} {n c' c2 : Nat} {cs2 : List Value} (hB : B = w.heap.size) (h : Keep Nothing w W ∧ Accs B W [⟨tyA, sA, a', n, c', cs2⟩, ⟨4, 1, a7, i, c7, bs.map .bool⟩]) (o : Obj) {f : Bool} (hg : Grew (W.alloc o) W' 4 1 a7 a2 i 1 c7 c2 (bs.map .bool ++ [.bool f])) (hn : n = i + 1) :
    Twin B w W' tyA sA a' a2 (i + 1) c' c2 cs2 (bs ++ [f]) := by
  subst hn
  have hs := h.1.size
  obtain ⟨g8, k8⟩ := (h.2.quiet (Keep.alloc _ _ o)).grow (by simp; omega) 1 rfl hg rfl
  exact ⟨(h.1.al _).trans k8 fun c o hc h => absurd h (by omega), by simpa [List.set] using g8, by omega⟩

/-- The value that is found. -/
def foundV (l : List It) (k : Ky) : Int := ((findK l k).getD zeroHdr.emp).2
def WGetPost (w : World) (vs : List Int) (oks : List Bool) (e : Ending) (w' : World) : Prop :=
  ∃ a c a2 c2, e = .returned (.tuple #[.slice a vs.length c, .slice a2 oks.length c2]) ∧ Given w' a (vs.map (Value.int .i64)) ∧ Given w' a2 (oks.map .bool) ∧ Keep Nothing w w'

set_option maxRecDepth 100000 in
set_option maxHeartbeats 8000000 in
theorem wget_any {w : World} {a : Option Addr} {cap : Nat} {l : List It} (hg : Given w a (OE.all l)) (hl : l.length ≤ 4000000000000) (d : Int) (h1 : 2 ≤ d) (h2 : d ≤ 128) {ka : Option Addr} {kcap : Nat} {ks : List Ky} (hk : Given w ka (ks.map kv)) (hkl : ks.length ≤ 4000000000000) :
    Calls Try.prog 38 #[.int .i64 d, .slice a l.length cap, .slice ka ks.length kcap] w (WGetPost w (ks.map (foundV (sortK l))) (ks.map fun k => (findK (sortK l) k).isSome)) := by
  have hgr := Lib.hid (grow_any (cap := cap) hg hl d h1 h2)
  have HKS := Lib.hid hk
  have HKL := Lib.hid hkl
  clear hg hl hk
  go_enter Try.func38, Try.ntmps38
  go_wp2_with fail
  refine hgr.out.mono ?_
  rintro e w1 ⟨b, hr, H, L, F, s, rfl, hN, hits, hemp⟩
  have HN := Lib.hid hN
  have HI := Lib.hid hits
  have HEM := Lib.hid hemp
  clear hgr hN hits hemp
  unfold ptr
  go_wp2_with fail
  go_loopg [9, 10, 20] (ks.length + 1) (fun m v9 v10 v20 wr => ∃ (i : Nat) (a5 a7 : Option Addr) (c5 c7 : Nat), v9 = .slice a5 i c5 ∧ v10 = .slice a7 i c7 ∧ v20 = .int .i64 i ∧ i ≤ ks.length ∧ i + m = ks.length + 1 ∧ Twin w1.heap.size w1 wr 3 1 a5 a7 i c5 c7 ((ks.take i).map fun k => .int .i64 (foundV (sortK l) k)) ((ks.take i).map fun k => (findK (sortK l) k).isSome))
  case atStart => exact ⟨0, none, none, 0, 0, rfl, rfl, rfl, by omega, by omega, Twin.start w1 _ _⟩
  case round =>
    obtain ⟨i, a5, a7, c5, c7, rfl, rfl, rfl, hil, hik, hT⟩ := hrel
    have HT := Lib.hid hT
    clear hT
    by_cases hlt : i < ks.length
    · obtain ⟨kb, ko, hka, ck⟩ := ((HKS.out.keep HN.out.keep).keep HT.out.keep).cell (i := i) (by simpa using hlt)
      subst hka
      obtain ⟨t, ht⟩ : ∃ t, ks[i] = t := ⟨_, rfl⟩
      rw [show (ks.map kv)[i]'(by simpa using hlt) = kv t by simp [ht]] at ck
      have hx : ks[i]? = some t := by rw [← ht]; exact List.getElem?_eq_getElem hlt
      have HX := Lib.hid hx
      have hget := Lib.hid (mapGet_any (HN.out.tree.keep HT.out.keep) t)
      rw [HI.out, HEM.out] at hget
      clear hx ht
      obtain ⟨vv0, hv0⟩ : ∃ z : Int, z = foundV (sortK l) t := ⟨_, rfl⟩
      obtain ⟨ff, hff⟩ : ∃ f : Bool, f = (findK (sortK l) t).isSome := ⟨_, rfl⟩
      have HV := Lib.hid hv0
      have HF := Lib.hid hff
      have hget2 : Calls Try.prog 82 #[ptr b, kv t] wr fun e w' => e = .returned (.tuple #[.int .i64 vv0, .bool ff]) ∧ Keep Nothing wr w' := by
        rw [hv0, hff]; exact hget.out
      have HG2 := Lib.hid hget2
      clear hget hget2 hv0 hff
      unfold ptr kv at *
      go_upto_region 7 with (fail)
      go_upto_region 8 with (refine HG2.out.mono ?_; rintro e w2 ⟨rfl, hK2⟩; have HT2 := Lib.hid (HT.out.quiet hK2); clear hK2)
      have hB := HT2.out.hB
      have hro := ((HT2.out.rows.quiet (Keep.alloc Nothing w2 (.cells [Value.int .i64 vv0].toArray 3))).acc 0 _ rfl).row
      have hln := ((HT2.out.rows.quiet (Keep.alloc Nothing w2 (.cells [Value.int .i64 vv0].toArray 3))).acc 0 _ rfl).len
      have hnew := new_given w2 [Value.int .i64 vv0] 3
      have hone : ∀ u ∈ [Value.int .i64 vv0], u.oneCell' = true := by intro u hu; simp at hu; subst hu; rfl
      have hone2 : ∀ u ∈ [Value.bool ff], u.oneCell' = true := by intro u hu; simp at hu; subst hu; rfl
      have h5 : i ≤ c5 := (HT2.out.rows.acc 0 _ rfl).le
      have h7 : i ≤ c7 := (HT2.out.rows.acc 1 _ rfl).le
      have hkb := HKL.out
      clear ck HT
      go_wp2_with (first
        | (at_builtin; refine wpList_append_src rfl _ _ _ rfl 3 1 8 Try.underlying32 elemInt a5 i c5 _ (by rfl) hro hln (some ⟨w2.heap.size, 0, none⟩) 1 1 [.int .i64 vv0] (by rfl) (by omega) rfl hnew hone h5 (by simp only [maxLen]; omega) (by omega) ?_; intro a11 c11 W8 hg; have F8 := Lib.hid (HT2.out.one rfl _ hg rfl); have hro8 := ((F8.out.2.quiet (Keep.alloc Nothing W8 (.cells [Value.bool ff].toArray 4))).acc 1 _ rfl).row; have hln8 := ((F8.out.2.quiet (Keep.alloc Nothing W8 (.cells [Value.bool ff].toArray 4))).acc 1 _ rfl).len; have hnew8 := new_given W8 [Value.bool ff] 4; clear hg)
        | (at_builtin; refine wpList_append_src rfl _ _ _ rfl 4 1 1 Try.underlying51 elemBool a7 i c7 _ (by rfl) hro8 hln8 (some ⟨W8.heap.size, 0, none⟩) 1 1 [.bool ff] (by rfl) (by omega) rfl hnew8 hone2 h7 (by simp only [maxLen]; omega) (by omega) ?_; intro a12 c12 W9 hg; have F9 := Lib.hid (Twin.two rfl F8.out _ hg rfl); clear hg))
      go_roundg (ks.length - i)
      case measure => omega
      case rel =>
        refine ⟨i + 1, a11, a12, c11, c12, rfl, rfl, by go_num, by omega, by omega, ?_⟩
        have := F9.out
        rw [HV.out, HF.out] at this
        rw [List.take_add_one, HX.out]
        simpa using this
    · have hi : i = ks.length := by omega
      subst hi
      go_wp2_with fail
      go_ret2
      have hT := HT.out
      rw [List.take_of_length_le (Nat.le_refl _)] at hT
      refine ⟨a5, c5, a7, c7, by simp, ?_, ?_, HN.out.keep.trans hT.keep fun _ _ _ h => h⟩
      · rw [List.map_map]
        exact (hT.rows.acc 0 _ rfl).row.reads
      · exact (hT.rows.acc 1 _ rfl).row.reads
end Go.Proofs.Ytckplcmieelmpaa.W

namespace Go.Wb
open Go Go.RowKit
variable {α : Type}

/-- A node's record, its count one less. -/
def NRec.less (r : NRec α) : NRec α := { r with cnt := r.cnt - 1 }
/-- The counts of the nodes P are one less. -/
def decs (H : Store α) (P : List Nat) : Store α := fun m => if m ∈ P then (H m).map NRec.less else H m

variable {H : Store α} {P : List Nat}
theorem decs_nil : decs H [] = H := by funext m; simp [decs]
theorem decs_out {m : Nat} (h : m ∉ P) : decs H P m = H m := by simp [decs, h]
theorem decs_in {m : Nat} {r : NRec α} (h : m ∈ P) (hr : H m = some r) : decs H P m = some r.less := by simp [decs, h, hr]
theorem decs_snoc {n : Nat} {r : NRec α} (hr : H n = some r) : upd (decs H P) n (some r.less) = decs H (P ++ [n]) := by
  funext m
  by_cases e : m = n
  · subst e
    rw [upd_same, decs_in (by simp) hr]
  · rw [upd_ne _ _ e]
    simp [decs, e]
theorem decs_drop (nd : P.Nodup) {j n : Nat} {r : NRec α} (hj : P[j]? = some n) (hr : H n = some r) : upd (decs H (P.drop j)) n (some r) = decs H (P.drop (j + 1)) := by
  obtain ⟨hl, rfl⟩ := List.getElem?_eq_some_iff.1 hj
  have e : P.drop j = P[j] :: P.drop (j + 1) := List.drop_eq_getElem_cons hl
  have nd2 : (P.drop j).Nodup := List.Pairwise.sublist (List.drop_sublist _ _) nd
  rw [e] at nd2
  have h1 := (List.nodup_cons.1 nd2).1
  have key : ∀ m, m ≠ P[j] → (m ∈ P.drop j ↔ m ∈ P.drop (j + 1)) := fun m hm => by
    rw [e, List.mem_cons]
    exact ⟨fun h => h.resolve_left hm, .inr⟩
  funext m
  by_cases h : m = P[j]
  · subst h
    rw [upd_same, decs_out h1, hr]
  · rw [upd_ne _ _ h]
    simp only [decs, key m h]
theorem decs_dom {m : Nat} {q : NRec α} (h : decs H P m = some q) : ∃ r, H m = some r ∧ q.items = r.items ∧ q.kids = r.kids ∧ q.iso = r.iso := by
  unfold decs at h
  split at h
  · cases hr : H m with
    | none => rw [hr] at h; cases h
    | some r =>
      rw [hr] at h
      simp only [Option.map_some, Option.some.injEq] at h
      subst h
      exact ⟨r, rfl, rfl, rfl, rfl⟩
  · exact ⟨q, h, rfl, rfl, rfl⟩
theorem decs_some {m : Nat} {r : NRec α} (h : H m = some r) : ∃ q, decs H P m = some q ∧ q.items = r.items ∧ q.kids = r.kids ∧ q.iso = r.iso ∧ (q.cnt = r.cnt ∨ q.cnt = r.cnt - 1) := by
  by_cases hm : m ∈ P
  · exact ⟨_, decs_in hm h, rfl, rfl, rfl, .inr rfl⟩
  · exact ⟨r, (decs_out hm).trans h, rfl, rfl, rfl, .inl rfl⟩

/-- What is around a node of a tree: whatever is put in its place, with one item less, the whole is a tree with one item less. -/
def Plug (H : Store α) (iso : Int) (mn mx : Nat) (P : List Nat) (h0 n0 l0 : Nat) (F : List Nat) (l h n : Nat) (t : Tr α) (G : List Nat) (C D : List α) : Prop :=
  ∀ (H' : Store α) (t' : Tr α), (∀ m, m ∉ G → H' m = decs H P m) → Rep H' iso h n t' G → (flat h t').length + 1 = (flat h t).length → wfr l mn mx h t' →
    ∃ t0', Rep H' iso h0 n0 t0' F ∧ wfr l0 mn mx h0 t0' ∧ flat h0 t0' = C ++ flat h t' ++ D

theorem Plug.start (H : Store α) (iso : Int) (mn mx h0 n0 l0 : Nat) (F : List Nat) (t : Tr α) : Plug H iso mn mx [] h0 n0 l0 F l0 h0 n0 t F [] [] :=
  fun _ t' _ hr _ hw => ⟨t', hr, hw, by simp⟩

theorem RepL.notin {R : Nat → Tr α → List Nat → Prop} {ns : List Nat} {ts : List (Tr α)} {F : List Nat} {m : Nat} (_ : RepL R ns ts F) (h : m ∉ F) (hR : ∀ n t G, R n t G → n ∈ G) (h2 : RepL R ns ts F) : m ∉ ns := by
  induction ns generalizing ts F with
  | nil => simp
  | cons n ns ih =>
    cases ts with
    | nil => exact h2.elim
    | cons t ts =>
      obtain ⟨F1, F2, h1, h3, rfl⟩ := h2
      simp only [List.mem_append, not_or] at h
      simp only [List.mem_cons, not_or]
      exact ⟨fun e => h.1 (e ▸ hR n t F1 h1), ih h3 h.2 h3⟩

theorem Plug.down {iso : Int} {mn mx h0 n0 l0 l h n i c : Nat} {F G N1 N2 F1 Fk F2 : List Nat} {t k : Tr α} {C D : List α} {r : NRec α} {K1 K2 : List (Tr α)}
    (hp : Plug H iso mn mx P h0 n0 l0 F l (h + 1) n t G C D) (nd : G.Nodup) (hnP : n ∉ P) (wl_ : l ≤ t.its.length)
    (A : Around (decs H P) iso mn mx h n t G r i k N1 N2 c K1 K2 F1 Fk F2) :
    Plug H iso mn mx (P ++ [n]) h0 n0 l0 F mn h c k Fk (C ++ wl (K1.map (flat h)) (r.items.take i)) (wr (r.items.drop i) (K2.map (flat h)) ++ D) := by
  intro H' k' hH' hR' hlen hwf
  have hG := A.Fq
  have nd1 := nd
  rw [hG] at nd1
  have hn1 := (List.nodup_cons.1 nd1).1
  have nd2 := (List.nodup_cons.1 nd1).2
  obtain ⟨nd3, nd4, nd5⟩ := List.nodup_append.1 nd2
  obtain ⟨nd6, nd7, nd8⟩ := List.nodup_append.1 nd3
  simp only [List.mem_append, not_or] at hn1
  obtain ⟨⟨hn1, hnk⟩, hn2⟩ := hn1
  have hrec : H n = some r := by have := A.rec_; rwa [decs_out hnP] at this
  have o1 : ∀ m, m ∈ F1 → H' m = decs H P m := fun m hm => by
    have e : m ≠ n := fun e => hn1 (e ▸ hm)
    rw [hH' m fun hk => nd8 m hm m hk rfl]
    simp [decs, e]
  have o2 : ∀ m, m ∈ F2 → H' m = decs H P m := fun m hm => by
    have e : m ≠ n := fun e => hn2 (e ▸ hm)
    rw [hH' m fun hk => nd5 m (List.mem_append.2 (.inr hk)) m hm rfl]
    simp [decs, e]
  have r1 : RepL (Rep H' iso h) N1 K1 F1 := A.r1.imp fun a t G hG (hR : Rep _ iso h a t G) => hR.congr fun m hm => o1 m (hG m hm)
  have r2 : RepL (Rep H' iso h) N2 K2 F2 := A.r2.imp fun a t G hG (hR : Rep _ iso h a t G) => hR.congr fun m hm => o2 m (hG m hm)
  have lr := A.lr
  have e0 : r.items.take i ++ r.items.drop i = r.items := List.take_append_drop _ _
  have e1 : ∀ x : Tr α, flat (h + 1) (.node r.items (K1 ++ x :: K2)) = wl (K1.map (flat h)) (r.items.take i) ++ flat h x ++ wr (r.items.drop i) (K2.map (flat h)) := fun x => by
    have := wl_wr (K1.map (flat h)) (r.items.take i) (flat h x) (r.items.drop i) (K2.map (flat h)) (by simp [A.lk]; omega)
    simp only [flat, Tr.its, Tr.ks, List.map_append, List.map_cons]
    rw [← this, e0]
  have htq := A.tq
  have hlen2 : (flat (h + 1) (.node r.items (K1 ++ k' :: K2))).length + 1 = (flat (h + 1) t).length := by
    rw [htq, e1, e1]
    simp only [List.length_append]
    omega
  have hitl : t.its.length = r.items.length := by rw [htq]; rfl
  obtain ⟨t0', g1, g2, g3⟩ := hp H' (.node r.items (K1 ++ k' :: K2)) (fun m hm => by
      rw [hG] at hm
      simp only [List.mem_cons, List.mem_append, not_or] at hm
      rw [hH' m hm.2.1.2]
      simp [decs, hm.1]) ⟨r.less, N1 ++ c :: N2, F1 ++ (Fk ++ F2), by rw [hH' n hnk]; exact decs_in (by simp) hrec, A.isoq, rfl, A.kids, by
        have := A.cnt
        show r.cnt - 1 = _
        omega, RepL.join (by obtain h3 : RepL (Rep H' iso h) ([c] ++ N2) ([k'] ++ K2) (Fk ++ F2) := RepL.join r2 (RepL.one hR'); exact h3) r1, by rw [hG]; simp⟩ hlen2 ⟨by rw [hitl] at wl_; exact wl_, A.le, by simp only [Tr.ks, Tr.its, List.length_append, List.length_cons, A.lk]; omega, fun q hq => by
        simp only [Tr.ks, List.mem_append, List.mem_cons] at hq
        rcases hq with hq | rfl | hq
        · exact A.wo q (by simp [hq])
        · exact hwf
        · exact A.wo q (by simp [hq])⟩
  refine ⟨t0', g1, g2, ?_⟩
  rw [g3, e1]
  simp

/-- The way down: its nodes, and at which children it goes on. -/
structure Trail (H : Store α) (n0 : Nat) (Q : List Nat) (I : List Nat) : Prop where
  root : Q[0]? = some n0
  nxt : ∀ j a b, Q[j]? = some a → Q[j + 1]? = some b → ∃ r ks i, H a = some r ∧ r.kids = some ks ∧ I[j]? = some i ∧ ks[i]? = some b
theorem Trail.start (H : Store α) (n0 : Nat) : Trail H n0 ([] ++ [n0]) [] := ⟨rfl, fun j a b _ hb => by simp at hb⟩
theorem Trail.snoc {n0 n c i : Nat} {I : List Nat} {r : NRec α} {ks : List Nat} (h : Trail H n0 (P ++ [n]) I) (hl : I.length = P.length) (hr : H n = some r) (hk : r.kids = some ks) (hi : ks[i]? = some c) : Trail H n0 (P ++ [n] ++ [c]) (I ++ [i]) := by
  refine ⟨?_, fun j a b ha hb => ?_⟩
  · rw [List.getElem?_append_left (by simp)]; exact h.root
  · by_cases hj : j < P.length
    · rw [List.getElem?_append_left (by simp; omega)] at ha
      rw [List.getElem?_append_left (by simp; omega)] at hb
      obtain ⟨r', ks', i', g1, g2, g3, g4⟩ := h.nxt j a b ha hb
      exact ⟨r', ks', i', g1, g2, by rw [List.getElem?_append_left (by omega)]; exact g3, g4⟩
    · have hj2 : j = P.length := by
        obtain ⟨hlt, _⟩ := List.getElem?_eq_some_iff.1 hb
        simp at hlt
        omega
      subst hj2
      rw [List.getElem?_append_left (by simp)] at ha
      simp at ha hb
      subst ha
      subst hb
      exact ⟨r, ks, i, hr, hk, by rw [← hl]; simp, hi⟩

theorem wl_len_snoc (K : List (List α)) (I : List α) (k : List α) (x : α) (h : K.length = I.length) : wl (K ++ [k]) (I ++ [x]) = wl K I ++ k ++ [x] := by
  induction K generalizing I with
  | nil => cases I with
    | nil => simp [wl]
    | cons _ _ => simp at h
  | cons a K ih => cases I with
    | nil => simp at h
    | cons y I =>
      simp only [List.cons_append, wl]
      rw [ih I (by simpa using h)]
      simp

/-- How many items there are ahead of child i. -/
def aheadN (h : Nat) (t : Tr α) (i : Nat) : Nat := (wl ((t.ks.take i).map (flat h)) (t.its.take i)).length
theorem aheadN_zero (h : Nat) (t : Tr α) : aheadN h t 0 = 0 := by simp [aheadN, wl]
theorem ahead_succ {h : Nat} {t k : Tr α} {i : Nat} (hk : t.ks.length = t.its.length + 1) (hi : i < t.its.length) (hc : t.ks[i]? = some k) : aheadN h t (i + 1) = aheadN h t i + (flat h k).length + 1 := by
  unfold aheadN
  have hx : t.its[i]? = some t.its[i] := List.getElem?_eq_getElem hi
  rw [List.take_add_one, List.take_add_one, hc, hx, Option.toList_some, Option.toList_some, List.map_append, List.map_cons, List.map_nil, wl_len_snoc _ _ _ _ (by simp; omega)]
  simp only [List.length_append, List.length_cons, List.length_nil]
theorem ahead_flat {h : Nat} {t k : Tr α} {i : Nat} (hk : t.ks.length = t.its.length + 1) (hc : t.ks[i]? = some k) : flat (h + 1) t = wl ((t.ks.take i).map (flat h)) (t.its.take i) ++ flat h k ++ wr (t.its.drop i) ((t.ks.drop (i + 1)).map (flat h)) := by
  obtain ⟨its, ks⟩ := t
  simp only [Tr.its, Tr.ks] at *
  obtain ⟨hil, _⟩ := List.getElem?_eq_some_iff.1 hc
  obtain ⟨K1, k0, K2, rfl, hK1, hk0⟩ := split_at ks i hil
  rw [hc] at hk0
  cases hk0
  subst hK1
  have e0 : its.take K1.length ++ its.drop K1.length = its := List.take_append_drop _ _
  have t1 : (K1 ++ k :: K2).take K1.length = K1 := by simp
  have t2 : (K1 ++ k :: K2).drop (K1.length + 1) = K2 := by simp
  rw [t1, t2]
  have := wl_wr (K1.map (flat h)) (its.take K1.length) (flat h k) (its.drop K1.length) (K2.map (flat h)) (by simp at hk ⊢; omega)
  simp only [flat, Tr.its, Tr.ks, List.map_append, List.map_cons]
  rw [← this, e0]
theorem ahead_item {h : Nat} {t k : Tr α} {x : α} {i : Nat} (hk : t.ks.length = t.its.length + 1) (hc : t.ks[i]? = some k) (hx : t.its[i]? = some x) : (flat (h + 1) t)[aheadN h t i + (flat h k).length]? = some x := by
  obtain ⟨hxl, hxe⟩ := List.getElem?_eq_some_iff.1 hx
  have e := List.drop_eq_getElem_cons hxl
  rw [hxe] at e
  have e2 : t.ks.drop (i + 1) = t.ks[i + 1] :: t.ks.drop (i + 1 + 1) := List.drop_eq_getElem_cons (by omega)
  rw [ahead_flat hk hc, e, e2]
  simp only [List.map_cons, wr, List.cons_append]
  rw [List.getElem?_append_right (by simp [aheadN])]
  simp [aheadN]
theorem ahead_last {h : Nat} {t k : Tr α} (hk : t.ks.length = t.its.length + 1) (hc : t.ks[t.its.length]? = some k) : (flat (h + 1) t).length = aheadN h t t.its.length + (flat h k).length := by
  rw [ahead_flat hk hc, List.drop_length, List.drop_eq_nil_of_le (by omega)]
  simp [wr, aheadN]

/-- A tree is no higher than its items. -/
theorem tall {mn mx : Nat} (hm : 1 ≤ mn) : ∀ {h l : Nat} {t : Tr α}, wfr l mn mx h t → 1 ≤ l → h + 1 ≤ (flat h t).length
  | 0, l, t, hw, hl => by
    have := hw.1
    simp only [flat]
    omega
  | h + 1, l, t, hw, hl => by
    obtain ⟨its, ks⟩ := t
    obtain ⟨w1, w2, w3, w4⟩ := hw
    simp only [Tr.its, Tr.ks] at w1 w2 w3 w4
    cases ks with
    | nil => simp at w3
    | cons k ks =>
      have h1 := tall hm (w4 k (by simp)) hm
      simp only [flat, Tr.its, Tr.ks, List.map_cons, weave, List.length_append]
      rw [wr_len its (ks.map (flat h)) (by simpa using w3)]
      omega

theorem RepL.inside {R : Nat → Tr α → List Nat → Prop} : ∀ {ns : List Nat} {ts : List (Tr α)} {F : List Nat}, RepL R ns ts F → ∀ m, m ∈ F → ∃ n t G, t ∈ ts ∧ R n t G ∧ m ∈ G
  | [], [], _, h, m, hm => by obtain rfl : _ = [] := h; cases hm
  | n :: ns, t :: ts, F, h, m, hm => by
    obtain ⟨F1, F2, h1, h2, rfl⟩ := h
    rcases List.mem_append.1 hm with hm | hm
    · exact ⟨n, t, F1, by simp, h1, hm⟩
    · obtain ⟨n', t', G, g1, g2, g3⟩ := RepL.inside h2 m hm
      exact ⟨n', t', G, by simp [g1], g2, g3⟩
  | [], _ :: _, _, h, _, _ => h.elim
  | _ :: _, [], _, h, _, _ => h.elim
/-- A node's count is at most that of the whole. -/
theorem Rep.cnt_le {H : Store α} {c : Int} {mn mx : Nat} : ∀ {h n l : Nat} {t : Tr α} {F : List Nat}, Rep H c h n t F → wfr l mn mx h t → ∀ m, m ∈ F → ∀ r, H m = some r → 0 ≤ r.cnt ∧ r.cnt ≤ ((flat h t).length : Int)
  | 0, n, l, t, F, hr, _, m, hm, r, hmr => by
    obtain ⟨q, h1, _, _, _, _, h6, rfl⟩ := hr
    obtain rfl : m = n := by simpa using hm
    rw [h1] at hmr
    cases hmr
    omega
  | h + 1, n, l, t, F, hr, hw, m, hm, r, hmr => by
    obtain ⟨q, ns, F', h1, _, _, _, h5, h6, rfl⟩ := hr
    rcases List.mem_cons.1 hm with rfl | hm
    · rw [h1] at hmr
      cases hmr
      omega
    · obtain ⟨n', k, G, g1, g2, g3⟩ := h6.inside m hm
      have h7 := Rep.cnt_le g2 (hw.2.2.2 k g1) m g3 r hmr
      obtain ⟨i, hi, rfl⟩ := List.getElem_of_mem g1
      have h8 := congrArg List.length (ahead_flat (h := h) hw.2.2.1 (List.getElem?_eq_getElem hi))
      simp only [List.length_append] at h8
      omega

/-- A change of cells of a tree's nodes that leaves them as they were, ahead of a step. -/
theorem TStep.pre2 {T : Ty} {E : Enc α} {X : Nat → Nat → Prop} {w W w' : World} {H H' : Store α} {L L' : Nat → Lay} {F F' : List Nat} (h : TStep T E X W H L F w' H' L' F') (hk : Keep (FP T H L F) w W) : TStep T E X w H L F w' H' L' F' :=
  ⟨h.mem, (hk.mono fun _ _ _ h => .inl h).trans h.keep fun _ _ _ h => h, h.out, fun m hm => (h.new m hm).imp id fun h1 => Nat.le_trans hk.size h1, fun b o hb hf => h.fp b o (Nat.lt_of_lt_of_le hb hk.size) hf, h.only⟩
end Go.Wb

namespace Go.Wb
open Go Go.RowKit

/-- Something is appended to a row of any block. -/
theorem run_append_cross0 {P : Program} (y0 : Nat) (w : World) (t ty e : TypeId) (i : TypeInfo) (z : Value) (ht : P.underlying t = some (.slice e)) (hi : P.info? e = some i) (hz : i.zero = some z)
    (hzs : z.cells.size = i.size)
    (a : Option Addr) (n cap : Nat) (xs : List Value) (hrow : Row w y0 i.size a cap xs) (hn : xs.length = n * i.size)
    (ad : Addr) (m c : Nat) (news : List Value) (hl : news.length = m * i.size) (hnews : ∀ j u, news[j]? = some u → w.cell? (ad.add j) = some u) (h1 : ∀ u ∈ news, u.oneCell' = true)
    (hm : 0 < m) (hle : n ≤ cap) (h63 : n + m ≤ maxLen) (hbytes : (n + m) * i.bytes ≤ 140737488355328) :
    ∃ a' cap' w' y', (Builtin.append_ #[t, t] ty #[.slice a n cap, .slice (some ad) m c]).run P w = .ok (.slice a' (n + m) cap') w' ∧ Grew w w' y' i.size a a' n m cap cap' (xs ++ news) := by
  have hsmall : n + m ≤ 9223372036854775807 := by simp only [maxLen] at h63; omega
  have hlen : (xs ++ news).length = (n + m) * i.size := by rw [List.length_append, hn, hl, Nat.add_mul]
  have grown : ∀ (old : Nat), Grew w (w.drew.alloc (.cells (xs.toArray ++ news.toArray ++ Builtin.zeroCells z.cells (grownCap w (n + m) old e - (n + m))) e)) e i.size a (some ⟨w.heap.size, 0, none⟩) n m cap (grownCap w (n + m) old e) (xs ++ news) := by
    intro old
    have hge := grownCap_ge w (n + m) old e
    refine ⟨.inr ⟨w.heap.size, 0, _, rfl, heap_alloc_new w.drew _, ?_, ?_, ?_⟩, ?_, ?_, hge⟩
    · rw [hlen]; exact Nat.mul_le_mul_right _ hge
    · simp only [Array.size_append, List.size_toArray, size_zeroCells, hzs, hn, hl, ← Nat.add_mul, Nat.zero_add]
      apply Nat.le_of_eq
      congr 1
      omega
    · intro j v hj
      rw [Nat.zero_add]
      have hjl : j < (xs ++ news).length := by
        rcases Nat.lt_or_ge j (xs ++ news).length with h | h
        · exact h
        · simp [List.getElem?_eq_none h] at hj
      rw [Array.getElem?_append_left (by simp only [Array.size_append, List.size_toArray]; rw [List.length_append] at hjl; exact hjl)]
      simpa using hj
    · exact (Keep.drew _ w).trans (Keep.alloc _ _ _) (fun _ _ _ h => h)
    · rintro b o ⟨x, y, he, rfl, _, _⟩
      right
      obtain ⟨rfl, rfl⟩ : w.heap.size = b ∧ 0 = y := by simpa using he
      exact ⟨rfl, by simp⟩
  by_cases hroom : n + m ≤ cap
  · -- there is room
    rcases hrow with ⟨_, h0, _⟩ | ⟨b, o, arr, rfl, hb, hc, hsz, hcs⟩
    · omega
    · have hfit : n * i.size + news.length ≤ cap * i.size := by rw [hl, ← Nat.add_mul]; exact Nat.mul_le_mul_right _ hroom
      have hf := run_firstCells_some (P := P) w i.size m ad m c news hl hnews
      have hth : ∀ j, j < news.length → (w.cell? ⟨b, o + n * i.size + 0 + j, none⟩).isSome = true := by
        intro j hj
        have hlt : o + n * i.size + j < arr.size := by omega
        simp [World.cell?, hb, hlt]
      have hfz : ∀ j, j < news.length → w.frozen? ⟨b, o + n * i.size + 0 + j, none⟩ = false := by
        intro j hj
        simp [World.frozen?, hb]
      have hst := run_storeCells_cells (P := P) b (o + n * i.size) news 0 w hth hfz h1
      simp only [Nat.add_zero] at hst hth
      have hadd : (⟨b, o, none⟩ : Addr).add (n * i.size) = ⟨b, o + n * i.size, none⟩ := by unfold Addr.add; split <;> simp_all
      refine ⟨some ⟨b, o, none⟩, cap, w.setCells b (o + n * i.size) news, y0, ?_, ?_⟩
      · simp [Builtin.append_, run_underlying ht, sizeOf, typeInfo, hi, Builtin.lenOf, hroom, hf, hadd, hst]
      · have hk := Keep.setCells (S := fun b' o' => ∃ x y, (some (⟨b, o, none⟩ : Addr)) = some ⟨x, y, none⟩ ∧ b' = x ∧ y + n * i.size ≤ o' ∧ o' < y + cap * i.size) b news (o + n * i.size) w (fun j hj => ⟨b, o, rfl, rfl, by omega, by omega⟩)
        refine ⟨?_, hk, fun _ _ h => .inl h, hroom⟩
        obtain ⟨c', e2, e3, _⟩ := hk.at_ hb
        have hlc : (xs ++ news).length ≤ cap * i.size := by rw [List.length_append]; omega
        refine .inr ⟨b, o, c', rfl, e2, hlc, by omega, fun j v hj => ?_⟩
        have hcell : ∀ q, (w.setCells b (o + n * i.size) news).cell? ⟨b, q, none⟩ = c'[q]? := by intro q; simp [World.cell?, e2]
        rw [← hcell]
        refine row_append (f := fun q => (w.setCells b (o + n * i.size) news).cell? ⟨b, q, none⟩) (o := o) hn hj (fun k u hk => ?_) (fun k u hk => ?_)
        · have hlt : k < xs.length := (List.getElem?_eq_some_iff.1 hk).1
          refine (World.cell?_setCells_out b news (o + n * i.size) w ⟨b, o + k, none⟩ (fun _ _ => .inl (by show o + k < o + n * i.size; omega))).trans ?_
          simp [World.cell?, hb, hcs k u hk]
        · obtain ⟨hk', rfl⟩ := List.getElem?_eq_some_iff.1 hk
          have := World.cell?_setCells_in b news (o + n * i.size) w (fun j hj => hth j hj) k hk'
          rwa [Nat.add_assoc] at this
  · rcases hrow with ⟨rfl, rfl, rfl⟩ | ⟨b, o, arr, rfl, hb, hc, hsz, hcs⟩
    · obtain rfl : n = 0 := by omega
      have hr := run_append_nil (P := P) w t ty e i z ht hi hz ad m c news hl hnews (by omega) (by omega) (by have hb := hbytes; simp only [Nat.zero_add] at hb; omega)
      have hg := grown 0
      simp only [Nat.zero_add, List.nil_append, Array.empty_append] at hg ⊢
      exact ⟨_, _, _, e, hr, hg⟩
    · have holds : ∀ j u, xs[j]? = some u → w.cell? ((⟨b, o, none⟩ : Addr).add j) = some u := by
        intro j u hj
        have hadd : (⟨b, o, none⟩ : Addr).add j = ⟨b, o + j, none⟩ := by unfold Addr.add; split <;> simp_all
        rw [hadd]
        simp [World.cell?, hb, hcs j u hj]
      have hr := run_append_grow (P := P) w t ty e i z ht hi hz ⟨b, o, none⟩ n cap xs hn holds ad m c news hl hnews (by omega) (by omega) (growslice_fits (by omega) hbytes)
      exact ⟨_, _, _, e, hr, grown cap⟩

theorem run_append_cross {P : Program} (y0 : Nat) (w : World) (t ty e : TypeId) (s b : Nat) (ht : P.underlying t = some (.slice e)) (he : Elem P e s b)
    (a : Option Addr) (n cap : Nat) (xs : List Value) (hrow : Row w y0 s a cap xs) (hn : xs.length = n * s)
    (ad : Addr) (m c : Nat) (news : List Value) (hl : news.length = m * s) (hnews : ∀ j u, news[j]? = some u → w.cell? (ad.add j) = some u) (h1 : ∀ u ∈ news, u.oneCell' = true)
    (hm : 0 < m) (hle : n ≤ cap) (h63 : n + m ≤ maxLen) (hbytes : (n + m) * b ≤ 140737488355328) :
    ∃ a' cap' w' y', (Builtin.append_ #[t, t] ty #[.slice a n cap, .slice (some ad) m c]).run P w = .ok (.slice a' (n + m) cap') w' ∧ Grew w w' y' s a a' n m cap cap' (xs ++ news) := by
  obtain ⟨h2, h3, h4⟩ := he
  cases hi : P.info? e with
  | none => rw [hi] at h2; cases h2
  | some i =>
    rw [hi] at h2 h3 h4
    simp only [Option.map_some, Option.some.injEq, Option.bind_some] at h2 h3 h4
    subst h2
    subst h3
    cases hz : i.zero with
    | none => rw [hz] at h4; cases h4
    | some z =>
      rw [hz] at h4
      exact run_append_cross0 y0 w t ty e i z ht hi hz (by simpa using h4) a n cap xs hrow hn ad m c news hl hnews h1 hm hle h63 hbytes

theorem wpList_append_cross {P : Program} {w : World} {ops : Array Oper} {rest : List Oper} {o : Oper} {a : Act} {Q : Exit → Act → World → Prop} (hgd : o.guard = none) (s x : Operand) (t : TypeId)
    (ho : o.op = .call { callee := .builtin .append, args := #[s, x], argTypes := #[t, t] })
    (y0 : Nat) (e : TypeId) (sz b : Nat) (ht : P.underlying t = some (.slice e)) (he : Elem P e sz b)
    (aa : Option Addr) (n cap : Nat) (xs : List Value) (hs : a.eval s = .slice aa n cap) (hrow : Row w y0 sz aa cap xs) (hn : xs.length = n * sz)
    (ad : Addr) (m c : Nat) (news : List Value) (hx : a.eval x = .slice (some ad) m c) (hl : news.length = m * sz) (hnews : ∀ j u, news[j]? = some u → w.cell? (ad.add j) = some u) (h1 : ∀ u ∈ news, u.oneCell' = true)
    (hm : 0 < m) (hle : n ≤ cap) (h63 : n + m ≤ maxLen) (hbytes : (n + m) * b ≤ 140737488355328)
    (h : ∀ a' cap' w' y', Grew w w' y' sz aa a' n m cap cap' (xs ++ news) → wpList P ops Q rest (a.put o.dst (.slice a' (n + m) cap')) w') : wpList P ops Q (o :: rest) a w := by
  refine wpList_plain hgd fun K hK => ?_
  obtain ⟨a', cap', w', y', hr, hg⟩ := run_append_cross (P := P) y0 w t o.type e sz b ht he aa n cap xs hrow hn ad m c news hl hnews h1 hm hle h63 hbytes
  unfold Oper.wp execOp
  simp only [ho, resolve, invoke, builtin, Sem.run_bind, Sem.run_pure, Result.andThen_ok, List.map_toArray, List.map_cons, List.map_nil, hs, hx, hr]
  exact hK _ _ (h a' cap' w' y' hg)

/-- A list of small numbers as bytes. -/
def byteV (i : Nat) : Value := .int .u8 i
/-- A growing list of bytes, in blocks from q on but for x. -/
structure PathAt (q x : Nat) (w : World) (a : Option Addr) (cap : Nat) (I : List Nat) : Prop where
  row : ∃ y, Row w y 1 a cap (I.map byteV)
  le : I.length ≤ cap
  own : ∀ b o, rowFp a (cap * 1) b o → q ≤ b ∧ b ≠ x
theorem PathAt.calm {q x : Nat} {w w' : World} {a : Option Addr} {cap : Nat} {I : List Nat} (h : PathAt q x w a cap I) {S : Nat → Nat → Prop} (hk : Keep S w w') (hS : ∀ b o, q ≤ b → b ≠ x → ¬ S b o) : PathAt q x w' a cap I := by
  obtain ⟨y, hy⟩ := h.row
  exact ⟨⟨y, hy.keep' hk fun b o hf => hS b o (h.own b o hf).1 (h.own b o hf).2⟩, h.le, h.own⟩
theorem PathAt.grow {q x y' : Nat} {w w' : World} {a a' : Option Addr} {cap cap' : Nat} {I : List Nat} {i : Nat} (h : PathAt q x w a cap I) (hq : q ≤ w.heap.size) (hx : x < w.heap.size) (hg : Grew w w' y' 1 a a' I.length 1 cap cap' (I.map byteV ++ [byteV i])) : PathAt q x w' a' cap' (I ++ [i]) ∧ Keep (fun b _ => q ≤ b ∧ b ≠ x) w w' := by
  refine ⟨⟨⟨y', by have := hg.row; simpa using this⟩, by have := hg.cap; simpa using this, fun b o hf => ?_⟩, hg.keep.mono fun b o _ ⟨c, d, e1, e2, e3, e4⟩ => h.own b o ⟨c, d, e1, e2, by omega, e4⟩⟩
  rcases hg.fp b o hf with h1 | ⟨h1, _⟩
  · exact h.own b o h1
  · omega
theorem PathAt.cell {q x : Nat} {w : World} {a : Option Addr} {cap : Nat} {I : List Nat} (h : PathAt q x w a cap I) {j i : Nat} (hj : I[j]? = some i) : ∃ b o, a = some ⟨b, o, none⟩ ∧ w.cell? ⟨b, o + j, none⟩ = some (byteV i) := by
  obtain ⟨y, hy⟩ := h.row
  obtain ⟨hl, _⟩ := List.getElem?_eq_some_iff.1 hj
  obtain ⟨b, o, ha, _⟩ := hy.form (by simp; omega)
  subst ha
  exact ⟨b, o, rfl, hy.cell (by simp [hj])⟩
end Go.Wb

namespace Go.Proofs.Ytckplcmieelmpaa.W
open Go.RowKit Go.Wb

/-- The item at an index, and the list without it. -/
def atI (l : List It) (i : Int) : Option It := if 0 ≤ i then l[i.toNat]? else none
def cutI (l : List It) (i : Int) : List It := if 0 ≤ i then l.eraseIdx i.toNat else l
theorem atI_nat (l : List It) (i : Nat) : atI l i = l[i]? := by simp [atI]
theorem cutI_nat (l : List It) (i : Nat) : cutI l i = l.eraseIdx i := by simp [cutI]
theorem atI_out {l : List It} {i : Int} (h : i < 0 ∨ (l.length : Int) ≤ i) : atI l i = none ∧ cutI l i = l := by
  unfold atI cutI
  split
  · have : l.length ≤ i.toNat := by omega
    exact ⟨List.getElem?_eq_none this, List.eraseIdx_of_length_le this⟩
  · exact ⟨rfl, rfl⟩

/-- What deleting at an index leaves of a tree. -/
def DatT (w : World) (b : Nat) (hr : HRec) (H : Store It) (L : Nat → Lay) (F : List Nat) (mn mx : Nat) (s : Sh) (i : Int) (e : Ending) (w' : World) : Prop :=
  ∃ hr' H' L' F' s', e = .returned (.tuple #[kv (ky (Option.getD (atI (its s) i) hr.emp)), vv (Option.getD (atI (its s) i) hr.emp), .bool (atI (its s) i).isSome]) ∧ TStep TT E (fun c _ => c = b) w H L F w' H' L' F' ∧ TreeAt w' b hr' H' L' F' mn mx s' ∧ its s' = cutI (its s) i ∧
    hr'.iso = hr.iso ∧ hr'.ctr = hr.ctr ∧ hr'.emp = hr.emp

/-- The way down has come to node n; its count and those below it are right. -/
structure Down (w wr : World) (iso : Int) (H : Store It) (L : Nat → Lay) (F : List Nat) (mn mx h0 n0 : Nat) (t0 : Tr It) (i0 : Nat) (P I : List Nat) (h n l : Nat) (t : Tr It) (G : List Nat) (C D : List It) (idx : Nat) : Prop where
  keep : Keep (FP TT H L F) w wr
  mem : Mem TT E wr (decs H P) L
  rep : Rep (decs H P) iso h n t G
  wf : wfr l mn mx h t
  nd : G.Nodup
  ndP : P.Nodup
  out : ∀ m, m ∈ P → m ∉ G
  dom : ∀ m, m ∈ P ++ G → m ∈ F
  plug : Plug H iso mn mx P h0 n0 (if h0 = 0 then 0 else 1) F l h n t G C D
  fl : flat h0 t0 = C ++ flat h t ++ D
  pos : i0 = C.length + idx
  lt : idx < (flat h t).length
  trail : Trail H n0 (P ++ [n]) I
  lenI : I.length = P.length
  hp : h + P.length = h0
  lc : l = mn ∨ (l = 0 ∧ h = 0) ∨ (h ≠ 0 ∧ l = 1)

variable {w wr : World} {iso : Int} {H : Store It} {L : Nat → Lay} {F : List Nat} {mn mx h0 n0 : Nat} {t0 : Tr It} {i0 : Nat} {P I : List Nat} {h n l : Nat} {t : Tr It} {G : List Nat} {C D : List It} {idx : Nat}

theorem Down.start (hk : Keep Nothing w wr) (hm : Mem TT E w H L) (hr : Rep H iso h0 n0 t0 F) (wf : wfr 1 mn mx h0 t0) (nd : F.Nodup) (hi : i0 < (flat h0 t0).length) :
    Down w wr iso H L F mn mx h0 n0 t0 i0 [] [] h0 n0 (if h0 = 0 then 0 else 1) t0 F [] [] i0 := by
  refine ⟨hk.mono fun _ _ _ h => h.elim, by rw [decs_nil]; exact hm.keepS hk fun _ _ _ _ _ _ h => h, by rw [decs_nil]; exact hr, ?_, nd, by simp, fun m hm => by (cases hm), fun m hm => by simpa using hm, Plug.start _ _ _ _ _ _ _ _ _, by simp, by simp, hi, Trail.start _ _, rfl, by simp, ?_⟩
  · split
    · exact wf.weaken (Nat.zero_le _)
    · exact wf
  · by_cases e : h0 = 0
    · simp [e]
    · simp [e]

/-- The node that the way has come to. -/
theorem Down.here (d : Down w wr iso H L F mn mx h0 n0 t0 i0 P I h n l t G C D idx) : n ∉ P ∧ n ∈ G ∧ n ∈ F ∧ ∃ r, H n = some r ∧ decs H P n = some r ∧ r.iso = iso ∧ r.items = t.its ∧ r.cnt = ((flat h t).length : Int) ∧ NodeAt TT E wr n r (L n) := by
  obtain ⟨hG, r, h1, h2, h3, h4⟩ := d.rep.root
  have hnP : n ∉ P := fun hp => d.out n hp hG
  exact ⟨hnP, hG, d.dom n (by simp [hG]), r, by rwa [decs_out hnP] at h1, h1, h2, h3, h4, d.mem.at_ n r h1⟩

/-- Its count is one less. -/
theorem Down.less (d : Down w wr iso H L F mn mx h0 n0 t0 i0 P I h n l t G C D idx) {r : NRec It} (hr : H n = some r) {w' : World} (hk : Keep (fun b o => b = n ∧ o = 1) wr w') (hn : NodeAt TT E w' n r.less (L n)) :
    Keep (FP TT H L F) w w' ∧ Mem TT E w' (decs H (P ++ [n])) L := by
  obtain ⟨hnP, hG, hF, r', h1, h2, h3, h4, h5, h6⟩ := d.here
  rw [hr] at h1
  cases h1
  have st := Step.one d.mem h2 (hk.mono fun b o _ ⟨e, _⟩ => .inl e) hn fun b o _ hf => hf
  have e2 : upd L n (L n) = L := by funext m; unfold upd; split <;> simp_all
  refine ⟨d.keep.trans hk fun b o _ ⟨e, _⟩ => ⟨n, r, hF, hr, .inl e⟩, ?_⟩
  have := st.mem
  rw [decs_snoc hr, e2] at this
  exact this

/-- It goes on at child i. -/
theorem Down.go (d : Down w wr iso H L F mn mx h0 n0 t0 i0 P I (h + 1) n l t G C D idx) {w' : World} (hw : Keep (FP TT H L F) w w' ∧ Mem TT E w' (decs H (P ++ [n])) L) {r : NRec It} (hr : H n = some r) {i c : Nat} {k : Tr It} {ks : List Nat} (hks : r.kids = some ks) (hc : ks[i]? = some c) (hk : t.ks[i]? = some k) {j : Nat} (hj : idx = aheadN h t i + j) (hjl : j < (flat h k).length) :
    ∃ G' C' D', Down w w' iso H L F mn mx h0 n0 t0 i0 (P ++ [n]) (I ++ [i]) h c mn k G' C' D' j := by
  obtain ⟨hnP, hnG, hF, r', h1, h2, h3, h4, h5, h6⟩ := d.here
  rw [hr] at h1
  cases h1
  obtain ⟨q, N1, N2, c', K1, K2, F1, Fk, F2, A⟩ := around_of d.rep d.wf hk
  have hq : q = r := by have := A.rec_; rw [h2] at this; exact (Option.some.inj this).symm
  subst hq
  have hkk := A.kids
  rw [hks] at hkk
  obtain rfl : ks = N1 ++ c' :: N2 := Option.some.inj hkk
  have hcc : c' = c := by
    rw [← A.ln] at hc
    simpa using hc
  subst hcc
  have hG := A.Fq
  have nd1 := d.nd
  rw [hG] at nd1
  have hn1 := (List.nodup_cons.1 nd1).1
  have nd2 := (List.nodup_cons.1 nd1).2
  have sub : ∀ m, m ∈ Fk → m ∈ G := fun m hm => by rw [hG]; simp [hm]
  have hnk : n ∉ Fk := fun hm => hn1 (by simp [hm])
  have hl0 : l ≤ t.its.length := d.wf.own_le.1
  have hkl := d.wf.2.2.1
  have hfl := ahead_flat (h := h) hkl hk
  have ht : t.its.take i = q.items.take i := by rw [h4]
  refine ⟨Fk, _, _, hw.1, hw.2, A.rk.congr fun m hm => ?_, A.wk, (List.nodup_append.1 (List.nodup_append.1 nd2).1).2.1, List.nodup_append.2 ⟨d.ndP, by simp, fun a ha b hb e => by simp at hb; subst hb; subst e; exact hnP ha⟩, fun m hm => ?_, fun m hm => ?_, d.plug.down d.nd hnP hl0 A, ?_, ?_, hjl, d.trail.snoc d.lenI hr hks (by rw [← A.ln]; simp), by simp [d.lenI], by have := d.hp; simp; omega, .inl rfl⟩
  · have e : m ≠ n := fun e => hnk (e ▸ hm)
    simp [decs, e]
  · rcases List.mem_append.1 hm with hm | hm
    · exact fun hk => d.out m hm (sub m hk)
    · simp at hm
      subst hm
      exact hnk
  · rcases List.mem_append.1 hm with hm | hm
    · rcases List.mem_append.1 hm with hm | hm
      · exact d.dom m (by simp [hm])
      · simp at hm
        subst hm
        exact hF
    · exact d.dom m (by simp [sub m hm])
  · have htq := A.tq
    have t1 : (K1 ++ k :: K2).take i = K1 := by rw [← A.lk]; simp
    have t2 : (K1 ++ k :: K2).drop (i + 1) = K2 := by rw [← A.lk]; simp
    rw [d.fl, hfl]
    rw [htq]
    simp only [Tr.ks, Tr.its, t1, t2, List.append_assoc]
  · have htq := A.tq
    have t1 : (K1 ++ k :: K2).take i = K1 := by rw [← A.lk]; simp
    have e : aheadN h t i = (wl (K1.map (flat h)) (q.items.take i)).length := by
      unfold aheadN
      rw [htq]
      simp only [Tr.ks, Tr.its, t1]
    rw [d.pos, List.length_append, ← e, hj]
    omega

/-- The way has ended: all counts on it are one less. -/
structure Broken (w wr : World) (H : Store It) (L : Nat → Lay) (F : List Nat) (n0 h0 : Nat) (P I : List Nat) : Prop where
  hp : P.length ≤ h0 + 1
  keep : Keep (FP TT H L F) w wr
  mem : Mem TT E wr (decs H P) L
  ndP : P.Nodup
  dom : ∀ m, m ∈ P → m ∈ F ∧ ∃ r, H m = some r
  trail : Trail H n0 P I
  lenI : I.length = P.length
  pos : 0 < P.length
  last : ∀ a, P[P.length - 1]? = some a → ∃ r i, H a = some r ∧ I[P.length - 1]? = some i ∧ ∀ ks, r.kids = some ks → i < ks.length
  small : ∀ i, i ∈ I → i ≤ 255
theorem Down.stop (d : Down w wr iso H L F mn mx h0 n0 t0 i0 P I h n l t G C D idx) {w' : World} (hw : Keep (FP TT H L F) w w' ∧ Mem TT E w' (decs H (P ++ [n])) L) {r : NRec It} (hr : H n = some r) {i : Nat} (hi : ∀ ks, r.kids = some ks → i < ks.length) (hs : ∀ j, j ∈ I → j ≤ 255) (hi2 : i ≤ 255) : Broken w w' H L F n0 h0 (P ++ [n]) (I ++ [i]) := by
  obtain ⟨hnP, hnG, hF, _⟩ := d.here
  have hsome : ∀ m, m ∈ P → ∃ r, H m = some r := fun m hm => by
    obtain ⟨j, hjl, rfl⟩ := List.getElem_of_mem hm
    have ha : (P ++ [n])[j]? = some P[j] := by rw [List.getElem?_append_left hjl]; simp
    have hlt : j + 1 < (P ++ [n]).length := by simp; omega
    have hb : (P ++ [n])[j + 1]? = some (P ++ [n])[j + 1] := List.getElem?_eq_getElem hlt
    obtain ⟨r, ks, i, g1, _⟩ := d.trail.nxt j _ _ ha hb
    exact ⟨r, g1⟩
  refine ⟨by have := d.hp; simp; omega, hw.1, hw.2, List.nodup_append.2 ⟨d.ndP, by simp, fun a ha b hb e => by simp at hb; subst hb; subst e; exact hnP ha⟩, fun m hm => ?_, ⟨d.trail.root, fun j a b ha hb => ?_⟩, by simp [d.lenI], by simp, fun a ha => ?_, fun j hj => ?_⟩
  · rcases List.mem_append.1 hm with hm | hm
    · exact ⟨d.dom m (by simp [hm]), hsome m hm⟩
    · simp at hm
      subst hm
      exact ⟨hF, r, hr⟩
  · obtain ⟨r', ks, i', g1, g2, g3, g4⟩ := d.trail.nxt j a b ha hb
    exact ⟨r', ks, i', g1, g2, by rw [List.getElem?_append_left (List.getElem?_eq_some_iff.1 g3).1]; exact g3, g4⟩
  · simp at ha
    subst ha
    refine ⟨r, i, hr, ?_, hi⟩
    simp [← d.lenI]
  · rcases List.mem_append.1 hj with hj | hj
    · exact hs j hj
    · simp at hj
      omega

theorem upd_self (L : Nat → Lay) (n : Nat) : upd L n (L n) = L := by funext m; unfold upd; split <;> simp_all
/-- What the nodes take was there at the begin. -/
theorem decs_old (hm : Mem TT E w H L) {Q : List Nat} {m : Nat} {q : NRec It} (hq : decs H Q m = some q) {c o : Nat} (hf : fp TT m q (L m) c o) : c < w.heap.size := by
  obtain ⟨r, h1, _, h2, _⟩ := decs_dom hq
  refine (hm.at_ m r h1).lt (o := o) ?_
  rcases hf with h | h | ⟨h3, h4⟩
  · exact .inl h
  · exact .inr (.inl h)
  · exact .inr (.inr ⟨by rw [← h2]; exact h3, h4⟩)
theorem way_keep (hm : Mem TT E w H L) {W W' : World} {Q : List Nat} (hw : Keep (FP TT H L F) w W ∧ Mem TT E W (decs H Q) L) {S : Nat → Nat → Prop} (hk : Keep S W W') (hS : ∀ c o, S c o → w.heap.size ≤ c) : Keep (FP TT H L F) w W' ∧ Mem TT E W' (decs H Q) L :=
  ⟨hw.1.trans hk fun c o hc hs => by have := hS c o hs; omega, hw.2.keepS hk fun m q c o hq hf hs => by have := decs_old hm hq hf; have := hS c o hs; omega⟩
theorem Down.calm (d : Down w wr iso H L F mn mx h0 n0 t0 i0 P I h n l t G C D idx) (hm : Mem TT E w H L) {W' : World} {S : Nat → Nat → Prop} (hk : Keep S wr W') (hS : ∀ c o, S c o → w.heap.size ≤ c) : Down w W' iso H L F mn mx h0 n0 t0 i0 P I h n l t G C D idx := by
  obtain ⟨g1, g2⟩ := way_keep hm ⟨d.keep, d.mem⟩ hk hS
  exact ⟨g1, g2, d.rep, d.wf, d.nd, d.ndP, d.out, d.dom, d.plug, d.fl, d.pos, d.lt, d.trail, d.lenI, d.hp, d.lc⟩
theorem Broken.calm (d : Broken w wr H L F n0 h0 P I) (hm : Mem TT E w H L) {W' : World} {S : Nat → Nat → Prop} (hk : Keep S wr W') (hS : ∀ c o, S c o → w.heap.size ≤ c) : Broken w W' H L F n0 h0 P I := by
  obtain ⟨g1, g2⟩ := way_keep hm ⟨d.keep, d.mem⟩ hk hS
  exact ⟨d.hp, g1, g2, d.ndP, d.dom, d.trail, d.lenI, d.pos, d.last, d.small⟩
theorem way_hdr {b : Nat} {hr : HRec} {mn mx : Nat} {s : Sh} (T : TreeAt w b hr H L F mn mx s) {W : World} (hk : Keep (FP TT H L F) w W) : Hdr W b hr :=
  blk_keep T.hdr hk fun _ ⟨m, r, _, hr, hf⟩ => hdr_apart T.hdr (T.mem.at_ m r hr) hf

/-- A child. -/
theorem Down.kid (d : Down w wr iso H L F mn mx h0 n0 t0 i0 P I (h + 1) n l t G C D idx) {r : NRec It} (hr : H n = some r) {ks : List Nat} (hks : r.kids = some ks) {i : Nat} (hi : i < ks.length) :
    ∃ c k rc, ks[i]? = some c ∧ t.ks[i]? = some k ∧ c ≠ n ∧ c ∉ P ∧ H c = some rc ∧ rc.iso = iso ∧ rc.cnt = ((flat h k).length : Int) ∧ NodeAt TT E wr c rc (L c) := by
  obtain ⟨hnP, hnG, hF, r', h1, h2, h3, h4, h5, h6⟩ := d.here
  rw [hr] at h1
  cases h1
  obtain ⟨q, ns, F', e1, _, _, e4, _, hrl, hG⟩ := d.rep
  rw [h2] at e1
  cases e1
  rw [hks] at e4
  cases e4
  have hkl : i < t.ks.length := by rw [← hrl.len]; exact hi
  have hc : ks[i]? = some ks[i] := List.getElem?_eq_getElem hi
  have hk : t.ks[i]? = some t.ks[i] := List.getElem?_eq_getElem hkl
  obtain ⟨G', hR⟩ := hrl.get hc hk
  obtain ⟨_, rc, g1, g2, _, g3⟩ := hR.root
  have hcG : ks[i] ∈ F' := by
    obtain ⟨t', G2, q1, q2⟩ := hrl.mem ks[i] (List.getElem_mem hi)
    exact q2 _ q1.root.1
  have nd := d.nd
  rw [hG] at nd
  have hcn : ks[i] ≠ n := fun e => (List.nodup_cons.1 nd).1 (e ▸ hcG)
  have hcP : ks[i] ∉ P := fun hp => d.out _ hp (by rw [hG]; simp [hcG])
  exact ⟨ks[i], t.ks[i], rc, hc, hk, hcn, hcP, by rwa [decs_out hcP] at g1, g2, g3, d.mem.at_ _ rc g1⟩

theorem erase_mid (A X B : List It) {j : Nat} (hj : j < X.length) : (A ++ X ++ B).eraseIdx (A.length + j) = A ++ (X.take j ++ X.drop (j + 1)) ++ B := by
  rw [List.append_assoc, List.eraseIdx_append_of_length_le (by omega), Nat.add_sub_cancel_left, List.eraseIdx_append_of_lt_length hj, List.eraseIdx_eq_take_drop_succ]
  simp

/-- THE LEAF: an item is taken out of it. -/
theorem Down.leaf {b : Nat} {hr : HRec} (T : TreeAt w b hr H L F mn mx (some (h0, t0))) (hroot : hr.root = some n0) (d : Down w wr hr.iso H L F mn mx h0 n0 t0 i0 P I 0 n l t G C D idx) {r : NRec It} (hr1 : H n = some r) (hmn : r.items.length ≠ mn) {w' : World}
    (hk : Keep (fun c o => FP TT H L F c o ∨ c = b) w w') (hmem : Mem TT E w' (upd (decs H (P ++ [n])) n (some { r with cnt := r.cnt - 1, items := r.items.take idx ++ r.items.drop (idx + 1) })) L)
    (hh : Hdr w' b { hr with root := if hr.cnt - 1 = 0 then none else hr.root, cnt := hr.cnt - 1 }) {y : It} (hy : r.items[idx]? = some y) :
    DatT w b hr H L F mn mx (some (h0, t0)) i0 (.returned (.tuple #[kv (ky y), vv y, .bool true])) w' := by
  obtain ⟨hnP, hnG, hF, r', h1, h2, h3, h4, h5, h6⟩ := d.here
  rw [hr1] at h1
  cases h1
  have hlt := d.lt
  have hft : flat 0 t = r.items := by rw [h4]; rfl
  rw [hft] at hlt
  obtain ⟨q, e1, _, e3, e4, e5, _, hG⟩ := d.rep
  rw [h2] at e1
  cases e1
  have hl : (r.items.take idx ++ r.items.drop (idx + 1)).length + 1 = r.items.length := by simp; omega
  generalize hits : r.items.take idx ++ r.items.drop (idx + 1) = its' at *
  generalize hH' : upd (decs H (P ++ [n])) n (some { r with cnt := r.cnt - 1, items := its' }) = H' at *
  have a1 : atI (flat h0 t0) i0 = some y := by
    rw [atI_nat, d.fl, d.pos, hft, List.append_assoc, List.getElem?_append_right (by omega), Nat.add_sub_cancel_left, List.getElem?_append_left hlt, hy]
  have a2 : cutI (flat h0 t0) i0 = C ++ its' ++ D := by
    rw [cutI_nat, d.fl, d.pos, hft, erase_mid _ _ _ hlt, hits]
  have hlow := d.wf.own_le
  rw [← h4] at hlow
  obtain ⟨t0', g1, g2, g3⟩ := d.plug H' (.node its' []) (fun m hm => by
      have e : m ≠ n := fun e => hm (e ▸ hnG)
      rw [← hH', upd_ne _ _ e]
      simp [decs, e]) ⟨{ r with cnt := r.cnt - 1, items := its' }, by rw [← hH', upd_same], h3, rfl, rfl, e5, by
        have h5' := h5
        rw [hft] at h5'
        show r.cnt - 1 = ((its'.length : Nat) : Int)
        omega, hG⟩ (by rw [hft]; exact hl) ⟨by
          simp only [Tr.its]
          rcases d.lc with h | ⟨h, _⟩ | ⟨h, _⟩
          · subst h; omega
          · omega
          · exact absurd rfl h, by simp only [Tr.its]; omega, rfl⟩
  have gl : (flat h0 t0').length + 1 = (flat h0 t0).length := by
    rw [g3, d.fl, hft]
    simp only [flat, Tr.its, List.length_append]
    omega
  have gc : hr.cnt = ((flat h0 t0).length : Int) := T.cnt
  have gf : flat h0 t0' = cutI (flat h0 t0) i0 := by rw [g3, a2]; rfl
  have srt : Sorted ilt (flat h0 t0') := by
    rw [gf, cutI_nat]
    exact List.Pairwise.sublist (List.eraseIdx_sublist _ _) T.srt
  have hPF : ∀ m, m ∈ P ++ [n] → m ∈ F := fun m hm => by
    rcases List.mem_append.1 hm with hm | hm
    · exact d.dom m (by simp [hm])
    · simp at hm
      subst hm
      exact hF
  have same : ∀ m q, H' m = some q → ∃ r, H m = some r ∧ q.kids = r.kids ∧ (m ∉ F → q = r) := fun m q hq => by
    rw [← hH'] at hq
    by_cases e : m = n
    · subst e
      rw [upd_same] at hq
      cases hq
      exact ⟨r, hr1, rfl, fun h => absurd hF h⟩
    · rw [upd_ne _ _ e] at hq
      obtain ⟨r2, q1, _, q2, _⟩ := decs_dom hq
      refine ⟨r2, q1, q2, fun hm => ?_⟩
      rw [decs_out fun hp => hm (hPF m hp), q1] at hq
      exact (Option.some.inj hq).symm
  have fps : ∀ (m : Nat) (q r2 : NRec It), q.kids = r2.kids → ∀ c o, fp TT m q (L m) c o → fp TT m r2 (L m) c o := fun m q r2 hkk c o hf => by
    unfold fp at hf ⊢
    rwa [hkk] at hf
  have ts : TStep TT E (fun c _ => c = b) w H L F w' H' L F := by
    refine ⟨hmem, hk, fun m hm r2 hr2 => ⟨?_, rfl⟩, fun m hm => .inl hm, fun c o _ ⟨m, q, hm, hq, hf⟩ => ?_, fun m q hq => ?_⟩
    · have e : m ≠ n := fun e => hm (e ▸ hF)
      rw [← hH', upd_ne _ _ e, decs_out fun hp => hm (hPF m hp)]
      exact hr2
    · obtain ⟨r2, q1, q2, _⟩ := same m q hq
      exact ⟨m, r2, hm, q1, fps m q r2 q2 c o hf⟩
    · by_cases hm : m ∈ F
      · exact .inl hm
      · obtain ⟨r2, q1, _, q3⟩ := same m q hq
        have := q3 hm
        subst this
        exact .inr ⟨hm, q1, rfl⟩
  have one : hr.mn = (mn : Int) ∧ hr.mx = (mx : Int) := by
    rcases T.par.one with h | ⟨_, h, _⟩
    · exact h
    · rw [hroot] at h; cases h
  by_cases hz : hr.cnt - 1 = 0
  · have h00 : h0 = 0 := by
      by_cases e : h0 = 0
      · exact e
      · obtain ⟨h', rfl⟩ : ∃ h', h0 = h' + 1 := ⟨h0 - 1, by omega⟩
        rw [if_neg (Nat.succ_ne_zero h')] at g2
        have := g2.own_le.1
        have := (own_sub g2).length_le
        omega
    subst h00
    have hFF : F = [n0] := by obtain ⟨_, _, _, _, _, _, _, h⟩ := g1; exact h
    subst hFF
    have ts2 := TStep.drop T.mem ts (n := n0) (G := []) (by simp) (fun m => by simp)
    rw [if_pos hz] at hh
    refine ⟨_, upd H' n0 none, L, [], none, ?_, ts2, ⟨hh, ts2.mem, by simp, ⟨rfl, rfl⟩, by show hr.cnt - 1 = _; rw [hz]; rfl, List.Pairwise.nil, T.par.cv, T.par.icv, .inl one, T.par.odd, T.par.pos, T.par.hb⟩, ?_, rfl, rfl, rfl⟩
    · simp only [its]; rw [a1]; rfl
    · simp only [its]
      rw [← gf]
      exact (List.eq_nil_of_length_eq_zero (by omega)).symm
  · rw [if_neg hz] at hh
    refine ⟨_, H', L, F, some (h0, t0'), ?_, ts, ⟨hh, hmem, T.nd, ⟨n0, hroot, g1, ?_⟩, by show hr.cnt - 1 = _; simp only [its]; omega, srt, T.par.cv, T.par.icv, .inl one, T.par.odd, T.par.pos, T.par.hb⟩, gf, rfl, rfl, rfl⟩
    · simp only [its]; rw [a1]; rfl
    · by_cases e : h0 = 0
      · subst e
        refine g2.weaken ?_
        have : (flat 0 t0').length = t0'.its.length := rfl
        omega
      · rw [if_neg e] at g2
        exact g2

theorem Down.fin {b : Nat} {hr : HRec} (T : TreeAt w b hr H L F mn mx (some (h0, t0))) (hroot : hr.root = some n0) (d : Down w wr hr.iso H L F mn mx h0 n0 t0 i0 P I 0 n l t G C D idx) {r : NRec It} (hr1 : H n = some r) (hmn : r.items.length ≠ mn) {W5 W8 W : World}
    (way : Keep (FP TT H L F) w W5 ∧ Mem TT E W5 (decs H (P ++ [n])) L) (hk : Keep (fp TT n r (L n)) W5 W8) (hat : NodeAt TT E W8 n { r with cnt := r.cnt - 1, items := r.items.take idx ++ r.items.drop (idx + 1) } (L n)) (hkW : Keep (fun c _ => c = b) W8 W)
    (hh : Hdr W b { hr with root := if hr.cnt - 1 = 0 then none else hr.root, cnt := hr.cnt - 1 }) {y : It} (hy : r.items[idx]? = some y) :
    DatT w b hr H L F mn mx (some (h0, t0)) i0 (.returned (.tuple #[kv (ky y), vv y, .bool true])) W := by
  have hF := d.here.2.2.1
  have st := Step.one way.2 (decs_in (by simp) hr1) hk hat fun c o _ hf => hf
  have e2 : upd L n (L n) = L := by funext m; unfold upd; split <;> simp_all
  have mem8 := st.mem
  rw [e2] at mem8
  have hdr8 : Hdr W8 b hr := blk_keep (way_hdr T way.1) hk fun o hf => hdr_apart T.hdr (T.mem.at_ n r hr1) hf
  refine d.leaf T hroot hr1 hmn ?_ (mem8.keepS hkW fun m q c o hq hf e => hdr_apart hdr8 (mem8.at_ m q hq) (e ▸ hf)) hh hy
  exact ((way.1.mono fun _ _ _ h => .inl h).trans hk fun c o _ hf => .inl ⟨n, r, hF, hr1, hf⟩).trans hkW fun c o _ e => .inr e

/-- THE ITEM'S KEY IS DELETED, once the counts are as they were. -/
theorem dat_del {b : Nat} {hr : HRec} {s : Sh} (T : TreeAt w b hr H L F mn mx s) (hk : Keep (FP TT H L F) w wr) {y : It} {i0 : Nat} (hy : (its s)[i0]? = some y) {e : Ending} {w' : World} (hd : DelT wr b hr H L F mn mx s (ky y) e w') :
    e = .returned (.tuple #[vv y, .bool true]) ∧ DatT w b hr H L F mn mx s i0 (.returned (.tuple #[kv (ky y), vv y, .bool true])) w' := by
  obtain ⟨hr', H', L', F', s', p, rfl, ts, T', hdel, q1, q2, q3⟩ := hd
  obtain ⟨hil, hyy⟩ := List.getElem?_eq_some_iff.1 hy
  have hsp : its s = (its s).take i0 ++ y :: (its s).drop (i0 + 1) := by
    rw [← hyy, List.getElem_cons_drop, List.take_append_drop]
  have srt := T.srt
  rw [hsp] at srt
  have key : p = some y ∧ its s' = (its s).take i0 ++ (its s).drop (i0 + 1) := by
    cases p with
    | none =>
      obtain ⟨_, A, B, hAB, hA, hB⟩ := hdel
      have hm : y ∈ its s := by rw [hsp]; simp
      rw [hAB] at hm
      have hir : klt (ky y) (ky y) = false := kord.irr _
      rcases List.mem_append.1 hm with hm | hm
      · have : klt (ky y) (ky y) = true := hA y hm
        rw [hir] at this; cases this
      · have : klt (ky y) (ky y) = true := hB y hm
        rw [hir] at this; cases this
    | some p =>
      obtain ⟨A, B, hAB, hl', h1, h2, hA, hB⟩ := hdel
      have u : A = (its s).take i0 ∧ p = y ∧ B = (its s).drop (i0 + 1) := by
        have e1 : A ++ p :: B = (its s).take i0 ++ y :: (its s).drop (i0 + 1) := by rw [← hAB]; exact hsp
        have hir : klt (ky y) (ky y) = false := kord.irr _
        have na : y ∉ A := fun h => by have : klt (ky y) (ky y) = true := hA y h; rw [hir] at this; cases this
        have nb : y ∉ B := fun h => by have : klt (ky y) (ky y) = true := hB y h; rw [hir] at this; cases this
        have len : A.length = ((its s).take i0).length := by
          rcases Nat.lt_trichotomy A.length ((its s).take i0).length with h | h | h
          · exfalso
            have hm : ((its s).take i0 ++ y :: (its s).drop (i0 + 1))[((its s).take i0).length]? = some y := by simp
            rw [← e1, List.getElem?_append_right (by omega)] at hm
            obtain ⟨z, hz⟩ : ∃ z, ((its s).take i0).length - A.length = z + 1 := ⟨_, (Nat.sub_add_cancel (by omega)).symm⟩
            rw [hz, List.getElem?_cons_succ] at hm
            exact nb (List.mem_of_getElem? hm)
          · exact h
          · exfalso
            have hm : ((its s).take i0 ++ y :: (its s).drop (i0 + 1))[((its s).take i0).length]? = some y := by simp
            rw [← e1, List.getElem?_append_left h] at hm
            exact na (List.mem_of_getElem? hm)
        obtain ⟨e2, e3⟩ := List.append_inj e1 len
        exact ⟨e2, (List.cons.inj e3).1, (List.cons.inj e3).2⟩
      obtain ⟨rfl, rfl, rfl⟩ := u
      exact ⟨rfl, hl'⟩
  obtain ⟨rfl, hs'⟩ := key
  refine ⟨rfl, hr', H', L', F', s', ?_, ts.pre2 hk, T', ?_, q1, q2, q3⟩
  · rw [atI_nat, hy]; rfl
  · rw [hs', cutI_nat, List.eraseIdx_eq_take_drop_succ]
end Go.Proofs.Ytckplcmieelmpaa.W

namespace Go.Proofs.Ytckplcmieelmpaa.W
open Go.RowKit Go.Wb

/-- MAP.DELETEAT's contract, as a premise. -/
def DatOK : Prop := ∀ {w : World} {b : Nat} {hr : HRec} {H : Store It} {L : Nat → Lay} {F : List Nat} {mn mx : Nat} {s : Sh}, TreeAt w b hr H L F mn mx s → (its s).length ≤ 4000000000000 → mx ≤ 255 → ∀ i : Int,
  Calls Try.prog 87 #[ptr b, .int .i64 i] w (DatT w b hr H L F mn mx s i)

/-- A word as a value. -/
def wdv (x : It) : Value := .agg #[.string (ky x), .int .i64 x.2]
theorem wordOf_any (w : World) (p : Option It) {ep : It} : Calls Try.prog 86 #[kv (ky (Option.getD p ep)), vv (Option.getD p ep), .bool p.isSome] w fun e w' => e = .returned (.tuple #[wdv (Option.getD p ((⟨#[]⟩ : ByteArray), 0)), .bool p.isSome]) ∧ Keep Nothing w w' := by
  unfold kv vv wdv
  cases p with
  | none =>
    simp only [Option.getD_none, Option.isSome_none]
    go_enter Try.func86, Try.ntmps86
    go_upto_region 1 with (fail)
    refine wp_world ?_
    intro W1 hW1
    generalize hq : w.heap.size = q at *
    have K1 : Hid (Keep Nothing w W1) := by subst hW1; exact (Keep.refl _ _).al _
    have X1 : Hid (W1.heap[q]? = some (.cells #[.string ⟨#[]⟩, .int .i64 0] 31 (0, 0))) := by subst hW1; subst hq; exact heap_alloc_new w _
    clear hW1
    obtain ⟨x0, x1, xf⟩ := blk2 X1.out
    have X2 : Hid (((W1.setCell ⟨q, 0, none⟩ (.string ⟨#[]⟩)).setCell ⟨q, 1, none⟩ (.int .i64 0)).heap[q]? = some (.cells #[.string ⟨#[]⟩, .int .i64 0] 31 (0, 0))) := by exact blk_set _ (blk_set _ X1.out)
    have K2 : Hid (Keep Nothing w ((W1.setCell ⟨q, 0, none⟩ (.string ⟨#[]⟩)).setCell ⟨q, 1, none⟩ (.int .i64 0))) := by
      refine Lib.hid ((K1.out.set _ _ _ ?_).set _ _ _ ?_) <;> exact fun h => absurd h (by omega)
    go_wp2_with fail
    refine bodyPost_ret (results_cell_tmp_row rfl _ _ q 31 #[.string ⟨#[]⟩, .int .i64 0] (0, 0) _ rfl X2.out Try.underlying31 rfl (by kernel_rfl)) rfl ?_
    exact ⟨rfl, K2.out⟩
  | some x =>
    simp only [Option.getD_some, Option.isSome_some]
    go_enter Try.func86, Try.ntmps86
    go_upto_region 1 with (fail)
    refine wp_world ?_
    intro W1 hW1
    generalize hq : w.heap.size = q at *
    have K1 : Hid (Keep Nothing w W1) := by subst hW1; exact (Keep.refl _ _).al _
    have X1 : Hid (W1.heap[q]? = some (.cells #[.string ⟨#[]⟩, .int .i64 0] 31 (0, 0))) := by subst hW1; subst hq; exact heap_alloc_new w _
    clear hW1
    obtain ⟨x0, x1, xf⟩ := blk2 X1.out
    have X2 : Hid (((W1.setCell ⟨q, 0, none⟩ (.string (ky x))).setCell ⟨q, 1, none⟩ (.int .i64 x.2)).heap[q]? = some (.cells #[.string (ky x), .int .i64 x.2] 31 (0, 0))) := by exact blk_set _ (blk_set _ X1.out)
    have K2 : Hid (Keep Nothing w ((W1.setCell ⟨q, 0, none⟩ (.string (ky x))).setCell ⟨q, 1, none⟩ (.int .i64 x.2))) := by
      refine Lib.hid ((K1.out.set _ _ _ ?_).set _ _ _ ?_) <;> exact fun h => absurd h (by omega)
    go_wp2_with fail
    refine bodyPost_ret (results_cell_tmp_row rfl _ _ q 31 #[.string (ky x), .int .i64 x.2] (0, 0) _ rfl X2.out Try.underlying31 rfl (by kernel_rfl)) rfl ?_
    exact ⟨rfl, K2.out⟩

/-- Words are cut out at indexes in turn: the words, whether they were there, what is left. -/
def stepA (st : List It × List Bool × List It) (i : Int) : List It × List Bool × List It := (st.1 ++ [Option.getD (atI st.2.2 i) ((⟨#[]⟩ : ByteArray), 0)], st.2.1 ++ [(atI st.2.2 i).isSome], cutI st.2.2 i)
def cutAll (l : List It) (js : List Int) : List It × List Bool × List It := js.foldl stepA ([], [], l)
theorem cutAll_snoc (l : List It) (js : List Int) {i : Nat} {j : Int} (hk : js[i]? = some j) : cutAll l (js.take (i + 1)) = stepA (cutAll l (js.take i)) j := by
  unfold cutAll
  rw [List.take_add_one, hk, Option.toList_some, List.foldl_append]
  rfl
theorem cutI_len (l : List It) (i : Int) : (cutI l i).length ≤ l.length := by
  unfold cutI
  split
  · exact (List.eraseIdx_sublist _ _).length_le
  · exact Nat.le_refl _
theorem cutAll_len (l : List It) (js : List Int) : (cutAll l js).2.2.length ≤ l.length := by
  have : ∀ (js : List Int) (st : List It × List Bool × List It), (js.foldl stepA st).2.2.length ≤ st.2.2.length := by
    intro js
    induction js with
    | nil => intro st; exact Nat.le_refl _
    | cons k js ih => intro st; exact Nat.le_trans (ih _) (cutI_len _ _)
  exact this js ([], [], l)
theorem cutAll_len2 (l : List It) (js : List Int) : (cutAll l js).1.length = js.length ∧ (cutAll l js).2.1.length = js.length := by
  have : ∀ (js : List Int) (st : List It × List Bool × List It), (js.foldl stepA st).1.length = st.1.length + js.length ∧ (js.foldl stepA st).2.1.length = st.2.1.length + js.length := by
    intro js
    induction js with
    | nil => intro st; exact ⟨rfl, rfl⟩
    | cons k js ih =>
      intro st
      obtain ⟨h1, h2⟩ := ih (stepA st k)
      rw [List.foldl_cons]
      refine ⟨h1.trans ?_, h2.trans ?_⟩ <;> simp [stepA] <;> omega
  obtain ⟨h1, h2⟩ := this js ([], [], l)
  exact ⟨by simpa [cutAll] using h1, by simpa [cutAll] using h2⟩
def WCutPost (w : World) (st : List It × List Bool × List It) (e : Ending) (w' : World) : Prop :=
  ∃ a c a2 c2 a3 c3, e = .returned (.tuple #[.slice a st.1.length c, .slice a2 st.2.1.length c2, .slice a3 st.2.2.length c3]) ∧ Given w' a (OE.all st.1) ∧ Given w' a2 (st.2.1.map .bool) ∧ Given w' a3 (OE.all st.2.2) ∧ Keep Nothing w w'

theorem el_un : ¬ treeTy 31 := by unfold treeTy; decide
theorem boo_un : ¬ treeTy 4 := by unfold treeTy; decide

/-- The state of the loop. -/
structure CutLoop (w : World) (B : Nat) (wr : World) (b : Nat) (hr : HRec) (H : Store It) (L : Nat → Lay) (F : List Nat) (mn mx : Nat) (s : Sh) (a5 a7 : Option Addr) (i c5 c7 : Nat) (st : List It × List Bool × List It) : Prop where
  tree : NewTree w wr b hr H L F mn mx s
  rows : Accs B wr [⟨31, 2, a5, i, c5, OE.all st.1⟩, ⟨4, 1, a7, i, c7, st.2.1.map .bool⟩]
  its_ : its s = st.2.2
  hB : w.heap.size ≤ B
  hB2 : B ≤ wr.heap.size

variable {w : World} {B : Nat} {wr : World} {b : Nat} {hr : HRec} {H : Store It} {L : Nat → Lay} {F : List Nat} {mn mx : Nat} {s : Sh} {a5 a7 : Option Addr} {i c5 c7 : Nat} {st : List It × List Bool × List It}
theorem CutLoop.cut (h : CutLoop w B wr b hr H L F mn mx s a5 a7 i c5 c7 st) {j : Int} {e : Ending} {w2 : World} (hd : DatT wr b hr H L F mn mx s j e w2) :
    e = .returned (.tuple #[kv (ky (Option.getD (atI st.2.2 j) hr.emp)), vv (Option.getD (atI st.2.2 j) hr.emp), .bool (atI st.2.2 j).isSome]) ∧ ∃ hr' H' L' F' s', NewTree w w2 b hr' H' L' F' mn mx s' ∧ Accs B w2 [⟨31, 2, a5, i, c5, OE.all st.1⟩, ⟨4, 1, a7, i, c7, st.2.1.map .bool⟩] ∧ its s' = cutI st.2.2 j ∧ B ≤ w2.heap.size := by
  obtain ⟨hr', H', L', F', s', rfl, ts, T, hits, _⟩ := hd
  rw [h.its_] at hits
  refine ⟨by rw [h.its_], hr', H', L', F', s', h.tree.step ts T, accs_off h.rows ts.keep fun j r hj x o hf => ?_, hits, Nat.le_trans h.hB2 ts.keep.size⟩
  have hrow := (h.rows.acc j r hj).row
  refine row_apart h.tree.tree hrow ?_ x o hf
  cases j with
  | zero => cases hj; exact el_un
  | succ j => cases j with
    | zero => cases hj; exact boo_un
    | succ j => simp at hj

/-- Behind the first append, and behind both. -/
theorem CutLoop.one {w2 W : World} {hr : HRec} {H : Store It} {L : Nat → Lay} {F : List Nat} {s : Sh} (N : NewTree w w2 b hr H L F mn mx s) (A : Accs B w2 [⟨31, 2, a5, i, c5, OE.all st.1⟩, ⟨4, 1, a7, i, c7, st.2.1.map .bool⟩]) (hB : w.heap.size ≤ B) (hB2 : B ≤ w2.heap.size) (o : Obj) {x : It} {a' : Option Addr} {c' : Nat} (hg : Grew (w2.alloc o) W 31 2 a5 a' i 1 c5 c' (OE.all st.1 ++ OE.enc x)) :
    NewTree w W b hr H L F mn mx s ∧ Accs B W [⟨31, 2, a', i + 1, c', OE.all (st.1 ++ [x])⟩, ⟨4, 1, a7, i, c7, st.2.1.map .bool⟩] ∧ B ≤ W.heap.size := by
  have A1 := A.quiet (Keep.alloc _ _ o)
  have N1 := N.calm (Keep.alloc _ _ o)
  have hs : B ≤ (w2.alloc o).heap.size := by rw [World.size_alloc]; omega
  obtain ⟨g8, k8⟩ := A1.grow hs 0 rfl hg rfl
  refine ⟨N1.grow A1 hB 0 rfl el_un hg, ?_, Nat.le_trans hs k8.size⟩
  have e : OE.all (st.1 ++ [x]) = OE.all st.1 ++ OE.enc x := by rw [Enc.all_append]; simp [Enc.all]
  rw [e]
  simpa [List.set] using g8
theorem CutLoop.two {W W' : World} {hr : HRec} {H : Store It} {L : Nat → Lay} {F : List Nat} {s : Sh} {n : Nat} {a' : Option Addr} {c' : Nat} {xs : List It} (h : NewTree w W b hr H L F mn mx s ∧ Accs B W [⟨31, 2, a', n, c', OE.all xs⟩, ⟨4, 1, a7, i, c7, st.2.1.map .bool⟩] ∧ B ≤ W.heap.size) (hB : w.heap.size ≤ B) (o : Obj) {f : Bool} {a2 : Option Addr} {c2 : Nat} (hg : Grew (W.alloc o) W' 4 1 a7 a2 i 1 c7 c2 (st.2.1.map .bool ++ [.bool f])) :
    NewTree w W' b hr H L F mn mx s ∧ Accs B W' [⟨31, 2, a', n, c', OE.all xs⟩, ⟨4, 1, a2, i + 1, c2, (st.2.1 ++ [f]).map .bool⟩] ∧ B ≤ W'.heap.size := by
  obtain ⟨N, A, hB2⟩ := h
  have A1 := A.quiet (Keep.alloc _ _ o)
  have N1 := N.calm (Keep.alloc _ _ o)
  have hs : B ≤ (W.alloc o).heap.size := by rw [World.size_alloc]; omega
  obtain ⟨g8, k8⟩ := A1.grow hs 1 rfl hg rfl
  refine ⟨N1.grow A1 hB 1 rfl boo_un hg, ?_, Nat.le_trans hs k8.size⟩
  simpa [List.set] using g8

set_option maxRecDepth 100000 in
set_option maxHeartbeats 8000000 in
theorem wcutAll_any (hdat : DatOK) {w : World} {a : Option Addr} {cap : Nat} {l : List It} (hg : Given w a (OE.all l)) (hl : l.length ≤ 4000000000000) (d : Int) (h1 : 2 ≤ d) (h2 : d ≤ 128) {ka : Option Addr} {kcap : Nat} {js : List Int} (hk : Given w ka (js.map (Value.int .i64))) (hkl : js.length ≤ 4000000000000) :
    Calls Try.prog 45 #[.int .i64 d, .slice a l.length cap, .slice ka js.length kcap] w (WCutPost w (cutAll (sortK l) js)) := by
  have hgr := Lib.hid (grow_any (cap := cap) hg hl d h1 h2)
  have HDAT : Hid DatOK := Lib.hid hdat
  have HKS := Lib.hid hk
  have HKL := Lib.hid hkl
  have HLL := Lib.hid hl
  have hmx : (2 * d - 1).toNat ≤ 255 := by omega
  have HMX := Lib.hid hmx
  clear hg hl hk hdat hmx
  go_enter Try.func45, Try.ntmps45
  go_wp2_with fail
  refine hgr.out.mono ?_
  rintro e w1 ⟨b, hr, H, L, F, s, rfl, hN, hits, hemp⟩
  have HN := Lib.hid hN
  have HI := Lib.hid hits
  clear hgr hN hits hemp
  unfold ptr
  go_wp2_with fail
  go_loopg [10, 11, 21] (js.length + 1) (fun m v10 v11 v21 wr => ∃ (i : Nat) (a5 a7 : Option Addr) (c5 c7 : Nat) (hr : HRec) (H : Store It) (L : Nat → Lay) (F : List Nat) (s : Sh), v10 = .slice a5 i c5 ∧ v11 = .slice a7 i c7 ∧ v21 = .int .i64 i ∧ i ≤ js.length ∧ i + m = js.length + 1 ∧ CutLoop w w1.heap.size wr b hr H L F (d - 1).toNat (2 * d - 1).toNat s a5 a7 i c5 c7 (cutAll (sortK l) (js.take i)))
  case atStart => exact ⟨0, none, none, 0, 0, hr, H, L, F, s, rfl, rfl, rfl, by omega, by omega, HN.out, ((Accs.nil w1.heap.size w1).addNil (Nat.le_refl _) 31 2).addNil (Nat.le_refl _) 4 1, HI.out, HN.out.keep.size, Nat.le_refl _⟩
  case round =>
    obtain ⟨i, a5, a7, c5, c7, hr2, H2, L2, F2, s2, rfl, rfl, rfl, hil, hik, hT⟩ := hrel
    have HT := Lib.hid hT
    clear hT
    by_cases hlt : i < js.length
    · obtain ⟨kb, ko, hka, ck⟩ := (HKS.out.keep HT.out.tree.keep).cell (i := i) (by simpa using hlt)
      subst hka
      obtain ⟨t, ht⟩ : ∃ t, js[i] = t := ⟨_, rfl⟩
      rw [show (js.map (Value.int .i64))[i]'(by simpa using hlt) = .int .i64 t by simp [ht]] at ck
      have hx : js[i]? = some t := by rw [← ht]; exact List.getElem?_eq_getElem hlt
      have HX := Lib.hid hx
      have hsl : (its s2).length ≤ 4000000000000 := by
        have h5 := cutAll_len (sortK l) (js.take i)
        have h6 := sortK_len l
        have h7 := HLL.out
        rw [HT.out.its_]
        omega
      have hdel := Lib.hid (HDAT.out HT.out.tree.tree hsl HMX.out t)
      clear hx ht hsl
      obtain ⟨p, hp⟩ : ∃ p, p = atI (cutAll (sortK l) (js.take i)).2.2 t := ⟨_, rfl⟩
      have HP := Lib.hid hp
      have hdel2 : Calls Try.prog 87 #[ptr b, .int .i64 t] wr fun e w2 => e = .returned (.tuple #[kv (ky (Option.getD p hr2.emp)), vv (Option.getD p hr2.emp), .bool p.isSome]) ∧ ∃ hr' H' L' F' s', NewTree w w2 b hr' H' L' F' (d - 1).toNat (2 * d - 1).toNat s' ∧ Accs w1.heap.size w2 [⟨31, 2, a5, i, c5, OE.all (cutAll (sortK l) (js.take i)).1⟩, ⟨4, 1, a7, i, c7, (cutAll (sortK l) (js.take i)).2.1.map .bool⟩] ∧ its s' = cutI (cutAll (sortK l) (js.take i)).2.2 t ∧ w1.heap.size ≤ w2.heap.size := by
        rw [hp]; exact hdel.out.mono fun e w2 h => HT.out.cut h
      have HG2 := Lib.hid hdel2
      have hB := HT.out.hB
      obtain ⟨x, hxx⟩ : ∃ x, x = Option.getD p ((⟨#[]⟩ : ByteArray), 0) := ⟨_, rfl⟩
      obtain ⟨f, hff⟩ : ∃ f, f = p.isSome := ⟨_, rfl⟩
      have hwo := Lib.hid (fun W => wordOf_any W p (ep := hr2.emp))
      rw [← hxx, ← hff] at hwo
      rw [← hff] at HG2
      obtain ⟨y, hyy⟩ : ∃ y, y = Option.getD p hr2.emp := ⟨_, rfl⟩
      rw [← hyy] at HG2 hwo
      have HXX := Lib.hid hxx
      have HFF := Lib.hid hff
      clear hdel hdel2 hp hxx hff hyy
      unfold ptr kv vv wdv at *
      go_upto_region 7 with (fail)
      go_upto_region 8 with (first
        | (go_at_call 87; refine HG2.out.mono ?_; rintro e w2 ⟨rfl, hr3, H3, L3, F3, s3, hN3, hA3, hI3, hB3⟩; have N3 := Lib.hid hN3; have A3 := Lib.hid hA3; have I3 := Lib.hid hI3; clear hN3 hA3 hI3)
        | (go_at_call 86; refine (hwo.out _).mono ?_; rintro e w3 ⟨rfl, hK3⟩; have N4 := Lib.hid (N3.out.calm hK3); have A4 := Lib.hid (A3.out.quiet hK3); have hB4 : w1.heap.size ≤ w3.heap.size := Nat.le_trans hB3 hK3.size; clear hK3 N3 A3))
      refine wp_world ?_
      intro W5 hW5
      have k5 : Keep Nothing w3 W5 := by
        subst hW5
        exact (Keep.refl _ _).al _
      have X5 : Hid (W5.heap[w3.heap.size]? = some (.cells #[.string (ky x), .int .i64 x.2] 31 (0, 0))) := by
        subst hW5
        exact Lib.hid (heap_alloc_new w3 _)
      have N5 := Lib.hid (N4.out.calm k5)
      have A5 := Lib.hid (A4.out.quiet k5)
      have hB5 : w1.heap.size ≤ W5.heap.size := Nat.le_trans hB4 k5.size
      obtain ⟨x0, x1, xf⟩ := blk2 X5.out
      have hro := ((A5.out.quiet (Keep.alloc Nothing W5 (.cells (OE.enc x).toArray 31))).acc 0 _ rfl).row
      have hln := ((A5.out.quiet (Keep.alloc Nothing W5 (.cells (OE.enc x).toArray 31))).acc 0 _ rfl).len
      have hnew := new_given W5 (OE.enc x) 31
      have hone2 : ∀ u ∈ [Value.bool f], u.oneCell' = true := by intro u hu; simp at hu; subst hu; rfl
      have h5 : i ≤ c5 := (A5.out.acc 0 _ rfl).le
      have h7 : i ≤ c7 := (A5.out.acc 1 _ rfl).le
      have hkb := HKL.out
      clear hW5 k5 N4 A4 HT ck HG2 hwo
      go_wp2_with (first
        | (at_builtin; refine wpList_append_src rfl _ _ _ rfl 31 2 24 Try.underlying28 elemO a5 i c5 _ (by rfl) hro hln (some ⟨W5.heap.size, 0, none⟩) 1 1 (OE.enc x) (by rfl) (by omega) rfl hnew (OE.one _) h5 (by simp only [maxLen]; omega) (by omega) ?_; intro a11 c11 W8 hg; have F8 := Lib.hid (CutLoop.one N5.out A5.out hB hB5 _ hg); have hro8 := ((F8.out.2.1.quiet (Keep.alloc Nothing W8 (.cells [Value.bool f].toArray 4))).acc 1 _ rfl).row; have hln8 := ((F8.out.2.1.quiet (Keep.alloc Nothing W8 (.cells [Value.bool f].toArray 4))).acc 1 _ rfl).len; have hnew8 := new_given W8 [Value.bool f] 4; clear hg)
        | (at_builtin; refine wpList_append_src rfl _ _ _ rfl 4 1 1 Try.underlying51 elemBool a7 i c7 _ (by rfl) hro8 hln8 (some ⟨W8.heap.size, 0, none⟩) 1 1 [.bool f] (by rfl) (by omega) rfl hnew8 hone2 h7 (by simp only [maxLen]; omega) (by omega) ?_; intro a12 c12 W9 hg; have F9 := Lib.hid (CutLoop.two F8.out hB _ hg); clear hg))
      go_roundg (js.length - i)
      case measure => omega
      case rel =>
        refine ⟨i + 1, a11, a12, c11, c12, hr3, H3, L3, F3, s3, rfl, rfl, by go_num, by omega, by omega, ?_⟩
        have h9 := F9.out
        rw [HXX.out, HFF.out, HP.out] at h9
        rw [cutAll_snoc _ _ HX.out]
        exact ⟨h9.1, h9.2.1, I3.out, hB, h9.2.2⟩
    · have hi : i = js.length := by omega
      subst hi
      have hT := HT.out
      rw [List.take_of_length_le (Nat.le_refl _)] at hT
      have HT2 := Lib.hid hT
      have hall := Lib.hid (all_any hT.tree.tree (by rw [hT.its_]; have h5 := cutAll_len (sortK l) js; have h6 := sortK_len l; have h7 := HLL.out; omega))
      clear hT
      unfold ptr at hall
      go_wp2_with fail
      refine hall.out.mono ?_
      rintro e W9 ⟨a9, c9, rfl, hA9, hK9⟩
      have HA9 := Lib.hid hA9
      have HK9 := Lib.hid hK9
      clear hall hA9 hK9
      go_wp2_with fail
      go_ret3
      have hT := HT2.out
      have h6 := (hT.rows.acc 0 _ rfl)
      have h8 := (hT.rows.acc 1 _ rfl)
      obtain ⟨l1, l2⟩ := cutAll_len2 (sortK l) js
      refine ⟨a5, c5, a7, c7, a9, c9, by rw [← hT.its_, l1, l2]; first | rfl | simp, h6.row.reads.keep HK9.out, h8.row.reads.keep HK9.out, by rw [← hT.its_]; exact HA9.out.row.reads, hT.tree.keep.trans HK9.out fun _ _ _ h => h⟩
end Go.Proofs.Ytckplcmieelmpaa.W

namespace Go.Wb
open Go Go.RowKit
theorem results_tmp_cell_tmp_row {P : Program} {fn : Func} {p t u : Tmp} {ty : TypeId} (h : fn.results = #[.tmp t, .cell p ty, .tmp u]) (tmps : Array Value) (w : World) (g : Nat) (tb : TypeId) (cs : Array Value) (fr : Nat × Nat) (d : TypeDesc)
    (hp : tmps.getD p undef = .pointer (some ⟨g, 0, none⟩)) (hg : w.heap[g]? = some (.cells cs tb fr))
    (hu : P.underlying ty = some d) (hd : (match d with | .struct _ | .array _ _ => true | _ => false) = true) (hi : (P.info? ty).map (·.size) = some cs.size) :
    (results fn tmps).run P w = .ok (.tuple #[tmps.getD t undef, .agg cs, tmps.getD u undef]) w := by
  have hp' : tmps[p]?.getD undef = .pointer (some ⟨g, 0, none⟩) := by simpa using hp
  simp [results, h, hp', asAddr, run_loadVar_row w g tb ty cs fr d hg hu hd hi, Result.andThen]
end Go.Wb
namespace Go.Proofs.Ytckplcmieelmpaa.W
open Go.RowKit Go.Wb

def WcutPost (w : World) (a : Option Addr) (cap : Nat) (l : List It) (i : Int) (e : Ending) (w' : World) : Prop :=
  Keep Nothing w w' ∧ ∃ a' c', e = .returned (.tuple #[.slice a' (cutI l i).length c', wdv (Option.getD (atI l i) ((⟨#[]⟩ : ByteArray), 0)), .bool (atI l i).isSome]) ∧ ((a' = a ∧ c' = cap ∧ cutI l i = l) ∨ Acc w.heap.size w' 31 2 a' (cutI l i).length c' (OE.all (cutI l i)))

set_option maxRecDepth 100000 in
set_option maxHeartbeats 4000000 in
theorem wcut_out (w : World) (a : Option Addr) (cap : Nat) {l : List It} {i : Int} (hi : i < 0 ∨ (l.length : Int) ≤ i) : Calls Try.prog 89 #[.slice a l.length cap, .int .i64 i] w (WcutPost w a cap l i) := by
  obtain ⟨a1, a2⟩ := atI_out hi
  have A1 := Lib.hid a1
  have A2 := Lib.hid a2
  clear a1 a2
  by_cases hn : i < 0
  all_goals
    have hge : ¬ i < 0 → i ≥ (l.length : Int) := fun h => by omega
    try have hge2 := hge hn
    clear hi hge
    go_enter Try.func89, Try.ntmps89
    go_upto_region 1 with (fail)
    refine wp_world ?_
    intro W1 hW1
    generalize hq : w.heap.size = q at *
    have K1 : Hid (Keep Nothing w W1) := by subst hW1; exact (Keep.refl _ _).al _
    have X1 : Hid (W1.heap[q]? = some (.cells #[.string ⟨#[]⟩, .int .i64 0] 31 (0, 0))) := by subst hW1; subst hq; exact heap_alloc_new w _
    clear hW1
    obtain ⟨x0, x1, xf⟩ := blk2 X1.out
    have X2 : Hid (((W1.setCell ⟨q, 0, none⟩ (.string ⟨#[]⟩)).setCell ⟨q, 1, none⟩ (.int .i64 0)).heap[q]? = some (.cells #[.string ⟨#[]⟩, .int .i64 0] 31 (0, 0))) := by exact blk_set _ (blk_set _ X1.out)
    have K2 : Hid (Keep Nothing w ((W1.setCell ⟨q, 0, none⟩ (.string ⟨#[]⟩)).setCell ⟨q, 1, none⟩ (.int .i64 0))) := by
      refine Lib.hid ((K1.out.set _ _ _ ?_).set _ _ _ ?_) <;> exact fun h => absurd h (by omega)
    go_wp2_with fail
    refine bodyPost_ret (results_tmp_cell_tmp_row rfl _ _ q 31 #[.string ⟨#[]⟩, .int .i64 0] (0, 0) _ rfl X2.out Try.underlying31 rfl (by kernel_rfl)) rfl ?_
    refine ⟨K2.out, a, cap, ?_, .inl ⟨rfl, rfl, A2.out⟩⟩
    rw [A1.out, A2.out]; rfl

set_option maxRecDepth 100000 in
set_option maxHeartbeats 4000000 in
theorem wcut_in {w : World} {a : Option Addr} {cap : Nat} {l : List It} (hg : Given w a (OE.all l)) (hc : l.length ≤ cap) (hl : l.length ≤ 4000000000000) {j : Nat} {x : It} (hx : l[j]? = some x) : Calls Try.prog 89 #[.slice a l.length cap, .int .i64 j] w (WcutPost w a cap l j) := by
  obtain ⟨hj, _⟩ := List.getElem?_eq_some_iff.1 hx
  obtain ⟨b, o, rfl, x0, x1⟩ := word_cell hg hx
  have HG := Lib.hid hg
  have HX := Lib.hid hx
  have X0 := Lib.hid x0
  have X1 := Lib.hid x1
  clear hg hx x0 x1
  have hn : ¬ ((j : Int) < 0) := by omega
  have hge : ¬ ((j : Int) ≥ (l.length : Int)) := by omega
  go_enter Try.func89, Try.ntmps89
  go_upto_region 1 with (fail)
  refine wp_world ?_
  intro W1 hW1
  generalize hq : w.heap.size = q at *
  have K1 : Hid (Keep Nothing w W1) := by subst hW1; exact (Keep.refl _ _).al _
  have B1 : Hid (W1.heap[q]? = some (.cells #[.string ⟨#[]⟩, .int .i64 0] 31 (0, 0))) := by subst hW1; subst hq; exact heap_alloc_new w _
  have S1 : W1.heap.size = q + 1 := by subst hW1; rw [World.size_alloc, hq]
  clear hW1
  go_upto_region 3 with (fail)
  have y0 : W1.cell? ⟨b, o + j * 2, none⟩ = some (kv (ky x)) := K1.out.cell' X0.out fun h => h
  have y1 : W1.cell? ⟨b, o + j * 2 + 1, none⟩ = some (.int .i64 x.2) := K1.out.cell' X1.out fun h => h
  unfold kv at y0
  refine wp_held (fun w' => w'.cell? ⟨b, o + j * 2, none⟩ = some (.string (ky x)) ∧ w'.cell? ⟨b, o + j * 2 + 1, none⟩ = some (.int .i64 x.2)) [13] (by kernel_rfl) (by kernel_rfl) (by kernel_rfl) rfl ⟨y0, y1⟩ ?_
  simp only [segs, readsB, silentB, lenB, checks, List.nil_append, show (Builtin.append == Builtin.len) = false from rfl, Bool.false_and, Bool.or_true, Bool.or_false, Bool.false_eq_true, reduceIte]
  go_wp2_with fail
  refine held_world ?_
  intro W2 hW2
  have K2 : Hid (Keep Nothing w W2) := by subst hW2; exact (K1.out.al _).dr
  have Z2 : Hid (W2.heap[q + 1]? = some (.cells #[] 31 (0, 0))) := by subst hW2; rw [← S1]; exact Lib.hid (blk_drew (heap_alloc_new W1 _))
  have B2 : Hid (W2.heap[q]? = some (.cells #[.string ⟨#[]⟩, .int .i64 0] 31 (0, 0))) := by subst hW2; exact Lib.hid (blk_drew (blk_alloc _ B1.out))
  have S2 : W2.heap.size = q + 2 := by subst hW2; show (W1.alloc _).heap.size = _; rw [World.size_alloc, S1]
  clear hW2 K1 B1 S1 y0 y1
  have y0 : W2.cell? ⟨b, o + j * 2, none⟩ = some (kv (ky x)) := K2.out.cell' X0.out fun h => h
  have y1 : W2.cell? ⟨b, o + j * 2 + 1, none⟩ = some (.int .i64 x.2) := K2.out.cell' X1.out fun h => h
  unfold kv at y0
  have HG2 : Hid (Given W2 (some ⟨b, o, none⟩) (OE.all (l.take j))) := by rw [out_take]; exact Lib.hid ((HG.out.keep K2.out).take _)
  refine held_next ⟨y0, y1⟩ ?_
  go_wp2_with (at_builtin; refine wpList_append_src rfl _ _ _ rfl 31 2 24 Try.underlying28 elemO _ 0 0 [] (by rfl) (Row.empty Z2.out) rfl (some ⟨b, o, none⟩) j cap (OE.all (l.take j)) (by rfl) (by omega) (by rw [out_len, List.length_take]; omega) HG2.out out_one (by omega) (by simp only [maxLen]; omega) (by omega) ?_; intro a8 c8 W3 hg)
  refine held_world ?_
  intro W4 hW4
  subst hW4
  have A2 : Acc (q + 1) W2 31 2 (some ⟨q + 1, 0, none⟩) 0 0 [] := ⟨Row.empty Z2.out, by simp, Nat.le_refl _, fun c p hf => by obtain ⟨e1, e2, e3⟩ := rowFp_some hf; omega⟩
  obtain ⟨A3, k3⟩ := A2.grow (by omega) hg (by rw [out_len, List.length_take]; omega)
  simp only [Nat.zero_add, List.nil_append] at A3
  have K3 : Hid (Keep Nothing W2 W4) := Lib.hid hg.calm
  have B3 := Lib.hid (blk_keep B2.out K3.out fun _ h => h)
  have K3w : Hid (Keep Nothing w W4) := by exact K2.out.trans K3.out fun _ _ _ h => h
  have S3 : q + 2 ≤ W4.heap.size := by have := K3.out.size; omega
  have A3 := Lib.hid A3
  have z0 := K3.out.cell' y0 fun h => h
  have z1 := K3.out.cell' y1 fun h => h
  clear hg k3 A2 HG2 y0 y1 Z2 S2
  have hnews : OE.all (l.drop (j + 1)) = (OE.all l).drop ((j + 1) * 2) := out_drop l (j + 1)
  have hdl : (OE.all (l.drop (j + 1))).length = (l.length - (j + 1)) * 2 := by rw [out_len, List.length_drop]
  have hcat : Hid (OE.all (l.take j) ++ OE.all (l.drop (j + 1)) = OE.all (cutI l j)) := by
    rw [cutI_nat, List.eraseIdx_eq_take_drop_succ, Enc.all_append]
    exact Lib.hid rfl
  have hlen2 : Hid (j + (l.length - (j + 1)) = (cutI l j).length) := by
    rw [cutI_nat, List.length_eraseIdx]
    exact Lib.hid (by rw [if_pos hj]; omega)
  have fin : Hid (∀ (a9 : Option Addr) (c9 : Nat) (W5 : World), Grew W4 W5 31 2 a8 a9 j (l.length - (j + 1)) c8 c9 (OE.all (l.take j) ++ OE.all (l.drop (j + 1))) → Keep Nothing w W5 ∧ Acc (q + 1) W5 31 2 a9 (cutI l j).length c9 (OE.all (cutI l j)) ∧ W5.heap[q]? = some (.cells #[.string ⟨#[]⟩, .int .i64 0] 31 (0, 0))) := by
    refine Lib.hid fun a9 c9 W5 hg => ?_
    obtain ⟨g1, g2⟩ := A3.out.grow (by omega) hg hdl
    rw [hcat.out, hlen2.out] at g1
    exact ⟨K3w.out.trans g2 fun c p hc h => by omega, g1, blk_keep B3.out g2 fun p h => by omega⟩
  have hbq : b < q := by have := lt_of_cell X0.out; omega
  have hc8 := A3.out.le
  by_cases hce : cap = j + 1
  case' pos =>
    have hl0 : l.length = j + 1 := by omega
    have HD : Hid (l.length - (j + 1) = 0 ∧ l.drop (j + 1) = []) := Lib.hid ⟨by omega, List.drop_eq_nil_of_le (by omega)⟩
    refine held_next ⟨z0, z1⟩ ?_
    go_wp2_with (at_builtin; refine wpList_append_src rfl _ _ _ rfl 31 2 24 Try.underlying28 elemO a8 j c8 (OE.all (l.take j)) (by rfl) A3.out.row A3.out.len (some ⟨b, o, none⟩) 0 0 [] (by rfl) (by omega) rfl (.inl rfl) (fun u hu => by cases hu) hc8 (by simp only [maxLen]; omega) (by omega) ?_; intro a9 c9 W5 hg)
    refine held_world ?_
    intro W6 hW6
    subst hW6
    have hlen3 : Hid (j = (cutI l j).length) := Lib.hid (by have := hlen2.out; have := HD.out.1; omega)
    obtain ⟨K6, A6, B6⟩ := fin.out a9 c9 W6 (by rw [HD.out.1, HD.out.2]; exact hg)
  case' neg =>
    have HG4 : Hid (Given W4 (some ⟨b, o + (j + 1) * 2, none⟩) (OE.all (l.drop (j + 1)))) := by rw [hnews]; exact Lib.hid ((HG.out.keep K3w.out).drop _ rfl)
    refine held_next ⟨z0, z1⟩ ?_
    go_wp2_with (at_builtin; refine wpList_append_src rfl _ _ _ rfl 31 2 24 Try.underlying28 elemO a8 j c8 (OE.all (l.take j)) (by rfl) A3.out.row A3.out.len (some ⟨b, o + (j + 1) * 2, none⟩) (l.length - (j + 1)) (cap - (j + 1)) (OE.all (l.drop (j + 1))) (by rfl) (by omega) hdl HG4.out out_one hc8 (by simp only [maxLen]; omega) (by omega) ?_; intro a9 c9 W5 hg)
    refine held_world ?_
    intro W6 hW6
    subst hW6
    have hlen3 := hlen2
    obtain ⟨K6, A6, B6⟩ := fin.out a9 c9 W6 hg
  all_goals
    have K6 := Lib.hid K6
    have A6 := Lib.hid A6
    have B6 := Lib.hid B6
    have y0 := K6.out.cell' X0.out fun h => h
    have y1 := K6.out.cell' X1.out fun h => h
    unfold kv at y0
    clear hg fin z0 z1 hc8
    refine held_next ⟨y0, y1⟩ ?_
    obtain ⟨x0, x1, xf⟩ := blk2 B6.out
    go_wp2_with fail
    refine held_world ?_
    intro W7 hW7
    have k7 : Keep (fun c _ => c = q) W6 W7 := by
      subst hW7
      refine ((Keep.refl _ _).set _ _ _ ?_).set _ _ _ ?_ <;> exact fun _ => rfl
    have B7 : Hid (W7.heap[q]? = some (.cells #[.string (ky x), .int .i64 x.2] 31 (0, 0))) := by subst hW7; exact Lib.hid (blk_set _ (blk_set _ B6.out))
    have A7 := Lib.hid (A6.out.calm k7 fun c p h e => by omega)
    have K7 : Hid (Keep Nothing w W7) := by exact K6.out.trans k7 fun c p hc e => by omega
    have z0 := k7.cell' y0 fun e => by omega
    have z1 := k7.cell' y1 fun e => by omega
    clear hW7 k7 y0 y1 x0 x1 xf
    refine held_next ⟨z0, z1⟩ ?_
    go_wp2_with fail
    refine held_world ?_
    intro W8 hW8
    refine held_end ?_ ?_
    · refine ⟨⟨.agg #[.string (ky x), .int .i64 x.2], fun w' hS => by simp [execOp, hS.1, hS.2, go_sem]⟩, trivial⟩
    subst hW8
    go_wp2_with fail
    refine bodyPost_ret (results_tmp_cell_tmp_row rfl _ _ q 31 #[.string (ky x), .int .i64 x.2] (0, 0) _ rfl B7.out Try.underlying31 rfl (by kernel_rfl)) rfl ?_
    refine ⟨K7.out, a9, c9, ?_, .inr ⟨A7.out.row, A7.out.len, A7.out.le, fun c p h => by have := A7.out.own c p h; omega⟩⟩
    rw [← hlen3.out, atI_nat, HX.out]
    rfl

theorem wcut_any {w : World} {a : Option Addr} {cap : Nat} {l : List It} (hg : Given w a (OE.all l)) (hc : l.length ≤ cap) (hl : l.length ≤ 4000000000000) (i : Int) : Calls Try.prog 89 #[.slice a l.length cap, .int .i64 i] w (WcutPost w a cap l i) := by
  by_cases h : i < 0 ∨ (l.length : Int) ≤ i
  · exact wcut_out w a cap h
  · obtain ⟨j, rfl⟩ : ∃ j : Nat, i = (j : Int) := ⟨i.toNat, by omega⟩
    exact wcut_in hg hc hl (List.getElem?_eq_getElem (by omega))
end Go.Proofs.Ytckplcmieelmpaa.W

namespace Go.Proofs.Ytckplcmieelmpaa.W
open Go.RowKit Go.Wb

/-- The state of the specification's loop. -/
structure SpecLoop (w wr : World) (a5 a7 a9 : Option Addr) (i c5 c7 c9 : Nat) (st : List It × List Bool × List It) : Prop where
  keep : Keep Nothing w wr
  rows : Accs w.heap.size wr [⟨31, 2, a5, i, c5, OE.all st.1⟩, ⟨4, 1, a7, i, c7, st.2.1.map .bool⟩, ⟨31, 2, a9, st.2.2.length, c9, OE.all st.2.2⟩]

variable {w wr : World} {a5 a7 a9 : Option Addr} {i c5 c7 c9 : Nat} {st : List It × List Bool × List It}
theorem SpecLoop.cut (h : SpecLoop w wr a5 a7 a9 i c5 c7 c9 st) {j : Int} {W : World} (hk0 : Keep Nothing wr W) {e : Ending} {w2 : World} (hd : WcutPost W a9 c9 st.2.2 j e w2) :
    ∃ a' c', e = .returned (.tuple #[.slice a' (cutI st.2.2 j).length c', wdv (Option.getD (atI st.2.2 j) ((⟨#[]⟩ : ByteArray), 0)), .bool (atI st.2.2 j).isSome]) ∧ Keep Nothing w w2 ∧ Keep Nothing W w2 ∧ Accs w.heap.size w2 [⟨31, 2, a5, i, c5, OE.all st.1⟩, ⟨4, 1, a7, i, c7, st.2.1.map .bool⟩, ⟨31, 2, a', (cutI st.2.2 j).length, c', OE.all (cutI st.2.2 j)⟩] ∧
      ∀ (k : Nat) (r : Rw), [(⟨31, 2, a5, i, c5, OE.all st.1⟩ : Rw), ⟨4, 1, a7, i, c7, st.2.1.map .bool⟩, ⟨31, 2, a', (cutI st.2.2 j).length, c', OE.all (cutI st.2.2 j)⟩][k]? = some r → ∀ b o, rowFp r.a (r.cap * r.s) b o → b < wr.heap.size ∨ W.heap.size ≤ b := by
  obtain ⟨hk, a', c', rfl, hor⟩ := hd
  have hW := hk0.trans hk fun _ _ _ h => h
  have old : ∀ (k : Nat) (r : Rw), [(⟨31, 2, a5, i, c5, OE.all st.1⟩ : Rw), ⟨4, 1, a7, i, c7, st.2.1.map .bool⟩, ⟨31, 2, a9, st.2.2.length, c9, OE.all st.2.2⟩][k]? = some r → ∀ b o, rowFp r.a (r.cap * r.s) b o → b < wr.heap.size := fun k r hr b o hf => rowFp_lt (h.rows.acc k r hr).row hf
  refine ⟨a', c', rfl, h.keep.trans hW fun _ _ _ h => h, hk, ?_⟩
  rcases hor with ⟨rfl, rfl, e⟩ | hA
  · rw [e]; exact ⟨h.rows.quiet hW, fun k r hr b o hf => .inl (old k r hr b o hf)⟩
  · refine ⟨?_, fun k r hr b o hf => ?_⟩
    case refine_2 =>
      cases k with
      | zero => exact .inl (old 0 r hr b o hf)
      | succ k => cases k with
        | zero => exact .inl (old 1 r hr b o hf)
        | succ k => cases k with
          | zero => cases hr; exact .inr (hA.own b o hf)
          | succ k => simp at hr
    have h1 := h.rows.quiet hk0
    have h2 : Accs w.heap.size W [⟨31, 2, a5, i, c5, OE.all st.1⟩, ⟨4, 1, a7, i, c7, st.2.1.map .bool⟩] := h1.sub id (fun i r hi => by
      cases i with
      | zero => exact hi
      | succ i => cases i with
        | zero => exact hi
        | succ i => simp at hi) fun i j _ _ e => e
    exact h2.add (Nat.le_trans h.keep.size hk0.size) hk hA.row hA.len hA.le fun b ⟨o, hf⟩ => hA.own b o hf

theorem SpecLoop.one {W W' : World} {n : Nat} (hk : Keep Nothing w W) (A : Accs w.heap.size W [⟨31, 2, a5, i, c5, OE.all st.1⟩, ⟨4, 1, a7, i, c7, st.2.1.map .bool⟩, ⟨31, 2, a9, n, c9, OE.all st.2.2⟩]) (o : Obj) {x : It} {a' : Option Addr} {c' : Nat} (hg : Grew (W.alloc o) W' 31 2 a5 a' i 1 c5 c' (OE.all st.1 ++ OE.enc x)) :
    Keep Nothing w W' ∧ Accs w.heap.size W' [⟨31, 2, a', i + 1, c', OE.all (st.1 ++ [x])⟩, ⟨4, 1, a7, i, c7, st.2.1.map .bool⟩, ⟨31, 2, a9, n, c9, OE.all st.2.2⟩] := by
  have A1 := A.quiet (Keep.alloc _ _ o)
  have K1 := hk.al o
  obtain ⟨g8, k8⟩ := A1.grow K1.size 0 rfl hg rfl
  refine ⟨K1.trans k8 fun c p hc h => by omega, ?_⟩
  have e : OE.all (st.1 ++ [x]) = OE.all st.1 ++ OE.enc x := by rw [Enc.all_append]; simp [Enc.all]
  rw [e]
  simpa [List.set] using g8
theorem SpecLoop.two {W W' : World} {n m : Nat} {a' : Option Addr} {c' : Nat} {xs ys : List It} {bs : List Bool} (h : Keep Nothing w W ∧ Accs w.heap.size W [⟨31, 2, a', n, c', OE.all xs⟩, ⟨4, 1, a7, i, c7, bs.map .bool⟩, ⟨31, 2, a9, m, c9, OE.all ys⟩]) (o : Obj) {f : Bool} {a2 : Option Addr} {c2 : Nat} (hg : Grew (W.alloc o) W' 4 1 a7 a2 i 1 c7 c2 (bs.map .bool ++ [.bool f])) :
    Keep Nothing w W' ∧ Accs w.heap.size W' [⟨31, 2, a', n, c', OE.all xs⟩, ⟨4, 1, a2, i + 1, c2, (bs ++ [f]).map .bool⟩, ⟨31, 2, a9, m, c9, OE.all ys⟩] := by
  obtain ⟨hk, A⟩ := h
  have A1 := A.quiet (Keep.alloc _ _ o)
  have K1 := hk.al o
  obtain ⟨g8, k8⟩ := A1.grow K1.size 1 rfl hg rfl
  refine ⟨K1.trans k8 fun c p hc h => by omega, ?_⟩
  simpa [List.set] using g8

set_option maxRecDepth 100000 in
set_option maxHeartbeats 8000000 in
theorem specWDel_any {w : World} {a : Option Addr} {cap : Nat} {l : List It} (hg : Given w a (OE.all l)) (hl : l.length ≤ 4000000000000) {ka : Option Addr} {kcap : Nat} {js : List Int} (hk : Given w ka (js.map (Value.int .i64))) (hkl : js.length ≤ 4000000000000) :
    Calls Try.prog 46 #[.slice a l.length cap, .slice ka js.length kcap] w (WCutPost w (cutAll (sortK l) js)) := by
  have hw := Lib.hid (words_any (cap := cap) hg hl)
  have HKS := Lib.hid hk
  have HKL := Lib.hid hkl
  have hsl := sortK_len l
  have HSL : Hid ((sortK l).length ≤ 4000000000000) := Lib.hid (by omega)
  clear hg hk hsl
  go_enter Try.func46, Try.ntmps46
  go_wp2_with fail
  refine hw.out.mono ?_
  rintro e w1 ⟨a1, c1, rfl, hA, hK⟩
  have HA := Lib.hid hA
  have HK := Lib.hid hK
  clear hw hA hK
  go_wp2_with fail
  go_loopg [7, 8, 9, 18] (js.length + 1) (fun m v7 v8 v9 v18 wr => ∃ (i : Nat) (a5 a7 a9 : Option Addr) (c5 c7 c9 : Nat), v7 = .slice a9 (cutAll (sortK l) (js.take i)).2.2.length c9 ∧ v8 = .slice a5 i c5 ∧ v9 = .slice a7 i c7 ∧ v18 = .int .i64 i ∧ i ≤ js.length ∧ i + m = js.length + 1 ∧ SpecLoop w wr a5 a7 a9 i c5 c7 c9 (cutAll (sortK l) (js.take i)))
  case atStart =>
    refine ⟨0, none, none, a1, 0, 0, c1, rfl, rfl, rfl, rfl, by omega, by omega, HK.out, ?_⟩
    have h0 := ((Accs.nil w.heap.size w).addNil (Nat.le_refl _) 31 2).addNil (Nat.le_refl _) 4 1
    exact h0.add (Nat.le_refl _) HK.out (r := ⟨31, 2, a1, (sortK l).length, c1, OE.all (sortK l)⟩) HA.out.row HA.out.len HA.out.le fun b ⟨o, hf⟩ => HA.out.own b o hf
  case round =>
    obtain ⟨i, a5, a7, a9, c5, c7, c9, rfl, rfl, rfl, rfl, hil, hik, hT⟩ := hrel
    have HT := Lib.hid hT
    clear hT
    by_cases hlt : i < js.length
    · obtain ⟨kb, ko, hka, ck⟩ := (HKS.out.keep HT.out.keep).cell (i := i) (by simpa using hlt)
      subst hka
      obtain ⟨t, ht⟩ : ∃ t, js[i] = t := ⟨_, rfl⟩
      rw [show (js.map (Value.int .i64))[i]'(by simpa using hlt) = .int .i64 t by simp [ht]] at ck
      have hx : js[i]? = some t := by rw [← ht]; exact List.getElem?_eq_getElem hlt
      have HX := Lib.hid hx
      obtain ⟨st, hst⟩ : ∃ st, st = cutAll (sortK l) (js.take i) := ⟨_, rfl⟩
      have hsl : st.2.2.length ≤ 4000000000000 := by
        have h5 := cutAll_len (sortK l) (js.take i)
        have h7 := HSL.out
        rw [hst]
        omega
      rw [← hst] at HT ⊢
      have HST := Lib.hid hst
      clear hx ht hst
      have hrow := HT.out.rows.acc 2 _ rfl
      have hcall : Hid (∀ W, Keep Nothing wr W → Calls Try.prog 89 #[.slice a9 st.2.2.length c9, .int .i64 t] W (fun e w2 => WcutPost W a9 c9 st.2.2 t e w2)) := by
        exact Lib.hid fun W hW => wcut_any (hrow.row.reads.keep hW) hrow.le hsl t
      obtain ⟨p, hp⟩ : ∃ p, p = atI st.2.2 t := ⟨_, rfl⟩
      obtain ⟨l2, hl2⟩ : ∃ l2, l2 = cutI st.2.2 t := ⟨_, rfl⟩
      obtain ⟨x, hxx⟩ : ∃ x, x = Option.getD p ((⟨#[]⟩ : ByteArray), 0) := ⟨_, rfl⟩
      obtain ⟨f, hff⟩ : ∃ f, f = p.isSome := ⟨_, rfl⟩
      have hcall2 : Hid (∀ W, Keep Nothing wr W → Calls Try.prog 89 #[.slice a9 st.2.2.length c9, .int .i64 t] W (fun e w2 => ∃ a' c', e = .returned (.tuple #[.slice a' l2.length c', .agg #[.string (ky x), .int .i64 x.2], .bool f]) ∧ Keep Nothing w w2 ∧ Keep Nothing W w2 ∧ Accs w.heap.size w2 [⟨31, 2, a5, i, c5, OE.all st.1⟩, ⟨4, 1, a7, i, c7, st.2.1.map .bool⟩, ⟨31, 2, a', l2.length, c', OE.all l2⟩] ∧ ∀ (k : Nat) (r : Rw), [(⟨31, 2, a5, i, c5, OE.all st.1⟩ : Rw), ⟨4, 1, a7, i, c7, st.2.1.map .bool⟩, ⟨31, 2, a', l2.length, c', OE.all l2⟩][k]? = some r → ∀ b o, rowFp r.a (r.cap * r.s) b o → b < wr.heap.size ∨ W.heap.size ≤ b)) := by
        refine Lib.hid fun W hW => (hcall.out W hW).mono fun e w2 h => ?_
        have := HT.out.cut hW h
        rw [hff, hxx, hp, hl2]
        exact this
      have HP := Lib.hid hp
      have HL2 := Lib.hid hl2
      have HXX := Lib.hid hxx
      have HFF := Lib.hid hff
      clear hcall hrow hp hl2 hxx hff
      have kk : Keep Nothing wr wr := Keep.refl _ _
      go_upto_region 9 with (fail)
      refine wp_world ?_
      intro W2 hW2
      have K2 : Keep Nothing wr W2 := by subst hW2; exact (Keep.refl _ _).al _
      have X2 : Hid (W2.heap[wr.heap.size]? = some (.cells #[.string ⟨#[]⟩, .int .i64 0] 31 (0, 0))) := by subst hW2; exact Lib.hid (heap_alloc_new wr _)
      have S2 : W2.heap.size = wr.heap.size + 1 := by subst hW2; rw [World.size_alloc]
      have hwq := HT.out.keep.size
      generalize wr.heap.size = q at *
      clear hW2
      go_wp2_with fail
      refine (hcall2.out W2 K2).mono ?_
      rintro e w3 ⟨a8, c8, rfl, hk3, hk23, hA3, hF3⟩
      have K3 := Lib.hid hk3
      have A3 := Lib.hid hA3
      have X3 := Lib.hid (blk_keep X2.out hk23 fun _ h => h)
      clear hcall2 hk3 hA3 hk23 X2 K2 ck
      obtain ⟨x0, x1, xf⟩ := blk2 X3.out
      go_upto_region 10 with (fail)
      refine wp_world ?_
      intro W4 hW4
      have k4 : Keep (fun c _ => c = q) w3 W4 := by
        subst hW4
        refine ((Keep.refl _ _).set _ _ _ ?_).set _ _ _ ?_ <;> exact fun _ => rfl
      have X4 : Hid (W4.heap[q]? = some (.cells #[.string (ky x), .int .i64 x.2] 31 (0, 0))) := by subst hW4; exact Lib.hid (blk_set _ (blk_set _ X3.out))
      have K4 : Hid (Keep Nothing w W4) := by exact K3.out.trans k4 fun c p hc e => by omega
      have A4 := Lib.hid (accs_off A3.out k4 fun k r hr b o hf e => by rcases hF3 k r hr b o hf with h | h <;> omega)
      clear hW4 k4 x0 x1 xf X3 A3 K3 hF3 HT
      obtain ⟨x0, x1, xf⟩ := blk2 X4.out
      have hro := ((A4.out.quiet (Keep.alloc Nothing W4 (.cells (OE.enc x).toArray 31))).acc 0 _ rfl).row
      have hln := ((A4.out.quiet (Keep.alloc Nothing W4 (.cells (OE.enc x).toArray 31))).acc 0 _ rfl).len
      have hnew := new_given W4 (OE.enc x) 31
      have hone2 : ∀ u ∈ [Value.bool f], u.oneCell' = true := by intro u hu; simp at hu; subst hu; rfl
      have h5 : i ≤ c5 := (A4.out.acc 0 _ rfl).le
      have h7 : i ≤ c7 := (A4.out.acc 1 _ rfl).le
      have hkb := HKL.out
      go_wp2_with (first
        | (at_builtin; refine wpList_append_src rfl _ _ _ rfl 31 2 24 Try.underlying28 elemO a5 i c5 _ (by rfl) hro hln (some ⟨W4.heap.size, 0, none⟩) 1 1 (OE.enc x) (by rfl) (by omega) rfl hnew (OE.one _) h5 (by simp only [maxLen]; omega) (by omega) ?_; intro a11 c11 W8 hg; have F8 := Lib.hid (SpecLoop.one (st := (st.1, st.2.1, l2)) K4.out A4.out _ hg); have hro8 := ((F8.out.2.quiet (Keep.alloc Nothing W8 (.cells [Value.bool f].toArray 4))).acc 1 _ rfl).row; have hln8 := ((F8.out.2.quiet (Keep.alloc Nothing W8 (.cells [Value.bool f].toArray 4))).acc 1 _ rfl).len; have hnew8 := new_given W8 [Value.bool f] 4; clear hg)
        | (at_builtin; refine wpList_append_src rfl _ _ _ rfl 4 1 1 Try.underlying51 elemBool a7 i c7 _ (by rfl) hro8 hln8 (some ⟨W8.heap.size, 0, none⟩) 1 1 [.bool f] (by rfl) (by omega) rfl hnew8 hone2 h7 (by simp only [maxLen]; omega) (by omega) ?_; intro a12 c12 W9 hg; have F9 := Lib.hid (SpecLoop.two F8.out _ hg); clear hg))
      go_roundg (js.length - i)
      case measure => omega
      case rel =>
        have hs : cutAll (sortK l) (js.take (i + 1)) = (st.1 ++ [x], st.2.1 ++ [f], l2) := by
          rw [cutAll_snoc _ _ HX.out, ← HST.out, HXX.out, HFF.out, HL2.out, HP.out]
          rfl
        refine ⟨i + 1, a11, a12, a8, c11, c12, c8, by rw [hs], rfl, rfl, by go_num, by omega, by omega, ?_⟩
        rw [hs]
        exact ⟨F9.out.1, F9.out.2⟩
    · have hi : i = js.length := by omega
      subst hi
      have hT := HT.out
      rw [List.take_of_length_le (Nat.le_refl _)] at hT ⊢
      have HT2 := Lib.hid hT
      clear hT HT
      go_wp2_with fail
      go_ret3
      have hT := HT2.out
      have h6 := (hT.rows.acc 0 _ rfl)
      have h8 := (hT.rows.acc 1 _ rfl)
      have h9 := (hT.rows.acc 2 _ rfl)
      obtain ⟨l1, l2⟩ := cutAll_len2 (sortK l) js
      exact ⟨a5, c5, a7, c7, a9, c9, by rw [l1, l2]; first | rfl | simp, h6.row.reads, h8.row.reads, h9.row.reads, hT.keep⟩
end Go.Proofs.Ytckplcmieelmpaa.W

namespace Go.Proofs.Ytckplcmieelmpaa.W
open Go.RowKit Go.Wb

-- equal lists of bools
set_option maxRecDepth 100000 in
set_option maxHeartbeats 2000000 in
theorem equalB_any {w : World} {a c : Option Addr} {acap ccap : Nat} {l : List Bool} (h1 : Given w a (l.map .bool)) (h2 : Given w c (l.map .bool)) (hl : l.length ≤ 4000000000000) :
    Calls Try.prog 31 #[.slice a l.length acap, .slice c l.length ccap] w fun e w' => e = .returned (.bool true) ∧ Keep Nothing w w' := by
  have H1 := Lib.hid h1
  have H2 := Lib.hid h2
  clear h1 h2
  go_enter Try.func31, Try.ntmps31
  go_wp2_with fail
  go_loopg [13] (l.length + 1) (fun k v13 wr => ∃ i : Nat, v13 = .int .i64 i ∧ i ≤ l.length ∧ i + k = l.length + 1 ∧ Keep Nothing w wr)
  case atStart => exact ⟨0, rfl, by omega, by omega, Keep.refl _ _⟩
  case round =>
    obtain ⟨i, rfl, hil, hik, hK⟩ := hrel
    have HK := Lib.hid hK
    clear hK
    by_cases hlt : i < l.length
    · obtain ⟨t, ht⟩ : ∃ t, l[i] = t := ⟨_, rfl⟩
      obtain ⟨b1, o1, ha, x0⟩ := (H1.out.keep HK.out).cell (i := i) (by simpa using hlt)
      obtain ⟨b2, o2, hc, y0⟩ := (H2.out.keep HK.out).cell (i := i) (by simpa using hlt)
      subst ha
      subst hc
      rw [show (l.map Value.bool)[i]'(by simpa using hlt) = .bool t by simp [ht]] at x0 y0
      clear ht
      have hbb : (t != t) = false := by cases t <;> rfl
      go_wp2_with fail
      go_quiet (fail)
      go_wp2_with fail
      go_roundg (l.length - i)
      case measure => omega
      case rel => exact ⟨i + 1, by go_num, by omega, by omega, HK.out.drN _⟩
    · have hi : i = l.length := by omega
      subst hi
      go_wp2_with fail
      go_ret
      exact ⟨rfl, HK.out⟩
end Go.Proofs.Ytckplcmieelmpaa.W

namespace Go.Proofs.Ytckplcmieelmpaa.W
open Go.RowKit Go.Wb

set_option maxRecDepth 100000 in
theorem wdelat_small {w : World} {a : Option Addr} {cap : Nat} {l : List It} (hg : Given w a (OE.all l)) (hl : l.length ≤ maxLen) {ka : Option Addr} {kcap : Nat} {js : List Int} (h : fitsB l = false ∨ ¬ js.length ≤ 2147483647) (d : Int) :
    Calls Try.prog 8 #[.int .i64 d, .slice a l.length cap, .slice ka js.length kcap] w (TruePost w) := by
  have hf := Lib.hid (fits8_any (cap := cap) hg hl)
  clear hg
  by_cases hb : fitsB l = false
  · rw [hb] at hf
    clear hb h
    go_enter Try.func8, Try.ntmps8
    go_wp2_with fail
    refine hf.out.mono ?_
    rintro e w1 ⟨rfl, hk⟩
    have HK := Lib.hid hk
    clear hk hf
    go_wp2_with fail
    go_ret
    exact ⟨rfl, HK.out⟩
  · have hs := h.resolve_left hb
    have hb' : fitsB l = true := by simpa using hb
    rw [hb'] at hf
    clear hb h hb'
    have hs2 : 2147483647 < ((js.length : Nat) : Int) := by omega
    go_enter Try.func8, Try.ntmps8
    go_wp2_with fail
    refine hf.out.mono ?_
    rintro e w1 ⟨rfl, hk⟩
    have HK := Lib.hid hk
    clear hk hf
    go_wp2_with fail
    go_ret
    exact ⟨rfl, HK.out⟩

set_option maxRecDepth 100000 in
set_option maxHeartbeats 4000000 in
theorem wdelat_main (hdat : DatOK) {w : World} {a : Option Addr} {cap : Nat} {l : List It} (hg : Given w a (OE.all l)) (hl : l.length ≤ maxLen) {ka : Option Addr} {kcap : Nat} {js : List Int} (hk : Given w ka (js.map (Value.int .i64))) (h : fitsB l = true) (hs : js.length ≤ 2147483647) (d : Int) :
    Calls Try.prog 8 #[.int .i64 d, .slice a l.length cap, .slice ka js.length kcap] w (TruePost w) := by
  have hf := Lib.hid (fits8_any (cap := cap) hg hl)
  rw [h] at hf
  obtain ⟨hll, _⟩ := fitsB_true.1 h
  simp only [most] at hll
  have HG := Lib.hid hg
  have HK0 := Lib.hid hk
  have HDAT : Hid DatOK := Lib.hid hdat
  have hal := Lib.hid (fun W => aliveW_any W)
  have hs2 : ¬ 2147483647 < ((js.length : Nat) : Int) := by omega
  clear hg h hk hdat
  cases hd : fitD d with
  | false =>
    have hfi := Lib.hid (fun W => fit_any W d false hd)
    clear hd
    go_enter Try.func8, Try.ntmps8
    go_wp2_with fail
    refine hf.out.mono ?_
    rintro e w1 ⟨rfl, hk⟩
    have HK := Lib.hid hk
    clear hk hf
    go_wp2_with fail
    refine (hfi.out _).mono ?_
    rintro e w2 ⟨rfl, rfl⟩
    go_wp2_with fail
    refine (hal.out _).mono ?_
    rintro e w3 ⟨rfl, hk⟩
    have HK3 := Lib.hid (HK.out.trans hk fun _ _ _ h => h)
    clear hk HK
    go_wp2_with fail
    go_ret
    exact ⟨rfl, HK3.out⟩
  | true =>
    have hfi := Lib.hid (fun W => fit_any W d true hd)
    simp only [fitD, Bool.and_eq_true, decide_eq_true_eq] at hd
    obtain ⟨hd1, hd2⟩ := hd
    go_enter Try.func8, Try.ntmps8
    go_wp2_with fail
    refine hf.out.mono ?_
    rintro e w1 ⟨rfl, hk⟩
    have HK := Lib.hid hk
    clear hk hf
    have hwr := Lib.hid (wcutAll_any HDAT.out (cap := cap) (kcap := kcap) (HG.out.keep HK.out) (by omega) d hd1 hd2 (HK0.out.keep HK.out) (by omega))
    have hlens : (cutAll (sortK l) js).1.length = js.length ∧ (cutAll (sortK l) js).2.1.length = js.length ∧ (cutAll (sortK l) js).2.2.length ≤ l.length := ⟨(cutAll_len2 _ _).1, (cutAll_len2 _ _).2, Nat.le_trans (cutAll_len _ _) (sortK_len l)⟩
    have hsp := Lib.hid (fun W (hW : Keep Nothing w W) => specWDel_any (cap := cap) (kcap := kcap) (HG.out.keep hW) (by omega) (HK0.out.keep hW) (by omega : js.length ≤ 4000000000000))
    generalize cutAll (sortK l) js = st at *
    have HLN := Lib.hid hlens
    clear hlens
    go_wp2_with fail
    refine (hfi.out _).mono ?_
    rintro e w2 ⟨rfl, rfl⟩
    go_wp2_with fail
    refine hwr.out.mono ?_
    rintro e w3 ⟨a1, c1, a2, c2, a3, c3, rfl, q1, q2, q3, hk3⟩
    have HK3 : Hid (Keep Nothing w w3) := by exact HK.out.trans hk3 fun _ _ _ h => h
    have Q1 := Lib.hid q1
    have Q2 := Lib.hid q2
    have Q3 := Lib.hid q3
    clear hwr hk3 HK q1 q2 q3
    go_wp2_with fail
    refine (hsp.out _ HK3.out).mono ?_
    rintro e w4 ⟨b1, e1, b2, e2, b3, e3, rfl, p1, p2, p3, hk4⟩
    have HK4 : Hid (Keep Nothing w w4) := by exact HK3.out.trans hk4 fun _ _ _ h => h
    have hE1 : Hid (∀ W, Keep Nothing w4 W → Calls Try.prog 30 #[.slice a1 st.1.length c1, .slice b1 st.1.length e1] W fun e w' => e = .returned (.bool true) ∧ Keep Nothing w4 w') := by
      exact Lib.hid fun W hW => (equalW_any ((Q1.out.keep hk4).keep hW) (p1.keep hW) (by have := HLN.out; omega)).mono fun e w' h => ⟨h.1, hW.trans h.2 fun _ _ _ h => h⟩
    have hE2 : Hid (∀ W, Keep Nothing w4 W → Calls Try.prog 31 #[.slice a2 st.2.1.length c2, .slice b2 st.2.1.length e2] W fun e w' => e = .returned (.bool true) ∧ Keep Nothing w4 w') := by
      exact Lib.hid fun W hW => (equalB_any ((Q2.out.keep hk4).keep hW) (p2.keep hW) (by have := HLN.out; omega)).mono fun e w' h => ⟨h.1, hW.trans h.2 fun _ _ _ h => h⟩
    have hE3 : Hid (∀ W, Keep Nothing w4 W → Calls Try.prog 30 #[.slice a3 st.2.2.length c3, .slice b3 st.2.2.length e3] W fun e w' => e = .returned (.bool true) ∧ Keep Nothing w4 w') := by
      exact Lib.hid fun W hW => (equalW_any ((Q3.out.keep hk4).keep hW) (p3.keep hW) (by have := HLN.out; omega)).mono fun e w' h => ⟨h.1, hW.trans h.2 fun _ _ _ h => h⟩
    have kk : Keep Nothing w4 w4 := Keep.refl _ _
    clear hsp hk4 HK3 Q1 Q2 Q3 p1 p2 p3
    go_wp2_with fail
    refine (hE1.out _ kk).mono ?_
    rintro e w5 ⟨rfl, k5⟩
    go_wp2_with fail
    refine (hE2.out _ k5).mono ?_
    rintro e w6 ⟨rfl, k6⟩
    go_wp2_with fail
    refine (hE3.out _ k6).mono ?_
    rintro e w7 ⟨rfl, k7⟩
    go_wp2_with fail
    refine (hal.out _).mono ?_
    rintro e w8 ⟨rfl, hk⟩
    have HK8 := Lib.hid ((HK4.out.trans k7 fun _ _ _ h => h).trans hk fun _ _ _ h => h)
    clear hk k5 k6 k7
    go_wp2_with fail
    go_ret
    exact ⟨rfl, HK8.out⟩

theorem wdelat_row (hdat : DatOK) {w : World} {d : Int} (_ : (Lit.int .i64 d).wf = true) {a : Option Addr} {cap : Nat} {l : List It} (hg : Given w a (OE.all l)) (hl : l.length ≤ maxLen) {ka : Option Addr} {kcap : Nat} {js : List Int} (hk : Given w ka (js.map (Value.int .i64))) :
    Calls Try.prog 8 #[.int .i64 d, .slice a l.length cap, .slice ka js.length kcap] w (TruePost w) := by
  by_cases h : fitsB l = true
  · by_cases h2 : js.length ≤ 2147483647
    · exact wdelat_main hdat hg hl hk h h2 d
    · exact wdelat_small hg hl (.inr h2) d
  · exact wdelat_small hg hl (.inl (by simpa using h)) d
end Go.Proofs.Ytckplcmieelmpaa.W

namespace Go.Proofs.Ytckplcmieelmpaa.W
open Go.RowKit Go.Wb

theorem elemU8 : Elem Try.prog 5 1 1 := ⟨by kernel_rfl, by kernel_rfl, by kernel_rfl⟩

set_option maxRecDepth 100000 in
set_option maxHeartbeats 4000000 in
theorem dat_out {w : World} {b : Nat} {hr : HRec} {H : Store It} {L : Nat → Lay} {F : List Nat} {mn mx : Nat} {s : Sh} (T : TreeAt w b hr H L F mn mx s) {i : Int} (hi : i < 0 ∨ ((its s).length : Int) ≤ i) :
    Calls Try.prog 87 #[ptr b, .int .i64 i] w (DatT w b hr H L F mn mx s i) := by
  have HT := Lib.hid T
  have HI := Lib.hid hi
  obtain ⟨a1, a2⟩ := atI_out hi
  have A1 := Lib.hid a1
  have A2 := Lib.hid a2
  have c2 := hdr_root T.hdr
  have c3 := hdr_cnt T.hdr
  have fz := hdr_fz T.hdr
  have he := hdr_emp T.hdr
  have fin : Hid (∀ W, Keep Nothing w W → DatT w b hr H L F mn mx s i (.returned (.tuple #[kv (ky hr.emp), vv hr.emp, .bool false])) W) := Lib.hid (by
    intro W hK
    refine ⟨hr, H, L, F, s, ?_, (TStep.refl (T.keep hK).mem (fun c _ => c = b) F).pre hK, T.keep hK, a2.symm, rfl, rfl, rfl⟩
    rw [a1]; rfl)
  have hcnt := T.cnt
  rw [hcnt] at c3
  unfold ptr kv vv at *
  cases s with
  | none =>
    obtain ⟨hroot, _⟩ := T.root
    rw [hroot] at c2
    simp only [rootV, Option.map_none] at c2
    clear T hi a1 a2 hroot hcnt c3
    go_enter Try.func87, Try.ntmps87
    go_wp2_with fail
    apply wp_scope_straight
    go_wp2_with fail
    refine wp_calm (by kernel_rfl) (by kernel_rfl) rfl ?_
    simp only [List.flatMap_cons, List.flatMap_nil, checks, chk, nilLit, List.cons_append, List.nil_append, List.append_nil]
    go_wp2_with fail
    rw [HQ_normal]
    go_wp2_with fail
    go_ret3
    exact fin.out _ (Keep.refl _ _).dr
  | some p =>
    obtain ⟨h0, t0⟩ := p
    obtain ⟨n0, hroot, _, _⟩ := T.root
    rw [hroot] at c2
    simp only [rootV, Option.map_some] at c2
    clear T a1 a2 hroot hcnt
    by_cases hneg : i < 0
    · clear hi c3
      go_enter Try.func87, Try.ntmps87
      go_wp2_with fail
      apply wp_scope_straight
      go_wp2_with fail
      refine wp_calm (by kernel_rfl) (by kernel_rfl) rfl ?_
      simp only [List.flatMap_cons, List.flatMap_nil, checks, chk, nilLit, List.cons_append, List.nil_append, List.append_nil]
      go_wp2_with fail
      rw [HQ_normal]
      go_wp2_with fail
      go_ret3
      exact fin.out _ (Keep.refl _ _).dr
    · have hge : i ≥ ((its (some (h0, t0))).length : Int) := by omega
      clear hi
      go_enter Try.func87, Try.ntmps87
      go_wp2_with fail
      apply wp_scope_straight
      go_wp2_with fail
      refine wp_calm (by kernel_rfl) (by kernel_rfl) rfl ?_
      simp only [List.flatMap_cons, List.flatMap_nil, checks, chk, nilLit, List.cons_append, List.nil_append, List.append_nil]
      go_wp2_with fail
      rw [HQ_normal]
      go_wp2_with fail
      go_ret3
      exact fin.out _ (Keep.refl _ _).dr
end Go.Proofs.Ytckplcmieelmpaa.W

namespace Go.Proofs.Ytckplcmieelmpaa.W
open Go.RowKit Go.Wb

/-- MAP.DELETE's contract, as a premise. -/
def DelOK : Prop := ∀ {w : World} {b : Nat} {hr : HRec} {H : Store It} {L : Nat → Lay} {F : List Nat} {mn mx : Nat} {s : Sh}, TreeAt w b hr H L F mn mx s → (its s).length ≤ 3000000000000000000 → ∀ k : Ky,
  Calls Try.prog 83 #[ptr b, kv k] w (DelT w b hr H L F mn mx s k)

set_option maxRecDepth 100000 in
set_option maxHeartbeats 16000000 in
-- main
theorem dat_main (hdel : DelOK) {w : World} {b : Nat} {hr : HRec} {H : Store It} {L : Nat → Lay} {F : List Nat} {mn mx h0 : Nat} {t0 : Tr It} (T : TreeAt w b hr H L F mn mx (some (h0, t0))) (big : (flat h0 t0).length ≤ 4000000000000) (hmx : mx ≤ 255) {i0 : Nat} (hi : i0 < (flat h0 t0).length) :
    Calls Try.prog 87 #[ptr b, .int .i64 i0] w (DatT w b hr H L F mn mx (some (h0, t0)) i0) := by
  obtain ⟨n0, hroot, rep, wf⟩ := T.root
  have hone : hr.mn = (mn : Int) := by
    rcases T.par.one with h | ⟨_, h, _⟩
    · exact h.1
    · rw [hroot] at h; cases h
  obtain ⟨_, r0, e0, hi0, _, _⟩ := rep.root
  obtain ⟨y, hy⟩ : ∃ y, (flat h0 t0)[i0]? = some y := ⟨_, List.getElem?_eq_getElem hi⟩
  have HT := Lib.hid T
  have HR := Lib.hid hroot
  have HREP := Lib.hid rep
  have HWF := Lib.hid wf
  have HONE := Lib.hid hone
  have HDEL : Hid DelOK := Lib.hid hdel
  have HY := Lib.hid hy
  have HI := Lib.hid hi
  have HI0 := Lib.hid hi0
  have HE0 := Lib.hid e0
  have c2 := hdr_root T.hdr
  have c3 := hdr_cnt T.hdr
  have fz := hdr_fz T.hdr
  have hcnt := T.cnt
  rw [hroot] at c2
  rw [hcnt] at c3
  simp only [rootV, Option.map_some] at c2
  simp only [its] at c3 hcnt
  have HCNT := Lib.hid hcnt
  have hn1 : ¬ ((i0 : Int) < 0) := by omega
  have hn2 : ¬ ((i0 : Int) ≥ ((flat h0 t0).length : Int)) := by omega
  have hbw := lt_of_heap T.hdr
  clear T hroot rep wf hone hdel hy hi0 e0 hcnt
  unfold ptr at *
  go_enter Try.func87, Try.ntmps87
  go_wp2_with fail
  apply wp_scope_straight
  go_upto_region 6 with (fail)
  refine wp_world ?_
  intro W1 hW1
  generalize hq : w.heap.size = q at *
  have K1 : Hid (Keep Nothing w W1) := by subst hW1; exact ((Keep.refl _ _).al _).al _
  have X1 : Hid (W1.heap[q + 1]? = some (.cells (E.enc ((⟨#[]⟩ : ByteArray), 0)).toArray 161 (0, 0))) := by
    subst hW1
    subst hq
    exact Lib.hid (blk_last (World.size_alloc _ _))
  have S1 : W1.heap.size = q + 2 := by subst hW1; rw [World.size_alloc, World.size_alloc, hq]
  have P1 : Hid (PathAt q (q + 1) W1 (some ⟨q, 0, none⟩) 8 []) := by
    subst hW1
    subst hq
    refine ⟨⟨192, .inr ⟨_, 0, _, rfl, blk_alloc _ (heap_alloc_new w _), by simp, by decide, fun i v h => by simp at h⟩⟩, by simp, ?_⟩
    intro c o hf
    obtain ⟨e1, e2, e3⟩ := rowFp_some hf
    omega
  clear hW1 c2 c3 fz
  have HQ := Lib.hid hq
  have H1 := Lib.hid (blk_keep HT.out.hdr K1.out fun _ h => h : Hdr W1 b hr)
  have c2 := hdr_root H1.out
  rw [HR.out] at c2
  simp only [rootV, Option.map_some] at c2
  have hiso := isoLoad_own H1.out c2 ((HT.out.mem.at_ n0 r0 HE0.out).keep K1.out fun _ _ _ h => h) HI0.out true
  unfold ptr at hiso
  clear c2
  go_wp2_with fail
  refine hiso.mono ?_
  rintro e w2 ⟨rfl, kd, rfl⟩
  clear hiso H1
  have K2 : Hid (Keep Nothing w (W1.drewN kd)) := by exact K1.out.drN kd
  have X2 : Hid ((W1.drewN kd).heap[q + 1]? = some (.cells (E.enc ((⟨#[]⟩ : ByteArray), 0)).toArray 161 (0, 0))) := by exact X1.out
  have P2 : Hid (PathAt q (q + 1) (W1.drewN kd) (some ⟨q, 0, none⟩) 8 []) := by exact P1.out.calm (Keep.drewN Nothing _ _) fun _ _ _ _ h => h
  have S2 : (W1.drewN kd).heap.size = q + 2 := S1
  clear K1 X1 P1 S1
  generalize W1.drewN kd = W2 at *
  have D2 := Lib.hid (Down.start K2.out HT.out.mem HREP.out HWF.out HT.out.nd HI.out)
  unfold ptr
  go_wp2_with fail
  apply wp_label
  go_upto_block 0 with (fail)
  go_cut [8] (fun v8 wx => ∃ (P I : List Nat) (a : Option Addr) (cap : Nat), v8 = .slice a I.length cap ∧ Broken w wx H L F n0 h0 P I ∧ PathAt q (q + 1) wx a cap I ∧ wx.heap[q + 1]? = some (.cells (E.enc y).toArray 161 (0, 0)))
  case first =>
    go_wp2_with fail
    go_loopg [1, 8, 10] (h0 + 1) (fun m v1 v8 v10 wr => ∃ (P I : List Nat) (h n l : Nat) (t : Tr It) (G : List Nat) (C D : List It) (idx : Nat) (a : Option Addr) (cap : Nat), v1 = .int .i64 idx ∧ v8 = .slice a I.length cap ∧ v10 = .pointer (some ⟨n, 0, none⟩) ∧ h + 1 = m ∧ Down w wr hr.iso H L F mn mx h0 n0 t0 i0 P I h n l t G C D idx ∧ PathAt q (q + 1) wr a cap I ∧ (∀ j, j ∈ I → j ≤ 255) ∧ wr.heap[q + 1]? = some (.cells (E.enc ((⟨#[]⟩ : ByteArray), 0)).toArray 161 (0, 0)))
    case atStart => exact ⟨[], [], h0, n0, _, t0, F, [], [], i0, some ⟨q, 0, none⟩, 8, rfl, rfl, rfl, rfl, D2.out, P2.out, by simp, X2.out⟩
    case round =>
      obtain ⟨P, I, h, n, l, t, G, C, D, idx, a, cap, rfl, rfl, rfl, rfl, hD, hP, hSm, hX⟩ := hrel
      have HD := Lib.hid hD
      have HP := Lib.hid hP
      have HSM := Lib.hid hSm
      have HX := Lib.hid hX
      clear hD hP hSm hX D2 P2 X2 K2 S2
      obtain ⟨hnP, hnG, hnF, r, hr1, hr2, hri, hrit, hrc, hat⟩ := HD.out.here
      have hnq : n < q := by have := HQ.out; have := lt_of_heap (HT.out.mem.at_ n r hr1).1; omega
      obtain ⟨d0, c1, d2, d3, fzn⟩ := hat.own
      clear d0 d2 d3
      have hfl : (flat h t).length ≤ (flat h0 t0).length := by rw [HD.out.fl]; simp; omega
      have hlt := HD.out.lt
      have hcb : -9223372036854775808 ≤ r.cnt - 1 ∧ r.cnt - 1 ≤ 9223372036854775807 := by rw [hrc]; omega
      have HR1 := Lib.hid hr1
      have HR2 := Lib.hid hr2
      have HRI := Lib.hid hri
      have HRIT := Lib.hid hrit
      have HRC := Lib.hid hrc
      have HAT := Lib.hid hat
      have HNF := Lib.hid hnF
      clear hr1 hr2 hri hrit hrc hat hnP hnG hnF
      go_upto_region 8 with (fail)
      refine wp_world ?_
      intro W3 hW3
      have K3 : Hid (Keep (fun c o => c = n ∧ o = 1) wr W3) := by subst hW3; exact (Keep.refl _ _).set _ _ _ fun _ => ⟨rfl, rfl⟩
      have N3 : Hid (NodeAt TT E W3 n r.less (L n)) := by subst hW3; exact (nt_cnt ty_ok HAT.out _).at_
      clear hW3 c1 fzn
      have WAY := Lib.hid (HD.out.less HR1.out K3.out N3.out)
      have P3 : Hid (PathAt q (q + 1) W3 a cap I) := by exact HP.out.calm K3.out fun c o h1 _ h3 => by omega
      have X3 : Hid (W3.heap[q + 1]? = some (.cells (E.enc ((⟨#[]⟩ : ByteArray), 0)).toArray 161 (0, 0))) := by exact blk_keep HX.out K3.out fun o h => by omega
      have hlv := Lib.hid (leaf_any N3.out)
      unfold ptr at hlv
      clear HP HX
      cases h with
      | zero =>
        have hkn : r.kids = none := by
          obtain ⟨q', e1, _, _, _, e5, _⟩ := HD.out.rep
          rw [HR2.out] at e1; cases e1; exact e5
        have hft : flat 0 t = r.items := by rw [HRIT.out]; rfl
        have hil : idx < r.items.length := by rw [← hft]; exact hlt
        have hyi : r.items[idx]? = some y := by
          have h1 := HY.out
          rw [HD.out.fl, HD.out.pos, hft, List.append_assoc, List.getElem?_append_right (by omega), Nat.add_sub_cancel_left, List.getElem?_append_left hil] at h1
          exact h1
        have HYI := Lib.hid hyi
        have HKN := Lib.hid hkn
        simp only [NRec.less, hkn, Option.isNone_none] at hlv
        obtain ⟨d0, d1, c2, d3, fzn⟩ := N3.out.own
        have hrow := N3.out.2.1
        obtain ⟨ib, io, hia, _⟩ := hrow.form (by show 0 < (E.all r.items).length; rw [E.all_len]; exact Nat.mul_pos (by omega) E.pos)
        have HIA := Lib.hid hia
        rw [hia] at c2 hrow
        have ck := key_cell hrow hyi
        have cv := val_cell hrow hyi
        have fzi := hrow.frozen
        obtain ⟨x0, x1, xf⟩ := blk2 X3.out
        simp only [NRec.less] at c2
        unfold kv at ck x1
        clear d0 d1 d3 hkn hft hyi hrow hia
        go_wp2_with fail
        refine hlv.out.mono ?_
        rintro e w4 ⟨rfl, rfl⟩
        go_upto_region 10 with (fail)
        refine wp_world ?_
        intro W4 hW4
        have K4 : Hid (Keep (fun c _ => c = q + 1) W3 W4) := by
          subst hW4
          refine Lib.hid ?_
          refine ((Keep.refl _ _).set _ _ _ ?_).set _ _ _ ?_ <;> exact fun _ => rfl
        have X4 : Hid (W4.heap[q + 1]? = some (.cells (E.enc y).toArray 161 (0, 0))) := by
          subst hW4
          exact blk_set _ (blk_set _ X3.out)
        clear hW4 x0 x1 xf ck cv fzi c2 fzn hlv X3
        have HQ4 : Hid (∀ c o, c = q + 1 → (fun _ _ => True : Nat → Nat → Prop) c o → w.heap.size ≤ c) := Lib.hid (fun c o h _ => by have := HQ.out; omega)
        have hx1 : q + 1 < W4.heap.size := lt_of_heap X4.out
        have WAY4 := Lib.hid (way_keep HT.out.mem WAY.out K4.out (fun c o h => HQ4.out c o h trivial))
        have P4 : Hid (PathAt q (q + 1) W4 a cap I) := by exact P3.out.calm K4.out fun c o _ h2 h3 => h2 h3
        have N4 : Hid (NodeAt TT E W4 n r.less (L n)) := by exact N3.out.keep K4.out fun c o hf h => by have := (HT.out.mem.at_ n r HR1.out).lt (show fp TT n r (L n) c o from hf); have := HQ.out; omega
        have HH4 := Lib.hid (way_hdr HT.out WAY4.out.1)
        have hmnc := hdr_min HH4.out
        rw [HONE.out] at hmnc
        obtain ⟨d0, d1, c2, d3, fzn⟩ := N4.out.own
        simp only [NRec.less] at c2
        rw [HIA.out] at c2
        clear d0 d1 d3 WAY P3 N3 K4
        go_wp2_with fail
        refine wp_calm (by kernel_rfl) (by kernel_rfl) rfl ?_
        simp only [List.flatMap_cons, List.flatMap_nil, checks, chk, nilLit, List.cons_append, List.nil_append, List.append_nil]
        go_wp2_with fail
        rw [HQ_normal]
        clear c2 hmnc fzn
        have WAY5 := Lib.hid (way_keep HT.out.mem WAY4.out (Keep.drew Nothing W4) (fun c o h => h.elim))
        have P5 : Hid (PathAt q (q + 1) W4.drew a cap I) := by exact P4.out.calm (Keep.drew Nothing W4) fun _ _ _ _ h => h
        have N5 : Hid (NodeAt TT E W4.drew n r.less (L n)) := by exact N4.out.keep (Keep.drew Nothing W4) fun _ _ _ h => h
        have X5 : Hid (W4.drew.heap[q + 1]? = some (.cells (E.enc y).toArray 161 (0, 0))) := by exact X4.out
        have hx5 : q + 1 < W4.drew.heap.size := hx1
        clear WAY4 P4 N4 X4 hx1 HH4
        generalize W4.drew = W5 at *
        have hlm : r.items.length ≤ mx := by rw [HRIT.out]; exact HD.out.wf.own_le.2
        by_cases hmn : (r.items.length : Int) = (mn : Int)
        · have hIl : I.length ≤ 4000000000000 := by
            have h1 := HD.out.hp
            have h2 := HD.out.lenI
            have h3 := tall HT.out.par.pos HWF.out (Nat.le_refl 1)
            omega
          have hile := P5.out.le
          obtain ⟨y5, hrow5⟩ := P5.out.row
          have hrow6 := hrow5.keep (Keep.alloc Nothing W5 (.cells [byteV idx].toArray 5)) fun _ _ _ h => h
          have hone : ∀ u ∈ [byteV idx], u.oneCell' = true := by intro u hu; simp at hu; subst hu; rfl
          have hi255 : idx ≤ 255 := by omega
          have hnew := new_cells (heap_alloc_new W5 (.cells [byteV idx].toArray 5))
          clear hrow5
          go_wp2_with (at_builtin; refine wpList_append_cross rfl _ _ _ rfl y5 5 1 1 Try.underlying29 elemU8 a I.length cap (I.map byteV) (by rfl) hrow6 (by simp) ⟨W5.heap.size, 0, none⟩ 1 1 [byteV idx] (by rfl) (by rfl) hnew hone (by omega) hile (by simp only [maxLen]; omega) (by omega) ?_; intro a6 cap6 W6 y6 hg)
          have A5 : Keep Nothing W5 (W5.alloc (.cells [byteV idx].toArray 5)) := Keep.alloc Nothing W5 _
          have hsz : w.heap.size ≤ W5.heap.size := WAY5.out.1.size
          obtain ⟨P6, k6⟩ := (P5.out.calm A5 fun _ _ _ _ h => h).grow (by rw [World.size_alloc]; have := HQ.out; omega) (by rw [World.size_alloc]; omega) hg
          have K6 : Keep (fun c _ => q ≤ c ∧ c ≠ q + 1) W5 W6 := (A5.mono fun _ _ _ h => h.elim).trans k6 fun c o hc h => h
          have X6 := blk_keep X5.out K6 fun o h => h.2 rfl
          have WAY6 := way_keep HT.out.mem WAY5.out K6 (fun c o h => by have := HQ.out; omega)
          go_meet
          exact ⟨P ++ [n], I ++ [idx], a6, cap6, by simp, HD.out.stop WAY6 HR1.out (fun ks h => by rw [HKN.out] at h; cases h) HSM.out hi255, P6, X6⟩
        · have HMN : Hid (r.items.length ≠ mn) := Lib.hid (by omega)
          have hicap := N5.out.2.2.1
          simp only [NRec.less] at hicap
          obtain ⟨m, hm⟩ : ∃ m, r.items.length = m + 1 := ⟨r.items.length - 1, by omega⟩
          have HMM := Lib.hid hm
          have him : idx ≤ m := by omega
          have hcn : ¬ (L n).icap = idx := by omega
          have hmb : m ≤ 1000000000000 := by omega
          have hrow5 := N5.out.2.1
          rw [HIA.out] at hrow5
          have R5d : Hid (Row W5.drew 161 2 (some ⟨ib, io, none⟩) (L n).icap (E.all r.items)) := by exact hrow5.keep (Keep.drew Nothing _) fun _ _ _ h => h
          have hxs : Hid ((E.all r.items).length = (m + 1) * 2) := by rw [E.all_len, hm]; exact Lib.hid rfl
          have hone : Hid (∀ v ∈ E.all r.items, v.oneCell' = true) := by
            intro v hv
            unfold Enc.all at hv
            obtain ⟨y, _, hy⟩ := List.mem_flatMap.1 hv
            exact E.one y v hy
          obtain ⟨d0, d1, c2, d3, fzn⟩ := N5.out.own
          simp only [NRec.less] at c2
          rw [HIA.out] at c2
          have HICAP := Lib.hid hicap
          clear hrow5 d0 d1 d3 P5 hm
          have hlt2 : ¬ ((r.items.length : Nat) : Int) = ((mn : Nat) : Int) := hmn
          go_upto_region 12 with (fail)
          go_wp2_with fail
          refine wp_calm (by kernel_rfl) (by kernel_rfl) rfl ?_
          simp only [List.flatMap_cons, List.flatMap_nil, checks, chk, nilLit, List.cons_append, List.nil_append, List.append_nil, Try.underlying3]
          go_wp2_with fail
          all_goals
            first
              | (obtain ⟨rv, W6, hr6, hk6, hrow6⟩ := run_copyShut (P := Try.prog) W5.drew 169 3 161 2 Try.underlying169 (by kernel_rfl) R5d.out hxs.out him (some ⟨ib, io + idx * 2, none⟩) (some ⟨ib, io, none⟩) (fun _ => rfl) (fun h => absurd h (by have := HMM.out; omega)) 1 0 hone.out
                 rw [← HMM.out] at hr6
                 rw [hr6]
                 clear h)
              | (obtain ⟨rv, W6, hr6, hk6, hrow6⟩ := run_copyShut (P := Try.prog) W5.drew 169 3 161 2 Try.underlying169 (by kernel_rfl) R5d.out hxs.out him (some ⟨ib, io + idx * 2, none⟩) (some ⟨ib, io + (idx + 1) * 2, none⟩) (fun _ => rfl) (fun _ => rfl) ((L n).icap - idx) ((L n).icap - (idx + 1)) hone.out
                 rw [← HMM.out] at hr6
                 rw [hr6])
            simp only [Result.andThen_ok]
            clear hr6 c2 fzn
            have hcap4 : m + 1 ≤ (L n).icap := by have := HMM.out; have := HICAP.out; omega
            have hin : Hid (∀ o, io ≤ o → o < io + (m + 1) * 2 → fp TT n r (L n) ib o) := by
              intro o h1 h2
              exact .inr (.inl ⟨ib, io, HIA.out, rfl, h1, by have := hcap4; simp only [TT, E]; omega⟩)
            have hibn : ib ≠ n := by
              obtain ⟨arr, harr⟩ := R5d.out.blk
              exact (blk_ne (blk_drew N5.out.1) harr ty_ok.a).symm
            have hibq : ib < q := by
              have := (HT.out.mem.at_ n r HR1.out).lt (hin.out io (Nat.le_refl _) (by omega))
              have := HQ.out
              omega
            have hbn : b ≠ n := fun e => hdr_apart HT.out.hdr (HT.out.mem.at_ n r HR1.out) (o := 0) (.inl e)
            have K6 : Hid (Keep (fp TT n r (L n)) W5 W6) := by
              refine (Keep.drew _ W5).trans hk6 ?_
              rintro y o hy ⟨rfl, h1, h2⟩
              exact hin.out o (by omega) (by omega)
            have B6 : Hid (W6.heap[n]? = some (.cells #[.int .u64 r.iso, .int .i64 (r.cnt - 1), .slice (some ⟨ib, io, none⟩) r.items.length (L n).icap, kidsVal r.kids (L n).cb] 172 (0, 0))) := by
              have h1 := N5.out.1
              rw [HIA.out] at h1
              exact blk_keep (blk_drew h1) hk6 fun o e => hibn e.1.symm
            have X6 : Hid (W6.heap[q + 1]? = some (.cells (E.enc y).toArray 161 (0, 0))) := by exact blk_keep (blk_drew X5.out) hk6 fun o e => by have := e.1; omega
            have R6 := Lib.hid hrow6
            have HH6 : Hid (Hdr W6 b hr) := by exact blk_keep (way_hdr HT.out WAY5.out.1) K6.out fun o hf => hdr_apart HT.out.hdr (HT.out.mem.at_ n r HR1.out) hf
            clear hk6 hrow6 X5 N5 R5d
            obtain ⟨c0, c1, c2, c3, fz⟩ := blk4 B6.out
            have he := hdr_emp HH6.out
            have fz2 := R6.out.frozen
            obtain ⟨ov, hov⟩ := R6.out.there (i := m * 2) (by omega)
            obtain ⟨ov1, hov1⟩ := R6.out.there (i := m * 2 + 1) (by omega)
            rw [← Nat.add_assoc] at hov1
            unfold kv at he
            rw [HMM.out] at c2
            clear c0 c1 c3
            go_wp2_with fail
            rw [HQ_normal]
            go_wp2_with fail
            refine wp_calm (by kernel_rfl) (by kernel_rfl) rfl ?_
            simp only [List.flatMap_cons, List.flatMap_nil, checks, chk, nilLit, List.cons_append, List.nil_append, List.append_nil]
            go_wp2_with fail
            rw [HQ_normal]
            go_upto_region 14 with (fail)
            refine wp_world ?_
            intro W7 hW7
            have K7 : Hid (Keep (fp TT n r (L n)) W5 W7) := by
              subst hW7; exact Lib.hid ((K6.out.set _ _ _ (fun _ => hin.out _ (by omega) (by omega))).set _ _ _ (fun _ => hin.out _ (by omega) (by omega))).dr
            have B7 : Hid (W7.heap[n]? = some (.cells #[.int .u64 r.iso, .int .i64 (r.cnt - 1), .slice (some ⟨ib, io, none⟩) r.items.length (L n).icap, kidsVal r.kids (L n).cb] 172 (0, 0))) := by
              subst hW7; exact blk_drew (blk_far _ (blk_far _ B6.out hibn.symm) hibn.symm)
            have X7 : Hid (W7.heap[q + 1]? = some (.cells (E.enc y).toArray 161 (0, 0))) := by
              subst hW7; exact blk_drew (blk_far _ (blk_far _ X6.out (by omega)) (by omega))
            have R7 : Hid (Row W7 TT.pair TT.s (some ⟨ib, io, none⟩) (L n).icap (E.all (r.items.take idx ++ r.items.drop (idx + 1)))) := by
              have hxl := hxs.out
              have h1 := R6.out.setCells (E.enc hr.emp) (k := m * 2) (by rw [E.len]; simp only [List.length_append, List.length_take, List.length_drop, E] at *; omega)
              have h2 := shut_cells E r.items HMM.out him (E.enc hr.emp) (E.len _)
              simp only [show E.s = 2 from rfl] at h2
              rw [← h2]
              refine Row.take ?_ _
              subst hW7
              exact h1.keep (Keep.drew Nothing _) fun _ _ _ h => h
            clear hW7 K6 B6 X6 R6 HH6 he fz2 hov c2 fz hov1
            obtain ⟨c0, c1, c2, c3, fz⟩ := blk4 B7.out
            rw [HMM.out] at c2
            clear c0 c1 c3
            go_wp2_with fail
            refine wp_calm (by kernel_rfl) (by kernel_rfl) rfl ?_
            simp only [List.flatMap_cons, List.flatMap_nil, checks, chk, nilLit, List.cons_append, List.nil_append, List.append_nil]
            go_wp2_with fail
            rw [HQ_normal]
            go_upto_region 15 with (fail)
            refine wp_world ?_
            intro W8 hW8
            have K8 : Hid (Keep (fp TT n r (L n)) W5 W8) := by subst hW8; exact (K7.out.set _ _ _ fun _ => .inl rfl).dr
            have B8 : Hid (W8.heap[n]? = some (.cells #[.int .u64 r.iso, .int .i64 (r.cnt - 1), .slice (some ⟨ib, io, none⟩) m (L n).icap, kidsVal r.kids (L n).cb] 172 (0, 0))) := by subst hW8; exact blk_drew (blk_set _ B7.out)
            have X8 : Hid (W8.heap[q + 1]? = some (.cells (E.enc y).toArray 161 (0, 0))) := by subst hW8; exact blk_drew (blk_far _ X7.out (by omega))
            have R8 : Hid (Row W8 TT.pair TT.s (some ⟨ib, io, none⟩) (L n).icap (E.all (r.items.take idx ++ r.items.drop (idx + 1)))) := by
              subst hW8
              refine (R7.out.keep' (S := fun y o => y = n ∧ o = 2) ((Keep.refl _ _).set _ _ _ fun _ => ⟨rfl, rfl⟩) fun y o hf h => ?_).keep (Keep.drew Nothing _) fun _ _ _ h => h
              exact hibn ((rowFp_some hf).1.symm.trans h.1)
            clear hW8 K7 B7 X7 R7 c2 fz
            have hlm : (r.items.take idx ++ r.items.drop (idx + 1)).length = m := by have := HMM.out; simp; omega
            have N8 : Hid (NodeAt TT E W8 n { r with cnt := r.cnt - 1, items := r.items.take idx ++ r.items.drop (idx + 1) } (L n)) := by
              refine Lib.hid ⟨?_, ?_, ?_, ?_⟩
              · simp only [hlm, HIA.out]; exact B8.out
              · simp only [HIA.out]; exact R8.out
              · simp only [hlm]; omega
              · intro ks hks; have hkn := HKN.out; simp only at hks; rw [hkn] at hks; cases hks
            have HH8 : Hid (Hdr W8 b hr) := by exact blk_keep (way_hdr HT.out WAY5.out.1) K8.out fun o hf => hdr_apart HT.out.hdr (HT.out.mem.at_ n r HR1.out) hf
            clear B8 R8 hlm
            have c3h := hdr_cnt HH8.out
            have fzh := hdr_fz HH8.out
            have hcb2 : -9223372036854775808 ≤ hr.cnt - 1 ∧ hr.cnt - 1 ≤ 9223372036854775807 := by have := HCNT.out; omega
            go_upto_region 16 with (fail)
            refine wp_world ?_
            intro W9 hW9
            have H9 : Hid (Hdr W9 b { hr with cnt := hr.cnt - 1 }) := by subst hW9; exact hdr_set_cnt HH8.out _
            have K9 : Hid (Keep (fun c _ => c = b) W8 W9) := by subst hW9; exact (Keep.refl _ _).set _ _ _ fun _ => rfl
            have X9 : Hid (W9.heap[q + 1]? = some (.cells (E.enc y).toArray 161 (0, 0))) := by exact blk_keep X8.out K9.out fun o e => by omega
            clear hW9 c3h fzh X8 HH8
            have c3h := hdr_cnt H9.out
            have fzh := hdr_fz H9.out
            by_cases hz : hr.cnt - 1 = 0
            · have c2h := hdr_root H9.out
              simp only at c2h
              simp only [hz] at c3h
              go_upto_region 18 with (fail)
              refine wp_world ?_
              intro W10 hW10
              have H10 : Hid (Hdr W10 b { hr with root := none, cnt := hr.cnt - 1 }) := by subst hW10; exact hdr_set_root H9.out none
              have K10 : Hid (Keep (fun c _ => c = b) W8 W10) := by subst hW10; exact K9.out.set _ _ _ fun _ => rfl
              have X10 : Hid (W10.heap[q + 1]? = some (.cells (E.enc y).toArray 161 (0, 0))) := by subst hW10; exact blk_far _ X9.out (by omega)
              clear hW10 c3h fzh c2h X9 H9 K9
              obtain ⟨x0, x1, xf⟩ := blk2 X10.out
              unfold kv at x1
              go_wp2_with fail
              refine wp_calm (by kernel_rfl) (by kernel_rfl) rfl ?_
              simp only [List.flatMap_cons, List.flatMap_nil, checks, chk, nilLit, List.cons_append, List.nil_append, List.append_nil]
              go_wp2_with fail
              rw [HQ_normal]
              go_wp2_with fail
              go_ret3
              exact HD.out.fin HT.out HR.out HR1.out HMN.out WAY5.out K8.out N8.out K10.out.dr (by rw [if_pos hz]; exact H10.out) HYI.out
            · go_wp2_with fail
              obtain ⟨x0, x1, xf⟩ := blk2 X9.out
              unfold kv at x1
              clear c3h fzh
              refine wp_calm (by kernel_rfl) (by kernel_rfl) rfl ?_
              simp only [List.flatMap_cons, List.flatMap_nil, checks, chk, nilLit, List.cons_append, List.nil_append, List.append_nil]
              go_wp2_with fail
              rw [HQ_normal]
              go_wp2_with fail
              go_ret3
              exact HD.out.fin HT.out HR.out HR1.out HMN.out WAY5.out K8.out N8.out K9.out.dr (by rw [if_neg hz]; exact H9.out) HYI.out
      | succ h =>
        obtain ⟨q', ks, F', e1, z1, z2, hks, z3, hrl, hGq⟩ := id HD.out.rep
        rw [HR2.out] at e1
        cases e1
        clear z1 z2 z3
        have hkl : ks.length = r.items.length + 1 := by rw [hrl.len, HRIT.out]; exact HD.out.wf.2.2.1
        have HKS := Lib.hid hks
        have HKL := Lib.hid hkl
        have hlm : r.items.length ≤ mx := by rw [HRIT.out]; exact HD.out.wf.own_le.2
        simp only [NRec.less, hks, Option.isNone_some] at hlv
        obtain ⟨g3, g1, fzn, hrow, z4⟩ := N3.out.kids (show r.less.kids = some ks from hks)
        clear z4
        obtain ⟨d0, d1, c2, d3, fz2⟩ := N3.out.own
        simp only [NRec.less] at c2
        obtain ⟨kb, ko, hka, z5⟩ := hrow.form (by simp; omega)
        clear z5
        rw [hka] at hrow g1
        have HKA := Lib.hid hka
        have HROW := Lib.hid hrow
        have hkid : Hid (∀ i, i < ks.length → ∃ c k, ks[i]? = some c ∧ t.ks[i]? = some k ∧ W3.cell? ⟨kb, ko + i, none⟩ = some (.pointer (some ⟨c, 0, none⟩)) ∧ W3.cell? ⟨c, 1, none⟩ = some (.int .i64 ((flat h k).length : Int))) := by
          intro i hi
          obtain ⟨c, k, rc, q1, q2, q3, q4, q5, q6, q7, q8⟩ := HD.out.kid HR1.out HKS.out hi
          refine ⟨c, k, q1, q2, HROW.out.cell (by simp [q1, ptr]), ?_⟩
          rw [← q7]
          exact K3.out.cell' q8.own.2.1 fun h => q3 h.1
        clear hks hrow hka d0 d1 d3 hrl hGq
        unfold ptr at g3
        go_wp2_with fail
        refine hlv.out.mono ?_
        rintro e w4 ⟨rfl, rfl⟩
        clear hlv
        go_upto_block 2 with (fail)
        go_cut [1, 8, 11] (fun v1 v8 v11 wx => ∃ (i j : Nat) (k : Tr It) (c : Nat), v1 = .int .i64 j ∧ v8 = .slice a I.length cap ∧ v11 = .int .i64 i ∧ wx = W3 ∧ ks[i]? = some c ∧ t.ks[i]? = some k ∧ idx = aheadN h t i + j ∧ j < (flat h k).length ∧ i < ks.length)
        case first =>
          go_wp2_with fail
          go_loopg [1, 8, 11] (r.items.length + 1) (fun m v1 v8 v11 wx => ∃ (i j : Nat), v1 = .int .i64 j ∧ v8 = .slice a I.length cap ∧ v11 = .int .i64 i ∧ wx = W3 ∧ idx = aheadN h t i + j ∧ i ≤ r.items.length ∧ i + m = r.items.length + 1)
          case atStart => exact ⟨0, idx, rfl, rfl, rfl, rfl, by rw [aheadN_zero]; omega, by omega, by omega⟩
          case round =>
            obtain ⟨i, j, rfl, rfl, rfl, rfl, hij, hile, him⟩ := hrel
            have HIJ := Lib.hid hij
            have htk : t.ks.length = t.its.length + 1 := HD.out.wf.2.2.1
            have HTK := Lib.hid htk
            clear hij htk
            by_cases hil : i < r.items.length
            · obtain ⟨c, k, q1, q2, q3, q4⟩ := hkid.out i (by omega)
              have Q1 := Lib.hid q1
              have Q2 := Lib.hid q2
              clear q1 q2
              rcases Nat.lt_trichotomy j (flat h k).length with hjk | hjk | hjk
              · have hjl : ((j : Nat) : Int) < ((flat h k).length : Int) := by omega
                go_wp2_with fail
                go_meet
                exact ⟨i, j, k, c, rfl, rfl, rfl, rfl, Q1.out, Q2.out, HIJ.out, hjk, by omega⟩
              · have hyi : r.items[i]? = some y := by
                  have h1 := HY.out
                  have h2 : t.its[i]? = some r.items[i] := by rw [← HRIT.out]; exact List.getElem?_eq_getElem hil
                  have h3 := ahead_item (h := h) HTK.out Q2.out h2
                  rw [HD.out.fl, HD.out.pos, List.append_assoc, List.getElem?_append_right (by omega), Nat.add_sub_cancel_left, List.getElem?_append_left HD.out.lt, HIJ.out, hjk, h3] at h1
                  rw [← h1]
                  exact List.getElem?_eq_getElem hil
                have hrowi := N3.out.2.1
                obtain ⟨ib, io, hia, z6⟩ := hrowi.form (by show 0 < (E.all r.items).length; rw [E.all_len]; exact Nat.mul_pos (by omega) E.pos)
                rw [hia] at c2 hrowi
                have ck := key_cell hrowi hyi
                have cv := val_cell hrowi hyi
                have fzi := hrowi.frozen
                obtain ⟨x0, x1, xf⟩ := blk2 X3.out
                unfold kv at ck x1
                have hjl : ¬ ((j : Nat) : Int) < ((flat h k).length : Int) := by omega
                have hje : ((j : Nat) : Int) = ((flat h k).length : Int) := by omega
                have hi255 : i ≤ 255 := by omega
                clear hyi hrowi hia hjk z6
                go_upto_region 25 with (fail)
                refine wp_world ?_
                intro W4 hW4
                have K4 : Hid (Keep (fun c _ => c = q + 1) wr W4) := by
                  subst hW4
                  refine Lib.hid ?_
                  refine ((Keep.refl _ _).set _ _ _ ?_).set _ _ _ ?_ <;> exact fun _ => rfl
                have X4 : Hid (W4.heap[q + 1]? = some (.cells (E.enc y).toArray 161 (0, 0))) := by
                  subst hW4
                  exact blk_set _ (blk_set _ X3.out)
                clear hW4 x0 x1 xf ck cv fzi c2 fzn fz2 g3 g1 q3 q4
                have hx1 : q + 1 < W4.heap.size := lt_of_heap X4.out
                have WAY4 := Lib.hid (way_keep HT.out.mem WAY.out K4.out (fun c o h => by have := HQ.out; omega))
                have P4 : Hid (PathAt q (q + 1) W4 a cap I) := by exact P3.out.calm K4.out fun c o _ h2 h3 => h2 h3
                have hIl : I.length ≤ 4000000000000 := by
                  have h1 := HD.out.hp
                  have h2 := HD.out.lenI
                  have h3 := tall HT.out.par.pos HWF.out (Nat.le_refl 1)
                  omega
                have hcapI := P4.out.le
                obtain ⟨y5, hrow5⟩ := P4.out.row
                have hrow6 := hrow5.keep (Keep.alloc Nothing W4 (.cells [byteV i].toArray 5)) fun _ _ _ h => h
                have hone : ∀ u ∈ [byteV i], u.oneCell' = true := by intro u hu; simp at hu; subst hu; rfl
                have hnew := new_cells (heap_alloc_new W4 (.cells [byteV i].toArray 5))
                clear hrow5
                go_wp2_with (at_builtin; refine wpList_append_cross rfl _ _ _ rfl y5 5 1 1 Try.underlying29 elemU8 a I.length cap (I.map byteV) (by rfl) hrow6 (by simp) ⟨W4.heap.size, 0, none⟩ 1 1 [byteV i] (by rfl) (by rfl) hnew hone (by omega) hcapI (by simp only [maxLen]; omega) (by omega) ?_; intro a6 cap6 W6 y6 hg)
                have A5 : Keep Nothing W4 (W4.alloc (.cells [byteV i].toArray 5)) := Keep.alloc Nothing W4 _
                have hsz : w.heap.size ≤ W4.heap.size := WAY4.out.1.size
                obtain ⟨P6, k6⟩ := (P4.out.calm A5 fun _ _ _ _ h => h).grow (by rw [World.size_alloc]; have := HQ.out; omega) (by rw [World.size_alloc]; omega) hg
                have K6 : Keep (fun c _ => q ≤ c ∧ c ≠ q + 1) W4 W6 := (A5.mono fun _ _ _ h => h.elim).trans k6 fun c o hc h => h
                have X6 := blk_keep X4.out K6 fun o h => h.2 rfl
                have WAY6 := way_keep HT.out.mem WAY4.out K6 (fun c o h => by have := HQ.out; omega)
                go_meet
                exact ⟨P ++ [n], I ++ [i], a6, cap6, by simp, HD.out.stop WAY6 HR1.out (fun ks' h => by rw [HKS.out] at h; cases h; omega) HSM.out hi255, P6, X6⟩
              · have hb1 : -9223372036854775808 ≤ ((flat h k).length : Int) + 1 ∧ ((flat h k).length : Int) + 1 ≤ 9223372036854775807 := by have := HD.out.lt; have := HIJ.out; omega
                have hb2 : -9223372036854775808 ≤ (j : Int) - (((flat h k).length : Int) + 1) ∧ (j : Int) - (((flat h k).length : Int) + 1) ≤ 9223372036854775807 := by have := HD.out.lt; have := HIJ.out; omega
                have hjl : ¬ ((j : Nat) : Int) < ((flat h k).length : Int) := by omega
                have hje : ¬ ((j : Nat) : Int) = ((flat h k).length : Int) := by omega
                go_wp2_with fail
                go_roundg (r.items.length - i)
                case measure => omega
                case rel =>
                  refine ⟨i + 1, j - ((flat h k).length + 1), by go_num, rfl, by go_num, rfl, ?_, by omega, by omega⟩
                  rw [ahead_succ HTK.out (by rw [← HRIT.out]; exact hil) Q2.out, HIJ.out]
                  omega
            · have hie : i = r.items.length := by omega
              have hnl : ¬ ((i : Nat) : Int) < ((r.items.length : Nat) : Int) := by omega
              obtain ⟨c, k, q1, q2, q3, q4⟩ := hkid.out i (by omega)
              have Q1 := Lib.hid q1
              have Q2 := Lib.hid q2
              have hjk : j < (flat h k).length := by
                have h1 := HD.out.lt
                have h2 : t.its.length = i := by rw [← HRIT.out]; exact hie.symm
                rw [ahead_last HTK.out (by rw [h2]; exact Q2.out), h2] at h1
                have := HIJ.out
                omega
              clear q1 q2 hie
              go_wp2_with fail
              go_meet
              exact ⟨i, j, k, c, rfl, rfl, rfl, rfl, Q1.out, Q2.out, HIJ.out, hjk, by omega⟩
        case rest =>
          obtain ⟨i, j, k, c, rfl, rfl, rfl, rfl, q1, q2, hij, hj, hik⟩ := hcut
          obtain ⟨c', k', rc, p1, p2, p3, p4, p5, p6, p7, p8⟩ := HD.out.kid HR1.out HKS.out hik
          rw [q1] at p1
          cases p1
          have Q1 := Lib.hid q1
          have Q2 := Lib.hid q2
          have HIJ := Lib.hid hij
          have hi255 : i ≤ 255 := by omega
          have hIl : I.length ≤ 4000000000000 := by
            have h1 := HD.out.hp
            have h2 := HD.out.lenI
            have h3 := tall HT.out.par.pos HWF.out (Nat.le_refl 1)
            omega
          have hile := P3.out.le
          obtain ⟨y5, hrow5⟩ := P3.out.row
          have hrow6 := hrow5.keep (Keep.alloc Nothing wc (.cells [byteV i].toArray 5)) fun _ _ _ h => h
          have hone : ∀ u ∈ [byteV i], u.oneCell' = true := by intro u hu; simp at hu; subst hu; rfl
          have hnew := new_cells (heap_alloc_new wc (.cells [byteV i].toArray 5))
          have hx1 : q + 1 < wc.heap.size := lt_of_heap X3.out
          have P5' := Lib.hid p5
          have P6' := Lib.hid p6
          have hcn : c ∉ P ++ [n] := by simp; exact ⟨p4, p3⟩
          clear q1 q2 hij p2 p4 p5 p6 p7 p8 hrow5 c2 fz2 g3 g1 fzn
          go_upto_region 28 with (at_builtin; refine wpList_append_cross rfl _ _ _ rfl y5 5 1 1 Try.underlying29 elemU8 a I.length cap (I.map byteV) (by rfl) hrow6 (by simp) ⟨wc.heap.size, 0, none⟩ 1 1 [byteV i] (by rfl) (by rfl) hnew hone (by omega) hile (by simp only [maxLen]; omega) (by omega) ?_; intro a6 cap6 W6 y6 hg)
          have A5 : Keep Nothing wc (wc.alloc (.cells [byteV i].toArray 5)) := Keep.alloc Nothing wc _
          have hsz : w.heap.size ≤ wc.heap.size := WAY.out.1.size
          obtain ⟨P6, k6⟩ := (P3.out.calm A5 fun _ _ _ _ h => h).grow (by rw [World.size_alloc]; have := HQ.out; omega) (by rw [World.size_alloc]; omega) hg
          have K6 : Keep (fun c _ => q ≤ c ∧ c ≠ q + 1) wc W6 := (A5.mono fun _ _ _ h => h.elim).trans k6 fun c o hc h => h
          have X6 := Lib.hid (blk_keep X3.out K6 fun o h => h.2 rfl)
          have WAY6 := Lib.hid (way_keep HT.out.mem WAY.out K6 (fun c o h => by have := HQ.out; omega))
          have P6 := Lib.hid P6
          clear hrow6 hone hnew hg k6 A5
          have N6 := WAY6.out.2.at_ n r.less (decs_in (by simp) HR1.out)
          obtain ⟨g3, g1, fzn, hrow, z4⟩ := N6.kids (show r.less.kids = some ks from HKS.out)
          rw [HKA.out] at hrow g1
          have ck : W6.cell? ⟨kb, ko + i, none⟩ = some (ptr c) := hrow.cell (by simp [Q1.out])
          have hiso := Lib.hid (isoLoad_own (way_hdr HT.out WAY6.out.1) ck (WAY6.out.2.at_ c rc ((decs_out hcn).trans P5'.out)) P6'.out true)
          unfold ptr at hiso g3
          clear N6 hrow ck z4
          go_wp2_with fail
          refine hiso.out.mono ?_
          rintro e W7 ⟨rfl, kd7, rfl⟩
          have WAY7 := way_keep HT.out.mem WAY6.out (Keep.drewN Nothing W6 kd7) (fun c o h => h.elim)
          have P7 := P6.out.calm (Keep.drewN Nothing W6 kd7) fun _ _ _ _ h => h
          obtain ⟨G', C', D', d'⟩ := HD.out.go WAY7 HR1.out HKS.out Q1.out Q2.out HIJ.out hj
          unfold ptr
          go_wp2_with fail
          go_roundg (h + 1)
          case measure => omega
          case rel =>
            refine ⟨P ++ [n], I ++ [i], h, c, mn, k, G', C', D', j, a6, cap6, rfl, by simp, rfl, rfl, d', P7, fun j' hj' => ?_, X6.out⟩
            rcases List.mem_append.1 hj' with hj' | hj'
            · exact HSM.out j' hj'
            · simp at hj'; omega
  case rest =>
    obtain ⟨P, I, a, cap, rfl, hB, hP, hX⟩ := hcut
    have HB := Lib.hid hB
    have HP := Lib.hid hP
    have HX := Lib.hid hX
    clear hB hP hX D2 P2 X2 K2 S2
    have hcn : ∀ m, m ∈ F → ∀ r, H m = some r → -9223372036854775808 ≤ r.cnt - 1 + 1 ∧ r.cnt - 1 + 1 ≤ 9223372036854775807 := fun m hm r hr => by
      have h1 := HREP.out.cnt_le HWF.out m hm r hr
      have h2 := big
      omega
    have HCN := Lib.hid hcn
    have hIl : I.length ≤ 4000000000000 := by
      have h1 := HB.out.hp
      have h2 := HB.out.lenI
      have h3 := tall HT.out.par.pos HWF.out (Nat.le_refl 1)
      omega
    have H3 := Lib.hid (way_hdr HT.out HB.out.keep)
    have c2 := hdr_root H3.out
    rw [HR.out] at c2
    simp only [rootV, Option.map_some] at c2
    clear hcn
    go_wp2_with fail
    clear c2
    go_loopg [10, 12] (I.length + 1) (fun m v10 v12 wr => ∃ (j n : Nat), v10 = .pointer (some ⟨n, 0, none⟩) ∧ v12 = .int .i64 j ∧ j ≤ I.length ∧ j + m = I.length + 1 ∧ (j < I.length → P[j]? = some n) ∧ Keep (FP TT H L F) w wr ∧ Mem TT E wr (decs H (P.drop j)) L ∧ PathAt q (q + 1) wr a cap I ∧ wr.heap[q + 1]? = some (.cells (E.enc y).toArray 161 (0, 0)))
    case atStart => exact ⟨0, n0, rfl, rfl, by omega, by omega, fun _ => HB.out.trail.root, HB.out.keep, by simpa using HB.out.mem, HP.out, HX.out⟩
    case round =>
      obtain ⟨j, n, rfl, rfl, hjl, hjm, hjn, hK, hM, hPw, hXw⟩ := hrel
      have HK := Lib.hid hK
      have HM := Lib.hid hM
      have HPW := Lib.hid hPw
      have HXW := Lib.hid hXw
      have HJN := Lib.hid hjn
      clear hK hM hPw hXw hjn HP HX H3
      by_cases hlt : j < I.length
      · have hn := HJN.out hlt
        obtain ⟨hpl, hpe⟩ := List.getElem?_eq_some_iff.1 hn
        have hnP : n ∈ P := List.mem_of_getElem? hn
        obtain ⟨hnF, r, hr1⟩ := HB.out.dom n hnP
        have hnd : n ∈ P.drop j := List.mem_of_getElem? (i := 0) (by rw [List.getElem?_drop]; exact hn)
        have hdi := decs_in hnd hr1
        have hat := HM.out.at_ n r.less hdi
        have hnq : n < q := by have := HQ.out; have := lt_of_heap (HT.out.mem.at_ n r hr1).1; omega
        have hcb := HCN.out n hnF r hr1
        have HN := Lib.hid hn
        have HR1 := Lib.hid hr1
        have HDI := Lib.hid hdi
        have HAT := Lib.hid hat
        have HNF := Lib.hid hnF
        obtain ⟨d0, c1, d2, d3, fzn⟩ := hat.own
        simp only [NRec.less] at c1
        clear d0 d2 d3 hn hpl hpe hnP hr1 hnd hdi hat hnF
        go_upto_region 34 with (fail)
        refine wp_world ?_
        intro W3 hW3
        have K3 : Hid (Keep (fun c o => c = n ∧ o = 1) wr W3) := by subst hW3; exact (Keep.refl _ _).set _ _ _ fun _ => ⟨rfl, rfl⟩
        have N3 : Hid (NodeAt TT E W3 n r (L n)) := by
          subst hW3
          exact Lib.hid (nt_cnt ty_ok HAT.out r.cnt).at_
        clear hW3 c1 fzn
        have KW3 : Hid (Keep (FP TT H L F) w W3) := by exact HK.out.trans K3.out fun c o _ h => ⟨n, r, HNF.out, HR1.out, .inl h.1⟩
        have M3 : Hid (Mem TT E W3 (decs H (P.drop (j + 1))) L) := by
          have st := Step.one HM.out HDI.out (K3.out.mono fun c o _ h => .inl h.1) N3.out fun c o _ hf => hf
          have h1 := st.mem
          rw [upd_self, decs_drop HB.out.ndP HN.out HR1.out] at h1
          exact Lib.hid h1
        have P3 : Hid (PathAt q (q + 1) W3 a cap I) := by exact HPW.out.calm K3.out fun c o h1 _ h3 => by omega
        have X3 : Hid (W3.heap[q + 1]? = some (.cells (E.enc y).toArray 161 (0, 0))) := by exact blk_keep HXW.out K3.out fun o h => by omega
        have hlv := Lib.hid (leaf_any N3.out)
        unfold ptr at hlv
        clear HK HM HPW HXW HAT HDI K3
        cases hk : r.kids with
        | none =>
          have HKN := Lib.hid hk
          simp only [hk, Option.isNone_none] at hlv
          clear hk
          go_wp2_with fail
          refine hlv.out.mono ?_
          rintro e w4 ⟨rfl, rfl⟩
          go_wp2_with fail
          go_roundg (I.length - j)
          case measure => omega
          case rel =>
            refine ⟨j + 1, n, rfl, by go_num, by omega, by omega, fun hj2 => ?_, KW3.out, M3.out, P3.out, X3.out⟩
            have hlen := HB.out.lenI
            obtain ⟨r', ks, i, g1, g2, _⟩ := HB.out.trail.nxt j n (P[j + 1]'(by omega)) HN.out (List.getElem?_eq_getElem (by omega))
            rw [HR1.out] at g1
            cases g1
            rw [HKN.out] at g2
            cases g2
        | some ks =>
          have HKS := Lib.hid hk
          simp only [hk, Option.isNone_some] at hlv
          have hlen := HB.out.lenI
          obtain ⟨i, hi⟩ : ∃ i, I[j]? = some i := ⟨_, List.getElem?_eq_getElem hlt⟩
          have hik : i < ks.length := by
            by_cases hj2 : j + 1 < P.length
            · obtain ⟨r', ks', i', g1, g2, g3, g4⟩ := HB.out.trail.nxt j n P[j + 1] HN.out (List.getElem?_eq_getElem hj2)
              rw [HR1.out] at g1
              cases g1
              rw [HKS.out] at g2
              cases g2
              rw [hi] at g3
              cases g3
              exact (List.getElem?_eq_some_iff.1 g4).1
            · have hj3 : j = P.length - 1 := by omega
              obtain ⟨r', i', g1, g2, g3⟩ := HB.out.last n (by rw [← hj3]; exact HN.out)
              rw [HR1.out] at g1
              cases g1
              rw [← hj3, hi] at g2
              cases g2
              exact g3 ks HKS.out
          have hi255 := HB.out.small i (List.mem_of_getElem? hi)
          have HIJ := Lib.hid hi
          obtain ⟨pb, po, hpa, ci⟩ := P3.out.cell hi
          have HPA := Lib.hid hpa
          subst hpa
          obtain ⟨g3, g1, fzn, hrow, z4⟩ := N3.out.kids hk
          obtain ⟨kb, ko, hka, z5⟩ := hrow.form (by simp; omega)
          rw [hka] at hrow g1
          have hck : ks[i]? = some ks[i] := List.getElem?_eq_getElem hik
          have HCK := Lib.hid hck
          have ck := hrow.cell (i := i) (v := ptr ks[i]) (by simp [hck])
          unfold ptr at g3 ck
          unfold byteV at ci
          generalize ks[i] = c at *
          clear hk hi hrow hka z4 z5 hck hlen
          go_wp2_with fail
          refine hlv.out.mono ?_
          rintro e w4 ⟨rfl, rfl⟩
          go_wp2_with fail
          refine wp_calm (by kernel_rfl) (by kernel_rfl) rfl ?_
          simp only [List.flatMap_cons, List.flatMap_nil, checks, chk, nilLit, List.cons_append, List.nil_append, List.append_nil]
          go_wp2_with fail
          rw [HQ_normal]
          go_wp2_with fail
          go_roundg (I.length - j)
          case measure => omega
          case rel =>
            refine ⟨j + 1, c, rfl, by go_num, by omega, by omega, fun hj2 => ?_, KW3.out.dr, M3.out.keepS (Keep.drew Nothing _) (fun _ _ _ _ _ _ h => h), P3.out.calm (Keep.drew Nothing _) (fun _ _ _ _ h => h), X3.out⟩
            have hlen := HB.out.lenI
            obtain ⟨r', ks', i', g1, g2, g3, g4⟩ := HB.out.trail.nxt j n (P[j + 1]'(by omega)) HN.out (List.getElem?_eq_getElem (by omega))
            rw [HR1.out] at g1
            cases g1
            rw [HKS.out] at g2
            cases g2
            rw [HIJ.out] at g3
            cases g3
            rw [HCK.out] at g4
            rw [List.getElem?_eq_getElem (by omega), ← Option.some.inj g4]
      · have hje : j = I.length := by omega
        subst hje
        have hm := HM.out
        rw [List.drop_eq_nil_of_le (by have := HB.out.lenI; omega), decs_nil] at hm
        have T3 : TreeAt wr b hr H L F mn mx (some (h0, t0)) := ⟨way_hdr HT.out HK.out, hm, HT.out.nd, HT.out.root, HT.out.cnt, HT.out.srt, HT.out.par⟩
        have hdl := Lib.hid (HDEL.out T3 (by simp only [its]; omega) (ky y))
        obtain ⟨x0, x1, xf⟩ := blk2 HXW.out
        unfold ptr at hdl
        unfold kv at hdl x1
        have hbq : b < q := by have := HQ.out; have := lt_of_heap HT.out.hdr; omega
        clear hm T3
        go_wp2_with fail
        refine hdl.out.mono ?_
        rintro e w4 hd
        have hd2 := hd
        obtain ⟨hr', H', L', F', s', p, z1, ts, z2⟩ := hd2
        have X4 := Lib.hid (blk_keep HXW.out ts.keep fun o hf => by
          rcases hf with ⟨m, r, _, hr, hf⟩ | hf
          · have := (HT.out.mem.at_ m r hr).lt hf; have := HQ.out; omega
          · omega)
        obtain ⟨he, hfin⟩ := dat_del HT.out HK.out HY.out hd
        have FIN := Lib.hid hfin
        subst he
        clear hd z1 ts z2 hfin x0 x1 xf hdl
        obtain ⟨x0, x1, xf⟩ := blk2 X4.out
        unfold kv at x1
        unfold vv
        go_wp2_with fail
        go_ret3
        exact FIN.out
end Go.Proofs.Ytckplcmieelmpaa.W

namespace Go.Proofs.Ytckplcmieelmpaa.W
open Go.RowKit Go.Wb

theorem del_ok : DelOK := fun T big k => delete_any T big k
/-- MAP.DELETEAT: what it leaves. -/
theorem dat_any : DatOK := fun {w b hr H L F mn mx s} T big hmx i => by
  by_cases h : i < 0 ∨ ((its s).length : Int) ≤ i
  · exact dat_out T h
  · cases s with
    | none => exact absurd (.inr (by simp only [its, List.length_nil]; omega)) h
    | some p =>
      obtain ⟨h0, t0⟩ := p
      simp only [its] at h big
      obtain ⟨j, rfl⟩ : ∃ j : Nat, i = (j : Int) := ⟨i.toNat, by omega⟩
      exact dat_main del_ok T big hmx (by omega)
end Go.Proofs.Ytckplcmieelmpaa.W

namespace Go.Proofs.Ytckplcmieelmpaa.W
open Go.RowKit Go.Wb
theorem wdelat_top {w : World} {d : Int} (h : (Lit.int .i64 d).wf = true) {a : Option Addr} {cap : Nat} {l : List It} (hg : Given w a (OE.all l)) (hl : l.length ≤ maxLen) {ka : Option Addr} {kcap : Nat} {js : List Int} (hk : Given w ka (js.map (Value.int .i64))) (_ : js.length ≤ maxLen) :
    Calls Try.prog 8 #[.int .i64 d, .slice a l.length cap, .slice ka js.length kcap] w (TruePost w) := wdelat_row dat_any h hg hl hk
end Go.Proofs.Ytckplcmieelmpaa.W

namespace Go.Wb
open Go Go.ChangeShapes Go.WideShapes Go.ChangeAt Go.RowKit

/-- The cells of a slice that came in. -/
theorem given_cells {W : World} {a : Addr} {cs : List Value} (h : ∀ i v, cs[i]? = some v → W.cell? (a.add i) = some v) : Given W (some a) cs := by
  cases cs with
  | nil => exact .inl rfl
  | cons x cs =>
    obtain ⟨b, off, spot⟩ := a
    have h0 := h 0 x (by simp)
    have hspot : spot = none := by simpa [Addr.add] using World.cell?_spot h0
    subst hspot
    refine .inr ⟨b, off, rfl, fun i v hi => ?_⟩
    rw [← add_plain]
    exact h i v hi

section
variable {H : Type} {enc : TypeId × Value → H} {P : Program} {W : World}

/-- A slice of texts that came in. -/
theorem open_texts {t e : TypeId} {base : Nat} {v : Value} {d : DataW H} {p : List MemPlace} (ht : P.underlying t = some (.slice e)) (he : P.underlying e = some .string) (hc : P.cellsOf e = 1) (hval : Value.okWide P W .any base t v)
    (h : DataW.Trod enc P W 0 (fun _ => true) true t v d p) : ∃ (a : Option Addr) (l : List ByteArray) (cap : Nat), v = .slice a l.length cap ∧ Given W a (l.map .string) ∧ l.length ≤ maxLen := by
  obtain ⟨a0, len, cap, rfl⟩ := okWide_slice ht hval
  obtain ⟨fuel, hf⟩ := h
  rcases open_strings ht he hc hf with ⟨hcs, hx⟩ | ⟨a, len', cap', ss, hcs, _, hl, hm, hz, hx, hcell, hws⟩
  · simp [Value.cells] at hcs
    obtain ⟨rfl, rfl, rfl⟩ := hcs
    exact ⟨none, [], 0, rfl, .inl rfl, by simp⟩
  · simp [Value.cells] at hcs
    obtain ⟨rfl, rfl, rfl⟩ := hcs
    simp only [if_true] at hz
    have hlen : (ss.take len).length = len := by simp; omega
    refine ⟨some a, ss.take len, cap, by rw [hlen], given_cells fun i v hi => ?_, by rw [hlen]; omega⟩
    rw [List.getElem?_map, List.getElem?_take] at hi
    split at hi
    · have hil : i < ss.length := by omega
      rw [List.getElem?_eq_getElem hil] at hi
      rw [hcell i hil]
      simp at hi
      rw [← hi]
      simp [List.getD, hil]
    · cases hi

/-- What came in reads as it did. -/
theorem Below.trodAll (hl : laidOutB P = true) {W' : World} (hb : Below W.heap.size W W') : ∀ {ts : List TypeId} {vs : List Value} {ds : List (DataW H)} {ps : List MemPlace}, (ts.all fun t => P.readableRec t && decide (t < P.types.size)) = true →
    DataW.TrodAll enc P W 0 (fun _ => true) true ts vs ds ps → (∀ x ∈ ps, x.block < W.heap.size) → DataW.TrodAll enc P W' 0 (fun b => decide (b < W.heap.size)) true ts vs ds ps
  | [], [], [], ps, _, h, _ => h
  | t :: ts, v :: vs, d :: ds, ps, hc, h, hp => by
    obtain ⟨p, q, h1, h2, rfl⟩ := h
    simp only [List.all_cons, Bool.and_eq_true, decide_eq_true_eq] at hc
    refine ⟨p, q, Below.trod hl hc.1.1 hc.1.2 h1 hb (fun x hx => hp x (by simp [hx])), Below.trodAll hl hb (by simpa using hc.2) h2 (fun x hx => hp x (by simp [hx])), rfl⟩
  | [], _ :: _, _, _, _, h, _ => h.elim
  | [], [], _ :: _, _, _, h, _ => h.elim
  | _ :: _, [], _, _, _, h, _ => h.elim
  | _ :: _, _ :: _, [], _, _, h, _ => h.elim
end
end Go.Wb

namespace Go.Wb
open Go Go.ChangeShapes Go.WideShapes Go.ChangeAt Go.RowKit Go.Deep

theorem pairs_get {β : Type} (f g : β → Value) : ∀ {l : List β} {j : Nat} {v : Value}, (l.flatMap fun x => [f x, g x])[j]? = some v → ∃ i x, l[i]? = some x ∧ ((j = i * 2 ∧ v = f x) ∨ (j = i * 2 + 1 ∧ v = g x))
  | [], j, v, h => by simp at h
  | x :: l, 0, v, h => ⟨0, x, rfl, .inl ⟨rfl, by simpa using h.symm⟩⟩
  | x :: l, 1, v, h => ⟨0, x, rfl, .inr ⟨rfl, by simpa using h.symm⟩⟩
  | x :: l, j + 2, v, h => by
    obtain ⟨i, y, h1, h2⟩ := pairs_get f g (l := l) (j := j) (v := v) (by simpa using h)
    exact ⟨i + 1, y, by simpa using h1, h2.imp (fun ⟨a, b⟩ => ⟨by omega, b⟩) fun ⟨a, b⟩ => ⟨by omega, b⟩⟩

def strV : Value → ByteArray | .string s => s | _ => ⟨#[]⟩
def intV : Value → Int | .int _ n => n | _ => 0

section
variable {H : Type} {enc : TypeId × Value → H} {P : Program} {W : World}
/-- A slice of pairs of a text and a number that came in. -/
theorem open_words {t e : TypeId} {f0 f1 : Field} {base : Nat} {v : Value} {d : DataW H} {p : List MemPlace} (ht : P.underlying t = some (.slice e)) (he : P.underlying e = some (.struct #[f0, f1])) (hk : P.underlying f0.type = some .string) (hi : P.underlying f1.type = some (.int .i64))
    (ce : P.cellsOf e = 2) (o0 : f0.offset = 0) (o1 : f1.offset = 1) (c0 : P.cellsOf f0.type = 1) (c1 : P.cellsOf f1.type = 1) (hval : Value.okWide P W .any base t v)
    (h : DataW.Trod enc P W 0 (fun _ => true) true t v d p) : ∃ (a : Option Addr) (l : List (ByteArray × Int)) (cap : Nat), v = .slice a l.length cap ∧ Given W a (l.flatMap fun x => [.string x.1, .int .i64 x.2]) ∧ l.length ≤ maxLen := by
  obtain ⟨a0, len, cap, rfl⟩ := okWide_slice ht hval
  obtain ⟨fuel, hf⟩ := h
  rcases open_slice_pairs ht he ce o0 o1 c0 c1 hf with ⟨hcs, hx⟩ | ⟨a, len', cap', m, n, V0, V1, D0, D1, P0, P1, hcs, _, hl, hm, hz, hx, hc⟩
  · simp [Value.cells] at hcs
    obtain ⟨rfl, rfl, rfl⟩ := hcs
    exact ⟨none, [], 0, rfl, .inl rfl, by simp⟩
  · simp [Value.cells] at hcs
    obtain ⟨rfl, rfl, rfl⟩ := hcs
    simp only [if_true] at hz
    have hlen : ((List.range len).map fun i => (strV (V0 i), intV (V1 i))).length = len := by simp
    refine ⟨some a, (List.range len).map fun i => (strV (V0 i), intV (V1 i)), cap, by rw [hlen], given_cells fun j u hj => ?_, by rw [hlen]; omega⟩
    obtain ⟨i, x, h1, h2⟩ := pairs_get (fun x : ByteArray × Int => Value.string x.1) (fun x => Value.int .i64 x.2) hj
    rw [List.getElem?_map] at h1
    obtain ⟨k, hk1, hk2⟩ := Option.map_eq_some_iff.1 h1
    obtain ⟨hil, rfl⟩ := List.getElem?_eq_some_iff.1 hk1
    simp only [List.length_range] at hil
    simp only [List.getElem_range] at hk2
    subst hk2
    obtain ⟨g0, g1, g2, g3⟩ := hc i (by omega)
    obtain ⟨s, e1, _, _⟩ := DataW.trod_string hk g2
    obtain ⟨z, e2, _, _⟩ := DataW.trod_int hi g3
    have e1' : V0 i = .string s := by simpa using e1
    have e2' : V1 i = .int .i64 z := by simpa using e2
    rcases h2 with ⟨rfl, rfl⟩ | ⟨rfl, rfl⟩
    · rw [g0, e1']; rfl
    · rw [g1, e2']; rfl
end
end Go.Wb

namespace Go.Wb
open Go Go.ChangeShapes Go.WideShapes Go.ChangeAt Go.RowKit

section
variable {H : Type} {enc : TypeId × Value → H} {P : Program} {W : World}
/-- A slice of numbers that came in. -/
theorem open_numbers {t e : TypeId} {base : Nat} {v : Value} {d : DataW H} {p : List MemPlace} (ht : P.underlying t = some (.slice e)) (he : P.underlying e = some (.int .i64)) (hc : P.cellsOf e = 1) (hval : Value.okWide P W .any base t v)
    (h : DataW.Trod enc P W 0 (fun _ => true) true t v d p) : ∃ (a : Option Addr) (l : List Int) (cap : Nat), v = .slice a l.length cap ∧ Given W a (l.map (Value.int .i64)) ∧ l.length ≤ maxLen := by
  obtain ⟨a0, len, cap, rfl⟩ := okWide_slice ht hval
  obtain ⟨fuel, hf⟩ := h
  rcases open_ints ht he hc hf with ⟨hcs, hx⟩ | ⟨a, len', cap', ss, hcs, _, hl, hm, hz, hx, hcell, hws⟩
  · simp [Value.cells] at hcs
    obtain ⟨rfl, rfl, rfl⟩ := hcs
    exact ⟨none, [], 0, rfl, .inl rfl, by simp⟩
  · simp [Value.cells] at hcs
    obtain ⟨rfl, rfl, rfl⟩ := hcs
    simp only [if_true] at hz
    have hlen : (ss.take len).length = len := by simp; omega
    refine ⟨some a, ss.take len, cap, by rw [hlen], given_cells fun i v hi => ?_, by rw [hlen]; omega⟩
    rw [List.getElem?_map, List.getElem?_take] at hi
    split at hi
    · have hil : i < ss.length := by omega
      rw [List.getElem?_eq_getElem hil] at hi
      rw [hcell i hil]
      simp at hi
      rw [← hi]
      simp [List.getD, hil]
    · cases hi
end
end Go.Wb
