/- Part 1 of the texts for the statement FnSetAlgebraSaid: the package's tree of maps and sets, its functions' contracts. -/
import Derived.Test.YtckplcmieelmpaaHC
import Derived.Deep.RegionHeld3
import Derived.Deep.DeepCutAuto
namespace Go.Proofs.Ytckplcmieelmpaa.S
open Go.RowKit Go.Wb

set_option maxRecDepth 100000 in
set_option maxHeartbeats 16000000 in
theorem reb_merge {w : World} {b : Nat} {hr : HRec} {S : Nat → Nat → Prop} {n a d : Nat} {r ra rb : NRec It} {L La Lb : Lay} {N1 N2 : List Nat} {i i0 : Nat} {m : It} {mx : Nat} {c : Nat → Int} (P : RebIn w b hr S n a d r ra rb L La Lb N1 N2 i m mx c) (hi0 : i0 = i ∨ (i0 = i + 1 ∧ i0 = r.items.length))
    (hsm : ra.items.length + rb.items.length < mx) : Calls Try.prog 201 #[ptr b, ptr n, .int .i64 i0] w (RebW w S mx i c n a d N1 N2 m r ra rb) := by
  have HP := Lib.hid P
  have HKS := Lib.hid P.kids
  have hlr := Lib.hid P.lr
  have hln := P.ln
  have hle := P.len
  have hbb := P.hb
  have hla := P.la
  have hlb := P.lb
  have hN0 := P.own.node_ 0 rfl
  obtain ⟨kb, ko, hka, _⟩ := ((hN0.2.2.2 _ P.kids).2.1).form (by simp; omega)
  have HKA := Lib.hid hka
  have hkl : Hid ((N1 ++ a :: d :: N2).length = r.items.length + 1) := by have := hlr.out; exact Lib.hid (by simp; omega)
  have HI0 := Lib.hid hi0
  clear P hi0 hN0 hka
  unfold ptr at *
  go_enter Try.func201, Try.ntmps201
  have HN0 := Lib.hid (HP.out.own.node_ 0 rfl)
  obtain ⟨c0, c1, c2, c3, fz⟩ := blk4 HN0.out.1
  clear c0 c1 c3 fz
  have hil : Hid (i < r.items.length ∧ i + 1 < (N1 ++ a :: d :: N2).length) := by have := hlr.out; have := hkl.out; exact Lib.hid (by omega)
  have HNA := Lib.hid (HP.out.own.node_ 1 rfl)
  have HND := Lib.hid (HP.out.own.node_ 2 rfl)
  rcases HI0.out with h0 | ⟨h0, h1⟩
  case' inl =>
    replace h0 := h0.symm
    subst h0
    have hne : ¬ ((i : Int) = (r.items.length : Int)) := by have := hil.out; omega
  case' inr =>
    obtain ⟨z, hz⟩ : ∃ z : Int, z = ((i0 : Nat) : Int) := ⟨_, rfl⟩
    rw [← hz]
    have hne : z = (r.items.length : Int) := by omega
    have hz1 : (r.items.length : Int) - 1 = (i : Int) := by omega
    have hz2 : -9223372036854775808 ≤ (r.items.length : Int) - 1 ∧ (r.items.length : Int) - 1 ≤ 9223372036854775807 := by omega
    replace h0 := Lib.hid h0
    replace h1 := Lib.hid h1
    replace hz := Lib.hid hz
  all_goals
    go_upto_region 2 with (fail)
    clear hne
    try clear hz1 hz2 hz h0 h1
    have hkl2 := hkl.out
    obtain ⟨hil1, hil2⟩ := hil.out
    obtain ⟨c0, c1, c2b, c3, fz⟩ := blk4 HN0.out.1
    rw [HKS.out] at c3
    obtain ⟨g1, g2, g3⟩ := HN0.out.2.2.2 _ HKS.out
    rw [HKA.out] at g1 g2
    obtain ⟨g4, fz3⟩ := blk1 g1
    have x1 : w.cell? ⟨kb, ko + i, none⟩ = some (ptr a) := g2.cell (by rw [List.map_append, List.getElem?_append_right (by simp; omega)]; simp [hln])
    have x2 : w.cell? ⟨kb, ko + (i + 1), none⟩ = some (ptr d) := g2.cell (by rw [List.map_append, List.getElem?_append_right (by simp; omega)]; simp [hln])
    have hisoA := Lib.hid (isoLoad_own HP.out.hdr x1 HNA.out HP.out.isoa true)
    simp only [kidsVal, ptr] at c3
    unfold ptr at hisoA
    clear c0 c1 c2b fz g1 g2 g3 x1 x2 c2
    go_wp2_with fail
    refine hisoA.out.mono ?_
    rintro e w1 ⟨rfl, k1, rfl⟩
    have OA : Hid (Own TT E S w (w.drewN k1) [.node n r L, .node a ra La, .node d rb Lb]) := by exact HP.out.own.drN k1
    have HA : Hid (Hdr (w.drewN k1) b hr) := by exact blk_keep HP.out.hdr (Keep.drewN Nothing _ _) fun _ h => h
    clear hisoA c3 g4 fz3 HN0 HNA HND
    generalize w.drewN k1 = WA at *
    have HN0 := Lib.hid (OA.out.node_ 0 rfl)
    obtain ⟨c0, c1, c2b, c3, fz⟩ := blk4 HN0.out.1
    rw [HKS.out] at c3
    obtain ⟨g1, g2, g3⟩ := HN0.out.2.2.2 _ HKS.out
    rw [HKA.out] at g1 g2
    obtain ⟨g4, fz3⟩ := blk1 g1
    have x2 : WA.cell? ⟨kb, ko + (i + 1), none⟩ = some (ptr d) := g2.cell (by rw [List.map_append, List.getElem?_append_right (by simp; omega)]; simp [hln])
    have hisoD := Lib.hid (isoLoad_own HA.out x2 (OA.out.node_ 2 rfl) HP.out.isob true)
    simp only [kidsVal, ptr] at c3
    unfold ptr at hisoD
    clear c0 c1 c2b fz g1 g2 g3 x2
    unfold ptr
    go_wp2_with fail
    refine hisoD.out.mono ?_
    rintro e w1 ⟨rfl, k2, rfl⟩
    unfold ptr
    have OW : Hid (Own TT E S w (WA.drewN k2) [.node n r L, .node a ra La, .node d rb Lb]) := by exact OA.out.drN k2
    have HW : Hid (Hdr (WA.drewN k2) b hr) := by exact blk_keep HA.out (Keep.drewN Nothing _ _) fun _ h => h
    clear hisoD c3 g4 fz3 HN0 OA HA
    generalize WA.drewN k2 = W at *
    obtain ⟨ca0, ca1, ca2, ca3, fza⟩ := blk4 (OW.out.node_ 1 rfl).1
    obtain ⟨cd0, cd1, cd2, cd3, fzd⟩ := blk4 (OW.out.node_ 2 rfl).1
    have x6 := hdr_mx HW.out
    rw [HP.out.hmx] at x6
    clear ca0 ca1 ca3 cd0 cd1 cd3
    go_wp2_with fail
    refine wp_calm (by kernel_rfl) (by kernel_rfl) rfl ?_
    simp only [List.flatMap_cons, List.flatMap_nil, checks, chk, nilLit, List.cons_append, List.nil_append, List.append_nil]
    go_wp2_with fail
    rw [HQ_normal]
    clear ca2 cd2 x6
    have OW0 : Hid (Own TT E S w W.drew [.node n r L, .node a ra La, .node d rb Lb]) := by exact OW.out.dr
    have HW0 : Hid (Hdr W.drew b hr) := by exact blk_keep HW.out (Keep.drew Nothing _) fun _ h => h
    clear OW HW
    generalize W.drew = W0 at *
    go_upto_region 5 with (fail)
    have hlr2 := hlr.out
    obtain ⟨ib, io, hia, _⟩ := ((OW0.out.node_ 0 rfl).2.1).form (by rw [E.all_len]; have := E.pos; exact Nat.mul_pos (by omega) E.pos)
    have HIA := Lib.hid hia
    clear hlr2 fza fzd
    obtain ⟨cn0, cn1, cn2, cn3, fzn⟩ := blk4 (OW0.out.node_ 0 rfl).1
    obtain ⟨ca0, ca1, ca2, ca3, fza⟩ := blk4 (OW0.out.node_ 1 rfl).1
    rw [hia] at cn2
    have hrow := (OW0.out.node_ 0 rfl).2.1
    rw [hia] at hrow
    have ck := key_cell hrow HP.out.item
    unfold kv at ck
    have fzr := hrow.frozen
    clear cn0 cn1 cn3 ca0 ca1 ca3 hrow hia
    refine wp_held (fun w' => w'.cell? ⟨a, 2, none⟩ = some (.slice La.ia ra.items.length La.icap)) [4] (by kernel_rfl) (by kernel_rfl) (by kernel_rfl) rfl ca2 ?_
    simp only [segs, readsB, silentB, lenB, checks, List.nil_append, Bool.or_true, Bool.or_false, Bool.false_eq_true, reduceIte, show (Builtin.append == Builtin.len) = false from rfl, Bool.false_and]
    go_wp2_with fail
    refine held_world ?_
    intro W1 hW1
    generalize he0 : W0.heap.size = e0 at *
    have KA : Hid (Keep Nothing W0 W1) := by subst hW1; exact ((Keep.refl _ _).al _).dr
    have N12 : Hid (W1.heap[e0]? = some (.cells (E.enc m).toArray 181 (0, 0))) := by subst hW1; subst he0; exact heap_alloc_new W0 _
    have OW1 : Hid (Own TT E S w W1 [.node n r L, .node a ra La, .node d rb Lb]) := by exact OW0.out.calm KA.out
    clear hW1 cn2 fzn ca2 fza ck fzr
    obtain ⟨ca0, ca1, ca2, ca3, fza⟩ := blk4 (OW1.out.node_ 1 rfl).1
    clear ca0 ca1 ca3
    refine held_next ca2 ?_
    refine wpList_append_any rfl _ _ _ rfl 181 1 8 Try.underlying250 ⟨by kernel_rfl, by kernel_rfl, by kernel_rfl⟩ La.ia ra.items.length La.icap (E.all ra.items) rfl (OW1.out.node_ 1 rfl).2.1 (E.all_len _) ⟨e0, 0, none⟩ 1 1 (E.enc m) ?_ (E.len _) ?_ (E.one _) (by omega) (OW1.out.node_ 1 rfl).2.2.1 (by simp only [maxLen]; omega) (by omega) ?_
    · rfl
    · exact new_cells N12.out
    intro ai' ic' W2 hG
    have OA2 := Lib.hid (nt_append1 ty_ok (OW0.out.node_ 1 rfl) KA.out hG)
    have KG2 : Hid (Keep (rowFp La.ia (La.icap * TT.s)) W1 W2) := by
      refine hG.keep.mono fun x o _ h => ?_
      obtain ⟨x1, y1, e1, e2, e3, e4⟩ := h
      exact ⟨x1, y1, e1, e2, by omega, e4⟩
    have hA1 := Lib.hid (OW1.out.node_ 1 rfl)
    have hA2 : Hid (W2.heap[a]? = some (.cells #[.int .u64 ra.iso, .int .i64 ra.cnt, .slice La.ia ra.items.length La.icap, kidsVal ra.kids La.cb] 253 (0, 0))) := by
      exact blk_keep hA1.out.1 KG2.out fun o hf => by
        obtain ⟨arr, ha⟩ := hA1.out.2.1.block ⟨_, hf⟩
        exact blk_ne hA1.out.1 ha ty_ok.a rfl
    obtain ⟨fc, hfc⟩ : ∃ f : Unit → Nat, f () = ic' := ⟨fun _ => ic', rfl⟩
    subst hfc
    clear hG ca2 fza hA1 KG2
    obtain ⟨ca0, ca1, ca2, ca3, fza⟩ := blk4 hA2.out
    clear ca0 ca1 ca3
    refine held_next ca2 ?_
    simp only [Act.put]
    go_wp2_with fail
    refine held_world ?_
    intro W3 hW3
    refine held_end ?_ ?_
    · refine ⟨?_, trivial⟩
      exact ⟨.slice La.ia ra.items.length La.icap, fun w' hS => by simp [execOp, hS, go_sem]⟩
    obtain ⟨La3, OW3⟩ : ∃ La3, Hid (Own TT E S w W3 [.node n r L, .node a { ra with items := ra.items ++ [m] } La3, .node d rb Lb]) := by
      subst hW3; exact ⟨_, OW0.out.nt 1 rfl OA2.out⟩
    clear hW3 OW1 OW0 OA2 KA N12 hA2 ca2 fza he0
    have OX : Hid (Own TT E S w W3.drew [.node n r L, .node a { ra with items := ra.items ++ [m] } La3, .node d rb Lb]) := by exact OW3.out.dr
    have hlA : (ra.items ++ [m]).length = ra.items.length + 1 := by simp
    obtain ⟨ca0, ca1, ca2, ca3, fza⟩ := blk4 (OW3.out.node_ 1 rfl).1
    obtain ⟨cd0, cd1, cd2, cd3, fzd⟩ := blk4 (OW3.out.node_ 2 rfl).1
    have hrA := (OX.out.node_ 1 rfl).2.1
    have hrD := (OX.out.node_ 2 rfl).2.1.reads
    have hcA := (OX.out.node_ 1 rfl).2.2.1
    simp only [hlA] at ca2 hcA
    have hlen1 : Hid ((E.all (ra.items ++ [m])).length = (ra.items.length + 1) * 1) := by rw [E.all_len, hlA]; exact Lib.hid rfl
    replace hrA := Lib.hid hrA
    replace hrD := Lib.hid hrD
    clear ca0 ca1 ca3 cd0 cd1 cd3 hlA fzd
    go_wp2_with fail
    refine wp_calm (by kernel_rfl) (by kernel_rfl) rfl ?_
    simp only [List.flatMap_cons, List.flatMap_nil, checks, chk, nilLit, List.cons_append, List.nil_append, List.append_nil]
    go_wp2_with (at_builtin; refine wpList_append_src rfl _ _ _ rfl 181 1 8 Try.underlying250 ⟨by kernel_rfl, by kernel_rfl, by kernel_rfl⟩ La3.ia (ra.items.length + 1) La3.icap (E.all (ra.items ++ [m])) (by rfl) hrA.out hlen1.out Lb.ia rb.items.length Lb.icap (E.all rb.items) (by rfl) (by omega) (E.all_len _) hrD.out (all_one _) hcA (by simp only [maxLen]; omega) (by omega) ?_; intro a9 c9 W5 hg; obtain ⟨ca5, ca6⟩ := node_grew (OX.out.node_ 1 rfl) hg)
    generalize hW6 : W5.setCell ⟨a, 2, none⟩ (.slice a9 (ra.items.length + 1 + rb.items.length) c9) = W6
    obtain ⟨La6, OW6⟩ : ∃ La6, Hid (Own TT E S w W6 [.node n r L, .node a { ra with items := ra.items ++ [m] ++ rb.items } La6, .node d rb Lb]) := by
      have hl : (ra.items ++ [m]).length = ra.items.length + 1 := by simp
      rw [← hl] at hg hW6
      subst hW6
      exact ⟨_, OX.out.nt 1 rfl (nt_append (its := ra.items ++ [m] ++ rb.items) ty_ok (OX.out.node_ 1 rfl) (Keep.refl _ _) hg (E.all_append _ _).symm (by simp; omega))⟩
    clear hW6 hg ca5 ca6 ca2 cd2 fza hcA hlen1 hrA hrD OX OW3
    have hlv := Lib.hid (leaf_any (OW6.out.node_ 1 rfl))
    unfold ptr at hlv
    refine hlv.out.mono ?_
    rintro e w1 ⟨rfl, rfl⟩
    clear hlv
    rcases HP.out.same with ⟨hk1, hk2⟩ | ⟨x, y, hk1, hk2, hx, hy, hkk⟩
    case' inl =>
      simp only [hk1, Option.isNone_none]
      go_upto_region 9 with (fail)
      obtain ⟨La9, OW9⟩ : ∃ La9, Hid (Own TT E S w W6 [.node n r L, .node a { ra with items := ra.items ++ [m] ++ rb.items, kids := mkids ra.kids rb.kids } La9, .node d rb Lb]) := by
        have e : mkids ra.kids rb.kids = ra.kids := by rw [hk1]; rfl
        rw [e]
        exact ⟨_, OW6⟩
      clear OW6
      generalize W6 = W9 at *
    case' inr =>
      simp only [hk1, Option.isNone_some]
      go_upto_region 8 with (fail)
      have OX : Hid (Own TT E S w W6.drew [.node n r L, .node a { ra with items := ra.items ++ [m] ++ rb.items } La6, .node d rb Lb]) := by exact OW6.out.dr
      have XA := (OW6.out.node_ 1 rfl).kids hk1
      have XD := (OW6.out.node_ 2 rfl).kids hk2
      have p1 := XA.1
      have p2 := XA.2.1
      have p3 := XA.2.2.1
      have q1 := XD.1
      have q2 := XD.2.1
      have hrA := ((OX.out.node_ 1 rfl).kids hk1).2.2.2.1
      have hrD := ((OX.out.node_ 2 rfl).kids hk2).2.2.2.1
      have hcA := XA.2.2.2.2
      clear XA XD
      replace hrD := Lib.hid hrD.reads
      replace hrA := Lib.hid hrA
      have hxl : Hid ((x.map ptr).length = x.length * 1) := Lib.hid (by simp)
      have hyl : Hid ((y.map ptr).length = y.length * 1) := Lib.hid (by simp)
      have hx2 : x.length ≤ 1000000000001 := by omega
      have hy2 : y.length ≤ 1000000000001 := by omega
      have HXL := Lib.hid hx
      have HYL := Lib.hid hy
      clear hx hy
      unfold ptr at p1 q1
      refine wp_held (fun w' => w'.cell? ⟨a, 3, none⟩ = some (.pointer (some ⟨La6.cb, 0, none⟩))) [3] (by kernel_rfl) (by kernel_rfl) (by kernel_rfl) rfl p1 ?_
      simp only [segs, readsB, silentB, lenB, checks, List.nil_append, Bool.or_true, Bool.or_false, Bool.false_eq_true, reduceIte, show (Builtin.append == Builtin.len) = false from rfl, Bool.false_and]
      go_wp2_with (at_builtin; refine (wpList_append_src rfl _ _ _ rfl 179 1 8 Try.underlying254 ⟨by kernel_rfl, by kernel_rfl, by kernel_rfl⟩ La6.ka x.length La6.kcap (x.map ptr) (by rfl) hrA.out hxl.out Lb.ka y.length Lb.kcap (y.map ptr) (by rfl) (by omega) hyl.out hrD.out (ptr_one _) hcA (by simp only [maxLen]; omega) (by omega) ?_); intro a9 c9 W8 hg; obtain ⟨cg5, cg6, cg7⟩ := kids_grew (OX.out.node_ 1 rfl) hk1 hg)
      refine held_next cg7 ?_
      go_wp2_with fail
      refine held_world ?_
      intro W9 hW9
      refine held_end ?_ ?_
      · refine ⟨?_, trivial⟩
        exact ⟨.pointer (some ⟨La6.cb, 0, none⟩), fun w' hS => by simp [execOp, hS, go_sem]⟩
      go_upto_region 9 with (fail)
      obtain ⟨La9, OW9⟩ : ∃ La9, Hid (Own TT E S w W9 [.node n r L, .node a { ra with items := ra.items ++ [m] ++ rb.items, kids := mkids ra.kids rb.kids } La9, .node d rb Lb]) := by
        have e : mkids ra.kids rb.kids = some (x ++ y) := by rw [hk1, hk2]; rfl
        rw [e]
        subst hW9
        exact ⟨_, OX.out.nt 1 rfl (nk_append ty_ok (OX.out.node_ 1 rfl) hk1 (Keep.refl _ _) hg rfl)⟩
      clear hW9 OW6 OX hg cg5 cg6 cg7 hrA hrD p1 p2 p3 q1 q2 hcA hxl hyl hx2 hy2
    all_goals
      have hca := HP.out.ca
      have hcb := HP.out.cb
      have hbig := HP.out.big
      obtain ⟨ca0, ca1, ca2, ca3, fza⟩ := blk4 (OW9.out.node_ 1 rfl).1
      obtain ⟨cd0, cd1, cd2, cd3, fzd⟩ := blk4 (OW9.out.node_ 2 rfl).1
      have hb1 : -9223372036854775808 ≤ rb.cnt + 1 ∧ rb.cnt + 1 ≤ 9223372036854775807 := by omega
      have hb2 : -9223372036854775808 ≤ ra.cnt + (rb.cnt + 1) ∧ ra.cnt + (rb.cnt + 1) ≤ 9223372036854775807 := by omega
      clear ca0 ca2 ca3 cd0 cd2 cd3 fzd
      go_wp2_with fail
      refine wp_calm (by kernel_rfl) (by kernel_rfl) rfl ?_
      simp only [List.flatMap_cons, List.flatMap_nil, checks, chk, nilLit, List.cons_append, List.nil_append, List.append_nil]
      go_wp2_with fail
      rw [HQ_normal]
      go_upto_region 10 with (fail)
      refine wp_world ?_
      intro W10 hW10
      have OW10 : Hid (Own TT E S w W10 [.node n r L, .node a (mrec ra m rb) La9, .node d rb Lb]) := by
        have e : mrec ra m rb = { ra with items := ra.items ++ [m] ++ rb.items, kids := mkids ra.kids rb.kids, cnt := ra.cnt + (rb.cnt + 1) } := by
          simp only [mrec, List.append_assoc, List.cons_append, List.nil_append]
          congr 1
          omega
        rw [e]
        subst hW10; exact (OW9.out.nt 1 rfl (nt_cnt ty_ok (OW9.out.node_ 1 rfl) _)).dr
      clear hW10 OW9 ca1 cd1 fza hb1 hb2 hca hcb hbig
      have OX : Hid (Own TT E S w W10.drew [.node n r L, .node a (mrec ra m rb) La9, .node d rb Lb]) := by exact OW10.out.dr
      obtain ⟨cn0, cn1, cn2, cn3, fzn⟩ := blk4 (OW10.out.node_ 0 rfl).1
      rw [HIA.out] at cn2
      have hrN := (OX.out.node_ 0 rfl).2.1
      rw [HIA.out] at hrN
      replace hrN := Lib.hid hrN
      have hcN := (OX.out.node_ 0 rfl).2.2.1
      have hcn : ¬ L.icap = i := by omega
      obtain ⟨l, hl⟩ : ∃ l, r.items.length = l + 1 := ⟨r.items.length - 1, by omega⟩
      have hil3 : i ≤ l := by omega
      have HL := Lib.hid hl
      clear hl cn0 cn1 cn3 fzn
      go_wp2_with fail
      refine wp_calm (by kernel_rfl) (by kernel_rfl) rfl ?_
      simp only [List.flatMap_cons, List.flatMap_nil, checks, chk, nilLit, List.cons_append, List.nil_append, List.append_nil]
      go_wp2_with fail
    all_goals
      have hmin : Nat.min (r.items.length - (i + 1)) (r.items.length - i) = l - i := by have := HL.out; show min _ _ = _; omega
      first
        | (obtain ⟨W11, hr11, hk11, hw11⟩ := run_copyRow (P := Try.prog) W10.drew 250 3 181 1 Try.underlying250 (by kernel_rfl) hrN.out (E.all_len _) hmin (i := i) (j := i + 1) (by have := HL.out; omega) (by have := HL.out; omega) (some ⟨ib, io + i, none⟩) (some ⟨ib, io, none⟩) (fun _ => by first | rfl | simp) (fun hh => absurd hh (by have := HL.out; omega)) 1 0 (all_one _)
           rw [hr11]
           clear h)
        | (obtain ⟨W11, hr11, hk11, hw11⟩ := run_copyRow (P := Try.prog) W10.drew 250 3 181 1 Try.underlying250 (by kernel_rfl) hrN.out (E.all_len _) hmin (i := i) (j := i + 1) (by have := HL.out; omega) (by have := HL.out; omega) (some ⟨ib, io + i, none⟩) (some ⟨ib, io + (i + 1), none⟩) (fun _ => by first | rfl | simp) (fun _ => by first | rfl | simp) (L.icap - i) (L.icap - (i + 1)) (all_one _)
           rw [hr11])
      simp only [Result.andThen_ok]
      have OW11 : Hid (Own TT E S w W11 [.node n { r with items := r.items.take i ++ (r.items.drop (i + 1)).take (l - i) ++ r.items.drop (i + (l - i)) } L, .node a (mrec ra m rb) La9, .node d rb Lb]) := by
        exact OX.out.nt 0 rfl (nt_copy ty_ok rfl (OX.out.node_ 0 rfl) HIA.out (by have := HL.out; omega) (by have := HL.out; omega) hk11 hw11)
      have hl11 : Hid ((r.items.take i ++ (r.items.drop (i + 1)).take (l - i) ++ r.items.drop (i + (l - i))).length = l + 1) := by have := HL.out; exact Lib.hid (by simp; omega)
      have hf11 : Hid (((r.items.take i ++ (r.items.drop (i + 1)).take (l - i) ++ r.items.drop (i + (l - i))).set l hr.emp).take l = r.items.take i ++ r.items.drop (i + 1)) := by
        exact Lib.hid (shut_list _ HL.out hil3 _)
      clear hr11 hk11 hw11 hrN hmin OX OW10 cn2 hcn
      generalize r.items.take i ++ (r.items.drop (i + 1)).take (l - i) ++ r.items.drop (i + (l - i)) = its11 at *
      have H11 := Lib.hid (blk_keep HP.out.hdr OW11.out.keep (fun o h => HP.out.hS o h) : Hdr W11 b hr)
      obtain ⟨cn0, cn1, cn2, cn3, fzn⟩ := blk4 (OW11.out.node_ 0 rfl).1
      simp only [HIA.out, hl11.out] at cn2
      have he := hdr_emp H11.out
      have hrN := (OW11.out.node_ 0 rfl).2.1
      simp only [HIA.out] at hrN
      have fzr := hrN.frozen
      obtain ⟨ov, hov⟩ := hrN.there (i := l) (by have := HL.out; simp only [TT, E]; omega)
      unfold kv at he
      have hlb2 : l ≤ 1000000000000 := by have := HL.out; omega
      clear cn0 cn1 cn3 fzn hrN
      go_wp2_with fail
      rw [HQ_normal]
      go_wp2_with fail
      refine wp_calm (by kernel_rfl) (by kernel_rfl) rfl ?_
      simp only [List.flatMap_cons, List.flatMap_nil, checks, chk, nilLit, List.cons_append, List.nil_append, List.append_nil]
      go_wp2_with fail
      rw [HQ_normal]
      go_upto_region 12 with (fail)
      refine wp_world ?_
      intro W12 hW12
      have OW12 : Hid (Own TT E S w W12 [.node n { r with items := its11.set l hr.emp } L, .node a (mrec ra m rb) La9, .node d rb Lb]) := by
        have := nt_set ty_ok rfl (OW11.out.node_ 0 rfl) (i := l) (by show l < its11.length; rw [hl11.out]; omega) HIA.out hr.emp
        rw [show l * TT.s = l from Nat.mul_one l] at this
        subst hW12
        exact (OW11.out.nt 0 rfl this).dr
      clear hW12 OW11 H11 cn2 fzr hov he
      have hl12 : Hid ((its11.set l hr.emp).length = l + 1) := Lib.hid (by rw [List.length_set]; exact hl11.out)
      obtain ⟨cn0, cn1, cn2, cn3, fzn⟩ := blk4 (OW12.out.node_ 0 rfl).1
      simp only [HIA.out, hl12.out] at cn2
      have hcap : l ≤ L.icap := by have := HL.out; omega
      clear cn0 cn1 cn3
      go_wp2_with fail
      refine wp_calm (by kernel_rfl) (by kernel_rfl) rfl ?_
      simp only [List.flatMap_cons, List.flatMap_nil, checks, chk, nilLit, List.cons_append, List.nil_append, List.append_nil]
      go_wp2_with fail
      rw [HQ_normal]
      go_upto_region 13 with (fail)
      refine wp_world ?_
      intro W13 hW13
      have OW13 : Hid (Own TT E S w W13 [.node n { r with items := r.items.take i ++ r.items.drop (i + 1) } L, .node a (mrec ra m rb) La9, .node d rb Lb]) := by
        have := nt_cut ty_ok (OW12.out.node_ 0 rfl) (k := l) (by show l ≤ (its11.set l hr.emp).length; rw [hl12.out]; omega)
        simp only [hf11.out, HIA.out] at this
        subst hW13
        exact (OW12.out.nt 0 rfl this).dr
      clear hW13 OW12 cn2 fzn hcap hl12 hl11 hf11
      have OX : Hid (Own TT E S w W13.drew [.node n { r with items := r.items.take i ++ r.items.drop (i + 1) } L, .node a (mrec ra m rb) La9, .node d rb Lb]) := by exact OW13.out.dr
      have XN := (OW13.out.node_ 0 rfl).kids HKS.out
      have p1 := XN.1
      have p2 := XN.2.1
      have hkc := XN.2.2.2.2
      rw [HKA.out, hkl.out] at p2
      rw [hkl.out] at hkc
      have hrK := ((OX.out.node_ 0 rfl).kids HKS.out).2.2.2.1
      simp only [HKA.out] at hrK
      replace hrK := Lib.hid hrK
      have hkN : Hid (((N1 ++ a :: d :: N2).map ptr).length = (r.items.length + 1) * 1) := Lib.hid (by rw [List.length_map, hkl.out]; omega)
      unfold ptr at p1
      have hkn1 : ¬ L.kcap = i + 1 := by have := HL.out; omega
      clear XN
      clear hkl2
      go_wp2_with fail
      refine wp_calm (by kernel_rfl) (by kernel_rfl) rfl ?_
      simp only [List.flatMap_cons, List.flatMap_nil, checks, chk, nilLit, List.cons_append, List.nil_append, List.append_nil]
      go_wp2_with fail
    all_goals
      have hmin : Nat.min (r.items.length - (i + 1)) (r.items.length - i) = l + 1 - (i + 1) := by have := HL.out; show min _ _ = _; omega
      first
        | (obtain ⟨W14, hr14, hk14, hw14⟩ := run_copyRow (P := Try.prog) W13.drew 254 3 179 1 Try.underlying254 (by kernel_rfl) hrK.out hkN.out hmin (i := i + 1) (j := i + 1 + 1) (by have := HL.out; omega) (by have := HL.out; omega) (some ⟨kb, ko + (i + 1), none⟩) (some ⟨kb, ko, none⟩) (fun _ => by rw [Nat.mul_one]) (fun hh => absurd hh (by have := HL.out; omega)) 1 0 (ptr_one _)
           rw [hr14]
           clear h)
        | (obtain ⟨W14, hr14, hk14, hw14⟩ := run_copyRow (P := Try.prog) W13.drew 254 3 179 1 Try.underlying254 (by kernel_rfl) hrK.out hkN.out hmin (i := i + 1) (j := i + 1 + 1) (by have := HL.out; omega) (by have := HL.out; omega) (some ⟨kb, ko + (i + 1), none⟩) (some ⟨kb, ko + (i + 2), none⟩) (fun _ => by rw [Nat.mul_one]) (fun _ => by rw [Nat.mul_one]) (L.kcap - (i + 1)) (L.kcap - (i + 2)) (ptr_one _)
           rw [hr14])
      simp only [Result.andThen_ok]
      obtain ⟨ks14, hks14⟩ : ∃ k, k = (N1 ++ a :: d :: N2).take (i + 1) ++ ((N1 ++ a :: d :: N2).drop (i + 1 + 1)).take (l + 1 - (i + 1)) ++ (N1 ++ a :: d :: N2).drop (i + 1 + (l + 1 - (i + 1))) := ⟨_, rfl⟩
      have OW14 : Hid (Own TT E S w W14 [.node n { r with items := r.items.take i ++ r.items.drop (i + 1), kids := some ks14 } L, .node a (mrec ra m rb) La9, .node d rb Lb]) := by
        rw [hks14]
        exact OX.out.nt 0 rfl (nk_copy ty_ok (OX.out.node_ 0 rfl) HKS.out HKA.out (by have := HL.out; have := hkl.out; omega) (by have := HL.out; have := hkl.out; omega) hk14 hw14)
      have hl14 : Hid (ks14.length = r.items.length + 1) := by have := HL.out; have := hkl.out; exact Lib.hid (by rw [hks14, copy_len _ (by omega) (by omega)]; omega)
      have hf14 : Hid (ks14.take r.items.length = N1 ++ a :: N2) := by
        have h1 := HL.out
        have h2 := hkl.out
        refine Lib.hid ?_
        rw [hks14, h1, shut_kids _ (by omega) (by omega), ← hln, List.take_length_add_append, Nat.add_assoc, List.drop_length_add_append]
        simp
      clear hks14 hr14 hk14 hw14 hrK hmin OX OW13 p1 p2 hkn1
      have XN := (OW14.out.node_ 0 rfl).kids rfl
      have p1 := XN.1
      have p2 := XN.2.1
      have p3 := XN.2.2.1
      have hkc2 := XN.2.2.2.2
      have hrK := XN.2.2.2.1
      simp only [HKA.out, hl14.out] at p2 hrK hkc2
      obtain ⟨ov, hov⟩ := hrK.there (i := r.items.length) (by omega)
      have fzk := hrK.frozen
      unfold ptr at p1
      clear XN hrK
      go_wp2_with fail
      rw [HQ_normal]
      go_wp2_with fail
      refine wp_calm (by kernel_rfl) (by kernel_rfl) rfl ?_
      simp only [List.flatMap_cons, List.flatMap_nil, checks, chk, nilLit, List.cons_append, List.nil_append, List.append_nil]
      go_wp2_with fail
      rw [HQ_normal]
      go_upto_region 15 with (fail)
      refine wp_world ?_
      intro W15 hW15
      have K15 : Hid (Keep (fun x y => x = kb ∧ y = ko + r.items.length) W14 W15) := by subst hW15; exact ((Keep.refl _ _).set _ _ _ fun _ => ⟨rfl, rfl⟩).dr
      obtain ⟨e1, e2⟩ := kids_row (OW14.out.node_ 0 rfl) rfl (K15.out.mono fun x y _ hh => ⟨kb, ko, HKA.out, hh.1, by have := hh.2; omega, by have := hh.2; omega⟩)
      simp only [HKA.out, hl14.out] at e1
      obtain ⟨g4, fz3⟩ := blk1 e1
      obtain ⟨c0, c1, c2, c3, fz⟩ := blk4 e2
      clear hW15 p1 p2 p3 hov fzk c0 c1 c2 fz e1 e2
      go_wp2_with fail
      refine wp_calm (by kernel_rfl) (by kernel_rfl) rfl ?_
      simp only [List.flatMap_cons, List.flatMap_nil, checks, chk, nilLit, List.cons_append, List.nil_append, List.append_nil]
      go_wp2_with fail
      rw [HQ_normal]
      go_wp2_with fail
      go_end0
      have hN := nk_last2 (OW14.out.node_ 0 rfl) rfl hl14.out HKA.out K15.out
      simp only [hf14.out] at hN
      refine ⟨rfl, _, _, _, _, _, _, .inl ⟨hsm, rfl, rfl⟩, (OW14.out.nt 0 rfl hN).dr⟩
end Go.Proofs.Ytckplcmieelmpaa.S
