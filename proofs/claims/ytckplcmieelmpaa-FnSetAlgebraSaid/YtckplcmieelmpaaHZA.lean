/- Part 1 of the texts for the statement FnSetAlgebraSaid: the package's tree of maps and sets, its functions' contracts. -/
import Derived.Test.YtckplcmieelmpaaHC
import Derived.Deep.RegionHeld3
import Derived.Deep.DeepCutAuto
namespace Go.Proofs.Ytckplcmieelmpaa.S
open Go.RowKit Go.Wb

set_option maxRecDepth 100000 in
set_option maxHeartbeats 16000000 in
theorem reb_right {w : World} {b : Nat} {hr : HRec} {S : Nat → Nat → Prop} {n a d : Nat} {r ra rb : NRec It} {L La Lb : Lay} {N1 N2 : List Nat} {i i0 : Nat} {m : It} {mx : Nat} {c : Nat → Int} (P : RebIn w b hr S n a d r ra rb L La Lb N1 N2 i m mx c) (hi0 : i0 = i ∨ (i0 = i + 1 ∧ i0 = r.items.length))
    (hge : mx ≤ ra.items.length + rb.items.length) (hlt : rb.items.length < ra.items.length) : Calls Try.prog 201 #[ptr b, ptr n, .int .i64 i0] w (RebW w S mx i c n a d N1 N2 m r ra rb) := by
  have HP := Lib.hid P
  have HKS := Lib.hid P.kids
  have hlr := Lib.hid P.lr
  have hln := P.ln
  have hle := P.len
  have hbb := P.hb
  have hla := P.la
  have hlb := P.lb
  have hN0 := P.own.node_ 0 rfl
  obtain ⟨kb, ko, hka, _⟩ := ((hN0.2.2.2 _ P.kids).2.1).form (by simp; omega)
  have HKA := Lib.hid hka
  have hkl : Hid ((N1 ++ a :: d :: N2).length = r.items.length + 1) := by have := hlr.out; exact Lib.hid (by simp; omega)
  have HI0 := Lib.hid hi0
  clear P hi0 hN0 hka
  unfold ptr at *
  go_enter Try.func201, Try.ntmps201
  have HN0 := Lib.hid (HP.out.own.node_ 0 rfl)
  obtain ⟨c0, c1, c2, c3, fz⟩ := blk4 HN0.out.1
  clear c0 c1 c3 fz
  have hil : Hid (i < r.items.length ∧ i + 1 < (N1 ++ a :: d :: N2).length) := by have := hlr.out; have := hkl.out; exact Lib.hid (by omega)
  have HNA := Lib.hid (HP.out.own.node_ 1 rfl)
  have HND := Lib.hid (HP.out.own.node_ 2 rfl)
  rcases HI0.out with h0 | ⟨h0, h1⟩
  case' inl =>
    replace h0 := h0.symm
    subst h0
    have hne : ¬ ((i : Int) = (r.items.length : Int)) := by have := hil.out; omega
  case' inr =>
    obtain ⟨z, hz⟩ : ∃ z : Int, z = ((i0 : Nat) : Int) := ⟨_, rfl⟩
    rw [← hz]
    have hne : z = (r.items.length : Int) := by omega
    have hz1 : (r.items.length : Int) - 1 = (i : Int) := by omega
    have hz2 : -9223372036854775808 ≤ (r.items.length : Int) - 1 ∧ (r.items.length : Int) - 1 ≤ 9223372036854775807 := by omega
    replace h0 := Lib.hid h0
    replace h1 := Lib.hid h1
    replace hz := Lib.hid hz
  all_goals
    go_upto_region 2 with (fail)
    clear hne
    try clear hz1 hz2 hz h0 h1
    have hkl2 := hkl.out
    obtain ⟨hil1, hil2⟩ := hil.out
    obtain ⟨c0, c1, c2b, c3, fz⟩ := blk4 HN0.out.1
    rw [HKS.out] at c3
    obtain ⟨g1, g2, g3⟩ := HN0.out.2.2.2 _ HKS.out
    rw [HKA.out] at g1 g2
    obtain ⟨g4, fz3⟩ := blk1 g1
    have x1 : w.cell? ⟨kb, ko + i, none⟩ = some (ptr a) := g2.cell (by rw [List.map_append, List.getElem?_append_right (by simp; omega)]; simp [hln])
    have x2 : w.cell? ⟨kb, ko + (i + 1), none⟩ = some (ptr d) := g2.cell (by rw [List.map_append, List.getElem?_append_right (by simp; omega)]; simp [hln])
    have hisoA := Lib.hid (isoLoad_own HP.out.hdr x1 HNA.out HP.out.isoa true)
    simp only [kidsVal, ptr] at c3
    unfold ptr at hisoA
    clear c0 c1 c2b fz g1 g2 g3 x1 x2 c2
    go_wp2_with fail
    refine hisoA.out.mono ?_
    rintro e w1 ⟨rfl, k1, rfl⟩
    have OA : Hid (Own TT E S w (w.drewN k1) [.node n r L, .node a ra La, .node d rb Lb]) := by exact HP.out.own.drN k1
    have HA : Hid (Hdr (w.drewN k1) b hr) := by exact blk_keep HP.out.hdr (Keep.drewN Nothing _ _) fun _ h => h
    clear hisoA c3 g4 fz3 HN0 HNA HND
    generalize w.drewN k1 = WA at *
    have HN0 := Lib.hid (OA.out.node_ 0 rfl)
    obtain ⟨c0, c1, c2b, c3, fz⟩ := blk4 HN0.out.1
    rw [HKS.out] at c3
    obtain ⟨g1, g2, g3⟩ := HN0.out.2.2.2 _ HKS.out
    rw [HKA.out] at g1 g2
    obtain ⟨g4, fz3⟩ := blk1 g1
    have x2 : WA.cell? ⟨kb, ko + (i + 1), none⟩ = some (ptr d) := g2.cell (by rw [List.map_append, List.getElem?_append_right (by simp; omega)]; simp [hln])
    have hisoD := Lib.hid (isoLoad_own HA.out x2 (OA.out.node_ 2 rfl) HP.out.isob true)
    simp only [kidsVal, ptr] at c3
    unfold ptr at hisoD
    clear c0 c1 c2b fz g1 g2 g3 x2
    unfold ptr
    go_wp2_with fail
    refine hisoD.out.mono ?_
    rintro e w1 ⟨rfl, k2, rfl⟩
    unfold ptr
    have OW : Hid (Own TT E S w (WA.drewN k2) [.node n r L, .node a ra La, .node d rb Lb]) := by exact OA.out.drN k2
    have HW : Hid (Hdr (WA.drewN k2) b hr) := by exact blk_keep HA.out (Keep.drewN Nothing _ _) fun _ h => h
    clear hisoD c3 g4 fz3 HN0 OA HA
    generalize WA.drewN k2 = W at *
    obtain ⟨ca0, ca1, ca2, ca3, fza⟩ := blk4 (OW.out.node_ 1 rfl).1
    obtain ⟨cd0, cd1, cd2, cd3, fzd⟩ := blk4 (OW.out.node_ 2 rfl).1
    have x6 := hdr_mx HW.out
    rw [HP.out.hmx] at x6
    clear ca0 ca1 ca3 cd0 cd1 cd3
    go_wp2_with fail
    refine wp_calm (by kernel_rfl) (by kernel_rfl) rfl ?_
    simp only [List.flatMap_cons, List.flatMap_nil, checks, chk, nilLit, List.cons_append, List.nil_append, List.append_nil]
    go_wp2_with fail
    rw [HQ_normal]
    clear ca2 cd2 x6
    have OW0 : Hid (Own TT E S w W.drew [.node n r L, .node a ra La, .node d rb Lb]) := by exact OW.out.dr
    have HW0 : Hid (Hdr W.drew b hr) := by exact blk_keep HW.out (Keep.drew Nothing _) fun _ h => h
    clear OW HW
    generalize W.drew = W0 at *
    go_upto_region 16 with (fail)
    obtain ⟨ca0, ca1, ca2, ca3, fza⟩ := blk4 (OW0.out.node_ 1 rfl).1
    obtain ⟨cd0, cd1, cd2, cd3, fzd⟩ := blk4 (OW0.out.node_ 2 rfl).1
    clear ca0 ca1 ca3 cd0 cd1 cd3
    go_wp2_with fail
    refine wp_calm (by kernel_rfl) (by kernel_rfl) rfl ?_
    simp only [List.flatMap_cons, List.flatMap_nil, checks, chk, nilLit, List.cons_append, List.nil_append, List.append_nil]
    go_wp2_with fail
    rw [HQ_normal]
    have OWc : Hid (Own TT E S w W0.drew [.node n r L, .node a ra La, .node d rb Lb]) := by exact OW0.out.dr
    clear ca2 cd2 OW0 HW0 fza fzd
    generalize W0.drew = Wc at *
    go_upto_region 17 with (fail)
    have Hc := Lib.hid (blk_keep HP.out.hdr OWc.out.keep (fun o h => HP.out.hS o h) : Hdr Wc b hr)
    have he := hdr_emp Hc.out
    unfold kv at he
    obtain ⟨cd0, cd1, cd2, cd3, fzd⟩ := blk4 (OWc.out.node_ 2 rfl).1
    clear cd0 cd1 cd3
    refine wp_held (fun w' => w'.cell? ⟨d, 2, none⟩ = some (.slice Lb.ia rb.items.length Lb.icap)) [4] (by kernel_rfl) (by kernel_rfl) (by kernel_rfl) rfl cd2 ?_
    simp only [segs, readsB, silentB, lenB, checks, List.nil_append, Bool.or_true, Bool.or_false, Bool.false_eq_true, reduceIte, show (Builtin.append == Builtin.len) = false from rfl, Bool.false_and]
    go_wp2_with fail
    refine held_world ?_
    intro W1 hW1
    generalize he0 : Wc.heap.size = e0 at *
    have KA : Hid (Keep Nothing Wc W1) := by subst hW1; exact ((Keep.refl _ _).al _).dr
    have N12 : Hid (W1.heap[e0]? = some (.cells (E.enc hr.emp).toArray 181 (0, 0))) := by subst hW1; subst he0; exact heap_alloc_new Wc _
    have OW1 : Hid (Own TT E S w W1 [.node n r L, .node a ra La, .node d rb Lb]) := by exact OWc.out.calm KA.out
    clear hW1 cd2 fzd he
    obtain ⟨cd0, cd1, cd2, cd3, fzd⟩ := blk4 (OW1.out.node_ 2 rfl).1
    clear cd0 cd1 cd3
    refine held_next cd2 ?_
    refine wpList_append_any rfl _ _ _ rfl 181 1 8 Try.underlying250 ⟨by kernel_rfl, by kernel_rfl, by kernel_rfl⟩ Lb.ia rb.items.length Lb.icap (E.all rb.items) rfl (OW1.out.node_ 2 rfl).2.1 (E.all_len _) ⟨e0, 0, none⟩ 1 1 (E.enc hr.emp) ?_ (E.len _) ?_ (E.one _) (by omega) (OW1.out.node_ 2 rfl).2.2.1 (by simp only [maxLen]; omega) (by omega) ?_
    · rfl
    · exact new_cells N12.out
    intro ai' ic' W2 hG
    have OA2 := Lib.hid (nt_append1 ty_ok (OWc.out.node_ 2 rfl) KA.out hG)
    have cd6 := node_grew (OW1.out.node_ 2 rfl) hG
    clear hG cd2 fzd
    refine held_next cd6.1 ?_
    obtain ⟨cd6, cd7⟩ := cd6
    go_wp2_with fail
    refine held_world ?_
    intro W3 hW3
    refine held_end ?_ ?_
    · refine ⟨?_, trivial⟩
      exact ⟨.slice Lb.ia rb.items.length Lb.icap, fun w' hS => by simp [execOp, hS, go_sem]⟩
    obtain ⟨Lb3, OW3⟩ : ∃ Lb3, Hid (Own TT E S w W3 [.node n r L, .node a ra La, .node d { rb with items := rb.items ++ [hr.emp] } Lb3]) := by
      subst hW3; exact ⟨_, OWc.out.nt 2 rfl OA2.out⟩
    clear hW3 OW1 OWc OA2 KA N12 cd6 cd7 he0 Hc
    have hlD : (rb.items ++ [hr.emp]).length = rb.items.length + 1 := by simp
    obtain ⟨db, dq, hda, _⟩ := ((OW3.out.node_ 2 rfl).2.1).form (by rw [E.all_len, hlD]; exact Nat.mul_pos (by omega) E.pos)
    have HDA := Lib.hid hda
    have OX : Hid (Own TT E S w W3.drew [.node n r L, .node a ra La, .node d { rb with items := rb.items ++ [hr.emp] } Lb3]) := by exact OW3.out.dr
    obtain ⟨cd0, cd1, cd2, cd3, fzd⟩ := blk4 (OW3.out.node_ 2 rfl).1
    have hrD := (OX.out.node_ 2 rfl).2.1
    have hcD := (OX.out.node_ 2 rfl).2.2.1
    simp only [hlD] at cd2 hcD
    simp only [hda] at cd2 hrD
    replace hrD := Lib.hid hrD
    have hlD2 : Hid ((E.all (rb.items ++ [hr.emp])).length = (rb.items.length + 1) * 1) := by rw [E.all_len, hlD]; exact Lib.hid rfl
    have hd1 : 1 ≤ rb.items.length + 1 := by omega
    have hd2 : 1 ≤ Lb3.icap := by omega
    clear cd0 cd1 cd3 fzd hda hlD
    go_upto_region 18 with (fail)
    refine wp_calm (by kernel_rfl) (by kernel_rfl) rfl ?_
    simp only [List.flatMap_cons, List.flatMap_nil, checks, chk, nilLit, List.cons_append, List.nil_append, List.append_nil]
    go_wp2_with fail
    all_goals
      have hmin : Nat.min (rb.items.length + 1) rb.items.length = rb.items.length := by show min _ _ = _; omega
      first
        | (obtain ⟨W18, hr18, hk18, hw18⟩ := run_copyRow (P := Try.prog) W3.drew 250 3 181 1 Try.underlying250 (by kernel_rfl) hrD.out hlD2.out hmin (i := 1) (j := 0) (by omega) (by omega) (some ⟨db, dq, none⟩) (some ⟨db, dq, none⟩) (fun hh => absurd hh (by omega)) (fun _ => by simp) 0 1 (all_one _)
           rw [hr18]
           clear h)
        | (obtain ⟨W18, hr18, hk18, hw18⟩ := run_copyRow (P := Try.prog) W3.drew 250 3 181 1 Try.underlying250 (by kernel_rfl) hrD.out hlD2.out hmin (i := 1) (j := 0) (by omega) (by omega) (some ⟨db, dq + 1, none⟩) (some ⟨db, dq, none⟩) (fun _ => by simp) (fun _ => by simp) (Lb3.icap - 1) Lb3.icap (all_one _)
           rw [hr18])
      simp only [Result.andThen_ok]
      obtain ⟨its18, hits18⟩ : ∃ k, k = (rb.items ++ [hr.emp]).take 1 ++ ((rb.items ++ [hr.emp]).drop 0).take rb.items.length ++ (rb.items ++ [hr.emp]).drop (1 + rb.items.length) := ⟨_, rfl⟩
      have OW18 : Hid (Own TT E S w W18 [.node n r L, .node a ra La, .node d { rb with items := its18 } Lb3]) := by
        rw [hits18]
        exact OX.out.nt 2 rfl (nt_copy ty_ok rfl (OX.out.node_ 2 rfl) HDA.out (by simp only [List.length_append, List.length_cons, List.length_nil]; omega) (by simp only [List.length_append, List.length_cons, List.length_nil]; omega) hk18 hw18)
      have hl18 : Hid (its18.length = rb.items.length + 1) := by exact Lib.hid (by rw [hits18, copy_len _ (by simp; omega) (by simp)]; simp)
      have hf18 : Hid (its18.set 0 m = m :: rb.items) := by exact Lib.hid (by rw [hits18]; exact front_list _ _ _ rfl)
      clear hits18 hr18 hk18 hw18 hrD hmin OX OW3 cd2 hlD2
      obtain ⟨ib, io, hia, _⟩ := ((OW18.out.node_ 0 rfl).2.1).form (by rw [E.all_len]; exact Nat.mul_pos (by omega) E.pos)
      have HIA := Lib.hid hia
      obtain ⟨cn0, cn1, cn2, cn3, fzn⟩ := blk4 (OW18.out.node_ 0 rfl).1
      obtain ⟨cd0, cd1, cd2, cd3, fzd⟩ := blk4 (OW18.out.node_ 2 rfl).1
      have hrow := (OW18.out.node_ 0 rfl).2.1
      rw [hia] at cn2 hrow
      have ck := key_cell hrow HP.out.item
      unfold kv at ck
      simp only [HDA.out, hl18.out] at cd2
      have hrD := (OW18.out.node_ 2 rfl).2.1
      simp only [HDA.out] at hrD
      have fzr := hrD.frozen
      obtain ⟨ov, hov⟩ := hrD.there (i := 0) (by simp only [TT, E]; omega)
      rw [Nat.add_zero] at hov
      clear cn0 cn1 cn3 fzn cd0 cd1 cd3 fzd hrow hrD hia
      go_wp2_with fail
      rw [HQ_normal]
      go_wp2_with fail
      refine wp_calm (by kernel_rfl) (by kernel_rfl) rfl ?_
      simp only [List.flatMap_cons, List.flatMap_nil, checks, chk, nilLit, List.cons_append, List.nil_append, List.append_nil]
      go_wp2_with fail
      rw [HQ_normal]
      go_upto_region 20 with (fail)
      refine wp_world ?_
      intro W19 hW19
      have OW19 : Hid (Own TT E S w W19 [.node n r L, .node a ra La, .node d { rb with items := m :: rb.items } Lb3]) := by
        have := nt_set ty_ok rfl (OW18.out.node_ 2 rfl) (i := 0) (by show 0 < its18.length; rw [hl18.out]; omega) HDA.out m
        simp only [hf18.out, Nat.zero_mul, Nat.add_zero] at this
        subst hW19
        exact (OW18.out.nt 2 rfl this).dr
      clear hW19 OW18 cn2 cd2 fzr hov ck hl18 hf18
      have hca := HP.out.ca
      have hcb := HP.out.cb
      have hbig := HP.out.big
      obtain ⟨cd0, cd1, cd2, cd3, fzd⟩ := blk4 (OW19.out.node_ 2 rfl).1
      have hb1 : -9223372036854775808 ≤ rb.cnt + 1 ∧ rb.cnt + 1 ≤ 9223372036854775807 := by omega
      clear cd0 cd2 cd3
      go_upto_region 21 with (fail)
      refine wp_world ?_
      intro W20 hW20
      have OW20 : Hid (Own TT E S w W20 [.node n r L, .node a ra La, .node d { rb with items := m :: rb.items, cnt := rb.cnt + 1 } Lb3]) := by
        subst hW20; exact OW19.out.nt 2 rfl (nt_cnt ty_ok (OW19.out.node_ 2 rfl) _)
      clear hW20 OW19 cd1 fzd
      obtain ⟨A, m', hA⟩ : ∃ l x, ra.items = l ++ [x] := by
        have hne : ra.items ≠ [] := fun e => by rw [e] at hlt; simp only [List.length_nil] at hlt; omega
        exact ⟨ra.items.dropLast, ra.items.getLast hne, (List.dropLast_concat_getLast hne).symm⟩
      have HA := Lib.hid hA
      have hlA : Hid (ra.items.length = A.length + 1) := Lib.hid (by rw [hA]; simp)
      have hlA2 : A.length ≤ 1000000000000 := by have := hlA.out; omega
      clear hA
      obtain ⟨ab, ao, haa, _⟩ := ((OW20.out.node_ 1 rfl).2.1).form (by rw [E.all_len, hlA.out]; exact Nat.mul_pos (by omega) E.pos)
      have HAA := Lib.hid haa
      obtain ⟨ca0, ca1, ca2, ca3, fza⟩ := blk4 (OW20.out.node_ 1 rfl).1
      obtain ⟨cn0, cn1, cn2, cn3, fzn⟩ := blk4 (OW20.out.node_ 0 rfl).1
      have hrA := (OW20.out.node_ 1 rfl).2.1
      have hrN := (OW20.out.node_ 0 rfl).2.1
      rw [haa] at ca2 hrA
      rw [hlA.out] at ca2
      rw [HIA.out] at cn2 hrN
      have hlast : ra.items[A.length]? = some m' := by rw [HA.out]; simp
      have ck := key_cell hrA hlast
      unfold kv at ck
      have fzr := hrN.frozen
      obtain ⟨ov, hov⟩ := hrN.there (i := i) (by have := (OW20.out.node_ 0 rfl).2.2.1; simp only [TT, E]; omega)
      clear ca0 ca1 ca3 fza cn0 cn1 cn3 fzn hrA hrN haa hlast
      go_wp2_with fail
      refine wp_calm (by kernel_rfl) (by kernel_rfl) rfl ?_
      simp only [List.flatMap_cons, List.flatMap_nil, checks, chk, nilLit, List.cons_append, List.nil_append, List.append_nil]
      go_wp2_with fail
      rw [HQ_normal]
      go_upto_region 22 with (fail)
      refine wp_world ?_
      intro W21 hW21
      have OW21 : Hid (Own TT E S w W21 [.node n { r with items := r.items.set i m' } L, .node a ra La, .node d { rb with items := m :: rb.items, cnt := rb.cnt + 1 } Lb3]) := by
        have := nt_set ty_ok rfl (OW20.out.node_ 0 rfl) (i := i) hil1 HIA.out m'
        rw [show i * TT.s = i from Nat.mul_one i] at this
        subst hW21
        exact (OW20.out.nt 0 rfl this).dr
      clear hW21 OW20 ca2 cn2 fzr hov ck
      have H21 := Lib.hid (blk_keep HP.out.hdr OW21.out.keep (fun o h => HP.out.hS o h) : Hdr W21 b hr)
      obtain ⟨ca0, ca1, ca2, ca3, fza⟩ := blk4 (OW21.out.node_ 1 rfl).1
      have hrA := (OW21.out.node_ 1 rfl).2.1
      have hcA := (OW21.out.node_ 1 rfl).2.2.1
      rw [hlA.out] at hcA
      rw [HAA.out] at ca2 hrA
      rw [hlA.out] at ca2
      have he := hdr_emp H21.out
      have fzr := hrA.frozen
      obtain ⟨ov, hov⟩ := hrA.there (i := A.length) (by simp only [TT, E]; omega)
      unfold kv at he
      clear ca0 ca1 ca3 fza hrA
      go_wp2_with fail
      refine wp_calm (by kernel_rfl) (by kernel_rfl) rfl ?_
      simp only [List.flatMap_cons, List.flatMap_nil, checks, chk, nilLit, List.cons_append, List.nil_append, List.append_nil]
      go_wp2_with fail
      rw [HQ_normal]
      go_upto_region 23 with (fail)
      refine wp_world ?_
      intro W22 hW22
      have OW22 : Hid (Own TT E S w W22 [.node n { r with items := r.items.set i m' } L, .node a { ra with items := ra.items.set A.length hr.emp } La, .node d { rb with items := m :: rb.items, cnt := rb.cnt + 1 } Lb3]) := by
        have := nt_set ty_ok rfl (OW21.out.node_ 1 rfl) (i := A.length) (by have := hlA.out; omega) HAA.out hr.emp
        rw [show A.length * TT.s = A.length from Nat.mul_one (A.length)] at this
        subst hW22
        exact (OW21.out.nt 1 rfl this).dr
      clear hW22 OW21 H21 ca2 fzr hov he
      have hl22 : Hid ((ra.items.set A.length hr.emp).length = A.length + 1) := Lib.hid (by rw [List.length_set]; exact hlA.out)
      have hf22 : Hid ((ra.items.set A.length hr.emp).take A.length = A) := Lib.hid (by rw [List.take_set_of_le (Nat.le_refl _), HA.out]; simp)
      obtain ⟨ca0, ca1, ca2, ca3, fza⟩ := blk4 (OW22.out.node_ 1 rfl).1
      simp only [HAA.out, hl22.out] at ca2
      have hcap : A.length ≤ La.icap := by omega
      clear ca0 ca1 ca3
      go_wp2_with fail
      refine wp_calm (by kernel_rfl) (by kernel_rfl) rfl ?_
      simp only [List.flatMap_cons, List.flatMap_nil, checks, chk, nilLit, List.cons_append, List.nil_append, List.append_nil]
      go_wp2_with fail
      rw [HQ_normal]
      go_upto_region 24 with (fail)
      refine wp_world ?_
      intro W23 hW23
      have OW23 : Hid (Own TT E S w W23 [.node n { r with items := r.items.set i m' } L, .node a { ra with items := A } La, .node d { rb with items := m :: rb.items, cnt := rb.cnt + 1 } Lb3]) := by
        have := nt_cut ty_ok (OW22.out.node_ 1 rfl) (k := A.length) (by show A.length ≤ (ra.items.set A.length hr.emp).length; rw [hl22.out]; omega)
        simp only [hf22.out, HAA.out] at this
        subst hW23
        exact (OW22.out.nt 1 rfl this).dr
      clear hW23 OW22 ca2 fza hcap hcA hl22 hf22
      obtain ⟨ca0, ca1, ca2, ca3, fza⟩ := blk4 (OW23.out.node_ 1 rfl).1
      have hb3 : -9223372036854775808 ≤ ra.cnt - 1 ∧ ra.cnt - 1 ≤ 9223372036854775807 := by omega
      clear ca0 ca2 ca3
      go_upto_region 25 with (fail)
      refine wp_world ?_
      intro W24 hW24
      have OW24 : Hid (Own TT E S w W24 [.node n { r with items := r.items.set i m' } L, .node a { ra with items := A, cnt := ra.cnt - 1 } La, .node d { rb with items := m :: rb.items, cnt := rb.cnt + 1 } Lb3]) := by
        subst hW24; exact OW23.out.nt 1 rfl (nt_cnt ty_ok (OW23.out.node_ 1 rfl) _)
      clear hW24 OW23 ca1 fza
      have hlv := Lib.hid (leaf_any (OW24.out.node_ 1 rfl))
      unfold ptr at hlv
      go_wp2_with fail
      refine hlv.out.mono ?_
      rintro e w1 ⟨rfl, rfl⟩
      clear hlv
      rcases HP.out.same with ⟨hk1, hk2⟩ | ⟨x, y, hk1, hk2, hx, hy, hkk⟩
      case' inl =>
        simp only [hk1, Option.isNone_none]
        go_wp2_with fail
        go_end0
        have := rebR_leaf (c := c) (i := i) (a := a) (N1 := N1) (N2 := N2) (m := m) (r := r) hge hlt HA.out hk1 hk2 HP.out.cnta HP.out.cntb
        have ea : ({ ra with items := A, cnt := ra.cnt - 1 } : NRec It) = ⟨ra.iso, ra.cnt - 1, A, none⟩ := by rw [hk1]
        have ed : ({ rb with items := m :: rb.items, cnt := rb.cnt + 1 } : NRec It) = ⟨rb.iso, rb.cnt + 1, m :: rb.items, none⟩ := by rw [hk2]
        refine ⟨rfl, _, _, _, _, _, _, ?_, OW24.out⟩
        rw [ea, ed]
        exact this
      simp only [hk1, Option.isNone_some]
      go_upto_region 26 with (fail)
      obtain ⟨x', k, hxk⟩ : ∃ l z, x = l ++ [z] := by
        have hne : x ≠ [] := fun e => by rw [e] at hx; simp at hx
        exact ⟨x.dropLast, x.getLast hne, (List.dropLast_concat_getLast hne).symm⟩
      subst hxk
      have HXL : Hid (x'.length = ra.items.length) := Lib.hid (by simp at hx; omega)
      have HYL := Lib.hid hy
      have HKK := Lib.hid hkk
      have hy2 : y.length ≤ 1000000000001 := by omega
      have XD := (OW24.out.node_ 2 rfl).kids hk2
      have q1 := XD.1
      have q2 := XD.2.1
      have hcD := XD.2.2.2.2
      unfold ptr at q1
      clear XD hx hy hkk
      refine wp_held (fun w' => w'.cell? ⟨d, 3, none⟩ = some (.pointer (some ⟨Lb3.cb, 0, none⟩)) ∧ w'.cell? ⟨Lb3.cb, 0, none⟩ = some (.slice Lb3.ka y.length Lb3.kcap)) [3, 7, 9] (by kernel_rfl) (by kernel_rfl) (by kernel_rfl) rfl ⟨q1, q2⟩ ?_
      simp only [segs, readsB, silentB, lenB, checks, List.nil_append, Bool.or_true, Bool.or_false, Bool.false_eq_true, reduceIte, show (Builtin.append == Builtin.len) = false from rfl, Bool.false_and]
      go_wp2_with fail
      refine held_world ?_
      intro W25 hW25
      generalize he1 : W24.heap.size = e1 at *
      have KB : Hid (Keep Nothing W24 W25) := by subst hW25; exact ((Keep.refl _ _).al _).dr
      have N25 : Hid (W25.heap[e1]? = some (.cells [Value.pointer none].toArray 179 (0, 0))) := by subst hW25; subst he1; exact heap_alloc_new W24 _
      have ND25 : Hid (NodeAt TT E W25 d { rb with items := m :: rb.items, cnt := rb.cnt + 1 } Lb3) := by exact (OW24.out.node_ 2 rfl).keep KB.out fun _ _ _ h => h
      clear hW25 q1 q2
      have XD := ND25.out.kids hk2
      have q1 := XD.1
      have q2 := XD.2.1
      have hrX := Lib.hid XD.2.2.2.1
      unfold ptr at q1
      clear XD
      refine held_next ⟨q1, q2⟩ ?_
      refine wpList_append_any rfl _ _ _ rfl 179 1 8 Try.underlying254 ⟨by kernel_rfl, by kernel_rfl, by kernel_rfl⟩ Lb3.ka y.length Lb3.kcap (y.map ptr) rfl hrX.out (by simp) ⟨e1, 0, none⟩ 1 1 [.pointer none] ?_ rfl ?_ (by intro u hu; rw [List.mem_singleton.1 hu]; rfl) (by omega) hcD (by simp only [maxLen]; omega) (by omega) ?_
      · rfl
      · exact new_cells N25.out
      intro ak' kc' W26 hG
      have HG := Lib.hid hG
      obtain ⟨eb, eo, hea, _⟩ := hG.row.form (by simp)
      subst hea
      obtain ⟨cg5, cg6, cg7⟩ := kids_grew ND25.out hk2 hG
      clear hG q1 q2 hrX N25
      refine held_next ⟨cg7, cg5⟩ ?_
      go_wp2_with fail
      refine held_world ?_
      intro W27 hW27
      refine held_end ?_ ?_
      · refine ⟨?_, ?_, ?_, trivial⟩
        · exact ⟨.pointer (some ⟨Lb3.cb, 0, none⟩), fun w' hS => by simp [execOp, hS.1, go_sem]⟩
        · exact ⟨.pointer (some ⟨Lb3.cb, 0, none⟩), fun w' hS => by simp [execOp, hS.1, go_sem]⟩
        · exact ⟨.slice Lb3.ka y.length Lb3.kcap, fun w' hS => by simp [execOp, hS.2, go_sem]⟩
      obtain ⟨fk, hfk⟩ : ∃ f : Unit → Nat, f () = kc' := ⟨fun _ => kc', rfl⟩
      subst hfk
      have KC : Hid (Keep Nothing (W26.setCell ⟨Lb3.cb, 0, none⟩ (.slice (some ⟨eb, eo, none⟩) (y.length + 1) (fk ()))) W27) := by subst hW27; exact Keep.refl _ _
      obtain ⟨q1, q2, hrE, KD27, hdeb, hceb⟩ := front_mid (OW24.out.node_ 2 rfl) hk2 KB.out HG.out rfl KC.out
      have HD27 := Lib.hid KD27
      have hcE : Hid (y.length + 1 ≤ fk ()) := by exact HG.out.cap
      have hcE2 := hcE.out
      have hrE2 : Hid (Row W27.drew 179 1 (some ⟨eb, eo, none⟩) (fk ()) (y.map ptr ++ [.pointer none])) := by exact hrE.keep (Keep.drew Nothing _) fun _ _ _ h => h
      have hkN : Hid ((y.map ptr ++ [Value.pointer none]).length = (y.length + 1) * 1) := Lib.hid (by simp)
      have hy0 : ¬ fk () = 1 := by have := HYL.out; omega
      have hy1 : 1 ≤ fk () := by omega
      clear hW27 cg5 cg6 cg7 hrE KD27 he1 hcD ND25
      go_upto_region 27 with (fail)
      refine wp_calm (by kernel_rfl) (by kernel_rfl) rfl ?_
      simp only [List.flatMap_cons, List.flatMap_nil, checks, chk, nilLit, List.cons_append, List.nil_append, List.append_nil]
      go_wp2_with fail
      have hmin : Nat.min (y.length + 1) y.length = y.length := by show min _ _ = _; omega
      obtain ⟨W28, hr28, hk28, hw28⟩ := run_copyRow (P := Try.prog) W27.drew 254 3 179 1 Try.underlying254 (by kernel_rfl) hrE2.out hkN.out hmin (i := 1) (j := 0) (by omega) (by omega) (some ⟨eb, eo + 1, none⟩) (some ⟨eb, eo, none⟩) (fun _ => by simp) (fun _ => by simp) (fk () - 1) (fk ()) (ptr_one2 _)
      rw [hr28]
      simp only [Result.andThen_ok]
      have hk27 : Hid (Keep (fun x z => x = eb ∧ eo ≤ z ∧ z < eo + fk ()) W27 W28) := by exact ((Keep.drew _ _ : Keep (fun x z => x = eb ∧ eo ≤ z ∧ z < eo + fk ()) W27 W27.drew)).trans hk28 fun x z _ ⟨h1, h2, h3⟩ => ⟨h1, by omega, by omega⟩
      have hfpE : Hid (∀ z, eb < W24.heap.size → eo ≤ z → z < eo + fk () → fp TT d ({ rb with items := m :: rb.items, cnt := rb.cnt + 1 } : NRec It) Lb3 eb z) := by
        intro z h1 h2 h3
        have := KB.out.size
        rcases HG.out.fp eb z ⟨eb, eo, rfl, rfl, h2, by omega⟩ with h | ⟨h, _⟩
        · exact .inr (.inr ⟨by simp [hk2], .inr (by simpa using h)⟩)
        · omega
      have KD28 : Hid (Keep (fp TT d ({ rb with items := m :: rb.items, cnt := rb.cnt + 1 } : NRec It) Lb3) W24 W28) := by
        exact HD27.out.trans hk27.out fun x z hx ⟨h1, h2, h3⟩ => by subst h1; exact hfpE.out z hx h2 h3
      have NA28 : Hid (NodeAt TT E W28 a { ra with items := A, cnt := ra.cnt - 1 } La) := by
        exact (OW24.out.node_ 1 rfl).keep KD28.out fun x z hf hg => OW24.out.apart 1 2 _ _ (by omega) rfl rfl x z hf hg
      have q3 : W28.cell? ⟨d, 3, none⟩ = some (.pointer (some ⟨Lb3.cb, 0, none⟩)) := hk27.out.cell' q1 fun h => hdeb h.1
      have q4 : W28.cell? ⟨Lb3.cb, 0, none⟩ = some (.slice (some ⟨eb, eo, none⟩) (y.length + 1) (fk ())) := hk27.out.cell' q2 fun h => hceb h.1
      have hw28h := Lib.hid hw28
      obtain ⟨ov, hov⟩ := hw28.there (i := 0) (by omega)
      have fze := hw28.frozen
      rw [Nat.add_zero] at hov
      have XA := NA28.out.kids hk1
      have p1 := XA.1
      have p2 := XA.2.1
      have hrX := XA.2.2.2.1
      obtain ⟨xb, xo, hxa, _⟩ := hrX.form (by simp)
      have HXA := Lib.hid hxa
      rw [hxa] at p2 hrX
      have hkx : W28.cell? ⟨xb, xo + x'.length, none⟩ = some (ptr k) := hrX.cell (by simp)
      have hxl : (x' ++ [k]).length = x'.length + 1 := by simp
      rw [hxl] at p2
      have hx2 : x'.length ≤ 1000000000000 := by have := HXL.out; omega
      unfold ptr at p1 hkx
      clear XA hrX hxa hxl hr28 hk28 hw28 hrE2 hkN hmin q1 q2 hdeb hceb
      go_wp2_with fail
      rw [HQ_normal]
      go_wp2_with fail
      refine wp_calm (by kernel_rfl) (by kernel_rfl) rfl ?_
      simp only [List.flatMap_cons, List.flatMap_nil, checks, chk, nilLit, List.cons_append, List.nil_append, List.append_nil]
      go_wp2_with fail
      rw [HQ_normal]
      go_upto_region 29 with (fail)
      refine wp_world ?_
      intro W29 hW29
      obtain ⟨Lb4, OW29⟩ : ∃ Lb4, Hid (Own TT E S w W29 [.node n { r with items := r.items.set i m' } L, .node a { ra with items := A, cnt := ra.cnt - 1 } La, .node d { rb with items := m :: rb.items, cnt := rb.cnt + 1, kids := some (k :: y) } Lb4]) := by
        have hset := (hw28h.out.setCell (j := 0) (ptr k) (by simp; omega)).keep (Keep.drew Nothing _) fun _ _ _ h => h
        rw [Nat.add_zero] at hset
        have hl : (((y.map ptr ++ [Value.pointer none]).take (1 * 1) ++ ((y.map ptr ++ [Value.pointer none]).drop (0 * 1)).take (y.length * 1) ++ (y.map ptr ++ [Value.pointer none]).drop ((1 + y.length) * 1)).set 0 (ptr k)) = (k :: y).map ptr := by
          simp only [Nat.mul_one]
          exact front_list _ _ _ (by simp)
        rw [hl] at hset
        refine ⟨_, OW24.out.nt 2 rfl (nk_front (OW24.out.node_ 2 rfl) hk2 KB.out HG.out rfl KC.out (w2 := W29) (k := k) ?_ ?_)⟩
        · subst hW29
          exact (hk27.out.set _ _ _ fun _ => ⟨rfl, by omega, by omega⟩).dr
        · subst hW29
          exact hset
      clear hW29 OW24 KB HG KC HD27 hk27 hfpE KD28 NA28 q3 q4 hw28h hov fze p1 p2 hkx hcE hcE2 hy0 hy1
      have XA := (OW29.out.node_ 1 rfl).kids hk1
      have p1 := XA.1
      have p2 := XA.2.1
      have hkc := XA.2.2.2.2
      have hrX := XA.2.2.2.1
      have hxl : Hid ((x' ++ [k]).length = x'.length + 1) := Lib.hid (by simp)
      rw [HXA.out, hxl.out] at p2
      rw [HXA.out] at hrX
      rw [hxl.out] at hkc
      obtain ⟨ov, hov⟩ := hrX.there (i := x'.length) (by omega)
      have fze := hrX.frozen
      unfold ptr at p1
      clear XA hrX
      go_wp2_with fail
      refine wp_calm (by kernel_rfl) (by kernel_rfl) rfl ?_
      simp only [List.flatMap_cons, List.flatMap_nil, checks, chk, nilLit, List.cons_append, List.nil_append, List.append_nil]
      go_wp2_with fail
      rw [HQ_normal]
      go_upto_region 30 with (fail)
      refine wp_world ?_
      intro W30 hW30
      have K30 : Hid (Keep (fun x y => x = xb ∧ y = xo + x'.length) W29 W30) := by subst hW30; exact ((Keep.refl _ _).set _ _ _ fun _ => ⟨rfl, rfl⟩).dr
      obtain ⟨e1, e2⟩ := kids_row (OW29.out.node_ 1 rfl) hk1 (K30.out.mono fun x y _ hh => ⟨xb, xo, HXA.out, hh.1, by have := hh.2; omega, by have := hh.2; omega⟩)
      rw [HXA.out, hxl.out] at e1
      obtain ⟨g4, fz3⟩ := blk1 e1
      obtain ⟨c0, c1, c2, c3, fz⟩ := blk4 e2
      clear hW30 p1 p2 hov fze c0 c1 c2 fz e1 e2
      go_wp2_with fail
      refine wp_calm (by kernel_rfl) (by kernel_rfl) rfl ?_
      simp only [List.flatMap_cons, List.flatMap_nil, checks, chk, nilLit, List.cons_append, List.nil_append, List.append_nil]
      go_wp2_with fail
      rw [HQ_normal]
      go_upto_region 31 with (fail)
      refine wp_world ?_
      intro W31 hW31
      have OW31 : Hid (Own TT E S w W31 [.node n { r with items := r.items.set i m' } L, .node a { ra with items := A, cnt := ra.cnt - 1, kids := some x' } La, .node d { rb with items := m :: rb.items, cnt := rb.cnt + 1, kids := some (k :: y) } Lb4]) := by
        have hN := nk_last2 (OW29.out.node_ 1 rfl) hk1 hxl.out HXA.out K30.out
        have e : (x' ++ [k]).take x'.length = x' := by simp
        rw [e] at hN
        subst hW31
        exact (OW29.out.nt 1 rfl hN).dr
      clear hW31 OW29 K30 c3 g4 fz3 hkc
      obtain ⟨hck, hkS, hc0, hc1⟩ := HKK.out k (by simp)
      have hck31 : W31.cell? ⟨k, 1, none⟩ = some (.int .i64 (c k)) := OW31.out.keep.cell' hck (hkS 1)
      have XD := (OW31.out.node_ 2 rfl).kids rfl
      have q1 := XD.1
      have q2 := XD.2.1
      have hrE := XD.2.2.2.1
      obtain ⟨gb, go, hga, _⟩ := hrE.form (by simp)
      have HGA := Lib.hid hga
      rw [hga] at q2 hrE
      have hk0 : W31.cell? ⟨gb, go + 0, none⟩ = some (ptr k) := hrE.cell (by simp)
      rw [Nat.add_zero] at hk0
      have hkl3 : 0 < (k :: y).length := by simp
      obtain ⟨ca0, ca1, ca2, ca3, fza⟩ := blk4 (OW31.out.node_ 1 rfl).1
      unfold ptr at q1 hk0
      have hb4 : -9223372036854775808 ≤ ra.cnt - 1 - c k ∧ ra.cnt - 1 - c k ≤ 9223372036854775807 := by omega
      have hb5 : -9223372036854775808 ≤ rb.cnt + 1 + c k ∧ rb.cnt + 1 + c k ≤ 9223372036854775807 := by omega
      clear XD hrE hga ca0 ca2 ca3 hck hkS
      go_wp2_with fail
      refine wp_calm (by kernel_rfl) (by kernel_rfl) rfl ?_
      simp only [List.flatMap_cons, List.flatMap_nil, checks, chk, nilLit, List.cons_append, List.nil_append, List.append_nil]
      go_wp2_with fail
      rw [HQ_normal]
      go_upto_region 32 with (fail)
      refine wp_world ?_
      intro W32 hW32
      have OW32 : Hid (Own TT E S w W32 [.node n { r with items := r.items.set i m' } L, .node a { ra with items := A, cnt := ra.cnt - 1 - c k, kids := some x' } La, .node d { rb with items := m :: rb.items, cnt := rb.cnt + 1, kids := some (k :: y) } Lb4]) := by
        subst hW32; exact (OW31.out.nt 1 rfl (nt_cnt ty_ok (OW31.out.node_ 1 rfl) _)).dr
      clear hW32 OW31 q1 q2 hk0 hck31 ca1 fza
      obtain ⟨hck, hkS, _, _⟩ := HKK.out k (by simp)
      have hck32 : W32.cell? ⟨k, 1, none⟩ = some (.int .i64 (c k)) := OW32.out.keep.cell' hck (hkS 1)
      have XD := (OW32.out.node_ 2 rfl).kids rfl
      have q1 := XD.1
      have q2 := XD.2.1
      have hrE := XD.2.2.2.1
      rw [HGA.out] at q2 hrE
      have hk0 : W32.cell? ⟨gb, go + 0, none⟩ = some (ptr k) := hrE.cell (by simp)
      rw [Nat.add_zero] at hk0
      obtain ⟨cd0, cd1, cd2, cd3, fzd⟩ := blk4 (OW32.out.node_ 2 rfl).1
      unfold ptr at q1 hk0
      clear XD hrE cd0 cd2 cd3 hck hkS
      go_wp2_with fail
      refine wp_calm (by kernel_rfl) (by kernel_rfl) rfl ?_
      simp only [List.flatMap_cons, List.flatMap_nil, checks, chk, nilLit, List.cons_append, List.nil_append, List.append_nil]
      go_wp2_with fail
      rw [HQ_normal]
      go_wp2_with fail
      go_end0
      have hfin := rebR_inner (c := c) (i := i) (a := a) (N1 := N1) (N2 := N2) (m := m) (r := r) hge hlt HA.out hk1 hk2 HXL.out HP.out.cnta HP.out.cntb
      exact ⟨rfl, _, _, _, _, _, _, hfin, (OW32.out.nt 2 rfl (nt_cnt ty_ok (OW32.out.node_ 2 rfl) _)).dr⟩
end Go.Proofs.Ytckplcmieelmpaa.S
