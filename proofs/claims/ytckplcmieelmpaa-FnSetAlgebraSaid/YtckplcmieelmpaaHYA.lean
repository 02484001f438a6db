/- Part 1 of the texts for the statement FnSetAlgebraSaid: the package's tree of maps and sets, its functions' contracts. -/
import Derived.Test.YtckplcmieelmpaaHC
import Derived.Deep.RegionHeld3
import Derived.Deep.DeepCutAuto
namespace Go.Proofs.Ytckplcmieelmpaa.S
open Go.RowKit Go.Wb

set_option maxRecDepth 100000 in
set_option maxHeartbeats 16000000 in
theorem reb_left {w : World} {b : Nat} {hr : HRec} {S : Nat → Nat → Prop} {n a d : Nat} {r ra rb : NRec It} {L La Lb : Lay} {N1 N2 : List Nat} {i i0 : Nat} {m : It} {mx : Nat} {c : Nat → Int} (P : RebIn w b hr S n a d r ra rb L La Lb N1 N2 i m mx c) (hi0 : i0 = i ∨ (i0 = i + 1 ∧ i0 = r.items.length))
    (hge : mx ≤ ra.items.length + rb.items.length) (hlt : ¬ rb.items.length < ra.items.length) : Calls Try.prog 201 #[ptr b, ptr n, .int .i64 i0] w (RebW w S mx i c n a d N1 N2 m r ra rb) := by
  have HP := Lib.hid P
  have HKS := Lib.hid P.kids
  have hlr := Lib.hid P.lr
  have hln := P.ln
  have hle := P.len
  have hbb := P.hb
  have hla := P.la
  have hlb := P.lb
  have hN0 := P.own.node_ 0 rfl
  obtain ⟨kb, ko, hka, _⟩ := ((hN0.2.2.2 _ P.kids).2.1).form (by simp; omega)
  have HKA := Lib.hid hka
  have hkl : Hid ((N1 ++ a :: d :: N2).length = r.items.length + 1) := by have := hlr.out; exact Lib.hid (by simp; omega)
  have HI0 := Lib.hid hi0
  clear P hi0 hN0 hka
  unfold ptr at *
  go_enter Try.func201, Try.ntmps201
  have HN0 := Lib.hid (HP.out.own.node_ 0 rfl)
  obtain ⟨c0, c1, c2, c3, fz⟩ := blk4 HN0.out.1
  clear c0 c1 c3 fz
  have hil : Hid (i < r.items.length ∧ i + 1 < (N1 ++ a :: d :: N2).length) := by have := hlr.out; have := hkl.out; exact Lib.hid (by omega)
  have HNA := Lib.hid (HP.out.own.node_ 1 rfl)
  have HND := Lib.hid (HP.out.own.node_ 2 rfl)
  rcases HI0.out with h0 | ⟨h0, h1⟩
  case' inl =>
    replace h0 := h0.symm
    subst h0
    have hne : ¬ ((i : Int) = (r.items.length : Int)) := by have := hil.out; omega
  case' inr =>
    obtain ⟨z, hz⟩ : ∃ z : Int, z = ((i0 : Nat) : Int) := ⟨_, rfl⟩
    rw [← hz]
    have hne : z = (r.items.length : Int) := by omega
    have hz1 : (r.items.length : Int) - 1 = (i : Int) := by omega
    have hz2 : -9223372036854775808 ≤ (r.items.length : Int) - 1 ∧ (r.items.length : Int) - 1 ≤ 9223372036854775807 := by omega
    replace h0 := Lib.hid h0
    replace h1 := Lib.hid h1
    replace hz := Lib.hid hz
  all_goals
    go_upto_region 2 with (fail)
    clear hne
    try clear hz1 hz2 hz h0 h1
    have hkl2 := hkl.out
    obtain ⟨hil1, hil2⟩ := hil.out
    obtain ⟨c0, c1, c2b, c3, fz⟩ := blk4 HN0.out.1
    rw [HKS.out] at c3
    obtain ⟨g1, g2, g3⟩ := HN0.out.2.2.2 _ HKS.out
    rw [HKA.out] at g1 g2
    obtain ⟨g4, fz3⟩ := blk1 g1
    have x1 : w.cell? ⟨kb, ko + i, none⟩ = some (ptr a) := g2.cell (by rw [List.map_append, List.getElem?_append_right (by simp; omega)]; simp [hln])
    have x2 : w.cell? ⟨kb, ko + (i + 1), none⟩ = some (ptr d) := g2.cell (by rw [List.map_append, List.getElem?_append_right (by simp; omega)]; simp [hln])
    have hisoA := Lib.hid (isoLoad_own HP.out.hdr x1 HNA.out HP.out.isoa true)
    simp only [kidsVal, ptr] at c3
    unfold ptr at hisoA
    clear c0 c1 c2b fz g1 g2 g3 x1 x2 c2
    go_wp2_with fail
    refine hisoA.out.mono ?_
    rintro e w1 ⟨rfl, k1, rfl⟩
    have OA : Hid (Own TT E S w (w.drewN k1) [.node n r L, .node a ra La, .node d rb Lb]) := by exact HP.out.own.drN k1
    have HA : Hid (Hdr (w.drewN k1) b hr) := by exact blk_keep HP.out.hdr (Keep.drewN Nothing _ _) fun _ h => h
    clear hisoA c3 g4 fz3 HN0 HNA HND
    generalize w.drewN k1 = WA at *
    have HN0 := Lib.hid (OA.out.node_ 0 rfl)
    obtain ⟨c0, c1, c2b, c3, fz⟩ := blk4 HN0.out.1
    rw [HKS.out] at c3
    obtain ⟨g1, g2, g3⟩ := HN0.out.2.2.2 _ HKS.out
    rw [HKA.out] at g1 g2
    obtain ⟨g4, fz3⟩ := blk1 g1
    have x2 : WA.cell? ⟨kb, ko + (i + 1), none⟩ = some (ptr d) := g2.cell (by rw [List.map_append, List.getElem?_append_right (by simp; omega)]; simp [hln])
    have hisoD := Lib.hid (isoLoad_own HA.out x2 (OA.out.node_ 2 rfl) HP.out.isob true)
    simp only [kidsVal, ptr] at c3
    unfold ptr at hisoD
    clear c0 c1 c2b fz g1 g2 g3 x2
    unfold ptr
    go_wp2_with fail
    refine hisoD.out.mono ?_
    rintro e w1 ⟨rfl, k2, rfl⟩
    unfold ptr
    have OW : Hid (Own TT E S w (WA.drewN k2) [.node n r L, .node a ra La, .node d rb Lb]) := by exact OA.out.drN k2
    have HW : Hid (Hdr (WA.drewN k2) b hr) := by exact blk_keep HA.out (Keep.drewN Nothing _ _) fun _ h => h
    clear hisoD c3 g4 fz3 HN0 OA HA
    generalize WA.drewN k2 = W at *
    obtain ⟨ca0, ca1, ca2, ca3, fza⟩ := blk4 (OW.out.node_ 1 rfl).1
    obtain ⟨cd0, cd1, cd2, cd3, fzd⟩ := blk4 (OW.out.node_ 2 rfl).1
    have x6 := hdr_mx HW.out
    rw [HP.out.hmx] at x6
    clear ca0 ca1 ca3 cd0 cd1 cd3
    go_wp2_with fail
    refine wp_calm (by kernel_rfl) (by kernel_rfl) rfl ?_
    simp only [List.flatMap_cons, List.flatMap_nil, checks, chk, nilLit, List.cons_append, List.nil_append, List.append_nil]
    go_wp2_with fail
    rw [HQ_normal]
    clear ca2 cd2 x6
    have OW0 : Hid (Own TT E S w W.drew [.node n r L, .node a ra La, .node d rb Lb]) := by exact OW.out.dr
    have HW0 : Hid (Hdr W.drew b hr) := by exact blk_keep HW.out (Keep.drew Nothing _) fun _ h => h
    clear OW HW
    generalize W.drew = W0 at *
    go_upto_region 16 with (fail)
    obtain ⟨ca0, ca1, ca2, ca3, fza⟩ := blk4 (OW0.out.node_ 1 rfl).1
    obtain ⟨cd0, cd1, cd2, cd3, fzd⟩ := blk4 (OW0.out.node_ 2 rfl).1
    clear ca0 ca1 ca3 cd0 cd1 cd3
    go_wp2_with fail
    refine wp_calm (by kernel_rfl) (by kernel_rfl) rfl ?_
    simp only [List.flatMap_cons, List.flatMap_nil, checks, chk, nilLit, List.cons_append, List.nil_append, List.append_nil]
    go_wp2_with fail
    rw [HQ_normal]
    have OWc : Hid (Own TT E S w W0.drew [.node n r L, .node a ra La, .node d rb Lb]) := by exact OW0.out.dr
    clear ca2 cd2 OW0 HW0 fza fzd
    generalize W0.drew = Wc at *
    go_upto_region 33 with (fail)
    have hlr2 := hlr.out
    obtain ⟨ib, io, hia, _⟩ := ((OWc.out.node_ 0 rfl).2.1).form (by rw [E.all_len]; have := E.pos; exact Nat.mul_pos (by omega) E.pos)
    have HIA := Lib.hid hia
    clear hlr2 fza fzd
    obtain ⟨cn0, cn1, cn2, cn3, fzn⟩ := blk4 (OWc.out.node_ 0 rfl).1
    obtain ⟨ca0, ca1, ca2, ca3, fza⟩ := blk4 (OWc.out.node_ 1 rfl).1
    rw [hia] at cn2
    have hrow := (OWc.out.node_ 0 rfl).2.1
    rw [hia] at hrow
    have ck := key_cell hrow HP.out.item
    unfold kv at ck
    have fzr := hrow.frozen
    clear cn0 cn1 cn3 ca0 ca1 ca3 hrow hia
    refine wp_held (fun w' => w'.cell? ⟨a, 2, none⟩ = some (.slice La.ia ra.items.length La.icap)) [4] (by kernel_rfl) (by kernel_rfl) (by kernel_rfl) rfl ca2 ?_
    simp only [segs, readsB, silentB, lenB, checks, List.nil_append, Bool.or_true, Bool.or_false, Bool.false_eq_true, reduceIte, show (Builtin.append == Builtin.len) = false from rfl, Bool.false_and]
    go_wp2_with fail
    refine held_world ?_
    intro W1 hW1
    generalize he0 : Wc.heap.size = e0 at *
    have KA : Hid (Keep Nothing Wc W1) := by subst hW1; exact ((Keep.refl _ _).al _).dr
    have N12 : Hid (W1.heap[e0]? = some (.cells (E.enc m).toArray 181 (0, 0))) := by subst hW1; subst he0; exact heap_alloc_new Wc _
    have OW1 : Hid (Own TT E S w W1 [.node n r L, .node a ra La, .node d rb Lb]) := by exact OWc.out.calm KA.out
    clear hW1 cn2 fzn ca2 fza ck fzr
    obtain ⟨ca0, ca1, ca2, ca3, fza⟩ := blk4 (OW1.out.node_ 1 rfl).1
    clear ca0 ca1 ca3
    refine held_next ca2 ?_
    refine wpList_append_any rfl _ _ _ rfl 181 1 8 Try.underlying250 ⟨by kernel_rfl, by kernel_rfl, by kernel_rfl⟩ La.ia ra.items.length La.icap (E.all ra.items) rfl (OW1.out.node_ 1 rfl).2.1 (E.all_len _) ⟨e0, 0, none⟩ 1 1 (E.enc m) ?_ (E.len _) ?_ (E.one _) (by omega) (OW1.out.node_ 1 rfl).2.2.1 (by simp only [maxLen]; omega) (by omega) ?_
    · rfl
    · exact new_cells N12.out
    intro ai' ic' W2 hG
    have OA2 := Lib.hid (nt_append1 ty_ok (OWc.out.node_ 1 rfl) KA.out hG)
    have KG2 : Hid (Keep (rowFp La.ia (La.icap * TT.s)) W1 W2) := by
      refine hG.keep.mono fun x o _ h => ?_
      obtain ⟨x1, y1, e1, e2, e3, e4⟩ := h
      exact ⟨x1, y1, e1, e2, by omega, e4⟩
    have hA1 := Lib.hid (OW1.out.node_ 1 rfl)
    have hA2 : Hid (W2.heap[a]? = some (.cells #[.int .u64 ra.iso, .int .i64 ra.cnt, .slice La.ia ra.items.length La.icap, kidsVal ra.kids La.cb] 253 (0, 0))) := by
      exact blk_keep hA1.out.1 KG2.out fun o hf => by
        obtain ⟨arr, ha⟩ := hA1.out.2.1.block ⟨_, hf⟩
        exact blk_ne hA1.out.1 ha ty_ok.a rfl
    obtain ⟨fc, hfc⟩ : ∃ f : Unit → Nat, f () = ic' := ⟨fun _ => ic', rfl⟩
    subst hfc
    clear hG ca2 fza hA1 KG2
    obtain ⟨ca0, ca1, ca2, ca3, fza⟩ := blk4 hA2.out
    clear ca0 ca1 ca3
    refine held_next ca2 ?_
    simp only [Act.put]
    go_wp2_with fail
    refine held_world ?_
    intro W3 hW3
    refine held_end ?_ ?_
    · refine ⟨?_, trivial⟩
      exact ⟨.slice La.ia ra.items.length La.icap, fun w' hS => by simp [execOp, hS, go_sem]⟩
    obtain ⟨La3, OW3⟩ : ∃ La3, Hid (Own TT E S w W3 [.node n r L, .node a { ra with items := ra.items ++ [m] } La3, .node d rb Lb]) := by
      subst hW3; exact ⟨_, OWc.out.nt 1 rfl OA2.out⟩
    clear hW3 OW1 OWc OA2 KA N12 hA2 ca2 fza he0
    obtain ⟨m', B, hB⟩ : ∃ x l, rb.items = x :: l := by
      cases hq : rb.items with
      | nil => rw [hq] at hge hlt; have := HP.out.pos; simp only [List.length_nil] at hge hlt; omega
      | cons x l => exact ⟨x, l, rfl⟩
    have HB := Lib.hid hB
    clear hB
    have hca := HP.out.ca
    have hcb := HP.out.cb
    have hbig := HP.out.big
    obtain ⟨ca0, ca1, ca2, ca3, fza⟩ := blk4 (OW3.out.node_ 1 rfl).1
    have hb1 : -9223372036854775808 ≤ ra.cnt + 1 ∧ ra.cnt + 1 ≤ 9223372036854775807 := by omega
    clear ca0 ca2 ca3
    go_upto_region 35 with (fail)
    refine wp_world ?_
    intro W34 hW34
    have OW34 : Hid (Own TT E S w W34 [.node n r L, .node a { ra with items := ra.items ++ [m], cnt := ra.cnt + 1 } La3, .node d rb Lb]) := by
      subst hW34; exact OW3.out.nt 1 rfl (nt_cnt ty_ok (OW3.out.node_ 1 rfl) _)
    clear hW34 OW3 ca1 fza
    have hrD := (OW34.out.node_ 2 rfl).2.1
    have hposD : 0 < (E.all rb.items).length := by rw [E.all_len, HB.out]; exact Nat.mul_pos (by simp) E.pos
    obtain ⟨db, dq, hda, _⟩ := hrD.form hposD
    have HDA := Lib.hid hda
    rw [hda] at hrD
    have hy0 : rb.items[0]? = some m' := by rw [HB.out]; rfl
    have ck := key_cell hrD hy0
    obtain ⟨cn0, cn1, cn2, cn3, fzn⟩ := blk4 (OW34.out.node_ 0 rfl).1
    obtain ⟨cd0, cd1, cd2, cd3, fzd⟩ := blk4 (OW34.out.node_ 2 rfl).1
    have hrN := (OW34.out.node_ 0 rfl).2.1
    rw [HIA.out] at cn2 hrN
    rw [hda] at cd2
    have fzr := hrN.frozen
    obtain ⟨ov, hov⟩ := hrN.there (i := i) (by have := (OW34.out.node_ 0 rfl).2.2.1; simp only [TT, E]; omega)
    unfold kv at ck
    simp only [Nat.add_zero] at ck
    have hlb3 : 0 < rb.items.length := by rw [HB.out]; simp
    clear cn0 cn1 cn3 cd0 cd1 cd3 fzd hrD hrN hda hposD hy0 fzn
    go_wp2_with fail
    refine wp_calm (by kernel_rfl) (by kernel_rfl) rfl ?_
    simp only [List.flatMap_cons, List.flatMap_nil, checks, chk, nilLit, List.cons_append, List.nil_append, List.append_nil]
    go_wp2_with fail
    rw [HQ_normal]
    go_upto_region 36 with (fail)
    refine wp_world ?_
    intro W35 hW35
    have OW35 : Hid (Own TT E S w W35 [.node n { r with items := r.items.set i m' } L, .node a { ra with items := ra.items ++ [m], cnt := ra.cnt + 1 } La3, .node d rb Lb]) := by
      have := nt_set ty_ok rfl (OW34.out.node_ 0 rfl) (i := i) hil1 HIA.out m'
      rw [show i * TT.s = i from Nat.mul_one i] at this
      subst hW35
      exact (OW34.out.nt 0 rfl this).dr
    clear hW35 OW34 cn2 cd2 fzr hov ck
    obtain ⟨l, hl⟩ : ∃ l, rb.items.length = l + 1 := ⟨B.length, by rw [HB.out]; rfl⟩
    have HL := Lib.hid hl
    clear hl
    have OX : Hid (Own TT E S w W35.drew [.node n { r with items := r.items.set i m' } L, .node a { ra with items := ra.items ++ [m], cnt := ra.cnt + 1 } La3, .node d rb Lb]) := by exact OW35.out.dr
    obtain ⟨cd0, cd1, cd2, cd3, fzd⟩ := blk4 (OW35.out.node_ 2 rfl).1
    rw [HDA.out] at cd2
    have hrD := (OX.out.node_ 2 rfl).2.1
    rw [HDA.out] at hrD
    replace hrD := Lib.hid hrD
    have hcD := (OX.out.node_ 2 rfl).2.2.1
    have hdn1 : 1 ≤ rb.items.length := hlb3
    have hdn2 : 0 < Lb.icap := by omega
    have hdn3 : ¬ Lb.icap = 1 := by have := HP.out.pos; omega
    clear cd0 cd1 cd3 fzd
    go_wp2_with fail
    refine wp_calm (by kernel_rfl) (by kernel_rfl) rfl ?_
    simp only [List.flatMap_cons, List.flatMap_nil, checks, chk, nilLit, List.cons_append, List.nil_append, List.append_nil]
    go_wp2_with fail
    all_goals
      have hmin : Nat.min (rb.items.length - 1) rb.items.length = l - 0 := by have := HL.out; show min _ _ = _; omega
      obtain ⟨W36, hr36, hk36, hw36⟩ := run_copyRow (P := Try.prog) W35.drew 250 3 181 1 Try.underlying250 (by kernel_rfl) hrD.out (E.all_len _) hmin (i := 0) (j := 0 + 1) (by have := HL.out; omega) (by have := HL.out; omega) (some ⟨db, dq, none⟩) (some ⟨db, dq + 1, none⟩) (fun _ => by simp) (fun _ => by simp) Lb.icap (Lb.icap - 1) (all_one _)
      rw [hr36]
      simp only [Result.andThen_ok]
      obtain ⟨its11, hits11⟩ : ∃ k, k = rb.items.take 0 ++ (rb.items.drop (0 + 1)).take (l - 0) ++ rb.items.drop (0 + (l - 0)) := ⟨_, rfl⟩
      have OW36 : Hid (Own TT E S w W36 [.node n { r with items := r.items.set i m' } L, .node a { ra with items := ra.items ++ [m], cnt := ra.cnt + 1 } La3, .node d { rb with items := its11 } Lb]) := by
        rw [hits11]
        exact OX.out.nt 2 rfl (nt_copy ty_ok rfl (OX.out.node_ 2 rfl) HDA.out (by have := HL.out; omega) (by have := HL.out; omega) hk36 hw36)
      have hl11 : Hid (its11.length = l + 1) := by have := HL.out; exact Lib.hid (by rw [hits11, copy_len _ (by omega) (by omega)]; omega)
      have hf11 : Hid ((its11.set l hr.emp).take l = B) := by
        exact Lib.hid (by rw [hits11, shut_list _ HL.out (Nat.zero_le _), HB.out]; rfl)
      clear hits11 hr36 hk36 hw36 hrD hmin OX OW35 cd2
      have H36 := Lib.hid (blk_keep HP.out.hdr OW36.out.keep (fun o h => HP.out.hS o h) : Hdr W36 b hr)
      obtain ⟨cd0, cd1, cd2, cd3, fzd⟩ := blk4 (OW36.out.node_ 2 rfl).1
      simp only [HDA.out, hl11.out] at cd2
      have he := hdr_emp H36.out
      have hrD := (OW36.out.node_ 2 rfl).2.1
      simp only [HDA.out] at hrD
      have fzr := hrD.frozen
      obtain ⟨ov, hov⟩ := hrD.there (i := l) (by have := HL.out; simp only [TT, E]; omega)
      unfold kv at he
      have hlb2 : l ≤ 1000000000000 := by have := HL.out; omega
      clear cd0 cd1 cd3 fzd hrD
      go_wp2_with fail
      rw [HQ_normal]
      go_wp2_with fail
      refine wp_calm (by kernel_rfl) (by kernel_rfl) rfl ?_
      simp only [List.flatMap_cons, List.flatMap_nil, checks, chk, nilLit, List.cons_append, List.nil_append, List.append_nil]
      go_wp2_with fail
      rw [HQ_normal]
      go_upto_region 38 with (fail)
      refine wp_world ?_
      intro W37 hW37
      have OW37 : Hid (Own TT E S w W37 [.node n { r with items := r.items.set i m' } L, .node a { ra with items := ra.items ++ [m], cnt := ra.cnt + 1 } La3, .node d { rb with items := its11.set l hr.emp } Lb]) := by
        have := nt_set ty_ok rfl (OW36.out.node_ 2 rfl) (i := l) (by show l < its11.length; rw [hl11.out]; omega) HDA.out hr.emp
        rw [show l * TT.s = l from Nat.mul_one l] at this
        subst hW37
        exact (OW36.out.nt 2 rfl this).dr
      clear hW37 OW36 H36 cd2 fzr hov he
      have hl12 : Hid ((its11.set l hr.emp).length = l + 1) := Lib.hid (by rw [List.length_set]; exact hl11.out)
      obtain ⟨cd0, cd1, cd2, cd3, fzd⟩ := blk4 (OW37.out.node_ 2 rfl).1
      simp only [HDA.out, hl12.out] at cd2
      have hcap : l ≤ Lb.icap := by have := HL.out; omega
      clear cd0 cd1 cd3
      go_wp2_with fail
      refine wp_calm (by kernel_rfl) (by kernel_rfl) rfl ?_
      simp only [List.flatMap_cons, List.flatMap_nil, checks, chk, nilLit, List.cons_append, List.nil_append, List.append_nil]
      go_wp2_with fail
      rw [HQ_normal]
      go_upto_region 39 with (fail)
      refine wp_world ?_
      intro W38 hW38
      have OW38 : Hid (Own TT E S w W38 [.node n { r with items := r.items.set i m' } L, .node a { ra with items := ra.items ++ [m], cnt := ra.cnt + 1 } La3, .node d { rb with items := B } Lb]) := by
        have := nt_cut ty_ok (OW37.out.node_ 2 rfl) (k := l) (by show l ≤ (its11.set l hr.emp).length; rw [hl12.out]; omega)
        simp only [hf11.out, HDA.out] at this
        subst hW38
        exact (OW37.out.nt 2 rfl this).dr
      clear hW38 OW37 cd2 fzd hcap hl12 hl11 hf11
      obtain ⟨cd0, cd1, cd2, cd3, fzd⟩ := blk4 (OW38.out.node_ 2 rfl).1
      have hb3 : -9223372036854775808 ≤ rb.cnt - 1 ∧ rb.cnt - 1 ≤ 9223372036854775807 := by omega
      clear cd0 cd2 cd3
      go_upto_region 40 with (fail)
      refine wp_world ?_
      intro W39 hW39
      have OW39 : Hid (Own TT E S w W39 [.node n { r with items := r.items.set i m' } L, .node a { ra with items := ra.items ++ [m], cnt := ra.cnt + 1 } La3, .node d { rb with items := B, cnt := rb.cnt - 1 } Lb]) := by
        subst hW39; exact OW38.out.nt 2 rfl (nt_cnt ty_ok (OW38.out.node_ 2 rfl) _)
      clear hW39 OW38 cd1 fzd
      have hlv := Lib.hid (leaf_any (OW39.out.node_ 1 rfl))
      unfold ptr at hlv
      go_wp2_with fail
      refine hlv.out.mono ?_
      rintro e w1 ⟨rfl, rfl⟩
      clear hlv
      rcases HP.out.same with ⟨hk1, hk2⟩ | ⟨x, y, hk1, hk2, hx, hy, hkk⟩
      case' inl =>
        simp only [hk1, Option.isNone_none]
        go_wp2_with fail
        go_end0
        have := rebL_leaf (c := c) (i := i) (a := a) (N1 := N1) (N2 := N2) (m := m) (r := r) hge hlt HB.out hk1 hk2 HP.out.cnta HP.out.cntb
        have ea : ({ ra with items := ra.items ++ [m], cnt := ra.cnt + 1 } : NRec It) = ⟨ra.iso, ra.cnt + 1, ra.items ++ [m], none⟩ := by rw [hk1]
        have ed : ({ rb with items := B, cnt := rb.cnt - 1 } : NRec It) = ⟨rb.iso, rb.cnt - 1, B, none⟩ := by rw [hk2]
        refine ⟨rfl, _, _, _, _, _, _, ?_, OW39.out⟩
        rw [ea, ed]
        exact this
      simp only [hk1, Option.isNone_some]
      go_upto_region 41 with (fail)
      obtain ⟨k, y', hyk⟩ : ∃ k l, y = k :: l := by
        cases y with
        | nil => simp at hy
        | cons k l => exact ⟨k, l, rfl⟩
      subst hyk
      have XA := (OW39.out.node_ 1 rfl).kids hk1
      have XD := (OW39.out.node_ 2 rfl).kids hk2
      have p1 := XA.1
      have p2 := XA.2.1
      have q1 := XD.1
      have q2 := XD.2.1
      have hrE := XD.2.2.2.1
      obtain ⟨eb, eo, hea, _⟩ := hrE.form (by simp)
      have HEA := Lib.hid hea
      rw [hea] at hrE q2
      have hk0 : W39.cell? ⟨eb, eo + 0, none⟩ = some (ptr k) := hrE.cell (by simp)
      rw [Nat.add_zero] at hk0
      have hcA := XA.2.2.2.2
      have HXL := Lib.hid hx
      have HYL := Lib.hid hy
      have hx2 : x.length ≤ 1000000000001 := by omega
      have hy2 : 0 < (k :: y').length := by simp
      unfold ptr at p1 q1 hk0
      have HKK := Lib.hid hkk
      clear XA XD hrE hea hx hy hkk
      refine wp_held (fun w' => w'.cell? ⟨a, 3, none⟩ = some (.pointer (some ⟨La3.cb, 0, none⟩)) ∧ w'.cell? ⟨La3.cb, 0, none⟩ = some (.slice La3.ka x.length La3.kcap)) [3, 7, 9] (by kernel_rfl) (by kernel_rfl) (by kernel_rfl) rfl ⟨p1, p2⟩ ?_
      simp only [segs, readsB, silentB, lenB, checks, List.nil_append, Bool.or_true, Bool.or_false, Bool.false_eq_true, reduceIte, show (Builtin.append == Builtin.len) = false from rfl, Bool.false_and]
      go_wp2_with fail
      refine held_world ?_
      intro W40 hW40
      generalize he1 : W39.heap.size = e1 at *
      have KB : Hid (Keep Nothing W39 W40) := by subst hW40; exact ((Keep.refl _ _).al _).dr
      have N40 : Hid (W40.heap[e1]? = some (.cells [Value.pointer (some ⟨k, 0, none⟩)].toArray 179 (0, 0))) := by subst hW40; subst he1; exact heap_alloc_new W39 _
      have OW40 : Hid (Own TT E S w W40 [.node n { r with items := r.items.set i m' } L, .node a { ra with items := ra.items ++ [m], cnt := ra.cnt + 1 } La3, .node d { rb with items := B, cnt := rb.cnt - 1 } Lb]) := by exact OW39.out.calm KB.out
      clear hW40 p1 p2 q1 q2 hk0
      have XA := (OW40.out.node_ 1 rfl).kids hk1
      have p1 := XA.1
      have p2 := XA.2.1
      have hrX := Lib.hid XA.2.2.2.1
      unfold ptr at p1
      clear XA
      refine held_next ⟨p1, p2⟩ ?_
      refine wpList_append_any rfl _ _ _ rfl 179 1 8 Try.underlying254 ⟨by kernel_rfl, by kernel_rfl, by kernel_rfl⟩ La3.ka x.length La3.kcap (x.map ptr) rfl hrX.out (by simp) ⟨e1, 0, none⟩ 1 1 [.pointer (some ⟨k, 0, none⟩)] ?_ rfl ?_ (by intro u hu; rw [List.mem_singleton.1 hu]; rfl) (by omega) hcA (by simp only [maxLen]; omega) (by omega) ?_
      · rfl
      · exact new_cells N40.out
      intro ak' kc' W41 hG
      have OA2 := Lib.hid (nk_append (new := [k]) ty_ok (OW39.out.node_ 1 rfl) hk1 KB.out hG rfl)
      obtain ⟨cg5, cg6, cg7⟩ := kids_grew (OW40.out.node_ 1 rfl) hk1 hG
      clear hG p1 p2
      refine held_next ⟨cg7, cg5⟩ ?_
      go_wp2_with fail
      refine held_world ?_
      intro W42 hW42
      refine held_end ?_ ?_
      · refine ⟨?_, ?_, ?_, trivial⟩
        · exact ⟨.pointer (some ⟨La3.cb, 0, none⟩), fun w' hS => by simp [execOp, hS.1, go_sem]⟩
        · exact ⟨.pointer (some ⟨La3.cb, 0, none⟩), fun w' hS => by simp [execOp, hS.1, go_sem]⟩
        · exact ⟨.slice La3.ka x.length La3.kcap, fun w' hS => by simp [execOp, hS.2, go_sem]⟩
      obtain ⟨La4, OW42⟩ : ∃ La4, Hid (Own TT E S w W42 [.node n { r with items := r.items.set i m' } L, .node a { ra with items := ra.items ++ [m], cnt := ra.cnt + 1, kids := some (x ++ [k]) } La4, .node d { rb with items := B, cnt := rb.cnt - 1 } Lb]) := by
        subst hW42; exact ⟨_, OW39.out.nt 1 rfl OA2.out⟩
      clear hW42 OW39 OW40 OA2 KB N40 cg5 cg6 cg7 hrX he1 hcA
      have OX : Hid (Own TT E S w W42.drew [.node n { r with items := r.items.set i m' } L, .node a { ra with items := ra.items ++ [m], cnt := ra.cnt + 1, kids := some (x ++ [k]) } La4, .node d { rb with items := B, cnt := rb.cnt - 1 } Lb]) := by exact OW42.out.dr
      have XD := (OW42.out.node_ 2 rfl).kids hk2
      have q1 := XD.1
      have q2 := XD.2.1
      have hkc := XD.2.2.2.2
      have hrE := ((OX.out.node_ 2 rfl).kids hk2).2.2.2.1
      rw [HYL.out] at q2 hkc
      rw [HEA.out] at q2 hrE
      replace hrE := Lib.hid hrE
      have hkN : Hid (((k :: y').map ptr).length = (rb.items.length + 1) * 1) := Lib.hid (by rw [List.length_map, HYL.out]; omega)
      have hkn1 : ¬ Lb.kcap = 1 := by omega
      have hkn2 : 1 ≤ Lb.kcap := by omega
      unfold ptr at q1
      clear XD
      go_upto_region 42 with (fail)
      refine wp_calm (by kernel_rfl) (by kernel_rfl) rfl ?_
      simp only [List.flatMap_cons, List.flatMap_nil, checks, chk, nilLit, List.cons_append, List.nil_append, List.append_nil]
      go_wp2_with fail
      have hmin : Nat.min rb.items.length (rb.items.length + 1) = rb.items.length - 0 := by show min _ _ = _; omega
      obtain ⟨W43, hr43, hk43, hw43⟩ := run_copyRow (P := Try.prog) W42.drew 254 3 179 1 Try.underlying254 (by kernel_rfl) hrE.out hkN.out hmin (i := 0) (j := 0 + 1) (by omega) (by omega) (some ⟨eb, eo, none⟩) (some ⟨eb, eo + 1, none⟩) (fun _ => by simp) (fun _ => by simp) Lb.kcap (Lb.kcap - 1) (ptr_one _)
      rw [hr43]
      simp only [Result.andThen_ok]
      obtain ⟨ks14, hks14⟩ : ∃ z, z = (k :: y').take 0 ++ ((k :: y').drop (0 + 1)).take (rb.items.length - 0) ++ (k :: y').drop (0 + (rb.items.length - 0)) := ⟨_, rfl⟩
      have OW43 : Hid (Own TT E S w W43 [.node n { r with items := r.items.set i m' } L, .node a { ra with items := ra.items ++ [m], cnt := ra.cnt + 1, kids := some (x ++ [k]) } La4, .node d { rb with items := B, cnt := rb.cnt - 1, kids := some ks14 } Lb]) := by
        rw [hks14]
        exact OX.out.nt 2 rfl (nk_copy ty_ok (OX.out.node_ 2 rfl) hk2 HEA.out (by have := HYL.out; omega) (by have := HYL.out; omega) hk43 hw43)
      have hl14 : Hid (ks14.length = rb.items.length + 1) := by have := HYL.out; exact Lib.hid (by rw [hks14, copy_len _ (by omega) (by omega)]; omega)
      have hf14 : Hid (ks14.take rb.items.length = y') := by
        exact Lib.hid (by rw [hks14, shut_kids _ HYL.out (Nat.zero_le _)]; rfl)
      clear hks14 hr43 hk43 hw43 hrE hmin OX OW42 q1 q2 hkn1
      have XN := (OW43.out.node_ 2 rfl).kids rfl
      have q1 := XN.1
      have q2 := XN.2.1
      have hkc2 := XN.2.2.2.2
      have hrK := XN.2.2.2.1
      simp only [HEA.out, hl14.out] at q2 hrK hkc2
      obtain ⟨ov, hov⟩ := hrK.there (i := rb.items.length) (by omega)
      have fzk := hrK.frozen
      unfold ptr at q1
      clear XN hrK
      go_wp2_with fail
      rw [HQ_normal]
      go_wp2_with fail
      refine wp_calm (by kernel_rfl) (by kernel_rfl) rfl ?_
      simp only [List.flatMap_cons, List.flatMap_nil, checks, chk, nilLit, List.cons_append, List.nil_append, List.append_nil]
      go_wp2_with fail
      rw [HQ_normal]
      go_upto_region 44 with (fail)
      refine wp_world ?_
      intro W44 hW44
      have K44 : Hid (Keep (fun x y => x = eb ∧ y = eo + rb.items.length) W43 W44) := by subst hW44; exact ((Keep.refl _ _).set _ _ _ fun _ => ⟨rfl, rfl⟩).dr
      obtain ⟨e1, e2⟩ := kids_row (OW43.out.node_ 2 rfl) rfl (K44.out.mono fun x y _ hh => ⟨eb, eo, HEA.out, hh.1, by have := hh.2; omega, by have := hh.2; omega⟩)
      simp only [HEA.out, hl14.out] at e1
      obtain ⟨g4, fz3⟩ := blk1 e1
      obtain ⟨c0, c1, c2, c3, fz⟩ := blk4 e2
      clear hW44 q1 q2 hov fzk c0 c1 c2 fz e1 e2
      go_wp2_with fail
      refine wp_calm (by kernel_rfl) (by kernel_rfl) rfl ?_
      simp only [List.flatMap_cons, List.flatMap_nil, checks, chk, nilLit, List.cons_append, List.nil_append, List.append_nil]
      go_wp2_with fail
      rw [HQ_normal]
      go_upto_region 45 with (fail)
      refine wp_world ?_
      intro W45 hW45
      have OW45 : Hid (Own TT E S w W45 [.node n { r with items := r.items.set i m' } L, .node a { ra with items := ra.items ++ [m], cnt := ra.cnt + 1, kids := some (x ++ [k]) } La4, .node d { rb with items := B, cnt := rb.cnt - 1, kids := some y' } Lb]) := by
        have hN := nk_last2 (OW43.out.node_ 2 rfl) rfl hl14.out HEA.out K44.out
        simp only [hf14.out] at hN
        subst hW45
        exact (OW43.out.nt 2 rfl hN).dr
      clear hW45 OW43 K44 c3 g4 fz3 hl14 hf14
      obtain ⟨hck, hkS, hc0, hc1⟩ := HKK.out k (by simp)
      have hck45 : W45.cell? ⟨k, 1, none⟩ = some (.int .i64 (c k)) := OW45.out.keep.cell' hck (hkS 1)
      have XA := (OW45.out.node_ 1 rfl).kids rfl
      have p1 := XA.1
      have p2 := XA.2.1
      have hrX := XA.2.2.2.1
      obtain ⟨xb, xo, hxa, _⟩ := hrX.form (by simp)
      have HXA := Lib.hid hxa
      rw [hxa] at p2 hrX
      have hxk : W45.cell? ⟨xb, xo + x.length, none⟩ = some (ptr k) := hrX.cell (by simp)
      have hxl : (x ++ [k]).length = x.length + 1 := by simp
      rw [hxl] at p2
      obtain ⟨ca0, ca1, ca2, ca3, fza⟩ := blk4 (OW45.out.node_ 1 rfl).1
      unfold ptr at p1 hxk
      have hb4 : -9223372036854775808 ≤ ra.cnt + 1 + c k ∧ ra.cnt + 1 + c k ≤ 9223372036854775807 := by omega
      have hb5 : -9223372036854775808 ≤ rb.cnt - 1 - c k ∧ rb.cnt - 1 - c k ≤ 9223372036854775807 := by omega
      clear XA hrX hxa hxl ca0 ca2 ca3 hck hkS
      go_wp2_with fail
      refine wp_calm (by kernel_rfl) (by kernel_rfl) rfl ?_
      simp only [List.flatMap_cons, List.flatMap_nil, checks, chk, nilLit, List.cons_append, List.nil_append, List.append_nil]
      go_wp2_with fail
      rw [HQ_normal]
      go_upto_region 46 with (fail)
      refine wp_world ?_
      intro W46 hW46
      have OW46 : Hid (Own TT E S w W46 [.node n { r with items := r.items.set i m' } L, .node a { ra with items := ra.items ++ [m], cnt := ra.cnt + 1 + c k, kids := some (x ++ [k]) } La4, .node d { rb with items := B, cnt := rb.cnt - 1, kids := some y' } Lb]) := by
        subst hW46; exact (OW45.out.nt 1 rfl (nt_cnt ty_ok (OW45.out.node_ 1 rfl) _)).dr
      clear hW46 OW45 p1 p2 hxk hck45 ca1 fza
      obtain ⟨hck, hkS, _, _⟩ := HKK.out k (by simp)
      have hck46 : W46.cell? ⟨k, 1, none⟩ = some (.int .i64 (c k)) := OW46.out.keep.cell' hck (hkS 1)
      have XA := (OW46.out.node_ 1 rfl).kids rfl
      have p1 := XA.1
      have p2 := XA.2.1
      have hrX := XA.2.2.2.1
      rw [HXA.out] at p2 hrX
      have hxk : W46.cell? ⟨xb, xo + x.length, none⟩ = some (ptr k) := hrX.cell (by simp)
      have hxl : (x ++ [k]).length = x.length + 1 := by simp
      rw [hxl] at p2
      obtain ⟨cd0, cd1, cd2, cd3, fzd⟩ := blk4 (OW46.out.node_ 2 rfl).1
      unfold ptr at p1 hxk
      clear XA hrX hxl cd0 cd2 cd3 hck hkS
      go_wp2_with fail
      refine wp_calm (by kernel_rfl) (by kernel_rfl) rfl ?_
      simp only [List.flatMap_cons, List.flatMap_nil, checks, chk, nilLit, List.cons_append, List.nil_append, List.append_nil]
      go_wp2_with fail
      rw [HQ_normal]
      go_wp2_with fail
      go_end0
      have hfin := rebL_inner (c := c) (i := i) (a := a) (N1 := N1) (N2 := N2) (m := m) (r := r) hge hlt HB.out hk1 hk2 HXL.out HP.out.cnta HP.out.cntb
      exact ⟨rfl, _, _, _, _, _, _, hfin, (OW46.out.nt 2 rfl (nt_cnt ty_ok (OW46.out.node_ 2 rfl) _)).dr⟩
end Go.Proofs.Ytckplcmieelmpaa.S
