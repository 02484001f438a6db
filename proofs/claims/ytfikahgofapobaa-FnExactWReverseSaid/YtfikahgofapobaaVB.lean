/- Part 2 of the common texts: the package's tree of maps and sets, its functions' contracts. -/
import Derived.Test.YtfikahgofapobaaVA
namespace Go.Proofs.Ytfikahgofapobaa.T
open Go.RowKit Go.Wb

set_option maxRecDepth 100000 in
set_option maxHeartbeats 8000000 in
theorem set_split {w : World} {b : Nat} {hr : HRec} {H : Store It} {L : Nat → Lay} {F : List Nat} {mn mx h : Nat} {t : Tr It} (T : TreeAt w b hr H L F mn mx (some (h, t))) (big : (flat h t).length ≤ 3000000000000000000) (x : It) (ha : Asks mx h t (ky x)) :
    Calls Try.prog 175 #[ptr b, kv (ky x), vv x] w (SetT w b hr H L F mn mx (some (h, t)) x) := by
  obtain ⟨n, hroot, hpre⟩ := root_pre T big
  have hcall : ∀ W, Keep Nothing w W → Calls Try.prog 214 #[ptr b, .pointer (some ⟨b, 2, none⟩), pv x] W (SetPost W H L F hr.iso mn mx h n t x hr.emp) := fun W hK => set_any x h t W b 2 n H L F (hpre W hK)
  have HT := Lib.hid T
  have HC := Lib.hid hcall
  have HR := Lib.hid hroot
  have HA := Lib.hid ha
  have HP := Lib.hid (hpre w (Keep.refl _ _))
  have HBIG := Lib.hid big
  clear T hcall hroot hpre ha big
  unfold ptr pv kv vv at *
  have hf0 := fold0
  go_enter Try.func175, Try.ntmps175
  go_upto_region 2 with (fail)
  refine wp_world ?_
  intro W1 hW1
  generalize hq : w.heap.size = q at *
  have K1 : Hid (Keep Nothing w W1) := by
    subst hW1; exact (((Keep.refl _ _).al _).al _).al _
  have X1 : Hid (W1.heap[q + 2]? = some (.cells (E.enc x).toArray 140 (0, 0))) := by
    subst hW1; subst hq
    have h0 := heap_alloc_new ((w.alloc (.cells #[] 138)).alloc (.cells #[] 138)) (.cells (E.enc x).toArray 140)
    rw [World.size_alloc, World.size_alloc] at h0
    exact h0
  have Y1 : Hid (W1.heap[q + 1]? = some (.cells #[] 138 (0, 0))) := by
    subst hW1; subst hq
    have h0 := heap_alloc_new (w.alloc (.cells #[] 138)) (.cells #[] 138)
    rw [World.size_alloc] at h0
    exact blk_alloc _ h0
  have XQ := Lib.hid hq
  clear hW1 hq
  have H1 : Hid (Hdr W1 b hr) := by exact blk_keep HT.out.hdr K1.out fun _ h => h
  have c2 := hdr_root H1.out
  rw [HR.out] at c2
  simp only [rootV, Option.map_some] at c2
  have fz := hdr_fz H1.out
  go_upto_region 9 with (fail)
  clear c2 fz
  go_cut [10, 11] (fun s10 s11 wx => s10 = .bool false ∧ s11 = .bool true ∧ Keep Nothing W1 wx)
  case first =>
    have kx : W1.cell? ⟨q + 1 + 1, 0, none⟩ = some (.string (ky x)) := by have := X1.out; simp only [World.cell?, this]; rfl
    go_region_held3 (fun w' => w'.cell? ⟨q + 1 + 1, 0, none⟩ = some (.string (ky x))) (first | go_keep)
      ((go_at_call 214; refine (HC.out _ ?_).mono ?_; (first | exact K1.out.dr | exact (K1.out.al _).dr); rintro e w' (⟨_, rfl, hk⟩ | ⟨h1, _⟩); rotate_left; exact absurd HA.out h1; (have kx' : w'.cell? ⟨q + 1 + 1, 0, none⟩ = some (.string (ky x)) := by (refine hk.cell' (by assumption) ?_; exact fun h => h)); unfold vv))
    all_goals
      go_wp2_with fail
      go_meet
      first
        | exact ⟨rfl, rfl, ((Keep.refl _ _).dr.trans hk fun _ _ _ h => h).al _⟩
        | exact ⟨rfl, rfl, ((Keep.refl _ _).al _).dr.trans hk fun _ _ _ h => h⟩
  case rest =>
    obtain ⟨rfl, rfl, hK⟩ := hcut
    have KC : Hid (Keep Nothing w wc) := by exact K1.out.trans hK fun _ _ _ h => h
    have X2 := Lib.hid (blk_keep X1.out hK fun _ h => h)
    have Y2 := Lib.hid (blk_keep Y1.out hK fun _ h => h)
    clear hK K1 X1 H1
    clear Y1
    have H2 : Hid (Hdr wc b hr) := by exact blk_keep HT.out.hdr KC.out fun _ h => h
    have hm2 : Hid (Mem TT E wc H L) := by exact HT.out.mem.keepS KC.out fun _ _ _ _ _ _ h => h
    obtain ⟨nF, rc, hrc, hci, hits, hcn⟩ := HP.out.rep.root
    have HRC := Lib.hid hrc
    have hsp := Lib.hid (split_step H2.out hm2.out HP.out.hmx HP.out.h3 HP.out.hb HP.out.rep HP.out.wf HP.out.nd HA.out.full HBIG.out hrc)
    clear nF hrc hci hits hcn
    have c2 := hdr_root H2.out
    rw [HR.out] at c2
    simp only [rootV, Option.map_some] at c2
    have fz := hdr_fz H2.out
    unfold ptr pv kv at hsp
    go_wp2_with fail
    refine hsp.out.mono ?_
    rintro e W3 ⟨m, med, rfl, hk, hh⟩
    obtain ⟨H', L', F1, F2, A⟩ := halved HT.out HR.out HA.out.full HRC.out KC.out hk hh
    have hloc : ∀ c, q ≤ c → c < wc.heap.size → W3.heap[c]? = wc.heap[c]? := fun c h1 h2 => hk.whole h2 fun o hf => by
      have := (HT.out.mem.at_ n rc HRC.out).lt hf
      have := XQ.out
      omega
    have X3 := Lib.hid ((hloc (q + 2) (by omega) (lt_of_heap X2.out)).trans X2.out)
    have Y3 := Lib.hid ((hloc (q + 1) (by omega) (lt_of_heap Y2.out)).trans Y2.out)
    have HA2 := Lib.hid A
    have hwq : q + 2 < wc.heap.size := lt_of_heap X2.out
    clear hloc A hk hh hsp c2 fz X2 H2 hm2 KC
    clear Y2
    go_upto_region 13 with (fail)
    refine wp_world ?_
    intro WB hWB
    generalize hp : W3.heap.size = p at *
    have KB : Hid (Keep Nothing W3 WB) := by
      subst hWB; exact (Keep.refl _ _).al _
    have M0 : Hid (WB.heap[p]? = some (.cells (E.enc med).toArray 140 (0, 0))) := by
      subst hWB; subst hp; exact heap_alloc_new W3 _
    have SB : Hid (WB.heap.size = p + 1) := by
      subst hWB; rw [← hp]; exact World.size_alloc _ _
    have hpq : Hid (q + 2 < p) := by have := lt_of_heap X3.out; rw [hp] at this; exact this
    have X0 := Lib.hid (blk_keep X3.out KB.out fun _ h => h)
    have Y0 := Lib.hid (blk_keep Y3.out KB.out fun _ h => h)
    have hbq : b < q := by have := lt_of_heap HT.out.hdr; rwa [XQ.out] at this
    have O0 := Lib.hid (Own.one (T := TT) (E := E) (S := fun c o => FP TT H' L' [] c o ∨ c = b) (w := WB) (r := .blk b (hdrC hr) 164) (blk_keep HA2.out.hdr KB.out fun _ h => h) (fun _ _ h => .inr h))
    have HL : Hid (∀ (W : World), Keep (fun c o => FP TT H' L' [] c o ∨ c = b) WB W → ∀ (c : Nat) (ob : Obj), c ≠ b → WB.heap[c]? = some ob → W.heap[c]? = some ob) := by
      exact fun W k c ob hc hb => blk_keep hb k fun o h => h.elim (fun ⟨_, _, h, _⟩ => by cases h) hc
    clear hWB hp X3
    clear Y3
    have hnn := Lib.hid (newNode_any (O0.out.blk_ 0 rfl : Hdr WB b hr) false)
    unfold ptr at hnn
    go_wp2_with fail
    refine hnn.out.mono ?_
    rintro e WC ⟨nn, Ln, rfl, hnw, k3, hm, hfpm⟩
    have O1 := Lib.hid (O0.out.add k3 (r := .node nn ⟨hr.iso, 0, [], some []⟩ Ln) hm hfpm)
    have NW := Lib.hid hnw
    clear hnn k3 hm hfpm O0 hnw
    simp only [List.cons_append, List.nil_append] at O1
    have c2 := hdr_root (O1.out.blk_ 0 rfl : Hdr WC b hr)
    rw [HR.out] at c2
    simp only [rootV, Option.map_some] at c2
    have fz := hdr_fz (O1.out.blk_ 0 rfl : Hdr WC b hr)
    unfold ptr
    go_upto_region 14 with (fail)
    refine wp_world ?_
    intro WD hWD
    have O2 : Hid (Own TT E (fun c o => FP TT H' L' [] c o ∨ c = b) WB WD [.blk b (hdrC { hr with root := some nn }) 164, .node nn ⟨hr.iso, 0, [], some []⟩ Ln]) := by
      subst hWD; exact O1.out.set 0 rfl 2 (rootV (some nn))
    clear hWD O1 c2 fz
    go_cut [] (fun wx => ∃ L2, NTurn TT E WD nn ⟨hr.iso, 0, [], some []⟩ Ln wx ⟨hr.iso, 0, [], some []⟩ L2)
    case first =>
      have hn2 := Lib.hid (O2.out.node_ 1 rfl)
      have c2 := hdr_root (O2.out.blk_ 0 rfl : Hdr WD b { hr with root := some nn })
      simp only [rootV, Option.map_some] at c2
      have c6 := hdr_mx (O2.out.blk_ 0 rfl : Hdr WD b { hr with root := some nn })
      simp only at c6
      rw [HP.out.hmx] at c6
      obtain ⟨c3, g1, fz, _, _⟩ := hn2.out.kids rfl
      unfold ptr at c3
      have e1 := World.new_ne WD _ c2
      have e2 := World.new_ne WD _ c6
      have e3 := World.new_ne WD _ c3
      have e4 := World.new_ne WD _ g1
      have hcbw := lt_of_cell g1
      have cm1 : ∀ o, (WD.alloc o).cell? ⟨Ln.cb, 0, none⟩ = some (.slice Ln.ka 0 Ln.kcap) := fun o => cell_al o g1
      have cm2 : ∀ o, (WD.alloc o).frozen? ⟨Ln.cb, 0, none⟩ = false := fun o => (fz_al o hcbw (fz 0)).2
      have hcb1 : b ≠ Ln.cb := fun e => O2.out.apart 0 1 _ _ (by omega) rfl rfl Ln.cb 0 e.symm (.inr (.inr ⟨rfl, .inl rfl⟩))
      have hcb2 : nn ≠ Ln.cb := blk_ne hn2.out.1 (hn2.out.2.2.2 _ rfl).1 ty_ok.c
      have hmxb : (mx : Int) ≤ 1000000000000 := by have := HP.out.hb; omega
      obtain ⟨cs, hcs, hmk⟩ := run_make0 (P := Try.prog) 279 160 1 8 Try.underlying279 ⟨by kernel_rfl, by kernel_rfl, by kernel_rfl⟩ 0 (mx + 1) (by omega) (by omega) (by omega)
      have hwr : IntKind.i64.wrap ((mx : Int) + 1) = ((mx + 1 : Nat) : Int) := by rw [IntKind.wrap_i64]; omega
      have hmk' : ∀ w, (Instr.makeSlice 279 (.int .i64 0) (.int .i64 ((mx : Int) + 1))).run Try.prog w = .ok (.slice (some ⟨w.heap.size, 0, none⟩) 0 (mx + 1)) (w.alloc (.cells cs 160)) := fun w => hmk w
      have HCS := Lib.hid hcs
      clear hcs hmk
      go_region_held3 (fun w' => w'.cell? ⟨b, 2, none⟩ = some (.pointer (some ⟨nn, 0, none⟩)) ∧ w'.cell? ⟨b, 6, none⟩ = some (.int .i64 mx) ∧ w'.cell? ⟨nn, 3, none⟩ = some (.pointer (some ⟨Ln.cb, 0, none⟩))) ((go_split_ands; refine ⟨?_, ?_, ?_⟩ <;> first | assumption | (refine cell_al _ ?_; assumption) | (refine cell_al _ (cell_set ?_ ?_) <;> assumption))) (fail)
      all_goals
        go_wp2_with fail
        go_meet
        have hrw : Row (WD.alloc (.cells cs 160)) TT.nodeP 1 (some ⟨WD.heap.size, 0, none⟩) (mx + 1) (([] : List Nat).map ptr) := .inr ⟨_, 0, cs, rfl, heap_alloc_new WD _, by simp, by rw [HCS.out]; omega, by simp⟩
        have hk1 : Keep (fun b _ => WD.heap.size ≤ b) WD (WD.alloc (.cells cs 160)) := Keep.alloc _ _ _
        have hf1 : ∀ b o, rowFp (some ⟨WD.heap.size, 0, none⟩) (mx + 1) b o → WD.heap.size ≤ b := fun c o hf => Nat.le_of_eq (rowFp_some hf).1.symm
        have := nk_fresh ty_ok hn2.out rfl (Keep.refl _ WD) hk1 hrw (Nat.zero_le _) hf1
        rw [World.setCell_alloc_past _ _ _ _ hcbw] at this
        exact ⟨_, this.dr⟩
    case rest =>
      obtain ⟨L2, nt⟩ := hcut
      have O3 := Lib.hid (O2.out.nt 1 rfl nt)
      clear nt O2
      simp only [List.set] at O3
      go_upto_region 15 with (fail)
      have hn3 := Lib.hid (O3.out.node_ 1 rfl)
      go_cut [] (fun wx => ∃ L', NTurn TT E wc nn ⟨hr.iso, 0, [], some []⟩ L2 wx ⟨hr.iso, 0, [], some [n, m]⟩ L')
      case first =>
        have c2 := hdr_root (O3.out.blk_ 0 rfl : Hdr wc b { hr with root := some nn })
        simp only [rootV, Option.map_some] at c2
        obtain ⟨c3, g1, fz, _, _⟩ := hn3.out.kids rfl
        unfold ptr at c3
        have hcbw := lt_of_cell g1
        have fz0 := fz 0
        have hcb1 : b ≠ L2.cb := fun e => O3.out.apart 0 1 _ _ (by omega) rfl rfl L2.cb 0 e.symm (.inr (.inr ⟨rfl, .inl rfl⟩))
        have hcb2 : nn ≠ L2.cb := blk_ne hn3.out.1 (hn3.out.2.2.2 _ rfl).1 ty_ok.c
        go_region_held3 (fun w' => w'.cell? ⟨b, 2, none⟩ = some (.pointer (some ⟨nn, 0, none⟩)) ∧ w'.cell? ⟨nn, 3, none⟩ = some (.pointer (some ⟨L2.cb, 0, none⟩))) ((go_split_ands; refine ⟨?_, ?_⟩ <;> first | assumption | (refine cell_al _ ?_; assumption) | (refine cell_grew hg ?_; assumption) | (refine cell_set ?_ ?_ <;> assumption)))
          ((refine step_append_any rfl (Operand.tmp 101) (Operand.tmp 104) 279 rfl 160 1 8 Try.underlying279 ⟨by kernel_rfl, by kernel_rfl, by kernel_rfl⟩ _ 0 0 [] (by rfl) (Row.empty (by first | exact blk_two _ rfl | exact blk_last (by simp))) rfl _ 2 2 [ptr n, ptr m] (by rfl) rfl (fun j u hj => new_cells (cs := [ptr n, ptr m]) (by first | exact blk_two _ rfl | exact blk_last (by simp)) j u hj) (by intro u hu; simp at hu; rcases hu with rfl | rfl <;> rfl) (by omega) (by omega) (by simp [maxLen]) (by omega) ?_; intro a' cap' w1 hg; have cm1 := cell_grew hg (cell_al _ (cell_al _ g1)); have fz1 := (fz_grew hg (fz_al _ (fz_al _ hcbw fz0).1 (fz_al _ hcbw fz0).2).1 (fz_al _ (fz_al _ hcbw fz0).1 (fz_al _ hcbw fz0).2).2).2))
        all_goals
          go_wp2_with fail
          go_meet
          obtain ⟨hk1, hf1⟩ := hg.fresh (w := wc) ((((Keep.refl _ _).al _).al _).dr)
          simp only [Nat.mul_one] at hf1
          exact ⟨_, nk_fresh ty_ok hn3.out rfl (Keep.refl _ wc) hk1 (new := [n, m]) hg.row hg.cap hf1⟩
      case rest =>
        obtain ⟨L4, nt⟩ := hcut
        have O4 := Lib.hid (O3.out.nt 1 rfl nt)
        clear nt O3 hn3
        simp only [List.set] at O4
        go_upto_region 16 with (fail)
        have hn4 := Lib.hid (O4.out.node_ 1 rfl)
        go_cut [] (fun wx => ∃ L', NTurn TT E wc nn ⟨hr.iso, 0, [], some [n, m]⟩ L4 wx ⟨hr.iso, 0, [med], some [n, m]⟩ L')
        case first =>
          have c2 := hdr_root (O4.out.blk_ 0 rfl : Hdr wc b { hr with root := some nn })
          simp only [rootV, Option.map_some] at c2
          have M4 := HL.out wc O4.out.keep p _ (by have := hpq.out; omega) M0.out
          have cm : wc.cell? ⟨p, 0, none⟩ = some (kv (ky med)) := by simp only [World.cell?, M4]; rfl
          unfold kv at cm
          obtain ⟨d0, d1, g1, d3, fz⟩ := hn4.out.own
          clear d0 d1 d3 M4
          have hcbw := lt_of_cell g1
          have fz0 := fz 2
          have hb1 : b ≠ nn := fun e => O4.out.apart 0 1 _ _ (by omega) rfl rfl nn 0 e.symm (.inl rfl)
          have hb2 : p ≠ nn := by have := NW.out; have := SB.out; omega
          go_region_held3 (fun w' => w'.cell? ⟨b, 2, none⟩ = some (.pointer (some ⟨nn, 0, none⟩)) ∧ w'.cell? ⟨p, 0, none⟩ = some (.string (ky med))) ((go_split_ands; refine ⟨?_, ?_⟩ <;> first | assumption | (refine cell_al _ ?_; assumption) | (refine cell_grew hg ?_; assumption) | (refine cell_set ?_ ?_ <;> assumption)))
            ((refine step_append_any rfl (Operand.tmp 111) (Operand.tmp 113) 273 rfl 140 1 16 Try.underlying273 ⟨by kernel_rfl, by kernel_rfl, by kernel_rfl⟩ _ 0 0 [] (by rfl) (Row.empty (by first | exact blk_two _ rfl | exact blk_last (by simp))) rfl _ 1 1 (E.enc med) (by rfl) (E.len _) (fun j u hj => new_cells (cs := E.enc med) (by first | exact blk_two _ rfl | exact blk_last (by simp)) j u hj) (E.one _) (by omega) (by omega) (by simp [maxLen]) (by omega) ?_; intro a' cap' w1 hg; have cm1 := cell_grew hg (cell_al _ (cell_al _ g1)); have fz1 := (fz_grew hg (fz_al _ (fz_al _ hcbw fz0).1 (fz_al _ hcbw fz0).2).1 (fz_al _ (fz_al _ hcbw fz0).1 (fz_al _ hcbw fz0).2).2).2))
          all_goals
            go_wp2_with fail
            go_meet
            obtain ⟨hk1, hf1⟩ := hg.fresh (w := wc) ((((Keep.refl _ _).al _).al _).dr)
            have hrw := hg.row
            simp only [List.nil_append] at hrw
            exact ⟨_, nt_fresh ty_ok hn4.out (Keep.refl _ wc) hk1 (its := [med]) (by simp only [Enc.all, List.flatMap_cons, List.flatMap_nil, List.append_nil]; exact hrw) hg.cap hf1⟩
        case rest =>
          obtain ⟨L5, nt⟩ := hcut
          have O5 := Lib.hid (O4.out.nt 1 rfl nt)
          clear nt O4 hn4
          simp only [List.set] at O5
          obtain ⟨_, rl, el, _, _, ecl⟩ := HA2.out.rl.root
          obtain ⟨_, rr, er, _, _, ecr⟩ := HA2.out.rr.root
          have hm5 : Mem TT E wc H' L' := (HA2.out.ts.mem.keepS KB.out fun _ _ _ _ _ _ h => h).keepS O5.out.keep fun a q c o hq hf hs => hs.elim (fun ⟨_, _, h, _⟩ => by cases h) (HA2.out.local a q c o hq hf)
          have hnl : n < WB.heap.size := (HA2.out.ts.mem.keepS KB.out fun _ _ _ _ _ _ h => h).lt el
          have hml : m < WB.heap.size := (HA2.out.ts.mem.keepS KB.out fun _ _ _ _ _ _ h => h).lt er
          have hfl : ((flat h t).length : Int) = rl.cnt + rr.cnt + 1 := by rw [HA2.out.fl, ecl, ecr]; simp; omega
          have hup := Lib.hid (updateCount_any (O5.out.node_ 1 rfl) (by simp) (cntOf H') (fun ks hks => by
            obtain rfl : [n, m] = ks := Option.some.inj hks
            have := HBIG.out
            refine ⟨by simp, by simp [cntOf, el, er]; omega, fun k hk => ?_⟩
            simp only [List.mem_cons, List.not_mem_nil, or_false] at hk
            have := NW.out
            rcases hk with rfl | rfl
            · exact ⟨by omega, by simp [cntOf, el]; omega, by rw [(hm5.at_ _ _ el).own.2.1]; simp [cntOf, el]⟩
            · exact ⟨by omega, by simp [cntOf, er]; omega, by rw [(hm5.at_ _ _ er).own.2.1]; simp [cntOf, er]⟩))
          have hcn : Hid ((1 : Int) + kidSum (cntOf H') (some [n, m]) = ((flat h t).length : Int)) := by
            show (1 : Int) + ([n, m].map (cntOf H')).sum = _
            simp [cntOf, el, er]; omega
          clear el er ecl ecr hm5 hnl hml hfl
          have c2 := hdr_root (O5.out.blk_ 0 rfl : Hdr wc b { hr with root := some nn })
          simp only [rootV, Option.map_some] at c2
          unfold ptr at hup
          go_wp2_with fail
          refine hup.out.mono ?_
          intro e we hpo
          have hat := upd_node (O5.out.node_ 1 rfl) hpo
          obtain ⟨rfl, hku, _⟩ := hpo
          have O6 := Lib.hid (O5.out.turn 1 rfl (r' := .node nn ⟨hr.iso, ((flat h t).length : Int), [med], some [n, m]⟩ L5) (hku.mono fun _ _ _ h => .inl h.1) (by have h2 := hcn.out; rw [← h2]; exact hat) (fun _ _ _ h => h))
          clear hat hku O5 hup c2 hcn
          simp only [List.set] at O6
          obtain ⟨H2, L6, F2', ts, T2, fl2, clr⟩ := HA2.out.tree HT.out KB.out HR.out O6.out NW.out
          have TS := Lib.hid ts
          have TT2 := Lib.hid T2
          have FL := Lib.hid fl2
          have CLR := Lib.hid clr
          have X6 := Lib.hid (HL.out we O6.out.keep (q + 2) _ (by omega) X0.out)
          have Y6 := Lib.hid (HL.out we O6.out.keep (q + 1) _ (by omega) Y0.out)
          have hset := Lib.hid (set_plain TT2.out (by rw [FL.out]; exact HBIG.out) x (fun a => by have := a.full; have := HT.out.par.odd; have := HT.out.par.pos; simp [Tr.its] at *; omega))
          clear ts T2 fl2 clr O6 X0
          have kx : we.cell? ⟨q + 1 + 1, 0, none⟩ = some (.string (ky x)) := by have := X6.out; simp only [World.cell?, this]; rfl
          have f0 : (partAt ⟨q + 1 + 1, 0, none⟩ 0 0).run Try.prog we = .ok ⟨q + 1 + 1, 0, none⟩ we := run_part0 (sz := 1) (n := 1) (by have := X6.out; simp only [World.shape?, this]; rfl) (by kernel_rfl) (by omega) (by kernel_rfl)
          unfold ptr kv vv at hset
          go_wp2_with fail
          refine hset.out.mono ?_
          rintro e w' ⟨hr', H'', L'', F'', s', pp, rfl, ts5, T5, put, i1, i2, i3, i4⟩
          have Y7 : w'.heap[q + 1]? = some (.cells #[] 138 (0, 0)) := ts5.blk TT2.out.mem Y6.out (fun o e => by omega) (fun a r o ha hf => CLR.out a r _ o ha hf (by have := XQ.out; omega))
          unfold vv
          simp only at i1 i2 i3
          replace Y7 := Lib.hid Y7
          go_wp2_with fail
          refine bodyPost_ret (results_cell_tmp_row rfl _ _ (q + 1) 138 #[] (0, 0) _ rfl Y7.out Try.underlying138 rfl (by kernel_rfl)) rfl ?_
          simp only [its] at put
          rw [FL.out] at put
          exact ⟨hr', H'', L'', F'', s', pp, rfl, TS.out.then HT.out.mem ts5, T5, put, i1, i2, i3, i4⟩

/-- SETTING IN A TREE. -/
theorem set_tree {w : World} {b : Nat} {hr : HRec} {H : Store It} {L : Nat → Lay} {F : List Nat} {mn mx : Nat} {s : Sh} (T : TreeAt w b hr H L F mn mx s) (big : (its s).length ≤ 3000000000000000000) (x : It) :
    Calls Try.prog 175 #[ptr b, kv (ky x), vv x] w (SetT w b hr H L F mn mx s x) := by
  cases s with
  | none => exact set_nil T x
  | some p =>
    obtain ⟨h, t⟩ := p
    by_cases ha : Asks mx h t (ky x)
    · exact set_split T big x ha
    · exact set_plain T big x ha
end Go.Proofs.Ytfikahgofapobaa.T

namespace Go.Proofs.Ytfikahgofapobaa.T
open Go.RowKit Go.Wb

/-- What is handed from a tree to a growing slice of keys. -/
def KeysPost (B : Nat) (w : World) (xs : List Ky) (e : Ending) (w' : World) : Prop := ∃ a cap, e = .returned (.slice a xs.length cap) ∧ Acc B w' 9 1 a xs.length cap (xs.map kv) ∧ Keep (fun b _ => B ≤ b) w w'

theorem wl_succ {α : Type} (K : List (List α)) (I : List α) (i : Nat) {k : List α} {x : α} (hk : K[i]? = some k) (hx : I[i]? = some x) : wl (K.take (i + 1)) (I.take (i + 1)) = wl (K.take i) (I.take i) ++ k ++ [x] := by
  induction i generalizing K I with
  | zero =>
    cases K with
    | nil => simp at hk
    | cons a K => cases I with
      | nil => simp at hx
      | cons b I => simp at hk hx; subst hk; subst hx; simp [wl]
  | succ i ih =>
    cases K with
    | nil => simp at hk
    | cons a K => cases I with
      | nil => simp at hx
      | cons b I =>
        simp only [List.take_succ_cons, wl, List.cons_append, List.append_assoc]
        rw [ih K I (by simpa using hk) (by simpa using hx)]
        simp
theorem wl_last {α : Type} {h : Nat} {its : List α} {ks : List (Tr α)} (hl : ks.length = its.length + 1) {k : Tr α} (hk : ks[its.length]? = some k) : flat (h + 1) (.node its ks) = wl ((ks.map (flat h)).take its.length) its ++ flat h k := by
  obtain ⟨hlt, rfl⟩ := List.getElem?_eq_some_iff.1 hk
  have e : ks = ks.take its.length ++ ks[its.length] :: [] := by
    have := List.take_append_drop its.length ks
    rw [List.drop_eq_getElem_cons hlt, List.drop_eq_nil_of_le (by omega)] at this
    exact this.symm
  have h1 := wl_wr ((ks.take its.length).map (flat h)) its (flat h ks[its.length]) [] [] (by simp; omega)
  simp only [List.append_nil, wr] at h1
  simp only [flat, Tr.its, Tr.ks]
  conv => lhs; rw [e]
  rw [List.map_append, List.map_cons, List.map_nil, h1, List.map_take]

theorem elemK : Elem Try.prog 9 1 16 := ⟨by kernel_rfl, by kernel_rfl, by kernel_rfl⟩

/-- The key's cell of an item of a node. -/
theorem node_key {w : World} {n : Nat} {r : NRec It} {L : Lay} (hn : NodeAt TT E w n r L) {i : Nat} {x : It} (hi : r.items[i]? = some x) : ∃ ib io, L.ia = some ⟨ib, io, none⟩ ∧
    w.cell? ⟨ib, io + i, none⟩ = some (kv (ky x)) := by
  obtain ⟨hil, _⟩ := List.getElem?_eq_some_iff.1 hi
  have hrow := hn.2.1
  obtain ⟨ib, io, hia, _⟩ := hrow.form (by rw [E.all_len]; exact Nat.mul_pos (by omega) E.pos)
  rw [hia] at hrow
  exact ⟨ib, io, hia, key_cell hrow hi⟩

set_option maxRecDepth 100000 in
set_option maxHeartbeats 4000000 in
theorem keys_leaf {w0 : World} {n : Nat} {r : NRec It} {L : Lay} (hn : NodeAt TT E w0 n r L) (hlf : r.kids = none) (hlen : r.items.length ≤ 1000000000000) (B : Nat) (hB : B = w0.heap.size) {w : World} (hK : Keep (fun b _ => B ≤ b) w0 w) {a : Option Addr} {cap : Nat} {xs : List Ky}
    (hA : Acc B w 9 1 a xs.length cap (xs.map kv)) (hb : xs.length + r.items.length ≤ 4000000000000) :
    Calls Try.prog 182 #[ptr n, .slice a xs.length cap] w (KeysPost B w (xs ++ r.items.map ky)) := by
  have HN := Lib.hid hn
  have HB0 := Lib.hid hB
  have HK := Lib.hid hK
  have HA := Lib.hid hA
  have nodeat : Hid (∀ W, Keep (fun b _ => B ≤ b) w0 W → NodeAt TT E W n r L) := by
    exact fun W k => hn.keep k fun b o hf h => by have := hn.lt hf; omega
  have hlv := leaf_any (nodeat.out w hK)
  rw [hlf] at hlv
  simp only [Option.isNone_none] at hlv
  clear hn hlf hK hA hB
  unfold ptr at *
  go_enter Try.func182, Try.ntmps182
  go_wp2_with fail
  refine hlv.mono ?_
  rintro e w1 ⟨rfl, rfl⟩
  clear hlv
  go_wp2_with fail
  go_loopg [1, 5] (r.items.length + 1) (fun k v1 v5 wr => ∃ (i : Nat) (a' : Option Addr) (cap' : Nat), v5 = .int .i64 i ∧ v1 = .slice a' (xs.length + i) cap' ∧ i ≤ r.items.length ∧ i + k = r.items.length + 1 ∧ Keep (fun b _ => B ≤ b) w wr ∧ Acc B wr 9 1 a' (xs.length + i) cap' ((xs ++ (r.items.take i).map ky).map kv))
  case atStart => exact ⟨0, a, cap, rfl, rfl, by omega, by omega, Keep.refl _ _, by simpa using HA.out⟩
  case round =>
    obtain ⟨i, a1, cap1, rfl, rfl, hil, hik, hK1, hA1⟩ := hrel
    have HK1 := Lib.hid hK1
    have HA1 := Lib.hid hA1
    have N1 := Lib.hid (nodeat.out wr (HK.out.trans hK1 fun _ _ _ h => h))
    obtain ⟨d0, d1, c2, d3, fz⟩ := N1.out.own
    clear d0 d1 d3 hK1 hA1
    by_cases hlt : i < r.items.length
    · have hx : r.items[i]? = some r.items[i] := List.getElem?_eq_getElem hlt
      have HX := Lib.hid hx
      obtain ⟨ib, io, hia, ck⟩ := node_key N1.out hx
      rw [hia] at c2
      generalize r.items[i] = x at *
      have hBw : B ≤ wr.heap.size := by have := HB0.out; have := HK.out.size; have := HK1.out.size; omega
      clear hx hia
      unfold kv at ck
      go_wp2_with (at_builtin; refine wpList_append_any rfl _ _ _ rfl 9 1 16 Try.underlying22 elemK a1 (xs.length + i) cap1 _ rfl (HA1.out.quiet (Keep.alloc _ _ _)).row HA1.out.len ⟨wr.heap.size, 0, none⟩ 1 1 [kv (ky x)] rfl rfl (new_cells (heap_alloc_new wr _)) (by intro u hu; rw [List.mem_singleton.1 hu]; rfl) (by omega) HA1.out.le (by simp only [maxLen]; omega) (by omega) ?_; intro a2 cap2 w2 hg)
      obtain ⟨hA2, hK2⟩ := (HA1.out.quiet (Keep.alloc _ _ _)).grow (by simp; omega) hg rfl
      have HA2 := Lib.hid hA2
      have HK2 : Hid (Keep (fun b _ => B ≤ b) w w2) := by exact (HK1.out.al _).trans hK2 fun _ _ _ h => h
      clear hg hA2 hK2 ck c2 fz
      go_wp2_with fail
      go_roundg (r.items.length - i)
      case measure => omega
      case rel =>
        refine ⟨i + 1, a2, cap2, by go_num, by simp [Nat.add_assoc], by omega, by omega, HK2.out, ?_⟩
        have e : (xs ++ (r.items.take (i + 1)).map ky).map kv = (xs ++ (r.items.take i).map ky).map kv ++ [kv (ky x)] := by
          rw [List.take_add_one, HX.out]; simp
        rw [e]
        exact HA2.out
    · have hi : i = r.items.length := by omega
      subst hi
      go_wp2_with fail
      go_ret
      refine ⟨a1, cap1, by simp, ?_, HK1.out⟩
      have := HA1.out
      rw [List.take_of_length_le (Nat.le_refl _)] at this
      simpa using this

set_option maxRecDepth 100000 in
set_option maxHeartbeats 8000000 in
theorem keys_inner {w0 : World} {n h : Nat} {r : NRec It} {L : Lay} (hn : NodeAt TT E w0 n r L) {ns : List Nat} (hkd : r.kids = some ns) {ks : List (Tr It)} (hks : ks.length = r.items.length + 1) (hnl : ns.length = ks.length) (hlen : r.items.length ≤ 1000000000000) (B : Nat) (hB : B = w0.heap.size)
    (IH : ∀ (i m : Nat) (k : Tr It) (w : World) (a : Option Addr) (cap : Nat) (xs : List Ky), ns[i]? = some m → ks[i]? = some k → Keep (fun b _ => B ≤ b) w0 w → Acc B w 9 1 a xs.length cap (xs.map kv) → xs.length + (flat h k).length ≤ 4000000000000 →
      Calls Try.prog 182 #[ptr m, .slice a xs.length cap] w (KeysPost B w (xs ++ (flat h k).map ky)))
    {w : World} (hK : Keep (fun b _ => B ≤ b) w0 w) {a : Option Addr} {cap : Nat} {xs : List Ky}
    (hA : Acc B w 9 1 a xs.length cap (xs.map kv)) (hb : xs.length + (flat (h + 1) (.node r.items ks)).length ≤ 4000000000000) :
    Calls Try.prog 182 #[ptr n, .slice a xs.length cap] w (KeysPost B w (xs ++ (flat (h + 1) (.node r.items ks)).map ky)) := by
  have HN := Lib.hid hn
  have HB0 := Lib.hid hB
  have HK := Lib.hid hK
  have HA := Lib.hid hA
  have HI := Lib.hid IH
  have HKD := Lib.hid hkd
  have HKS := Lib.hid hks
  have HNL := Lib.hid hnl
  have nodeat : Hid (∀ W, Keep (fun b _ => B ≤ b) w0 W → NodeAt TT E W n r L) := by
    exact fun W k => hn.keep k fun b o hf h => by have := hn.lt hf; omega
  have hlv := leaf_any (nodeat.out w hK)
  rw [hkd] at hlv
  simp only [Option.isNone_some] at hlv
  have part : Hid (∀ i, i ≤ r.items.length → (wl ((ks.map (flat h)).take i) (r.items.take i)).length ≤ (flat (h + 1) (.node r.items ks)).length ∧ ∀ k, ks[i]? = some k → (wl ((ks.map (flat h)).take i) (r.items.take i)).length + (flat h k).length + (if i < r.items.length then 1 else 0) ≤ (flat (h + 1) (.node r.items ks)).length) := by
    intro i hi
    have hl := (flat_len (h := h) hks)
    have hw : ∀ i, i ≤ r.items.length → (wl ((ks.map (flat h)).take i) (r.items.take i)).length = i + (((ks.map fun k => (flat h k).length)).take i).sum := by
      intro i
      induction i with
      | zero => intro _; simp [wl]
      | succ i ih =>
        intro hi
        have hk : (ks.map (flat h))[i]? = some (flat h (ks[i]'(by omega))) := by rw [List.getElem?_map, List.getElem?_eq_getElem (by omega)]; rfl
        rw [wl_succ _ _ i hk (List.getElem?_eq_getElem (by omega)), List.length_append, List.length_append, ih (by omega), List.take_succ_eq_append_getElem (by simp; omega), List.sum_append]
        simp
        omega
    have hs : ∀ j, (((ks.map fun k => (flat h k).length)).take j).sum ≤ ((ks.map fun k => (flat h k).length)).sum := fun j => by
      have := List.sum_append (l₁ := (ks.map fun k => (flat h k).length).take j) (l₂ := (ks.map fun k => (flat h k).length).drop j)
      rw [List.take_append_drop] at this
      omega
    rw [hw i hi, hl]
    refine ⟨by have := hs i; omega, fun k hk => ?_⟩
    have h1 := hs (i + 1)
    obtain ⟨hkl, rfl⟩ := List.getElem?_eq_some_iff.1 hk
    rw [List.take_succ_eq_append_getElem (by simpa using hkl), List.sum_append] at h1
    simp at h1
    split <;> omega
  clear hn hkd hK hA hB IH hks hnl
  unfold ptr at *
  go_enter Try.func182, Try.ntmps182
  go_wp2_with fail
  refine hlv.mono ?_
  rintro e w1 ⟨rfl, rfl⟩
  clear hlv
  go_wp2_with fail
  go_loopg [1, 6] (r.items.length + 1) (fun k v1 v6 wr => ∃ (i : Nat) (a' : Option Addr) (cap' : Nat) (ys : List Ky), v6 = .int .i64 i ∧ v1 = .slice a' ys.length cap' ∧ i ≤ r.items.length ∧ i + k = r.items.length + 1 ∧ Keep (fun b _ => B ≤ b) w wr ∧ Acc B wr 9 1 a' ys.length cap' (ys.map kv) ∧
    ys = xs ++ (wl ((ks.map (flat h)).take i) (r.items.take i)).map ky)
  case atStart => exact ⟨0, a, cap, xs, rfl, rfl, by omega, by omega, Keep.refl _ _, HA.out, by simp [wl]⟩
  case round =>
    obtain ⟨i, a1, cap1, ys, rfl, rfl, hil, hik, hK1, hA1, hys⟩ := hrel
    have HYS := Lib.hid hys
    have HK1 := Lib.hid hK1
    have HA1 := Lib.hid hA1
    have N1 := Lib.hid (nodeat.out wr (HK.out.trans hK1 fun _ _ _ h => h))
    obtain ⟨d0, d1, c2, d3, fz⟩ := N1.out.own
    obtain ⟨c3, g1, fz2, _, _⟩ := N1.out.kids HKD.out
    unfold ptr at c3
    have hkl : ks[i]? = some (ks[i]'(by have := HKS.out; omega)) := List.getElem?_eq_getElem _
    have hnl : ns[i]? = some (ns[i]'(by have := HKS.out; have := HNL.out; omega)) := List.getElem?_eq_getElem _
    have hrow := (N1.out.2.2.2 ns HKD.out).2.1
    obtain ⟨kb, ko, hka, _⟩ := hrow.form (by simp; have := HKS.out; have := HNL.out; omega)
    rw [hka] at hrow g1
    have ck := hrow.cell (i := i) (v := ptr (ns[i]'(by have := HKS.out; have := HNL.out; omega))) (by simp [hnl])
    have hylen : ys.length = xs.length + (wl ((ks.map (flat h)).take i) (r.items.take i)).length := by rw [hys]; simp
    have HYL := Lib.hid hylen
    have hnsl : i < ns.length := (List.getElem?_eq_some_iff.1 hnl).1
    generalize ns[i]'(by have := HKS.out; have := HNL.out; omega) = m at *
    generalize ks[i]'(by have := HKS.out; omega) = k at *
    obtain ⟨p1, p2⟩ := part.out i hil
    have p3 := p2 k hkl
    have HKL := Lib.hid hkl
    have HMN := Lib.hid hnl
    unfold ptr at ck
    clear d0 d1 d3 hK1 hA1 hys hrow hka hkl hnl hylen p1 p2
    by_cases hlt : i < r.items.length
    · have hx : r.items[i]? = some r.items[i] := List.getElem?_eq_getElem hlt
      have HX := Lib.hid hx
      generalize r.items[i] = x at *
      rw [if_pos hlt] at p3
      have hcall := Lib.hid (HI.out i m k wr a1 cap1 ys HMN.out HKL.out (HK.out.trans HK1.out fun _ _ _ h => h) HA1.out (by have := HYL.out; omega))
      clear hx
      unfold ptr at hcall
      go_wp2_with fail
      refine hcall.out.mono ?_
      rintro e w2 ⟨a2, cap2, rfl, hA2, hK2⟩
      have HA2 := Lib.hid hA2
      have HK2 : Hid (Keep (fun b _ => B ≤ b) w w2) := by exact HK1.out.trans hK2 fun _ _ _ h => h
      have HL2 : Hid ((ys ++ (flat h k).map ky).length + 1 ≤ 4000000000000) := Lib.hid (by have := HYL.out; simp; omega)
      clear hA2 hK2 hcall N1 c2 fz c3 g1 fz2 ck
      generalize hz : ys ++ (flat h k).map ky = zs at *
      have HZ := Lib.hid hz
      have N2 := Lib.hid (nodeat.out w2 (HK.out.trans HK2.out fun _ _ _ h => h))
      obtain ⟨d0, d1, c2, d3, fz⟩ := N2.out.own
      obtain ⟨ib, io, hia, ck⟩ := node_key N2.out HX.out
      rw [hia] at c2
      have hBw : B ≤ w2.heap.size := by have := HB0.out; have := HK.out.size; have := HK2.out.size; omega
      unfold kv at ck
      have hl2 := HL2.out
      clear d0 d1 d3 hia hz
      go_wp2_with (at_builtin; refine wpList_append_any rfl _ _ _ rfl 9 1 16 Try.underlying22 elemK a2 zs.length cap2 _ rfl (HA2.out.quiet (Keep.alloc _ _ _)).row HA2.out.len ⟨w2.heap.size, 0, none⟩ 1 1 [kv (ky x)] rfl rfl (new_cells (heap_alloc_new w2 _)) (by intro u hu; rw [List.mem_singleton.1 hu]; rfl) (by omega) HA2.out.le (by simp only [maxLen]; omega) (by omega) ?_; intro a3 cap3 w3 hg)
      obtain ⟨hA3, hK3⟩ := (HA2.out.quiet (Keep.alloc _ _ _)).grow (by simp; omega) hg rfl
      have HA3 := Lib.hid hA3
      have HK3 : Hid (Keep (fun b _ => B ≤ b) w w3) := by exact (HK2.out.al _).trans hK3 fun _ _ _ h => h
      clear hg hA3 hK3 ck c2 fz
      go_wp2_with fail
      go_roundg (r.items.length - i)
      case measure => omega
      case rel =>
        refine ⟨i + 1, a3, cap3, zs ++ [ky x], by go_num, by simp, by omega, by omega, HK3.out, ?_, ?_⟩
        · simpa using HA3.out
        · rw [wl_succ _ _ i (k := flat h k) (by simp [HKL.out]) HX.out, ← HZ.out, HYS.out]
          simp
    · have hi : i = r.items.length := by omega
      subst hi
      have hcall := Lib.hid (HI.out _ m k wr.drew a1 cap1 ys HMN.out HKL.out ((HK.out.trans HK1.out fun _ _ _ h => h).dr) (HA1.out.quiet (Keep.drew _ _)) (by have := HYL.out; omega))
      unfold ptr at hcall
      rw [HNL.out, HKS.out] at g1
      go_wp2_with fail
      refine wp_calm (by kernel_rfl) (by kernel_rfl) rfl ?_
      simp only [List.flatMap_cons, List.flatMap_nil, checks, chk, nilLit, List.cons_append, List.nil_append, List.append_nil]
      go_wp2_with fail
      refine hcall.out.mono ?_
      rintro e w2 ⟨a2, cap2, rfl, hA2, hK2⟩
      have HA2 := Lib.hid hA2
      have HK2 : Hid (Keep (fun b _ => B ≤ b) w w2) := by exact HK1.out.dr.trans hK2 fun _ _ _ h => h
      clear hA2 hK2 hcall N1 c2 fz c3 g1 fz2 ck
      go_wp2_with fail
      rw [HQ_normal]
      go_wp2_with fail
      go_ret
      have e : ys ++ (flat h k).map ky = xs ++ (flat (h + 1) (.node r.items ks)).map ky := by
        rw [wl_last HKS.out HKL.out, HYS.out, List.take_of_length_le (Nat.le_refl _)]
        simp
      rw [← e]
      exact ⟨a2, cap2, by simp, HA2.out, HK2.out⟩

/-- THE KEYS below a node. -/
theorem keys_any {w0 : World} {H : Store It} {L : Nat → Lay} {c : Int} {mn mx : Nat} (hm : Mem TT E w0 H L) (hmx : mx ≤ 1000000000000) (B : Nat) (hB : B = w0.heap.size) : ∀ (h l n : Nat) (t : Tr It) (F : List Nat), Rep H c h n t F → wfr l mn mx h t → ∀ (w : World), Keep (fun b _ => B ≤ b) w0 w → ∀ (a : Option Addr) (cap : Nat) (xs : List Ky),
    Acc B w 9 1 a xs.length cap (xs.map kv) → xs.length + (flat h t).length ≤ 4000000000000 → Calls Try.prog 182 #[ptr n, .slice a xs.length cap] w (KeysPost B w (xs ++ (flat h t).map ky))
  | 0, l, n, t, F, hr, wf, w, hK, a, cap, xs, hA, hb => by
    obtain ⟨r, h1, h2, h3, h4, h5, h6, _⟩ := hr
    obtain ⟨its, ks⟩ := t
    simp only [Tr.its, flat] at *
    subst h3
    exact keys_leaf (hm.at_ n r h1) h5 (by have := wf.2.1; simp only [Tr.its] at this; omega) B hB hK hA hb
  | h + 1, l, n, t, F, hr, wf, w, hK, a, cap, xs, hA, hb => by
    obtain ⟨r, ns, F', h1, h2, h3, h4, h5, h6, _⟩ := hr
    obtain ⟨w1, w2, w3, w4⟩ := wf
    obtain ⟨its, ks⟩ := t
    simp only [Tr.its, Tr.ks] at *
    subst h3
    refine keys_inner (hm.at_ n r h1) h4 w3 h6.len (by omega) B hB (fun i m k w a cap xs hm1 hk hK hA hb => ?_) hK hA hb
    obtain ⟨G, hR⟩ := h6.get hm1 hk
    exact keys_any hm hmx B hB h mn m k G hR (w4 k (List.mem_of_getElem? hk)) w hK a cap xs hA hb
end Go.Proofs.Ytfikahgofapobaa.T

namespace Go.Proofs.Ytfikahgofapobaa.T
open Go.RowKit Go.Wb

theorem len_any {w : World} {b : Nat} {hr : HRec} (hh : Hdr w b hr) : Calls Try.prog 181 #[ptr b] w fun e w' => e = .returned (.int .i64 hr.cnt) ∧ w = w' := by
  have c3 := hdr_cnt hh
  clear hh
  unfold ptr
  go_enter Try.func181, Try.ntmps181
  go_wp2
  go_ret
  exact ⟨rfl, rfl⟩

/-- What Keys returns: a slice of its own of the keys. -/
def NewKeys (w : World) (xs : List Ky) (e : Ending) (w' : World) : Prop := ∃ a cap, e = .returned (.slice a xs.length cap) ∧ Acc w.heap.size w' 9 1 a xs.length cap (xs.map kv) ∧ Keep Nothing w w'

set_option maxRecDepth 100000 in
set_option maxHeartbeats 4000000 in
theorem mapKeys_any {w : World} {b : Nat} {hr : HRec} {H : Store It} {L : Nat → Lay} {F : List Nat} {mn mx : Nat} {s : Sh} (T : TreeAt w b hr H L F mn mx s) (hb : (its s).length ≤ 4000000000000) :
    Calls Try.prog 134 #[ptr b] w (NewKeys w ((its s).map ky)) := by
  have HT := Lib.hid T
  have hln := len_any T.hdr
  rw [T.cnt] at hln
  obtain ⟨cs, hcs, hmk⟩ := run_make0 (P := Try.prog) 22 9 1 16 Try.underlying22 elemK 0 (its s).length (by omega) (by omega) (by omega)
  have hmk' : ∀ w, (Instr.makeSlice 22 (.int .i64 0) (.int .i64 ((its s).length : Int))).run Try.prog w = .ok (.slice (some ⟨w.heap.size, 0, none⟩) 0 (its s).length) (w.alloc (.cells cs 9)) := fun w => hmk w
  have HCS := Lib.hid hcs
  clear hmk hcs T
  unfold ptr at *
  go_enter Try.func134, Try.ntmps134
  go_wp2_with fail
  refine hln.mono ?_
  rintro e w1 ⟨rfl, rfl⟩
  go_upto_region 2 with (fail)
  refine wp_world ?_
  intro W1 hW1
  have K1 : Hid (Keep Nothing w W1) := by subst hW1; exact (Keep.refl _ _).al _
  have KB1 : Hid (Keep (fun b _ => w.heap.size ≤ b) w W1) := by exact K1.out.mono fun _ _ _ h => h.elim
  have A1 : Hid (Acc w.heap.size W1 9 1 (some ⟨w.heap.size, 0, none⟩) 0 (its s).length []) := by
    subst hW1
    exact ⟨.inr ⟨_, 0, cs, rfl, heap_alloc_new w _, by simp, by rw [HCS.out]; omega, by simp⟩, rfl, Nat.zero_le _, fun c o hf => Nat.le_of_eq (rowFp_some hf).1.symm⟩
  have H1 : Hid (Hdr W1 b hr) := by exact blk_keep HT.out.hdr K1.out fun _ h => h
  clear hW1 hmk' hln
  have c2 := hdr_root H1.out
  have fz := hdr_fz H1.out
  cases s with
  | none =>
    obtain ⟨hroot, _⟩ := HT.out.root
    rw [hroot] at c2
    simp only [rootV, Option.map_none] at c2
    clear hroot
    go_wp2_with fail
    go_ret
    exact ⟨_, _, rfl, A1.out, K1.out⟩
  | some p =>
    obtain ⟨h, t⟩ := p
    obtain ⟨n, hroot, rep, wf⟩ := HT.out.root
    rw [hroot] at c2
    simp only [rootV, Option.map_some] at c2
    have hcall := Lib.hid (keys_any HT.out.mem HT.out.par.hb w.heap.size rfl h 1 n t F rep wf W1 KB1.out _ _ [] A1.out (by simpa [its] using hb))
    clear hroot rep wf
    unfold ptr at hcall
    go_wp2_with fail
    refine hcall.out.mono ?_
    rintro e w2 ⟨a, cap, rfl, hA, hK⟩
    have HA := Lib.hid hA
    have HK := Lib.hid hK
    clear hA hK hcall c2 fz
    go_wp2_with fail
    go_ret
    exact ⟨a, cap, by simp [its], by simpa [its] using HA.out, (KB1.out.trans HK.out fun _ _ _ h => h).mono fun b o hb h => by omega⟩
end Go.Proofs.Ytfikahgofapobaa.T

namespace Go.Proofs.Ytfikahgofapobaa.T
open Go.RowKit Go.Wb

/-- A tree that was made since w. -/
structure NewTree (w w' : World) (b : Nat) (hr : HRec) (H : Store It) (L : Nat → Lay) (F : List Nat) (mn mx : Nat) (s : Sh) : Prop where
  tree : TreeAt w' b hr H L F mn mx s
  keep : Keep Nothing w w'
  head : w.heap.size ≤ b
  nodes : ∀ m r c o, H m = some r → fp TT m r (L m) c o → w.heap.size ≤ c

theorem NewTree.step {w wr w' : World} {b : Nat} {hr hr' : HRec} {H H' : Store It} {L L' : Nat → Lay} {F F' : List Nat} {mn mx : Nat} {s s' : Sh} (h : NewTree w wr b hr H L F mn mx s) (ts : TStep TT E (fun c _ => c = b) wr H L F w' H' L' F') (T : TreeAt w' b hr' H' L' F' mn mx s') : NewTree w w' b hr' H' L' F' mn mx s' := by
  refine ⟨T, h.keep.trans ts.keep fun c o hc hs => ?_, h.head, fun m r c o hr hf => ?_⟩
  · rcases hs with ⟨m, r, _, hr, hf⟩ | rfl
    · have := h.nodes m r c o hr hf; omega
    · have := h.head; omega
  · rcases ts.only m r hr with h1 | ⟨_, h2, h3⟩
    · rcases Nat.lt_or_ge c wr.heap.size with hc | hc
      · obtain ⟨k, q, _, hq, hfq⟩ := ts.fp c o hc ⟨m, r, h1, hr, hf⟩
        exact h.nodes k q c o hq hfq
      · exact Nat.le_trans h.keep.size hc
    · rw [h3] at hf
      exact h.nodes m r c o h2 hf

theorem NewTree.calm {w wr w' : World} {b : Nat} {hr : HRec} {H : Store It} {L : Nat → Lay} {F : List Nat} {mn mx : Nat} {s : Sh} (h : NewTree w wr b hr H L F mn mx s) (hk : Keep Nothing wr w') : NewTree w w' b hr H L F mn mx s :=
  ⟨h.tree.keep hk, h.keep.trans hk fun _ _ _ h => h, h.head, h.nodes⟩

def zeroHdr : HRec := ⟨0, none, none, 0, (⟨#[]⟩ : ByteArray), 0, 0, false, false⟩
theorem mem_empty (w : World) (L : Nat → Lay) : Mem TT E w (fun _ => none) L := ⟨fun n r h => (by cases h), fun n m r q _ h => (by cases h)⟩
/-- A zero tree. -/
theorem newTree_zero {w : World} {b : Nat} (hb : Hdr w b zeroHdr) {w0 : World} (hk : Keep Nothing w0 w) (h0 : w0.heap.size ≤ b) : NewTree w0 w b zeroHdr (fun _ => none) (fun _ => ⟨none, 0, 0, none, 0⟩) [] 31 63 none :=
  ⟨⟨hb, mem_empty _ _, by simp, ⟨rfl, rfl⟩, rfl, by simp [its, Sorted], ⟨rfl, rfl, .inr ⟨rfl, rfl, rfl, rfl⟩, by omega, by omega, by omega⟩⟩, hk, h0, fun m r c o h => by cases h⟩

end Go.Proofs.Ytfikahgofapobaa.T

namespace Go.Proofs.Ytfikahgofapobaa.T
open Go.RowKit Go.Wb

set_option maxHeartbeats 1000000 in
theorem insert_any {w : World} {b : Nat} {hr : HRec} {H : Store It} {L : Nat → Lay} {F : List Nat} {mn mx : Nat} {s : Sh} (T : TreeAt w b hr H L F mn mx s) (big : (its s).length ≤ 3000000000000000000) (x : It) :
    Calls Try.prog 126 #[ptr b, kv (ky x)] w fun e w' => e = .returned (.tuple #[]) ∧ ∃ hr' H' L' F' s' p, TStep TT E (fun c _ => c = b) w H L F w' H' L' F' ∧ TreeAt w' b hr' H' L' F' mn mx s' ∧ Put ilt (its s) x (its s') p ∧ hr'.iso = hr.iso ∧ hr'.ctr = hr.ctr ∧ hr'.emp = hr.emp := by
  have hset := Lib.hid (set_tree T big x)
  clear T big
  unfold ptr kv vv at *
  go_enter Try.func126, Try.ntmps126
  go_wp2_with fail
  refine hset.out.mono ?_
  rintro e w' ⟨hr', H', L', F', s', p, rfl, h1, h2, h3, h4, h5, h6, _⟩
  go_wp2_with fail
  go_end0
  exact ⟨rfl, hr', H', L', F', s', p, h1, h2, h3, h4, h5, h6⟩

theorem setKeys_any {w : World} {b : Nat} {hr : HRec} {H : Store It} {L : Nat → Lay} {F : List Nat} {mn mx : Nat} {s : Sh} (T : TreeAt w b hr H L F mn mx s) (hb : (its s).length ≤ 4000000000000) :
    Calls Try.prog 81 #[ptr b] w (NewKeys w ((its s).map ky)) := by
  have hk := Lib.hid (mapKeys_any T hb)
  clear T
  unfold ptr at *
  go_enter Try.func81, Try.ntmps81
  go_wp2_with fail
  refine hk.out.mono ?_
  rintro e w' ⟨a, cap, rfl, h1, h2⟩
  go_wp2_with fail
  go_ret
  exact ⟨a, cap, by simp, h1, h2⟩

def GrowPost (w : World) (l : List It) (e : Ending) (w' : World) : Prop := ∃ b hr H L F s, e = .returned (ptr b) ∧ NewTree w w' b hr H L F 31 63 s ∧ its s = l.foldl (putF ilt) []

set_option maxRecDepth 100000 in
set_option maxHeartbeats 4000000 in
theorem grow_any {w : World} {a : Option Addr} {cap : Nat} {l : List It} (hrow : Given w a (l.map fun x => kv (ky x))) (hl : l.length ≤ 4000000000000) :
    Calls Try.prog 68 #[.slice a l.length cap] w (GrowPost w l) := by
  have HR := Lib.hid hrow
  have HL := Lib.hid hl
  clear hrow hl
  go_enter Try.func68, Try.ntmps68
  go_upto_region 2 with (fail)
  refine wp_world ?_
  intro W1 hW1
  have N1 : Hid (NewTree w W1 w.heap.size zeroHdr (fun _ => none) (fun _ => ⟨none, 0, 0, none, 0⟩) [] 31 63 none) := by
    subst hW1
    exact newTree_zero (by have := heap_alloc_new w (.cells (hdrC zeroHdr) 164); exact this) ((Keep.refl _ _).al _) (Nat.le_refl _)
  clear hW1
  generalize w.heap.size = b at *
  go_wp2_with fail
  go_loopg [9] (l.length + 1) (fun k v9 wr => ∃ (i : Nat) (hr : HRec) (H : Store It) (L : Nat → Lay) (F : List Nat) (s : Sh), v9 = .int .i64 i ∧ i ≤ l.length ∧ i + k = l.length + 1 ∧ NewTree w wr b hr H L F 31 63 s ∧ its s = (l.take i).foldl (putF ilt) [])
  case atStart => exact ⟨0, _, _, _, _, _, rfl, by omega, by omega, N1.out, rfl⟩
  case round =>
    obtain ⟨i, hr, H, L, F, s, rfl, hil, hik, hN, hits⟩ := hrel
    have HN := Lib.hid hN
    have HI := Lib.hid hits
    by_cases hlt : i < l.length
    · have hx : l[i]? = some l[i] := List.getElem?_eq_getElem hlt
      have HX := Lib.hid hx
      obtain ⟨x, hxe⟩ : ∃ x, l[i] = x := ⟨_, rfl⟩
      rw [hxe] at hx HX
      obtain ⟨kb, ko, hka, ck⟩ := (HR.out.keep hN.keep).cell (i := i) (by simpa using hlt)
      subst hka
      rw [show (l.map fun x => kv (ky x))[i]'(by simpa using hlt) = kv (ky x) by simp [hxe]] at ck
      clear hxe
      have hll := HL.out
      have hlen : (its s).length ≤ i := by rw [hits]; have := foldl_put_len iord (l.take i) []; simp at this; omega
      have hins := Lib.hid (insert_any hN.tree (by have := HL.out; omega) x)
      unfold kv ptr at *
      clear hN hits hx
      go_wp2_with fail
      refine hins.out.mono ?_
      rintro e w2 ⟨rfl, hr', H', L', F', s', p, h1, h2, h3, _, _, _⟩
      have HN2 := Lib.hid (HN.out.step h1 h2)
      have HP := Lib.hid h3
      clear h1 h2 h3 hins ck
      go_wp2_with fail
      go_roundg (l.length - i)
      case measure => omega
      case rel =>
        refine ⟨i + 1, hr', H', L', F', s', by go_num, by omega, by omega, HN2.out, ?_⟩
        rw [(HP.out.eq iord).1, HI.out, List.take_add_one, HX.out]
        simp
    · have hi : i = l.length := by omega
      subst hi
      go_wp2_with fail
      go_ret
      refine ⟨b, hr, H, L, F, s, rfl, HN.out, ?_⟩
      rw [HI.out, List.take_of_length_le (Nat.le_refl _)]

/-- The keys of what was inserted. -/
def sortK (l : List It) : List It := l.foldl (putF ilt) []
set_option maxHeartbeats 1000000 in
theorem tinsert_any {w : World} {a : Option Addr} {cap : Nat} {l : List It} (hrow : Given w a (l.map fun x => kv (ky x))) (hl : l.length ≤ 4000000000000) :
    Calls Try.prog 28 #[.slice a l.length cap] w (NewKeys w ((sortK l).map ky)) := by
  have hg := Lib.hid (grow_any (cap := cap) hrow hl)
  clear hrow
  go_enter Try.func28, Try.ntmps28
  go_wp2_with fail
  refine hg.out.mono ?_
  rintro e w1 ⟨b, hr, H, L, F, s, rfl, hN, hits⟩
  have hk := Lib.hid (setKeys_any hN.tree (by rw [hits]; have := foldl_put_len iord l []; simp at this; omega))
  have HN := Lib.hid hN
  have HI := Lib.hid hits
  clear hN hits hg
  unfold ptr at *
  go_wp2_with fail
  refine hk.out.mono ?_
  rintro e w2 ⟨a', cap', rfl, h1, h2⟩
  go_wp2_with fail
  go_ret
  rw [HI.out] at h1 ⊢
  refine ⟨a', cap', by simp [sortK], ⟨h1.row, h1.len, h1.le, fun b o hf => Nat.le_trans HN.out.keep.size (h1.own b o hf)⟩, HN.out.keep.trans h2 fun _ _ _ h => h⟩
end Go.Proofs.Ytfikahgofapobaa.T

namespace Go.Proofs.Ytfikahgofapobaa.T
open Go.RowKit Go.Wb

abbrev most : Nat := 2147483647
def fitsB (l : List ByteArray) : Bool := decide (l.length ≤ most) && l.all fun s => decide (s.size ≤ most)
theorem fitsB_true {l : List ByteArray} : fitsB l = true ↔ l.length ≤ most ∧ ∀ (i : Nat) s, l[i]? = some s → s.size ≤ most := by
  simp only [fitsB, Bool.and_eq_true, decide_eq_true_eq, List.all_eq_true]
  exact and_congr_right fun _ => ⟨fun h i s hi => h s (List.mem_of_getElem? hi), fun h s hs => by obtain ⟨i, hi⟩ := List.mem_iff_getElem?.1 hs; exact h i s hi⟩

def Bools (w : World) (b : Bool) (e : Ending) (w' : World) : Prop := e = .returned (.bool b) ∧ w = w'

set_option maxRecDepth 100000 in
set_option maxHeartbeats 1000000 in
theorem fits13_any {w : World} {a : Option Addr} {cap : Nat} {l : List ByteArray} (hg : Given w a (l.map .string)) (hl : l.length ≤ maxLen) :
    Calls Try.prog 15 #[.slice a l.length cap] w (Bools w (fitsB l)) := by
  have HG := Lib.hid hg
  have HL := Lib.hid hl
  simp only [maxLen] at hl
  clear hg
  by_cases hbig : l.length ≤ 2147483647
  · go_enter Try.func15, Try.ntmps15
    go_wp2_with fail
    go_loopg [10] (l.length + 1) (fun k v10 wr => ∃ i : Nat, v10 = .int .i64 i ∧ i ≤ l.length ∧ i + k = l.length + 1 ∧ w = wr ∧ ∀ (j : Nat) (s : ByteArray), j < i → l[j]? = some s → s.size ≤ most)
    case atStart => exact ⟨0, rfl, by omega, by omega, rfl, fun j s h => by omega⟩
    case round =>
      obtain ⟨i, rfl, hil, hik, rfl, hall⟩ := hrel
      have HA := Lib.hid hall
      clear hall
      by_cases hlt : i < l.length
      · obtain ⟨kb, ko, hka, ck⟩ := HG.out.cell (i := i) (by simpa using hlt)
        subst hka
        obtain ⟨s, hs⟩ : ∃ s, l[i] = s := ⟨_, rfl⟩
        rw [show (l.map Value.string)[i]'(by simpa using hlt) = .string s by simp [hs]] at ck
        have hx : l[i]? = some s := by rw [← hs]; exact List.getElem?_eq_getElem hlt
        have HX := Lib.hid hx
        clear hs hx
        by_cases hsz : s.size ≤ 2147483647
        · go_wp2_with fail
          go_roundg (l.length - i)
          case measure => omega
          case rel =>
            refine ⟨i + 1, by go_num, by omega, by omega, rfl, fun j s' hj hs' => ?_⟩
            by_cases hji : j = i
            · subst hji
              have := HX.out
              rw [hs'] at this
              cases this
              exact hsz
            · exact HA.out j s' (by omega) hs'
        · go_wp2_with fail
          go_ret
          have : fitsB l = false := by
            rw [← Bool.not_eq_true, fitsB_true]
            exact fun h => hsz (h.2 i s HX.out)
          rw [this]
          exact ⟨rfl, rfl⟩
      · have hi : i = l.length := by omega
        subst hi
        go_wp2_with fail
        go_ret
        have : fitsB l = true := fitsB_true.2 ⟨hbig, fun i s hs => HA.out i s (List.getElem?_eq_some_iff.1 hs).1 hs⟩
        rw [this]
        exact ⟨rfl, rfl⟩
  · go_enter Try.func15, Try.ntmps15
    go_wp2
    go_ret
    have : fitsB l = false := by
      rw [← Bool.not_eq_true, fitsB_true]
      exact fun h => hbig h.1
    rw [this]
    exact ⟨rfl, rfl⟩

/-- A law that holds. -/
def TruePost (w : World) (e : Ending) (w' : World) : Prop := e = .returned (.bool true) ∧ Keep Nothing w w'

/-- aliveT: at a set of two strings. -/
theorem aliveT_any (w : World) : Calls Try.prog 18 #[] w fun e w' => e = .returned (.bool true) ∧ Keep Nothing w w' := by
  have hK : ∀ W a cap l, Given W a (l.map fun x => kv (ky x)) → l.length ≤ 4000000000000 → Calls Try.prog 28 #[.slice a l.length cap] W (NewKeys W ((sortK l).map ky)) := fun W a cap l h1 h2 => tinsert_any h1 h2
  have HK := Lib.hid hK
  clear hK
  go_enter Try.func18, Try.ntmps18
  go_wp2_with fail
  refine (HK.out _ _ 3 [⟨#[98]⟩, ⟨#[97]⟩, ⟨#[98]⟩] (.inr ⟨_, 0, rfl, fun i v hi => by
    rw [Nat.zero_add]
    have := heap_alloc_new w (.cells #[.string ⟨#[98]⟩, .string ⟨#[97]⟩, .string ⟨#[98]⟩] 9)
    simp only [World.cell?, this]
    have e : (#[Value.string ⟨#[98]⟩, .string ⟨#[97]⟩, .string ⟨#[98]⟩] : Array Value)[i]? = some v := by have h2 := hi; simp only [List.map_cons, List.map_nil, kv, ky] at h2; simpa using h2
    rw [e]; rfl⟩) (by simp)).mono ?_
  rintro e w' ⟨a, cap, rfl, hA, hk⟩
  have hlen : ((sortK [(⟨#[98]⟩ : ByteArray), ⟨#[97]⟩, ⟨#[98]⟩]).map ky).length = 2 := by kernel_rfl
  rw [hlen]
  go_wp2_with fail
  go_ret
  exact ⟨rfl, ((Keep.refl _ _).al _).trans hk fun _ _ _ h => h⟩
end Go.Proofs.Ytfikahgofapobaa.T

namespace Go.Proofs.Ytfikahgofapobaa.T
open Go.RowKit Go.Wb

/-- Is a text among others? -/
def hasB (l : List ByteArray) (v : ByteArray) : Bool := l.any fun s => v.toList == s.toList
def IndexPost (w : World) (l : List ByteArray) (v : ByteArray) (e : Ending) (w' : World) : Prop := w = w' ∧ ∃ r : Int, e = .returned (.int .i64 r) ∧ r ≤ 9223372036854775807 ∧ -9223372036854775808 ≤ r ∧ (hasB l v = true → 0 ≤ r) ∧ (hasB l v = false → r = -1)

set_option maxRecDepth 100000 in
set_option maxHeartbeats 1000000 in
theorem index_any {w : World} {a : Option Addr} {cap : Nat} {l : List ByteArray} (v : ByteArray) (hg : Given w a (l.map .string)) (hl : l.length ≤ maxLen) :
    Calls Try.prog 70 #[.slice a l.length cap, .string v] w (IndexPost w l v) := by
  have HG := Lib.hid hg
  simp only [maxLen] at hl
  clear hg
  go_enter Try.func70, Try.ntmps70
  go_wp2_with fail
  go_loopg [8] (l.length + 1) (fun k v8 wr => ∃ i : Nat, v8 = .int .i64 i ∧ i ≤ l.length ∧ i + k = l.length + 1 ∧ w = wr ∧ ∀ (j : Nat) (s : ByteArray), j < i → l[j]? = some s → (v.toList == s.toList) = false)
  case atStart => exact ⟨0, rfl, by omega, by omega, rfl, fun j s h => by omega⟩
  case round =>
    obtain ⟨i, rfl, hil, hik, rfl, hall⟩ := hrel
    have HA := Lib.hid hall
    clear hall
    by_cases hlt : i < l.length
    · obtain ⟨kb, ko, hka, ck⟩ := HG.out.cell (i := i) (by simpa using hlt)
      subst hka
      obtain ⟨s, hs⟩ : ∃ s, l[i] = s := ⟨_, rfl⟩
      rw [show (l.map Value.string)[i]'(by simpa using hlt) = .string s by simp [hs]] at ck
      have hx : l[i]? = some s := by rw [← hs]; exact List.getElem?_eq_getElem hlt
      have HX := Lib.hid hx
      clear hs hx
      cases hvs : (v.toList == s.toList) with
      | true =>
        go_wp2_with fail
        go_ret
        have h : hasB l v = true := List.any_eq_true.2 ⟨s, List.mem_of_getElem? HX.out, hvs⟩
        exact ⟨rfl, i, rfl, by omega, by omega, (fun _ => by omega), (fun h2 => by rw [h] at h2; cases h2)⟩
      | false =>
        go_wp2_with fail
        go_roundg (l.length - i)
        case measure => omega
        case rel =>
          refine ⟨i + 1, by go_num, by omega, by omega, rfl, fun j s' hj hs' => ?_⟩
          by_cases hji : j = i
          · subst hji
            have := HX.out
            rw [hs'] at this
            cases this
            exact hvs
          · exact HA.out j s' (by omega) hs'
    · have hi : i = l.length := by omega
      subst hi
      go_wp2_with fail
      go_ret
      have h : hasB l v = false := by
        rw [hasB, List.any_eq_false]
        intro s hs
        obtain ⟨j, hj⟩ := List.mem_iff_getElem?.1 hs
        rw [HA.out j s (List.getElem?_eq_some_iff.1 hj).1 hj]
        simp
      exact ⟨rfl, -1, rfl, by omega, by omega, (fun h2 => by rw [h] at h2; cases h2), fun _ => rfl⟩

theorem contains_any {w : World} {a : Option Addr} {cap : Nat} {l : List ByteArray} (v : ByteArray) (hg : Given w a (l.map .string)) (hl : l.length ≤ maxLen) :
    Calls Try.prog 17 #[.slice a l.length cap, .string v] w (Bools w (hasB l v)) := by
  have hi := Lib.hid (index_any (cap := cap) v hg hl)
  clear hg
  cases h : hasB l v with
  | true =>
    rw [show IndexPost w l v = fun e w' => IndexPost w l v e w' from rfl] at hi
    go_enter Try.func17, Try.ntmps17
    go_wp2_with fail
    refine hi.out.mono ?_
    rintro e w1 ⟨rfl, r, rfl, h1, h2, h3, h4⟩
    have h5 := h3 h
    clear h3 h4 hi
    go_wp2_with fail
    go_ret
    exact ⟨by simp, rfl⟩
  | false =>
    go_enter Try.func17, Try.ntmps17
    go_wp2_with fail
    refine hi.out.mono ?_
    rintro e w1 ⟨rfl, r, rfl, h1, h2, h3, h4⟩
    obtain rfl := h4 h
    clear h3 h4 hi
    go_wp2_with fail
    go_ret
    exact ⟨rfl, rfl⟩

theorem hasB_of {l : List ByteArray} {v s : ByteArray} (hs : s ∈ l) (h : v.toList = s.toList) : hasB l v = true := List.any_eq_true.2 ⟨s, hs, by simp [h]⟩
theorem sortK_has {l : List ByteArray} {v : ByteArray} (h : v ∈ l) : hasB (sortK l) v = true := by
  have key : ∀ (xs acc : List ByteArray), (∃ z ∈ acc, z.toList = v.toList) ∨ v ∈ xs → ∃ z ∈ xs.foldl (putF ilt) acc, z.toList = v.toList := by
    intro xs
    induction xs with
    | nil => intro acc h; exact h.resolve_right (by simp)
    | cons x xs ih =>
      intro acc h
      refine ih _ ?_
      have put : ∀ z, z ∈ acc ∨ z = x → ∃ z' ∈ putF ilt acc x, z'.toList = z.toList := fun z hz => by
        obtain ⟨z', h1, h2, h3⟩ := putF_has iord (l := acc) (x := x) (y := z) hz
        exact ⟨z', h1, bytesLess_tri _ _ h2 h3⟩
      rcases h with ⟨z, hz, e⟩ | h
      · obtain ⟨z', h1, h2⟩ := put z (.inl hz)
        exact .inl ⟨z', h1, h2.trans e⟩
      · rcases List.mem_cons.1 h with rfl | h
        · obtain ⟨z', h1, h2⟩ := put v (.inr rfl)
          exact .inl ⟨z', h1, h2⟩
        · exact .inr h
  obtain ⟨z, hz, e⟩ := key l [] (.inr h)
  exact hasB_of hz e.symm
theorem sortK_from {l : List ByteArray} {v : ByteArray} (h : v ∈ sortK l) : hasB l v = true := by
  rcases mem_foldl_put h with h | h
  · cases h
  · exact hasB_of h rfl
end Go.Proofs.Ytfikahgofapobaa.T

namespace Go.Proofs.Ytfikahgofapobaa.T
open Go.RowKit Go.Wb

/-- An item of a key. -/
def itOf (k : Ky) : It := k
/-- The item of a key. -/
def findK (l : List It) (k : Ky) : Option It := l.find? fun x => !klt (ky x) k && !klt k (ky x)
theorem findK_less {l : List It} {k : Ky} (h : ∀ a ∈ l, klt (ky a) k = true) : findK l k = none := List.find?_eq_none.2 fun a ha => by simp [h a ha]
theorem findK_more {l : List It} {k : Ky} (h : ∀ a ∈ l, klt k (ky a) = true) : findK l k = none := List.find?_eq_none.2 fun a ha => by simp [h a ha]
theorem findK_append (l m : List It) (k : Ky) : findK (l ++ m) k = (findK l k).or (findK m k) := List.find?_append
theorem findK_mid {A B : List It} {k : Ky} {y : It} (hA : ∀ a ∈ A, klt (ky a) k = true) (h1 : klt (ky y) k = false) (h2 : klt k (ky y) = false) : findK (A ++ y :: B) k = some y := by
  rw [findK_append, findK_less hA]
  simp [findK, h1, h2]

theorem find_leaf {its : List It} {k : Ky} {i : Nat} (h : Loc its k i false) : findK its k = none := by
  obtain ⟨h1, h2⟩ := loc_none h
  rw [← List.take_append_drop i its, findK_append, findK_less h1, findK_more h2]
  rfl
theorem find_own {l mn mx h : Nat} {t : Tr It} (wf : wfr l mn mx h t) (hs : Sorted ilt (flat h t)) {k : Ky} {i : Nat} (hl : Loc t.its k i true) {y : It} (hy : t.its[i]? = some y) : findK (flat h t) k = some y := by
  obtain ⟨A, y', B, e, hA, hy', h1, h2, hlA, hlB⟩ := loc_found (own_sorted wf hs) hl
  rw [hy] at hy'
  cases hy'
  have key : ∃ C D, flat h t = C ++ y :: D := by
    cases h with
    | zero => exact ⟨A, B, e⟩
    | succ h =>
      obtain ⟨its, ks⟩ := t
      simp only [Tr.its] at e
      subst e
      obtain ⟨C, D, hCD⟩ := flat_item (h := h) (A := A) (B := B) (y := y) (ks := ks) wf.2.2.1
      exact ⟨C, D, hCD y⟩
  obtain ⟨C, D, e2⟩ := key
  rw [e2] at hs ⊢
  obtain ⟨_, _, hC⟩ := Sorted.of_append hs
  exact findK_mid (fun a ha => klt_of_eq h1 h2 (hC a ha y (by simp))) h1 h2
theorem find_child {l mn mx h : Nat} {t : Tr It} (wf : wfr l mn mx (h + 1) t) (hs : Sorted ilt (flat (h + 1) t)) {k : Ky} {i : Nat} (hl : Loc t.its k i false) {c : Tr It} (hc : t.ks[i]? = some c) :
    findK (flat (h + 1) t) k = findK (flat h c) k ∧ Sorted ilt (flat h c) ∧ wfr mn mn mx h c := by
  obtain ⟨w1, w2, w3, w4⟩ := wf
  obtain ⟨its, ks⟩ := t
  simp only [Tr.its, Tr.ks] at *
  obtain ⟨hil, _⟩ := List.getElem?_eq_some_iff.1 hc
  obtain ⟨K1, c', K2, rfl, hK1, hc'⟩ := split_at ks i hil
  rw [hc] at hc'
  cases hc'
  obtain ⟨lA, lB⟩ := loc_none hl
  have e : its.take i ++ its.drop i = its := List.take_append_drop _ _
  have hi := hl.1
  simp only [List.length_append, List.length_cons] at w3
  have this := flat_around (lt := ilt) (x := itOf k) iord (h := h) (I1 := its.take i) (I2 := its.drop i) (K1 := K1) (K2 := K2) (k := c) (by simp; omega) (by simp; omega) (by rw [e]; exact hs) lA lB
  rw [e] at this
  obtain ⟨C, D, e2, hC, hD⟩ := this
  rw [e2 c] at hs ⊢
  refine ⟨?_, hs.mid, w4 c (by simp)⟩
  have hC' : findK C k = none := findK_less hC
  have hD' : findK D k = none := findK_more hD
  rw [findK_append, findK_append, hC', hD']
  cases findK (flat h c) k <;> rfl

/-- The value's cell of an item. -/
theorem val_cell {w : World} {ib io cap : Nat} {its : List It} (_ : Row w TT.pair TT.s (some ⟨ib, io, none⟩) cap (E.all its)) {j : Nat} {x : It} (_ : its[j]? = some x) : True := trivial
def GetPost (w : World) (p : Option It) (ep : It) (e : Ending) (w' : World) : Prop := e = .returned (.tuple #[vv (p.getD ep), .bool p.isSome]) ∧ Keep Nothing w w'

set_option maxRecDepth 100000 in
set_option maxHeartbeats 4000000 in
theorem get_any {w : World} {b : Nat} {hr : HRec} {H : Store It} {L : Nat → Lay} {F : List Nat} {mn mx : Nat} {s : Sh} (T : TreeAt w b hr H L F mn mx s) (k : Ky) :
    Calls Try.prog 176 #[ptr b, kv k, .bool false] w (GetPost w (findK (its s) k) hr.emp) := by
  have HT := Lib.hid T
  have hbw := lt_of_heap T.hdr
  clear T
  unfold ptr kv at *
  cases s with
  | none =>
    obtain ⟨hroot, _⟩ := HT.out.root
    have HR := Lib.hid hroot
    clear hroot
    go_enter Try.func176, Try.ntmps176
    go_upto_region 1 with (fail)
    refine wp_world ?_
    intro W1 hW1
    have K1 : Hid (Keep Nothing w W1) := by
      subst hW1; exact (Keep.refl _ _).al _
    have Y1 : Hid (W1.heap[w.heap.size]? = some (.cells #[] 138 (0, 0))) := by subst hW1; exact heap_alloc_new w _
    clear hW1
    have H1 : Hid (Hdr W1 b hr) := by exact blk_keep HT.out.hdr K1.out fun _ h => h
    have c2 := hdr_root H1.out
    rw [HR.out] at c2
    simp only [rootV, Option.map_none] at c2
    have fz := hdr_fz H1.out
    have he := hdr_emp H1.out
    have f0 := field0_hdr H1.out
    go_wp2_with fail
    refine bodyPost_ret (results_cell_tmp_row rfl _ _ w.heap.size 138 #[] (0, 0) _ rfl Y1.out Try.underlying138 rfl (by kernel_rfl)) rfl ?_
    exact ⟨rfl, K1.out⟩
  | some p =>
    obtain ⟨h0, t0⟩ := p
    obtain ⟨n0, hroot, rep, wf⟩ := HT.out.root
    obtain ⟨_, r0, e0, i0, _, _⟩ := rep.root
    have HR := Lib.hid hroot
    have HREP := Lib.hid rep
    have HWF := Lib.hid wf
    have hat0 : Hid (∀ W, Keep Nothing w W → NodeAt TT E W n0 r0 (L n0)) := by exact fun W hK => (HT.out.mem.at_ n0 r0 e0).keep hK fun _ _ _ h => h
    have HI0 := Lib.hid i0
    clear hroot rep wf e0 i0
    go_enter Try.func176, Try.ntmps176
    go_upto_region 1 with (fail)
    refine wp_world ?_
    intro W1 hW1
    generalize hq : w.heap.size = q at *
    have K1 : Hid (Keep Nothing w W1) := by
      subst hW1; exact (Keep.refl _ _).al _
    have Y1 : Hid (W1.heap[q]? = some (.cells #[] 138 (0, 0))) := by subst hW1; subst hq; exact heap_alloc_new w _
    clear hW1 hq
    have H1 : Hid (Hdr W1 b hr) := by exact blk_keep HT.out.hdr K1.out fun _ h => h
    have c2 := hdr_root H1.out
    have hc2 := Lib.hid c2
    rw [HR.out] at c2 hc2
    simp only [rootV, Option.map_some] at c2 hc2
    have fz := hdr_fz H1.out
    have hiso := Lib.hid (isoLoad_own H1.out hc2.out (hat0.out W1 K1.out) HI0.out false)
    unfold ptr at hiso
    go_wp2_with fail
    refine hiso.out.mono ?_
    rintro e w2 ⟨rfl, kd, rfl⟩
    have K2 : Hid (Keep Nothing w (W1.drewN kd)) := by exact K1.out.drN kd
    have Y2 : Hid ((W1.drewN kd).heap[q]? = some (.cells #[] 138 (0, 0))) := by exact Y1.out
    clear hiso c2 hc2 fz H1 K1
    clear Y1
    generalize W1.drewN kd = W2 at *
    unfold ptr
    go_wp2_with fail
    go_loopg [8] (h0 + 1) (fun m v8 wr => ∃ (h l n : Nat) (t : Tr It) (G : List Nat), v8 = .pointer (some ⟨n, 0, none⟩) ∧ h + 1 = m ∧ Keep Nothing w wr ∧ Rep H hr.iso h n t G ∧ wfr l mn mx h t ∧ Sorted ilt (flat h t) ∧ findK (flat h0 t0) k = findK (flat h t) k
      ∧ wr.heap[q]? = some (.cells #[] 138 (0, 0))
      )
    case atStart => exact ⟨h0, 1, n0, t0, F, rfl, rfl, K2.out, HREP.out, HWF.out, HT.out.srt, rfl, Y2.out⟩
    case round =>
      obtain ⟨h, l, n, t, G, rfl, rfl, hKr, hrep, hwf, hsrt, hfd, hYr⟩ := hrel
      have HKr := Lib.hid hKr
      have HRr := Lib.hid hrep
      have HWr := Lib.hid hwf
      have HSr := Lib.hid hsrt
      have HFr := Lib.hid hfd
      have HYr := Lib.hid hYr
      clear hYr
      clear hKr hrep hwf hsrt hfd
      obtain ⟨_, r, er, ir, itr, _⟩ := HRr.out.root
      have N1 := Lib.hid ((HT.out.mem.at_ n r er).keep HKr.out fun _ _ _ h => h)
      have hsr : Sorted ilt r.items := by rw [itr]; exact own_sorted HWr.out HSr.out
      have hlr : r.items.length ≤ 1000000000000 := by rw [itr]; have := HWr.out.own_le.2; have := HT.out.par.hb; omega
      obtain ⟨i, f, hloc⟩ := Loc.ex k r.items hsr
      have hse := Lib.hid (search_loc (tr := ptr b) N1.out hlr hsr hloc)
      have HER := Lib.hid er
      have HIT := Lib.hid itr
      have HIR := Lib.hid ir
      have HLOC := Lib.hid hloc
      clear er itr hsr ir hloc
      unfold ptr kv at hse
      go_wp2_with fail
      refine hse.out.mono ?_
      rintro e w3 ⟨rfl, kd3, rfl⟩
      have K3 : Hid (Keep Nothing w (wr.drewN kd3)) := by exact HKr.out.drN kd3
      have Y3 : Hid ((wr.drewN kd3).heap[q]? = some (.cells #[] 138 (0, 0))) := by exact HYr.out
      clear hse N1 HKr
      clear HYr
      generalize wr.drewN kd3 = W3 at *
      have N3 := Lib.hid ((HT.out.mem.at_ n r HER.out).keep K3.out fun _ _ _ h => h)
      obtain ⟨d0, d1, c2, d3, fz⟩ := N3.out.own
      clear d0 d1 d3
      cases f with
      | true =>
        obtain ⟨_, y, hy, _, _⟩ := id HLOC.out
        have HY := Lib.hid hy
        obtain ⟨hil, _⟩ := List.getElem?_eq_some_iff.1 hy
        have hrow := N3.out.2.1
        obtain ⟨ib, io, hia, _⟩ := hrow.form (by rw [E.all_len]; exact Nat.mul_pos (by omega) E.pos)
        rw [hia] at c2 hrow
        have f0 := elem0 (i := i) hrow
        have cv := val_cell hrow hy
        have fz2 := hrow.frozen
        have hfind : findK (its (some (h0, t0))) k = some y := by
          show findK (flat h0 t0) k = some y
          rw [HFr.out]
          have hl2 := HLOC.out
          rw [HIT.out] at hl2
          exact find_own HWr.out HSr.out hl2 (by rw [← HIT.out]; exact HY.out)
        have HFI := Lib.hid hfind
        clear hy hrow hia hfind
        go_wp2_with fail
        refine bodyPost_ret (results_cell_tmp_row rfl _ _ q 138 #[] (0, 0) _ rfl Y3.out Try.underlying138 rfl (by kernel_rfl)) rfl ?_
        exact ⟨by rw [HFI.out]; rfl, K3.out⟩
      | false =>
        have hlv := Lib.hid (leaf_any N3.out)
        unfold ptr at hlv
        cases h with
        | zero =>
          obtain ⟨r', e1, _, _, _, hkn, _, _⟩ := HRr.out
          rw [HER.out] at e1
          cases e1
          rw [hkn] at hlv
          simp only [Option.isNone_none] at hlv
          have H3 : Hid (Hdr W3 b hr) := by exact blk_keep HT.out.hdr K3.out fun _ h => h
          have he := hdr_emp H3.out
          have fzh := hdr_fz H3.out
          have f0 := field0_hdr H3.out
          have hfind : findK (its (some (h0, t0))) k = none := by
            show findK (flat h0 t0) k = none
            rw [HFr.out]
            show findK t.its k = none
            rw [← HIT.out]
            exact find_leaf HLOC.out
          have HFI := Lib.hid hfind
          clear hkn hfind
          go_wp2_with fail
          refine hlv.out.mono ?_
          rintro e w4 ⟨rfl, rfl⟩
          go_wp2_with fail
          refine bodyPost_ret (results_cell_tmp_row rfl _ _ q 138 #[] (0, 0) _ rfl Y3.out Try.underlying138 rfl (by kernel_rfl)) rfl ?_
          exact ⟨by rw [HFI.out]; rfl, K3.out⟩
        | succ h =>
          obtain ⟨r', ns, F', e1, _, _, hkn, _, hrl, _⟩ := HRr.out
          rw [HER.out] at e1
          cases e1
          rw [hkn] at hlv
          simp only [Option.isNone_some] at hlv
          obtain ⟨c3, g1, fz3, hrow, _⟩ := N3.out.kids hkn
          unfold ptr at c3
          have wl := HWr.out.2.2.1
          have hil : i < t.ks.length := by have := HLOC.out.1; rw [HIT.out] at this; omega
          have hck : t.ks[i]? = some t.ks[i] := List.getElem?_eq_getElem hil
          have hcn : ns[i]? = some (ns[i]'(by rw [hrl.len]; exact hil)) := List.getElem?_eq_getElem _
          obtain ⟨G', hR'⟩ := hrl.get hcn hck
          have hl2 := HLOC.out
          rw [HIT.out] at hl2
          obtain ⟨q1, q2, q3⟩ := find_child HWr.out HSr.out hl2 hck
          obtain ⟨kb, ko, hka, _⟩ := hrow.form (by simp; have := hrl.len; omega)
          rw [hka] at hrow g1
          have hnl : i < ns.length := by rw [hrl.len]; exact hil
          generalize ns[i]'(by rw [hrl.len]; exact hil) = m at *
          generalize t.ks[i] = c at *
          have ck := hrow.cell (i := i) (v := ptr m) (by simp [hcn])
          obtain ⟨_, rm, em, im, _, _⟩ := hR'.root
          have H3 : Hid (Hdr W3 b hr) := by exact blk_keep HT.out.hdr K3.out fun _ h => h
          have hiso2 := Lib.hid (isoLoad_own H3.out ck ((HT.out.mem.at_ m rm em).keep K3.out fun _ _ _ h => h) im false)
          have Q1 := Lib.hid q1
          have Q2 := Lib.hid q2
          have Q3 := Lib.hid q3
          have HR' := Lib.hid hR'
          unfold ptr at hiso2
          clear hkn hrl wl hck hcn hR' hl2 q1 q2 q3 hrow hka ck em im
          go_wp2_with fail
          refine hlv.out.mono ?_
          rintro e w4 ⟨rfl, rfl⟩
          go_wp2_with fail
          refine hiso2.out.mono ?_
          rintro e w5 ⟨rfl, kd5, rfl⟩
          unfold ptr
          go_wp2_with fail
          go_roundg (h + 1)
          case measure => omega
          case rel => exact ⟨h, mn, m, c, G', rfl, rfl, K3.out.drN kd5, HR'.out, Q3.out, Q2.out, HFr.out.trans Q1.out, Y3.out⟩

set_option maxHeartbeats 1000000 in
theorem mapGet_any {w : World} {b : Nat} {hr : HRec} {H : Store It} {L : Nat → Lay} {F : List Nat} {mn mx : Nat} {s : Sh} (T : TreeAt w b hr H L F mn mx s) (k : Ky) :
    Calls Try.prog 127 #[ptr b, kv k] w (GetPost w (findK (its s) k) hr.emp) := by
  have hg : ∀ W, Keep Nothing w W → Calls Try.prog 176 #[ptr b, kv k, .bool false] W (GetPost W (findK (its s) k) hr.emp) := fun W hK => get_any (T.keep hK) k
  have HG := Lib.hid hg
  clear hg T
  generalize findK (its s) k = p at *
  unfold ptr kv at *
  go_enter Try.func127, Try.ntmps127
  go_upto_region 1 with (fail)
  refine wp_world ?_
  intro W1 hW1
  have K1 : Hid (Keep Nothing w W1) := by
    subst hW1; exact (Keep.refl _ _).al _
  have Y1 : Hid (W1.heap[w.heap.size]? = some (.cells #[] 138 (0, 0))) := by subst hW1; exact heap_alloc_new w _
  clear hW1
  go_wp2_with fail
  refine (HG.out W1 K1.out).mono ?_
  rintro e w2 ⟨rfl, hK2⟩
  have K2 : Hid (Keep Nothing w w2) := by exact K1.out.trans hK2 fun _ _ _ h => h
  have Y2 := Lib.hid (blk_keep Y1.out hK2 fun _ h => h)
  clear hK2
  unfold vv
  go_wp2_with fail
  refine bodyPost_ret (results_cell_tmp_row rfl _ _ w.heap.size 138 #[] (0, 0) _ rfl Y2.out Try.underlying138 rfl (by kernel_rfl)) rfl ?_
  exact ⟨rfl, K2.out⟩
end Go.Proofs.Ytfikahgofapobaa.T
