/- Part 1 of the texts for the statement FnExactWDeleteAtSaid: the package's tree of maps and sets, its functions' contracts. -/
import Derived.Test.YtckplcmieelmpaaGXA
import Derived.Test.YtckplcmieelmpaaGYA
import Derived.Test.YtckplcmieelmpaaGZA
import Derived.Deep.RegionHeld3
import Derived.Deep.DeepCutAuto
import Derived.Laws.EntriesVeiled
import Derived.Deep.QuietTactic
import Derived.BigQuiet
namespace Go.Proofs.Ytckplcmieelmpaa.W
open Go.RowKit Go.Wb

/-- What the split of a child leaves. -/
def Halves (H : Store It) (L : Nat → Lay) (c : Nat) (rc : NRec It) (iso : Int) (i : Nat) (m : Nat) (med : It) (W W' : World) : Prop :=
  rc.items[i]? = some med ∧ W.heap.size ≤ m ∧ ∃ L', Step TT E W H L [c] W' (upd (upd H c (some (halfL H iso rc i))) m (some (halfR H iso rc i))) L' [c, m]

theorem split_step {w : World} {b c : Nat} {hr : HRec} {H : Store It} {L : Nat → Lay} {h : Nat} {k : Tr It} {Fk : List Nat} {mn mx : Nat} (hdr : Hdr w b hr) (mem : Mem TT E w H L) (hmx : hr.mx = (mx : Int)) (h3 : 3 ≤ mx) (hb : mx ≤ 1000000000000)
    {l : Nat} (rk : Rep H hr.iso h c k Fk) (wk : wfr l mn mx h k) (ndk : Fk.Nodup) (hl : k.its.length = mx) (big : (flat h k).length ≤ 3000000000000000000) {rc : NRec It} (hrc : H c = some rc) :
    Calls Try.prog 125 #[ptr b, ptr c] w fun e W' => ∃ m med, e = .returned (.tuple #[ptr m, pv med]) ∧ Keep (fp TT c rc (L c)) w W' ∧ Halves H L c rc hr.iso (mx / 2) m med w W' := by
  obtain ⟨_, q, e1, hci, hits, _⟩ := rk.root
  rw [hrc] at e1
  cases e1
  refine (split_any (i := mx / 2) hdr (mem.at_ c rc hrc) hmx (by rw [hits]; exact hl) h3 hb rfl (cntOf H) fun ks hks => ?_).mono ?_
  · obtain ⟨o1, o2, o3⟩ := rk.kids_ok wk ndk hrc hks
    refine ⟨by omega, by omega, fun a ha => ?_⟩
    obtain ⟨p1, p2, q, p3, p4⟩ := o3 a ha
    exact ⟨p1, p2, q, _, mem.at_ a q p3, p4⟩
  · intro e W' hp
    unfold SplitPost at hp
    rw [hci] at hp
    obtain ⟨m, L1, L2, med, h1, rfl, h2, h4, h5, h6, h7, h8, h9⟩ := hp
    exact ⟨m, med, rfl, h4, h1, h2, _, Step.two mem hrc h2 h4 h5 h6 h7 h8 h9⟩

/-- What the second call leaves. -/
def RetryR (H : Store It) (L : Nat → Lay) (F : List Nat) (iso : Int) (mn mx h n : Nat) (t : Tr It) (x ep : It) (_m : Nat) (_med : It) (W _W' _W2 : World) (_L2 : Lay) (e : Ending) (W3 : World) : Prop :=
  ∃ p t' F' H' L', e = .returned (.tuple #[vv (Option.getD p ep), .bool p.isSome, .bool false]) ∧ Step TT E W H L F W3 H' L' F' ∧ Rep H' iso h n t' F' ∧ F'.Nodup ∧ wfr t.its.length mn mx h t' ∧ Put ilt (flat h t) x (flat h t') p

/-- Where a key belongs behind a split. -/
theorem loc_split {its : List It} {k : Ky} {i : Nat} (hloc : Loc its k i false) {med : It} (hs : Sorted ilt (its.take i ++ med :: its.drop i)) {j : Nat} (h : Loc (its.take i ++ med :: its.drop i) k j false) : j = i ∨ j = i + 1 := by
  obtain ⟨lA, lB⟩ := loc_none hloc
  have hil := hloc.1
  have hA : (its.take i).length = i := by simp; omega
  have mk : ∀ (A B : List It) (l : List It), A ++ B = l → (∀ a ∈ A, klt (ky a) k = true) → (∀ b ∈ B, klt k (ky b) = true) → Loc l k A.length false := by
    rintro A B l rfl h1 h2
    refine ⟨by simp, fun j y hj hy => ?_, fun j y hj hy => ?_⟩
    · rw [List.getElem?_append_left hj] at hy
      exact h1 y (List.mem_of_getElem? hy)
    · rw [List.getElem?_append_right hj] at hy
      exact h2 y (List.mem_of_getElem? hy)
  cases h1 : klt k (ky med) with
  | true =>
    have := mk (its.take i) (med :: its.drop i) _ rfl lA (fun b hb => by
      rcases List.mem_cons.1 hb with rfl | hb
      · exact h1
      · exact lB b hb)
    rw [hA] at this
    exact .inl (Loc.uniq hs h this).1
  | false =>
    cases h2 : klt (ky med) k with
    | true =>
      have := mk (its.take i ++ [med]) (its.drop i) (its.take i ++ med :: its.drop i) (by simp) (fun a ha => by
        rcases List.mem_append.1 ha with ha | ha
        · exact lA a ha
        · obtain rfl := List.mem_singleton.1 ha; exact h2) lB
      rw [List.length_append, hA] at this
      exact .inr (Loc.uniq hs h this).1
    | false =>
      have : Loc (its.take i ++ med :: its.drop i) k i true := ⟨by simp; omega, med, by rw [List.getElem?_append_right (by omega), hA]; simp, h1, h2⟩
      have := (Loc.uniq hs h this).2
      cases this

/-- Setting below: the child is full, the node is not. -/
theorem set_succ_retry {w : World} {b : Nat} {hr : HRec} {pb po n : Nat} {H : Store It} {L : Nat → Lay} {h : Nat} {t : Tr It} {F : List Nat} {mn mx : Nat} (P : SetPre w b hr pb po n H L (h + 1) t F mn mx) (x : It) {i : Nat} (hloc : Loc t.its (ky x) i false)
    {k : Tr It} (hk : t.ks[i]? = some k) (hfull : t.its.length ≠ mx) (ha : Asks mx h k (ky x))
    (IH : ∀ (k : Tr It) (w : World) (pb po n : Nat) (H : Store It) (L : Nat → Lay) (F : List Nat), SetPre w b hr pb po n H L h k F mn mx → Calls Try.prog 124 #[ptr b, .pointer (some ⟨pb, po, none⟩), pv x] w (SetPost w H L F hr.iso mn mx h n k x hr.emp)) :
    Calls Try.prog 124 #[ptr b, .pointer (some ⟨pb, po, none⟩), pv x] w (SetPost w H L F hr.iso mn mx (h + 1) n t x hr.emp) := by
  obtain ⟨r, N1, N2, c, K1, K2, F1, Fk, F2, A⟩ := around_of P.rep P.wf hk
  have hat := P.mem.at_ n r A.rec_
  have ht := A.tq
  have hits : t.its = r.items := by rw [ht]; rfl
  have hs : Sorted ilt r.items := by rw [← hits]; exact own_sorted P.wf P.srt
  have hlen : r.items.length ≤ 1000000000000 := by have := P.hb; have := A.le; omega
  obtain ⟨kb, ko, hka, _⟩ := ((hat.2.2.2 _ A.kids).2.1).form (by simp; omega)
  have hc : (N1 ++ c :: N2)[i]? = some c := by rw [← A.ln]; simp
  have lr := A.lr
  have lk := A.lk
  have ln := A.ln
  have ln2 := A.ln2
  have h3 := P.h3
  have hb := P.hb
  have hmn := P.hmn
  rw [hits] at hloc hfull
  obtain ⟨lA, lB⟩ := loc_none hloc
  have hI : r.items.take i ++ r.items.drop i = r.items := List.take_append_drop _ _
  have hIl : (r.items.take i).length = i := by rw [List.length_take]; omega
  have hIr : (r.items.drop i).length = K2.length := by rw [List.length_drop]; omega
  have et : t = .node (r.items.take i ++ r.items.drop i) (K1 ++ k :: K2) := by rw [hI]; exact ht
  obtain ⟨C, D, hCD, _, _⟩ := flat_around (lt := ilt) (x := x) iord (h := h) (I1 := r.items.take i) (I2 := r.items.drop i) (K1 := K1) (K2 := K2) (k := k) (by omega) (by omega) (by rw [← et]; exact P.srt) lA lB
  have srt := P.srt
  have big := P.big
  have nd := P.nd
  rw [et, hCD] at srt big
  rw [A.Fq] at nd
  have hnF := List.nodup_cons.1 nd
  have nd2 := List.nodup_append.1 hnF.2
  have nd1 := List.nodup_append.1 nd2.1
  have old : ∀ m, m ∈ n :: (F1 ++ Fk ++ F2) → m < w.heap.size := fun m hm => P.bnd m (by rw [A.Fq]; exact hm)
  obtain ⟨hcF, rc, hrc, hci, hcits, _⟩ := A.rk.root
  have hkfull := ha.full
  have hi2 : mx / 2 < k.its.length := by omega
  refine (set_inner_retry P.hdr P.cell hat A.isoq hlen hs hloc (by rw [P.hmx]; exact fun e => hfull (by omega)) A.kids hka hc (by simp; omega) (Halves H L c rc hr.iso (mx / 2)) (RetryR H L F hr.iso mn mx (h + 1) n t x hr.emp) (fun W hK => ?_) (fun W hK => ?_) (fun W m med W' W2 Ln pq hK hG hMid hpq hcell hHdr => ?_)).mono ?_
  · refine (IH k W kb (ko + i) c H L Fk (P.child A.rec_ A.kids hka hc A.rk nd1.2.1 A.wk srt.mid (by simp at big; omega) hK)).mono ?_
    rintro e W' (⟨_, h2⟩ | ⟨h1, _⟩)
    · exact h2
    · exact absurd ha h1
  · have memW := P.mem.keepS hK (fun _ _ _ _ _ _ h => h)
    have hdrW := blk_keep P.hdr hK fun _ h => h
    refine (split_step hdrW memW P.hmx P.h3 P.hb A.rk A.wk nd1.2.1 hkfull (by simp at big; omega) hrc).mono ?_
    rintro e W' ⟨m, med, rfl, h4, hH⟩
    refine ⟨m, med, rfl, h4.mono fun a o _ hf => (P.mem.at_ c rc hrc).lt hf, ?_, ?_, hH⟩
    · exact (memW.at_ n r A.rec_).keep h4 fun a o hf hg => P.mem.sep n c r rc (fun e => hnF.1 (by rw [e]; simp [hcF])) A.rec_ hrc a o hf hg
    · exact blk_keep hdrW h4 fun o hf => hdr_apart hdrW (memW.at_ c rc hrc) hf
  · obtain ⟨hmed, hmW, L', st⟩ := hG
    have hws : w.heap.size ≤ W.heap.size := hK.size
    have hmn0 : H m = none := by
      cases hq : H m with
      | none => rfl
      | some q => have := P.mem.lt hq; omega
    have memW := P.mem.keepS hK (fun _ _ _ _ _ _ h => h)
    obtain ⟨Fc1, Fc2, rfl, RL, RR⟩ := A.rk.halves A.wk nd1.2.1 hrc hmn0 hi2
    have hcn : c ≠ n := fun e => hnF.1 (by rw [← e]; simp)
    have hmne : ∀ a, a ∈ n :: (F1 ++ c :: (Fc1 ++ Fc2) ++ F2) → a ≠ m := fun a ha e => by have := old a ha; omega
    have ndc := List.nodup_cons.1 nd1.2.1
    have dom : ∀ a, a ∈ (n :: F1) ++ (Fc1 ++ Fc2 ++ F2) → a ∉ [c] ∧ ∃ q, H a = some q := fun a ha => by
      refine ⟨fun hf => ?_, P.rep.dom a ?_⟩
      · obtain rfl := List.mem_singleton.1 hf
        simp only [List.mem_append, List.mem_cons] at ha
        rcases ha with (rfl | ha) | (ha | ha) | ha
        · exact hcn rfl
        · exact nd1.2.2 a ha a (by simp) rfl
        · exact ndc.1 (by simp [ha])
        · exact ndc.1 (by simp [ha])
        · exact nd2.2.2 a (by simp) a ha rfl
      · rw [A.Fq]
        simp only [List.mem_append, List.mem_cons] at ha ⊢
        rcases ha with (ha | ha) | (ha | ha) | ha <;> simp [ha]
    have st1 := st.frame (n :: F1) (Fc1 ++ Fc2 ++ F2) dom
    obtain ⟨o1, o2⟩ := st.out n (by simpa using fun e => hcn e.symm) r A.rec_
    have st2 := Step.then memW st1 (n := n) (r := r) (r' := grown r (N1 ++ c :: N2) i m med) (l' := Ln) (X := fun _ _ => False) (by simp) o1 (hMid.keep.mono fun a o _ hf => .inl (by rw [o2]; exact hf)) (fun _ _ h => h.elim) (fun _ _ _ _ _ _ h => h) hMid.node (fun a o hb2 hf => by rw [o2]; exact hMid.fp a o hb2 hf)
    have st3 := st2.same (G' := n :: (F1 ++ c :: Fc1 ++ (m :: Fc2 ++ F2))) (fun a => by
      simp only [List.mem_append, List.mem_cons, List.not_mem_nil, or_false]
      grind)
    have eF : (n :: F1) ++ [c] ++ (Fc1 ++ Fc2 ++ F2) = F := by rw [A.Fq]; simp
    rw [eF] at st3
    clear st2 st1
    generalize hH2 : upd (upd (upd H c (some (halfL H hr.iso rc (mx / 2)))) m (some (halfR H hr.iso rc (mx / 2)))) n (some (grown r (N1 ++ c :: N2) i m med)) = H2 at st3
    generalize upd L' n Ln = LL2 at st3
    have hkm : k.its[mx / 2]? = some med := by rw [← hcits]; exact hmed
    have hfc := flat_cut A.wk hkm
    have hfl : flat (h + 1) (.node (r.items.take i ++ med :: r.items.drop i) (K1 ++ cutL (mx / 2) k :: cutR (mx / 2) k :: K2)) = flat (h + 1) t := by
      rw [et]
      exact flat_split (by omega) hfc
    have hks : (N1 ++ c :: N2).take (i + 1) ++ m :: (N1 ++ c :: N2).drop (i + 1) = N1 ++ c :: m :: N2 := by
      rw [← ln, List.take_length_add_append, List.drop_length_add_append]; simp
    have out2 : ∀ a, a ∈ F1 ++ F2 → H2 a = H a := fun a ha => by
      have e1 : a ≠ n := fun e => hnF.1 (by subst e; simp only [List.mem_append] at ha ⊢; rcases ha with h | h <;> simp [h])
      have e2 : a ≠ m := hmne a (by simp only [List.mem_append, List.mem_cons] at ha ⊢; rcases ha with h | h <;> simp [h])
      have e3 : a ≠ c := fun e => by
        subst e
        rcases List.mem_append.1 ha with h | h
        · exact nd1.2.2 a h a (by simp) rfl
        · exact nd2.2.2 a (by simp) a h rfl
      rw [← hH2, upd_ne _ _ e1, upd_ne _ _ e2, upd_ne _ _ e3]
    have outc : ∀ a, a ∈ c :: Fc1 ++ m :: Fc2 → H2 a = upd (upd H c (some (halfL H hr.iso rc (mx / 2)))) m (some (halfR H hr.iso rc (mx / 2))) a := fun a ha => by
      rw [← hH2]
      refine upd_ne _ _ fun e => ?_
      subst e
      simp only [List.mem_append, List.mem_cons] at ha
      rcases ha with (h | h) | (h | h)
      · exact hcn h.symm
      · exact hnF.1 (by simp [h])
      · exact hmne a (by simp) h
      · exact hnF.1 (by simp [h])
    have A1 : RepL (Rep H2 hr.iso h) N1 K1 F1 := A.r1.imp fun a t G hG hR => hR.congr fun a ha => out2 a (by simp [hG a ha])
    have A2 : RepL (Rep H2 hr.iso h) N2 K2 F2 := A.r2.imp fun a t G hG hR => hR.congr fun a ha => out2 a (by simp [hG a ha])
    have AL : Rep H2 hr.iso h c (cutL (mx / 2) k) (c :: Fc1) := RL.congr fun a ha => outc a (by simp only [List.mem_append]; exact .inl ha)
    have AR : Rep H2 hr.iso h m (cutR (mx / 2) k) (m :: Fc2) := RR.congr fun a ha => outc a (by simp only [List.mem_append]; exact .inr ha)
    have hcw := cut_wf A.wk (l1 := mn) (l2 := mn) hi2 (by omega) (by omega)
    have rep2 : Rep H2 hr.iso (h + 1) n (.node (r.items.take i ++ med :: r.items.drop i) (K1 ++ cutL (mx / 2) k :: cutR (mx / 2) k :: K2)) (n :: (F1 ++ c :: Fc1 ++ (m :: Fc2 ++ F2))) := by
      refine ⟨grown r (N1 ++ c :: N2) i m med, N1 ++ c :: m :: N2, _, by rw [← hH2, upd_same], A.isoq, rfl, by simp only [grown, hks], ?_, ?_, rfl⟩
      · rw [hfl]; exact A.cnt
      · rw [List.append_assoc]
        exact RepL.join (R := Rep H2 hr.iso h) (N2 := c :: m :: N2) (K2 := cutL (mx / 2) k :: cutR (mx / 2) k :: K2) ⟨c :: Fc1, m :: Fc2 ++ F2, AL, ⟨m :: Fc2, F2, AR, A2, rfl⟩, rfl⟩ A1
    have nd3 : (n :: (F1 ++ c :: Fc1 ++ (m :: Fc2 ++ F2))).Nodup := by
      have hp : (n :: (F1 ++ c :: Fc1 ++ (m :: Fc2 ++ F2))).Perm (m :: (n :: (F1 ++ c :: (Fc1 ++ Fc2) ++ F2))) := by
        have h1 : (n :: (F1 ++ c :: Fc1) ++ m :: (Fc2 ++ F2)).Perm (m :: (n :: (F1 ++ c :: Fc1) ++ (Fc2 ++ F2))) := List.perm_middle
        simpa using h1
      rw [hp.nodup_iff]
      exact List.nodup_cons.2 ⟨fun h => hmne m h rfl, nd⟩
    have wf2 : wfr 0 mn mx (h + 1) (.node (r.items.take i ++ med :: r.items.drop i) (K1 ++ cutL (mx / 2) k :: cutR (mx / 2) k :: K2)) := by
      have := A.le
      refine ⟨Nat.zero_le _, by simp only [Tr.its, List.length_append, List.length_cons]; omega, by simp only [Tr.its, Tr.ks, List.length_append, List.length_cons]; omega, fun k' hk' => ?_⟩
      simp only [Tr.ks, List.mem_append, List.mem_cons] at hk'
      rcases hk' with hk' | rfl | rfl | hk'
      · exact A.wo k' (by simp [hk'])
      · exact hcw.1
      · exact hcw.2
      · exact A.wo k' (by simp [hk'])
    have P2 : SetPre W2 b hr pq 0 n H2 LL2 (h + 1) (.node (r.items.take i ++ med :: r.items.drop i) (K1 ++ cutL (mx / 2) k :: cutR (mx / 2) k :: K2)) (n :: (F1 ++ c :: Fc1 ++ (m :: Fc2 ++ F2))) mn mx :=
      ⟨hHdr, hcell, st3.mem, rep2, nd3, wf2, by rw [hfl]; exact P.srt, P.hmx, P.h3, P.hb, P.hmn, by rw [hfl]; exact P.big⟩
    have srt2 : Sorted ilt (r.items.take i ++ med :: r.items.drop i) := own_sorted wf2 P2.srt
    have hcL : (cutL (mx / 2) k).its.length = mx / 2 := by show (k.its.take (mx / 2)).length = _; rw [List.length_take]; omega
    have hcR : (cutR (mx / 2) k).its.length = mx - (mx / 2 + 1) := by show (k.its.drop (mx / 2 + 1)).length = _; rw [List.length_drop]; omega
    have kid : ∀ j k', Loc (r.items.take i ++ med :: r.items.drop i) (ky x) j false → (K1 ++ cutL (mx / 2) k :: cutR (mx / 2) k :: K2)[j]? = some k' → k'.its.length ≠ mx := fun j k' hj hk' => by
      rcases loc_split hloc srt2 hj with rfl | rfl
      · rw [List.getElem?_append_right (by omega)] at hk'
        simp [lk] at hk'
        subst hk'
        omega
      · rw [List.getElem?_append_right (by omega)] at hk'
        simp [lk] at hk'
        subst hk'
        omega
    have hnA : ¬ Asks mx (h + 1) (.node (r.items.take i ++ med :: r.items.drop i) (K1 ++ cutL (mx / 2) k :: cutR (mx / 2) k :: K2)) (ky x) := by
      rintro ⟨_, j, c', h1, h2, h5⟩
      exact kid j c' h1 h2 h5.full
    have call : Calls Try.prog 124 #[ptr b, .pointer (some ⟨pq, 0, none⟩), pv x] W2 (SetPost W2 H2 LL2 (n :: (F1 ++ c :: Fc1 ++ (m :: Fc2 ++ F2))) hr.iso mn mx (h + 1) n (.node (r.items.take i ++ med :: r.items.drop i) (K1 ++ cutL (mx / 2) k :: cutR (mx / 2) k :: K2)) x hr.emp) := by
      obtain ⟨j, f, hj⟩ := Loc.ex (ky x) (r.items.take i ++ med :: r.items.drop i) srt2
      cases f with
      | true => exact set_succ_found P2 x hj
      | false =>
        have hjl : j < (K1 ++ cutL (mx / 2) k :: cutR (mx / 2) k :: K2).length := by have := hj.1; simp at this ⊢; omega
        have hk' : (K1 ++ cutL (mx / 2) k :: cutR (mx / 2) k :: K2)[j]? = some ((K1 ++ cutL (mx / 2) k :: cutR (mx / 2) k :: K2)[j]) := List.getElem?_eq_getElem hjl
        exact set_succ_go P2 x hj hk' (fun h => kid j _ hj hk' h.full) (fun w pb po n H L F => IH _ w pb po n H L F)
    refine call.mono ?_
    rintro e W3 (⟨h1, _⟩ | ⟨_, p, t', F', H', L3, rfl, st4, rep', nd', wf', put⟩)
    · exact absurd h1 hnA
    · have st5 := st3.trans st4 (fun a q ha hq => by
        rw [← eF]
        simp only [List.mem_append, List.mem_cons] at ha
        rcases ha with ha | (ha | ha | ha) | ((ha | ha) | ha)
        · simp [ha]
        · simp [ha]
        · simp [ha]
        · simp [ha]
        · subst ha; rw [hmn0] at hq; cases hq
        · simp [ha]
        · simp [ha])
      refine ⟨⟨p, t', F', H', L3, rfl, st5, rep', nd', ?_, ?_⟩, ⟨_, _, _, rfl⟩, ?_⟩
      · refine wf'.weaken ?_
        have := wf'.own_le.1
        have e : (Tr.node (r.items.take i ++ med :: r.items.drop i) (K1 ++ cutL (mx / 2) k :: cutR (mx / 2) k :: K2)).its.length = r.items.length + 1 := by show (r.items.take i ++ med :: r.items.drop i).length = _; simp; omega
        rw [hits]
        omega
      · rw [hfl] at put; exact put
      · refine st4.keep.mono fun a o _ ⟨m', q, _, hq, hf⟩ => ?_
        have := Step.clear P.mem hK st3 m' q hq a o hf
        omega
  · rintro e w' ⟨W, m, med, W', W2, L2, W3, hK, _, _, ⟨p, t', F', H', L3, rfl, st, rep', nd', wf', put⟩, hK3⟩
    refine .inr ⟨fun h => hfull (by rw [← hits]; exact h.full), p, t', F', H', L3, rfl, (Step.pre hK st).post hK3 (fun _ _ h => h.1) (Step.clear P.mem hK st), rep', nd', wf', put⟩

/-- SETTING BELOW A NODE: what it leaves. -/
theorem set_any {b : Nat} {hr : HRec} {mn mx : Nat} (x : It) : ∀ (h : Nat) (t : Tr It) (w : World) (pb po n : Nat) (H : Store It) (L : Nat → Lay) (F : List Nat), SetPre w b hr pb po n H L h t F mn mx →
    Calls Try.prog 124 #[ptr b, .pointer (some ⟨pb, po, none⟩), pv x] w (SetPost w H L F hr.iso mn mx h n t x hr.emp)
  | 0, t, w, pb, po, n, H, L, F, P => set_zero P x
  | h + 1, t, w, pb, po, n, H, L, F, P => by
    obtain ⟨i, f, hloc⟩ := Loc.ex (ky x) t.its (own_sorted P.wf P.srt)
    cases f with
    | true => exact set_succ_found P x hloc
    | false =>
      have hil : i < t.ks.length := by have := hloc.1; have := P.wf.2.2.1; omega
      have hk : t.ks[i]? = some t.ks[i] := List.getElem?_eq_getElem hil
      by_cases ha : Asks mx h t.ks[i] (ky x)
      · by_cases hfull : t.its.length = mx
        · exact set_succ_full P x hloc hk hfull ha (set_any x h _)
        · exact set_succ_retry P x hloc hk hfull ha (set_any x h)
      · exact set_succ_go P x hloc hk ha (set_any x h _)
end Go.Proofs.Ytckplcmieelmpaa.W

namespace Go.Proofs.Ytckplcmieelmpaa.W
open Go.RowKit Go.Wb

/-- A tree's shape: none, or a root of some height. -/
abbrev Sh := Option (Nat × Tr It)
def its : Sh → List It
  | none => []
  | some (h, t) => flat h t
def RootAt (H : Store It) (iso : Int) (root : Option Nat) (F : List Nat) (mn mx : Nat) : Sh → Prop
  | none => root = none ∧ F = []
  | some (h, t) => ∃ n, root = some n ∧ Rep H iso h n t F ∧ wfr 1 mn mx h t
/-- The sizes of nodes. -/
structure ParOk (hr : HRec) (mn mx : Nat) : Prop where
  cv : hr.cv = false
  icv : hr.icv = false
  one : (hr.mn = (mn : Int) ∧ hr.mx = (mx : Int)) ∨ (hr.mn = 0 ∧ hr.root = none ∧ mn = 31 ∧ mx = 63)
  odd : mx = 2 * mn + 1
  pos : 1 ≤ mn
  hb : mx ≤ 1000000000000

/-- A tree lies in w: its head at block b, its nodes F. -/
structure TreeAt (w : World) (b : Nat) (hr : HRec) (H : Store It) (L : Nat → Lay) (F : List Nat) (mn mx : Nat) (s : Sh) : Prop where
  hdr : Hdr w b hr
  mem : Mem TT E w H L
  nd : F.Nodup
  root : RootAt H hr.iso hr.root F mn mx s
  cnt : hr.cnt = ((its s).length : Int)
  srt : Sorted ilt (its s)
  par : ParOk hr mn mx

theorem TreeAt.keep {w w' : World} {b : Nat} {hr : HRec} {H : Store It} {L : Nat → Lay} {F : List Nat} {mn mx : Nat} {s : Sh} (h : TreeAt w b hr H L F mn mx s) (hk : Keep Nothing w w') : TreeAt w' b hr H L F mn mx s :=
  ⟨blk_keep h.hdr hk fun _ h => h, h.mem.keepS hk fun _ _ _ _ _ _ h => h, h.nd, h.root, h.cnt, h.srt, h.par⟩

/-- What setting leaves of a tree. -/
def SetT (w : World) (b : Nat) (hr : HRec) (H : Store It) (L : Nat → Lay) (F : List Nat) (mn mx : Nat) (s : Sh) (x : It) (e : Ending) (w' : World) : Prop :=
  ∃ hr' H' L' F' s' p, e = .returned (.tuple #[vv (Option.getD p hr.emp), .bool p.isSome]) ∧ TStep TT E (fun c _ => c = b) w H L F w' H' L' F' ∧ TreeAt w' b hr' H' L' F' mn mx s' ∧ Put ilt (its s) x (its s') p ∧
    hr'.iso = hr.iso ∧ hr'.ctr = hr.ctr ∧ hr'.emp = hr.emp ∧ hr'.root.isSome = true

theorem hdr_root {w : World} {b : Nat} {h : HRec} (hh : Hdr w b h) : w.cell? ⟨b, 2, none⟩ = some (rootV h.root) := (hdr_cells hh).2.2.1
theorem hdr_cnt {w : World} {b : Nat} {h : HRec} (hh : Hdr w b h) : w.cell? ⟨b, 3, none⟩ = some (.int .i64 h.cnt) := (hdr_cells hh).2.2.2.1
theorem hdr_fz {w : World} {b : Nat} {h : HRec} (hh : Hdr w b h) : ∀ o, w.frozen? ⟨b, o, none⟩ = false := (hdr_cells hh).2.2.2.2.2.2.2.2.2.2.1
theorem hdr_set_cnt {w : World} {b : Nat} {h : HRec} (hh : Hdr w b h) (c : Int) : Hdr (w.setCell ⟨b, 3, none⟩ (.int .i64 c)) b { h with cnt := c } := by
  unfold Hdr at hh ⊢; rw [blk_set _ hh]; rfl
theorem hdr_set_root {w : World} {b : Nat} {h : HRec} (hh : Hdr w b h) (r : Option Nat) : Hdr (w.setCell ⟨b, 2, none⟩ (rootV r)) b { h with root := r } := by
  unfold Hdr at hh ⊢; rw [blk_set _ hh]; rfl
theorem fold0 (f : Array Value → (Value × Nat) → Array Value) (i : Array Value) : Array.foldl f i ((#[] : Array Value).zipIdx) 0 0 = i := rfl
end Go.Proofs.Ytckplcmieelmpaa.W

namespace Go.Proofs.Ytckplcmieelmpaa.W
open Go.RowKit Go.Wb

theorem root_pre {w : World} {b : Nat} {hr : HRec} {H : Store It} {L : Nat → Lay} {F : List Nat} {mn mx h : Nat} {t : Tr It} (T : TreeAt w b hr H L F mn mx (some (h, t))) (big : (flat h t).length ≤ 3000000000000000000) :
    ∃ n, hr.root = some n ∧ ∀ W, Keep Nothing w W → SetPre W b hr b 2 n H L h t F mn mx := by
  obtain ⟨n, hroot, rep, wf⟩ := T.root
  refine ⟨n, hroot, fun W hK => ?_⟩
  have T' := T.keep hK
  have odd := T.par.odd
  have pos := T.par.pos
  have hmx : hr.mx = (mx : Int) := by
    rcases T.par.one with h | ⟨_, h, _⟩
    · exact h.2
    · rw [hroot] at h; cases h
  have hc := hdr_root T'.hdr
  rw [hroot] at hc
  exact ⟨T'.hdr, hc, T'.mem, rep, T.nd, wf.weaken (Nat.zero_le _), T.srt, hmx, by omega, T.par.hb, by omega, big⟩

/-- Behind the setting below the root. -/
def PlainRel (w : World) (H : Store It) (L : Nat → Lay) (F : List Nat) (iso : Int) (mn mx h n : Nat) (t : Tr It) (x _ep : It) (s9 s10 s11 : Value) (wx : World) : Prop :=
  ∃ W W' g p t' F' H' L', Keep Nothing w W ∧ Step TT E W H L F W' H' L' F' ∧ Rep H' iso h n t' F' ∧ F'.Nodup ∧ wfr t.its.length mn mx h t' ∧ Put ilt (flat h t) x (flat h t') p ∧ Keep Nothing W' wx ∧
    g = 0 ∧ s9 = vv (Option.getD p _ep) ∧ s10 = .bool p.isSome ∧ s11 = .bool false

set_option maxRecDepth 100000 in
set_option maxHeartbeats 4000000 in
theorem set_plain {w : World} {b : Nat} {hr : HRec} {H : Store It} {L : Nat → Lay} {F : List Nat} {mn mx h : Nat} {t : Tr It} (T : TreeAt w b hr H L F mn mx (some (h, t))) (big : (flat h t).length ≤ 3000000000000000000) (x : It) (hna : ¬ Asks mx h t (ky x)) :
    Calls Try.prog 74 #[ptr b, kv (ky x), vv x] w (SetT w b hr H L F mn mx (some (h, t)) x) := by
  obtain ⟨n, hroot, hpre⟩ := root_pre T big
  have hcall : ∀ W, Keep Nothing w W → Calls Try.prog 124 #[ptr b, .pointer (some ⟨b, 2, none⟩), pv x] W (SetPost W H L F hr.iso mn mx h n t x hr.emp) := fun W hK => set_any x h t W b 2 n H L F (hpre W hK)
  have HT := Lib.hid T
  have HC := Lib.hid hcall
  have HR := Lib.hid hroot
  have HNA := Lib.hid hna
  have HBIG := Lib.hid big
  clear T hcall hroot hpre hna big
  unfold ptr pv kv vv at *
  go_enter Try.func74, Try.ntmps74
  go_upto_region 2 with (fail)
  refine wp_world ?_
  intro W1 hW1
  generalize hq : w.heap.size = q at *
  have K1 : Hid (Keep Nothing w W1) := by
    subst hW1; exact (Keep.refl _ _).al _
  have X1 : Hid (W1.heap[q]? = some (.cells (E.enc x).toArray 161 (0, 0))) := by
    subst hW1; subst hq; exact heap_alloc_new w _
  have XQ := Lib.hid hq
  clear hW1 hq
  have H1 : Hid (Hdr W1 b hr) := by exact blk_keep HT.out.hdr K1.out fun _ h => h
  have c2 := hdr_root H1.out
  rw [HR.out] at c2
  simp only [rootV, Option.map_some] at c2
  have fz := hdr_fz H1.out
  go_upto_region 9 with (fail)
  clear c2 fz
  have hfp : Hid (∀ c o, q ≤ c → ¬ FP TT H L F c o) := by
    rintro c o hc ⟨m, r, _, hr, hf⟩
    have := (HT.out.mem.at_ m r hr).lt hf
    have := XQ.out
    omega
  go_cut [9, 10, 11] (fun s9 s10 s11 wx => PlainRel w H L F hr.iso mn mx h n t x hr.emp s9 s10 s11 wx ∧ True)
  case first =>
    have kx0 : W1.cell? ⟨q, 0, none⟩ = some (.int .i64 x.2) := by have := X1.out; simp only [World.cell?, this]; rfl
    have kx1 : W1.cell? ⟨q, 1, none⟩ = some (.string (ky x)) := by have := X1.out; simp only [World.cell?, this]; rfl
    have hcl := Lib.hid (HC.out W1.drew K1.out.dr)
    go_wp2_with fail
    refine wp_calm (by kernel_rfl) (by kernel_rfl) rfl ?_
    simp only [List.flatMap_cons, List.flatMap_nil, checks, chk, nilLit, List.cons_append, List.nil_append, List.append_nil]
    go_wp2_with fail
    refine hcl.out.mono ?_
    rintro e w' (⟨h1, _⟩ | ⟨_, p, t', F', H', L', rfl, st, h2⟩)
    · exact absurd h1 HNA.out
    have ST := Lib.hid st
    have H2 := Lib.hid h2
    clear st h2 hcl kx0 kx1
    go_wp2_with fail
    rw [HQ_normal]
    go_wp2_with fail
    go_meet
    obtain ⟨r1, r2, r3, r4⟩ := H2.out
    exact ⟨⟨_, _, 0, p, t', F', H', L', K1.out.dr, ST.out, r1, r2, r3, r4, Keep.refl _ _, rfl, rfl, rfl, rfl⟩, trivial⟩
  case rest =>
    obtain ⟨⟨W, W', g, p, t', F', H', L', hKW, st, r1, r2, r3, r4, hK9, rfl, rfl, rfl, rfl⟩, _⟩ := hcut
    have T := HT.out
    have hapW : ∀ m r o, H m = some r → ¬ fp TT m r (L m) b o := fun m r o hr hf => hdr_apart T.hdr (T.mem.at_ m r hr) hf
    have HW' : Hdr W' b hr := blk_keep (blk_keep T.hdr hKW fun _ h => h) st.keep fun o ⟨m, r, _, hr, hf⟩ => hapW m r o hr hf
    have H9 := Lib.hid (blk_keep HW' hK9 fun _ h => h : Hdr wc b hr)
    have hap' : Hid (∀ m r, H' m = some r → ∀ c o, fp TT m r (L' m) c o → c ≠ b) := by exact fun m r hr c o hf e => hdr_apart HW' (st.mem.at_ m r hr) (e ▸ hf)
    have ST := Lib.hid st
    have R1 := Lib.hid r1
    have R2 := Lib.hid r2
    have R3 := Lib.hid (r3.weaken (Nat.le_trans T.root.choose_spec.2.2.own_le.1 r3.own_le.1) : wfr 1 mn mx h t')
    have R4 := Lib.hid r4
    have K9 := Lib.hid hK9
    have KW := Lib.hid hKW
    have HB := Lib.hid T.cnt
    clear hKW st r1 r2 r3 r4 hK9 HW' hapW T
    have hcb : -9223372036854775808 ≤ hr.cnt + 1 ∧ hr.cnt + 1 ≤ 9223372036854775807 := by
      have := HB.out
      have := HBIG.out
      simp only [its] at *
      omega
    cases p with
    | some y =>
      go_wp2_with fail
      go_ret2
      have T := HT.out
      have put := R4.out
      have hpl := put_len put
      refine ⟨hr, H', L', F', some (h, t'), some y, rfl, ((ST.out.t _).pre KW.out).post (K9.out.mono fun _ _ _ h => h.elim : Keep (fun c _ => c = b) _ _) (fun _ _ _ h => h) (fun m r hr c o hf => hap'.out m r hr c o hf), ?_, put, rfl, rfl, rfl, by rw [HR.out]; rfl⟩
      refine ⟨H9.out, ST.out.mem.keepS K9.out fun _ _ _ _ _ _ h => h, R2.out, ⟨n, HR.out, R1.out, R3.out⟩, ?_, put.sorted T.srt, T.par⟩
      have := T.cnt
      simp only [its] at *
      simp at hpl
      omega
    | none =>
      have c3 := hdr_cnt H9.out
      have fz := hdr_fz H9.out
      go_upto_region 22 with (fail)
      refine wp_world ?_
      intro W5 hW5
      have H5 : Hid (Hdr W5 b { hr with cnt := hr.cnt + 1 }) := by subst hW5; exact hdr_set_cnt H9.out _
      have K5 : Hid (Keep (fun c _ => c = b) wc W5) := by subst hW5; exact (Keep.refl _ _).set _ _ _ fun _ => rfl
      clear hW5 c3 fz
      have hev := (hdr_emp H5.out).1
      go_wp2_with fail
      go_ret2
      have T := HT.out
      have put := R4.out
      have hpl := put_len put
      have KA : Keep (fun c _ => c = b) W' W5 := (K9.out.mono fun _ _ _ h => h.elim : Keep (fun c _ => c = b) W' wc).trans K5.out fun _ _ _ h => h
      refine ⟨{ hr with cnt := hr.cnt + 1 }, H', L', F', some (h, t'), none, rfl, ((ST.out.t _).pre KW.out).post KA (fun _ _ _ h => h) (fun m r hr c o hf => hap'.out m r hr c o hf), ?_, put, rfl, rfl, rfl, by show hr.root.isSome = true; rw [HR.out]; rfl⟩
      refine ⟨H5.out, ST.out.mem.keepS KA fun m r c o hr hf => hap'.out m r hr c o hf, R2.out, ⟨n, HR.out, R1.out, R3.out⟩, ?_, put.sorted T.srt, T.par.cv, T.par.icv, ?_, T.par.odd, T.par.pos, T.par.hb⟩
      · have := T.cnt
        simp only [its] at *
        simp at hpl
        omega
      · exact T.par.one
end Go.Proofs.Ytckplcmieelmpaa.W

namespace Go.Proofs.Ytckplcmieelmpaa.W
open Go.RowKit Go.Wb

theorem hdr_mn {w : World} {b : Nat} {h : HRec} (hh : Hdr w b h) : 
    w.cell? ⟨b, 6, none⟩ = some (.int .i64 h.mn) := (hdr_cells hh).2.2.2.2.2.2.1

set_option maxHeartbeats 400000 in
theorem init_old {w : World} {b : Nat} {h : HRec} (hh : Hdr w b h) (d : Value) (h0 : (h.mn != 0) = true) :
    Calls Try.prog 122 #[ptr b, d] w fun e w' => e = .returned (.tuple #[]) ∧ w = w' := by
  have c := hdr_mn hh
  clear hh
  unfold ptr
  go_enter Try.func122, Try.ntmps122
  go_wp2
  refine bodyPost_ret (v := .tuple #[]) (by simp [results, Try.results122, go_sem]) rfl ⟨rfl, rfl⟩

/-- init(0) of an empty tree. -/
theorem init_par {w : World} {b : Nat} {hr : HRec} {mn mx : Nat} (hh : Hdr w b hr) (hp : ParOk hr mn mx) :
    Calls Try.prog 122 #[ptr b, .int .i64 0] w fun e w' => e = .returned (.tuple #[]) ∧ Hdr w' b { hr with mn := mn, mx := mx } ∧ Keep (fun x _ => x = b) w w' := by
  obtain ⟨iso, ctr, root, cnt, emp, hmn, hmx, cv, icv⟩ := hr
  obtain ⟨h1, h2, h3, h4, h5, h6⟩ := hp
  simp only at h1 h2 h3
  subst h1
  subst h2
  rcases h3 with ⟨rfl, rfl⟩ | ⟨rfl, _, rfl, rfl⟩
  · refine (init_old hh _ (by simp; omega)).mono ?_
    rintro e w' ⟨rfl, rfl⟩
    exact ⟨rfl, hh, Keep.refl _ _⟩
  · refine (init_new hh 0 (by omega) (by omega) rfl).mono ?_
    rintro e w' ⟨rfl, h7, h8⟩
    exact ⟨rfl, h7, h8⟩

set_option maxRecDepth 100000 in
set_option maxHeartbeats 4000000 in
theorem set_nil {w : World} {b : Nat} {hr : HRec} {H : Store It} {L : Nat → Lay} {F : List Nat} {mn mx : Nat} (T : TreeAt w b hr H L F mn mx none) (x : It) :
    Calls Try.prog 74 #[ptr b, kv (ky x), vv x] w (SetT w b hr H L F mn mx none x) := by
  have HT := Lib.hid T
  have hroot : hr.root = none := T.root.1
  have HR := Lib.hid hroot
  have O0 := Lib.hid (Own.one (T := TT) (E := E) (S := fun c o => FP TT H L [] c o ∨ c = b) (w := w) (r := .blk b (hdrC hr) 166) T.hdr (fun _ _ h => .inr h))
  have hbw := lt_of_heap T.hdr
  clear T hroot
  unfold ptr kv vv
  go_enter Try.func74, Try.ntmps74
  go_upto_region 2 with (fail)
  refine wp_world ?_
  intro W1 hW1
  generalize hq : w.heap.size = q at *
  have O1 : Hid (Own TT E (fun c o => FP TT H L [] c o ∨ c = b) w W1 [.blk b (hdrC hr) 166, .blk q (E.enc x).toArray 161]) := by
    subst hW1; have := O0.out.alloc (E.enc x).toArray 161
    simp only [hq] at this; exact this
  clear hW1 O0
  have H1 : Hid (Hdr W1 b hr) := by exact O1.out.blk_ 0 rfl
  have c2 := hdr_root H1.out
  rw [HR.out] at c2
  simp only [rootV, Option.map_none] at c2
  have fz := hdr_fz H1.out
  have hin := Lib.hid (init_par H1.out HT.out.par)
  unfold ptr at hin
  go_wp2_with fail
  refine hin.out.mono ?_
  rintro e W2 ⟨rfl, h2, k2⟩
  have O2 := Lib.hid (O1.out.turn 0 rfl (r' := .blk b (hdrC { hr with mn := mn, mx := mx }) 166) k2 h2 (fun _ _ _ h => h))
  clear hin c2 fz H1 O1 h2 k2
  have hnn := Lib.hid (newNode_any (O2.out.blk_ 0 rfl : Hdr W2 b { hr with mn := mn, mx := mx }) true)
  unfold ptr at hnn
  go_wp2_with fail
  refine hnn.out.mono ?_
  rintro e W3 ⟨m, Lm, rfl, hmw, k3, hm, hfpm⟩
  have O3 := Lib.hid (O2.out.add k3 (r := .node m ⟨hr.iso, 0, [], none⟩ Lm) hm hfpm)
  clear hnn k3 hm hfpm O2
  simp only [List.set, List.cons_append, List.nil_append] at O3
  have fz := hdr_fz (O3.out.blk_ 0 rfl : Hdr W3 b { hr with mn := mn, mx := mx })
  have c2 := hdr_root (O3.out.blk_ 0 rfl : Hdr W3 b { hr with mn := mn, mx := mx })
  rw [show ({ hr with mn := (mn : Int), mx := (mx : Int) } : HRec).root = hr.root from rfl, HR.out] at c2
  simp only [rootV, Option.map_none] at c2
  unfold ptr
  go_upto_region 5 with (fail)
  refine wp_world ?_
  intro W4 hW4
  have O4 : Hid (Own TT E (fun c o => FP TT H L [] c o ∨ c = b) w W4 [.blk b (hdrC { hr with mn := mn, mx := mx, root := some m }) 166, .blk q (E.enc x).toArray 161, .node m ⟨hr.iso, 0, [], none⟩ Lm]) := by
    subst hW4; have := O3.out.set 0 rfl 2 (rootV (some m)); exact this
  clear hW4 O3 c2 fz
  have hm4 := Lib.hid (O4.out.node_ 2 rfl)
  go_cut [] (fun wx => ∃ L', NTurn TT E W4 m ⟨hr.iso, 0, [], none⟩ Lm wx ⟨hr.iso, 0, [x], none⟩ L')
  case first =>
    have c2 := hdr_root (O4.out.blk_ 0 rfl : Hdr W4 b { hr with mn := mn, mx := mx, root := some m })
    simp only [rootV, Option.map_some] at c2
    have cx0 : W4.cell? ⟨q, 0, none⟩ = some (.int .i64 x.2) := by have := O4.out.blk_ 1 rfl; simp only [World.cell?, this]; rfl
    have cx : W4.cell? ⟨q, 1, none⟩ = some (.string (ky x)) := by have := O4.out.blk_ 1 rfl; simp only [World.cell?, this]; rfl
    obtain ⟨d0, d1, cm, d3, fz⟩ := hm4.out.own
    clear d0 d1 d3
    have hmw4 := lt_of_cell cm
    have hbm : b ≠ m := fun e => O4.out.apart 0 2 _ _ (by omega) rfl rfl m 0 e.symm (.inl rfl)
    have hqm : q ≠ m := fun e => O4.out.apart 1 2 _ _ (by omega) rfl rfl m 0 e.symm (.inl rfl)
    have fzm := fz 2
    go_region_held3 (fun w' => w'.cell? ⟨b, 2, none⟩ = some (.pointer (some ⟨m, 0, none⟩)) ∧ w'.cell? ⟨q, 0, none⟩ = some (.int .i64 x.2) ∧ w'.cell? ⟨q, 1, none⟩ = some (.string (ky x))) ((go_split_ands; refine ⟨?_, ?_, ?_⟩ <;> first | assumption | (refine cell_al _ ?_; assumption) | (refine cell_grew hg ?_; assumption) | (refine cell_set ?_ ?_ <;> assumption)))
      ((refine step_append_any rfl (Operand.tmp 34) (Operand.tmp 36) 169 rfl 161 2 24 Try.underlying169 ⟨by kernel_rfl, by kernel_rfl, by kernel_rfl⟩ _ 0 0 [] (by rfl) (Row.empty (by first | exact blk_two _ rfl | exact blk_last (by simp))) rfl _ 1 1 (E.enc x) (by rfl) (E.len _) (fun j u hj => new_cells (cs := E.enc x) (by first | exact blk_two _ rfl | exact blk_last (by simp)) j u hj) (E.one _) (by omega) (by omega) (by simp [maxLen]) (by omega) ?_; intro a' cap' w1 hg; have cm1 := cell_grew hg (cell_al _ (cell_al _ cm)); have fz1 := (fz_grew hg (fz_al _ (fz_al _ hmw4 fzm).1 (fz_al _ hmw4 fzm).2).1 (fz_al _ (fz_al _ hmw4 fzm).1 (fz_al _ hmw4 fzm).2).2).2))
    all_goals
      go_wp2_with fail
      go_meet
      refine ⟨_, nt_fresh ty_ok hm4.out (its := [x]) (((Keep.refl _ _).al _).al _).dr (hg.new (B := W4.heap.size) ((((Keep.refl Nothing W4).al _).al _).dr).size).1 ?_ hg.cap (hg.new (B := W4.heap.size) ((((Keep.refl Nothing W4).al _).al _).dr).size).2⟩
      have := hg.row
      simp only [List.nil_append] at this
      simp only [Enc.all, List.flatMap_cons, List.flatMap_nil, List.append_nil]
      exact this
  case rest =>
    obtain ⟨L', nt⟩ := hcut
    have O5 := Lib.hid (O4.out.nt 2 rfl nt)
    clear nt O4 hm4
    simp only [List.set] at O5
    have c2 := hdr_root (O5.out.blk_ 0 rfl : Hdr wc b { hr with mn := mn, mx := mx, root := some m })
    simp only [rootV, Option.map_some] at c2
    obtain ⟨d0, cm, d2, d3, fz⟩ := (O5.out.node_ 2 rfl).own
    clear d0 d2 d3
    go_upto_region 7 with (fail)
    refine wp_world ?_
    intro W6 hW6
    have O6 : Hid (Own TT E (fun c o => FP TT H L [] c o ∨ c = b) w W6 [.blk b (hdrC { hr with mn := mn, mx := mx, root := some m }) 166, .blk q (E.enc x).toArray 161, .node m ⟨hr.iso, 1, [x], none⟩ L']) := by
      subst hW6; exact O5.out.nt 2 rfl (nt_cnt ty_ok (O5.out.node_ 2 rfl) 1)
    clear hW6 O5 c2 cm fz
    have c3 := hdr_cnt (O6.out.blk_ 0 rfl : Hdr W6 b { hr with mn := mn, mx := mx, root := some m })
    have fz := hdr_fz (O6.out.blk_ 0 rfl : Hdr W6 b { hr with mn := mn, mx := mx, root := some m })
    go_upto_region 8 with (fail)
    refine wp_world ?_
    intro W7 hW7
    have O7 : Hid (Own TT E (fun c o => FP TT H L [] c o ∨ c = b) w W7 [.blk b (hdrC { hr with mn := mn, mx := mx, root := some m, cnt := 1 }) 166, .blk q (E.enc x).toArray 161, .node m ⟨hr.iso, 1, [x], none⟩ L']) := by
      subst hW7; exact O6.out.set 0 rfl 3 (.int .i64 1)
    clear hW7 O6 c3 fz
    have he := (hdr_emp (O7.out.blk_ 0 rfl : Hdr W7 b { hr with mn := mn, mx := mx, root := some m, cnt := 1 })).1
    go_wp2_with fail
    go_ret2
    have T := HT.out
    have hmw' : w.heap.size ≤ m := by
      rcases Nat.lt_or_ge m w.heap.size with h | h
      · exfalso
        rcases O7.out.old 2 _ rfl m 0 h (.inl rfl) with ⟨_, _, h, _⟩ | h
        · cases h
        · exact O7.out.apart 0 2 _ _ (by omega) rfl rfl m 0 h (.inl rfl)
      · exact h
    have hst : TStep TT E (fun c _ => c = b) w H L F W7 (upd H m (some ⟨hr.iso, 1, [x], none⟩)) (upd L m L') [m] := by
      obtain ⟨_, rfl⟩ := T.root
      refine Own.tstep T.mem O7.out (fun a r c o ha hf e => ?_) (fun a r c o ha hr hf e => ?_) (fun a _ ha => ?_) (fun a ha _ => ?_) (fun a ha => by cases ha) (fun a r ha hr => ?_)
      · subst e; exact hdr_apart T.hdr (T.mem.at_ a r ha) hf
      · obtain rfl := List.mem_singleton.1 ha
        rw [upd_same] at hr hf
        cases hr
        exact O7.out.apart 0 2 _ _ (by omega) rfl rfl c o e hf
      · have : a ≠ m := by simpa using ha
        exact ⟨upd_ne _ _ this, upd_ne _ _ this⟩
      · obtain rfl := List.mem_singleton.1 ha; exact hmw'
      · obtain rfl := List.mem_singleton.1 ha
        rw [upd_same] at hr ⊢
        cases hr
        exact ⟨2, rfl⟩
    refine ⟨{ hr with mn := mn, mx := mx, root := some m, cnt := 1 }, upd H m (some ⟨hr.iso, 1, [x], none⟩), upd L m L', [m], some (0, .node [x] []), none, rfl, hst, ?_, ⟨[], [], rfl, rfl, by simp, by simp⟩, rfl, rfl, rfl, rfl⟩
    · obtain ⟨_, rfl⟩ := T.root
      refine ⟨O7.out.blk_ 0 rfl, ?_, by simp, ⟨m, rfl, ⟨_, upd_same _ _ _, rfl, rfl, rfl, rfl, by simp [flat, Tr.its], rfl⟩, by simp [Tr.its], by have := T.par.odd; have := T.par.pos; simp [Tr.its]; omega, rfl⟩, by simp [its, flat, Tr.its], by simp [its, flat, Tr.its, Sorted], T.par.cv, T.par.icv, .inl ⟨rfl, rfl⟩, T.par.odd, T.par.pos, T.par.hb⟩
      exact hst.mem
end Go.Proofs.Ytckplcmieelmpaa.W

namespace Go.Proofs.Ytckplcmieelmpaa.W
open Go.RowKit Go.Wb

/-- The root is in two halves, and nothing else has turned. -/
structure Halved (w wx : World) (b : Nat) (hr : HRec) (H : Store It) (L : Nat → Lay) (F : List Nat) (mn mx h n : Nat) (t : Tr It) (m : Nat) (med : It) (H' : Store It) (L' : Nat → Lay) (F1 F2 : List Nat) (K : Nat) : Prop where
  clr : ∀ a r c o, H' a = some r → fp TT a r (L' a) c o → ¬ (w.heap.size ≤ c ∧ c < K)
  clk : K ≤ wx.heap.size
  ts : TStep TT E (fun c _ => c = b) w H L F wx H' L' (n :: F1 ++ m :: F2)
  nd : (n :: F1 ++ m :: F2).Nodup
  hdr : Hdr wx b hr
  rl : Rep H' hr.iso h n (cutL (mx / 2) t) (n :: F1)
  rr : Rep H' hr.iso h m (cutR (mx / 2) t) (m :: F2)
  wl : wfr mn mn mx h (cutL (mx / 2) t)
  wr : wfr mn mn mx h (cutR (mx / 2) t)
  fl : flat h t = flat h (cutL (mx / 2) t) ++ med :: flat h (cutR (mx / 2) t)

theorem halved {w W W' : World} {b : Nat} {hr : HRec} {H : Store It} {L : Nat → Lay} {F : List Nat} {mn mx h : Nat} {t : Tr It} (T : TreeAt w b hr H L F mn mx (some (h, t))) {n : Nat} (hroot : hr.root = some n) (hfull : t.its.length = mx) {rc : NRec It} (hrc : H n = some rc)
    (hK : Keep Nothing w W) {m : Nat} {med : It} (hk : Keep (fp TT n rc (L n)) W W') (hh : Halves H L n rc hr.iso (mx / 2) m med W W') :
    ∃ H' L' F1 F2, Halved w W' b hr H L F mn mx h n t m med H' L' F1 F2 W.heap.size := by
  obtain ⟨n', e, rep, wf⟩ := T.root
  rw [hroot] at e
  cases e
  obtain ⟨hmed, hmW, L', st⟩ := hh
  have hws := hK.size
  have hm0 : H m = none := by
    cases hq : H m with
    | none => rfl
    | some q => have := T.mem.lt hq; omega
  obtain ⟨_, q, e1, hci, hits, _⟩ := rep.root
  rw [hrc] at e1
  cases e1
  have odd := T.par.odd
  have pos := T.par.pos
  have hi2 : mx / 2 < t.its.length := by omega
  obtain ⟨F1, F2, rfl, RL, RR⟩ := rep.halves wf T.nd hrc hm0 hi2
  have old : ∀ a, a ∈ n :: (F1 ++ F2) → a < w.heap.size := fun a ha => by
    obtain ⟨q, hq⟩ := rep.dom a ha
    exact T.mem.lt hq
  have ndn := List.nodup_cons.1 T.nd
  have dom : ∀ a, a ∈ [] ++ (F1 ++ F2) → a ∉ [n] ∧ ∃ q, H a = some q := fun a ha => by
    simp only [List.nil_append] at ha
    refine ⟨fun h => ndn.1 ?_, rep.dom a (by simp [List.mem_append.1 ha])⟩
    obtain rfl := List.mem_singleton.1 h
    exact ha
  have st1 := (Step.pre hK st).frame [] (F1 ++ F2) dom
  have hcw := cut_wf wf (l1 := mn) (l2 := mn) hi2 (by omega) (by omega)
  have hap : ∀ a r c o, H a = some r → fp TT a r (L a) c o → c ≠ b := fun a r c o hr hf e => by
    subst e
    exact hdr_apart T.hdr (T.mem.at_ a r hr) hf
  refine ⟨_, L', F1, F2, fun a r c o h1 h2 => Step.clear T.mem hK st a r h1 c o h2, hk.size, ((st1.t _).same (G' := n :: F1 ++ m :: F2) fun a => by simp; grind), ?_, ?_, RL, RR, hcw.1, hcw.2, flat_cut wf (by rw [← hits]; exact hmed)⟩
  · have hp : (n :: F1 ++ m :: F2).Perm (m :: (n :: (F1 ++ F2))) := by
      have h1 : (n :: F1 ++ m :: F2).Perm (m :: (n :: F1 ++ F2)) := List.perm_middle
      simpa using h1
    rw [hp.nodup_iff]
    exact List.nodup_cons.2 ⟨fun h => by have := old m h; omega, T.nd⟩
  · exact blk_keep (blk_keep T.hdr hK fun _ h => h) hk fun o hf => hap n rc b o hrc hf rfl

/-- What lies apart from a tree's nodes and its head, from w on. -/
theorem Halved.local {w wx : World} {b : Nat} {hr : HRec} {H : Store It} {L : Nat → Lay} {F : List Nat} {mn mx h n : Nat} {t : Tr It} {m : Nat} {med : It} {H' : Store It} {L' : Nat → Lay} {F1 F2 : List Nat} {K : Nat} (A : Halved w wx b hr H L F mn mx h n t m med H' L' F1 F2 K) :
    ∀ a r c o, H' a = some r → fp TT a r (L' a) c o → c ≠ b := fun a r c o hr hf e => by
  subst e
  exact hdr_apart A.hdr (A.ts.mem.at_ a r hr) hf

/-- The new root's tree. -/
theorem Halved.tree {w wx we : World} {b : Nat} {hr : HRec} {H : Store It} {L : Nat → Lay} {F : List Nat} {mn mx h n : Nat} {t : Tr It} {m : Nat} {med : It} {H' : Store It} {L' : Nat → Lay} {F1 F2 : List Nat} {K : Nat} (T : TreeAt w b hr H L F mn mx (some (h, t))) (A : Halved w wx b hr H L F mn mx h n t m med H' L' F1 F2 K)
    {wy : World} (hy : Keep Nothing wx wy) {nn : Nat} {Ln : Lay} (hroot : hr.root = some n)
    (O : Own TT E (fun c o => FP TT H' L' [] c o ∨ c = b) wy we [.blk b (hdrC { hr with root := some nn }) 166, .node nn ⟨hr.iso, ((flat h t).length : Int), [med], some [n, m]⟩ Ln]) (hnew : wy.heap.size ≤ nn) :
    ∃ H2 L2 F2', TStep TT E (fun c _ => c = b) w H L F we H2 L2 F2' ∧ TreeAt we b { hr with root := some nn } H2 L2 F2' mn mx (some (h + 1, .node [med] [cutL (mx / 2) t, cutR (mx / 2) t])) ∧
      flat (h + 1) (.node [med] [cutL (mx / 2) t, cutR (mx / 2) t]) = flat h t ∧ ∀ a r c o, H2 a = some r → fp TT a r (L2 a) c o → ¬ (w.heap.size ≤ c ∧ c < K) := by
  have hmy : Mem TT E wy H' L' := A.ts.mem.keepS hy fun _ _ _ _ _ _ h => h
  have dom : ∀ a, a ∈ n :: F1 ++ m :: F2 → ∃ q, H' a = some q := fun a ha => by
    rcases List.mem_append.1 ha with h | h
    · exact A.rl.dom a h
    · exact A.rr.dom a h
  have hnn : ∀ a, a ∈ n :: F1 ++ m :: F2 → a ≠ nn := fun a ha e => by
    obtain ⟨q, hq⟩ := dom a ha
    have := hmy.lt hq
    omega
  have ts2 : TStep TT E (fun c _ => c = b) wy H' L' [] we (upd H' nn (some ⟨hr.iso, ((flat h t).length : Int), [med], some [n, m]⟩)) (upd L' nn Ln) [nn] := by
    refine Own.tstep hmy O (fun a r c o ha hf e => A.local a r c o ha hf e) (fun a r c o ha hr' hf e => ?_) (fun a _ ha => ?_) (fun a ha _ => ?_) (fun a ha => by cases ha) (fun a r ha hr' => ?_)
    · obtain rfl := List.mem_singleton.1 ha
      rw [upd_same] at hr' hf
      cases hr'
      exact O.apart 0 1 _ _ (by omega) rfl rfl c o e hf
    · have : a ≠ nn := by simpa using ha
      exact ⟨upd_ne _ _ this, upd_ne _ _ this⟩
    · obtain rfl := List.mem_singleton.1 ha; exact hnew
    · obtain rfl := List.mem_singleton.1 ha
      rw [upd_same] at hr' ⊢
      cases hr'
      exact ⟨1, rfl⟩
  have ts3 := ts2.frame [] (n :: F1 ++ m :: F2) (fun a ha => ⟨by simp, dom a (by simpa using ha)⟩)
  simp only [List.nil_append] at ts3
  have ts4 := A.ts.then T.mem (ts3.pre hy)
  have out : ∀ a, a ∈ n :: F1 ++ m :: F2 → upd H' nn (some ⟨hr.iso, ((flat h t).length : Int), [med], some [n, m]⟩) a = H' a := fun a ha => upd_ne _ _ (hnn a ha)
  have fl : flat (h + 1) (.node [med] [cutL (mx / 2) t, cutR (mx / 2) t]) = flat h t := by
    rw [A.fl]
    show flat h (cutL (mx / 2) t) ++ (med :: flat h (cutR (mx / 2) t) ++ []) = _
    simp
  have hro := A.rl.root.1
  refine ⟨_, _, [nn] ++ (n :: F1 ++ m :: F2), ts4, ⟨O.blk_ 0 rfl, ts4.mem, ?_, ⟨nn, rfl, ⟨_, [n, m], _, upd_same _ _ _, rfl, rfl, rfl, by rw [fl], ⟨n :: F1, m :: F2, A.rl.congr fun a ha => out a (List.mem_append_left _ ha), ⟨m :: F2, [], A.rr.congr fun a ha => out a (List.mem_append_right _ ha), rfl, by simp⟩, rfl⟩, rfl⟩, ?_⟩, ?_, ?_, T.par.cv, T.par.icv, ?_, T.par.odd, T.par.pos, T.par.hb⟩, fl, fun a r c o ha hf hc => ?_⟩
  · rw [List.singleton_append]
    exact List.nodup_cons.2 ⟨fun h => hnn nn h rfl, A.nd⟩
  · have := T.par.odd; have := T.par.pos
    refine ⟨by simp [Tr.its], by simp [Tr.its]; omega, by simp [Tr.its, Tr.ks], fun k hk => ?_⟩
    simp only [Tr.ks, List.mem_cons, List.not_mem_nil, or_false] at hk
    rcases hk with rfl | rfl
    · exact A.wl
    · exact A.wr
  · simp only [its]; rw [fl]; exact T.cnt
  · simp only [its]; rw [fl]; exact T.srt
  · rcases T.par.one with h | ⟨_, h, _⟩
    · exact .inl h
    · rw [hroot] at h; cases h
  · have hky : K ≤ wy.heap.size := Nat.le_trans A.clk hy.size
    by_cases e : a = nn
    · subst e
      rw [upd_same] at ha hf
      cases ha
      rcases O.old 1 _ rfl c o (by omega) hf with ⟨_, _, h, _⟩ | h
      · cases h
      · exact O.apart 0 1 _ _ (by omega) rfl rfl c o h hf
    · rw [upd_ne _ _ e] at ha hf
      exact A.clr a r c o ha hf hc
end Go.Proofs.Ytckplcmieelmpaa.W

namespace Go.Proofs.Ytckplcmieelmpaa.W
open Go.RowKit Go.Wb

set_option maxRecDepth 100000 in
set_option maxHeartbeats 8000000 in
theorem set_split {w : World} {b : Nat} {hr : HRec} {H : Store It} {L : Nat → Lay} {F : List Nat} {mn mx h : Nat} {t : Tr It} (T : TreeAt w b hr H L F mn mx (some (h, t))) (big : (flat h t).length ≤ 3000000000000000000) (x : It) (ha : Asks mx h t (ky x)) :
    Calls Try.prog 74 #[ptr b, kv (ky x), vv x] w (SetT w b hr H L F mn mx (some (h, t)) x) := by
  obtain ⟨n, hroot, hpre⟩ := root_pre T big
  have hcall : ∀ W, Keep Nothing w W → Calls Try.prog 124 #[ptr b, .pointer (some ⟨b, 2, none⟩), pv x] W (SetPost W H L F hr.iso mn mx h n t x hr.emp) := fun W hK => set_any x h t W b 2 n H L F (hpre W hK)
  have HT := Lib.hid T
  have HC := Lib.hid hcall
  have HR := Lib.hid hroot
  have HA := Lib.hid ha
  have HP := Lib.hid (hpre w (Keep.refl _ _))
  have HBIG := Lib.hid big
  clear T hcall hroot hpre ha big
  unfold ptr pv kv vv at *
  go_enter Try.func74, Try.ntmps74
  go_upto_region 2 with (fail)
  refine wp_world ?_
  intro W1 hW1
  generalize hq : w.heap.size = q at *
  have K1 : Hid (Keep Nothing w W1) := by
    subst hW1; exact (Keep.refl _ _).al _
  have X1 : Hid (W1.heap[q]? = some (.cells (E.enc x).toArray 161 (0, 0))) := by
    subst hW1; subst hq; exact heap_alloc_new w _
  have XQ := Lib.hid hq
  clear hW1 hq
  have H1 : Hid (Hdr W1 b hr) := by exact blk_keep HT.out.hdr K1.out fun _ h => h
  have c2 := hdr_root H1.out
  rw [HR.out] at c2
  simp only [rootV, Option.map_some] at c2
  have fz := hdr_fz H1.out
  go_upto_region 9 with (fail)
  clear c2 fz
  go_cut [10, 11] (fun s10 s11 wx => s10 = .bool false ∧ s11 = .bool true ∧ Keep Nothing W1 wx)
  case first =>
    have kx0 : W1.cell? ⟨q, 0, none⟩ = some (.int .i64 x.2) := by have := X1.out; simp only [World.cell?, this]; rfl
    have kx1 : W1.cell? ⟨q, 1, none⟩ = some (.string (ky x)) := by have := X1.out; simp only [World.cell?, this]; rfl
    have hcl := Lib.hid (HC.out W1.drew K1.out.dr)
    go_wp2_with fail
    refine wp_calm (by kernel_rfl) (by kernel_rfl) rfl ?_
    simp only [List.flatMap_cons, List.flatMap_nil, checks, chk, nilLit, List.cons_append, List.nil_append, List.append_nil]
    go_wp2_with fail
    refine hcl.out.mono ?_
    rintro e w' (⟨_, rfl, hk⟩ | ⟨h1, _⟩)
    rotate_left
    · exact absurd HA.out h1
    have HK0 := Lib.hid hk
    clear hk hcl kx0 kx1
    unfold vv
    go_wp2_with fail
    rw [HQ_normal]
    go_wp2_with fail
    go_meet
    exact ⟨rfl, rfl, (Keep.refl _ _).dr.trans HK0.out fun _ _ _ h => h⟩
  case rest =>
    obtain ⟨rfl, rfl, hK⟩ := hcut
    have KC : Hid (Keep Nothing w wc) := by exact K1.out.trans hK fun _ _ _ h => h
    have X2 := Lib.hid (blk_keep X1.out hK fun _ h => h)
    clear hK K1 X1 H1
    have H2 : Hid (Hdr wc b hr) := by exact blk_keep HT.out.hdr KC.out fun _ h => h
    have hm2 : Hid (Mem TT E wc H L) := by exact HT.out.mem.keepS KC.out fun _ _ _ _ _ _ h => h
    obtain ⟨nF, rc, hrc, hci, hits, hcn⟩ := HP.out.rep.root
    have HRC := Lib.hid hrc
    have hsp := Lib.hid (split_step H2.out hm2.out HP.out.hmx HP.out.h3 HP.out.hb HP.out.rep HP.out.wf HP.out.nd HA.out.full HBIG.out hrc)
    clear nF hrc hci hits hcn
    have c2 := hdr_root H2.out
    rw [HR.out] at c2
    simp only [rootV, Option.map_some] at c2
    have fz := hdr_fz H2.out
    unfold ptr pv kv at hsp
    go_wp2_with fail
    refine hsp.out.mono ?_
    rintro e W3 ⟨m, med, rfl, hk, hh⟩
    obtain ⟨H', L', F1, F2, A⟩ := halved HT.out HR.out HA.out.full HRC.out KC.out hk hh
    have hloc : ∀ c, q ≤ c → c < wc.heap.size → W3.heap[c]? = wc.heap[c]? := fun c h1 h2 => hk.whole h2 fun o hf => by
      have := (HT.out.mem.at_ n rc HRC.out).lt hf
      have := XQ.out
      omega
    have X3 := Lib.hid ((hloc (q) (by omega) (lt_of_heap X2.out)).trans X2.out)
    have HA2 := Lib.hid A
    have hwq : q < wc.heap.size := lt_of_heap X2.out
    clear hloc A hk hh hsp c2 fz X2 H2 hm2 KC
    go_upto_region 13 with (fail)
    refine wp_world ?_
    intro WB hWB
    generalize hp : W3.heap.size = p at *
    have KB : Hid (Keep Nothing W3 WB) := by
      subst hWB; exact (Keep.refl _ _).al _
    have M0 : Hid (WB.heap[p]? = some (.cells (E.enc med).toArray 161 (0, 0))) := by
      subst hWB; subst hp; exact heap_alloc_new W3 _
    have SB : Hid (WB.heap.size = p + 1) := by
      subst hWB; rw [← hp]; exact World.size_alloc _ _
    have hpq : Hid (q < p) := by have := lt_of_heap X3.out; rw [hp] at this; exact this
    have X0 := Lib.hid (blk_keep X3.out KB.out fun _ h => h)
    have hbq : b < q := by have := lt_of_heap HT.out.hdr; rwa [XQ.out] at this
    have O0 := Lib.hid (Own.one (T := TT) (E := E) (S := fun c o => FP TT H' L' [] c o ∨ c = b) (w := WB) (r := .blk b (hdrC hr) 166) (blk_keep HA2.out.hdr KB.out fun _ h => h) (fun _ _ h => .inr h))
    have HL : Hid (∀ (W : World), Keep (fun c o => FP TT H' L' [] c o ∨ c = b) WB W → ∀ (c : Nat) (ob : Obj), c ≠ b → WB.heap[c]? = some ob → W.heap[c]? = some ob) := by
      exact fun W k c ob hc hb => blk_keep hb k fun o h => h.elim (fun ⟨_, _, h, _⟩ => by cases h) hc
    clear hWB hp X3
    have hnn := Lib.hid (newNode_any (O0.out.blk_ 0 rfl : Hdr WB b hr) false)
    unfold ptr at hnn
    go_wp2_with fail
    refine hnn.out.mono ?_
    rintro e WC ⟨nn, Ln, rfl, hnw, k3, hm, hfpm⟩
    have O1 := Lib.hid (O0.out.add k3 (r := .node nn ⟨hr.iso, 0, [], some []⟩ Ln) hm hfpm)
    have NW := Lib.hid hnw
    clear hnn k3 hm hfpm O0 hnw
    simp only [List.cons_append, List.nil_append] at O1
    have c2 := hdr_root (O1.out.blk_ 0 rfl : Hdr WC b hr)
    rw [HR.out] at c2
    simp only [rootV, Option.map_some] at c2
    have fz := hdr_fz (O1.out.blk_ 0 rfl : Hdr WC b hr)
    unfold ptr
    go_upto_region 14 with (fail)
    refine wp_world ?_
    intro WD hWD
    have O2 : Hid (Own TT E (fun c o => FP TT H' L' [] c o ∨ c = b) WB WD [.blk b (hdrC { hr with root := some nn }) 166, .node nn ⟨hr.iso, 0, [], some []⟩ Ln]) := by
      subst hWD; exact O1.out.set 0 rfl 2 (rootV (some nn))
    clear hWD O1 c2 fz
    go_cut [] (fun wx => ∃ L2, NTurn TT E WD nn ⟨hr.iso, 0, [], some []⟩ Ln wx ⟨hr.iso, 0, [], some []⟩ L2)
    case first =>
      have hn2 := Lib.hid (O2.out.node_ 1 rfl)
      have c2 := hdr_root (O2.out.blk_ 0 rfl : Hdr WD b { hr with root := some nn })
      simp only [rootV, Option.map_some] at c2
      have c6 := hdr_mx (O2.out.blk_ 0 rfl : Hdr WD b { hr with root := some nn })
      simp only at c6
      rw [HP.out.hmx] at c6
      obtain ⟨c3, g1, fz, _, _⟩ := hn2.out.kids rfl
      unfold ptr at c3
      have e1 := World.new_ne WD _ c2
      have e2 := World.new_ne WD _ c6
      have e3 := World.new_ne WD _ c3
      have e4 := World.new_ne WD _ g1
      have hcbw := lt_of_cell g1
      have cm1 : ∀ o, (WD.alloc o).cell? ⟨Ln.cb, 0, none⟩ = some (.slice Ln.ka 0 Ln.kcap) := fun o => cell_al o g1
      have cm2 : ∀ o, (WD.alloc o).frozen? ⟨Ln.cb, 0, none⟩ = false := fun o => (fz_al o hcbw (fz 0)).2
      have hcb1 : b ≠ Ln.cb := fun e => O2.out.apart 0 1 _ _ (by omega) rfl rfl Ln.cb 0 e.symm (.inr (.inr ⟨rfl, .inl rfl⟩))
      have hcb2 : nn ≠ Ln.cb := blk_ne hn2.out.1 (hn2.out.2.2.2 _ rfl).1 ty_ok.c
      have hmxb : (mx : Int) ≤ 1000000000000 := by have := HP.out.hb; omega
      obtain ⟨cs, hcs, hmk⟩ := run_make0 (P := Try.prog) 173 164 1 8 Try.underlying173 ⟨by kernel_rfl, by kernel_rfl, by kernel_rfl⟩ 0 (mx + 1) (by omega) (by omega) (by omega)
      have hwr : IntKind.i64.wrap ((mx : Int) + 1) = ((mx + 1 : Nat) : Int) := by rw [IntKind.wrap_i64]; omega
      have hmk' : ∀ w, (Instr.makeSlice 173 (.int .i64 0) (.int .i64 ((mx : Int) + 1))).run Try.prog w = .ok (.slice (some ⟨w.heap.size, 0, none⟩) 0 (mx + 1)) (w.alloc (.cells cs 164)) := fun w => hmk w
      have HCS := Lib.hid hcs
      clear hcs hmk
      go_region_held3 (fun w' => w'.cell? ⟨b, 2, none⟩ = some (.pointer (some ⟨nn, 0, none⟩)) ∧ w'.cell? ⟨b, 7, none⟩ = some (.int .i64 mx) ∧ w'.cell? ⟨nn, 3, none⟩ = some (.pointer (some ⟨Ln.cb, 0, none⟩))) ((go_split_ands; refine ⟨?_, ?_, ?_⟩ <;> first | assumption | (refine cell_al _ ?_; assumption) | (refine cell_al _ (cell_set ?_ ?_) <;> assumption))) (fail)
      all_goals
        go_wp2_with fail
        go_meet
        have hrw : Row (WD.alloc (.cells cs 164)) TT.nodeP 1 (some ⟨WD.heap.size, 0, none⟩) (mx + 1) (([] : List Nat).map ptr) := .inr ⟨_, 0, cs, rfl, heap_alloc_new WD _, by simp, by rw [HCS.out]; omega, by simp⟩
        have hk1 : Keep (fun b _ => WD.heap.size ≤ b) WD (WD.alloc (.cells cs 164)) := Keep.alloc _ _ _
        have hf1 : ∀ b o, rowFp (some ⟨WD.heap.size, 0, none⟩) (mx + 1) b o → WD.heap.size ≤ b := fun c o hf => Nat.le_of_eq (rowFp_some hf).1.symm
        have := nk_fresh ty_ok hn2.out rfl (Keep.refl _ WD) hk1 hrw (Nat.zero_le _) hf1
        rw [World.setCell_alloc_past _ _ _ _ hcbw] at this
        exact ⟨_, this.dr⟩
    case rest =>
      obtain ⟨L2, nt⟩ := hcut
      have O3 := Lib.hid (O2.out.nt 1 rfl nt)
      clear nt O2
      simp only [List.set] at O3
      go_upto_region 15 with (fail)
      have hn3 := Lib.hid (O3.out.node_ 1 rfl)
      go_cut [] (fun wx => ∃ L', NTurn TT E wc nn ⟨hr.iso, 0, [], some []⟩ L2 wx ⟨hr.iso, 0, [], some [n, m]⟩ L')
      case first =>
        have c2 := hdr_root (O3.out.blk_ 0 rfl : Hdr wc b { hr with root := some nn })
        simp only [rootV, Option.map_some] at c2
        obtain ⟨c3, g1, fz, _, _⟩ := hn3.out.kids rfl
        unfold ptr at c3
        have hcbw := lt_of_cell g1
        have fz0 := fz 0
        have hcb1 : b ≠ L2.cb := fun e => O3.out.apart 0 1 _ _ (by omega) rfl rfl L2.cb 0 e.symm (.inr (.inr ⟨rfl, .inl rfl⟩))
        have hcb2 : nn ≠ L2.cb := blk_ne hn3.out.1 (hn3.out.2.2.2 _ rfl).1 ty_ok.c
        go_region_held3 (fun w' => w'.cell? ⟨b, 2, none⟩ = some (.pointer (some ⟨nn, 0, none⟩)) ∧ w'.cell? ⟨nn, 3, none⟩ = some (.pointer (some ⟨L2.cb, 0, none⟩))) ((go_split_ands; refine ⟨?_, ?_⟩ <;> first | assumption | (refine cell_al _ ?_; assumption) | (refine cell_grew hg ?_; assumption) | (refine cell_set ?_ ?_ <;> assumption)))
          ((refine step_append_any rfl (Operand.tmp 101) (Operand.tmp 104) 173 rfl 164 1 8 Try.underlying173 ⟨by kernel_rfl, by kernel_rfl, by kernel_rfl⟩ _ 0 0 [] (by rfl) (Row.empty (by first | exact blk_two _ rfl | exact blk_last (by simp))) rfl _ 2 2 [ptr n, ptr m] (by rfl) rfl (fun j u hj => new_cells (cs := [ptr n, ptr m]) (by first | exact blk_two _ rfl | exact blk_last (by simp)) j u hj) (by intro u hu; simp at hu; rcases hu with rfl | rfl <;> rfl) (by omega) (by omega) (by simp [maxLen]) (by omega) ?_; intro a' cap' w1 hg; have cm1 := cell_grew hg (cell_al _ (cell_al _ g1)); have fz1 := (fz_grew hg (fz_al _ (fz_al _ hcbw fz0).1 (fz_al _ hcbw fz0).2).1 (fz_al _ (fz_al _ hcbw fz0).1 (fz_al _ hcbw fz0).2).2).2))
        all_goals
          go_wp2_with fail
          go_meet
          obtain ⟨hk1, hf1⟩ := hg.fresh (w := wc) ((((Keep.refl _ _).al _).al _).dr)
          simp only [Nat.mul_one] at hf1
          exact ⟨_, nk_fresh ty_ok hn3.out rfl (Keep.refl _ wc) hk1 (new := [n, m]) hg.row hg.cap hf1⟩
      case rest =>
        obtain ⟨L4, nt⟩ := hcut
        have O4 := Lib.hid (O3.out.nt 1 rfl nt)
        clear nt O3 hn3
        simp only [List.set] at O4
        go_upto_region 16 with (fail)
        have hn4 := Lib.hid (O4.out.node_ 1 rfl)
        go_cut [] (fun wx => ∃ L', NTurn TT E wc nn ⟨hr.iso, 0, [], some [n, m]⟩ L4 wx ⟨hr.iso, 0, [med], some [n, m]⟩ L')
        case first =>
          have c2 := hdr_root (O4.out.blk_ 0 rfl : Hdr wc b { hr with root := some nn })
          simp only [rootV, Option.map_some] at c2
          have M4 := HL.out wc O4.out.keep p _ (by have := hpq.out; omega) M0.out
          have cm0 : wc.cell? ⟨p, 0, none⟩ = some (.int .i64 med.2) := by simp only [World.cell?, M4]; rfl
          have cm : wc.cell? ⟨p, 1, none⟩ = some (kv (ky med)) := by simp only [World.cell?, M4]; rfl
          unfold kv at cm
          obtain ⟨d0, d1, g1, d3, fz⟩ := hn4.out.own
          clear d0 d1 d3 M4
          have hcbw := lt_of_cell g1
          have fz0 := fz 2
          have hb1 : b ≠ nn := fun e => O4.out.apart 0 1 _ _ (by omega) rfl rfl nn 0 e.symm (.inl rfl)
          have hb2 : p ≠ nn := by have := NW.out; have := SB.out; omega
          go_region_held3 (fun w' => w'.cell? ⟨b, 2, none⟩ = some (.pointer (some ⟨nn, 0, none⟩)) ∧ w'.cell? ⟨p, 0, none⟩ = some (.int .i64 med.2) ∧ w'.cell? ⟨p, 1, none⟩ = some (.string (ky med))) ((go_split_ands; refine ⟨?_, ?_, ?_⟩ <;> first | assumption | (refine cell_al _ ?_; assumption) | (refine cell_grew hg ?_; assumption) | (refine cell_set ?_ ?_ <;> assumption)))
            ((refine step_append_any rfl (Operand.tmp 111) (Operand.tmp 113) 169 rfl 161 2 24 Try.underlying169 ⟨by kernel_rfl, by kernel_rfl, by kernel_rfl⟩ _ 0 0 [] (by rfl) (Row.empty (by first | exact blk_two _ rfl | exact blk_last (by simp))) rfl _ 1 1 (E.enc med) (by rfl) (E.len _) (fun j u hj => new_cells (cs := E.enc med) (by first | exact blk_two _ rfl | exact blk_last (by simp)) j u hj) (E.one _) (by omega) (by omega) (by simp [maxLen]) (by omega) ?_; intro a' cap' w1 hg; have cm1 := cell_grew hg (cell_al _ (cell_al _ g1)); have fz1 := (fz_grew hg (fz_al _ (fz_al _ hcbw fz0).1 (fz_al _ hcbw fz0).2).1 (fz_al _ (fz_al _ hcbw fz0).1 (fz_al _ hcbw fz0).2).2).2))
          all_goals
            go_wp2_with fail
            go_meet
            obtain ⟨hk1, hf1⟩ := hg.fresh (w := wc) ((((Keep.refl _ _).al _).al _).dr)
            have hrw := hg.row
            simp only [List.nil_append] at hrw
            exact ⟨_, nt_fresh ty_ok hn4.out (Keep.refl _ wc) hk1 (its := [med]) (by simp only [Enc.all, List.flatMap_cons, List.flatMap_nil, List.append_nil]; exact hrw) hg.cap hf1⟩
        case rest =>
          obtain ⟨L5, nt⟩ := hcut
          have O5 := Lib.hid (O4.out.nt 1 rfl nt)
          clear nt O4 hn4
          simp only [List.set] at O5
          obtain ⟨_, rl, el, _, _, ecl⟩ := HA2.out.rl.root
          obtain ⟨_, rr, er, _, _, ecr⟩ := HA2.out.rr.root
          have hm5 : Mem TT E wc H' L' := (HA2.out.ts.mem.keepS KB.out fun _ _ _ _ _ _ h => h).keepS O5.out.keep fun a q c o hq hf hs => hs.elim (fun ⟨_, _, h, _⟩ => by cases h) (HA2.out.local a q c o hq hf)
          have hnl : n < WB.heap.size := (HA2.out.ts.mem.keepS KB.out fun _ _ _ _ _ _ h => h).lt el
          have hml : m < WB.heap.size := (HA2.out.ts.mem.keepS KB.out fun _ _ _ _ _ _ h => h).lt er
          have hfl : ((flat h t).length : Int) = rl.cnt + rr.cnt + 1 := by rw [HA2.out.fl, ecl, ecr]; simp; omega
          have hup := Lib.hid (updateCount_any (O5.out.node_ 1 rfl) (by simp) (cntOf H') (fun ks hks => by
            obtain rfl : [n, m] = ks := Option.some.inj hks
            have := HBIG.out
            refine ⟨by simp, by simp [cntOf, el, er]; omega, fun k hk => ?_⟩
            simp only [List.mem_cons, List.not_mem_nil, or_false] at hk
            have := NW.out
            rcases hk with rfl | rfl
            · exact ⟨by omega, by simp [cntOf, el]; omega, by rw [(hm5.at_ _ _ el).own.2.1]; simp [cntOf, el]⟩
            · exact ⟨by omega, by simp [cntOf, er]; omega, by rw [(hm5.at_ _ _ er).own.2.1]; simp [cntOf, er]⟩))
          have hcn : Hid ((1 : Int) + kidSum (cntOf H') (some [n, m]) = ((flat h t).length : Int)) := by
            show (1 : Int) + ([n, m].map (cntOf H')).sum = _
            simp [cntOf, el, er]; omega
          clear el er ecl ecr hm5 hnl hml hfl
          have c2 := hdr_root (O5.out.blk_ 0 rfl : Hdr wc b { hr with root := some nn })
          simp only [rootV, Option.map_some] at c2
          unfold ptr at hup
          go_wp2_with fail
          refine hup.out.mono ?_
          intro e we hpo
          have hat := upd_node (O5.out.node_ 1 rfl) hpo
          obtain ⟨rfl, hku, _⟩ := hpo
          have O6 := Lib.hid (O5.out.turn 1 rfl (r' := .node nn ⟨hr.iso, ((flat h t).length : Int), [med], some [n, m]⟩ L5) (hku.mono fun _ _ _ h => .inl h.1) (by have h2 := hcn.out; rw [← h2]; exact hat) (fun _ _ _ h => h))
          clear hat hku O5 hup c2 hcn
          simp only [List.set] at O6
          obtain ⟨H2, L6, F2', ts, T2, fl2, clr⟩ := HA2.out.tree HT.out KB.out HR.out O6.out NW.out
          have TS := Lib.hid ts
          have TT2 := Lib.hid T2
          have FL := Lib.hid fl2
          have CLR := Lib.hid clr
          have X6 := Lib.hid (HL.out we O6.out.keep (q) _ (by omega) X0.out)
          have hset := Lib.hid (set_plain TT2.out (by rw [FL.out]; exact HBIG.out) x (fun a => by have := a.full; have := HT.out.par.odd; have := HT.out.par.pos; simp [Tr.its] at *; omega))
          clear ts T2 fl2 clr O6 X0
          have kx0 : we.cell? ⟨q, 0, none⟩ = some (.int .i64 x.2) := by have := X6.out; simp only [World.cell?, this]; rfl
          have kx1 : we.cell? ⟨q, 1, none⟩ = some (.string (ky x)) := by have := X6.out; simp only [World.cell?, this]; rfl
          unfold ptr kv vv at hset
          go_wp2_with fail
          refine hset.out.mono ?_
          rintro e w' ⟨hr', H'', L'', F'', s', pp, rfl, ts5, T5, put, i1, i2, i3, i4⟩
          unfold vv
          simp only at i1 i2 i3
          go_wp2_with fail
          go_ret2
          simp only [its] at put
          rw [FL.out] at put
          exact ⟨hr', H'', L'', F'', s', pp, rfl, TS.out.then HT.out.mem ts5, T5, put, i1, i2, i3, i4⟩

/-- SETTING IN A TREE. -/
theorem set_tree {w : World} {b : Nat} {hr : HRec} {H : Store It} {L : Nat → Lay} {F : List Nat} {mn mx : Nat} {s : Sh} (T : TreeAt w b hr H L F mn mx s) (big : (its s).length ≤ 3000000000000000000) (x : It) :
    Calls Try.prog 74 #[ptr b, kv (ky x), vv x] w (SetT w b hr H L F mn mx s x) := by
  cases s with
  | none => exact set_nil T x
  | some p =>
    obtain ⟨h, t⟩ := p
    by_cases ha : Asks mx h t (ky x)
    · exact set_split T big x ha
    · exact set_plain T big x ha
end Go.Proofs.Ytckplcmieelmpaa.W

namespace Go.Proofs.Ytckplcmieelmpaa.W
open Go.RowKit Go.Wb

/-- What is handed from a tree to a growing slice of keys. -/
def KeysPost (B : Nat) (w : World) (xs : List Ky) (e : Ending) (w' : World) : Prop := ∃ a cap, e = .returned (.slice a xs.length cap) ∧ Acc B w' 9 1 a xs.length cap (xs.map kv) ∧ Keep (fun b _ => B ≤ b) w w'

theorem wl_succ {α : Type} (K : List (List α)) (I : List α) (i : Nat) {k : List α} {x : α} (hk : K[i]? = some k) (hx : I[i]? = some x) : wl (K.take (i + 1)) (I.take (i + 1)) = wl (K.take i) (I.take i) ++ k ++ [x] := by
  induction i generalizing K I with
  | zero =>
    cases K with
    | nil => simp at hk
    | cons a K => cases I with
      | nil => simp at hx
      | cons b I => simp at hk hx; subst hk; subst hx; simp [wl]
  | succ i ih =>
    cases K with
    | nil => simp at hk
    | cons a K => cases I with
      | nil => simp at hx
      | cons b I =>
        simp only [List.take_succ_cons, wl, List.cons_append, List.append_assoc]
        rw [ih K I (by simpa using hk) (by simpa using hx)]
        simp
theorem wl_last {α : Type} {h : Nat} {its : List α} {ks : List (Tr α)} (hl : ks.length = its.length + 1) {k : Tr α} (hk : ks[its.length]? = some k) : flat (h + 1) (.node its ks) = wl ((ks.map (flat h)).take its.length) its ++ flat h k := by
  obtain ⟨hlt, rfl⟩ := List.getElem?_eq_some_iff.1 hk
  have e : ks = ks.take its.length ++ ks[its.length] :: [] := by
    have := List.take_append_drop its.length ks
    rw [List.drop_eq_getElem_cons hlt, List.drop_eq_nil_of_le (by omega)] at this
    exact this.symm
  have h1 := wl_wr ((ks.take its.length).map (flat h)) its (flat h ks[its.length]) [] [] (by simp; omega)
  simp only [List.append_nil, wr] at h1
  simp only [flat, Tr.its, Tr.ks]
  conv => lhs; rw [e]
  rw [List.map_append, List.map_cons, List.map_nil, h1, List.map_take]

theorem elemK : Elem Try.prog 9 1 16 := ⟨by kernel_rfl, by kernel_rfl, by kernel_rfl⟩

/-- The key's cell of an item of a node. -/
theorem node_key {w : World} {n : Nat} {r : NRec It} {L : Lay} (hn : NodeAt TT E w n r L) {i : Nat} {x : It} (hi : r.items[i]? = some x) : ∃ ib io, L.ia = some ⟨ib, io, none⟩ ∧
    w.cell? ⟨ib, io + i * 2 + 1, none⟩ = some (kv (ky x)) := by
  obtain ⟨hil, _⟩ := List.getElem?_eq_some_iff.1 hi
  have hrow := hn.2.1
  obtain ⟨ib, io, hia, _⟩ := hrow.form (by rw [E.all_len]; exact Nat.mul_pos (by omega) E.pos)
  rw [hia] at hrow
  exact ⟨ib, io, hia, key_cell hrow hi⟩

set_option maxRecDepth 100000 in
set_option maxHeartbeats 4000000 in
theorem keys_leaf {w0 : World} {n : Nat} {r : NRec It} {L : Lay} (hn : NodeAt TT E w0 n r L) (hlf : r.kids = none) (hlen : r.items.length ≤ 1000000000000) (B : Nat) (hB : B = w0.heap.size) {w : World} (hK : Keep (fun b _ => B ≤ b) w0 w) {a : Option Addr} {cap : Nat} {xs : List Ky}
    (hA : Acc B w 9 1 a xs.length cap (xs.map kv)) (hb : xs.length + r.items.length ≤ 4000000000000) :
    Calls Try.prog 153 #[ptr n, .slice a xs.length cap] w (KeysPost B w (xs ++ r.items.map ky)) := by
  have HN := Lib.hid hn
  have HB0 := Lib.hid hB
  have HK := Lib.hid hK
  have HA := Lib.hid hA
  have nodeat : Hid (∀ W, Keep (fun b _ => B ≤ b) w0 W → NodeAt TT E W n r L) := by
    exact fun W k => hn.keep k fun b o hf h => by have := hn.lt hf; omega
  have hlv := leaf_any (nodeat.out w hK)
  rw [hlf] at hlv
  simp only [Option.isNone_none] at hlv
  clear hn hlf hK hA hB
  unfold ptr at *
  go_enter Try.func153, Try.ntmps153
  go_wp2_with fail
  refine hlv.mono ?_
  rintro e w1 ⟨rfl, rfl⟩
  clear hlv
  go_wp2_with fail
  go_loopg [1, 5] (r.items.length + 1) (fun k v1 v5 wr => ∃ (i : Nat) (a' : Option Addr) (cap' : Nat), v5 = .int .i64 i ∧ v1 = .slice a' (xs.length + i) cap' ∧ i ≤ r.items.length ∧ i + k = r.items.length + 1 ∧ Keep (fun b _ => B ≤ b) w wr ∧ Acc B wr 9 1 a' (xs.length + i) cap' ((xs ++ (r.items.take i).map ky).map kv))
  case atStart => exact ⟨0, a, cap, rfl, rfl, by omega, by omega, Keep.refl _ _, by simpa using HA.out⟩
  case round =>
    obtain ⟨i, a1, cap1, rfl, rfl, hil, hik, hK1, hA1⟩ := hrel
    have HK1 := Lib.hid hK1
    have HA1 := Lib.hid hA1
    have N1 := Lib.hid (nodeat.out wr (HK.out.trans hK1 fun _ _ _ h => h))
    obtain ⟨d0, d1, c2, d3, fz⟩ := N1.out.own
    clear d0 d1 d3 hK1 hA1
    by_cases hlt : i < r.items.length
    · have hx : r.items[i]? = some r.items[i] := List.getElem?_eq_getElem hlt
      have HX := Lib.hid hx
      obtain ⟨ib, io, hia, ck⟩ := node_key N1.out hx
      rw [hia] at c2
      generalize r.items[i] = x at *
      have hBw : B ≤ wr.heap.size := by have := HB0.out; have := HK.out.size; have := HK1.out.size; omega
      clear hx hia
      unfold kv at ck
      go_wp2_with (at_builtin; refine wpList_append_any rfl _ _ _ rfl 9 1 16 Try.underlying22 elemK a1 (xs.length + i) cap1 _ rfl (HA1.out.quiet (Keep.alloc _ _ _)).row HA1.out.len ⟨wr.heap.size, 0, none⟩ 1 1 [kv (ky x)] rfl rfl (new_cells (heap_alloc_new wr _)) (by intro u hu; rw [List.mem_singleton.1 hu]; rfl) (by omega) HA1.out.le (by simp only [maxLen]; omega) (by omega) ?_; intro a2 cap2 w2 hg)
      obtain ⟨hA2, hK2⟩ := (HA1.out.quiet (Keep.alloc _ _ _)).grow (by simp; omega) hg rfl
      have HA2 := Lib.hid hA2
      have HK2 : Hid (Keep (fun b _ => B ≤ b) w w2) := by exact (HK1.out.al _).trans hK2 fun _ _ _ h => h
      clear hg hA2 hK2 ck c2 fz
      go_wp2_with fail
      go_roundg (r.items.length - i)
      case measure => omega
      case rel =>
        refine ⟨i + 1, a2, cap2, by go_num, by simp [Nat.add_assoc], by omega, by omega, HK2.out, ?_⟩
        have e : (xs ++ (r.items.take (i + 1)).map ky).map kv = (xs ++ (r.items.take i).map ky).map kv ++ [kv (ky x)] := by
          rw [List.take_add_one, HX.out]; simp
        rw [e]
        exact HA2.out
    · have hi : i = r.items.length := by omega
      subst hi
      go_wp2_with fail
      go_ret
      refine ⟨a1, cap1, by simp, ?_, HK1.out⟩
      have := HA1.out
      rw [List.take_of_length_le (Nat.le_refl _)] at this
      simpa using this

set_option maxRecDepth 100000 in
set_option maxHeartbeats 8000000 in
theorem keys_inner {w0 : World} {n h : Nat} {r : NRec It} {L : Lay} (hn : NodeAt TT E w0 n r L) {ns : List Nat} (hkd : r.kids = some ns) {ks : List (Tr It)} (hks : ks.length = r.items.length + 1) (hnl : ns.length = ks.length) (hlen : r.items.length ≤ 1000000000000) (B : Nat) (hB : B = w0.heap.size)
    (IH : ∀ (i m : Nat) (k : Tr It) (w : World) (a : Option Addr) (cap : Nat) (xs : List Ky), ns[i]? = some m → ks[i]? = some k → Keep (fun b _ => B ≤ b) w0 w → Acc B w 9 1 a xs.length cap (xs.map kv) → xs.length + (flat h k).length ≤ 4000000000000 →
      Calls Try.prog 153 #[ptr m, .slice a xs.length cap] w (KeysPost B w (xs ++ (flat h k).map ky)))
    {w : World} (hK : Keep (fun b _ => B ≤ b) w0 w) {a : Option Addr} {cap : Nat} {xs : List Ky}
    (hA : Acc B w 9 1 a xs.length cap (xs.map kv)) (hb : xs.length + (flat (h + 1) (.node r.items ks)).length ≤ 4000000000000) :
    Calls Try.prog 153 #[ptr n, .slice a xs.length cap] w (KeysPost B w (xs ++ (flat (h + 1) (.node r.items ks)).map ky)) := by
  have HN := Lib.hid hn
  have HB0 := Lib.hid hB
  have HK := Lib.hid hK
  have HA := Lib.hid hA
  have HI := Lib.hid IH
  have HKD := Lib.hid hkd
  have HKS := Lib.hid hks
  have HNL := Lib.hid hnl
  have nodeat : Hid (∀ W, Keep (fun b _ => B ≤ b) w0 W → NodeAt TT E W n r L) := by
    exact fun W k => hn.keep k fun b o hf h => by have := hn.lt hf; omega
  have hlv := leaf_any (nodeat.out w hK)
  rw [hkd] at hlv
  simp only [Option.isNone_some] at hlv
  have part : Hid (∀ i, i ≤ r.items.length → (wl ((ks.map (flat h)).take i) (r.items.take i)).length ≤ (flat (h + 1) (.node r.items ks)).length ∧ ∀ k, ks[i]? = some k → (wl ((ks.map (flat h)).take i) (r.items.take i)).length + (flat h k).length + (if i < r.items.length then 1 else 0) ≤ (flat (h + 1) (.node r.items ks)).length) := by
    intro i hi
    have hl := (flat_len (h := h) hks)
    have hw : ∀ i, i ≤ r.items.length → (wl ((ks.map (flat h)).take i) (r.items.take i)).length = i + (((ks.map fun k => (flat h k).length)).take i).sum := by
      intro i
      induction i with
      | zero => intro _; simp [wl]
      | succ i ih =>
        intro hi
        have hk : (ks.map (flat h))[i]? = some (flat h (ks[i]'(by omega))) := by rw [List.getElem?_map, List.getElem?_eq_getElem (by omega)]; rfl
        rw [wl_succ _ _ i hk (List.getElem?_eq_getElem (by omega)), List.length_append, List.length_append, ih (by omega), List.take_succ_eq_append_getElem (by simp; omega), List.sum_append]
        simp
        omega
    have hs : ∀ j, (((ks.map fun k => (flat h k).length)).take j).sum ≤ ((ks.map fun k => (flat h k).length)).sum := fun j => by
      have := List.sum_append (l₁ := (ks.map fun k => (flat h k).length).take j) (l₂ := (ks.map fun k => (flat h k).length).drop j)
      rw [List.take_append_drop] at this
      omega
    rw [hw i hi, hl]
    refine ⟨by have := hs i; omega, fun k hk => ?_⟩
    have h1 := hs (i + 1)
    obtain ⟨hkl, rfl⟩ := List.getElem?_eq_some_iff.1 hk
    rw [List.take_succ_eq_append_getElem (by simpa using hkl), List.sum_append] at h1
    simp at h1
    split <;> omega
  clear hn hkd hK hA hB IH hks hnl
  unfold ptr at *
  go_enter Try.func153, Try.ntmps153
  go_wp2_with fail
  refine hlv.mono ?_
  rintro e w1 ⟨rfl, rfl⟩
  clear hlv
  go_wp2_with fail
  go_loopg [1, 6] (r.items.length + 1) (fun k v1 v6 wr => ∃ (i : Nat) (a' : Option Addr) (cap' : Nat) (ys : List Ky), v6 = .int .i64 i ∧ v1 = .slice a' ys.length cap' ∧ i ≤ r.items.length ∧ i + k = r.items.length + 1 ∧ Keep (fun b _ => B ≤ b) w wr ∧ Acc B wr 9 1 a' ys.length cap' (ys.map kv) ∧
    ys = xs ++ (wl ((ks.map (flat h)).take i) (r.items.take i)).map ky)
  case atStart => exact ⟨0, a, cap, xs, rfl, rfl, by omega, by omega, Keep.refl _ _, HA.out, by simp [wl]⟩
  case round =>
    obtain ⟨i, a1, cap1, ys, rfl, rfl, hil, hik, hK1, hA1, hys⟩ := hrel
    have HYS := Lib.hid hys
    have HK1 := Lib.hid hK1
    have HA1 := Lib.hid hA1
    have N1 := Lib.hid (nodeat.out wr (HK.out.trans hK1 fun _ _ _ h => h))
    obtain ⟨d0, d1, c2, d3, fz⟩ := N1.out.own
    obtain ⟨c3, g1, fz2, _, _⟩ := N1.out.kids HKD.out
    unfold ptr at c3
    have hkl : ks[i]? = some (ks[i]'(by have := HKS.out; omega)) := List.getElem?_eq_getElem _
    have hnl : ns[i]? = some (ns[i]'(by have := HKS.out; have := HNL.out; omega)) := List.getElem?_eq_getElem _
    have hrow := (N1.out.2.2.2 ns HKD.out).2.1
    obtain ⟨kb, ko, hka, _⟩ := hrow.form (by simp; have := HKS.out; have := HNL.out; omega)
    rw [hka] at hrow g1
    have ck := hrow.cell (i := i) (v := ptr (ns[i]'(by have := HKS.out; have := HNL.out; omega))) (by simp [hnl])
    have hylen : ys.length = xs.length + (wl ((ks.map (flat h)).take i) (r.items.take i)).length := by rw [hys]; simp
    have HYL := Lib.hid hylen
    have hnsl : i < ns.length := (List.getElem?_eq_some_iff.1 hnl).1
    generalize ns[i]'(by have := HKS.out; have := HNL.out; omega) = m at *
    generalize ks[i]'(by have := HKS.out; omega) = k at *
    obtain ⟨p1, p2⟩ := part.out i hil
    have p3 := p2 k hkl
    have HKL := Lib.hid hkl
    have HMN := Lib.hid hnl
    unfold ptr at ck
    clear d0 d1 d3 hK1 hA1 hys hrow hka hkl hnl hylen p1 p2
    by_cases hlt : i < r.items.length
    · have hx : r.items[i]? = some r.items[i] := List.getElem?_eq_getElem hlt
      have HX := Lib.hid hx
      generalize r.items[i] = x at *
      rw [if_pos hlt] at p3
      have hcall := Lib.hid (HI.out i m k wr a1 cap1 ys HMN.out HKL.out (HK.out.trans HK1.out fun _ _ _ h => h) HA1.out (by have := HYL.out; omega))
      clear hx
      unfold ptr at hcall
      go_wp2_with fail
      refine hcall.out.mono ?_
      rintro e w2 ⟨a2, cap2, rfl, hA2, hK2⟩
      have HA2 := Lib.hid hA2
      have HK2 : Hid (Keep (fun b _ => B ≤ b) w w2) := by exact HK1.out.trans hK2 fun _ _ _ h => h
      have HL2 : Hid ((ys ++ (flat h k).map ky).length + 1 ≤ 4000000000000) := Lib.hid (by have := HYL.out; simp; omega)
      clear hA2 hK2 hcall N1 c2 fz c3 g1 fz2 ck
      generalize hz : ys ++ (flat h k).map ky = zs at *
      have HZ := Lib.hid hz
      have N2 := Lib.hid (nodeat.out w2 (HK.out.trans HK2.out fun _ _ _ h => h))
      obtain ⟨d0, d1, c2, d3, fz⟩ := N2.out.own
      obtain ⟨ib, io, hia, ck⟩ := node_key N2.out HX.out
      rw [hia] at c2
      have hBw : B ≤ w2.heap.size := by have := HB0.out; have := HK.out.size; have := HK2.out.size; omega
      unfold kv at ck
      have hl2 := HL2.out
      clear d0 d1 d3 hia hz
      go_wp2_with (at_builtin; refine wpList_append_any rfl _ _ _ rfl 9 1 16 Try.underlying22 elemK a2 zs.length cap2 _ rfl (HA2.out.quiet (Keep.alloc _ _ _)).row HA2.out.len ⟨w2.heap.size, 0, none⟩ 1 1 [kv (ky x)] rfl rfl (new_cells (heap_alloc_new w2 _)) (by intro u hu; rw [List.mem_singleton.1 hu]; rfl) (by omega) HA2.out.le (by simp only [maxLen]; omega) (by omega) ?_; intro a3 cap3 w3 hg)
      obtain ⟨hA3, hK3⟩ := (HA2.out.quiet (Keep.alloc _ _ _)).grow (by simp; omega) hg rfl
      have HA3 := Lib.hid hA3
      have HK3 : Hid (Keep (fun b _ => B ≤ b) w w3) := by exact (HK2.out.al _).trans hK3 fun _ _ _ h => h
      clear hg hA3 hK3 ck c2 fz
      go_wp2_with fail
      go_roundg (r.items.length - i)
      case measure => omega
      case rel =>
        refine ⟨i + 1, a3, cap3, zs ++ [ky x], by go_num, by simp, by omega, by omega, HK3.out, ?_, ?_⟩
        · simpa using HA3.out
        · rw [wl_succ _ _ i (k := flat h k) (by simp [HKL.out]) HX.out, ← HZ.out, HYS.out]
          simp
    · have hi : i = r.items.length := by omega
      subst hi
      have hcall := Lib.hid (HI.out _ m k wr.drew a1 cap1 ys HMN.out HKL.out ((HK.out.trans HK1.out fun _ _ _ h => h).dr) (HA1.out.quiet (Keep.drew _ _)) (by have := HYL.out; omega))
      unfold ptr at hcall
      rw [HNL.out, HKS.out] at g1
      go_wp2_with fail
      refine wp_calm (by kernel_rfl) (by kernel_rfl) rfl ?_
      simp only [List.flatMap_cons, List.flatMap_nil, checks, chk, nilLit, List.cons_append, List.nil_append, List.append_nil]
      go_wp2_with fail
      refine hcall.out.mono ?_
      rintro e w2 ⟨a2, cap2, rfl, hA2, hK2⟩
      have HA2 := Lib.hid hA2
      have HK2 : Hid (Keep (fun b _ => B ≤ b) w w2) := by exact HK1.out.dr.trans hK2 fun _ _ _ h => h
      clear hA2 hK2 hcall N1 c2 fz c3 g1 fz2 ck
      go_wp2_with fail
      rw [HQ_normal]
      go_wp2_with fail
      go_ret
      have e : ys ++ (flat h k).map ky = xs ++ (flat (h + 1) (.node r.items ks)).map ky := by
        rw [wl_last HKS.out HKL.out, HYS.out, List.take_of_length_le (Nat.le_refl _)]
        simp
      rw [← e]
      exact ⟨a2, cap2, by simp, HA2.out, HK2.out⟩

/-- THE KEYS below a node. -/
theorem keys_any {w0 : World} {H : Store It} {L : Nat → Lay} {c : Int} {mn mx : Nat} (hm : Mem TT E w0 H L) (hmx : mx ≤ 1000000000000) (B : Nat) (hB : B = w0.heap.size) : ∀ (h l n : Nat) (t : Tr It) (F : List Nat), Rep H c h n t F → wfr l mn mx h t → ∀ (w : World), Keep (fun b _ => B ≤ b) w0 w → ∀ (a : Option Addr) (cap : Nat) (xs : List Ky),
    Acc B w 9 1 a xs.length cap (xs.map kv) → xs.length + (flat h t).length ≤ 4000000000000 → Calls Try.prog 153 #[ptr n, .slice a xs.length cap] w (KeysPost B w (xs ++ (flat h t).map ky))
  | 0, l, n, t, F, hr, wf, w, hK, a, cap, xs, hA, hb => by
    obtain ⟨r, h1, h2, h3, h4, h5, h6, _⟩ := hr
    obtain ⟨its, ks⟩ := t
    simp only [Tr.its, flat] at *
    subst h3
    exact keys_leaf (hm.at_ n r h1) h5 (by have := wf.2.1; simp only [Tr.its] at this; omega) B hB hK hA hb
  | h + 1, l, n, t, F, hr, wf, w, hK, a, cap, xs, hA, hb => by
    obtain ⟨r, ns, F', h1, h2, h3, h4, h5, h6, _⟩ := hr
    obtain ⟨w1, w2, w3, w4⟩ := wf
    obtain ⟨its, ks⟩ := t
    simp only [Tr.its, Tr.ks] at *
    subst h3
    refine keys_inner (hm.at_ n r h1) h4 w3 h6.len (by omega) B hB (fun i m k w a cap xs hm1 hk hK hA hb => ?_) hK hA hb
    obtain ⟨G, hR⟩ := h6.get hm1 hk
    exact keys_any hm hmx B hB h mn m k G hR (w4 k (List.mem_of_getElem? hk)) w hK a cap xs hA hb
end Go.Proofs.Ytckplcmieelmpaa.W

namespace Go.Proofs.Ytckplcmieelmpaa.W
open Go.RowKit Go.Wb

/-- An item of a key. -/
def itOf (k : Ky) : It := (k, 0)
/-- The item of a key. -/
def findK (l : List It) (k : Ky) : Option It := l.find? fun x => !klt (ky x) k && !klt k (ky x)
theorem findK_less {l : List It} {k : Ky} (h : ∀ a ∈ l, klt (ky a) k = true) : findK l k = none := List.find?_eq_none.2 fun a ha => by simp [h a ha]
theorem findK_more {l : List It} {k : Ky} (h : ∀ a ∈ l, klt k (ky a) = true) : findK l k = none := List.find?_eq_none.2 fun a ha => by simp [h a ha]
theorem findK_append (l m : List It) (k : Ky) : findK (l ++ m) k = (findK l k).or (findK m k) := List.find?_append
theorem findK_mid {A B : List It} {k : Ky} {y : It} (hA : ∀ a ∈ A, klt (ky a) k = true) (h1 : klt (ky y) k = false) (h2 : klt k (ky y) = false) : findK (A ++ y :: B) k = some y := by
  rw [findK_append, findK_less hA]
  simp [findK, h1, h2]

theorem find_leaf {its : List It} {k : Ky} {i : Nat} (h : Loc its k i false) : findK its k = none := by
  obtain ⟨h1, h2⟩ := loc_none h
  rw [← List.take_append_drop i its, findK_append, findK_less h1, findK_more h2]
  rfl
theorem find_own {l mn mx h : Nat} {t : Tr It} (wf : wfr l mn mx h t) (hs : Sorted ilt (flat h t)) {k : Ky} {i : Nat} (hl : Loc t.its k i true) {y : It} (hy : t.its[i]? = some y) : findK (flat h t) k = some y := by
  obtain ⟨A, y', B, e, hA, hy', h1, h2, hlA, hlB⟩ := loc_found (own_sorted wf hs) hl
  rw [hy] at hy'
  cases hy'
  have key : ∃ C D, flat h t = C ++ y :: D := by
    cases h with
    | zero => exact ⟨A, B, e⟩
    | succ h =>
      obtain ⟨its, ks⟩ := t
      simp only [Tr.its] at e
      subst e
      obtain ⟨C, D, hCD⟩ := flat_item (h := h) (A := A) (B := B) (y := y) (ks := ks) wf.2.2.1
      exact ⟨C, D, hCD y⟩
  obtain ⟨C, D, e2⟩ := key
  rw [e2] at hs ⊢
  obtain ⟨_, _, hC⟩ := Sorted.of_append hs
  exact findK_mid (fun a ha => klt_of_eq h1 h2 (hC a ha y (by simp))) h1 h2
theorem find_child {l mn mx h : Nat} {t : Tr It} (wf : wfr l mn mx (h + 1) t) (hs : Sorted ilt (flat (h + 1) t)) {k : Ky} {i : Nat} (hl : Loc t.its k i false) {c : Tr It} (hc : t.ks[i]? = some c) :
    findK (flat (h + 1) t) k = findK (flat h c) k ∧ Sorted ilt (flat h c) ∧ wfr mn mn mx h c := by
  obtain ⟨w1, w2, w3, w4⟩ := wf
  obtain ⟨its, ks⟩ := t
  simp only [Tr.its, Tr.ks] at *
  obtain ⟨hil, _⟩ := List.getElem?_eq_some_iff.1 hc
  obtain ⟨K1, c', K2, rfl, hK1, hc'⟩ := split_at ks i hil
  rw [hc] at hc'
  cases hc'
  obtain ⟨lA, lB⟩ := loc_none hl
  have e : its.take i ++ its.drop i = its := List.take_append_drop _ _
  have hi := hl.1
  simp only [List.length_append, List.length_cons] at w3
  have this := flat_around (lt := ilt) (x := itOf k) iord (h := h) (I1 := its.take i) (I2 := its.drop i) (K1 := K1) (K2 := K2) (k := c) (by simp; omega) (by simp; omega) (by rw [e]; exact hs) lA lB
  rw [e] at this
  obtain ⟨C, D, e2, hC, hD⟩ := this
  rw [e2 c] at hs ⊢
  refine ⟨?_, hs.mid, w4 c (by simp)⟩
  have hC' : findK C k = none := findK_less hC
  have hD' : findK D k = none := findK_more hD
  rw [findK_append, findK_append, hC', hD']
  cases findK (flat h c) k <;> rfl

/-- The value's cell of an item. -/
def GetPost (w : World) (p : Option It) (ep : It) (e : Ending) (w' : World) : Prop := e = .returned (.tuple #[vv (p.getD ep), .bool p.isSome]) ∧ Keep Nothing w w'

set_option maxRecDepth 100000 in
set_option maxHeartbeats 4000000 in
theorem get_any {w : World} {b : Nat} {hr : HRec} {H : Store It} {L : Nat → Lay} {F : List Nat} {mn mx : Nat} {s : Sh} (T : TreeAt w b hr H L F mn mx s) (k : Ky) :
    Calls Try.prog 131 #[ptr b, kv k, .bool false] w (GetPost w (findK (its s) k) hr.emp) := by
  have HT := Lib.hid T
  have hbw := lt_of_heap T.hdr
  clear T
  unfold ptr kv at *
  cases s with
  | none =>
    obtain ⟨hroot, _⟩ := HT.out.root
    have HR := Lib.hid hroot
    clear hroot
    go_enter Try.func131, Try.ntmps131
    go_upto_region 1 with (fail)
    refine wp_world ?_
    intro W1 hW1
    have K1 : Hid (Keep Nothing w W1) := by
      subst hW1; exact Keep.refl _ _
    clear hW1
    have H1 : Hid (Hdr W1 b hr) := by exact blk_keep HT.out.hdr K1.out fun _ h => h
    have c2 := hdr_root H1.out
    rw [HR.out] at c2
    simp only [rootV, Option.map_none] at c2
    have fz := hdr_fz H1.out
    have he := hdr_emp H1.out
    go_wp2_with fail
    go_ret2
    exact ⟨rfl, K1.out⟩
  | some p =>
    obtain ⟨h0, t0⟩ := p
    obtain ⟨n0, hroot, rep, wf⟩ := HT.out.root
    obtain ⟨_, r0, e0, i0, _, _⟩ := rep.root
    have HR := Lib.hid hroot
    have HREP := Lib.hid rep
    have HWF := Lib.hid wf
    have hat0 : Hid (∀ W, Keep Nothing w W → NodeAt TT E W n0 r0 (L n0)) := by exact fun W hK => (HT.out.mem.at_ n0 r0 e0).keep hK fun _ _ _ h => h
    have HI0 := Lib.hid i0
    clear hroot rep wf e0 i0
    go_enter Try.func131, Try.ntmps131
    go_upto_region 1 with (fail)
    refine wp_world ?_
    intro W1 hW1
    generalize hq : w.heap.size = q at *
    have K1 : Hid (Keep Nothing w W1) := by
      subst hW1; exact Keep.refl _ _
    clear hW1 hq
    have H1 : Hid (Hdr W1 b hr) := by exact blk_keep HT.out.hdr K1.out fun _ h => h
    have c2 := hdr_root H1.out
    have hc2 := Lib.hid c2
    rw [HR.out] at c2 hc2
    simp only [rootV, Option.map_some] at c2 hc2
    have fz := hdr_fz H1.out
    have hiso := Lib.hid (isoLoad_own H1.out hc2.out (hat0.out W1 K1.out) HI0.out false)
    unfold ptr at hiso
    go_wp2_with fail
    refine hiso.out.mono ?_
    rintro e w2 ⟨rfl, kd, rfl⟩
    have K2 : Hid (Keep Nothing w (W1.drewN kd)) := by exact K1.out.drN kd
    clear hiso c2 hc2 fz H1 K1
    generalize W1.drewN kd = W2 at *
    unfold ptr
    go_wp2_with fail
    go_loopg [8] (h0 + 1) (fun m v8 wr => ∃ (h l n : Nat) (t : Tr It) (G : List Nat), v8 = .pointer (some ⟨n, 0, none⟩) ∧ h + 1 = m ∧ Keep Nothing w wr ∧ Rep H hr.iso h n t G ∧ wfr l mn mx h t ∧ Sorted ilt (flat h t) ∧ findK (flat h0 t0) k = findK (flat h t) k
      )
    case atStart => exact ⟨h0, 1, n0, t0, F, rfl, rfl, K2.out, HREP.out, HWF.out, HT.out.srt, rfl⟩
    case round =>
      obtain ⟨h, l, n, t, G, rfl, rfl, hKr, hrep, hwf, hsrt, hfd⟩ := hrel
      have HKr := Lib.hid hKr
      have HRr := Lib.hid hrep
      have HWr := Lib.hid hwf
      have HSr := Lib.hid hsrt
      have HFr := Lib.hid hfd
      clear hKr hrep hwf hsrt hfd
      obtain ⟨_, r, er, ir, itr, _⟩ := HRr.out.root
      have N1 := Lib.hid ((HT.out.mem.at_ n r er).keep HKr.out fun _ _ _ h => h)
      have hsr : Sorted ilt r.items := by rw [itr]; exact own_sorted HWr.out HSr.out
      have hlr : r.items.length ≤ 1000000000000 := by rw [itr]; have := HWr.out.own_le.2; have := HT.out.par.hb; omega
      obtain ⟨i, f, hloc⟩ := Loc.ex k r.items hsr
      have hse := Lib.hid (search_loc (tr := ptr b) N1.out hlr hsr hloc)
      have HER := Lib.hid er
      have HIT := Lib.hid itr
      have HIR := Lib.hid ir
      have HLOC := Lib.hid hloc
      clear er itr hsr ir hloc
      unfold ptr kv at hse
      go_wp2_with fail
      refine hse.out.mono ?_
      rintro e w3 ⟨rfl, kd3, rfl⟩
      have K3 : Hid (Keep Nothing w (wr.drewN kd3)) := by exact HKr.out.drN kd3
      clear hse N1 HKr
      generalize wr.drewN kd3 = W3 at *
      have N3 := Lib.hid ((HT.out.mem.at_ n r HER.out).keep K3.out fun _ _ _ h => h)
      obtain ⟨d0, d1, c2, d3, fz⟩ := N3.out.own
      clear d0 d1 d3
      cases f with
      | true =>
        obtain ⟨_, y, hy, _, _⟩ := id HLOC.out
        have HY := Lib.hid hy
        obtain ⟨hil, _⟩ := List.getElem?_eq_some_iff.1 hy
        have hrow := N3.out.2.1
        obtain ⟨ib, io, hia, _⟩ := hrow.form (by rw [E.all_len]; exact Nat.mul_pos (by omega) E.pos)
        rw [hia] at c2 hrow
        have cv := val_cell hrow hy
        have fz2 := hrow.frozen
        have hfind : findK (its (some (h0, t0))) k = some y := by
          show findK (flat h0 t0) k = some y
          rw [HFr.out]
          have hl2 := HLOC.out
          rw [HIT.out] at hl2
          exact find_own HWr.out HSr.out hl2 (by rw [← HIT.out]; exact HY.out)
        have HFI := Lib.hid hfind
        clear hy hrow hia hfind
        go_wp2_with fail
        go_ret2
        exact ⟨by rw [HFI.out]; rfl, K3.out⟩
      | false =>
        have hlv := Lib.hid (leaf_any N3.out)
        unfold ptr at hlv
        cases h with
        | zero =>
          obtain ⟨r', e1, _, _, _, hkn, _, _⟩ := HRr.out
          rw [HER.out] at e1
          cases e1
          rw [hkn] at hlv
          simp only [Option.isNone_none] at hlv
          have H3 : Hid (Hdr W3 b hr) := by exact blk_keep HT.out.hdr K3.out fun _ h => h
          have he := hdr_emp H3.out
          have fzh := hdr_fz H3.out
          have hfind : findK (its (some (h0, t0))) k = none := by
            show findK (flat h0 t0) k = none
            rw [HFr.out]
            show findK t.its k = none
            rw [← HIT.out]
            exact find_leaf HLOC.out
          have HFI := Lib.hid hfind
          clear hkn hfind
          go_wp2_with fail
          refine hlv.out.mono ?_
          rintro e w4 ⟨rfl, rfl⟩
          go_wp2_with fail
          go_ret2
          exact ⟨by rw [HFI.out]; rfl, K3.out⟩
        | succ h =>
          obtain ⟨r', ns, F', e1, _, _, hkn, _, hrl, _⟩ := HRr.out
          rw [HER.out] at e1
          cases e1
          rw [hkn] at hlv
          simp only [Option.isNone_some] at hlv
          obtain ⟨c3, g1, fz3, hrow, _⟩ := N3.out.kids hkn
          unfold ptr at c3
          have wl := HWr.out.2.2.1
          have hil : i < t.ks.length := by have := HLOC.out.1; rw [HIT.out] at this; omega
          have hck : t.ks[i]? = some t.ks[i] := List.getElem?_eq_getElem hil
          have hcn : ns[i]? = some (ns[i]'(by rw [hrl.len]; exact hil)) := List.getElem?_eq_getElem _
          obtain ⟨G', hR'⟩ := hrl.get hcn hck
          have hl2 := HLOC.out
          rw [HIT.out] at hl2
          obtain ⟨q1, q2, q3⟩ := find_child HWr.out HSr.out hl2 hck
          obtain ⟨kb, ko, hka, _⟩ := hrow.form (by simp; have := hrl.len; omega)
          rw [hka] at hrow g1
          have hnl : i < ns.length := by rw [hrl.len]; exact hil
          generalize ns[i]'(by rw [hrl.len]; exact hil) = m at *
          generalize t.ks[i] = c at *
          have ck := hrow.cell (i := i) (v := ptr m) (by simp [hcn])
          obtain ⟨_, rm, em, im, _, _⟩ := hR'.root
          have H3 : Hid (Hdr W3 b hr) := by exact blk_keep HT.out.hdr K3.out fun _ h => h
          have hiso2 := Lib.hid (isoLoad_own H3.out ck ((HT.out.mem.at_ m rm em).keep K3.out fun _ _ _ h => h) im false)
          have Q1 := Lib.hid q1
          have Q2 := Lib.hid q2
          have Q3 := Lib.hid q3
          have HR' := Lib.hid hR'
          unfold ptr at hiso2
          clear hkn hrl wl hck hcn hR' hl2 q1 q2 q3 hrow hka ck em im
          go_wp2_with fail
          refine hlv.out.mono ?_
          rintro e w4 ⟨rfl, rfl⟩
          go_wp2_with fail
          refine hiso2.out.mono ?_
          rintro e w5 ⟨rfl, kd5, rfl⟩
          unfold ptr
          go_wp2_with fail
          go_roundg (h + 1)
          case measure => omega
          case rel => exact ⟨h, mn, m, c, G', rfl, rfl, K3.out.drN kd5, HR'.out, Q3.out, Q2.out, HFr.out.trans Q1.out⟩

set_option maxHeartbeats 1000000 in
theorem mapGet_any {w : World} {b : Nat} {hr : HRec} {H : Store It} {L : Nat → Lay} {F : List Nat} {mn mx : Nat} {s : Sh} (T : TreeAt w b hr H L F mn mx s) (k : Ky) :
    Calls Try.prog 82 #[ptr b, kv k] w (GetPost w (findK (its s) k) hr.emp) := by
  have hg : ∀ W, Keep Nothing w W → Calls Try.prog 131 #[ptr b, kv k, .bool false] W (GetPost W (findK (its s) k) hr.emp) := fun W hK => get_any (T.keep hK) k
  have HG := Lib.hid hg
  clear hg T
  generalize findK (its s) k = p at *
  unfold ptr kv at *
  go_enter Try.func82, Try.ntmps82
  go_upto_region 1 with (fail)
  refine wp_world ?_
  intro W1 hW1
  have K1 : Hid (Keep Nothing w W1) := by
    subst hW1; exact Keep.refl _ _
  clear hW1
  go_wp2_with fail
  refine (HG.out W1 K1.out).mono ?_
  rintro e w2 ⟨rfl, hK2⟩
  have K2 : Hid (Keep Nothing w w2) := by exact K1.out.trans hK2 fun _ _ _ h => h
  clear hK2
  unfold vv
  go_wp2_with fail
  go_ret2
  exact ⟨rfl, K2.out⟩
end Go.Proofs.Ytckplcmieelmpaa.W

namespace Go.Wb
variable {α : Type}

/-- What is handed on, an item in turn, until a function of all that was handed on says no. -/
def handOn (go : List α → Bool) : List α → List α → List α × Bool
  | acc, [] => (acc, true)
  | acc, x :: l => if go (acc ++ [x]) = true then handOn go (acc ++ [x]) l else (acc ++ [x], false)

variable {go : List α → Bool}
theorem handOn_yes {acc l : List α} {x : α} (h : go (acc ++ [x]) = true) : handOn go acc (x :: l) = handOn go (acc ++ [x]) l := by simp [handOn, h]
theorem handOn_no {acc l : List α} {x : α} (h : go (acc ++ [x]) = false) : handOn go acc (x :: l) = (acc ++ [x], false) := by simp [handOn, h]
theorem handOn_append : ∀ (l k acc : List α), handOn go acc (l ++ k) = if (handOn go acc l).2 = true then handOn go (handOn go acc l).1 k else handOn go acc l
  | [], k, acc => by simp [handOn]
  | x :: l, k, acc => by
    simp only [List.cons_append, handOn]
    split
    · exact handOn_append l k _
    · simp
theorem handOn_on {acc acc' l : List α} (h : handOn go acc l = (acc', true)) (k : List α) : handOn go acc (l ++ k) = handOn go acc' k := by simp [handOn_append, h]
theorem handOn_end {acc acc' l : List α} (h : handOn go acc l = (acc', false)) (k : List α) : handOn go acc (l ++ k) = (acc', false) := by simp [handOn_append, h]

theorem handOn_true : ∀ {l acc a : List α}, handOn go acc l = (a, true) → a = acc ++ l
  | [], acc, a, h => by simp [handOn] at h; simp [h]
  | x :: l, acc, a, h => by
    simp only [handOn] at h
    split at h
    · rw [handOn_true h]; simp
    · cases h
theorem handOn_len {l acc a : List α} (h : handOn go acc l = (a, true)) : a.length = acc.length + l.length := by rw [handOn_true h, List.length_append]

/-- Items below a node: those ahead of child i (i is at most the number of items), those behind it, those from it on. -/
def lo (h : Nat) (its : List α) (ks : List (Tr α)) (i : Nat) : List α := wl ((ks.map (flat h)).take i) (its.take i)
def hi (h : Nat) (its : List α) (ks : List (Tr α)) (i : Nat) : List α := wr (its.drop i) ((ks.map (flat h)).drop (i + 1))
def tl (h : Nat) (its : List α) (ks : List (Tr α)) (i : Nat) : List α := weave ((ks.map (flat h)).drop i) (its.drop i)

variable {h i : Nat} {its : List α} {ks : List (Tr α)}
theorem wl_succ_ (K : List (List α)) (I : List α) (i : Nat) {k : List α} {x : α} (hk : K[i]? = some k) (hx : I[i]? = some x) : wl (K.take (i + 1)) (I.take (i + 1)) = wl (K.take i) (I.take i) ++ k ++ [x] := by
  induction i generalizing K I with
  | zero =>
    cases K with
    | nil => simp at hk
    | cons a K => cases I with
      | nil => simp at hx
      | cons b I => simp at hk hx; subst hk; subst hx; simp [wl]
  | succ i ih =>
    cases K with
    | nil => simp at hk
    | cons a K => cases I with
      | nil => simp at hx
      | cons b I =>
        simp only [List.take_succ_cons, wl, List.cons_append, List.append_assoc]
        rw [ih K I (by simpa using hk) (by simpa using hx)]
        simp
theorem lo_zero : lo h its ks 0 = [] := by simp [lo, wl]
theorem lo_succ {k : Tr α} {x : α} (hk : ks[i]? = some k) (hx : its[i]? = some x) : lo h its ks (i + 1) = lo h its ks i ++ flat h k ++ [x] :=
  wl_succ_ _ _ i (by simp [hk]) hx
theorem tl_zero : flat (h + 1) (.node its ks) = tl h its ks 0 := by simp [tl, flat, Tr.its, Tr.ks]
theorem tl_succ {k : Tr α} {x : α} (hk : ks[i]? = some k) (hx : its[i]? = some x) (hl : ks.length = its.length + 1) : tl h its ks i = flat h k ++ x :: tl h its ks (i + 1) := by
  obtain ⟨h1, rfl⟩ := List.getElem?_eq_some_iff.1 hk
  obtain ⟨h2, rfl⟩ := List.getElem?_eq_some_iff.1 hx
  unfold tl
  rw [List.drop_eq_getElem_cons (by simpa using h1), weave, List.drop_eq_getElem_cons (l := its) h2, List.drop_eq_getElem_cons (l := ks.map (flat h)) (i := i + 1) (by simp; omega)]
  simp [wr, weave]
theorem tl_last {k : Tr α} (hk : ks[its.length]? = some k) (_hl : ks.length = its.length + 1) : tl h its ks its.length = flat h k := by
  obtain ⟨h1, rfl⟩ := List.getElem?_eq_some_iff.1 hk
  unfold tl
  rw [List.drop_eq_getElem_cons (by simpa using h1), weave, (List.drop_eq_nil_of_le (Nat.le_refl _) : its.drop its.length = [])]
  simp [wr]
theorem hi_succ {k : Tr α} {x : α} (hk : ks[i + 1]? = some k) (hx : its[i]? = some x) : hi h its ks i = x :: (flat h k ++ hi h its ks (i + 1)) := by
  obtain ⟨h1, rfl⟩ := List.getElem?_eq_some_iff.1 hk
  obtain ⟨h2, rfl⟩ := List.getElem?_eq_some_iff.1 hx
  unfold hi
  rw [List.drop_eq_getElem_cons (l := its) h2, List.drop_eq_getElem_cons (l := ks.map (flat h)) (i := i + 1) (by simpa using h1)]
  simp [wr]
theorem hi_last : hi h its ks its.length = [] := by
  unfold hi
  rw [(List.drop_eq_nil_of_le (Nat.le_refl _) : its.drop its.length = [])]
  simp [wr]
theorem flat_at {k : Tr α} (hl : ks.length = its.length + 1) (hi' : i ≤ its.length) (hk : ks[i]? = some k) : flat (h + 1) (.node its ks) = lo h its ks i ++ flat h k ++ hi h its ks i := by
  obtain ⟨h1, rfl⟩ := List.getElem?_eq_some_iff.1 hk
  have e : ks = ks.take i ++ ks[i] :: ks.drop (i + 1) := by
    have := List.take_append_drop i ks
    rw [List.drop_eq_getElem_cons h1] at this
    exact this.symm
  have e2 : its = its.take i ++ its.drop i := (List.take_append_drop i its).symm
  have := wl_wr ((ks.take i).map (flat h)) (its.take i) (flat h ks[i]) (its.drop i) ((ks.drop (i + 1)).map (flat h)) (by simp; omega)
  have key : weave (ks.map (flat h)) its = weave ((ks.take i).map (flat h) ++ flat h ks[i] :: (ks.drop (i + 1)).map (flat h)) (its.take i ++ its.drop i) := by
    rw [← e2, ← List.map_cons, ← List.map_append, ← e]
  simp only [flat, Tr.its, Tr.ks]
  unfold lo hi
  rw [← List.map_take, ← List.map_drop, key, this]
theorem lo_last {k : Tr α} (hl : ks.length = its.length + 1) (hk : ks[its.length]? = some k) : flat (h + 1) (.node its ks) = lo h its ks its.length ++ flat h k := by
  rw [flat_at hl (Nat.le_refl _) hk, hi_last, List.append_nil]

/-- Stopped at the n-th item, never for n below 1. -/
def upTo (n : Int) (l : List α) : Bool := decide (n < 1) || decide ((l.length : Int) < n)
def firstN (n : Int) (l : List α) : List α := if n < 1 then l else l.take n.toNat
theorem handOn_upTo (n : Int) : ∀ (l acc : List α), (n < 1 ∨ (acc.length : Int) < n) → (handOn (upTo n) acc l).1 = if n < 1 then acc ++ l else acc ++ l.take (n.toNat - acc.length)
  | [], acc, h => by simp [handOn]
  | x :: l, acc, h => by
    cases hg : upTo n (acc ++ [x]) with
    | true =>
      rw [handOn_yes hg]
      simp only [upTo, Bool.or_eq_true, decide_eq_true_eq, List.length_append, List.length_cons, List.length_nil] at hg
      rw [handOn_upTo n l (acc ++ [x]) (by simp; omega)]
      split
      · simp
      · obtain ⟨m, hm⟩ : ∃ m, n.toNat - acc.length = m + 1 := ⟨n.toNat - acc.length - 1, by omega⟩
        have : n.toNat - (acc ++ [x]).length = m := by simp; omega
        rw [this, hm]
        simp
    | false =>
      rw [handOn_no hg]
      simp only [upTo, Bool.or_eq_false_iff, decide_eq_false_iff_not, List.length_append, List.length_cons, List.length_nil] at hg
      have : n.toNat - acc.length = 1 := by omega
      rw [if_neg hg.1, this]
      simp
theorem handOn_first (n : Int) (l : List α) : (handOn (upTo n) [] l).1 = firstN n l := by
  rw [handOn_upTo n l [] (by simp; omega)]
  simp [firstN]
theorem handOn_all {l : List α} : ∀ {acc : List α}, (∀ a, go a = true) → handOn go acc l = (acc ++ l, true) := by
  induction l with
  | nil => intro acc _; simp [handOn]
  | cons x l ih => intro acc h; rw [handOn_yes (h _), ih h]; simp
end Go.Wb

namespace Go.Proofs.Ytckplcmieelmpaa.W
open Go.RowKit Go.Wb

/-- A function value (function g, what it captured) to which items are handed: J tells what was handed on so far; all that turns lies in S. -/
structure Hands (g : FuncId) (caps : Array Value) (go : List It → Bool) (J : List It → World → Prop) (S : Nat → Nat → Prop) (w0 : World) (N : Nat) : Prop where
  call : ∀ acc x W, J acc W → acc.length < N → Calls Try.prog g (#[kv (ky x), vv x] ++ caps) W fun e W' => e = .returned (.bool (go (acc ++ [x]))) ∧ J (acc ++ [x]) W'
  enter : ∀ args w, (callFunc g args).run Try.prog w = .ok (.enter g args) w
  keep : ∀ acc W, J acc W → Keep S w0 W
  calm : ∀ acc W W', J acc W → Keep Nothing W W' → J acc W'

/-- What handing on leaves. -/
def HandPost (J : List It → World → Prop) (r : List It × Bool) (e : Ending) (w' : World) : Prop := e = .returned (.bool r.2) ∧ J r.1 w'

/-- A node that stays while S turns, the head, and the cell that leads to it. -/
structure Stays (w0 : World) (S : Nat → Nat → Prop) (b : Nat) (hr : HRec) (pb po n : Nat) (r : NRec It) (L : Lay) : Prop where
  hdr : ∀ W, Keep S w0 W → Hdr W b hr
  cell : ∀ W, Keep S w0 W → W.cell? ⟨pb, po, none⟩ = some (ptr n)
  node : ∀ W, Keep S w0 W → NodeAt TT E W n r L
  iso : r.iso = hr.iso
  len : r.items.length ≤ 1000000000000

/-- The cells of an item of a node. -/
theorem node_item {w : World} {n : Nat} {r : NRec It} {L : Lay} (hn : NodeAt TT E w n r L) {i : Nat} {x : It} (hi : r.items[i]? = some x) : ∃ ib io, L.ia = some ⟨ib, io, none⟩ ∧
    w.cell? ⟨ib, io + i * 2 + 1, none⟩ = some (kv (ky x)) ∧ w.cell? ⟨ib, io + i * 2, none⟩ = some (.int .i64 x.2) := by
  obtain ⟨hil, _⟩ := List.getElem?_eq_some_iff.1 hi
  have hrow := hn.2.1
  obtain ⟨ib, io, hia, _⟩ := hrow.form (by rw [E.all_len]; exact Nat.mul_pos (by omega) E.pos)
  rw [hia] at hrow
  exact ⟨ib, io, hia, key_cell hrow hi, val_cell hrow hi⟩

/-- The cells of a child of a node. -/
theorem node_child {w : World} {n : Nat} {r : NRec It} {L : Lay} (hn : NodeAt TT E w n r L) {ns : List Nat} (hk : r.kids = some ns) {i m : Nat} (hi : ns[i]? = some m) : ∃ kb ko, L.ka = some ⟨kb, ko, none⟩ ∧ w.cell? ⟨n, 3, none⟩ = some (ptr L.cb) ∧
    w.cell? ⟨L.cb, 0, none⟩ = some (.slice (some ⟨kb, ko, none⟩) ns.length L.kcap) ∧ w.cell? ⟨kb, ko + i, none⟩ = some (ptr m) := by
  obtain ⟨c3, g1, _, hrow, _⟩ := hn.kids hk
  obtain ⟨hil, _⟩ := List.getElem?_eq_some_iff.1 hi
  obtain ⟨kb, ko, hka, _⟩ := hrow.form (by simp; omega)
  rw [hka] at hrow g1
  exact ⟨kb, ko, hka, c3, g1, hrow.cell (i := i) (v := ptr m) (by simp [hi])⟩

/-- All nodes of a tree stay while S turns, which is none of theirs. -/
structure StayAll (w0 : World) (S : Nat → Nat → Prop) (b : Nat) (hr : HRec) (H : Store It) (L : Nat → Lay) : Prop where
  hdr : ∀ W, Keep S w0 W → Hdr W b hr
  node : ∀ W, Keep S w0 W → ∀ n r, H n = some r → NodeAt TT E W n r (L n)

theorem TreeAt.stay {w0 : World} {b : Nat} {hr : HRec} {H : Store It} {L : Nat → Lay} {F : List Nat} {mn mx : Nat} {s : Sh} (T : TreeAt w0 b hr H L F mn mx s) {S : Nat → Nat → Prop} (hb : ∀ o, ¬ S b o) (hS : ∀ n r c o, H n = some r → fp TT n r (L n) c o → ¬ S c o) : StayAll w0 S b hr H L :=
  ⟨fun _ hk => blk_keep T.hdr hk hb, fun _ hk n r hr => (T.mem.at_ n r hr).keep hk fun c o hf => hS n r c o hr hf⟩

def HandedPost (J : List It → World → Prop) (r : List It × Bool) (e : Ending) (w' : World) : Prop := e = .returned (.tuple #[]) ∧ J r.1 w'

/-- What is given where a tree's items are handed to a function. -/
structure HandPre (w0 w : World) (b : Nat) (hr : HRec) (H : Store It) (L : Nat → Lay) (F : List Nat) (mn mx : Nat) (s : Sh) (g : FuncId) (caps : Array Value) (go : List It → Bool) (J : List It → World → Prop) (S : Nat → Nat → Prop) (N : Nat) : Prop where
  tree : TreeAt w0 b hr H L F mn mx s
  hands : Hands g caps go J S w0 N
  hb : ∀ o, ¬ S b o
  hS : ∀ n r c o, H n = some r → fp TT n r (L n) c o → ¬ S c o
  len : (its s).length ≤ N
  start : J [] w
theorem HandPre.calm {w0 w w' : World} {b : Nat} {hr : HRec} {H : Store It} {L : Nat → Lay} {F : List Nat} {mn mx : Nat} {s : Sh} {g : FuncId} {caps : Array Value} {go : List It → Bool} {J : List It → World → Prop} {S : Nat → Nat → Prop} {N : Nat} (P : HandPre w0 w b hr H L F mn mx s g caps go J S N) (hk : Keep Nothing w w') : HandPre w0 w' b hr H L F mn mx s g caps go J S N :=
  ⟨P.tree, P.hands, P.hb, P.hS, P.len, P.hands.calm _ _ _ P.start hk⟩
end Go.Proofs.Ytckplcmieelmpaa.W

namespace Go.Proofs.Ytckplcmieelmpaa.W
open Go.RowKit Go.Wb

/-- What a list keeps of an item. -/
def OE : Enc It := ⟨fun x => [kv (ky x), .int .i64 x.2], 2, fun _ => rfl, fun x v hv => by rcases List.mem_cons.1 hv with rfl | hv <;> first | rfl | (obtain rfl := List.mem_singleton.1 hv; rfl), by omega⟩
theorem elemO : Elem Try.prog 31 2 24 := ⟨by kernel_rfl, by kernel_rfl, by kernel_rfl⟩
/-- The list at block ob, its row in blocks from B on. -/
def OutAt (B ob : Nat) (acc : List It) (W : World) : Prop := ∃ a cap, W.heap[ob]? = some (.cells #[.slice a acc.length cap] 28 (0, 0)) ∧ Acc B W 31 2 a acc.length cap (OE.all acc)
def OutJ (w0 : World) (ob : Nat) (acc : List It) (W : World) : Prop := Keep (fun c _ => c = ob) w0 W ∧ OutAt w0.heap.size ob acc W
theorem OutJ.calm {w0 : World} {ob : Nat} {acc : List It} {W W' : World} (h : OutJ w0 ob acc W) (hk : Keep Nothing W W') : OutJ w0 ob acc W' := by
  obtain ⟨h1, a, cap, h2, h3⟩ := h
  exact ⟨h1.trans hk fun _ _ _ h => h.elim, a, cap, blk_keep h2 hk fun _ h => h, h3.quiet hk⟩

def TakePost (w0 : World) (ob : Nat) (n : Int) (acc : List It) (e : Ending) (W' : World) : Prop := e = .returned (.bool (upTo n acc)) ∧ OutJ w0 ob acc W'

set_option maxRecDepth 100000 in
set_option maxHeartbeats 8000000 in
theorem take_any {w0 : World} {ob kt kn : Nat} {n : Int} (hkt : w0.heap[kt]? = some (.cells #[ptr ob] 91 (0, 0))) (hkn : w0.heap[kn]? = some (.cells #[.int .i64 n] 3 (0, 0))) (d1 : kt ≠ ob) (d2 : kn ≠ ob) (hob : ob < w0.heap.size)
    (_hn1 : -9223372036854775808 ≤ n) (_hn2 : n ≤ 9223372036854775807) {acc : List It} {x : It} {W : World} (hJ : OutJ w0 ob acc W) (hl : acc.length < 4000000000000) :
    Calls Try.prog 155 #[.agg #[kv (ky x), .int .i64 x.2], ptr kt, ptr kn] W (TakePost w0 ob n (acc ++ [x])) := by
  obtain ⟨hK, a, cap, hout, hA⟩ := hJ
  have HKT := Lib.hid hkt
  have HKL := Lib.hid (lt_of_heap hkt)
  have HKN := Lib.hid hkn
  have HK := Lib.hid hK
  have HOUT := Lib.hid hout
  have HA := Lib.hid hA
  have HD1 := Lib.hid d1
  have HD2 := Lib.hid d2
  have hsz := hK.size
  have hobW := Nat.lt_of_lt_of_le hob hsz
  clear hkt hkn hK hout hA d1 d2
  unfold ptr kv at *
  go_enter Try.func155, Try.ntmps155
  go_upto_region 1 with (fail)
  refine wp_world ?_
  intro W1 hW1
  have k1 : Keep Nothing W W1 := by subst hW1; exact (Keep.refl _ _).al _
  have X1 : W1.heap[W.heap.size]? = some (.cells #[.string (ky x), .int .i64 x.2] 31 (0, 0)) := by subst hW1; exact heap_alloc_new W _
  clear hW1
  have HK1 : Hid (Keep (fun c _ => c = ob) w0 W1) := by exact HK.out.trans k1 fun _ _ _ h => h.elim
  have HO1 := Lib.hid (blk_keep HOUT.out k1 fun _ h => h)
  have HA1 := Lib.hid (HA.out.quiet k1)
  have kt1 := (blk1 (blk_keep HKT.out HK1.out fun _ e => HD1.out e)).1
  have kn1 := (blk1 (blk_keep HKN.out HK1.out fun _ e => HD2.out e)).1
  obtain ⟨co, fz⟩ := blk1 HO1.out
  have HX := Lib.hid X1
  obtain ⟨x0, x1, _⟩ := blk2 X1
  have hsz1 := HK1.out.size
  clear HK HOUT HA k1
  clear X1
  generalize W.heap.size = q at *
  refine wp_held (fun w' => w'.cell? ⟨kt, 0, none⟩ = some (.pointer (some ⟨ob, 0, none⟩)) ∧ w'.cell? ⟨ob, 0, none⟩ = some (.slice a acc.length cap)) [0, 1, 3] (by kernel_rfl) (by kernel_rfl) (by kernel_rfl) rfl ⟨kt1, co⟩ ?_
  simp only [segs, readsB, silentB, lenB, checks, List.nil_append]
  go_wp2_with fail
  refine held_world ?_
  intro W2 hW2
  have k2 : Keep Nothing W1 W2 := by subst hW2; exact ((Keep.refl _ _).al _).dr
  have N2 : W2.heap[W1.heap.size]? = some (.cells (OE.enc x).toArray 31 (0, 0)) := by subst hW2; exact heap_alloc_new W1 _
  clear hW2
  have HK2 : Hid (Keep (fun c _ => c = ob) w0 W2) := by exact HK1.out.trans k2 fun _ _ _ h => h.elim
  have HO2 := Lib.hid (blk_keep HO1.out k2 fun _ h => h)
  have HA2 := Lib.hid (HA1.out.quiet k2)
  have kt2 := k2.cell' kt1 fun h => h
  have co2 := (blk1 HO2.out).1
  have hsz2 := HK2.out.size
  clear HK1 HO1 HA1 co fz kt1 k2 kn1
  clear x0 x1 HX
  refine held_next ⟨kt2, co2⟩ ?_
  refine wpList_append_any rfl _ _ _ rfl 31 2 24 Try.underlying28 elemO a acc.length cap (OE.all acc) rfl HA2.out.row HA2.out.len ⟨W1.heap.size, 0, none⟩ 1 1 (OE.enc x) ?_ (OE.len _) ?_ (OE.one _) (by omega) HA2.out.le (by simp only [maxLen]; omega) (by omega) ?_
  · rfl
  · exact new_cells N2
  intro a' cap' W3 hG
  obtain ⟨hA3, hK3⟩ := HA2.out.grow hsz2 hG (OE.len _)
  have HA3 := Lib.hid hA3
  have HK3 : Hid (Keep (fun c _ => c = ob) w0 W3) := by exact HK2.out.trans hK3 fun x o hx h => absurd h (by omega)
  have HO3 := Lib.hid (blk_keep HO2.out hK3 fun o (h : w0.heap.size ≤ ob) => by omega)
  have kt3 := hK3.cell' kt2 (fun (h : w0.heap.size ≤ kt) => by have := HKL.out; omega)
  obtain ⟨co3, fz3⟩ := blk1 HO3.out
  clear HK2 HO2 HA2 hA3 hK3 hG N2 kt2 co2
  refine held_next ⟨kt3, co3⟩ ?_
  simp only [Act.put]
  go_wp2_with fail
  refine held_world ?_
  intro W4 hW4
  refine held_end ?_ ?_
  · refine ⟨?_, ?_, ?_, trivial⟩
    · exact ⟨.pointer (some ⟨ob, 0, none⟩), fun w' hS => by simp [execOp, hS.1, go_sem]⟩
    · exact ⟨.pointer (some ⟨ob, 0, none⟩), fun w' hS => by simp [execOp, hS.1, go_sem]⟩
    · exact ⟨.slice a acc.length cap, fun w' hS => by simp [execOp, hS.2, go_sem]⟩
  have eall : OE.all acc ++ OE.enc x = OE.all (acc ++ [x]) := by rw [Enc.all_append]; simp [Enc.all]
  have HK4 : Hid (Keep (fun c _ => c = ob) w0 W4) := by subst hW4; exact HK3.out.set _ _ _ fun _ => rfl
  have HO4 : Hid (W4.heap[ob]? = some (.cells #[.slice a' (acc.length + 1) cap'] 28 (0, 0))) := by subst hW4; exact blk_set _ HO3.out
  have HA4 : Hid (Acc w0.heap.size W4 31 2 a' (acc.length + 1) cap' (OE.all (acc ++ [x]))) := by
    rw [← eall]
    subst hW4
    exact HA3.out.calm (S := fun c _ => c = ob) (Keep.set (Keep.refl _ _) _ _ _ fun _ => rfl) fun c o h1 h2 => by omega
  have HJ4 : Hid (OutJ w0 ob (acc ++ [x]) W4) := by
    refine ⟨HK4.out, a', cap', ?_, ?_⟩
    · rw [List.length_append]; exact HO4.out
    · rw [List.length_append]; exact HA4.out
  have kt4 := (HK4.out.cell' (blk1 HKT.out).1 (HD1.out))
  have kn4 := (HK4.out.cell' (blk1 HKN.out).1 (HD2.out))
  have co4 := (blk1 HO4.out).1
  clear hW4 eall HK4 HO4 HA4 HK3 HO3 HA3 co3 fz3 kt3
  by_cases h1 : n < 1
  · have hu : upTo n (acc ++ [x]) = true := by simp [upTo, h1]
    go_wp2_with fail
    refine wp_calm (by kernel_rfl) (by kernel_rfl) rfl ?_
    simp only [List.flatMap_cons, List.flatMap_nil, checks, chk, nilLit, List.cons_append, List.nil_append, List.append_nil, Try.underlying3]
    go_wp2_with fail
    rw [HQ_normal]
    go_wp2_with fail
    go_ret
    rw [TakePost, hu]
    exact ⟨by first | rfl | simp [h1, h2] | simp [h1], HJ4.out.calm (Keep.drew _ _)⟩
  · by_cases h2 : (acc.length : Int) + 1 < n
    · have hu : upTo n (acc ++ [x]) = true := by simp [upTo, h2]
      have HU := Lib.hid hu
      clear hu
      go_wp2_with fail
      refine wp_calm (by kernel_rfl) (by kernel_rfl) rfl ?_
      simp only [List.flatMap_cons, List.flatMap_nil, checks, chk, nilLit, List.cons_append, List.nil_append, List.append_nil, Try.underlying3]
      go_wp2_with fail
      rw [HQ_normal]
      go_wp2_with fail
      go_ret
      rw [TakePost, HU.out]
      exact ⟨by first | rfl | simp [h1, h2] | simp [h1], HJ4.out.calm (Keep.drew _ _)⟩
    · have hu : upTo n (acc ++ [x]) = false := by simp [upTo, h1, h2]
      have HU := Lib.hid hu
      clear hu
      go_wp2_with fail
      refine wp_calm (by kernel_rfl) (by kernel_rfl) rfl ?_
      simp only [List.flatMap_cons, List.flatMap_nil, checks, chk, nilLit, List.cons_append, List.nil_append, List.append_nil, Try.underlying3]
      go_wp2_with fail
      rw [HQ_normal]
      go_wp2_with fail
      go_ret
      rw [TakePost, HU.out]
      exact ⟨by first | rfl | simp [h1, h2] | simp [h1], HJ4.out.calm (Keep.drew _ _)⟩

/-- The function value that keeps what is handed to it. -/
structure Taker (w0 : World) (ob kt kn : Nat) (n : Int) : Prop where
  t : w0.heap[kt]? = some (.cells #[ptr ob] 91 (0, 0))
  n : w0.heap[kn]? = some (.cells #[.int .i64 n] 3 (0, 0))
  d1 : kt ≠ ob
  d2 : kn ≠ ob
  ob : ob < w0.heap.size
def TakerPost (w : World) (ob : Nat) (n : Int) (e : Ending) (w' : World) : Prop := ∃ kt kn, e = .returned (.func (.func 155) #[] #[ptr kt, ptr kn]) ∧ Keep Nothing w w' ∧ Taker w' ob kt kn n
set_option maxHeartbeats 1000000 in
theorem taker_any {w : World} {ob : Nat} (hob : ob < w.heap.size) (n : Int) : Calls Try.prog 111 #[ptr ob, .int .i64 n] w (TakerPost w ob n) := by
  unfold ptr
  have hmf : ∀ (fn : Fn) (first cap : Array Value) (w : World), (Instr.makeFunc fn first cap).run Try.prog w = .ok (.func fn first cap) w := fun _ _ _ _ => rfl
  go_enter Try.func111, Try.ntmps111
  go_wp2_with fail
  go_ret
  refine ⟨_, _, rfl, ((Keep.refl _ _).al _).al _, blk_alloc _ (heap_alloc_new w _), ?_, by omega, ?_, ?_⟩
  · have := heap_alloc_new (w.alloc (.cells #[.pointer (some ⟨ob, 0, none⟩)] 91)) (.cells #[.int .i64 n] 3)
    rw [World.size_alloc] at this
    exact this
  · omega
  · simp; omega
end Go.Proofs.Ytckplcmieelmpaa.W

namespace Go.Proofs.Ytckplcmieelmpaa.W
open Go.RowKit Go.Wb

/-- The function value that hands a pair on to the taker. -/
structure Hander (w0 : World) (ob kf kt kn : Nat) (n : Int) : Prop where
  tk : Taker w0 ob kt kn n
  f : w0.heap[kf]? = some (.cells #[.func (.func 155) #[] #[ptr kt, ptr kn]] 66 (0, 0))
  ne : kf ≠ ob

set_option maxHeartbeats 1000000 in
theorem hand1_any {w0 : World} {ob kf kt kn : Nat} {n : Int} (hh : Hander w0 ob kf kt kn n) (hn1 : -9223372036854775808 ≤ n) (hn2 : n ≤ 9223372036854775807) {acc : List It} {x : It} {W : World} (hJ : OutJ w0 ob acc W) (hl : acc.length < 4000000000000) :
    Calls Try.prog 112 #[kv (ky x), vv x, ptr kf] W (TakePost w0 ob n (acc ++ [x])) := by
  have ht := Lib.hid (take_any hh.tk.t hh.tk.n hh.tk.d1 hh.tk.d2 hh.tk.ob hn1 hn2 (x := x) hJ hl)
  have cf := (blk1 (blk_keep hh.f hJ.1 fun _ e => hh.ne e)).1
  clear hh hJ hl
  unfold ptr kv vv at *
  go_enter Try.func112, Try.ntmps112
  go_wp2_with fail
  refine ht.out.mono ?_
  rintro e w' ⟨rfl, hJ⟩
  have HJ := Lib.hid hJ
  clear hJ ht
  go_wp2_with fail
  go_ret
  exact ⟨rfl, HJ.out⟩

theorem hands_of {w0 : World} {ob kf kt kn : Nat} {n : Int} (hh : Hander w0 ob kf kt kn n) (hn1 : -9223372036854775808 ≤ n) (hn2 : n ≤ 9223372036854775807) : Hands 112 #[ptr kf] (upTo n) (OutJ w0 ob) (fun c _ => c = ob) w0 4000000000000 :=
  ⟨fun _ _ _ hJ hl => hand1_any hh hn1 hn2 hJ hl, fun args w => Try.call112 args w, fun _ _ hJ => hJ.1, fun _ _ _ hJ hk => hJ.calm hk⟩

def HanderPost (w : World) (ob : Nat) (n : Int) (e : Ending) (w' : World) : Prop := ∃ kf kt kn, e = .returned (.func (.func 112) #[] #[ptr kf]) ∧ Keep Nothing w w' ∧ Hander w' ob kf kt kn n
set_option maxHeartbeats 1000000 in
theorem hander_any {w : World} {ob : Nat} (hob : ob < w.heap.size) (n : Int) : Calls Try.prog 61 #[ptr ob, .int .i64 n] w (HanderPost w ob n) := by
  have ht := Lib.hid (taker_any hob n)
  have hmf : ∀ (fn : Fn) (first cap : Array Value) (w : World), (Instr.makeFunc fn first cap).run Try.prog w = .ok (.func fn first cap) w := fun _ _ _ _ => rfl
  unfold ptr at *
  go_enter Try.func61, Try.ntmps61
  go_wp2_with fail
  refine ht.out.mono ?_
  rintro e w1 ⟨kt, kn, rfl, hk, tk⟩
  have HK := Lib.hid hk
  have TK := Lib.hid tk
  clear hk tk ht
  unfold ptr
  go_wp2_with fail
  go_ret
  have ka : Keep Nothing w1 (w1.alloc (.cells #[.func (.func 155) #[] #[.pointer (some ⟨kt, 0, none⟩), .pointer (some ⟨kn, 0, none⟩)]] 66)) := Keep.alloc _ _ _
  have hsz := HK.out.size
  exact ⟨_, kt, kn, rfl, HK.out.trans ka fun _ _ _ h => h, ⟨blk_keep TK.out.t ka fun _ h => h, blk_keep TK.out.n ka fun _ h => h, TK.out.d1, TK.out.d2, by simp; omega⟩, heap_alloc_new w1 _, by omega⟩

/-- An empty list at block ob. -/
theorem outJ_start {w0 : World} {ob : Nat} (h : w0.heap[ob]? = some (.cells #[.slice none 0 0] 28 (0, 0))) : OutJ w0 ob [] w0 := ⟨Keep.refl _ _, none, 0, h, Acc.nil _ _ _ _⟩
end Go.Proofs.Ytckplcmieelmpaa.W

namespace Go.Proofs.Ytckplcmieelmpaa.W
open Go.RowKit Go.Wb

set_option maxRecDepth 100000 in
set_option maxHeartbeats 8000000 in
theorem scan_leaf {w0 w : World} {b : Nat} {hr : HRec} {pb po n : Nat} {g : FuncId} {caps : Array Value} {go : List It → Bool} {J : List It → World → Prop} {S : Nat → Nat → Prop} {N : Nat} {r : NRec It} {L : Lay}
    (HD : Hands g caps go J S w0 N) (A : Stays w0 S b hr pb po n r L) (hkn : r.kids = none) {acc : List It} (hJ : J acc w) (hN : acc.length + r.items.length ≤ N) :
    Calls Try.prog 177 #[ptr b, .pointer (some ⟨pb, po, none⟩), .func (.func g) #[] caps, .bool false] w (HandPost J (handOn go acc r.items)) := by
  have HH := Lib.hid HD
  have hcf := HD.enter
  have HA := Lib.hid A
  have HJ := Lib.hid hJ
  have hk0 := HD.keep _ _ hJ
  have hiso := Lib.hid (isoLoad_own (A.hdr w hk0) (A.cell w hk0) (A.node w hk0) A.iso false)
  have HKN := Lib.hid hkn
  have hlen := A.len
  clear HD A hJ hk0 hkn
  unfold ptr at *
  go_enter Try.func177, Try.ntmps177
  go_wp2_with fail
  refine hiso.out.mono ?_
  rintro e w1 ⟨rfl, kd, rfl⟩
  have HJ1 : Hid (J acc (w.drewN kd)) := by exact HH.out.calm _ _ _ HJ.out (Keep.drewN _ _ _)
  clear hiso HJ
  generalize w.drewN kd = w1 at *
  have hlv := leaf_any (HA.out.node w1 (HH.out.keep _ _ HJ1.out))
  rw [HKN.out] at hlv
  simp only [Option.isNone_none] at hlv
  unfold ptr at *
  go_wp2_with fail
  refine hlv.mono ?_
  rintro e w2 ⟨rfl, rfl⟩
  clear hlv
  go_wp2_with fail
  go_loopg [10] (r.items.length + 1) (fun k v10 wr => ∃ (i : Nat) (acc' : List It), v10 = .int .i64 i ∧ i ≤ r.items.length ∧ i + k = r.items.length + 1 ∧ J acc' wr ∧ handOn go acc r.items = handOn go acc' (r.items.drop i) ∧ acc'.length + (r.items.length - i) ≤ N)
  case atStart => exact ⟨0, acc, rfl, by omega, by omega, HJ1.out, by simp, by omega⟩
  case round =>
    obtain ⟨i, acc', rfl, hil, hik, hJr, heq, hNr⟩ := hrel
    have HJr := Lib.hid hJr
    have HEQ := Lib.hid heq
    have N1 := Lib.hid (HA.out.node wr (HH.out.keep _ _ hJr))
    obtain ⟨d0, d1, c2, d3, fz⟩ := N1.out.own
    clear d0 d1 d3 hJr heq
    by_cases hlt : i < r.items.length
    · have hx : r.items[i]? = some r.items[i] := List.getElem?_eq_getElem hlt
      have hd : r.items.drop i = r.items[i] :: r.items.drop (i + 1) := List.drop_eq_getElem_cons hlt
      generalize r.items[i] = x at *
      have HD := Lib.hid hd
      obtain ⟨ib, io, hia, ck⟩ := node_item N1.out hx
      rw [hia] at c2
      obtain ⟨ck, cv⟩ := ck
      have hcall := Lib.hid (HH.out.call acc' x wr.drew (HH.out.calm _ _ _ HJr.out (Keep.drew _ _)) (by omega))
      clear hd hx hia
      unfold kv vv at *
      go_wp2_with fail
      refine wp_calm (by kernel_rfl) (by kernel_rfl) rfl ?_
      simp only [List.flatMap_cons, List.flatMap_nil, checks, chk, nilLit, List.cons_append, List.nil_append, List.append_nil]
      go_wp2_with fail
      cases hg : go (acc' ++ [x]) with
      | true =>
        have HG := Lib.hid hg
        rw [hg] at hcall
        clear hg
        refine hcall.out.mono ?_
        rintro e w3 ⟨rfl, hJ3⟩
        have HJ3 := Lib.hid hJ3
        clear hJ3 hcall
        go_wp2_with fail
        rw [HQ_normal]
        go_wp2_with fail
        go_roundg (r.items.length - i)
        case measure => omega
        case rel => exact ⟨i + 1, acc' ++ [x], by go_num, by omega, by omega, HJ3.out, by rw [HEQ.out, HD.out, handOn_yes HG.out], by simp; omega⟩
      | false =>
        have HG := Lib.hid hg
        rw [hg] at hcall
        clear hg
        refine hcall.out.mono ?_
        rintro e w3 ⟨rfl, hJ3⟩
        have HJ3 := Lib.hid hJ3
        clear hJ3 hcall
        go_wp2_with fail
        rw [HQ_normal]
        go_wp2_with fail
        go_ret
        rw [HEQ.out, HD.out, handOn_no HG.out]
        exact ⟨rfl, HJ3.out⟩
    · have hi : i = r.items.length := by omega
      subst hi
      go_wp2_with fail
      go_ret
      rw [HEQ.out, List.drop_eq_nil_of_le (Nat.le_refl _)]
      exact ⟨rfl, HJr.out⟩

set_option maxRecDepth 100000 in
set_option maxHeartbeats 8000000 in
theorem scan_inner {w0 w : World} {b : Nat} {hr : HRec} {pb po n h : Nat} {g : FuncId} {caps : Array Value} {go : List It → Bool} {J : List It → World → Prop} {S : Nat → Nat → Prop} {N : Nat} {r : NRec It} {L : Lay}
    (HD : Hands g caps go J S w0 N) (A : Stays w0 S b hr pb po n r L) {ns : List Nat} (hkn : r.kids = some ns) {ks : List (Tr It)} (hks : ks.length = r.items.length + 1) (hnl : ns.length = ks.length)
    (IH : ∀ (i m : Nat) (k : Tr It) (kb ko : Nat) (acc : List It) (W : World), ns[i]? = some m → ks[i]? = some k → L.ka = some ⟨kb, ko, none⟩ → J acc W → acc.length + (flat h k).length ≤ N →
      Calls Try.prog 177 #[ptr b, .pointer (some ⟨kb, ko + i, none⟩), .func (.func g) #[] caps, .bool false] W (HandPost J (handOn go acc (flat h k))))
    {acc : List It} (hJ : J acc w) (hN : acc.length + (flat (h + 1) (.node r.items ks)).length ≤ N) :
    Calls Try.prog 177 #[ptr b, .pointer (some ⟨pb, po, none⟩), .func (.func g) #[] caps, .bool false] w (HandPost J (handOn go acc (flat (h + 1) (.node r.items ks)))) := by
  have HH := Lib.hid HD
  have hcf := HD.enter
  have HA := Lib.hid A
  have HJ := Lib.hid hJ
  have HI := Lib.hid IH
  have hk0 := HD.keep _ _ hJ
  have hiso := Lib.hid (isoLoad_own (A.hdr w hk0) (A.cell w hk0) (A.node w hk0) A.iso false)
  have HKN := Lib.hid hkn
  have HKS := Lib.hid hks
  have HNL := Lib.hid hnl
  have hlen := A.len
  clear HD A hJ hk0 hkn IH hks hnl
  unfold ptr at *
  go_enter Try.func177, Try.ntmps177
  go_wp2_with fail
  refine hiso.out.mono ?_
  rintro e w1 ⟨rfl, kd, rfl⟩
  have HJ1 : Hid (J acc (w.drewN kd)) := by exact HH.out.calm _ _ _ HJ.out (Keep.drewN _ _ _)
  clear hiso HJ
  generalize w.drewN kd = w1 at *
  have hlv := leaf_any (HA.out.node w1 (HH.out.keep _ _ HJ1.out))
  rw [HKN.out] at hlv
  simp only [Option.isNone_some] at hlv
  unfold ptr at *
  go_wp2_with fail
  refine hlv.mono ?_
  rintro e w2 ⟨rfl, rfl⟩
  clear hlv
  go_wp2_with fail
  go_loopg [11] (r.items.length + 1) (fun k v11 wr => ∃ (i : Nat) (acc' : List It), v11 = .int .i64 i ∧ i ≤ r.items.length ∧ i + k = r.items.length + 1 ∧ J acc' wr ∧ handOn go acc (flat (h + 1) (.node r.items ks)) = handOn go acc' (tl h r.items ks i) ∧ acc'.length + (tl h r.items ks i).length ≤ N)
  case atStart => exact ⟨0, acc, rfl, by omega, by omega, HJ1.out, by rw [tl_zero], by rw [← tl_zero]; exact hN⟩
  case round =>
    obtain ⟨i, acc', rfl, hil, hik, hJr, heq, hNr⟩ := hrel
    have HJr := Lib.hid hJr
    have HEQ := Lib.hid heq
    have N1 := Lib.hid (HA.out.node wr (HH.out.keep _ _ hJr))
    obtain ⟨d0, d1, c2, d3, fz⟩ := N1.out.own
    have hkl : ks[i]? = some (ks[i]'(by have := HKS.out; omega)) := List.getElem?_eq_getElem _
    have hnl : ns[i]? = some (ns[i]'(by have := HKS.out; have := HNL.out; omega)) := List.getElem?_eq_getElem _
    have hnsl : i < ns.length := (List.getElem?_eq_some_iff.1 hnl).1
    generalize ns[i]'(by have := HKS.out; have := HNL.out; omega) = m at *
    generalize ks[i]'(by have := HKS.out; omega) = k at *
    obtain ⟨kb, ko, hka, c3, g1, ck⟩ := node_child N1.out HKN.out hnl
    have HKL := Lib.hid hkl
    unfold ptr at *
    by_cases hlt : i < r.items.length
    · have hx : r.items[i]? = some r.items[i] := List.getElem?_eq_getElem hlt
      generalize r.items[i] = x at *
      have HTL := Lib.hid (tl_succ (h := h) hkl hx HKS.out)
      have hlen2 : Hid (acc'.length + (flat h k).length + 1 + (tl h r.items ks (i + 1)).length ≤ N) := by
        have := hNr; rw [HTL.out] at this; simp only [List.length_append, List.length_cons] at this; exact Lib.hid (by omega)
      have hcall := Lib.hid (HI.out i m k kb ko acc' wr hnl hkl hka HJr.out (by have := hlen2.out; omega))
      have HX := Lib.hid hx
      clear d0 d1 d3 hJr heq hkl hnl hka hx
      obtain ⟨⟨a1, yes⟩, hro⟩ : ∃ p, handOn go acc' (flat h k) = p := ⟨_, rfl⟩
      have HRO := Lib.hid hro
      rw [hro] at hcall
      clear hro
      go_wp2_with fail
      refine hcall.out.mono ?_
      rintro e w3 ⟨rfl, hJ3⟩
      have HJ3 := Lib.hid hJ3
      clear hJ3 hcall N1 c2 fz c3 g1 ck
      cases yes with
      | false =>
        go_wp2_with fail
        go_ret
        rw [HEQ.out, HTL.out, handOn_end HRO.out]
        exact ⟨rfl, HJ3.out⟩
      | true =>
        have N3 := Lib.hid (HA.out.node w3 (HH.out.keep _ _ HJ3.out))
        obtain ⟨d0, d1, c2, d3, fz⟩ := N3.out.own
        obtain ⟨ib, io, hia, ck⟩ := node_item N3.out HX.out
        rw [hia] at c2
        obtain ⟨ck, cv⟩ := ck
        have hcall := Lib.hid (HH.out.call a1 x w3.drew (HH.out.calm _ _ _ HJ3.out (Keep.drew _ _)) (by have := handOn_len HRO.out; have := hlen2.out; omega))
        clear d0 d1 d3 hia
        unfold kv vv at *
        simp only at HJ3 HRO
        go_wp2_with fail
        refine wp_calm (by kernel_rfl) (by kernel_rfl) rfl ?_
        simp only [List.flatMap_cons, List.flatMap_nil, checks, chk, nilLit, List.cons_append, List.nil_append, List.append_nil]
        go_wp2_with fail
        cases hg : go (a1 ++ [x]) with
        | true =>
          have HG := Lib.hid hg
          rw [hg] at hcall
          clear hg
          refine hcall.out.mono ?_
          rintro e w4 ⟨rfl, hJ4⟩
          have HJ4 := Lib.hid hJ4
          clear hJ4 hcall
          go_wp2_with fail
          rw [HQ_normal]
          go_wp2_with fail
          go_roundg (r.items.length - i)
          case measure => omega
          case rel => exact ⟨i + 1, a1 ++ [x], by go_num, by omega, by omega, HJ4.out, by rw [HEQ.out, HTL.out, handOn_on HRO.out, handOn_yes HG.out], by have := handOn_len HRO.out; have := hlen2.out; simp; omega⟩
        | false =>
          have HG := Lib.hid hg
          rw [hg] at hcall
          clear hg
          refine hcall.out.mono ?_
          rintro e w4 ⟨rfl, hJ4⟩
          have HJ4 := Lib.hid hJ4
          clear hJ4 hcall
          go_wp2_with fail
          rw [HQ_normal]
          go_wp2_with fail
          go_ret
          rw [HEQ.out, HTL.out, handOn_on HRO.out, handOn_no HG.out]
          exact ⟨rfl, HJ4.out⟩
    · have hi : i = r.items.length := by omega
      subst hi
      have hcall := Lib.hid (HI.out _ m k kb ko acc' wr.drew hnl hkl hka (HH.out.calm _ _ _ HJr.out (Keep.drew _ _)) (by have := hNr; rw [tl_last hkl HKS.out] at this; exact this))
      rw [HNL.out, HKS.out] at g1
      clear d0 d1 d3 hJr heq hkl hnl hka
      go_wp2_with fail
      refine wp_calm (by kernel_rfl) (by kernel_rfl) rfl ?_
      simp only [List.flatMap_cons, List.flatMap_nil, checks, chk, nilLit, List.cons_append, List.nil_append, List.append_nil]
      go_wp2_with fail
      refine hcall.out.mono ?_
      rintro e w3 ⟨rfl, hJ3⟩
      have HJ3 := Lib.hid hJ3
      clear hJ3 hcall
      go_wp2_with fail
      rw [HQ_normal]
      go_wp2_with fail
      go_ret
      rw [HEQ.out, tl_last HKL.out HKS.out]
      exact ⟨rfl, HJ3.out⟩

/-- THE SCAN below a node. -/
theorem scan_any {w0 : World} {b : Nat} {hr : HRec} {H : Store It} {L : Nat → Lay} {g : FuncId} {caps : Array Value} {go : List It → Bool} {J : List It → World → Prop} {S : Nat → Nat → Prop} {N : Nat} {mn mx : Nat}
    (HD : Hands g caps go J S w0 N) (A : StayAll w0 S b hr H L) (hmx : mx ≤ 1000000000000) : ∀ (h l n : Nat) (t : Tr It) (F : List Nat), Rep H hr.iso h n t F → wfr l mn mx h t → ∀ (pb po : Nat), (∀ W, Keep S w0 W → W.cell? ⟨pb, po, none⟩ = some (ptr n)) → ∀ (acc : List It) (w : World), J acc w → acc.length + (flat h t).length ≤ N →
    Calls Try.prog 177 #[ptr b, .pointer (some ⟨pb, po, none⟩), .func (.func g) #[] caps, .bool false] w (HandPost J (handOn go acc (flat h t)))
  | 0, l, n, t, F, hrp, wf, pb, po, hc, acc, w, hJ, hN => by
    obtain ⟨r, h1, h2, h3, h4, h5, h6, _⟩ := hrp
    obtain ⟨its, ks⟩ := t
    simp only [Tr.its, flat] at *
    subst h3
    exact scan_leaf HD ⟨A.hdr, hc, fun W k => A.node W k n r h1, h2, by have := wf.2.1; simp only [Tr.its] at this; omega⟩ h5 hJ hN
  | h + 1, l, n, t, F, hrp, wf, pb, po, hc, acc, w, hJ, hN => by
    obtain ⟨r, ns, F', h1, h2, h3, h4, h5, h6, _⟩ := hrp
    obtain ⟨w1, w2, w3, w4⟩ := wf
    obtain ⟨its, ks⟩ := t
    simp only [Tr.its, Tr.ks] at *
    subst h3
    refine scan_inner HD ⟨A.hdr, hc, fun W k => A.node W k n r h1, h2, by omega⟩ h4 w3 h6.len (fun i m k kb ko acc W hm1 hk hka hJ hN => ?_) hJ hN
    obtain ⟨G, hR⟩ := h6.get hm1 hk
    refine scan_any HD A hmx h mn m k G hR (w4 k (List.mem_of_getElem? hk)) kb (ko + i) (fun W' hk' => ?_) acc W hJ hN
    obtain ⟨kb', ko', hka', _, _, ck⟩ := node_child (A.node W' hk' n r h1) h4 hm1
    rw [hka] at hka'
    obtain ⟨rfl, rfl⟩ : kb = kb' ∧ ko = ko' := by simpa using hka'
    exact ck
end Go.Proofs.Ytckplcmieelmpaa.W

namespace Go.Proofs.Ytckplcmieelmpaa.W
open Go.RowKit Go.Wb

set_option maxHeartbeats 2000000 in
theorem lowScan_any {w0 w : World} {b : Nat} {hr : HRec} {H : Store It} {L : Nat → Lay} {F : List Nat} {mn mx : Nat} {s : Sh} {g : FuncId} {caps : Array Value} {go : List It → Bool} {J : List It → World → Prop} {S : Nat → Nat → Prop} {N : Nat} (P : HandPre w0 w b hr H L F mn mx s g caps go J S N) :
    Calls Try.prog 133 #[ptr b, .func (.func g) #[] caps, .bool false] w (HandedPost J (handOn go [] (its s))) := by
  have T := P.tree
  have A := T.stay P.hb P.hS
  have hk0 := P.hands.keep _ _ P.start
  have c2 := hdr_root (A.hdr w hk0)
  cases s with
  | none =>
    obtain ⟨hroot, _⟩ := T.root
    rw [hroot] at c2
    simp only [rootV, Option.map_none] at c2
    have HP := Lib.hid P
    clear P T A hk0 hroot
    unfold ptr at *
    go_enter Try.func133, Try.ntmps133
    go_wp2_with fail
    go_end0
    exact ⟨rfl, HP.out.start⟩
  | some q =>
    obtain ⟨h, t⟩ := q
    obtain ⟨n, hroot, rep, wf⟩ := T.root
    rw [hroot] at c2
    simp only [rootV, Option.map_some] at c2
    have hcall := Lib.hid (scan_any P.hands A T.par.hb h 1 n t F rep wf b 2 (fun W hK => by have := hdr_root (A.hdr W hK); rw [hroot] at this; exact this) [] w P.start (by have := P.len; simp only [its, List.length_nil, Nat.zero_add] at *; exact this))
    have HP := Lib.hid P
    clear P T A hk0 hroot rep wf
    unfold ptr at *
    go_enter Try.func133, Try.ntmps133
    go_wp2_with fail
    refine hcall.out.mono ?_
    rintro e w' ⟨rfl, hJ⟩
    have HJ := Lib.hid hJ
    clear hJ hcall
    go_wp2_with fail
    go_end0
    exact ⟨rfl, HJ.out⟩

set_option maxHeartbeats 1000000 in
theorem mapScan_any {w0 w : World} {b : Nat} {hr : HRec} {H : Store It} {L : Nat → Lay} {F : List Nat} {mn mx : Nat} {s : Sh} {g : FuncId} {caps : Array Value} {go : List It → Bool} {J : List It → World → Prop} {S : Nat → Nat → Prop} {N : Nat} (P : HandPre w0 w b hr H L F mn mx s g caps go J S N) :
    Calls Try.prog 85 #[ptr b, .func (.func g) #[] caps] w (HandedPost J (handOn go [] (its s))) := by
  have hcall := Lib.hid (lowScan_any P)
  clear P
  unfold ptr at *
  go_enter Try.func85, Try.ntmps85
  go_wp2_with fail
  refine hcall.out.mono ?_
  rintro e w' ⟨rfl, hJ⟩
  have HJ := Lib.hid hJ
  clear hJ hcall
  go_wp2_with fail
  go_end0
  exact ⟨rfl, HJ.out⟩
end Go.Proofs.Ytckplcmieelmpaa.W

namespace Go.Wb
open Go Go.RowKit

theorem int_wf {n : Int} (h : (Lit.int .i64 n).wf = true) : -9223372036854775808 ≤ n ∧ n ≤ 9223372036854775807 := by
  simp only [Lit.wf, Bool.and_eq_true] at h
  have h1 := of_decide_eq_true h.1
  have h2 := of_decide_eq_true h.2
  rw [show IntKind.i64.min = -9223372036854775808 from rfl] at h1
  rw [show IntKind.i64.max = 9223372036854775807 from rfl] at h2
  exact ⟨h1, h2⟩
/-- A new block reads as what was laid into it. -/
theorem new_given (w : World) (cs : List Value) (ty : TypeId) : Given (w.alloc (.cells cs.toArray ty)) (some ⟨w.heap.size, 0, none⟩) cs :=
  .inr ⟨_, 0, rfl, fun i v hi => by rw [Nat.zero_add]; have h := heap_alloc_new w (.cells cs.toArray ty); simp only [World.cell?, h]; simpa using hi⟩
/-- A slice that grows, told. -/
structure Rw where
  ty : Nat
  s : Nat
  a : Option Addr
  n : Nat
  cap : Nat
  cs : List Value
def Rw.fp (r : Rw) (b : Nat) : Prop := ∃ o, rowFp r.a (r.cap * r.s) b o
/-- Slices that grow, in blocks of their own from B on. -/
structure Accs (B : Nat) (w : World) (l : List Rw) : Prop where
  acc : ∀ (i : Nat) (r : Rw), l[i]? = some r → Acc B w r.ty r.s r.a r.n r.cap r.cs
  apart : ∀ (i j : Nat) (r q : Rw), i ≠ j → l[i]? = some r → l[j]? = some q → ∀ b, r.fp b → q.fp b → False

variable {B : Nat} {w w' : World} {l : List Rw}
theorem Accs.nil (B : Nat) (w : World) : Accs B w [] := ⟨fun i r h => by simp at h, fun i j r q _ h => by simp at h⟩
theorem Accs.quiet (h : Accs B w l) (hk : Keep (fun _ _ => False) w w') : Accs B w' l := ⟨fun i r hi => (h.acc i r hi).quiet hk, h.apart⟩
/-- What turns is none of the rows'. -/
theorem Accs.calm (h : Accs B w l) {S : Nat → Nat → Prop} (hk : Keep S w w') (hS : ∀ b o, B ≤ b → ¬ S b o) : Accs B w' l := ⟨fun i r hi => (h.acc i r hi).calm hk hS, h.apart⟩
/-- One more, in new blocks. -/
theorem Accs.add (h : Accs B w l) (hB : B ≤ w.heap.size) (hk : Keep (fun _ _ => False) w w') {r : Rw} (hr : Row w' r.ty r.s r.a r.cap r.cs) (hl : r.cs.length = r.n * r.s) (hle : r.n ≤ r.cap) (hn : ∀ b, r.fp b → w.heap.size ≤ b) : Accs B w' (l ++ [r]) := by
  have get : ∀ (i : Nat) (q : Rw), (l ++ [r])[i]? = some q → l[i]? = some q ∨ (i = l.length ∧ q = r) := fun i q hi => by
    rw [List.getElem?_append] at hi
    split at hi
    · exact .inl hi
    · rename_i hlt
      have : i - l.length = 0 := by
        rcases Nat.eq_zero_or_pos (i - l.length) with h | h
        · exact h
        · rw [List.getElem?_eq_none (by simp; omega)] at hi; cases hi
      rw [this] at hi
      exact .inr ⟨by omega, by simpa using hi.symm⟩
  have old : ∀ (i : Nat) (q : Rw), l[i]? = some q → ∀ b, q.fp b → b < w.heap.size := fun i q hi b ⟨o, hf⟩ => rowFp_lt (h.acc i q hi).row hf
  refine ⟨fun i q hi => ?_, fun i j p q hij hi hj b hp hq => ?_⟩
  · rcases get i q hi with h1 | ⟨_, rfl⟩
    · exact (h.acc i q h1).quiet hk
    · exact ⟨hr, hl, hle, fun b o hf => Nat.le_trans hB (hn b ⟨o, hf⟩)⟩
  · rcases get i p hi with h1 | ⟨e1, rfl⟩ <;> rcases get j q hj with h2 | ⟨e2, rfl⟩
    · exact h.apart i j p q hij h1 h2 b hp hq
    · have := old i p h1 b hp; have := hn b hq; omega
    · have := old j q h2 b hq; have := hn b hp; omega
    · omega
theorem Accs.addNil (h : Accs B w l) (hB : B ≤ w.heap.size) (ty s : Nat) : Accs B w (l ++ [⟨ty, s, none, 0, 0, []⟩]) :=
  h.add hB (Keep.refl _ _) (.inl ⟨rfl, rfl, rfl⟩) (by simp) (Nat.le_refl _) fun b ⟨o, _, _, h, _⟩ => by cases h
/-- One grows. -/
theorem Accs.grow (h : Accs B w l) (hB : B ≤ w.heap.size) (i : Nat) {ty s n cap m cap' : Nat} {a a' : Option Addr} {cs news : List Value} (hi : l[i]? = some ⟨ty, s, a, n, cap, cs⟩) (hg : Grew w w' ty s a a' n m cap cap' (cs ++ news)) (hl : news.length = m * s) :
    Accs B w' (l.set i ⟨ty, s, a', n + m, cap', cs ++ news⟩) ∧ Keep (fun b _ => B ≤ b) w w' := by
  obtain ⟨g1, g2⟩ := (h.acc i _ hi).grow hB hg hl
  have get : ∀ (j : Nat) (q : Rw), (l.set i ⟨ty, s, a', n + m, cap', cs ++ news⟩)[j]? = some q → (j = i ∧ q = ⟨ty, s, a', n + m, cap', cs ++ news⟩) ∨ (j ≠ i ∧ l[j]? = some q) := fun j q hj => by
    rw [List.getElem?_set] at hj
    split at hj
    · rename_i hij
      split at hj
      · exact .inl ⟨hij.symm, by simpa using hj.symm⟩
      · cases hj
    · rename_i hij
      exact .inr ⟨fun e => hij e.symm, hj⟩
  have old : ∀ (j : Nat) (q : Rw), l[j]? = some q → ∀ b, q.fp b → b < w.heap.size := fun j q hj b ⟨o, hf⟩ => rowFp_lt (h.acc j q hj).row hf
  have fp' : ∀ b, (⟨ty, s, a', n + m, cap', cs ++ news⟩ : Rw).fp b → (⟨ty, s, a, n, cap, cs⟩ : Rw).fp b ∨ w.heap.size ≤ b := fun b ⟨o, hf⟩ => by
    rcases hg.fp b o hf with h1 | ⟨h1, _⟩
    · exact .inl ⟨o, h1⟩
    · exact .inr (by omega)
  refine ⟨⟨fun j q hj => ?_, fun j k p q hjk hj hk b hp hq => ?_⟩, g2⟩
  · rcases get j q hj with ⟨rfl, rfl⟩ | ⟨hne, hj⟩
    · exact g1
    · have hq := h.acc j q hj
      refine ⟨hq.row.keep' hg.keep fun b o hf ⟨x, y, e1, e2, e3, e4⟩ => ?_, hq.len, hq.le, hq.own⟩
      exact h.apart j i q _ hne hj hi b ⟨o, hf⟩ ⟨o, x, y, e1, e2, by omega, e4⟩
  · rcases get j p hj with ⟨rfl, rfl⟩ | ⟨hj1, hj2⟩ <;> rcases get k q hk with ⟨rfl, rfl⟩ | ⟨hk1, hk2⟩
    · exact hjk rfl
    · rcases fp' b hp with h1 | h1
      · exact h.apart j k _ q hjk hi hk2 b h1 hq
      · have := old k q hk2 b hq; omega
    · rcases fp' b hq with h1 | h1
      · exact h.apart j k p _ hjk hj2 hi b hp h1
      · have := old j p hj2 b hp; omega
    · exact h.apart j k p q hjk hj2 hk2 b hp hq
/-- A cell of one is written. -/
theorem Accs.set (h : Accs B w l) (i : Nat) {ty s n cap b o j : Nat} {cs : List Value} (hi : l[i]? = some ⟨ty, s, some ⟨b, o, none⟩, n, cap, cs⟩) (hj : j < cs.length) (v : Value) : Accs B (w.setCell ⟨b, o + j, none⟩ v) (l.set i ⟨ty, s, some ⟨b, o, none⟩, n, cap, cs.set j v⟩) := by
  have hr := h.acc i _ hi
  have hlen := hr.row.len
  have hk : Keep (fun x y => x = b ∧ o ≤ y ∧ y < o + cap * s) w (w.setCell ⟨b, o + j, none⟩ v) := Keep.set (Keep.refl _ _) _ _ _ fun _ => ⟨rfl, by omega, by simp only at hlen; omega⟩
  have get : ∀ (k : Nat) (q : Rw), (l.set i ⟨ty, s, some ⟨b, o, none⟩, n, cap, cs.set j v⟩)[k]? = some q → (k = i ∧ q = ⟨ty, s, some ⟨b, o, none⟩, n, cap, cs.set j v⟩) ∨ (k ≠ i ∧ l[k]? = some q) := fun k q hk => by
    rw [List.getElem?_set] at hk
    split at hk
    · rename_i hij
      split at hk
      · exact .inl ⟨hij.symm, by simpa using hk.symm⟩
      · cases hk
    · rename_i hij
      exact .inr ⟨fun e => hij e.symm, hk⟩
  refine ⟨fun k q hq => ?_, fun k m p q hkm hp hq c hc hd => ?_⟩
  · rcases get k q hq with ⟨rfl, rfl⟩ | ⟨hne, hq2⟩
    · exact ⟨hr.row.setCell v hj, by rw [List.length_set]; exact hr.len, hr.le, hr.own⟩
    · have hq' := h.acc k q hq2
      refine ⟨hq'.row.keep' hk fun c y hf ⟨e, h1, h2⟩ => ?_, hq'.len, hq'.le, hq'.own⟩
      exact h.apart k i q _ hne hq2 hi c ⟨y, hf⟩ ⟨y, b, o, rfl, e, h1, h2⟩
  · rcases get k p hp with ⟨rfl, rfl⟩ | ⟨hk1, hp2⟩ <;> rcases get m q hq with ⟨rfl, rfl⟩ | ⟨hm1, hq2⟩
    · exact hkm rfl
    · exact h.apart k m _ q hkm hi hq2 c hc hd
    · exact h.apart k m p _ hkm hp2 hi c hc hd
    · exact h.apart k m p q hkm hp2 hq2 c hc hd
/-- A new block of one element. -/
theorem Accs.addBlk (h : Accs B w l) (hB : B ≤ w.heap.size) {w' : World} (hk : Keep (fun _ _ => False) w w') {ty s b n : Nat} {cs : List Value} (hb : w'.heap[b]? = some (.cells cs.toArray ty (0, 0))) (hw : w.heap.size ≤ b) (hs : cs.length = n * s) : Accs B w' (l ++ [⟨ty, s, some ⟨b, 0, none⟩, n, n, cs⟩]) :=
  h.add hB hk (.inr ⟨b, 0, cs.toArray, rfl, hb, by simp only; omega, by simp only [List.size_toArray]; omega, fun i v hi => by simpa using hi⟩) hs (Nat.le_refl _) fun c ⟨o, x, y, e, e2, _⟩ => by
    obtain ⟨rfl, _⟩ : b = x ∧ 0 = y := by simpa using e
    omega
/-- Some of them, in another order. -/
theorem Accs.sub (h : Accs B w l) {l' : List Rw} (f : Nat → Nat) (hf : ∀ i r, l'[i]? = some r → l[f i]? = some r) (inj : ∀ i j, i < l'.length → j < l'.length → f i = f j → i = j) : Accs B w l' :=
  ⟨fun i r hi => h.acc (f i) r (hf i r hi), fun i j r q hij hi hj => h.apart (f i) (f j) r q (fun e => hij (inj i j (List.getElem?_eq_some_iff.1 hi).1 (List.getElem?_eq_some_iff.1 hj).1 e)) (hf i r hi) (hf j q hj)⟩
end Go.Wb

namespace Go.Wb
variable {α : Type} {lt : α → α → Bool}

/-- An item put into sorted ones. -/
def putF (lt : α → α → Bool) (l : List α) (x : α) : List α := l.filter (fun a => lt a x) ++ x :: l.filter (fun b => lt x b)
/-- The item that is as x. -/
def sameF (lt : α → α → Bool) (l : List α) (x : α) : Option α := l.find? fun a => !lt a x && !lt x a

theorem Put.eq (o : Ord lt) {l l' : List α} {x : α} {p : Option α} (h : Put lt l x l' p) : l' = putF lt l x ∧ p = sameF lt l x := by
  have hA : ∀ A : List α, (∀ a ∈ A, lt a x = true) → A.filter (fun a => lt a x) = A ∧ A.filter (fun b => lt x b) = [] := fun A hA => ⟨List.filter_eq_self.2 hA, List.filter_eq_nil_iff.2 fun a ha => by rw [o.asymm (hA a ha)]; simp⟩
  have hB : ∀ B : List α, (∀ b ∈ B, lt x b = true) → B.filter (fun a => lt a x) = [] ∧ B.filter (fun b => lt x b) = B := fun B hB => ⟨List.filter_eq_nil_iff.2 fun a ha => by rw [o.asymm (hB a ha)]; simp, List.filter_eq_self.2 hB⟩
  cases p with
  | none =>
    obtain ⟨A, B, rfl, rfl, h1, h2⟩ := h
    refine ⟨by simp [putF, hA A h1, hB B h2], ?_⟩
    rw [sameF, eq_comm, List.find?_eq_none]
    intro a ha
    rcases List.mem_append.1 ha with h | h
    · simp [h1 a h]
    · simp [h2 a h]
  | some p =>
    obtain ⟨A, B, rfl, rfl, e1, e2, h1, h2⟩ := h
    refine ⟨by simp [putF, hA A h1, hB B h2, e1, e2], ?_⟩
    rw [sameF, List.find?_append, List.find?_eq_none.2 (fun a ha => by simp [h1 a ha])]
    simp [e1, e2]

theorem putF_len (l : List α) (x : α) (o : Ord lt) : (putF lt l x).length ≤ l.length + 1 := by
  have h : ∀ l : List α, (l.filter (fun a => lt a x)).length + (l.filter (fun b => lt x b)).length ≤ l.length := by
    intro l
    induction l with
    | nil => simp
    | cons a l ih =>
      simp only [List.filter_cons]
      cases h1 : lt a x with
      | true => rw [o.asymm h1]; simp; omega
      | false => cases h2 : lt x a <;> simp <;> omega
  have := h l
  simp [putF]; omega
theorem foldl_put_len (o : Ord lt) (xs : List α) : ∀ l : List α, (xs.foldl (putF lt) l).length ≤ l.length + xs.length := by
  induction xs with
  | nil => intro l; simp
  | cons x xs ih => intro l; have h1 := ih (putF lt l x); have h2 := putF_len l x o; simp only [List.foldl_cons, List.length_cons]; omega
end Go.Wb
namespace Go.Wb
variable {α : Type} {lt : α → α → Bool}
theorem mem_putF {l : List α} {x y : α} (h : y ∈ putF lt l x) : y ∈ l ∨ y = x := by
  simp only [putF, List.mem_append, List.mem_cons, List.mem_filter] at h
  rcases h with h | h | h
  · exact .inl h.1
  · exact .inr h
  · exact .inl h.1
theorem mem_foldl_put {xs : List α} : ∀ {l : List α} {y : α}, y ∈ xs.foldl (putF lt) l → y ∈ l ∨ y ∈ xs := by
  induction xs with
  | nil => intro l y h; exact .inl h
  | cons x xs ih =>
    intro l y h
    rcases ih h with h | h
    · rcases mem_putF h with h | h
      · exact .inl h
      · exact .inr (by simp [h])
    · exact .inr (by simp [h])
theorem putF_sorted (o : Ord lt) {l : List α} (hs : Sorted lt l) (x : α) : Sorted lt (putF lt l x) := by
  refine List.pairwise_append.2 ⟨hs.filter _, List.pairwise_cons.2 ⟨fun b hb => (List.mem_filter.1 hb).2, hs.filter _⟩, fun a ha b hb => ?_⟩
  have h1 := (List.mem_filter.1 ha).2
  rcases List.mem_cons.1 hb with rfl | hb
  · exact h1
  · exact o.tr _ _ _ h1 (List.mem_filter.1 hb).2
theorem foldl_put_sorted (o : Ord lt) (xs : List α) : ∀ {l : List α}, Sorted lt l → Sorted lt (xs.foldl (putF lt) l) := by
  induction xs with
  | nil => intro l h; exact h
  | cons x xs ih => intro l h; exact ih (putF_sorted o h x)
/-- What is put is there, or one that is as it. -/
theorem putF_has (o : Ord lt) {l : List α} {x y : α} (h : y ∈ l ∨ y = x) : ∃ z ∈ putF lt l x, lt z y = false ∧ lt y z = false := by
  rcases h with h | rfl
  · cases h1 : lt y x with
    | true => exact ⟨y, by simp [putF, h, h1], o.irr y, o.irr y⟩
    | false => cases h2 : lt x y with
      | true => exact ⟨y, by simp [putF, h, h2], o.irr y, o.irr y⟩
      | false => exact ⟨x, by simp [putF], h2, h1⟩
  · exact ⟨y, by simp [putF], o.irr y, o.irr y⟩
theorem putF_map {β : Type} {lt' : β → β → Bool} (f : α → β) (hf : ∀ a b, lt' (f a) (f b) = lt a b) (l : List α) (x : α) : putF lt' (l.map f) (f x) = (putF lt l x).map f := by
  simp only [putF, List.map_append, List.map_cons, List.filter_map]
  congr 1
  · congr 1; apply List.filter_congr; intro a _; simp [hf]
  · congr 2; apply List.filter_congr; intro a _; simp [hf]
theorem foldl_put_map {β : Type} {lt' : β → β → Bool} (f : α → β) (hf : ∀ a b, lt' (f a) (f b) = lt a b) (xs : List α) : ∀ l : List α, (xs.map f).foldl (putF lt') (l.map f) = (xs.foldl (putF lt) l).map f := by
  induction xs with
  | nil => intro l; rfl
  | cons x xs ih => intro l; simp only [List.map_cons, List.foldl_cons]; rw [putF_map f hf, ih]
end Go.Wb

namespace Go.Proofs.Ytckplcmieelmpaa.W
open Go.RowKit Go.Wb

/-- The cells of a word of a list that is read. -/
theorem word_cell {w : World} {a : Option Addr} {l : List It} (h : Given w a (OE.all l)) {i : Nat} {x : It} (hi : l[i]? = some x) : ∃ b o, a = some ⟨b, o, none⟩ ∧ w.cell? ⟨b, o + i * 2, none⟩ = some (kv (ky x)) ∧ w.cell? ⟨b, o + i * 2 + 1, none⟩ = some (.int .i64 x.2) := by
  have h0 := OE.all_get l i x hi 0 (kv (ky x)) rfl
  have h1 := OE.all_get l i x hi 1 (.int .i64 x.2) rfl
  simp only [show OE.s = 2 from rfl] at h0 h1
  rcases h with h | ⟨b, o, ha, hc⟩
  · rw [h] at h0; simp at h0
  · exact ⟨b, o, ha, hc _ _ h0, by have := hc _ _ h1; rwa [← Nat.add_assoc] at this⟩

theorem out_len (l : List It) : (OE.all l).length = l.length * 2 := OE.all_len l
theorem out_one {l : List It} : ∀ u ∈ OE.all l, u.oneCell' = true := fun u hu => by
  obtain ⟨x, _, hx⟩ := List.mem_flatMap.1 hu
  exact OE.one x u hx
theorem out_take (l : List It) (n : Nat) : OE.all (l.take n) = (OE.all l).take (n * 2) := by
  induction l generalizing n with
  | nil => simp [Enc.all]
  | cons x l ih =>
    cases n with
    | zero => simp [Enc.all]
    | succ n =>
      rw [List.take_succ_cons, Enc.all_cons, Enc.all_cons, ih n, show (n + 1) * 2 = (OE.enc x).length + n * 2 by rw [OE.len]; simp [OE]; omega, List.take_append, Nat.add_sub_cancel_left, List.take_of_length_le (l := OE.enc x) (by omega)]
theorem out_drop (l : List It) (n : Nat) : OE.all (l.drop n) = (OE.all l).drop (n * 2) := by
  induction l generalizing n with
  | nil => simp [Enc.all]
  | cons x l ih =>
    cases n with
    | zero => simp [Enc.all]
    | succ n =>
      rw [List.drop_succ_cons, Enc.all_cons, ih n, show (n + 1) * 2 = (OE.enc x).length + n * 2 by rw [OE.len]; simp [OE]; omega, ← List.drop_drop, List.drop_left]
/-- A new list of words. -/
def NewWords (w : World) (xs : List It) (e : Ending) (w' : World) : Prop := ∃ a cap, e = .returned (.slice a xs.length cap) ∧ Acc w.heap.size w' 31 2 a xs.length cap (OE.all xs) ∧ Keep Nothing w w'

-- equal lists
set_option maxRecDepth 100000 in
set_option maxHeartbeats 2000000 in
theorem equalW_any {w : World} {a c : Option Addr} {acap ccap : Nat} {l : List It} (h1 : Given w a (OE.all l)) (h2 : Given w c (OE.all l)) (hl : l.length ≤ 4000000000000) :
    Calls Try.prog 30 #[.slice a l.length acap, .slice c l.length ccap] w fun e w' => e = .returned (.bool true) ∧ Keep Nothing w w' := by
  have H1 := Lib.hid h1
  have H2 := Lib.hid h2
  clear h1 h2
  go_enter Try.func30, Try.ntmps30
  go_wp2_with fail
  go_loopg [13] (l.length + 1) (fun k v13 wr => ∃ i : Nat, v13 = .int .i64 i ∧ i ≤ l.length ∧ i + k = l.length + 1 ∧ Keep Nothing w wr)
  case atStart => exact ⟨0, rfl, by omega, by omega, Keep.refl _ _⟩
  case round =>
    obtain ⟨i, rfl, hil, hik, hK⟩ := hrel
    have HK := Lib.hid hK
    clear hK
    by_cases hlt : i < l.length
    · have hx : l[i]? = some l[i] := List.getElem?_eq_getElem hlt
      generalize l[i] = x at *
      obtain ⟨b1, o1, ha, x0, x1⟩ := word_cell (H1.out.keep HK.out) hx
      obtain ⟨b2, o2, hc, y0, y1⟩ := word_cell (H2.out.keep HK.out) hx
      subst ha
      subst hc
      clear hx
      unfold kv at *
      go_wp2_with fail
      go_quiet (fail)
      go_wp2_with fail
      go_roundg (l.length - i)
      case measure => omega
      case rel => exact ⟨i + 1, by go_num, by omega, by omega, HK.out.drN _⟩
    · have hi : i = l.length := by omega
      subst hi
      go_wp2_with fail
      go_ret
      exact ⟨rfl, HK.out⟩

-- spot
theorem loc_lt {l : List It} {k : Ky} {i j : Nat} {f : Bool} (hs : Sorted ilt l) (hl : Loc l k i f) (hj : j < i) {x : It} (hx : l[j]? = some x) : klt (ky x) k = true := by
  cases f with
  | false => exact hl.2.1 j x hj hx
  | true =>
    obtain ⟨A, y, B, rfl, rfl, _, _, _, hA, _⟩ := loc_found hs hl
    rw [List.getElem?_append_left hj] at hx
    exact hA x (List.mem_of_getElem? hx)
theorem loc_at {l : List It} {k : Ky} {i : Nat} {f : Bool} (hl : Loc l k i f) {x : It} (hx : l[i]? = some x) : klt (ky x) k = false ∧ ((ky x).toList == k.toList) = f := by
  cases f with
  | false =>
    have h := hl.2.2 i x (Nat.le_refl _) hx
    refine ⟨kord.asymm h, ?_⟩
    rw [beq_eq_false_iff_ne]
    intro e
    unfold klt at h
    rw [e, bytesLess_irr] at h
    cases h
  | true =>
    obtain ⟨_, y, hy, h1, h2⟩ := hl
    rw [hx] at hy
    cases hy
    exact ⟨h2, by rw [beq_iff_eq]; exact bytesLess_tri _ _ h2 h1⟩

set_option maxRecDepth 100000 in
set_option maxHeartbeats 4000000 in
theorem spot_any {w : World} {a : Option Addr} {cap : Nat} {l : List It} {k : Ky} {i : Nat} {f : Bool} (h1 : Given w a (OE.all l)) (hl : l.length ≤ 4000000000000) (hloc : Loc l k i f) (hs : Sorted ilt l) :
    Calls Try.prog 178 #[.slice a l.length cap, kv k] w fun e w' => e = .returned (.tuple #[.int .i64 i, .bool f]) ∧ Keep Nothing w w' := by
  have H1 := Lib.hid h1
  have HLO := Lib.hid hloc
  have HS := Lib.hid hs
  have hil0 := hloc.1
  clear h1 hloc hs
  unfold kv
  go_enter Try.func178, Try.ntmps178
  go_wp2_with fail
  go_loopg [6] (i + 1) (fun c v6 wr => ∃ j : Nat, v6 = .int .i64 j ∧ j ≤ i ∧ j + c = i + 1 ∧ w = wr)
  case atStart => exact ⟨0, rfl, by omega, by omega, rfl⟩
  case round =>
    obtain ⟨j, rfl, hji, hjc, rfl⟩ := hrel
    by_cases hlt : j < i
    · have hx : l[j]? = some (l[j]'(by omega)) := List.getElem?_eq_getElem (by omega)
      have hjl : j < l.length := by omega
      generalize l[j]'(by omega) = x at *
      have hb := loc_lt HS.out HLO.out hlt hx
      obtain ⟨b1, o1, ha, x0, x1⟩ := word_cell H1.out hx
      subst ha
      clear hx
      unfold kv klt at *
      go_wp2_with fail
      go_roundg (i - j)
      case measure => omega
      case rel => exact ⟨j + 1, by go_num, by omega, by omega, rfl⟩
    · obtain rfl : i = j := by omega
      clear hjc hji hlt
      by_cases hjl : i < l.length
      · have hx : l[i]? = some l[i] := List.getElem?_eq_getElem hjl
        generalize l[i] = x at *
        obtain ⟨hb, hq⟩ := loc_at HLO.out hx
        obtain ⟨b1, o1, ha, x0, x1⟩ := word_cell H1.out hx
        subst ha
        clear hx
        unfold kv klt at *
        go_wp2_with fail
        refine wp_calm (by kernel_rfl) (by kernel_rfl) rfl ?_
        simp only [List.flatMap_cons, List.flatMap_nil, checks, chk, nilLit, List.cons_append, List.nil_append, List.append_nil, Try.underlying3, Try.underlying9]
        go_wp2_with fail
        rw [HQ_normal]
        go_wp2_with fail
        go_ret2
        exact ⟨rfl, Keep.drew _ _⟩
      · have hi : i = l.length := by omega
        have hf : f = false := by
          cases f with
          | false => rfl
          | true => obtain ⟨_, y, hy, _⟩ := HLO.out; have := (List.getElem?_eq_some_iff.1 hy).1; omega
        subst hf
        subst hi
        go_wp2_with fail
        refine wp_calm (by kernel_rfl) (by kernel_rfl) rfl ?_
        simp only [List.flatMap_cons, List.flatMap_nil, checks, chk, nilLit, List.cons_append, List.nil_append, List.append_nil, Try.underlying3, Try.underlying9]
        go_wp2_with fail
        rw [HQ_normal]
        go_wp2_with fail
        go_ret2
        exact ⟨rfl, Keep.drew _ _⟩

/-- The items of what was set. -/
def sortK (l : List It) : List It := l.foldl (putF ilt) []
theorem sortK_sorted (l : List It) : Sorted ilt (sortK l) := foldl_put_sorted iord l (by simp [Sorted])
theorem sortK_len (l : List It) : (sortK l).length ≤ l.length := by have := foldl_put_len iord l []; unfold sortK; simpa using this
theorem sortK_snoc (l : List It) {i : Nat} {x : It} (hx : l[i]? = some x) : sortK (l.take (i + 1)) = putF ilt (sortK (l.take i)) x := by
  unfold sortK; rw [List.take_add_one, hx]; simp
theorem putF_none {l : List It} {x : It} {i : Nat} (h : Loc l (ky x) i false) : putF ilt l x = l.take i ++ x :: l.drop i := by
  obtain ⟨hA, hB⟩ := loc_none h
  exact ((show Put ilt l x (l.take i ++ x :: l.drop i) none from ⟨_, _, (List.take_append_drop i l).symm, rfl, hA, hB⟩).eq iord).1.symm
theorem putF_some {l : List It} {x : It} {i : Nat} (hs : Sorted ilt l) (h : Loc l (ky x) i true) : putF ilt l x = l.take i ++ x :: l.drop (i + 1) := by
  obtain ⟨A, y, B, rfl, rfl, _, h1, h2, hA, hB⟩ := loc_found hs h
  have := ((show Put ilt (A ++ y :: B) x (A ++ x :: B) (some y) from ⟨_, _, rfl, rfl, h1, h2, hA, hB⟩).eq iord).1.symm
  rw [this]
  simp
end Go.Proofs.Ytckplcmieelmpaa.W

namespace Go.Proofs.Ytckplcmieelmpaa.W
open Go.RowKit Go.Wb

theorem elemBool : Elem Try.prog 4 1 1 := ⟨by kernel_rfl, by kernel_rfl, by kernel_rfl⟩
def WSetPost (w : World) (l : List It) (e : Ending) (w' : World) : Prop :=
  ∃ v1 v2 a cap, e = .returned (.tuple #[v1, v2, .slice a (sortK l).length cap]) ∧ Acc w.heap.size w' 31 2 a (sortK l).length cap (OE.all (sortK l)) ∧ Keep Nothing w w'

/-- Where the loop of WSet stands. -/
structure WSetAt (w wr : World) (l its : List It) (i : Nat) (a5 a6 a7 : Option Addr) (c5 c6 c7 : Nat) (cs5 cs7 : List Value) : Prop where
  keep : Keep Nothing w wr
  rows : Accs w.heap.size wr [⟨31, 2, a5, i, c5, cs5⟩, ⟨31, 2, a6, its.length, c6, OE.all its⟩, ⟨4, 1, a7, i, c7, cs7⟩]
  its : its = sortK (l.take i)

/-- A part from start on. -/
theorem row_from {B : Nat} {w : World} {a : Option Addr} {n cap k : Nat} {its : List It} (h : Acc B w 31 2 a n cap (OE.all its)) (hk : k ≤ its.length) : (cap = k → its.drop k = []) ∧ (cap ≠ k → ∃ b o, a = some ⟨b, o, none⟩ ∧ Given w (some ⟨b, o + k * 2, none⟩) (OE.all (its.drop k))) := by
  have hl := h.row.len
  rw [out_len] at hl
  refine ⟨fun e => List.drop_eq_nil_of_le (by omega), fun hne => ?_⟩
  rcases h.row with ⟨_, h0, h1⟩ | ⟨b, o, arr, ha, _⟩
  · have := out_len its; rw [h1] at this; simp at this; omega
  · refine ⟨b, o, ha, ?_⟩
    rw [out_drop]
    exact (h.row.reads).drop (k * 2) ha

set_option maxRecDepth 100000 in
set_option maxHeartbeats 16000000 in
theorem wset_any {w : World} {a : Option Addr} {cap : Nat} {l : List It} (h1 : Given w a (OE.all l)) (hl : l.length ≤ 4000000000000) :
    Calls Try.prog 134 #[.slice a l.length cap] w (WSetPost w l) := by
  have H1 := Lib.hid h1
  have HLL := Lib.hid hl
  clear h1
  go_enter Try.func134, Try.ntmps134
  go_wp2_with fail
  go_loopg [5, 6, 7, 16] (l.length + 1) (fun k v5 v6 v7 v16 wr => ∃ (i : Nat) (its : List It) (a5 a6 a7 : Option Addr) (c5 c6 c7 : Nat) (cs5 cs7 : List Value), v5 = .slice a5 i c5 ∧ v6 = .slice a6 its.length c6 ∧ v7 = .slice a7 i c7 ∧ v16 = .int .i64 i ∧ i ≤ l.length ∧ i + k = l.length + 1 ∧ WSetAt w wr l its i a5 a6 a7 c5 c6 c7 cs5 cs7)
  case atStart =>
    refine ⟨0, [], none, none, none, 0, 0, 0, [], [], rfl, rfl, rfl, rfl, by omega, by omega, Keep.refl _ _, ?_, by simp [sortK]⟩
    exact (((Accs.nil w.heap.size w).addNil (Nat.le_refl _) 31 2).addNil (Nat.le_refl _) 31 2).addNil (Nat.le_refl _) 4 1
  case round =>
    obtain ⟨i, its, a5, a6, a7, c5, c6, c7, cs5, cs7, rfl, rfl, rfl, rfl, hil, hik, hA⟩ := hrel
    have HA := Lib.hid hA
    clear hA
    by_cases hlt : i < l.length
    · have hx : l[i]? = some l[i] := List.getElem?_eq_getElem hlt
      generalize l[i] = x at *
      have HX := Lib.hid hx
      obtain ⟨b0, o0, ha, x0, x1⟩ := word_cell (H1.out.keep HA.out.keep) hx
      subst ha
      have hsrt : Sorted ilt its := by rw [HA.out.its]; exact sortK_sorted _
      obtain ⟨j, f, hloc⟩ := Loc.ex (ky x) its hsrt
      have hlen : its.length ≤ i := by rw [HA.out.its]; have := sortK_len (l.take i); simp at this; omega
      have hj := hloc.1
      have hww := HA.out.keep.size
      have HS := Lib.hid hsrt
      have HLO := Lib.hid hloc
      have hllb := HLL.out
      clear hx hsrt hloc
      unfold kv at *
      go_upto_region 6 with (fail)
      refine wp_world ?_
      intro W1 hW1
      have k1 : Keep Nothing wr W1 := by subst hW1; exact (Keep.refl _ _).al _
      have A1 : Hid (Accs w.heap.size W1 [⟨31, 2, a5, i, c5, cs5⟩, ⟨31, 2, a6, its.length, c6, OE.all its⟩, ⟨4, 1, a7, i, c7, cs7⟩, ⟨31, 2, some ⟨wr.heap.size, 0, none⟩, 1, 1, OE.enc x⟩]) := by
        exact HA.out.rows.addBlk hww k1 (by subst hW1; exact heap_alloc_new wr _) (Nat.le_refl _) (OE.len _)
      have K1 : Hid (Keep Nothing w W1) := by exact HA.out.keep.trans k1 fun _ _ _ h => h
      have EI := Lib.hid HA.out.its
      generalize wr.heap.size = q at *
      clear hW1 k1 HA x0 x1 hww
      have hsp := Lib.hid (spot_any (cap := c6) (A1.out.acc 1 _ rfl).row.reads (by omega) HLO.out HS.out)
      have xk := (A1.out.acc 3 _ rfl).row.cell (i := 0) (v := kv (ky x)) rfl
      have xv := (A1.out.acc 3 _ rfl).row.cell (i := 1) (v := .int .i64 x.2) rfl
      simp only [Nat.add_zero] at xk xv
      unfold kv at hsp xk
      go_wp2_with fail
      refine hsp.out.mono ?_
      rintro e W2 ⟨rfl, k2⟩
      have K2 : Hid (Keep Nothing w W2) := by exact K1.out.trans k2 fun _ _ _ h => h
      have A2 := Lib.hid (A1.out.quiet k2)
      clear hsp k2 K1 A1 xk xv
      have xk := (A2.out.acc 3 _ rfl).row.cell (i := 0) (v := kv (ky x)) rfl
      simp only [Nat.add_zero] at xk
      have hw2 := K2.out.size
      unfold kv at xk
      go_upto_region 8 with (fail)
      refine wp_world ?_
      intro W3 hW3
      have k3 : Keep Nothing W2 W3 := by subst hW3; exact (Keep.refl _ _).al _
      have A3 : Hid (Accs w.heap.size W3 [⟨31, 2, a5, i, c5, cs5⟩, ⟨31, 2, a6, its.length, c6, OE.all its⟩, ⟨4, 1, a7, i, c7, cs7⟩, ⟨31, 2, some ⟨q, 0, none⟩, 1, 1, OE.enc x⟩, ⟨31, 2, some ⟨W2.heap.size, 0, none⟩, 1, 1, [.string (ky x), .int .i64 0]⟩]) := by
        exact A2.out.addBlk hw2 k3 (by subst hW3; exact heap_alloc_new W2 _) (Nat.le_refl _) rfl
      have K3 : Hid (Keep Nothing w W3) := by exact K2.out.trans k3 fun _ _ _ h => h
      generalize W2.heap.size = p at *
      have HPW := Lib.hid hw2
      clear hW3 k3 K2 A2 xk hw2
      have hc6 := (A3.out.acc 1 _ rfl).le
      simp only at hc6
      have hw3 := K3.out.size
      go_cut [13] (fun v13 wx => ∃ (a8 : Option Addr) (c8 : Nat), v13 = .slice a8 j c8 ∧ Keep Nothing w wx ∧ Accs w.heap.size wx [⟨31, 2, a5, i, c5, cs5⟩, ⟨31, 2, a6, its.length, c6, OE.all its⟩, ⟨4, 1, a7, i, c7, cs7⟩, ⟨31, 2, some ⟨q, 0, none⟩, 1, 1, OE.enc x⟩, ⟨31, 2, some ⟨p, 0, none⟩, 1, 1, [.string (ky x), .int .i64 0]⟩, ⟨31, 2, a8, j, c8, OE.all (its.take j)⟩])
      case first =>
        have fin : ∀ (a8 : Option Addr) (c8 : Nat) (W4 : World), Grew (W3.alloc (.cells #[] 31)) W4 31 2 (some ⟨W3.heap.size, 0, none⟩) a8 0 j 0 c8 ([] ++ OE.all (its.take j)) → Keep Nothing w W4 ∧ Accs w.heap.size W4 [⟨31, 2, a5, i, c5, cs5⟩, ⟨31, 2, a6, its.length, c6, OE.all its⟩, ⟨4, 1, a7, i, c7, cs7⟩, ⟨31, 2, some ⟨q, 0, none⟩, 1, 1, OE.enc x⟩, ⟨31, 2, some ⟨p, 0, none⟩, 1, 1, [.string (ky x), .int .i64 0]⟩, ⟨31, 2, a8, j, c8, OE.all (its.take j)⟩] := by
          intro a8 c8 W4 hg
          obtain ⟨k4, f4⟩ := hg.fresh (w := W3) ((Keep.refl _ _).al _)
          have k4' : Keep Nothing W3 W4 := ((Keep.refl Nothing W3).al _).trans hg.calm fun _ _ _ h => h
          refine ⟨K3.out.trans k4' fun _ _ _ h => h, ?_⟩
          exact A3.out.add hw3 k4' (r := ⟨31, 2, a8, j, c8, OE.all (its.take j)⟩) (by have := hg.row; simpa using this) (by simp only [out_len, List.length_take]; omega) (by have := hg.cap; simp only; omega) (fun b ⟨o, hf⟩ => f4 b o hf)
        have FIN := Lib.hid fin
        clear fin
        rcases (A3.out.acc 1 _ rfl).row with ⟨h6, h6c, h6n⟩ | ⟨b6, o6, _, h6, _⟩
        · simp only at h6 h6c h6n
          subst h6
          subst h6c
          have hits0 : its = [] := by have := out_len its; rw [h6n] at this; simp at this; exact List.eq_nil_of_length_eq_zero (by omega)
          subst hits0
          obtain rfl : j = 0 := by simpa using hj
          clear h6n
          go_wp2_with (at_builtin; refine wpList_append_src rfl _ _ _ rfl 31 2 24 Try.underlying28 elemO _ 0 0 [] (by rfl) (Row.empty (heap_alloc_new W3 _)) rfl none 0 0 (OE.all (([] : List It).take 0)) (by rfl) (by omega) (by simp [Enc.all]) (.inl (by simp [Enc.all])) out_one (by omega) (by simp only [maxLen]; omega) (by omega) ?_; intro a8 c8 W4 hg; have F := Lib.hid (FIN.out a8 c8 W4 hg); clear hg)
          obtain ⟨F1, F2⟩ := F.out
          go_meet
          exact ⟨a8, c8, rfl, F1, F2⟩
        · simp only at h6
          subst h6
          have HG6 : Hid (Given (W3.alloc (.cells #[] 31)) (some ⟨b6, o6, none⟩) (OE.all (its.take j))) := by
            rw [out_take]; exact (((A3.out.acc 1 _ rfl).row.reads).take _).keep (Keep.alloc _ _ _)
          go_wp2_with (at_builtin; refine wpList_append_src rfl _ _ _ rfl 31 2 24 Try.underlying28 elemO _ 0 0 [] (by rfl) (Row.empty (heap_alloc_new W3 _)) rfl (some ⟨b6, o6, none⟩) j c6 (OE.all (its.take j)) (by rfl) (by omega) (by rw [out_len, List.length_take]; omega) HG6.out out_one (by omega) (by simp only [maxLen]; omega) (by omega) ?_; intro a8 c8 W4 hg; have F := Lib.hid (FIN.out a8 c8 W4 hg); clear hg)
          obtain ⟨F1, F2⟩ := F.out
          go_meet
          exact ⟨a8, c8, by simp, F1, F2⟩
      case' rest =>
        obtain ⟨a8, c8, rfl, k4, g4⟩ := hcut
        have A4 := Lib.hid g4
        have K4 := Lib.hid k4
        clear k4 g4 A3 K3 hw3
      have xk := (A4.out.acc 3 _ rfl).row.cell (i := 0) (v := kv (ky x)) rfl
      have xv := (A4.out.acc 3 _ rfl).row.cell (i := 1) (v := .int .i64 x.2) rfl
      simp only [Nat.zero_add, Nat.add_zero] at xk xv
      have hw4 := K4.out.size
      have A4a : Hid (∀ o, Accs w.heap.size (wc.alloc o) [⟨31, 2, a5, i, c5, cs5⟩, ⟨31, 2, a6, its.length, c6, OE.all its⟩, ⟨4, 1, a7, i, c7, cs7⟩, ⟨31, 2, some ⟨q, 0, none⟩, 1, 1, OE.enc x⟩, ⟨31, 2, some ⟨p, 0, none⟩, 1, 1, [.string (ky x), .int .i64 0]⟩, ⟨31, 2, a8, j, c8, OE.all (its.take j)⟩]) := by exact fun o => A4.out.quiet (Keep.alloc _ _ _)
      have hc8 : Hid (j ≤ c8) := Lib.hid (A4.out.acc 5 _ rfl).le
      unfold kv at xk
      go_upto_region 10 with (at_builtin; refine wpList_append_src rfl _ _ _ rfl 31 2 24 Try.underlying28 elemO a8 j c8 (OE.all (its.take j)) (by rfl) ((A4a.out _).acc 5 _ rfl).row (by rw [out_len, List.length_take]; omega) (some ⟨wc.heap.size, 0, none⟩) 1 1 (OE.enc x) (by rfl) (by omega) rfl (new_given wc (OE.enc x) 31) (OE.one _) hc8.out (by simp only [maxLen]; omega) (by omega) ?_; intro a9 c9 W5 hg)
      obtain ⟨g5, k5⟩ := (A4a.out _).grow (by simp; omega) 5 rfl hg rfl
      have A5 := Lib.hid g5
      have K5 : Hid (Keep Nothing w W5) := by exact (K4.out.al _).trans k5 fun c o hc h => absurd h (by omega)
      clear hg g5 k5 A4 A4a K4 xk xv hw4 hc8
      simp only [List.set] at A5
      have HC9 : Hid (j + 1 ≤ c9) := Lib.hid (A5.out.acc 5 _ rfl).le
      obtain ⟨st, hst⟩ : ∃ st : Nat, st = if f then j + 1 else j := ⟨_, rfl⟩
      have hstl : st ≤ its.length := by
        cases f with
        | false => simp only [if_false, Bool.false_eq_true] at hst; omega
        | true => obtain ⟨_, y, hy, _⟩ := HLO.out; have := (List.getElem?_eq_some_iff.1 hy).1; simp only [if_true] at hst; omega
      have hjst : j ≤ st := by
        cases f with
        | false => simp only [if_false, Bool.false_eq_true] at hst; omega
        | true => simp only [if_true] at hst; omega
      have HPUT : Hid (putF ilt its x = its.take j ++ x :: its.drop st) := by
        cases f with
        | false => simp only [if_false, Bool.false_eq_true] at hst; subst hst; exact putF_none HLO.out
        | true => simp only [if_true] at hst; subst hst; exact putF_some HS.out HLO.out
      have HST := Lib.hid hst
      clear hst
      go_upto_if 39 with (fail)
      go_cut [10] (fun v10 wx => v10 = .int .i64 st ∧ Keep Nothing w wx ∧ ∃ bv : Int, Accs w.heap.size wx [⟨31, 2, a5, i, c5, cs5⟩, ⟨31, 2, a6, its.length, c6, OE.all its⟩, ⟨4, 1, a7, i, c7, cs7⟩, ⟨31, 2, some ⟨q, 0, none⟩, 1, 1, OE.enc x⟩, ⟨31, 2, some ⟨p, 0, none⟩, 1, 1, [.string (ky x), .int .i64 bv]⟩, ⟨31, 2, a9, j + 1, c9, OE.all (its.take j) ++ OE.enc x⟩])
      case first =>
        cases f with
        | false =>
          have hs1 := HST.out
          simp only [if_false, Bool.false_eq_true] at hs1
          subst hs1
          go_wp2_with fail
          go_meet
          exact ⟨rfl, K5.out, 0, A5.out⟩
        | true =>
          have hs1 := HST.out
          simp only [if_true] at hs1
          subst hs1
          obtain ⟨_, y, hy, _⟩ := id HLO.out
          obtain ⟨b6, o6, ha6, y0, y1⟩ := word_cell ((A5.out.acc 1 _ rfl).row.reads) hy
          subst ha6
          have p1 := (A5.out.acc 4 _ rfl).row.cell (i := 1) (v := .int .i64 0) rfl
          have fzp := (A5.out.acc 4 _ rfl).row.frozen
          simp only [Nat.zero_add] at p1
          have hjl : j < its.length := by omega
          clear hy y0
          go_wp2_with fail
          go_meet
          refine ⟨by go_num, K5.out.set _ _ _ (fun h => by have := HPW.out; omega), y.2, ?_⟩
          have := A5.out.set 4 rfl (j := 1) (by simp) (.int .i64 y.2)
          simpa [List.set] using this
      case rest =>
        obtain ⟨rfl, hK6, bv, hA6⟩ := hcut
        have K6 := Lib.hid hK6
        have A6 := Lib.hid hA6
        have hw6 := hK6.size
        obtain ⟨hf1, hf2⟩ := row_from (A6.out.acc 1 _ rfl) hstl
        have HF1 := Lib.hid hf1
        have HF2 := Lib.hid hf2
        have hc6l : its.length ≤ c6 := (A6.out.acc 1 _ rfl).le
        clear hK6 hA6 A5 K5 hf1 hf2
        have hml : (OE.all (its.drop st)).length = (its.length - st) * 2 := by rw [out_len, List.length_drop]
        have HML := Lib.hid hml
        clear hml
        have h9 := HC9.out
        have HFIN : Hid (∀ (a10 : Option Addr) (c10 : Nat) (W7 : World), Grew wc W7 31 2 a9 a10 (j + 1) (its.length - st) c9 c10 ((OE.all (its.take j) ++ OE.enc x) ++ OE.all (its.drop st)) → Keep Nothing w W7 ∧ Accs w.heap.size W7 [⟨31, 2, a5, i, c5, cs5⟩, ⟨31, 2, a6, its.length, c6, OE.all its⟩, ⟨4, 1, a7, i, c7, cs7⟩, ⟨31, 2, some ⟨q, 0, none⟩, 1, 1, OE.enc x⟩, ⟨31, 2, some ⟨p, 0, none⟩, 1, 1, [.string (ky x), .int .i64 bv]⟩, ⟨31, 2, a10, j + 1 + (its.length - st), c10, (OE.all (its.take j) ++ OE.enc x) ++ OE.all (its.drop st)⟩]) := by
          refine Lib.hid ?_
          intro a10 c10 W7 hg
          obtain ⟨g7, k7⟩ := A6.out.grow hw6 5 rfl hg HML.out
          exact ⟨K6.out.trans k7 fun c o hc h => absurd h (by omega), by simpa [List.set] using g7⟩
        go_upto_region 13 with (fail)
        go_cut [6] (fun v6 wx => ∃ (a10 : Option Addr) (c10 : Nat), v6 = .slice a10 (j + 1 + (its.length - st)) c10 ∧ Keep Nothing w wx ∧ Accs w.heap.size wx [⟨31, 2, a5, i, c5, cs5⟩, ⟨31, 2, a6, its.length, c6, OE.all its⟩, ⟨4, 1, a7, i, c7, cs7⟩, ⟨31, 2, some ⟨q, 0, none⟩, 1, 1, OE.enc x⟩, ⟨31, 2, some ⟨p, 0, none⟩, 1, 1, [.string (ky x), .int .i64 bv]⟩, ⟨31, 2, a10, j + 1 + (its.length - st), c10, (OE.all (its.take j) ++ OE.enc x) ++ OE.all (its.drop st)⟩])
        case first =>
          by_cases hc : c6 = st
          · have hnil := HF1.out hc
            have HN := Lib.hid hnil
            have hlst : its.length = st := by omega
            have hg0 : Hid (∀ sa, Given wc sa (OE.all (its.drop st))) := by exact fun sa => .inl (by rw [HN.out]; rfl)
            have HLST := Lib.hid hlst
            clear hnil hlst
            subst hc
            rcases (A6.out.acc 1 _ rfl).row with ⟨h6, h6c, h6n⟩ | ⟨b6, o6, _, h6, _⟩
            · simp only at h6 h6c h6n
              subst h6
              subst h6c
              obtain rfl : its = [] := List.eq_nil_of_length_eq_zero HLST.out
              clear h6n
              have hform := (A6.out.acc 5 _ rfl).row.form (by rw [List.length_append, OE.len]; have := OE.pos; omega)
              simp only at hform
              obtain ⟨b9, o9, h9a, _⟩ := hform
              subst h9a
              go_wp2_with fail
              go_meet
              exact ⟨_, c9, by first | rfl | simp, K6.out, by simpa [Enc.all] using A6.out⟩
            · simp only at h6
              subst h6
              have hform := (A6.out.acc 5 _ rfl).row.form (by rw [List.length_append, OE.len]; have := OE.pos; omega)
              simp only at hform
              obtain ⟨b9, o9, h9a, _⟩ := hform
              subst h9a
              go_wp2_with fail
              go_meet
              have h0 : its.length - c6 = 0 := by have := HLST.out; omega
              refine ⟨some ⟨b9, o9, none⟩, c9, by rw [h0], K6.out, ?_⟩
              rw [h0, HN.out]
              simpa [Enc.all] using A6.out
          · obtain ⟨b6, o6, ha6, hgv⟩ := HF2.out hc
            subst ha6
            have HGV := Lib.hid hgv
            clear hgv
            go_wp2_with (at_builtin; refine wpList_append_src rfl _ _ _ rfl 31 2 24 Try.underlying28 elemO a9 (j + 1) c9 (OE.all (its.take j) ++ OE.enc x) (by rfl) (A6.out.acc 5 _ rfl).row (A6.out.acc 5 _ rfl).len (some ⟨b6, o6 + st * 2, none⟩) (its.length - st) (c6 - st) (OE.all (its.drop st)) (by rfl) (by omega) HML.out HGV.out out_one h9 (by simp only [maxLen]; omega) (by omega) ?_; intro a10 c10 W7 hg; have F := Lib.hid (HFIN.out a10 c10 W7 hg); clear hg)
            obtain ⟨F1, F2⟩ := F.out
            go_meet
            exact ⟨a10, c10, rfl, F1, F2⟩
        case rest =>
          obtain ⟨a10, c10, rfl, k7, g7⟩ := hcut
          have K7 := Lib.hid k7
          have A7 := Lib.hid g7
          have hw7 := k7.size
          have pk := (g7.acc 4 _ rfl).row.cell (i := 0) (v := .string (ky x)) rfl
          have pv := (g7.acc 4 _ rfl).row.cell (i := 1) (v := .int .i64 bv) rfl
          simp only [Nat.zero_add, Nat.add_zero] at pk pv
          have A7a : Hid (∀ o, Accs w.heap.size (wc.alloc o) [⟨31, 2, a5, i, c5, cs5⟩, ⟨31, 2, a6, its.length, c6, OE.all its⟩, ⟨4, 1, a7, i, c7, cs7⟩, ⟨31, 2, some ⟨q, 0, none⟩, 1, 1, OE.enc x⟩, ⟨31, 2, some ⟨p, 0, none⟩, 1, 1, [.string (ky x), .int .i64 bv]⟩, ⟨31, 2, a10, j + 1 + (its.length - st), c10, (OE.all (its.take j) ++ OE.enc x) ++ OE.all (its.drop st)⟩]) := by exact fun o => A7.out.quiet (Keep.alloc _ _ _)
          have hc5 : Hid (i ≤ c5) := Lib.hid (g7.acc 0 _ rfl).le
          clear k7 g7 K6 A6 HFIN HF1 HF2 hc6l
          have h5 := hc5.out
          have hb1 : (i + 1) * 24 ≤ 140737488355328 := by omega
          have hone : ∀ u ∈ [Value.string (ky x), .int .i64 bv], u.oneCell' = true := by intro u hu; simp at hu; rcases hu with rfl | rfl <;> rfl
          have hnew := new_given wc [Value.string (ky x), .int .i64 bv] 31
          have hro := ((A7a.out (.cells [Value.string (ky x), .int .i64 bv].toArray 31)).acc 0 _ rfl).row
          have hln := ((A7a.out (.cells [Value.string (ky x), .int .i64 bv].toArray 31)).acc 0 _ rfl).len
          have HN8 : Hid (∀ (a11 : Option Addr) (c11 : Nat) (W8 : World), Grew (wc.alloc (.cells [Value.string (ky x), .int .i64 bv].toArray 31)) W8 31 2 a5 a11 i 1 c5 c11 (cs5 ++ [.string (ky x), .int .i64 bv]) → Keep Nothing w W8 ∧ Accs w.heap.size W8 [⟨31, 2, a11, i + 1, c11, cs5 ++ [.string (ky x), .int .i64 bv]⟩, ⟨31, 2, a6, its.length, c6, OE.all its⟩, ⟨4, 1, a7, i, c7, cs7⟩, ⟨31, 2, some ⟨q, 0, none⟩, 1, 1, OE.enc x⟩, ⟨31, 2, some ⟨p, 0, none⟩, 1, 1, [.string (ky x), .int .i64 bv]⟩, ⟨31, 2, a10, j + 1 + (its.length - st), c10, (OE.all (its.take j) ++ OE.enc x) ++ OE.all (its.drop st)⟩]) := by
            refine Lib.hid ?_
            intro a11 c11 W8 hg
            obtain ⟨g8, k8⟩ := (A7a.out _).grow (by simp; omega) 0 rfl hg rfl
            exact ⟨(K7.out.al _).trans k8 fun c o hc h => absurd h (by omega), by simpa [List.set] using g8⟩
          have HN9 : Hid (∀ (a11 a12 : Option Addr) (c11 c12 : Nat) (W8 W9 : World), Keep Nothing w W8 ∧ Accs w.heap.size W8 [⟨31, 2, a11, i + 1, c11, cs5 ++ [.string (ky x), .int .i64 bv]⟩, ⟨31, 2, a6, its.length, c6, OE.all its⟩, ⟨4, 1, a7, i, c7, cs7⟩, ⟨31, 2, some ⟨q, 0, none⟩, 1, 1, OE.enc x⟩, ⟨31, 2, some ⟨p, 0, none⟩, 1, 1, [.string (ky x), .int .i64 bv]⟩, ⟨31, 2, a10, j + 1 + (its.length - st), c10, (OE.all (its.take j) ++ OE.enc x) ++ OE.all (its.drop st)⟩] → Grew (W8.alloc (.cells [Value.bool f].toArray 4)) W9 4 1 a7 a12 i 1 c7 c12 (cs7 ++ [.bool f]) → Keep Nothing w W9 ∧ Accs w.heap.size W9 [⟨31, 2, a11, i + 1, c11, cs5 ++ [.string (ky x), .int .i64 bv]⟩, ⟨31, 2, a6, its.length, c6, OE.all its⟩, ⟨4, 1, a12, i + 1, c12, cs7 ++ [.bool f]⟩, ⟨31, 2, some ⟨q, 0, none⟩, 1, 1, OE.enc x⟩, ⟨31, 2, some ⟨p, 0, none⟩, 1, 1, [.string (ky x), .int .i64 bv]⟩, ⟨31, 2, a10, j + 1 + (its.length - st), c10, (OE.all (its.take j) ++ OE.enc x) ++ OE.all (its.drop st)⟩]) := by
            refine Lib.hid ?_
            intro a11 a12 c11 c12 W8 W9 ⟨k8, g8⟩ hg
            have := k8.size
            obtain ⟨g9, k9⟩ := (g8.quiet (Keep.alloc _ _ (.cells [Value.bool f].toArray 4))).grow (by simp; omega) 2 rfl hg rfl
            exact ⟨(k8.al _).trans k9 fun c o hc h => absurd h (by omega), by simpa [List.set] using g9⟩
          have hone2 : ∀ u ∈ [Value.bool f], u.oneCell' = true := by intro u hu; simp at hu; subst hu; rfl
          have h7 : i ≤ c7 := (A7.out.acc 2 _ rfl).le
          clear A7 A7a
          go_wp2_with (first
            | (at_builtin; refine wpList_append_src rfl _ _ _ rfl 31 2 24 Try.underlying28 elemO a5 i c5 cs5 (by rfl) hro hln (some ⟨wc.heap.size, 0, none⟩) 1 1 [.string (ky x), .int .i64 bv] (by rfl) (by omega) rfl hnew hone h5 (by simp only [maxLen]; omega) (by omega) ?_; intro a11 c11 W8 hg; have F8 := Lib.hid (HN8.out a11 c11 W8 hg); have hro8 := ((F8.out.2.quiet (Keep.alloc _ _ (.cells [Value.bool f].toArray 4))).acc 2 _ rfl).row; have hln8 := ((F8.out.2.quiet (Keep.alloc _ _ (.cells [Value.bool f].toArray 4))).acc 2 _ rfl).len; have hnew8 := new_given W8 [Value.bool f] 4; clear hg)
            | (at_builtin; refine wpList_append_src rfl _ _ _ rfl 4 1 1 Try.underlying51 elemBool a7 i c7 cs7 (by rfl) hro8 hln8 (some ⟨W8.heap.size, 0, none⟩) 1 1 [.bool f] (by rfl) (by omega) rfl hnew8 hone2 h7 (by simp only [maxLen]; omega) (by omega) ?_; intro a12 c12 W9 hg; have F9 := Lib.hid (HN9.out a11 a12 c11 c12 W8 W9 F8.out hg); clear hg))
          go_roundg (l.length - i)
          case measure => omega
          case rel =>
            have e : OE.all (its.take j ++ x :: its.drop st) = (OE.all (its.take j) ++ OE.enc x) ++ OE.all (its.drop st) := by rw [Enc.all_append, Enc.all_cons, List.append_assoc]
            have e2 : (its.take j ++ x :: its.drop st).length = j + 1 + (its.length - st) := by simp; omega
            refine ⟨i + 1, its.take j ++ x :: its.drop st, a11, a10, a12, c11, c10, c12, cs5 ++ [.string (ky x), .int .i64 bv], cs7 ++ [.bool f], rfl, by rw [e2], rfl, by go_num, by omega, by omega, F9.out.1, ?_, ?_⟩
            · rw [e, e2]
              refine F9.out.2.sub (fun k => if k = 1 then 5 else k) (fun k r hk => ?_) (fun a b ha hb hab => ?_)
              · match k, hk with
                | 0, hk => exact hk
                | 1, hk => exact hk
                | 2, hk => exact hk
              · simp only [List.length_cons, List.length_nil] at ha hb
                try simp only at hab
                split at hab <;> split at hab <;> omega
            · rw [sortK_snoc l HX.out, ← EI.out, HPUT.out]
    · have hi : i = l.length := by omega
      subst hi
      go_wp2_with fail
      go_ret3
      have hits := HA.out.its
      rw [List.take_of_length_le (Nat.le_refl _)] at hits
      subst hits
      exact ⟨_, _, a6, c6, rfl, HA.out.rows.acc 1 _ rfl, HA.out.keep⟩
end Go.Proofs.Ytckplcmieelmpaa.W

namespace Go.Proofs.Ytckplcmieelmpaa.W
open Go.RowKit Go.Wb

theorem len_any {w : World} {b : Nat} {hr : HRec} (hh : Hdr w b hr) : Calls Try.prog 152 #[ptr b] w fun e w' => e = .returned (.int .i64 hr.cnt) ∧ w = w' := by
  have c3 := hdr_cnt hh
  clear hh
  unfold ptr
  go_enter Try.func152, Try.ntmps152
  go_wp2
  go_ret
  exact ⟨rfl, rfl⟩

/-- What Keys returns: a slice of its own of the keys. -/
def NewKeys (w : World) (xs : List Ky) (e : Ending) (w' : World) : Prop := ∃ a cap, e = .returned (.slice a xs.length cap) ∧ Acc w.heap.size w' 9 1 a xs.length cap (xs.map kv) ∧ Keep Nothing w w'

set_option maxRecDepth 100000 in
set_option maxHeartbeats 4000000 in
theorem mapKeys_any {w : World} {b : Nat} {hr : HRec} {H : Store It} {L : Nat → Lay} {F : List Nat} {mn mx : Nat} {s : Sh} (T : TreeAt w b hr H L F mn mx s) (hb : (its s).length ≤ 4000000000000) :
    Calls Try.prog 108 #[ptr b] w (NewKeys w ((its s).map ky)) := by
  have HT := Lib.hid T
  have hln := len_any T.hdr
  rw [T.cnt] at hln
  obtain ⟨cs, hcs, hmk⟩ := run_make0 (P := Try.prog) 22 9 1 16 Try.underlying22 elemK 0 (its s).length (by omega) (by omega) (by omega)
  have hmk' : ∀ w, (Instr.makeSlice 22 (.int .i64 0) (.int .i64 ((its s).length : Int))).run Try.prog w = .ok (.slice (some ⟨w.heap.size, 0, none⟩) 0 (its s).length) (w.alloc (.cells cs 9)) := fun w => hmk w
  have HCS := Lib.hid hcs
  clear hmk hcs T
  unfold ptr at *
  go_enter Try.func108, Try.ntmps108
  go_wp2_with fail
  refine hln.mono ?_
  rintro e w1 ⟨rfl, rfl⟩
  go_upto_region 2 with (fail)
  refine wp_world ?_
  intro W1 hW1
  have K1 : Hid (Keep Nothing w W1) := by subst hW1; exact (Keep.refl _ _).al _
  have KB1 : Hid (Keep (fun b _ => w.heap.size ≤ b) w W1) := by exact K1.out.mono fun _ _ _ h => h.elim
  have A1 : Hid (Acc w.heap.size W1 9 1 (some ⟨w.heap.size, 0, none⟩) 0 (its s).length []) := by
    subst hW1
    exact ⟨.inr ⟨_, 0, cs, rfl, heap_alloc_new w _, by simp, by rw [HCS.out]; omega, by simp⟩, rfl, Nat.zero_le _, fun c o hf => Nat.le_of_eq (rowFp_some hf).1.symm⟩
  have H1 : Hid (Hdr W1 b hr) := by exact blk_keep HT.out.hdr K1.out fun _ h => h
  clear hW1 hmk' hln
  have c2 := hdr_root H1.out
  have fz := hdr_fz H1.out
  cases s with
  | none =>
    obtain ⟨hroot, _⟩ := HT.out.root
    rw [hroot] at c2
    simp only [rootV, Option.map_none] at c2
    clear hroot
    go_wp2_with fail
    go_ret
    exact ⟨_, _, rfl, A1.out, K1.out⟩
  | some p =>
    obtain ⟨h, t⟩ := p
    obtain ⟨n, hroot, rep, wf⟩ := HT.out.root
    rw [hroot] at c2
    simp only [rootV, Option.map_some] at c2
    have hcall := Lib.hid (keys_any HT.out.mem HT.out.par.hb w.heap.size rfl h 1 n t F rep wf W1 KB1.out _ _ [] A1.out (by simpa [its] using hb))
    clear hroot rep wf
    unfold ptr at hcall
    go_wp2_with fail
    refine hcall.out.mono ?_
    rintro e w2 ⟨a, cap, rfl, hA, hK⟩
    have HA := Lib.hid hA
    have HK := Lib.hid hK
    clear hA hK hcall c2 fz
    go_wp2_with fail
    go_ret
    exact ⟨a, cap, by simp [its], by simpa [its] using HA.out, (KB1.out.trans HK.out fun _ _ _ h => h).mono fun b o hb h => by omega⟩
end Go.Proofs.Ytckplcmieelmpaa.W

namespace Go.Proofs.Ytckplcmieelmpaa.W
open Go.RowKit Go.Wb

/-- A tree that was made since w. -/
structure NewTree (w w' : World) (b : Nat) (hr : HRec) (H : Store It) (L : Nat → Lay) (F : List Nat) (mn mx : Nat) (s : Sh) : Prop where
  tree : TreeAt w' b hr H L F mn mx s
  keep : Keep Nothing w w'
  head : w.heap.size ≤ b
  nodes : ∀ m r c o, H m = some r → fp TT m r (L m) c o → w.heap.size ≤ c

theorem NewTree.step {w wr w' : World} {b : Nat} {hr hr' : HRec} {H H' : Store It} {L L' : Nat → Lay} {F F' : List Nat} {mn mx : Nat} {s s' : Sh} (h : NewTree w wr b hr H L F mn mx s) (ts : TStep TT E (fun c _ => c = b) wr H L F w' H' L' F') (T : TreeAt w' b hr' H' L' F' mn mx s') : NewTree w w' b hr' H' L' F' mn mx s' := by
  refine ⟨T, h.keep.trans ts.keep fun c o hc hs => ?_, h.head, fun m r c o hr hf => ?_⟩
  · rcases hs with ⟨m, r, _, hr, hf⟩ | rfl
    · have := h.nodes m r c o hr hf; omega
    · have := h.head; omega
  · rcases ts.only m r hr with h1 | ⟨_, h2, h3⟩
    · rcases Nat.lt_or_ge c wr.heap.size with hc | hc
      · obtain ⟨k, q, _, hq, hfq⟩ := ts.fp c o hc ⟨m, r, h1, hr, hf⟩
        exact h.nodes k q c o hq hfq
      · exact Nat.le_trans h.keep.size hc
    · rw [h3] at hf
      exact h.nodes m r c o h2 hf

theorem NewTree.calm {w wr w' : World} {b : Nat} {hr : HRec} {H : Store It} {L : Nat → Lay} {F : List Nat} {mn mx : Nat} {s : Sh} (h : NewTree w wr b hr H L F mn mx s) (hk : Keep Nothing wr w') : NewTree w w' b hr H L F mn mx s :=
  ⟨h.tree.keep hk, h.keep.trans hk fun _ _ _ h => h, h.head, h.nodes⟩

def zeroHdr : HRec := ⟨0, none, none, 0, ((⟨#[]⟩ : ByteArray), 0), 0, 0, false, false⟩
theorem mem_empty (w : World) (L : Nat → Lay) : Mem TT E w (fun _ => none) L := ⟨fun n r h => (by cases h), fun n m r q _ h => (by cases h)⟩
/-- A zero tree. -/
theorem newTree_zero {w : World} {b : Nat} (hb : Hdr w b zeroHdr) {w0 : World} (hk : Keep Nothing w0 w) (h0 : w0.heap.size ≤ b) : NewTree w0 w b zeroHdr (fun _ => none) (fun _ => ⟨none, 0, 0, none, 0⟩) [] 31 63 none :=
  ⟨⟨hb, mem_empty _ _, by simp, ⟨rfl, rfl⟩, rfl, by simp [its, Sorted], ⟨rfl, rfl, .inr ⟨rfl, rfl, rfl, rfl⟩, by omega, by omega, by omega⟩⟩, hk, h0, fun m r c o h => by cases h⟩

end Go.Proofs.Ytckplcmieelmpaa.W

namespace Go.Proofs.Ytckplcmieelmpaa.W
open Go.RowKit Go.Wb

def NewMapPost (w : World) (d : Int) (e : Ending) (w' : World) : Prop := ∃ b hr, e = .returned (ptr b) ∧ NewTree w w' b hr (fun _ => none) (fun _ => ⟨none, 0, 0, none, 0⟩) [] (d - 1).toNat (2 * d - 1).toNat none ∧ hr.emp = zeroHdr.emp
set_option maxHeartbeats 1000000 in
theorem newMap_any (w : World) (d : Int) (h1 : 2 ≤ d) (h2 : d ≤ 128) : Calls Try.prog 109 #[.int .i64 d] w (NewMapPost w d) := by
  have hmx : mxOf d = d * 2 - 1 := by unfold mxOf; rw [if_neg (by omega), if_neg (by omega)]
  have hmn : mxOf d / 2 = d - 1 := by rw [hmx]; omega
  have HMX := Lib.hid hmx
  have HMN := Lib.hid hmn
  clear hmx hmn
  go_enter Try.func109, Try.ntmps109
  go_upto_region 2 with (fail)
  refine wp_world ?_
  intro W1 hW1
  have K1 : Hid (Keep Nothing w W1) := by subst hW1; exact (Keep.refl _ _).al _
  have hb : Hdr W1 w.heap.size zeroHdr := by subst hW1; have := heap_alloc_new w (.cells (hdrC zeroHdr) 166); exact this
  have hin := Lib.hid (init_new hb d (by omega) (by omega) rfl)
  have HQ : Hid (w.heap.size ≤ w.heap.size) := Lib.hid (Nat.le_refl _)
  generalize hq : w.heap.size = b at *
  clear hW1 hb
  unfold ptr at hin
  go_wp2_with fail
  refine hin.out.mono ?_
  rintro e W2 ⟨rfl, h7, k7⟩
  have H7 := Lib.hid h7
  have K7 := Lib.hid k7
  have HQ2 := Lib.hid hq
  clear hin h7 k7 hq
  go_wp2_with fail
  go_ret
  refine ⟨b, _, rfl, ⟨⟨H7.out, mem_empty _ _, by simp, ⟨rfl, rfl⟩, rfl, by simp [its, Sorted], ⟨rfl, rfl, .inl ⟨?_, ?_⟩, by omega, by omega, by omega⟩⟩, ?_, by rw [HQ2.out]; exact Nat.le_refl _, fun m r c o h => by cases h⟩, rfl⟩
  · show mxOf d / 2 = _; rw [HMN.out]; omega
  · show mxOf d = _; rw [HMX.out]; omega
  · exact K1.out.trans K7.out fun c o hc (h : c = b) => by have := HQ2.out; omega

/-- A map that was made of words. -/
def GrowPost (w : World) (d : Int) (l : List It) (e : Ending) (w' : World) : Prop := ∃ b hr H L F s, e = .returned (ptr b) ∧ NewTree w w' b hr H L F (d - 1).toNat (2 * d - 1).toNat s ∧ its s = sortK l ∧ hr.emp = zeroHdr.emp

set_option maxRecDepth 100000 in
set_option maxHeartbeats 4000000 in
theorem grow_any {w : World} {a : Option Addr} {cap : Nat} {l : List It} (hg : Given w a (OE.all l)) (hl : l.length ≤ 4000000000000) (d : Int) (h1 : 2 ≤ d) (h2 : d ≤ 128) :
    Calls Try.prog 59 #[.int .i64 d, .slice a l.length cap] w (GrowPost w d l) := by
  have HG := Lib.hid hg
  have HL := Lib.hid hl
  have hnm := Lib.hid (newMap_any w d h1 h2)
  clear hg hl
  go_enter Try.func59, Try.ntmps59
  go_wp2_with fail
  refine hnm.out.mono ?_
  rintro e W1 ⟨b, hr0, rfl, hN0, he0⟩
  have HN0 := Lib.hid hN0
  have HE0 := Lib.hid he0
  clear hnm hN0 he0
  unfold ptr
  go_wp2_with fail
  go_loopg [12] (l.length + 1) (fun k v12 wr => ∃ (i : Nat) (hr : HRec) (H : Store It) (L : Nat → Lay) (F : List Nat) (s : Sh), v12 = .int .i64 i ∧ i ≤ l.length ∧ i + k = l.length + 1 ∧ NewTree w wr b hr H L F (d - 1).toNat (2 * d - 1).toNat s ∧ its s = sortK (l.take i) ∧ hr.emp = zeroHdr.emp)
  case atStart => exact ⟨0, _, _, _, _, _, rfl, by omega, by omega, HN0.out, by simp [its, sortK], HE0.out⟩
  case round =>
    obtain ⟨i, hr, H, L, F, s, rfl, hil, hik, hN, hits, hemp⟩ := hrel
    have HN := Lib.hid hN
    have HI := Lib.hid hits
    have HEM := Lib.hid hemp
    clear hN hits hemp
    by_cases hlt : i < l.length
    · have hx : l[i]? = some l[i] := List.getElem?_eq_getElem hlt
      generalize l[i] = x at *
      have HX := Lib.hid hx
      obtain ⟨b0, o0, ha, x0, x1⟩ := word_cell (HG.out.keep HN.out.keep) hx
      subst ha
      have hll := HL.out
      have hlen : Hid ((its s).length ≤ 3000000000000000000) := Lib.hid (by rw [HI.out]; have := sortK_len (l.take i); simp at this; omega)
      clear hx
      unfold kv at *
      go_upto_region 5 with (fail)
      refine wp_world ?_
      intro W2 hW2
      have k2 : Keep Nothing wr W2 := by subst hW2; exact (Keep.refl _ _).al _
      have X2 : W2.heap[wr.heap.size]? = some (.cells (OE.enc x).toArray 31 (0, 0)) := by subst hW2; exact heap_alloc_new wr _
      have HN2 := Lib.hid (HN.out.calm k2)
      obtain ⟨xk, xv, _⟩ := blk2 X2
      have hset := Lib.hid (set_tree HN2.out.tree hlen.out x)
      generalize wr.heap.size = q at *
      clear hW2 k2 X2 HN x0 x1
      unfold kv ptr vv at *
      go_wp2_with fail
      refine hset.out.mono ?_
      rintro e W3 ⟨hr', H', L', F', s', p, rfl, t1, t2, t3, t4, t5, t6, _⟩
      have HN3 := Lib.hid (HN2.out.step t1 t2)
      have HP := Lib.hid t3
      have HEM3 := Lib.hid (t6.trans HEM.out)
      clear t1 t2 t3 t4 t5 t6 hset xk xv HN2 HEM
      unfold vv
      go_wp2_with fail
      go_roundg (l.length - i)
      case measure => omega
      case rel => exact ⟨i + 1, hr', H', L', F', s', by go_num, by omega, by omega, HN3.out, by rw [(HP.out.eq iord).1, HI.out, sortK_snoc l HX.out], HEM3.out⟩
    · have hi : i = l.length := by omega
      subst hi
      go_wp2_with fail
      go_ret
      refine ⟨b, hr, H, L, F, s, rfl, HN.out, ?_, HEM.out⟩
      rw [HI.out, List.take_of_length_le (Nat.le_refl _)]

theorem grow_len {l : List It} {s : Sh} (h : its s = sortK l) : (its s).length ≤ l.length := by rw [h]; exact sortK_len l
end Go.Proofs.Ytckplcmieelmpaa.W

namespace Go.Proofs.Ytckplcmieelmpaa.W
open Go.RowKit Go.Wb

/-- What is left behind the handing on, out of the list at block ob. -/
theorem out_words {w w0 w' : World} {ob : Nat} {xs : List It} (hk : Keep Nothing w w0) (hob : w.heap.size ≤ ob) (hJ : OutJ w0 ob xs w') : ∃ a cap, w'.heap[ob]? = some (.cells #[.slice a xs.length cap] 28 (0, 0)) ∧ Acc w.heap.size w' 31 2 a xs.length cap (OE.all xs) ∧ Keep Nothing w w' := by
  obtain ⟨h1, a, cap, h2, h3⟩ := hJ
  refine ⟨a, cap, h2, ⟨h3.row, h3.len, h3.le, fun b o hf => Nat.le_trans hk.size (h3.own b o hf)⟩, hk.trans h1 fun c o hc (h : c = ob) => ?_⟩
  omega

set_option maxHeartbeats 2000000 in
theorem all_any {w : World} {b : Nat} {hr : HRec} {H : Store It} {L : Nat → Lay} {F : List Nat} {mn mx : Nat} {s : Sh} (T : TreeAt w b hr H L F mn mx s) (hl : (its s).length ≤ 4000000000000) :
    Calls Try.prog 73 #[ptr b] w (NewWords w (its s)) := by
  have HT := Lib.hid T
  have HL := Lib.hid hl
  have hbw := lt_of_heap T.hdr
  clear T hl
  unfold ptr at *
  go_enter Try.func73, Try.ntmps73
  go_upto_region 2 with (fail)
  refine wp_world ?_
  intro W1 hW1
  have k1 : Hid (Keep Nothing w W1) := by subst hW1; exact (Keep.refl _ _).al _
  have O1 : Hid (W1.heap[w.heap.size]? = some (.cells #[.slice none 0 0] 28 (0, 0))) := by subst hW1; exact heap_alloc_new w _
  have HQ : Hid (w.heap.size ≤ w.heap.size) := Lib.hid (Nat.le_refl _)
  generalize hq : w.heap.size = ob at *
  have HQE := Lib.hid hq
  clear hW1 hq
  have hh := Lib.hid (hander_any (lt_of_heap O1.out) 0)
  unfold ptr at hh
  go_wp2_with fail
  refine hh.out.mono ?_
  rintro e W2 ⟨kf, kt, kn, rfl, k2, hd⟩
  have K2 : Hid (Keep Nothing w W2) := by exact k1.out.trans k2 fun _ _ _ h => h
  have O2 := Lib.hid (blk_keep O1.out k2 fun _ h => h)
  have hP : HandPre W2 W2 b hr H L F mn mx s 112 #[ptr kf] (upTo 0) (OutJ W2 ob) (fun c _ => c = ob) 4000000000000 :=
    ⟨HT.out.keep K2.out, hands_of hd (by omega) (by omega), fun _ h => by omega, fun n r c o hn hf h => by have := (HT.out.mem.at_ n r hn).lt hf; have := HQE.out; omega, HL.out, outJ_start O2.out⟩
  have hsc := Lib.hid (mapScan_any hP)
  clear hh k2 hd hP k1 O1
  unfold ptr at *
  go_wp2_with fail
  refine hsc.out.mono ?_
  rintro e W3 ⟨rfl, hJ⟩
  rw [handOn_first] at hJ
  obtain ⟨a, cap, h1, h2, h3⟩ := out_words K2.out (by have := HQE.out; omega) hJ
  have co := (blk1 h1).1
  have H2 := Lib.hid h2
  have H3 := Lib.hid h3
  clear hJ h1 h2 h3 hsc
  go_wp2_with fail
  go_ret
  exact ⟨a, cap, rfl, H2.out, H3.out⟩
end Go.Proofs.Ytckplcmieelmpaa.W

namespace Go.Proofs.Ytckplcmieelmpaa.W
open Go.RowKit Go.Wb

set_option maxHeartbeats 1000000 in
theorem words_any {w : World} {a : Option Addr} {cap : Nat} {l : List It} (h1 : Given w a (OE.all l)) (hl : l.length ≤ 4000000000000) : Calls Try.prog 88 #[.slice a l.length cap] w (NewWords w (sortK l)) := by
  have hw := Lib.hid (wset_any (cap := cap) h1 hl)
  clear h1
  go_enter Try.func88, Try.ntmps88
  go_wp2_with fail
  refine hw.out.mono ?_
  rintro e w' ⟨v1, v2, a6, c6, rfl, hA, hK⟩
  have HA := Lib.hid hA
  have HK := Lib.hid hK
  clear hA hK hw
  go_wp2_with fail
  go_ret
  exact ⟨a6, c6, rfl, HA.out, HK.out⟩

theorem firstN_len (n : Int) (l : List It) : (firstN n l).length ≤ l.length := by unfold firstN; split <;> simp <;> omega
theorem firstN_given {w : World} {a : Option Addr} {l : List It} (n : Int) (h : Given w a (OE.all l)) : Given w a (OE.all (firstN n l)) := by
  unfold firstN
  split
  · exact h
  · rw [out_take]; exact h.take _
def FirstPost (w : World) (a : Option Addr) (n : Int) (l : List It) (cap : Nat) (e : Ending) (w' : World) : Prop := e = .returned (.slice a (firstN n l).length cap) ∧ w = w'

theorem rev_take {α : Type} {l : List α} {j : Nat} {x : α} (h : l[j]? = some x) : (l.drop j).reverse = (l.drop (j + 1)).reverse ++ [x] := by
  obtain ⟨hj, rfl⟩ := List.getElem?_eq_some_iff.1 h
  rw [List.drop_eq_getElem_cons hj]; simp

/-- A list that reads so, made since w. -/
def ReadWords (w : World) (xs : List It) (e : Ending) (w' : World) : Prop := ∃ a cap, e = .returned (.slice a xs.length cap) ∧ Given w' a (OE.all xs) ∧ Keep Nothing w w'
theorem NewWords.reads {w : World} {xs : List It} {e : Ending} {w' : World} (h : NewWords w xs e w') : ReadWords w xs e w' := by
  obtain ⟨a, cap, rfl, h1, h2⟩ := h
  exact ⟨a, cap, rfl, h1.row.reads, h2⟩
end Go.Proofs.Ytckplcmieelmpaa.W

namespace Go.Proofs.Ytckplcmieelmpaa.W
open Go.RowKit Go.Wb

abbrev most : Nat := 2147483647
def TruePost (w : World) (e : Ending) (w' : World) : Prop := e = .returned (.bool true) ∧ Keep Nothing w w'
def SayPost (w : World) (b : Bool) (e : Ending) (w' : World) : Prop := e = .returned (.bool b) ∧ Keep Nothing w w'
def fitsB (l : List It) : Bool := decide (l.length ≤ most) && l.all fun x => decide ((ky x).size ≤ most)
theorem fitsB_true {l : List It} : fitsB l = true ↔ l.length ≤ most ∧ ∀ (i : Nat) x, l[i]? = some x → (ky x).size ≤ most := by
  simp only [fitsB, Bool.and_eq_true, decide_eq_true_eq, List.all_eq_true]
  exact and_congr_right fun _ => ⟨fun h i s hi => h s (List.mem_of_getElem? hi), fun h s hs => by obtain ⟨i, hi⟩ := List.mem_iff_getElem?.1 hs; exact h i s hi⟩

set_option maxHeartbeats 1000000 in
theorem fits9_any (w : World) (x : It) (b : Bool) (hb : decide ((ky x).size ≤ most) = b) : Calls Try.prog 70 #[.agg #[kv (ky x), .int .i64 x.2]] w (SayPost w b) := by
  unfold kv
  by_cases h : (ky x).size ≤ 2147483647
  · obtain rfl : b = true := by rw [← hb]; simpa using h
    clear hb
    go_enter Try.func70, Try.ntmps70
    go_wp2_with fail
    go_ret
    exact ⟨rfl, (Keep.refl _ _).al _⟩
  · obtain rfl : b = false := by rw [← hb]; simpa using h
    clear hb
    go_enter Try.func70, Try.ntmps70
    go_wp2_with fail
    go_ret
    exact ⟨rfl, (Keep.refl _ _).al _⟩

set_option maxRecDepth 100000 in
set_option maxHeartbeats 2000000 in
theorem fits8_any {w : World} {a : Option Addr} {cap : Nat} {l : List It} (hg : Given w a (OE.all l)) (hl : l.length ≤ maxLen) :
    Calls Try.prog 25 #[.slice a l.length cap] w (SayPost w (fitsB l)) := by
  have HG := Lib.hid hg
  simp only [maxLen] at hl
  clear hg
  by_cases hbig : l.length ≤ 2147483647
  · go_enter Try.func25, Try.ntmps25
    go_wp2_with fail
    go_loopg [10] (l.length + 1) (fun k v10 wr => ∃ i : Nat, v10 = .int .i64 i ∧ i ≤ l.length ∧ i + k = l.length + 1 ∧ Keep Nothing w wr ∧ ∀ (j : Nat) (x : It), j < i → l[j]? = some x → (ky x).size ≤ most)
    case atStart => exact ⟨0, rfl, by omega, by omega, Keep.refl _ _, fun j s h => by omega⟩
    case round =>
      obtain ⟨i, rfl, hil, hik, hK, hall⟩ := hrel
      have HA := Lib.hid hall
      have HK := Lib.hid hK
      clear hall hK
      by_cases hlt : i < l.length
      · have hx : l[i]? = some l[i] := List.getElem?_eq_getElem hlt
        generalize l[i] = x at *
        have HX := Lib.hid hx
        obtain ⟨b0, o0, ha, x0, x1⟩ := word_cell (HG.out.keep HK.out) hx
        subst ha
        obtain ⟨b, hb⟩ : ∃ b, decide ((ky x).size ≤ most) = b := ⟨_, rfl⟩
        have HB := Lib.hid hb
        clear hx hb
        unfold kv at *
        go_upto_region 6 with (fail)
        refine wp_world ?_
        intro W1 hW1
        have k1 : Keep Nothing wr W1 := by subst hW1; exact (Keep.refl _ _).al _
        have X1 : W1.heap[wr.heap.size]? = some (.cells (OE.enc x).toArray 31 (0, 0)) := by subst hW1; exact heap_alloc_new wr _
        obtain ⟨xk, xv, _⟩ := blk2 X1
        have HK1 : Hid (Keep Nothing w W1) := by exact HK.out.trans k1 fun _ _ _ h => h
        generalize wr.heap.size = q at *
        have hf := Lib.hid (fits9_any W1 x b HB.out)
        clear hW1 k1 X1 HK x0 x1
        unfold kv at *
        cases b with
        | true =>
          go_wp2_with fail
          refine hf.out.mono ?_
          rintro e w2 ⟨rfl, hk2⟩
          have HK2 : Hid (Keep Nothing w w2) := by exact HK1.out.trans hk2 fun _ _ _ h => h
          clear hk2 hf xk xv
          go_wp2_with fail
          go_roundg (l.length - i)
          case measure => omega
          case rel =>
            refine ⟨i + 1, by go_num, by omega, by omega, HK2.out, fun j s' hj hs' => ?_⟩
            by_cases hji : j = i
            · subst hji
              have := HX.out
              rw [hs'] at this
              cases this
              exact of_decide_eq_true HB.out
            · exact HA.out j s' (by omega) hs'
        | false =>
          go_wp2_with fail
          refine hf.out.mono ?_
          rintro e w2 ⟨rfl, hk2⟩
          have HK2 : Hid (Keep Nothing w w2) := by exact HK1.out.trans hk2 fun _ _ _ h => h
          clear hk2 hf xk xv
          go_wp2_with fail
          go_ret
          have : fitsB l = false := by
            rw [← Bool.not_eq_true, fitsB_true]
            exact fun h => of_decide_eq_false HB.out (h.2 i x HX.out)
          rw [this]
          exact ⟨rfl, HK2.out⟩
      · have hi : i = l.length := by omega
        subst hi
        go_wp2_with fail
        go_ret
        have : fitsB l = true := fitsB_true.2 ⟨hbig, fun i s hs => HA.out i s (List.getElem?_eq_some_iff.1 hs).1 hs⟩
        rw [this]
        exact ⟨rfl, HK.out⟩
  · go_enter Try.func25, Try.ntmps25
    go_wp2
    go_ret
    have : fitsB l = false := by
      rw [← Bool.not_eq_true, fitsB_true]
      exact fun h => hbig h.1
    rw [this]
    exact ⟨rfl, Keep.refl _ _⟩

/-- The degrees of which the laws speak. -/
def fitD (d : Int) : Bool := decide (2 ≤ d) && decide (d ≤ 128)
set_option maxHeartbeats 1000000 in
theorem specFits_any (w : World) (d : Int) (h0 : 1 ≤ d) (b : Bool) (hb : fitD d = b) : Calls Try.prog 56 #[.int .i64 d] w fun e w' => e = .returned (.bool b) ∧ w = w' := by
  have hd : ((d : Int) == 0) = false := by simp; omega
  by_cases h1 : 2 ≤ d
  · by_cases h2 : d ≤ 128
    · obtain rfl : b = true := by rw [← hb]; simp [fitD, h1, h2]
      clear hb
      go_enter Try.func56, Try.ntmps56
      go_wp2_with fail
      go_ret
      exact ⟨by first | rfl | simp [h1, h2], rfl⟩
    · obtain rfl : b = false := by rw [← hb]; simp [fitD, h2]
      clear hb
      go_enter Try.func56, Try.ntmps56
      go_wp2_with fail
      go_ret
      exact ⟨by first | rfl | simp [h2], rfl⟩
  · obtain rfl : b = false := by rw [← hb]; simp [fitD, h1]
    clear hb
    go_enter Try.func56, Try.ntmps56
    go_wp2_with fail
    go_ret
    exact ⟨by first | rfl | simp [h1], rfl⟩
set_option maxHeartbeats 1000000 in
theorem fit_any (w : World) (d : Int) (b : Bool) (hb : fitD d = b) : Calls Try.prog 12 #[.int .i64 d] w fun e w' => e = .returned (.bool b) ∧ w = w' := by
  by_cases h0 : 1 ≤ d
  · have hf := Lib.hid (specFits_any w d h0 b hb)
    clear hb
    go_enter Try.func12, Try.ntmps12
    go_wp2_with fail
    refine hf.out.mono ?_
    rintro e w1 ⟨rfl, rfl⟩
    go_wp2_with fail
    go_ret
    exact ⟨by first | rfl | simp, rfl⟩
  · obtain rfl : b = false := by rw [← hb]; simp [fitD]; omega
    clear hb
    go_enter Try.func12, Try.ntmps12
    go_wp2_with fail
    go_ret
    exact ⟨by first | rfl | simp, rfl⟩

set_option maxHeartbeats 1000000 in
theorem wkeys_any {w : World} {a : Option Addr} {cap : Nat} {l : List It} (hg : Given w a (OE.all l)) (hl : l.length ≤ 4000000000000) (d : Int) (h1 : 2 ≤ d) (h2 : d ≤ 128) :
    Calls Try.prog 57 #[.int .i64 d, .slice a l.length cap] w (NewKeys w ((sortK l).map ky)) := by
  have hgr := Lib.hid (grow_any (cap := cap) hg hl d h1 h2)
  have HL := Lib.hid hl
  clear hg hl
  go_enter Try.func57, Try.ntmps57
  go_wp2_with fail
  refine hgr.out.mono ?_
  rintro e w1 ⟨b, hr, H, L, F, s, rfl, hN, hits, _⟩
  have hk := Lib.hid (mapKeys_any hN.tree (Nat.le_trans (grow_len hits) HL.out))
  have HN := Lib.hid hN
  have HI := Lib.hid hits
  clear hN hits hgr
  unfold ptr at *
  go_wp2_with fail
  refine hk.out.mono ?_
  rintro e w2 ⟨a', cap', rfl, h1, h2⟩
  go_wp2_with fail
  go_ret
  rw [HI.out] at h1 ⊢
  exact ⟨a', cap', by simp, ⟨h1.row, h1.len, h1.le, fun b o hf => Nat.le_trans HN.out.keep.size (h1.own b o hf)⟩, HN.out.keep.trans h2 fun _ _ _ h => h⟩
end Go.Proofs.Ytckplcmieelmpaa.W

namespace Go.Proofs.Ytckplcmieelmpaa.W
open Go.RowKit Go.Wb

def exL : List It := [(⟨#[98]⟩, 1), (⟨#[]⟩, 2), (⟨#[97, 98]⟩, 3), (⟨#[98]⟩, 4)]
def ExPost (w : World) (e : Ending) (w' : World) : Prop := ∃ b, e = .returned (.slice (some ⟨b, 0, none⟩) 4 4) ∧ Given w' (some ⟨b, 0, none⟩) (OE.all exL) ∧ Keep Nothing w w'
theorem exWords_any (w : World) : Calls Try.prog 58 #[] w (ExPost w) := by
  go_enter Try.func58, Try.ntmps58
  go_wp2_with fail
  go_ret
  exact ⟨w.heap.size, rfl, new_given w (OE.all exL) 31, (Keep.refl _ _).al _⟩

set_option maxRecDepth 100000 in
/-- aliveW: at a map of three words. -/
theorem aliveW_any (w : World) : Calls Try.prog 15 #[] w (TruePost w) := by
  have hK : ∀ W a cap, Given W a (OE.all (exL.take 3)) → Calls Try.prog 57 #[.int .i64 2, .slice a 3 cap] W (NewKeys W ((sortK (exL.take 3)).map ky)) := fun W a cap h1 => wkeys_any h1 (by decide) 2 (by omega) (by omega)
  have HK := Lib.hid hK
  have hE := Lib.hid (exWords_any w)
  clear hK
  go_enter Try.func15, Try.ntmps15
  go_wp2_with fail
  refine hE.out.mono ?_
  rintro e W1 ⟨b, rfl, hG, hk⟩
  have HG : Hid (Given W1 (some ⟨b, 0, none⟩) (OE.all (exL.take 3))) := by rw [out_take]; exact hG.take _
  have HK1 := Lib.hid hk
  have HC := Lib.hid (HK.out W1 _ 4 HG.out)
  clear hk hE hG
  go_wp2_with fail
  refine HC.out.mono ?_
  rintro e W2 ⟨a', cap', rfl, _, hk⟩
  have HK2 : Hid (Keep Nothing w W2) := by exact HK1.out.trans hk fun _ _ _ h => h
  have hlen : ((sortK (exL.take 3)).map ky).length = 3 := by kernel_rfl
  rw [hlen]
  clear hk HC hlen
  go_wp2_with fail
  go_ret
  exact ⟨rfl, HK2.out⟩
end Go.Proofs.Ytckplcmieelmpaa.W

namespace Go.Proofs.Ytckplcmieelmpaa.W
open Go.RowKit Go.Wb

/-- The types of the blocks of a tree. -/
def treeTy (t : TypeId) : Prop := t = 172 ∨ t = 161 ∨ t = 164 ∨ t = 173 ∨ t = 166

theorem fp_typed {w : World} {n : Nat} {r : NRec It} {L : Lay} (h : NodeAt TT E w n r L) {b o : Nat} (hf : fp TT n r L b o) : ∃ arr t, w.heap[b]? = some (.cells arr t (0, 0)) ∧ treeTy t := by
  rcases hf with rfl | hf | ⟨hk, hf⟩
  · exact ⟨_, _, h.1, .inl rfl⟩
  · obtain ⟨arr, ha⟩ := h.2.1.block ⟨_, hf⟩
    exact ⟨arr, _, ha, .inr (.inl rfl)⟩
  · obtain ⟨ks, hks⟩ := Option.isSome_iff_exists.1 hk
    obtain ⟨h5, h6, _⟩ := h.2.2.2 ks hks
    rcases hf with rfl | hf
    · exact ⟨_, _, h5, .inr (.inr (.inr (.inl rfl)))⟩
    · obtain ⟨arr, ha⟩ := h6.block ⟨_, hf⟩
      exact ⟨arr, _, ha, .inr (.inr (.inl rfl))⟩
/-- A row of another type is apart from a tree. -/
theorem row_apart {w : World} {b : Nat} {hr : HRec} {H : Store It} {L : Nat → Lay} {F : List Nat} {mn mx : Nat} {s : Sh} (T : TreeAt w b hr H L F mn mx s) {a : Option Addr} {ty z cap : Nat} {cs : List Value} (h : Row w ty z a cap cs) (hty : ¬ treeTy ty) : ∀ x o, rowFp a (cap * z) x o → ¬ (FP TT H L F x o ∨ x = b) := by
  intro x o hf hs
  obtain ⟨arr, ha⟩ := h.block ⟨_, hf⟩
  rcases hs with ⟨m, r, _, hr, hg⟩ | rfl
  · obtain ⟨arr2, t, ha2, ht⟩ := fp_typed (T.mem.at_ m r hr) hg
    rw [ha] at ha2
    cases ha2
    exact hty ht
  · have := T.hdr
    unfold Hdr at this
    rw [ha] at this
    have e := (Obj.cells.inj (Option.some.inj this)).2.1
    exact hty (.inr (.inr (.inr (.inr e))))
/-- A tree is as it was where only cells of other types turn. -/
theorem NewTree.off {w0 w w' : World} {b : Nat} {hr : HRec} {H : Store It} {L : Nat → Lay} {F : List Nat} {mn mx : Nat} {s : Sh} (N : NewTree w0 w b hr H L F mn mx s) {S : Nat → Nat → Prop} (hk : Keep S w w') (h0 : ∀ x o, S x o → w0.heap.size ≤ x) (hS : ∀ x o, x < w.heap.size → S x o → ∃ arr t, w.heap[x]? = some (.cells arr t (0, 0)) ∧ ¬ treeTy t) : NewTree w0 w' b hr H L F mn mx s := by
  have T := N.tree
  have nb : ∀ o, ¬ S b o := fun o hs => by
    have hh := T.hdr
    unfold Hdr at hh
    obtain ⟨arr, t, ha, ht⟩ := hS b o (lt_of_heap hh) hs
    rw [hh] at ha
    have e := (Obj.cells.inj (Option.some.inj ha)).2.1
    exact ht (.inr (.inr (.inr (.inr e.symm))))
  refine ⟨⟨blk_keep T.hdr hk fun o => nb o, T.mem.keepS hk fun n r x o hr hf hs => ?_, T.nd, T.root, T.cnt, T.srt, T.par⟩, N.keep.trans hk fun x o hx hs => absurd (h0 x o hs) (by omega), N.head, N.nodes⟩
  obtain ⟨arr, t, ha, ht⟩ := fp_typed (T.mem.at_ n r hr) hf
  obtain ⟨arr2, t2, ha2, ht2⟩ := hS x o (lt_of_heap ha) hs
  rw [ha] at ha2
  cases ha2
  exact ht2 ht
end Go.Proofs.Ytckplcmieelmpaa.W

namespace Go.Proofs.Ytckplcmieelmpaa.W
open Go.RowKit Go.Wb

/-- The contract of deleting below height h. -/
def DelIH (b : Nat) (hr : HRec) (mn mx h : Nat) : Prop := ∀ (t : Tr It) (w : World) (pb po n : Nat) (H : Store It) (L : Nat → Lay) (F : List Nat) (mb : Bool) (k : Ky), DelPre w b hr pb po n H L h t F mn mx →
  Calls Try.prog 132 #[ptr b, .pointer (some ⟨pb, po, none⟩), .bool mb, kv k] w (DelPost w H L F hr.iso mn mx h n t mb k hr.emp)

section mid
variable {w : World} {b : Nat} {hr : HRec} {pb po n : Nat} {H : Store It} {L : Nat → Lay} {h : Nat} {t : Tr It} {F : List Nat} {mn mx : Nat} {r : NRec It} {i c : Nat} {kt : Tr It} {N1 N2 : List Nat} {K1 K2 : List (Tr It)} {F1 Fk F2 : List Nat}

theorem del_down (IH : DelIH b hr mn mx h) (P : DelPre w b hr pb po n H L (h + 1) t F mn mx) (A : Around H hr.iso mn mx h n t F r i kt N1 N2 c K1 K2 F1 Fk F2) {kb ko : Nat} (hka : (L n).ka = some ⟨kb, ko, none⟩) {C D : List It} (hsub : flat (h + 1) t = C ++ flat h kt ++ D) (mb : Bool) (key : Ky) {W : World} (hK : Keep Nothing w W) :
    Calls Try.prog 132 #[ptr b, .pointer (some ⟨kb, ko + i, none⟩), .bool mb, kv key] W (DelDown w W b hr n r (L n) c (GoD H L Fk hr.iso mn mx h c kt mb key hr.emp)) := by
  have mem := P.pre.mem
  have hdr := P.pre.hdr
  have nd := P.pre.nd
  rw [A.Fq] at nd
  have hnF := List.nodup_cons.1 nd
  have nd2 := List.nodup_append.1 hnF.2
  have nd1 := List.nodup_append.1 nd2.1
  have hc : (N1 ++ c :: N2)[i]? = some c := by rw [← A.ln]; simp
  have srt := P.pre.srt
  have big := P.pre.big
  rw [hsub] at srt big
  have hwk := A.wk.own_le
  have hcF := A.rk.root.1
  have hcn : c ≠ n := fun e => hnF.1 (by rw [← e]; simp [hcF])
  refine (IH kt W kb (ko + i) c H L Fk mb key ⟨P.pre.child A.rec_ A.kids hka hc A.rk nd1.2.1 A.wk srt.mid (by simp at big; omega) hK, P.hm, P.pos, Nat.le_trans P.pos hwk.1⟩).mono ?_
  rintro e W' ⟨p, k', G, H', L', rfl, st, rep', nd', less, dl⟩
  obtain ⟨o1, o2⟩ := st.out n (fun hn => hnF.1 (by simp [hn])) r A.rec_
  obtain ⟨hcG, rc, hrc, _, hcits, _⟩ := rep'.root
  refine ⟨Option.getD p hr.emp, p.isSome, rc, L' c, rfl, st.keep.mono fun x o _ ⟨m, q, _, hq, hf⟩ => (mem.at_ m q hq).lt hf, ?_, st.mem.at_ c rc hrc, hcn, ?_, ?_, fun x o hf => ?_, fun x o h1 h2 => st.mem.sep c n rc r hcn hrc o1 x o h1 (by rw [o2]; exact h2), p, k', G, H', L', rfl, rfl, hrc, st, rep', nd', less, dl⟩
  · have := st.mem.at_ n r o1
    rwa [o2] at this
  · have := less.le
    have := P.pre.hb
    rw [hcits]; omega
  · exact blk_keep (blk_keep hdr hK fun _ h => h) st.keep fun o ⟨m, q, _, hq, hf⟩ => hdr_apart hdr (mem.at_ m q hq) hf
  · by_cases hx : x < W.heap.size
    · obtain ⟨m, q, _, hq, hfp⟩ := st.fp x o hx ⟨c, rc, hcG, hrc, hf⟩
      exact .inl ((mem.at_ m q hq).lt hfp)
    · exact .inr (by omega)

theorem kid_sizes (A : Around H hr.iso mn mx h n t F r i kt N1 N2 c K1 K2 F1 Fk F2) {k' : Tr It} (hb : body mn mx h k') (hl : k'.its.length + 1 = mn) : ∀ j k, (K1 ++ k' :: K2)[j]? = some k → body mn mx h k ∧ (j = i → k.its.length + 1 = mn) ∧ (j ≠ i → mn ≤ k.its.length ∧ k.its.length ≤ mx) := by
  intro j k hj
  have lk := A.lk
  rcases Nat.lt_trichotomy j i with h1 | h1 | h1
  · rw [List.getElem?_append_left (by omega)] at hj
    have := A.wo k (by simp [List.mem_of_getElem? hj])
    exact ⟨this.body, fun e => by omega, fun _ => this.own_le⟩
  · subst h1
    rw [List.getElem?_append_right (by omega), lk] at hj
    simp at hj
    subst hj
    exact ⟨hb, fun _ => hl, fun e => absurd rfl e⟩
  · rw [List.getElem?_append_right (by omega)] at hj
    obtain ⟨m, hm⟩ : ∃ m, j - K1.length = m + 1 := ⟨j - K1.length - 1, by omega⟩
    rw [hm, List.getElem?_cons_succ] at hj
    have := A.wo k (by simp [List.mem_of_getElem? hj])
    exact ⟨this.body, fun e => by omega, fun _ => this.own_le⟩

theorem kids_len (A : Around H hr.iso mn mx h n t F r i kt N1 N2 c K1 K2 F1 Fk F2) (k' : Tr It) : (K1 ++ k' :: K2).length = r.items.length + 1 := by
  have := A.lk; have := A.lr; simp; omega

/-- The node's own body, where the child behind the call has enough items. -/
theorem mid_body (A : Around H hr.iso mn mx h n t F r i kt N1 N2 c K1 K2 F1 Fk F2) {k' : Tr It} {p : Option It} (hl : Less mn mx h kt k' p) (hm : mn ≤ k'.its.length) {its1 : List It} (h1 : its1.length = r.items.length) : body mn mx (h + 1) (.node its1 (K1 ++ k' :: K2)) := by
  refine ⟨by simp only [Tr.its, Tr.ks]; rw [h1]; exact kids_len A k', fun k hk => ?_⟩
  simp only [Tr.ks, List.mem_append, List.mem_cons] at hk
  rcases hk with hk | rfl | hk
  · exact A.wo k (by simp [hk])
  · exact hl.body.wfr hm (Nat.le_trans hl.le A.wk.own_le.2)
  · exact A.wo k (by simp [hk])

/-- What putting right leaves. -/
def RBD (w : World) (H : Store It) (L : Nat → Lay) (F : List Nat) (iso : Int) (mn mx h n : Nat) (t : Tr It) (mb : Bool) (key : Ky) (W : World) (y : It) (_X X' : World) : Prop :=
  ∃ t'', Lies w W X' H L F iso (h + 1) n t'' ∧ Less mn mx (h + 1) t t'' (some y) ∧ Dl mb key (flat (h + 1) t) (flat (h + 1) t'') (some y)

theorem t_its (A : Around H hr.iso mn mx h n t F r i kt N1 N2 c K1 K2 F1 Fk F2) : t.its = r.items := by rw [A.tq]; rfl

/-- The child has too few items: the node is put right. -/
theorem mid_reb (R : RebOK) (P : DelPre w b hr pb po n H L (h + 1) t F mn mx) (A : Around H hr.iso mn mx h n t F r i kt N1 N2 c K1 K2 F1 Fk F2) {W W' X : World} (hK : Keep Nothing w W) {k' : Tr It} {G : List Nat} {H' : Store It} {L' : Nat → Lay} (st : Step TT E W H L Fk W' H' L' G) (rep' : Rep H' hr.iso h c k' G) (nd' : G.Nodup) {p : Option It} (hl : Less mn mx h kt k' p)
    {its1 : List It} (h1 : its1.length = r.items.length) (hX : Keep (fun b o => fp TT n r (L n) b o ∨ (w.heap.size ≤ b ∧ b < W.heap.size)) W' X) (hat : NodeAt TT E X n { r with cnt := r.cnt - 1, items := its1 } (L n)) {z : It} {mb : Bool} {key : Ky} (hd : Dl mb key (flat (h + 1) t) (flat (h + 1) (.node its1 (K1 ++ k' :: K2))) (some z)) (hlt : k'.its.length < mn) :
    Calls Try.prog 176 #[ptr b, ptr n, .int .i64 i] X fun e X' => e = .returned (.tuple #[]) ∧ Keep (fun b _ => b < w.heap.size ∨ W.heap.size ≤ b) X X' ∧ RBD w H L F hr.iso mn mx h n t mb key W z X X' := by
  have hlen := hd.len
  simp at hlen
  have hti := t_its A
  have hcnt : r.cnt - 1 = ((flat (h + 1) (.node its1 (K1 ++ k' :: K2))).length : Int) := by rw [A.cnt]; omega
  have hls := lies_mid P A hK st rep' nd' hX hat hcnt
  have hge := hl.ge
  have hwk := A.wk.own_le
  have hkl := kids_len A k'
  have hlr := A.lr
  have hbig := P.pre.big
  refine (lies_reb R P hls (Nat.le_trans st.keep.size hX.size) (i := i) (by rw [hti]; exact h1) (by simp only [Tr.its, Tr.ks]; rw [h1]; exact hkl) (by simp only [Tr.its]; omega) (kid_sizes A hl.body (by omega)) (by omega)).mono ?_
  rintro e X' ⟨rfl, hkk, t', hl', hb, l1, l2, hf⟩
  have l1' : t'.its.length ≤ its1.length := l1
  have l2' : its1.length ≤ t'.its.length + 1 := l2
  refine ⟨rfl, hkk, t', hl', ⟨hb, by rw [hti]; omega, by rw [hti]; omega, fun h => by cases h⟩, ?_⟩
  rw [hf]
  exact hd

/-- The child has enough items. -/
theorem mid_done (P : DelPre w b hr pb po n H L (h + 1) t F mn mx) (A : Around H hr.iso mn mx h n t F r i kt N1 N2 c K1 K2 F1 Fk F2) {W W' X w' : World} (hK : Keep Nothing w W) {k' : Tr It} {G : List Nat} {H' : Store It} {L' : Nat → Lay} (st : Step TT E W H L Fk W' H' L' G) (rep' : Rep H' hr.iso h c k' G) (nd' : G.Nodup) {p : Option It} (hl : Less mn mx h kt k' p)
    {its1 : List It} {q : Option It} (h1 : its1.length = r.items.length) {cnt1 : Int} (hX : Keep (fun b o => fp TT n r (L n) b o ∨ (w.heap.size ≤ b ∧ b < W.heap.size)) W' X) (hat : NodeAt TT E X n { r with cnt := cnt1, items := its1 } (L n)) (hc1 : cnt1 = r.cnt - if q.isSome then 1 else 0) {mb : Bool} {key : Ky} (hd : Dl mb key (flat (h + 1) t) (flat (h + 1) (.node its1 (K1 ++ k' :: K2))) q) (hmn : mn ≤ k'.its.length)
    (hK4 : Keep (fun b _ => w.heap.size ≤ b ∧ b < W.heap.size) X w') {e : Ending} (he : e = .returned (.tuple #[pv (Option.getD q hr.emp), .bool q.isSome])) : DelPost w H L F hr.iso mn mx (h + 1) n t mb key hr.emp e w' := by
  have hlen := hd.len
  have hti := t_its A
  have hcnt : cnt1 = ((flat (h + 1) (.node its1 (K1 ++ k' :: K2))).length : Int) := by rw [hc1, A.cnt]; split at hlen <;> simp_all
  have hls := lies_mid P A hK st rep' nd' hX hat hcnt
  refine hls.done hK4 he ⟨mid_body A hl hmn h1, by rw [hti]; simp only [Tr.its]; omega, by rw [hti]; simp only [Tr.its]; omega, fun _ => by rw [hti]; exact h1⟩ hd

/-- How what is below a node becomes what the node has. -/
theorem del_go_reb (R : RebOK) (P : DelPre w b hr pb po n H L (h + 1) t F mn mx) (A : Around H hr.iso mn mx h n t F r i kt N1 N2 c K1 K2 F1 Fk F2) {mb : Bool} {gk key : Ky} (hfr : ∀ k' p, Dl mb gk (flat h kt) (flat h k') p → Dl mb key (flat (h + 1) t) (flat (h + 1) (.node r.items (K1 ++ k' :: K2))) p) :
    ∀ W W' y rc X, Keep Nothing w W → GoD H L Fk hr.iso mn mx h c kt mb gk hr.emp y true rc W W' → Keep (fun b _ => b < w.heap.size) W W' → Keep (fun b o => (b = n ∧ o = 1) ∨ (w.heap.size ≤ b ∧ b < W.heap.size)) W' X → NodeAt TT E X n { r with cnt := r.cnt - 1 } (L n) → (rc.items.length : Int) < hr.mn →
      Calls Try.prog 176 #[ptr b, ptr n, .int .i64 i] X fun e X' => e = .returned (.tuple #[]) ∧ Keep (fun b _ => b < w.heap.size ∨ W.heap.size ≤ b) X X' ∧ RBD w H L F hr.iso mn mx h n t mb key W y X X' := by
  rintro W W' y rc X hK ⟨p, k', G, H', L', hy, hp, hrc, st, rep', nd', less, dl⟩ _ hX hat hlt
  cases p with
  | none => cases hp
  | some y' =>
    obtain rfl : y = y' := hy
    obtain ⟨_, q, e1, _, e2, _⟩ := rep'.root
    rw [hrc] at e1
    cases e1
    rw [e2, P.hm] at hlt
    refine mid_reb R P A hK st rep' nd' less rfl (hX.mono fun x o _ hx => ?_) hat (hfr k' _ dl) (by omega)
    rcases hx with ⟨rfl, _⟩ | hx
    · exact .inl (.inl rfl)
    · exact .inr hx

theorem del_go_done (P : DelPre w b hr pb po n H L (h + 1) t F mn mx) (A : Around H hr.iso mn mx h n t F r i kt N1 N2 c K1 K2 F1 Fk F2) {mb : Bool} {gk key : Ky} (hfr : ∀ k' p, Dl mb gk (flat h kt) (flat h k') p → Dl mb key (flat (h + 1) t) (flat (h + 1) (.node r.items (K1 ++ k' :: K2))) p) :
    ∀ e w', DelGo w n r (L n) hr.mn hr.emp (GoD H L Fk hr.iso mn mx h c kt mb gk hr.emp) (RBD w H L F hr.iso mn mx h n t mb key) e w' → DelPost w H L F hr.iso mn mx (h + 1) n t mb key hr.emp e w' := by
  rintro e w' ⟨W, W', y, del, rc, hK, ⟨p, k', G, H', L', rfl, rfl, hrc, st, rep', nd', less, dl⟩, _, hm⟩
  cases p with
  | none =>
    obtain ⟨rfl, hK3, hat⟩ := hm
    have hn := less.non rfl
    have hwk := A.wk.own_le
    exact mid_done (q := none) P A hK st rep' nd' less (its1 := r.items) (cnt1 := r.cnt) rfl (hK3.mono fun _ _ _ h => .inr h) hat (by simp) (hfr k' _ dl) (by omega) (Keep.refl _ _) rfl
  | some y' =>
    obtain ⟨rfl, X, X', hX, hat, hor, hK4⟩ := hm
    obtain ⟨_, q, e1, _, e2, _⟩ := rep'.root
    rw [hrc] at e1
    cases e1
    rw [e2, P.hm] at hor
    rcases hor with ⟨hmn, rfl⟩ | ⟨_, t'', hl, less2, dl2⟩
    · refine mid_done (q := some y') P A hK st rep' nd' less (its1 := r.items) (cnt1 := r.cnt - 1) rfl (hX.mono fun x o _ hx => ?_) hat (by simp) (hfr k' _ dl) (by omega) hK4 rfl
      rcases hx with ⟨rfl, _⟩ | hx
      · exact .inl (.inl rfl)
      · exact .inr hx
    · exact hl.done hK4 rfl less2 dl2
end mid
end Go.Proofs.Ytckplcmieelmpaa.W

namespace Go.Proofs.Ytckplcmieelmpaa.W
open Go.RowKit Go.Wb

section mid
variable {w : World} {b : Nat} {hr : HRec} {pb po n : Nat} {H : Store It} {L : Nat → Lay} {h : Nat} {t : Tr It} {F : List Nat} {mn mx : Nat} {r : NRec It} {i c : Nat} {kt : Tr It} {N1 N2 : List Nat} {K1 K2 : List (Tr It)} {F1 Fk F2 : List Nat}

/-- The numbers that a walk asks for. -/
theorem del_nums (P : DelPre w b hr pb po n H L (h + 1) t F mn mx) (A : Around H hr.iso mn mx h n t F r i kt N1 N2 c K1 K2 F1 Fk F2) : r.items.length ≤ 1000000000000 ∧ 0 ≤ r.cnt ∧ r.cnt ≤ 4000000000000000000 ∧ 0 ≤ hr.mn ∧ hr.mn ≤ 1000000000000 ∧ Sorted ilt r.items := by
  have h1 := A.le
  have h2 := P.pre.hb
  have h3 := A.cnt
  have h4 := P.pre.big
  have h5 := P.hm
  have h6 := P.pre.hmn
  refine ⟨by omega, by omega, by omega, by omega, by omega, ?_⟩
  have := own_sorted P.pre.wf P.pre.srt
  rwa [t_its A] at this

theorem del_succ_max (IH : DelIH b hr mn mx h) (R : RebOK) (P : DelPre w b hr pb po n H L (h + 1) t F mn mx) (k : Ky) :
    Calls Try.prog 132 #[ptr b, .pointer (some ⟨pb, po, none⟩), .bool true, kv k] w (DelPost w H L F hr.iso mn mx (h + 1) n t true k hr.emp) := by
  have hwk := P.pre.wf.2.2.1
  have hkt : t.ks[t.its.length]? = some (t.ks[t.its.length]'(by omega)) := List.getElem?_eq_getElem (by omega)
  obtain ⟨r, N1, N2, c, K1, K2, F1, Fk, F2, A⟩ := around_of P.pre.rep P.pre.wf hkt
  obtain ⟨n1, n2, n3, n4, n5, n6⟩ := del_nums P A
  have hat := P.pre.mem.at_ n r A.rec_
  obtain ⟨kb, ko, hka, _⟩ := ((hat.2.2.2 _ A.kids).2.1).form (by simp; omega)
  have hc : (N1 ++ c :: N2)[t.its.length]? = some c := by rw [← A.ln]; simp
  have hti := t_its A
  have hK2 : K2 = [] := List.eq_nil_of_length_eq_zero (by have := A.lr; rw [hti] at this; omega)
  have hne := P.ne
  have hlk := A.lk
  rw [hti] at hlk
  have hfl : ∀ k', flat (h + 1) (.node r.items (K1 ++ k' :: K2)) = wl (K1.map (flat h)) r.items ++ flat h k' ++ [] := fun k' => by
    subst hK2
    have := wl_wr (K1.map (flat h)) r.items (flat h k') [] [] (by simpa using hlk)
    simp only [List.append_nil] at this ⊢
    simp only [flat, Tr.its, Tr.ks, List.map_append, List.map_cons, List.map_nil]
    rw [this]
    simp [wr]
  have hft : flat (h + 1) t = wl (K1.map (flat h)) r.items ++ flat h (t.ks[t.its.length]'(by omega)) ++ [] := by
    have := hfl (t.ks[t.its.length]'(by omega))
    rw [← A.tq] at this
    exact this
  have hfr : ∀ k' p, Dl true (ky hr.emp) (flat h (t.ks[t.its.length]'(by omega))) (flat h k') p → Dl true k (flat (h + 1) t) (flat (h + 1) (.node r.items (K1 ++ k' :: K2))) p := fun k' p hd => by
    rw [hft, hfl k']
    exact Dl.frame (k := k) hd _ _ (fun h => by cases h) fun _ => rfl
  refine (del_inner_max P.pre.hdr P.pre.cell hat A.isoq n1 k (i := t.its.length) (by rw [hti]) hne n2 n3 n4 n5 A.kids hka hc (GoD H L Fk hr.iso mn mx h c (t.ks[t.its.length]'(by omega)) true (ky hr.emp) hr.emp) (RBD w H L F hr.iso mn mx h n t true k) (fun W hK => del_down IH P A hka hft true _ hK) (del_go_reb R P A hfr)).mono (del_go_done P A hfr)

theorem del_succ_go (IH : DelIH b hr mn mx h) (R : RebOK) (P : DelPre w b hr pb po n H L (h + 1) t F mn mx) (k : Ky) {i : Nat} (hloc : Loc t.its k i false) :
    Calls Try.prog 132 #[ptr b, .pointer (some ⟨pb, po, none⟩), .bool false, kv k] w (DelPost w H L F hr.iso mn mx (h + 1) n t false k hr.emp) := by
  have hwk := P.pre.wf.2.2.1
  have hil := hloc.1
  have hkt : t.ks[i]? = some (t.ks[i]'(by omega)) := List.getElem?_eq_getElem (by omega)
  generalize (t.ks[i]'(by omega)) = kt at hkt
  obtain ⟨r, N1, N2, c, K1, K2, F1, Fk, F2, A⟩ := around_of P.pre.rep P.pre.wf hkt
  obtain ⟨n1, n2, n3, n4, n5, n6⟩ := del_nums P A
  have hat := P.pre.mem.at_ n r A.rec_
  obtain ⟨kb, ko, hka, _⟩ := ((hat.2.2.2 _ A.kids).2.1).form (by simp; omega)
  have hc : (N1 ++ c :: N2)[i]? = some c := by rw [← A.ln]; simp
  have hti := t_its A
  rw [hti] at hloc hil
  have hlk := A.lk
  have hlr := A.lr
  have hI : r.items.take i ++ r.items.drop i = r.items := List.take_append_drop _ _
  have hIl : (r.items.take i).length = i := by rw [List.length_take]; omega
  have hIr : (r.items.drop i).length = K2.length := by rw [List.length_drop]; omega
  obtain ⟨lA, lB⟩ := loc_none hloc
  obtain ⟨C, D, hCD, hC, hD⟩ := flat_around (lt := ilt) (x := mkIt k) iord (h := h) (I1 := r.items.take i) (I2 := r.items.drop i) (K1 := K1) (K2 := K2) (k := kt) (by omega) (by omega) (by rw [hI, ← A.tq]; exact P.pre.srt) lA lB
  rw [hI] at hCD
  have hft : flat (h + 1) t = C ++ flat h kt ++ D := by
    have := hCD kt
    rw [← A.tq] at this
    exact this
  have hfr : ∀ k' p, Dl false k (flat h kt) (flat h k') p → Dl false k (flat (h + 1) t) (flat (h + 1) (.node r.items (K1 ++ k' :: K2))) p := fun k' p hd => by
    rw [hft, hCD k']
    exact Dl.frame hd _ _ (fun _ => ⟨hC, hD⟩) fun h => by cases h
  exact (del_inner_go P.pre.hdr P.pre.cell hat A.isoq n1 n6 hloc n2 n3 n4 n5 A.kids hka hc (GoD H L Fk hr.iso mn mx h c kt false k hr.emp) (RBD w H L F hr.iso mn mx h n t false k) (fun W hK => del_down IH P A hka hft false k hK) (del_go_reb R P A hfr)).mono (del_go_done P A hfr)

/-- Around an item and the child ahead of it. -/
theorem flat_two {h : Nat} {A0 B0 : List It} {K1 K2 : List (Tr It)} (h1 : K1.length = A0.length) (h2 : K2.length = B0.length + 1) : ∃ C D, ∀ z k', flat (h + 1) (.node (A0 ++ z :: B0) (K1 ++ k' :: K2)) = C ++ flat h k' ++ z :: D := by
  cases K2 with
  | nil => simp at h2
  | cons k2 K2 =>
    refine ⟨wl (K1.map (flat h)) A0, flat h k2 ++ wr B0 (K2.map (flat h)), fun z k' => ?_⟩
    simp only [flat, Tr.its, Tr.ks, List.map_append, List.map_cons]
    rw [wl_wr _ _ _ _ _ (by simpa using h1)]
    simp [wr]

theorem del_succ_found (IH : DelIH b hr mn mx h) (R : RebOK) (P : DelPre w b hr pb po n H L (h + 1) t F mn mx) (k : Ky) {i : Nat} (hloc : Loc t.its k i true) :
    Calls Try.prog 132 #[ptr b, .pointer (some ⟨pb, po, none⟩), .bool false, kv k] w (DelPost w H L F hr.iso mn mx (h + 1) n t false k hr.emp) := by
  have hwk := P.pre.wf.2.2.1
  have hil := hloc.1
  have hkt : t.ks[i]? = some (t.ks[i]'(by omega)) := List.getElem?_eq_getElem (by omega)
  generalize (t.ks[i]'(by omega)) = kt at hkt
  obtain ⟨r, N1, N2, c, K1, K2, F1, Fk, F2, A⟩ := around_of P.pre.rep P.pre.wf hkt
  obtain ⟨n1, n2, n3, n4, n5, n6⟩ := del_nums P A
  have hat := P.pre.mem.at_ n r A.rec_
  obtain ⟨kb, ko, hka, _⟩ := ((hat.2.2.2 _ A.kids).2.1).form (by simp; omega)
  have hc : (N1 ++ c :: N2)[i]? = some c := by rw [← A.ln]; simp
  have hti := t_its A
  rw [hti] at hloc hil
  have hlk := A.lk
  have hlr := A.lr
  obtain ⟨A0, z, B0, hits, hA0, hz, h1, h2, _, _⟩ := loc_found n6 hloc
  obtain ⟨C, D, hCD⟩ := flat_two (h := h) (A0 := A0) (B0 := B0) (K1 := K1) (K2 := K2) (by omega) (by rw [hits] at hlr; simp at hlr; omega)
  have hset : ∀ y, r.items.set i y = A0 ++ y :: B0 := fun y => by rw [hits, ← hA0]; simp
  have hft : flat (h + 1) t = C ++ flat h kt ++ z :: D := by rw [A.tq, hits]; exact hCD z kt
  have srt := P.pre.srt
  have hfr : ∀ k' y, Dl true (ky hr.emp) (flat h kt) (flat h k') (some y) → Dl false k (flat (h + 1) t) (flat (h + 1) (.node (r.items.set i y) (K1 ++ k' :: K2))) (some z) := fun k' y hd => by
    obtain ⟨y', hy, hk'⟩ := hd
    obtain rfl := Option.some.inj hy
    rw [hft] at srt ⊢
    rw [hset, hCD, hk']
    rw [hk'] at srt
    obtain ⟨_, sD, sCD⟩ := Sorted.of_append srt
    refine ⟨C ++ flat h k' ++ [y], D, by simp, by simp, h1, h2, fun a ha => ?_, fun d hd => ?_⟩
    · exact klt_of_eq h1 h2 (sCD a (by simpa using ha) z (by simp))
    · exact klt_of_eq' h1 h2 ((List.pairwise_cons.1 sD).1 d hd)
  refine (del_inner_found P.pre.hdr P.pre.cell hat A.isoq n1 n6 hloc hz n2 n3 n4 n5 A.kids hka hc (GoD H L Fk hr.iso mn mx h c kt true (ky hr.emp) hr.emp) (fun W _ X X' => RBD w H L F hr.iso mn mx h n t false k W z X X') (fun W hK => del_down IH P A hka hft true _ hK) ?_).mono ?_
  · rintro W W' y del rc X hK ⟨p, k', G, H', L', rfl, rfl, hrc, st, rep', nd', less, dl⟩ _ hX hx hlt
    obtain ⟨y, rfl, _⟩ := id dl
    obtain ⟨_, q, e1, _, e2, _⟩ := rep'.root
    rw [hrc] at e1
    cases e1
    rw [e2, P.hm] at hlt
    exact mid_reb R P A hK st rep' nd' less (by simp) hX hx (hfr k' y dl) (by omega)
  · rintro e w' ⟨W, W', y, del, rc, hK, ⟨p, k', G, H', L', rfl, rfl, hrc, st, rep', nd', less, dl⟩, _, rfl, X, X', hX, hx, hor, hK4⟩
    obtain ⟨y, rfl, _⟩ := id dl
    obtain ⟨_, q, e1, _, e2, _⟩ := rep'.root
    rw [hrc] at e1
    cases e1
    rw [e2, P.hm] at hor
    rcases hor with ⟨hmn, rfl⟩ | ⟨_, t'', hl, less2, dl2⟩
    · exact mid_done (q := some z) P A hK st rep' nd' less (its1 := r.items.set i y) (cnt1 := r.cnt - 1) (by simp) hX hx (by simp) (hfr k' y dl) (by omega) hK4 rfl
    · exact hl.done hK4 rfl less2 dl2
end mid

/-- DELETING BELOW A NODE: what it leaves. -/
theorem del_any (R : RebOK) {b : Nat} {hr : HRec} {mn mx : Nat} : ∀ h, DelIH b hr mn mx h
  | 0 => fun _ _ _ _ _ _ _ _ mb k P => del_zero P mb k
  | h + 1 => fun t w pb po n H L F mb k P => by
    cases mb with
    | true => exact del_succ_max (del_any R h) R P k
    | false =>
      obtain ⟨i, f, hloc⟩ := Loc.ex k t.its (own_sorted P.pre.wf P.pre.srt)
      cases f with
      | true => exact del_succ_found (del_any R h) R P k hloc
      | false => exact del_succ_go (del_any R h) R P k hloc
end Go.Proofs.Ytckplcmieelmpaa.W

namespace Go.Wb
open Go Go.RowKit
variable {α : Type} {T : Ty} {E : Enc α}

/-- A node is given up. -/
theorem TStep.drop {X : Nat → Nat → Prop} {w w' : World} {H H' : Store α} {L L' : Nat → Lay} {F F' G : List Nat} (hm : Mem T E w H L) (h : TStep T E X w H L F w' H' L' F') {n : Nat} (hn : n ∈ F') (hG : ∀ m, m ∈ G ↔ m ∈ F' ∧ m ≠ n) : TStep T E X w H L F w' (upd H' n none) L' G := by
  have ne : ∀ m r, upd H' n none m = some r → m ≠ n ∧ H' m = some r := fun m r hr => by
    by_cases e : m = n
    · subst e; rw [upd_same] at hr; cases hr
    · rw [upd_ne _ _ e] at hr; exact ⟨e, hr⟩
  refine ⟨⟨fun m r hr => h.mem.at_ m r (ne m r hr).2, fun a b p q hab hp hq x o hf hg => h.mem.sep a b p q hab (ne a p hp).2 (ne b q hq).2 x o hf hg⟩, h.keep, fun m hmF r hr => ?_, fun m hmG => h.new m ((hG m).1 hmG).1, fun b o hb hf => ?_, fun m r hr => ?_⟩
  · obtain ⟨h1, h2⟩ := h.out m hmF r hr
    have e : m ≠ n := fun e => by
      subst e
      rcases h.new m hn with h3 | h3
      · exact hmF h3
      · have := hm.lt hr; omega
    exact ⟨by rw [upd_ne _ _ e]; exact h1, h2⟩
  · obtain ⟨m, r, hmG, hr, hf⟩ := hf
    exact h.fp b o hb ⟨m, r, ((hG m).1 hmG).1, (ne m r hr).2, hf⟩
  · obtain ⟨e, hr'⟩ := ne m r hr
    exact (h.only m r hr').imp (fun h1 => (hG m).2 ⟨h1, e⟩) id
end Go.Wb

namespace Go.Proofs.Ytckplcmieelmpaa.W
open Go.RowKit Go.Wb

/-- What deleting leaves of a tree. -/
def DelT (w : World) (b : Nat) (hr : HRec) (H : Store It) (L : Nat → Lay) (F : List Nat) (mn mx : Nat) (s : Sh) (k : Ky) (e : Ending) (w' : World) : Prop :=
  ∃ hr' H' L' F' s' p, e = .returned (.tuple #[vv (Option.getD p hr.emp), .bool p.isSome]) ∧ TStep TT E (fun c _ => c = b) w H L F w' H' L' F' ∧ TreeAt w' b hr' H' L' F' mn mx s' ∧ Del ilt (its s) (mkIt k) (its s') p ∧
    hr'.iso = hr.iso ∧ hr'.ctr = hr.ctr ∧ hr'.emp = hr.emp

set_option maxRecDepth 100000 in
set_option maxHeartbeats 4000000 in
theorem del_none {w : World} {b : Nat} {hr : HRec} {H : Store It} {L : Nat → Lay} {F : List Nat} {mn mx : Nat} (T : TreeAt w b hr H L F mn mx none) (k : Ky) :
    Calls Try.prog 83 #[ptr b, kv k] w (DelT w b hr H L F mn mx none k) := by
  have HT := Lib.hid T
  have c2 := hdr_root T.hdr
  have hev := (hdr_emp T.hdr).1
  rw [T.root.1] at c2
  simp only [rootV, Option.map_none] at c2
  clear T
  unfold ptr kv at *
  go_enter Try.func83, Try.ntmps83
  go_wp2_with fail
  go_ret2
  have T := HT.out
  exact ⟨hr, H, L, F, none, none, rfl, TStep.refl T.mem _ _, T, ⟨rfl, [], [], rfl, by simp, by simp⟩, rfl, rfl, rfl⟩

/-- A tree behind a deletion: what becomes of its root. -/
structure Behind (W' : World) (hr : HRec) (H' : Store It) (iso : Int) (mn mx h n : Nat) (t' : Tr It) (F' : List Nat) : Prop where
  rep : Rep H' iso h n t' F'
  nd : F'.Nodup
  body : body mn mx h t'
  le : t'.its.length ≤ mx

theorem behind_same {W' : World} {hr : HRec} {H' : Store It} {iso : Int} {mn mx h n : Nat} {t' : Tr It} {F' : List Nat} (B : Behind W' hr H' iso mn mx h n t' F') (h1 : 1 ≤ t'.its.length) : RootAt H' iso (some n) F' mn mx (some (h, t')) ∧ 1 ≤ (flat h t').length := by
  have wf := B.body.wfr h1 B.le
  refine ⟨⟨n, rfl, B.rep, wf⟩, ?_⟩
  have := (own_sub wf).length_le
  omega
theorem behind_none {W' : World} {hr : HRec} {H' : Store It} {iso : Int} {mn mx n : Nat} {t' : Tr It} {F' : List Nat} (B : Behind W' hr H' iso mn mx 0 n t' F') (h0 : t'.its.length = 0) : F' = [n] ∧ flat 0 t' = [] := by
  obtain ⟨r, _, _, _, _, _, _, rfl⟩ := B.rep
  exact ⟨rfl, List.eq_nil_of_length_eq_zero h0⟩
theorem behind_down {W' : World} {hr : HRec} {H' : Store It} {iso : Int} {mn mx h n : Nat} {t' : Tr It} {F' : List Nat} (B : Behind W' hr H' iso mn mx (h + 1) n t' F') (hp : 1 ≤ mn) (h0 : t'.its.length = 0) :
    ∃ r c kc Fc, H' n = some r ∧ r.kids = some [c] ∧ F' = n :: Fc ∧ flat (h + 1) t' = flat h kc ∧ RootAt (upd H' n none) iso (some c) Fc mn mx (some (h, kc)) ∧ 1 ≤ (flat h kc).length ∧ Fc.Nodup ∧ n ∉ Fc := by
  obtain ⟨r, ns, G, h1, h2, h3, h4, h5, h6, rfl⟩ := B.rep
  obtain ⟨b1, b2⟩ := B.body
  obtain ⟨its, ks⟩ := t'
  simp only [Tr.its, Tr.ks] at *
  have hi : its = [] := List.eq_nil_of_length_eq_zero h0
  subst hi
  obtain ⟨kc, rfl⟩ : ∃ kc, ks = [kc] := by
    cases ks with
    | nil => simp at b1
    | cons k l => cases l with
      | nil => exact ⟨k, rfl⟩
      | cons _ _ => simp at b1
  have hnl := h6.len
  obtain ⟨c, rfl⟩ : ∃ c, ns = [c] := by
    cases ns with
    | nil => simp at hnl
    | cons k l => cases l with
      | nil => exact ⟨k, rfl⟩
      | cons _ _ => simp at hnl
  obtain ⟨Fc, F2, r1, r2, rfl⟩ := h6
  obtain rfl : F2 = [] := r2
  have nd := List.nodup_cons.1 B.nd
  rw [List.append_nil] at nd
  have wk := b2 kc (by simp)
  have hsub := (own_sub wk).length_le
  have := wk.own_le
  refine ⟨r, c, kc, Fc, h1, h4, by simp, by simp [flat, Tr.its, Tr.ks, weave, wr], ⟨c, rfl, r1.congr fun m hm => upd_ne _ _ fun e => nd.1 (e ▸ hm), wk.weaken (by omega)⟩, by omega, nd.2, nd.1⟩
end Go.Proofs.Ytckplcmieelmpaa.W
