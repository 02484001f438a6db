/- Part 2 of the texts for the statement FnWGetsSaid: the package's tree of maps and sets, its functions' contracts. -/
import Derived.Test.YtckplcmieelmpaaGPA
import Derived.Deep.RegionHeld3
import Derived.Deep.QuietTactic
import Derived.BigQuiet
import Derived.ProofKit
import Derived.SliceStrings
import Derived.Deep.SlicePairs
namespace Go.Proofs.Ytckplcmieelmpaa.W
open Go.RowKit Go.Wb

section mid
variable {w : World} {b : Nat} {hr : HRec} {pb po n : Nat} {H : Store It} {L : Nat → Lay} {h : Nat} {t : Tr It} {F : List Nat} {mn mx : Nat} {r : NRec It} {i c : Nat} {kt : Tr It} {N1 N2 : List Nat} {K1 K2 : List (Tr It)} {F1 Fk F2 : List Nat}

/-- The numbers that a walk asks for. -/
theorem del_nums (P : DelPre w b hr pb po n H L (h + 1) t F mn mx) (A : Around H hr.iso mn mx h n t F r i kt N1 N2 c K1 K2 F1 Fk F2) : r.items.length ≤ 1000000000000 ∧ 0 ≤ r.cnt ∧ r.cnt ≤ 4000000000000000000 ∧ 0 ≤ hr.mn ∧ hr.mn ≤ 1000000000000 ∧ Sorted ilt r.items := by
  have h1 := A.le
  have h2 := P.pre.hb
  have h3 := A.cnt
  have h4 := P.pre.big
  have h5 := P.hm
  have h6 := P.pre.hmn
  refine ⟨by omega, by omega, by omega, by omega, by omega, ?_⟩
  have := own_sorted P.pre.wf P.pre.srt
  rwa [t_its A] at this

theorem del_succ_max (IH : DelIH b hr mn mx h) (R : RebOK) (P : DelPre w b hr pb po n H L (h + 1) t F mn mx) (k : Ky) :
    Calls Try.prog 132 #[ptr b, .pointer (some ⟨pb, po, none⟩), .bool true, kv k] w (DelPost w H L F hr.iso mn mx (h + 1) n t true k hr.emp) := by
  have hwk := P.pre.wf.2.2.1
  have hkt : t.ks[t.its.length]? = some (t.ks[t.its.length]'(by omega)) := List.getElem?_eq_getElem (by omega)
  obtain ⟨r, N1, N2, c, K1, K2, F1, Fk, F2, A⟩ := around_of P.pre.rep P.pre.wf hkt
  obtain ⟨n1, n2, n3, n4, n5, n6⟩ := del_nums P A
  have hat := P.pre.mem.at_ n r A.rec_
  obtain ⟨kb, ko, hka, _⟩ := ((hat.2.2.2 _ A.kids).2.1).form (by simp; omega)
  have hc : (N1 ++ c :: N2)[t.its.length]? = some c := by rw [← A.ln]; simp
  have hti := t_its A
  have hK2 : K2 = [] := List.eq_nil_of_length_eq_zero (by have := A.lr; rw [hti] at this; omega)
  have hne := P.ne
  have hlk := A.lk
  rw [hti] at hlk
  have hfl : ∀ k', flat (h + 1) (.node r.items (K1 ++ k' :: K2)) = wl (K1.map (flat h)) r.items ++ flat h k' ++ [] := fun k' => by
    subst hK2
    have := wl_wr (K1.map (flat h)) r.items (flat h k') [] [] (by simpa using hlk)
    simp only [List.append_nil] at this ⊢
    simp only [flat, Tr.its, Tr.ks, List.map_append, List.map_cons, List.map_nil]
    rw [this]
    simp [wr]
  have hft : flat (h + 1) t = wl (K1.map (flat h)) r.items ++ flat h (t.ks[t.its.length]'(by omega)) ++ [] := by
    have := hfl (t.ks[t.its.length]'(by omega))
    rw [← A.tq] at this
    exact this
  have hfr : ∀ k' p, Dl true (ky hr.emp) (flat h (t.ks[t.its.length]'(by omega))) (flat h k') p → Dl true k (flat (h + 1) t) (flat (h + 1) (.node r.items (K1 ++ k' :: K2))) p := fun k' p hd => by
    rw [hft, hfl k']
    exact Dl.frame (k := k) hd _ _ (fun h => by cases h) fun _ => rfl
  refine (del_inner_max P.pre.hdr P.pre.cell hat A.isoq n1 k (i := t.its.length) (by rw [hti]) hne n2 n3 n4 n5 A.kids hka hc (GoD H L Fk hr.iso mn mx h c (t.ks[t.its.length]'(by omega)) true (ky hr.emp) hr.emp) (RBD w H L F hr.iso mn mx h n t true k) (fun W hK => del_down IH P A hka hft true _ hK) (del_go_reb R P A hfr)).mono (del_go_done P A hfr)

theorem del_succ_go (IH : DelIH b hr mn mx h) (R : RebOK) (P : DelPre w b hr pb po n H L (h + 1) t F mn mx) (k : Ky) {i : Nat} (hloc : Loc t.its k i false) :
    Calls Try.prog 132 #[ptr b, .pointer (some ⟨pb, po, none⟩), .bool false, kv k] w (DelPost w H L F hr.iso mn mx (h + 1) n t false k hr.emp) := by
  have hwk := P.pre.wf.2.2.1
  have hil := hloc.1
  have hkt : t.ks[i]? = some (t.ks[i]'(by omega)) := List.getElem?_eq_getElem (by omega)
  generalize (t.ks[i]'(by omega)) = kt at hkt
  obtain ⟨r, N1, N2, c, K1, K2, F1, Fk, F2, A⟩ := around_of P.pre.rep P.pre.wf hkt
  obtain ⟨n1, n2, n3, n4, n5, n6⟩ := del_nums P A
  have hat := P.pre.mem.at_ n r A.rec_
  obtain ⟨kb, ko, hka, _⟩ := ((hat.2.2.2 _ A.kids).2.1).form (by simp; omega)
  have hc : (N1 ++ c :: N2)[i]? = some c := by rw [← A.ln]; simp
  have hti := t_its A
  rw [hti] at hloc hil
  have hlk := A.lk
  have hlr := A.lr
  have hI : r.items.take i ++ r.items.drop i = r.items := List.take_append_drop _ _
  have hIl : (r.items.take i).length = i := by rw [List.length_take]; omega
  have hIr : (r.items.drop i).length = K2.length := by rw [List.length_drop]; omega
  obtain ⟨lA, lB⟩ := loc_none hloc
  obtain ⟨C, D, hCD, hC, hD⟩ := flat_around (lt := ilt) (x := mkIt k) iord (h := h) (I1 := r.items.take i) (I2 := r.items.drop i) (K1 := K1) (K2 := K2) (k := kt) (by omega) (by omega) (by rw [hI, ← A.tq]; exact P.pre.srt) lA lB
  rw [hI] at hCD
  have hft : flat (h + 1) t = C ++ flat h kt ++ D := by
    have := hCD kt
    rw [← A.tq] at this
    exact this
  have hfr : ∀ k' p, Dl false k (flat h kt) (flat h k') p → Dl false k (flat (h + 1) t) (flat (h + 1) (.node r.items (K1 ++ k' :: K2))) p := fun k' p hd => by
    rw [hft, hCD k']
    exact Dl.frame hd _ _ (fun _ => ⟨hC, hD⟩) fun h => by cases h
  exact (del_inner_go P.pre.hdr P.pre.cell hat A.isoq n1 n6 hloc n2 n3 n4 n5 A.kids hka hc (GoD H L Fk hr.iso mn mx h c kt false k hr.emp) (RBD w H L F hr.iso mn mx h n t false k) (fun W hK => del_down IH P A hka hft false k hK) (del_go_reb R P A hfr)).mono (del_go_done P A hfr)

/-- Around an item and the child ahead of it. -/
theorem flat_two {h : Nat} {A0 B0 : List It} {K1 K2 : List (Tr It)} (h1 : K1.length = A0.length) (h2 : K2.length = B0.length + 1) : ∃ C D, ∀ z k', flat (h + 1) (.node (A0 ++ z :: B0) (K1 ++ k' :: K2)) = C ++ flat h k' ++ z :: D := by
  cases K2 with
  | nil => simp at h2
  | cons k2 K2 =>
    refine ⟨wl (K1.map (flat h)) A0, flat h k2 ++ wr B0 (K2.map (flat h)), fun z k' => ?_⟩
    simp only [flat, Tr.its, Tr.ks, List.map_append, List.map_cons]
    rw [wl_wr _ _ _ _ _ (by simpa using h1)]
    simp [wr]

theorem del_succ_found (IH : DelIH b hr mn mx h) (R : RebOK) (P : DelPre w b hr pb po n H L (h + 1) t F mn mx) (k : Ky) {i : Nat} (hloc : Loc t.its k i true) :
    Calls Try.prog 132 #[ptr b, .pointer (some ⟨pb, po, none⟩), .bool false, kv k] w (DelPost w H L F hr.iso mn mx (h + 1) n t false k hr.emp) := by
  have hwk := P.pre.wf.2.2.1
  have hil := hloc.1
  have hkt : t.ks[i]? = some (t.ks[i]'(by omega)) := List.getElem?_eq_getElem (by omega)
  generalize (t.ks[i]'(by omega)) = kt at hkt
  obtain ⟨r, N1, N2, c, K1, K2, F1, Fk, F2, A⟩ := around_of P.pre.rep P.pre.wf hkt
  obtain ⟨n1, n2, n3, n4, n5, n6⟩ := del_nums P A
  have hat := P.pre.mem.at_ n r A.rec_
  obtain ⟨kb, ko, hka, _⟩ := ((hat.2.2.2 _ A.kids).2.1).form (by simp; omega)
  have hc : (N1 ++ c :: N2)[i]? = some c := by rw [← A.ln]; simp
  have hti := t_its A
  rw [hti] at hloc hil
  have hlk := A.lk
  have hlr := A.lr
  obtain ⟨A0, z, B0, hits, hA0, hz, h1, h2, _, _⟩ := loc_found n6 hloc
  obtain ⟨C, D, hCD⟩ := flat_two (h := h) (A0 := A0) (B0 := B0) (K1 := K1) (K2 := K2) (by omega) (by rw [hits] at hlr; simp at hlr; omega)
  have hset : ∀ y, r.items.set i y = A0 ++ y :: B0 := fun y => by rw [hits, ← hA0]; simp
  have hft : flat (h + 1) t = C ++ flat h kt ++ z :: D := by rw [A.tq, hits]; exact hCD z kt
  have srt := P.pre.srt
  have hfr : ∀ k' y, Dl true (ky hr.emp) (flat h kt) (flat h k') (some y) → Dl false k (flat (h + 1) t) (flat (h + 1) (.node (r.items.set i y) (K1 ++ k' :: K2))) (some z) := fun k' y hd => by
    obtain ⟨y', hy, hk'⟩ := hd
    obtain rfl := Option.some.inj hy
    rw [hft] at srt ⊢
    rw [hset, hCD, hk']
    rw [hk'] at srt
    obtain ⟨_, sD, sCD⟩ := Sorted.of_append srt
    refine ⟨C ++ flat h k' ++ [y], D, by simp, by simp, h1, h2, fun a ha => ?_, fun d hd => ?_⟩
    · exact klt_of_eq h1 h2 (sCD a (by simpa using ha) z (by simp))
    · exact klt_of_eq' h1 h2 ((List.pairwise_cons.1 sD).1 d hd)
  refine (del_inner_found P.pre.hdr P.pre.cell hat A.isoq n1 n6 hloc hz n2 n3 n4 n5 A.kids hka hc (GoD H L Fk hr.iso mn mx h c kt true (ky hr.emp) hr.emp) (fun W _ X X' => RBD w H L F hr.iso mn mx h n t false k W z X X') (fun W hK => del_down IH P A hka hft true _ hK) ?_).mono ?_
  · rintro W W' y del rc X hK ⟨p, k', G, H', L', rfl, rfl, hrc, st, rep', nd', less, dl⟩ _ hX hx hlt
    obtain ⟨y, rfl, _⟩ := id dl
    obtain ⟨_, q, e1, _, e2, _⟩ := rep'.root
    rw [hrc] at e1
    cases e1
    rw [e2, P.hm] at hlt
    exact mid_reb R P A hK st rep' nd' less (by simp) hX hx (hfr k' y dl) (by omega)
  · rintro e w' ⟨W, W', y, del, rc, hK, ⟨p, k', G, H', L', rfl, rfl, hrc, st, rep', nd', less, dl⟩, _, rfl, X, X', hX, hx, hor, hK4⟩
    obtain ⟨y, rfl, _⟩ := id dl
    obtain ⟨_, q, e1, _, e2, _⟩ := rep'.root
    rw [hrc] at e1
    cases e1
    rw [e2, P.hm] at hor
    rcases hor with ⟨hmn, rfl⟩ | ⟨_, t'', hl, less2, dl2⟩
    · exact mid_done (q := some z) P A hK st rep' nd' less (its1 := r.items.set i y) (cnt1 := r.cnt - 1) (by simp) hX hx (by simp) (hfr k' y dl) (by omega) hK4 rfl
    · exact hl.done hK4 rfl less2 dl2
end mid

/-- DELETING BELOW A NODE: what it leaves. -/
theorem del_any (R : RebOK) {b : Nat} {hr : HRec} {mn mx : Nat} : ∀ h, DelIH b hr mn mx h
  | 0 => fun _ _ _ _ _ _ _ _ mb k P => del_zero P mb k
  | h + 1 => fun t w pb po n H L F mb k P => by
    cases mb with
    | true => exact del_succ_max (del_any R h) R P k
    | false =>
      obtain ⟨i, f, hloc⟩ := Loc.ex k t.its (own_sorted P.pre.wf P.pre.srt)
      cases f with
      | true => exact del_succ_found (del_any R h) R P k hloc
      | false => exact del_succ_go (del_any R h) R P k hloc
end Go.Proofs.Ytckplcmieelmpaa.W

namespace Go.Wb
open Go Go.RowKit
variable {α : Type} {T : Ty} {E : Enc α}

/-- A node is given up. -/
theorem TStep.drop {X : Nat → Nat → Prop} {w w' : World} {H H' : Store α} {L L' : Nat → Lay} {F F' G : List Nat} (hm : Mem T E w H L) (h : TStep T E X w H L F w' H' L' F') {n : Nat} (hn : n ∈ F') (hG : ∀ m, m ∈ G ↔ m ∈ F' ∧ m ≠ n) : TStep T E X w H L F w' (upd H' n none) L' G := by
  have ne : ∀ m r, upd H' n none m = some r → m ≠ n ∧ H' m = some r := fun m r hr => by
    by_cases e : m = n
    · subst e; rw [upd_same] at hr; cases hr
    · rw [upd_ne _ _ e] at hr; exact ⟨e, hr⟩
  refine ⟨⟨fun m r hr => h.mem.at_ m r (ne m r hr).2, fun a b p q hab hp hq x o hf hg => h.mem.sep a b p q hab (ne a p hp).2 (ne b q hq).2 x o hf hg⟩, h.keep, fun m hmF r hr => ?_, fun m hmG => h.new m ((hG m).1 hmG).1, fun b o hb hf => ?_, fun m r hr => ?_⟩
  · obtain ⟨h1, h2⟩ := h.out m hmF r hr
    have e : m ≠ n := fun e => by
      subst e
      rcases h.new m hn with h3 | h3
      · exact hmF h3
      · have := hm.lt hr; omega
    exact ⟨by rw [upd_ne _ _ e]; exact h1, h2⟩
  · obtain ⟨m, r, hmG, hr, hf⟩ := hf
    exact h.fp b o hb ⟨m, r, ((hG m).1 hmG).1, (ne m r hr).2, hf⟩
  · obtain ⟨e, hr'⟩ := ne m r hr
    exact (h.only m r hr').imp (fun h1 => (hG m).2 ⟨h1, e⟩) id
end Go.Wb

namespace Go.Proofs.Ytckplcmieelmpaa.W
open Go.RowKit Go.Wb

/-- What deleting leaves of a tree. -/
def DelT (w : World) (b : Nat) (hr : HRec) (H : Store It) (L : Nat → Lay) (F : List Nat) (mn mx : Nat) (s : Sh) (k : Ky) (e : Ending) (w' : World) : Prop :=
  ∃ hr' H' L' F' s' p, e = .returned (.tuple #[vv (Option.getD p hr.emp), .bool p.isSome]) ∧ TStep TT E (fun c _ => c = b) w H L F w' H' L' F' ∧ TreeAt w' b hr' H' L' F' mn mx s' ∧ Del ilt (its s) (mkIt k) (its s') p ∧
    hr'.iso = hr.iso ∧ hr'.ctr = hr.ctr ∧ hr'.emp = hr.emp

set_option maxRecDepth 100000 in
set_option maxHeartbeats 4000000 in
theorem del_none {w : World} {b : Nat} {hr : HRec} {H : Store It} {L : Nat → Lay} {F : List Nat} {mn mx : Nat} (T : TreeAt w b hr H L F mn mx none) (k : Ky) :
    Calls Try.prog 83 #[ptr b, kv k] w (DelT w b hr H L F mn mx none k) := by
  have HT := Lib.hid T
  have c2 := hdr_root T.hdr
  have hev := (hdr_emp T.hdr).1
  rw [T.root.1] at c2
  simp only [rootV, Option.map_none] at c2
  clear T
  unfold ptr kv at *
  go_enter Try.func83, Try.ntmps83
  go_wp2_with fail
  go_ret2
  have T := HT.out
  exact ⟨hr, H, L, F, none, none, rfl, TStep.refl T.mem _ _, T, ⟨rfl, [], [], rfl, by simp, by simp⟩, rfl, rfl, rfl⟩

/-- A tree behind a deletion: what becomes of its root. -/
structure Behind (W' : World) (hr : HRec) (H' : Store It) (iso : Int) (mn mx h n : Nat) (t' : Tr It) (F' : List Nat) : Prop where
  rep : Rep H' iso h n t' F'
  nd : F'.Nodup
  body : body mn mx h t'
  le : t'.its.length ≤ mx

theorem behind_same {W' : World} {hr : HRec} {H' : Store It} {iso : Int} {mn mx h n : Nat} {t' : Tr It} {F' : List Nat} (B : Behind W' hr H' iso mn mx h n t' F') (h1 : 1 ≤ t'.its.length) : RootAt H' iso (some n) F' mn mx (some (h, t')) ∧ 1 ≤ (flat h t').length := by
  have wf := B.body.wfr h1 B.le
  refine ⟨⟨n, rfl, B.rep, wf⟩, ?_⟩
  have := (own_sub wf).length_le
  omega
theorem behind_none {W' : World} {hr : HRec} {H' : Store It} {iso : Int} {mn mx n : Nat} {t' : Tr It} {F' : List Nat} (B : Behind W' hr H' iso mn mx 0 n t' F') (h0 : t'.its.length = 0) : F' = [n] ∧ flat 0 t' = [] := by
  obtain ⟨r, _, _, _, _, _, _, rfl⟩ := B.rep
  exact ⟨rfl, List.eq_nil_of_length_eq_zero h0⟩
theorem behind_down {W' : World} {hr : HRec} {H' : Store It} {iso : Int} {mn mx h n : Nat} {t' : Tr It} {F' : List Nat} (B : Behind W' hr H' iso mn mx (h + 1) n t' F') (hp : 1 ≤ mn) (h0 : t'.its.length = 0) :
    ∃ r c kc Fc, H' n = some r ∧ r.kids = some [c] ∧ F' = n :: Fc ∧ flat (h + 1) t' = flat h kc ∧ RootAt (upd H' n none) iso (some c) Fc mn mx (some (h, kc)) ∧ 1 ≤ (flat h kc).length ∧ Fc.Nodup ∧ n ∉ Fc := by
  obtain ⟨r, ns, G, h1, h2, h3, h4, h5, h6, rfl⟩ := B.rep
  obtain ⟨b1, b2⟩ := B.body
  obtain ⟨its, ks⟩ := t'
  simp only [Tr.its, Tr.ks] at *
  have hi : its = [] := List.eq_nil_of_length_eq_zero h0
  subst hi
  obtain ⟨kc, rfl⟩ : ∃ kc, ks = [kc] := by
    cases ks with
    | nil => simp at b1
    | cons k l => cases l with
      | nil => exact ⟨k, rfl⟩
      | cons _ _ => simp at b1
  have hnl := h6.len
  obtain ⟨c, rfl⟩ : ∃ c, ns = [c] := by
    cases ns with
    | nil => simp at hnl
    | cons k l => cases l with
      | nil => exact ⟨k, rfl⟩
      | cons _ _ => simp at hnl
  obtain ⟨Fc, F2, r1, r2, rfl⟩ := h6
  obtain rfl : F2 = [] := r2
  have nd := List.nodup_cons.1 B.nd
  rw [List.append_nil] at nd
  have wk := b2 kc (by simp)
  have hsub := (own_sub wk).length_le
  have := wk.own_le
  refine ⟨r, c, kc, Fc, h1, h4, by simp, by simp [flat, Tr.its, Tr.ks, weave, wr], ⟨c, rfl, r1.congr fun m hm => upd_ne _ _ fun e => nd.1 (e ▸ hm), wk.weaken (by omega)⟩, by omega, nd.2, nd.1⟩
end Go.Proofs.Ytckplcmieelmpaa.W

namespace Go.Proofs.Ytckplcmieelmpaa.W
open Go.RowKit Go.Wb

theorem del_pre {w : World} {b : Nat} {hr : HRec} {H : Store It} {L : Nat → Lay} {F : List Nat} {mn mx h : Nat} {t : Tr It} (T : TreeAt w b hr H L F mn mx (some (h, t))) (big : (flat h t).length ≤ 3000000000000000000) : ∃ n, hr.root = some n ∧ DelPre w b hr b 2 n H L h t F mn mx := by
  obtain ⟨n, hroot, hpre⟩ := root_pre T big
  have hm : hr.mn = (mn : Int) := by
    rcases T.par.one with h | ⟨_, h, _⟩
    · exact h.1
    · rw [hroot] at h; cases h
  obtain ⟨n', hn', rep, wf⟩ := T.root
  exact ⟨n, hroot, hpre w (Keep.refl _ _), hm, T.par.pos, wf.own_le.1⟩

set_option maxRecDepth 100000 in
set_option maxHeartbeats 4000000 in
theorem del_some (R : RebOK) {w : World} {b : Nat} {hr : HRec} {H : Store It} {L : Nat → Lay} {F : List Nat} {mn mx h : Nat} {t : Tr It} (T : TreeAt w b hr H L F mn mx (some (h, t))) (big : (flat h t).length ≤ 3000000000000000000) (k : Ky) :
    Calls Try.prog 83 #[ptr b, kv k] w (DelT w b hr H L F mn mx (some (h, t)) k) := by
  obtain ⟨n, hroot, hpre⟩ := del_pre T big
  have HC := Lib.hid (del_any R h t w b 2 n H L F false k hpre)
  have HT := Lib.hid T
  have HBIG := Lib.hid big
  have HR := Lib.hid hroot
  have HPR := Lib.hid hpre
  have c2 := hdr_root T.hdr
  rw [hroot] at c2
  simp only [rootV, Option.map_some] at c2
  clear T big hroot hpre
  unfold ptr kv at *
  go_enter Try.func83, Try.ntmps83
  go_wp2_with fail
  refine HC.out.mono ?_
  rintro e W' ⟨p, t', F', H', L', rfl, st, rep, nd, less, dl⟩
  have ST := Lib.hid st
  have T := HT.out
  have HW' := Lib.hid (blk_keep T.hdr st.keep fun o ⟨m, r, _, hr, hf⟩ => hdr_apart T.hdr (T.mem.at_ m r hr) hf : Hdr W' b hr)
  have hap' : Hid (∀ m r, H' m = some r → ∀ c o, fp TT m r (L' m) c o → c ≠ b) := by exact fun m r hr c o hf e => hdr_apart HW'.out (st.mem.at_ m r hr) (e ▸ hf)
  have hle : t'.its.length ≤ mx := by have := less.le; have := HPR.out.pre.wf.own_le.2; omega
  have BH : Hid (Behind W' hr H' hr.iso mn mx h n t' F') := by exact ⟨rep, nd, less.body, hle⟩
  have LS := Lib.hid less
  have DL := Lib.hid dl
  have hlen := dl.len
  have hcn := T.cnt
  simp only [its] at hcn
  have hbig := HBIG.out
  clear st rep nd less dl c2 T
  unfold pv kv
  go_upto_region 4 with (fail)
  refine wp_world ?_
  intro W1 hW1
  generalize hq : W'.heap.size = q at *
  have hbq : b < q := by rw [← hq]; exact lt_of_heap HW'.out
  have K1 : Hid (Keep Nothing W' W1) := by
    subst hW1
    exact (Keep.refl _ _).al _
  have X1 : Hid (W1.heap[q]? = some (.cells (E.enc (Option.getD p hr.emp)).toArray 161 (0, 0))) := by
    subst hW1
    subst hq
    exact heap_alloc_new W' _
  have XQ := Lib.hid hq
  clear hW1 hq
  have H1 := Lib.hid (blk_keep HW'.out K1.out fun _ h => h : Hdr W1 b hr)
  have M1 := Lib.hid (ST.out.mem.keepS K1.out fun _ _ _ _ _ _ h => h)
  cases p with
  | none =>
    have hev := (hdr_emp H1.out).1
    go_wp2_with fail
    go_ret2
    have hits := LS.out.non rfl
    have hne := HPR.out.ne
    obtain ⟨hroot, _⟩ := behind_same BH.out (by omega)
    have T := HT.out
    refine ⟨hr, H', L', F', some (h, t'), none, rfl, ((ST.out.t _).post (K1.out.mono fun _ _ _ h => h.elim : Keep (fun c _ => c = b) _ _) (fun _ _ _ h => h) fun m r hr c o hf => hap'.out m r hr c o hf), ⟨H1.out, M1.out, BH.out.nd, by rw [HR.out]; exact hroot, ?_, DL.out.sorted T.srt, T.par⟩, DL.out, rfl, rfl, rfl⟩
    simp only [its]
    simp at hlen
    omega
  | some y =>
    simp only [Option.isSome_some, if_true] at hlen
    obtain ⟨_, r, hr1, _, hri, _⟩ := BH.out.rep.root
    have N1 := Lib.hid (M1.out.at_ n r hr1)
    have c2 := hdr_root H1.out
    rw [HR.out] at c2
    simp only [rootV, Option.map_some] at c2
    obtain ⟨d0, d1, cn2, d3, fzn⟩ := blk4 N1.out.1
    clear d0 d1 d3 fzn
    have hcb : -9223372036854775808 ≤ hr.cnt - 1 ∧ hr.cnt - 1 ≤ 9223372036854775807 := by omega
    have HLEN := Lib.hid hlen
    have HCN := Lib.hid hcn
    clear hlen hcn
    by_cases h0 : t'.its.length = 0
    case neg =>
      have hne : ¬ r.items.length = 0 := by rw [hri]; exact h0
      obtain ⟨hroot, hfl⟩ := behind_same BH.out (by omega)
      have hnz : ¬ (hr.cnt - 1 = 0) := by have := HLEN.out; have := HCN.out; omega
      have c3 := hdr_cnt H1.out
      have fz := hdr_fz H1.out
      go_upto_region 9 with (fail)
      refine wp_world ?_
      intro W2 hW2
      have H2 : Hid (Hdr W2 b { hr with cnt := hr.cnt - 1 }) := by subst hW2; exact hdr_set_cnt H1.out _
      have K2 : Hid (Keep (fun c _ => c = b) W1 W2) := by subst hW2; exact (Keep.refl _ _).set _ _ _ fun _ => rfl
      have X2 : Hid (W2.heap[q]? = some (.cells (E.enc (Option.getD (some y) hr.emp)).toArray 161 (0, 0))) := by exact blk_keep X1.out K2.out fun o e => by omega
      clear hW2 c2 c3 fz cn2
      have c3 := hdr_cnt H2.out
      obtain ⟨x0, x1, xf⟩ := blk2 X2.out
      go_wp2_with fail
      go_ret2
      have T := HT.out
      have KA : Keep (fun c _ => c = b) W' W2 := (K1.out.mono fun _ _ _ h => h.elim : Keep (fun c _ => c = b) W' W1).trans K2.out fun _ _ _ h => h
      refine ⟨{ hr with cnt := hr.cnt - 1 }, H', L', F', some (h, t'), some y, rfl, ((ST.out.t _).post KA (fun _ _ _ h => h) fun m r hr c o hf => hap'.out m r hr c o hf), ⟨H2.out, ST.out.mem.keepS KA fun m r c o hr hf => hap'.out m r hr c o hf, BH.out.nd, by show RootAt H' hr.iso hr.root F' mn mx _; rw [HR.out]; exact hroot, ?_, DL.out.sorted T.srt, T.par.cv, T.par.icv, T.par.one, T.par.odd, T.par.pos, T.par.hb⟩, DL.out, rfl, rfl, rfl⟩
      simp only [its]
      have := HLEN.out
      have := HCN.out
      omega
    case pos =>
      have hze : r.items.length = 0 := by rw [hri]; exact h0
      have hlv := Lib.hid (leaf_any N1.out)
      unfold ptr at hlv
      rw [hze] at cn2
      go_upto_region 6 with (fail)
      cases h with
      | zero =>
        obtain ⟨hF, hfl⟩ := behind_none BH.out h0
        have hk : r.kids = none := by
          obtain ⟨q, e1, _, _, _, e5, _⟩ := BH.out.rep
          rw [hr1] at e1; cases e1; exact e5
        have hnz : hr.cnt - 1 = 0 := by have h1 := HLEN.out; have h2 := HCN.out; rw [hfl] at h1; simp at h1; omega
        go_wp2_with fail
        refine hlv.out.mono ?_
        rintro e w1 ⟨rfl, rfl⟩
        simp only [hk, Option.isNone_none]
        have c3 := hdr_cnt H1.out
        have fz := hdr_fz H1.out
        go_upto_region 9 with (fail)
        refine wp_world ?_
        intro W2 hW2
        have H2 : Hid (Hdr W2 b { hr with cnt := hr.cnt - 1 }) := by subst hW2; rw [hnz]; exact hdr_set_cnt H1.out _
        have K2 : Hid (Keep (fun c _ => c = b) W1 W2) := by subst hW2; exact (Keep.refl _ _).set _ _ _ fun _ => rfl
        have X2 : Hid (W2.heap[q]? = some (.cells (E.enc (Option.getD (some y) hr.emp)).toArray 161 (0, 0))) := by exact blk_keep X1.out K2.out fun o e => by omega
        clear hW2 c2 c3 fz cn2 hlv
        have c3 := hdr_cnt H2.out
        have fz := hdr_fz H2.out
        have c2b := hdr_root H2.out
        simp only [rootV, HR.out, Option.map_some] at c2b
        go_upto_region 11 with (fail)
        refine wp_world ?_
        intro W3 hW3
        have H3 : Hid (Hdr W3 b { hr with root := none, cnt := hr.cnt - 1 }) := by subst hW3; exact hdr_set_root H2.out none
        have K3 : Hid (Keep (fun c _ => c = b) W2 W3) := by subst hW3; exact (Keep.refl _ _).set _ _ _ fun _ => rfl
        have X3 : Hid (W3.heap[q]? = some (.cells (E.enc (Option.getD (some y) hr.emp)).toArray 161 (0, 0))) := by exact blk_keep X2.out K3.out fun o e => by omega
        clear hW3 c3 fz c2b
        obtain ⟨x0, x1, xf⟩ := blk2 X3.out
        go_wp2_with fail
        go_ret2
        have T := HT.out
        have KA : Keep (fun c _ => c = b) W' W3 := ((K1.out.mono fun _ _ _ h => h.elim : Keep (fun c _ => c = b) W' W1).trans K2.out fun _ _ _ h => h).trans K3.out fun _ _ _ h => h
        have ts := ((ST.out.t (fun c _ => c = b)).post KA (fun _ _ _ h => h) fun m r hr c o hf => hap'.out m r hr c o hf)
        subst hF
        have ts2 := TStep.drop T.mem ts (n := n) (G := []) (by simp) (fun m => by simp)
        refine ⟨{ hr with root := none, cnt := hr.cnt - 1 }, upd H' n none, L', [], none, some y, rfl, ts2, ⟨H3.out, ts2.mem, by simp, ⟨rfl, rfl⟩, ?_, List.Pairwise.nil, T.par.cv, T.par.icv, ?_, T.par.odd, T.par.pos, T.par.hb⟩, ?_, rfl, rfl, rfl⟩
        · show hr.cnt - 1 = _; rw [hnz]; rfl
        · rcases T.par.one with h | ⟨_, h, _⟩
          · exact .inl h
          · rw [HR.out] at h; cases h
        · have hd := DL.out
          rw [hfl] at hd
          exact hd
      | succ h =>
        obtain ⟨r2, c, kc, Fc, hr2, hk, hF, hfl, hroot, hfl1, ndc, hnc⟩ := behind_down BH.out HPR.out.pos h0
        rw [hr1] at hr2
        cases hr2
        have hnz : ¬ (hr.cnt - 1 = 0) := by have h1 := HLEN.out; have h2 := HCN.out; rw [hfl] at h1; omega
        have XN := N1.out.kids hk
        have p1 := XN.1
        have p2 := XN.2.1
        have hrK := XN.2.2.2.1
        obtain ⟨kb, ko, hka, _⟩ := hrK.form (by simp)
        rw [hka] at p2 hrK
        have hk0 : W1.cell? ⟨kb, ko + 0, none⟩ = some (ptr c) := hrK.cell (by simp)
        rw [Nat.add_zero] at hk0
        unfold ptr at p1 hk0
        clear XN hrK
        go_wp2_with fail
        refine hlv.out.mono ?_
        rintro e w1 ⟨rfl, rfl⟩
        simp only [hk, Option.isNone_some]
        have fz := hdr_fz H1.out
        go_upto_region 8 with (fail)
        refine wp_world ?_
        intro W2 hW2
        have H2 : Hid (Hdr W2 b { hr with root := some c }) := by subst hW2; exact hdr_set_root H1.out (some c)
        have K2 : Hid (Keep (fun c _ => c = b) W1 W2) := by subst hW2; exact (Keep.refl _ _).set _ _ _ fun _ => rfl
        have X2 : Hid (W2.heap[q]? = some (.cells (E.enc (Option.getD (some y) hr.emp)).toArray 161 (0, 0))) := by exact blk_keep X1.out K2.out fun o e => by omega
        clear hW2 c2 fz cn2 hlv p1 p2 hk0
        have c3 := hdr_cnt H2.out
        have fz := hdr_fz H2.out
        go_upto_region 9 with (fail)
        refine wp_world ?_
        intro W3 hW3
        have H3 : Hid (Hdr W3 b { hr with root := some c, cnt := hr.cnt - 1 }) := by subst hW3; exact hdr_set_cnt H2.out _
        have K3 : Hid (Keep (fun c _ => c = b) W2 W3) := by subst hW3; exact (Keep.refl _ _).set _ _ _ fun _ => rfl
        have X3 : Hid (W3.heap[q]? = some (.cells (E.enc (Option.getD (some y) hr.emp)).toArray 161 (0, 0))) := by exact blk_keep X2.out K3.out fun o e => by omega
        clear hW3 c3 fz
        have c3 := hdr_cnt H3.out
        obtain ⟨x0, x1, xf⟩ := blk2 X3.out
        go_wp2_with fail
        go_ret2
        have T := HT.out
        have KA : Keep (fun c _ => c = b) W' W3 := ((K1.out.mono fun _ _ _ h => h.elim : Keep (fun c _ => c = b) W' W1).trans K2.out fun _ _ _ h => h).trans K3.out fun _ _ _ h => h
        have ts := ((ST.out.t (fun c _ => c = b)).post KA (fun _ _ _ h => h) fun m r hr c o hf => hap'.out m r hr c o hf)
        subst hF
        have ts2 := TStep.drop T.mem ts (n := n) (G := Fc) (by simp) (fun m => by simp only [List.mem_cons]; exact ⟨fun hm => ⟨.inr hm, fun e => hnc (e ▸ hm)⟩, fun ⟨h1, h2⟩ => h1.resolve_left h2⟩)
        refine ⟨{ hr with root := some c, cnt := hr.cnt - 1 }, upd H' n none, L', Fc, some (h, kc), some y, rfl, ts2, ⟨H3.out, ts2.mem, ndc, hroot, ?_, ?_, T.par.cv, T.par.icv, ?_, T.par.odd, T.par.pos, T.par.hb⟩, ?_, rfl, rfl, rfl⟩
        · have h1 := HLEN.out
          have h2 := HCN.out
          simp only [its]
          rw [hfl] at h1
          show hr.cnt - 1 = _
          omega
        · have := DL.out.sorted T.srt
          rw [hfl] at this
          exact this
        · rcases T.par.one with h | ⟨_, h, _⟩
          · exact .inl h
          · rw [HR.out] at h; cases h
        · have hd := DL.out
          rw [hfl] at hd
          exact hd
end Go.Proofs.Ytckplcmieelmpaa.W

namespace Go.Proofs.Ytckplcmieelmpaa.W
open Go.RowKit Go.Wb

theorem rebRec_ok : RebRecOK := fun w b hr S n a d r ra rb L La Lb N1 N2 i i0 m mx c P h => by
  by_cases h1 : ra.items.length + rb.items.length < mx
  · exact reb_merge P h h1
  · by_cases h2 : rb.items.length < ra.items.length
    · exact reb_right P h (by omega) h2
    · exact reb_left P h (by omega) h2

/-- MAP.DELETE: what it leaves. -/
theorem delete_any {w : World} {b : Nat} {hr : HRec} {H : Store It} {L : Nat → Lay} {F : List Nat} {mn mx : Nat} {s : Sh} (T : TreeAt w b hr H L F mn mx s) (big : (its s).length ≤ 3000000000000000000) (k : Ky) :
    Calls Try.prog 83 #[ptr b, kv k] w (DelT w b hr H L F mn mx s k) := by
  cases s with
  | none => exact del_none T k
  | some p => exact del_some (reb_of rebRec_ok) T big k
end Go.Proofs.Ytckplcmieelmpaa.W

namespace Go.Proofs.Ytckplcmieelmpaa.W
open Go.RowKit Go.Wb

theorem accs_off {B : Nat} {w w' : World} {l : List Rw} (h : Accs B w l) {S : Nat → Nat → Prop} (hk : Keep S w w') (hS : ∀ (i : Nat) (r : Rw), l[i]? = some r → ∀ b o, rowFp r.a (r.cap * r.s) b o → ¬ S b o) : Accs B w' l :=
  ⟨fun i r hi => ⟨(h.acc i r hi).row.keep' hk (hS i r hi), (h.acc i r hi).len, (h.acc i r hi).le, (h.acc i r hi).own⟩, h.apart⟩
theorem NewTree.grow {w0 w w' : World} {b : Nat} {hr : HRec} {H : Store It} {L : Nat → Lay} {F : List Nat} {mn mx : Nat} {s : Sh} (N : NewTree w0 w b hr H L F mn mx s) {B : Nat} {l : List Rw} (A : Accs B w l) (hB : w0.heap.size ≤ B) (i : Nat) {ty z n cap m cap' : Nat} {a a' : Option Addr} {cs cs2 : List Value} (hi : l[i]? = some ⟨ty, z, a, n, cap, cs⟩) (hty : ¬ treeTy ty) (hg : Grew w w' ty z a a' n m cap cap' cs2) : NewTree w0 w' b hr H L F mn mx s := by
  have hA := A.acc i _ hi
  refine N.off hg.keep (fun x o ⟨x1, y1, e1, e2, e3, e4⟩ => ?_) fun x o hx ⟨x1, y1, e1, e2, e3, e4⟩ => ?_
  · have e3' : y1 ≤ o := Nat.le_trans (Nat.le_add_right _ _) e3
    exact Nat.le_trans hB (hA.own x o ⟨x1, y1, e1, e2, e3', e4⟩)
  · have e3' : y1 ≤ o := Nat.le_trans (Nat.le_add_right _ _) e3
    obtain ⟨arr, ha⟩ := hA.row.block ⟨_, (show rowFp a (cap * z) x o from ⟨x1, y1, e1, e2, e3', e4⟩)⟩
    exact ⟨arr, ty, ha, hty⟩

/-- Without a key. -/
def delK (l : List It) (k : Ky) : List It := l.filter fun x => klt (ky x) k || klt k (ky x)
theorem delK_all {l : List It} {k : Ky} (h : ∀ x ∈ l, klt (ky x) k = true ∨ klt k (ky x) = true) : delK l k = l := List.filter_eq_self.2 fun x hx => by simpa using h x hx
theorem del_eq {l l' : List It} {k : Ky} {p : Option It} (h : Del ilt l (mkIt k) l' p) : l' = delK l k ∧ p = findK l k := by
  cases p with
  | none =>
    obtain ⟨rfl, A, B, rfl, hA, hB⟩ := h
    refine ⟨(delK_all fun x hx => ?_).symm, ?_⟩
    · rcases List.mem_append.1 hx with hx | hx
      · exact .inl (hA x hx)
      · exact .inr (hB x hx)
    · rw [findK_append, findK_less (k := k) hA, findK_more (k := k) hB]; rfl
  | some p =>
    obtain ⟨A, B, rfl, rfl, h1, h2, hA, hB⟩ := h
    have e1 : delK A k = A := delK_all fun x hx => .inl (hA x hx)
    have e2 : delK B k = B := delK_all fun x hx => .inr (hB x hx)
    have e3 : klt (ky p) k = false := h1
    have e4 : klt k (ky p) = false := h2
    refine ⟨?_, (findK_mid (k := k) hA e3 e4).symm⟩
    unfold delK at *
    rw [List.filter_append, List.filter_cons, e1, e2]
    simp [e3, e4]
end Go.Proofs.Ytckplcmieelmpaa.W

namespace Go.Proofs.Ytckplcmieelmpaa.W
open Go.RowKit Go.Wb

theorem elemInt : Elem Try.prog 3 1 8 := ⟨by kernel_rfl, by kernel_rfl, by kernel_rfl⟩
/-- Two lists that grow together, since w. -/
structure Twin (B : Nat) (w wr : World) (tyA sA : Nat) (a5 a7 : Option Addr) (i c5 c7 : Nat) (cs : List Value) (bs : List Bool) : Prop where
  keep : Keep Nothing w wr
  rows : Accs B wr [⟨tyA, sA, a5, i, c5, cs⟩, ⟨4, 1, a7, i, c7, bs.map .bool⟩]
  hB : B ≤ w.heap.size

variable {B : Nat} {w wr : World} {tyA sA : Nat} {a5 a7 : Option Addr} {i c5 c7 : Nat} {cs : List Value} {bs : List Bool}
theorem Twin.start (w : World) (tyA sA : Nat) : Twin w.heap.size w w tyA sA none none 0 0 0 [] [] :=
  ⟨Keep.refl _ _, ((Accs.nil w.heap.size w).addNil (Nat.le_refl _) tyA sA).addNil (Nat.le_refl _) 4 1, Nat.le_refl _⟩
theorem Twin.quiet (h : Twin B w wr tyA sA a5 a7 i c5 c7 cs bs) {w' : World} (hk : Keep Nothing wr w') : Twin B w w' tyA sA a5 a7 i c5 c7 cs bs := ⟨h.keep.trans hk fun _ _ _ h => h, h.rows.quiet hk, h.hB⟩
/-- Behind the first append, then the second one. -/
theorem Twin.one (h : Twin B w wr tyA sA a5 a7 i c5 c7 cs bs) (hw : B = w.heap.size) (o : Obj) {W : World} {a' : Option Addr} {c' : Nat} {news : List Value} (hg : Grew (wr.alloc o) W tyA sA a5 a' i 1 c5 c' (cs ++ news)) (hl : news.length = 1 * sA) :
    Keep Nothing w W ∧ Accs B W [⟨tyA, sA, a', i + 1, c', cs ++ news⟩, ⟨4, 1, a7, i, c7, bs.map .bool⟩] := by
  have hs := h.keep.size
  obtain ⟨g8, k8⟩ := (h.rows.quiet (Keep.alloc _ _ o)).grow (by simp; omega) 0 rfl hg hl
  exact ⟨(h.keep.al _).trans k8 fun c o hc h => absurd h (by omega), by simpa [List.set] using g8⟩
theorem Twin.two {W W' : World} {a' a2 : Option Addr} {n c' c2 : Nat} {cs2 : List Value} (hB : B = w.heap.size) (h : Keep Nothing w W ∧ Accs B W [⟨tyA, sA, a', n, c', cs2⟩, ⟨4, 1, a7, i, c7, bs.map .bool⟩]) (o : Obj) {f : Bool} (hg : Grew (W.alloc o) W' 4 1 a7 a2 i 1 c7 c2 (bs.map .bool ++ [.bool f])) (hn : n = i + 1) :
    Twin B w W' tyA sA a' a2 (i + 1) c' c2 cs2 (bs ++ [f]) := by
  subst hn
  have hs := h.1.size
  obtain ⟨g8, k8⟩ := (h.2.quiet (Keep.alloc _ _ o)).grow (by simp; omega) 1 rfl hg rfl
  exact ⟨(h.1.al _).trans k8 fun c o hc h => absurd h (by omega), by simpa [List.set] using g8, by omega⟩

/-- The value that is found. -/
def foundV (l : List It) (k : Ky) : Int := ((findK l k).getD zeroHdr.emp).2
def WGetPost (w : World) (vs : List Int) (oks : List Bool) (e : Ending) (w' : World) : Prop :=
  ∃ a c a2 c2, e = .returned (.tuple #[.slice a vs.length c, .slice a2 oks.length c2]) ∧ Given w' a (vs.map (Value.int .i64)) ∧ Given w' a2 (oks.map .bool) ∧ Keep Nothing w w'

set_option maxRecDepth 100000 in
set_option maxHeartbeats 8000000 in
theorem wget_any {w : World} {a : Option Addr} {cap : Nat} {l : List It} (hg : Given w a (OE.all l)) (hl : l.length ≤ 4000000000000) (d : Int) (h1 : 2 ≤ d) (h2 : d ≤ 128) {ka : Option Addr} {kcap : Nat} {ks : List Ky} (hk : Given w ka (ks.map kv)) (hkl : ks.length ≤ 4000000000000) :
    Calls Try.prog 38 #[.int .i64 d, .slice a l.length cap, .slice ka ks.length kcap] w (WGetPost w (ks.map (foundV (sortK l))) (ks.map fun k => (findK (sortK l) k).isSome)) := by
  have hgr := Lib.hid (grow_any (cap := cap) hg hl d h1 h2)
  have HKS := Lib.hid hk
  have HKL := Lib.hid hkl
  clear hg hl hk
  go_enter Try.func38, Try.ntmps38
  go_wp2_with fail
  refine hgr.out.mono ?_
  rintro e w1 ⟨b, hr, H, L, F, s, rfl, hN, hits, hemp⟩
  have HN := Lib.hid hN
  have HI := Lib.hid hits
  have HEM := Lib.hid hemp
  clear hgr hN hits hemp
  unfold ptr
  go_wp2_with fail
  go_loopg [9, 10, 20] (ks.length + 1) (fun m v9 v10 v20 wr => ∃ (i : Nat) (a5 a7 : Option Addr) (c5 c7 : Nat), v9 = .slice a5 i c5 ∧ v10 = .slice a7 i c7 ∧ v20 = .int .i64 i ∧ i ≤ ks.length ∧ i + m = ks.length + 1 ∧ Twin w1.heap.size w1 wr 3 1 a5 a7 i c5 c7 ((ks.take i).map fun k => .int .i64 (foundV (sortK l) k)) ((ks.take i).map fun k => (findK (sortK l) k).isSome))
  case atStart => exact ⟨0, none, none, 0, 0, rfl, rfl, rfl, by omega, by omega, Twin.start w1 _ _⟩
  case round =>
    obtain ⟨i, a5, a7, c5, c7, rfl, rfl, rfl, hil, hik, hT⟩ := hrel
    have HT := Lib.hid hT
    clear hT
    by_cases hlt : i < ks.length
    · obtain ⟨kb, ko, hka, ck⟩ := ((HKS.out.keep HN.out.keep).keep HT.out.keep).cell (i := i) (by simpa using hlt)
      subst hka
      obtain ⟨t, ht⟩ : ∃ t, ks[i] = t := ⟨_, rfl⟩
      rw [show (ks.map kv)[i]'(by simpa using hlt) = kv t by simp [ht]] at ck
      have hx : ks[i]? = some t := by rw [← ht]; exact List.getElem?_eq_getElem hlt
      have HX := Lib.hid hx
      have hget := Lib.hid (mapGet_any (HN.out.tree.keep HT.out.keep) t)
      rw [HI.out, HEM.out] at hget
      clear hx ht
      obtain ⟨vv0, hv0⟩ : ∃ z : Int, z = foundV (sortK l) t := ⟨_, rfl⟩
      obtain ⟨ff, hff⟩ : ∃ f : Bool, f = (findK (sortK l) t).isSome := ⟨_, rfl⟩
      have HV := Lib.hid hv0
      have HF := Lib.hid hff
      have hget2 : Calls Try.prog 82 #[ptr b, kv t] wr fun e w' => e = .returned (.tuple #[.int .i64 vv0, .bool ff]) ∧ Keep Nothing wr w' := by
        rw [hv0, hff]; exact hget.out
      have HG2 := Lib.hid hget2
      clear hget hget2 hv0 hff
      unfold ptr kv at *
      go_upto_region 7 with (fail)
      go_upto_region 8 with (refine HG2.out.mono ?_; rintro e w2 ⟨rfl, hK2⟩; have HT2 := Lib.hid (HT.out.quiet hK2); clear hK2)
      have hB := HT2.out.hB
      have hro := ((HT2.out.rows.quiet (Keep.alloc Nothing w2 (.cells [Value.int .i64 vv0].toArray 3))).acc 0 _ rfl).row
      have hln := ((HT2.out.rows.quiet (Keep.alloc Nothing w2 (.cells [Value.int .i64 vv0].toArray 3))).acc 0 _ rfl).len
      have hnew := new_given w2 [Value.int .i64 vv0] 3
      have hone : ∀ u ∈ [Value.int .i64 vv0], u.oneCell' = true := by intro u hu; simp at hu; subst hu; rfl
      have hone2 : ∀ u ∈ [Value.bool ff], u.oneCell' = true := by intro u hu; simp at hu; subst hu; rfl
      have h5 : i ≤ c5 := (HT2.out.rows.acc 0 _ rfl).le
      have h7 : i ≤ c7 := (HT2.out.rows.acc 1 _ rfl).le
      have hkb := HKL.out
      clear ck HT
      go_wp2_with (first
        | (at_builtin; refine wpList_append_src rfl _ _ _ rfl 3 1 8 Try.underlying32 elemInt a5 i c5 _ (by rfl) hro hln (some ⟨w2.heap.size, 0, none⟩) 1 1 [.int .i64 vv0] (by rfl) (by omega) rfl hnew hone h5 (by simp only [maxLen]; omega) (by omega) ?_; intro a11 c11 W8 hg; have F8 := Lib.hid (HT2.out.one rfl _ hg rfl); have hro8 := ((F8.out.2.quiet (Keep.alloc Nothing W8 (.cells [Value.bool ff].toArray 4))).acc 1 _ rfl).row; have hln8 := ((F8.out.2.quiet (Keep.alloc Nothing W8 (.cells [Value.bool ff].toArray 4))).acc 1 _ rfl).len; have hnew8 := new_given W8 [Value.bool ff] 4; clear hg)
        | (at_builtin; refine wpList_append_src rfl _ _ _ rfl 4 1 1 Try.underlying51 elemBool a7 i c7 _ (by rfl) hro8 hln8 (some ⟨W8.heap.size, 0, none⟩) 1 1 [.bool ff] (by rfl) (by omega) rfl hnew8 hone2 h7 (by simp only [maxLen]; omega) (by omega) ?_; intro a12 c12 W9 hg; have F9 := Lib.hid (Twin.two rfl F8.out _ hg rfl); clear hg))
      go_roundg (ks.length - i)
      case measure => omega
      case rel =>
        refine ⟨i + 1, a11, a12, c11, c12, rfl, rfl, by go_num, by omega, by omega, ?_⟩
        have := F9.out
        rw [HV.out, HF.out] at this
        rw [List.take_add_one, HX.out]
        simpa using this
    · have hi : i = ks.length := by omega
      subst hi
      go_wp2_with fail
      go_ret2
      have hT := HT.out
      rw [List.take_of_length_le (Nat.le_refl _)] at hT
      refine ⟨a5, c5, a7, c7, by simp, ?_, ?_, HN.out.keep.trans hT.keep fun _ _ _ h => h⟩
      · rw [List.map_map]
        exact (hT.rows.acc 0 _ rfl).row.reads
      · exact (hT.rows.acc 1 _ rfl).row.reads
end Go.Proofs.Ytckplcmieelmpaa.W

namespace Go.Proofs.Ytckplcmieelmpaa.W
open Go.RowKit Go.Wb

/-- Keys are deleted in turn: the values, whether they were there, what is left. -/
def stepD (st : List Int × List Bool × List It) (k : Ky) : List Int × List Bool × List It := (st.1 ++ [foundV st.2.2 k], st.2.1 ++ [(findK st.2.2 k).isSome], delK st.2.2 k)
def delAll (l : List It) (ks : List Ky) : List Int × List Bool × List It := ks.foldl stepD ([], [], l)
theorem delAll_snoc (l : List It) (ks : List Ky) {i : Nat} {k : Ky} (hk : ks[i]? = some k) : delAll l (ks.take (i + 1)) = stepD (delAll l (ks.take i)) k := by
  unfold delAll
  rw [List.take_add_one, hk, Option.toList_some, List.foldl_append]
  rfl
theorem delK_len (l : List It) (k : Ky) : (delK l k).length ≤ l.length := List.length_filter_le _ _
theorem delAll_len (l : List It) (ks : List Ky) : (delAll l ks).2.2.length ≤ l.length := by
  have : ∀ (ks : List Ky) (st : List Int × List Bool × List It), (ks.foldl stepD st).2.2.length ≤ st.2.2.length := by
    intro ks
    induction ks with
    | nil => intro st; exact Nat.le_refl _
    | cons k ks ih => intro st; exact Nat.le_trans (ih _) (delK_len _ _)
  exact this ks ([], [], l)
def WDeletePost (w : World) (st : List Int × List Bool × List It) (e : Ending) (w' : World) : Prop :=
  ∃ a n c a2 n2 c2 a3 c3, e = .returned (.tuple #[.slice a n c, .slice a2 n2 c2, .slice a3 st.2.2.length c3]) ∧ n = st.1.length ∧ n2 = st.2.1.length ∧ Given w' a (st.1.map (Value.int .i64)) ∧ Given w' a2 (st.2.1.map .bool) ∧ Given w' a3 (OE.all st.2.2) ∧ Keep Nothing w w'

theorem int_un : ¬ treeTy 3 := by unfold treeTy; decide
theorem bool_un : ¬ treeTy 4 := by unfold treeTy; decide

/-- The state of the loop. -/
structure DelLoop (w : World) (B : Nat) (wr : World) (b : Nat) (hr : HRec) (H : Store It) (L : Nat → Lay) (F : List Nat) (mn mx : Nat) (s : Sh) (a5 a7 : Option Addr) (i c5 c7 : Nat) (st : List Int × List Bool × List It) : Prop where
  tree : NewTree w wr b hr H L F mn mx s
  rows : Accs B wr [⟨3, 1, a5, i, c5, st.1.map (Value.int .i64)⟩, ⟨4, 1, a7, i, c7, st.2.1.map .bool⟩]
  its_ : its s = st.2.2
  emp : hr.emp = zeroHdr.emp
  hB : w.heap.size ≤ B
  hB2 : B ≤ wr.heap.size

variable {w : World} {B : Nat} {wr : World} {b : Nat} {hr : HRec} {H : Store It} {L : Nat → Lay} {F : List Nat} {mn mx : Nat} {s : Sh} {a5 a7 : Option Addr} {i c5 c7 : Nat} {st : List Int × List Bool × List It}
theorem DelLoop.delete (h : DelLoop w B wr b hr H L F mn mx s a5 a7 i c5 c7 st) {t : Ky} {e : Ending} {w2 : World} (hd : DelT wr b hr H L F mn mx s t e w2) :
    e = .returned (.tuple #[.int .i64 (foundV st.2.2 t), .bool (findK st.2.2 t).isSome]) ∧ ∃ hr' H' L' F' s', NewTree w w2 b hr' H' L' F' mn mx s' ∧ Accs B w2 [⟨3, 1, a5, i, c5, st.1.map (Value.int .i64)⟩, ⟨4, 1, a7, i, c7, st.2.1.map .bool⟩] ∧ its s' = delK st.2.2 t ∧ hr'.emp = zeroHdr.emp ∧ B ≤ w2.heap.size := by
  obtain ⟨hr', H', L', F', s', p, rfl, ts, T, hdel, _, _, he⟩ := hd
  obtain ⟨h1, h2⟩ := del_eq hdel
  rw [h.its_] at h1 h2
  subst h2
  refine ⟨by unfold vv foundV; rw [h.emp], hr', H', L', F', s', h.tree.step ts T, accs_off h.rows ts.keep fun j r hj x o hf => ?_, h1, he.trans h.emp, Nat.le_trans h.hB2 ts.keep.size⟩
  have hrow := (h.rows.acc j r hj).row
  refine row_apart h.tree.tree hrow ?_ x o hf
  cases j with
  | zero => cases hj; exact int_un
  | succ j => cases j with
    | zero => cases hj; exact bool_un
    | succ j => simp at hj

/-- Behind the first append, and behind both. -/
theorem DelLoop.one {w2 W : World} {hr : HRec} {H : Store It} {L : Nat → Lay} {F : List Nat} {s : Sh} (N : NewTree w w2 b hr H L F mn mx s) (A : Accs B w2 [⟨3, 1, a5, i, c5, st.1.map (Value.int .i64)⟩, ⟨4, 1, a7, i, c7, st.2.1.map .bool⟩]) (hB : w.heap.size ≤ B) (hB2 : B ≤ w2.heap.size) (o : Obj) {v : Int} {a' : Option Addr} {c' : Nat} (hg : Grew (w2.alloc o) W 3 1 a5 a' i 1 c5 c' (st.1.map (Value.int .i64) ++ [.int .i64 v])) :
    NewTree w W b hr H L F mn mx s ∧ Accs B W [⟨3, 1, a', i + 1, c', (st.1 ++ [v]).map (Value.int .i64)⟩, ⟨4, 1, a7, i, c7, st.2.1.map .bool⟩] ∧ B ≤ W.heap.size := by
  have A1 := A.quiet (Keep.alloc _ _ o)
  have N1 := N.calm (Keep.alloc _ _ o)
  have hs : B ≤ (w2.alloc o).heap.size := by rw [World.size_alloc]; omega
  obtain ⟨g8, k8⟩ := A1.grow hs 0 rfl hg rfl
  refine ⟨N1.grow A1 hB 0 rfl int_un hg, ?_, Nat.le_trans hs k8.size⟩
  simpa [List.set] using g8
theorem DelLoop.two {W W' : World} {hr : HRec} {H : Store It} {L : Nat → Lay} {F : List Nat} {s : Sh} {n : Nat} {a' : Option Addr} {c' : Nat} {vs : List Int} (h : NewTree w W b hr H L F mn mx s ∧ Accs B W [⟨3, 1, a', n, c', vs.map (Value.int .i64)⟩, ⟨4, 1, a7, i, c7, st.2.1.map .bool⟩] ∧ B ≤ W.heap.size) (hB : w.heap.size ≤ B) (o : Obj) {f : Bool} {a2 : Option Addr} {c2 : Nat} (hg : Grew (W.alloc o) W' 4 1 a7 a2 i 1 c7 c2 (st.2.1.map .bool ++ [.bool f])) :
    NewTree w W' b hr H L F mn mx s ∧ Accs B W' [⟨3, 1, a', n, c', vs.map (Value.int .i64)⟩, ⟨4, 1, a2, i + 1, c2, (st.2.1 ++ [f]).map .bool⟩] ∧ B ≤ W'.heap.size := by
  obtain ⟨N, A, hB2⟩ := h
  have A1 := A.quiet (Keep.alloc _ _ o)
  have N1 := N.calm (Keep.alloc _ _ o)
  have hs : B ≤ (W.alloc o).heap.size := by rw [World.size_alloc]; omega
  obtain ⟨g8, k8⟩ := A1.grow hs 1 rfl hg rfl
  refine ⟨N1.grow A1 hB 1 rfl bool_un hg, ?_, Nat.le_trans hs k8.size⟩
  simpa [List.set] using g8

set_option maxRecDepth 100000 in
set_option maxHeartbeats 8000000 in
theorem wdelete_any {w : World} {a : Option Addr} {cap : Nat} {l : List It} (hg : Given w a (OE.all l)) (hl : l.length ≤ 4000000000000) (d : Int) (h1 : 2 ≤ d) (h2 : d ≤ 128) {ka : Option Addr} {kcap : Nat} {ks : List Ky} (hk : Given w ka (ks.map kv)) (hkl : ks.length ≤ 4000000000000) :
    Calls Try.prog 39 #[.int .i64 d, .slice a l.length cap, .slice ka ks.length kcap] w (WDeletePost w (delAll (sortK l) ks)) := by
  have hgr := Lib.hid (grow_any (cap := cap) hg hl d h1 h2)
  have HKS := Lib.hid hk
  have HKL := Lib.hid hkl
  have HLL := Lib.hid hl
  clear hg hl hk
  go_enter Try.func39, Try.ntmps39
  go_wp2_with fail
  refine hgr.out.mono ?_
  rintro e w1 ⟨b, hr, H, L, F, s, rfl, hN, hits, hemp⟩
  have HN := Lib.hid hN
  have HI := Lib.hid hits
  have HEM := Lib.hid hemp
  clear hgr hN hits hemp
  unfold ptr
  go_wp2_with fail
  go_loopg [10, 11, 21] (ks.length + 1) (fun m v9 v10 v20 wr => ∃ (i : Nat) (a5 a7 : Option Addr) (c5 c7 : Nat) (hr : HRec) (H : Store It) (L : Nat → Lay) (F : List Nat) (s : Sh), v9 = .slice a5 i c5 ∧ v10 = .slice a7 i c7 ∧ v20 = .int .i64 i ∧ i ≤ ks.length ∧ i + m = ks.length + 1 ∧ DelLoop w w1.heap.size wr b hr H L F (d - 1).toNat (2 * d - 1).toNat s a5 a7 i c5 c7 (delAll (sortK l) (ks.take i)))
  case atStart => exact ⟨0, none, none, 0, 0, hr, H, L, F, s, rfl, rfl, rfl, by omega, by omega, HN.out, ((Accs.nil w1.heap.size w1).addNil (Nat.le_refl _) 3 1).addNil (Nat.le_refl _) 4 1, HI.out, HEM.out, HN.out.keep.size, Nat.le_refl _⟩
  case round =>
    obtain ⟨i, a5, a7, c5, c7, hr2, H2, L2, F2, s2, rfl, rfl, rfl, hil, hik, hT⟩ := hrel
    have HT := Lib.hid hT
    clear hT
    by_cases hlt : i < ks.length
    · obtain ⟨kb, ko, hka, ck⟩ := (HKS.out.keep HT.out.tree.keep).cell (i := i) (by simpa using hlt)
      subst hka
      obtain ⟨t, ht⟩ : ∃ t, ks[i] = t := ⟨_, rfl⟩
      rw [show (ks.map kv)[i]'(by simpa using hlt) = kv t by simp [ht]] at ck
      have hx : ks[i]? = some t := by rw [← ht]; exact List.getElem?_eq_getElem hlt
      have HX := Lib.hid hx
      have hsl : (its s2).length ≤ 3000000000000000000 := by
        have h5 := delAll_len (sortK l) (ks.take i)
        have h6 := sortK_len l
        have h7 := HLL.out
        rw [HT.out.its_]
        omega
      have hdel := Lib.hid (delete_any HT.out.tree.tree hsl t)
      clear hx ht hsl
      obtain ⟨vv0, hv0⟩ : ∃ z : Int, z = foundV (delAll (sortK l) (ks.take i)).2.2 t := ⟨_, rfl⟩
      obtain ⟨ff, hff⟩ : ∃ f : Bool, f = (findK (delAll (sortK l) (ks.take i)).2.2 t).isSome := ⟨_, rfl⟩
      have HV := Lib.hid hv0
      have HF := Lib.hid hff
      have hdel2 : Calls Try.prog 83 #[ptr b, kv t] wr fun e w2 => e = .returned (.tuple #[.int .i64 vv0, .bool ff]) ∧ ∃ hr' H' L' F' s', NewTree w w2 b hr' H' L' F' (d - 1).toNat (2 * d - 1).toNat s' ∧ Accs w1.heap.size w2 [⟨3, 1, a5, i, c5, (delAll (sortK l) (ks.take i)).1.map (Value.int .i64)⟩, ⟨4, 1, a7, i, c7, (delAll (sortK l) (ks.take i)).2.1.map .bool⟩] ∧ its s' = delK (delAll (sortK l) (ks.take i)).2.2 t ∧ hr'.emp = zeroHdr.emp ∧ w1.heap.size ≤ w2.heap.size := by
        rw [hv0, hff]; exact hdel.out.mono fun e w2 h => HT.out.delete h
      have HG2 := Lib.hid hdel2
      have hB := HT.out.hB
      clear hdel hdel2 hv0 hff
      unfold ptr kv at *
      go_upto_region 7 with (fail)
      go_upto_region 8 with (go_at_call 83; refine HG2.out.mono ?_; rintro e w2 ⟨rfl, hr3, H3, L3, F3, s3, hN3, hA3, hI3, hE3, hB3⟩; have N3 := Lib.hid hN3; have A3 := Lib.hid hA3; have I3 := Lib.hid hI3; have E3 := Lib.hid hE3; clear hN3 hA3 hI3 hE3)
      have hro := ((A3.out.quiet (Keep.alloc Nothing w2 (.cells [Value.int .i64 vv0].toArray 3))).acc 0 _ rfl).row
      have hln := ((A3.out.quiet (Keep.alloc Nothing w2 (.cells [Value.int .i64 vv0].toArray 3))).acc 0 _ rfl).len
      have hnew := new_given w2 [Value.int .i64 vv0] 3
      have hone : ∀ u ∈ [Value.int .i64 vv0], u.oneCell' = true := by intro u hu; simp at hu; subst hu; rfl
      have hone2 : ∀ u ∈ [Value.bool ff], u.oneCell' = true := by intro u hu; simp at hu; subst hu; rfl
      have h5 : i ≤ c5 := (A3.out.acc 0 _ rfl).le
      have h7 : i ≤ c7 := (A3.out.acc 1 _ rfl).le
      have hkb := HKL.out
      clear ck HT
      go_wp2_with (first
        | (at_builtin; refine wpList_append_src rfl _ _ _ rfl 3 1 8 Try.underlying32 elemInt a5 i c5 _ (by rfl) hro hln (some ⟨w2.heap.size, 0, none⟩) 1 1 [.int .i64 vv0] (by rfl) (by omega) rfl hnew hone h5 (by simp only [maxLen]; omega) (by omega) ?_; intro a11 c11 W8 hg; have F8 := Lib.hid (DelLoop.one N3.out A3.out hB hB3 _ hg); have hro8 := ((F8.out.2.1.quiet (Keep.alloc Nothing W8 (.cells [Value.bool ff].toArray 4))).acc 1 _ rfl).row; have hln8 := ((F8.out.2.1.quiet (Keep.alloc Nothing W8 (.cells [Value.bool ff].toArray 4))).acc 1 _ rfl).len; have hnew8 := new_given W8 [Value.bool ff] 4; clear hg)
        | (at_builtin; refine wpList_append_src rfl _ _ _ rfl 4 1 1 Try.underlying51 elemBool a7 i c7 _ (by rfl) hro8 hln8 (some ⟨W8.heap.size, 0, none⟩) 1 1 [.bool ff] (by rfl) (by omega) rfl hnew8 hone2 h7 (by simp only [maxLen]; omega) (by omega) ?_; intro a12 c12 W9 hg; have F9 := Lib.hid (DelLoop.two F8.out hB _ hg); clear hg))
      go_roundg (ks.length - i)
      case measure => omega
      case rel =>
        refine ⟨i + 1, a11, a12, c11, c12, hr3, H3, L3, F3, s3, rfl, rfl, by go_num, by omega, by omega, ?_⟩
        have h9 := F9.out
        rw [HV.out, HF.out] at h9
        rw [delAll_snoc _ _ HX.out]
        exact ⟨h9.1, h9.2.1, I3.out, E3.out, hB, h9.2.2⟩
    · have hi : i = ks.length := by omega
      subst hi
      have hT := HT.out
      rw [List.take_of_length_le (Nat.le_refl _)] at hT
      have HT2 := Lib.hid hT
      have hall := Lib.hid (all_any hT.tree.tree (by rw [hT.its_]; have h5 := delAll_len (sortK l) ks; have h6 := sortK_len l; have h7 := HLL.out; omega))
      clear hT
      unfold ptr at hall
      go_wp2_with fail
      refine hall.out.mono ?_
      rintro e W9 ⟨a9, c9, rfl, hA9, hK9⟩
      have HA9 := Lib.hid hA9
      have HK9 := Lib.hid hK9
      clear hall hA9 hK9
      go_wp2_with fail
      go_ret3
      have hT := HT2.out
      have h6 := (hT.rows.acc 0 _ rfl)
      have h8 := (hT.rows.acc 1 _ rfl)
      refine ⟨a5, ks.length, c5, a7, ks.length, c7, a9, c9, by rw [← hT.its_]; first | rfl | simp, by have := h6.len; simpa using this.symm, by have := h8.len; simpa using this.symm, h6.row.reads.keep HK9.out, h8.row.reads.keep HK9.out, by rw [← hT.its_]; exact HA9.out.row.reads, hT.tree.keep.trans HK9.out fun _ _ _ h => h⟩
end Go.Proofs.Ytckplcmieelmpaa.W

namespace Go.Proofs.Ytckplcmieelmpaa.W
open Go.RowKit Go.Wb

theorem keep_is (key : Ky) (x : It) : (klt (ky x) key || klt key (ky x)) = keepB key x := by
  unfold keepB eqB klt
  cases he : (ByteArray.toList (ky x) == ByteArray.toList key) with
  | true =>
    have h := eq_of_beq he
    rw [h, bytesLess_irr]; rfl
  | false =>
    have h : ByteArray.toList (ky x) ≠ ByteArray.toList key := fun h => by rw [h] at he; simp at he
    cases h1 : Op.bytesLess (ByteArray.toList (ky x)) (ByteArray.toList key) with
    | true => rfl
    | false =>
      cases h2 : Op.bytesLess (ByteArray.toList key) (ByteArray.toList (ky x)) with
      | true => rfl
      | false => exact absurd (bytesLess_tri _ _ h1 h2) h
theorem delK_filter (l : List It) (key : Ky) : delK l key = l.filter (keepB key) := List.filter_congr fun x _ => keep_is key x
theorem delK_twice (l : List It) (key : Ky) : delK (delK l key) key = delK l key := by
  rw [delK_filter, delK_filter, List.filter_filter]
  congr 1
  funext x
  simp
theorem find_delK (l : List It) (key : Ky) : findK (delK l key) key = none := by
  refine List.find?_eq_none.2 fun x hx => ?_
  have h := (List.mem_filter.1 hx).2
  cases h1 : klt (ky x) key <;> cases h2 : klt key (ky x) <;> simp_all
theorem delAll_two (l : List It) (key : Ky) : (delAll l [key, key]).1 = [foundV l key, foundV (delK l key) key] ∧ (delAll l [key, key]).2.1 = [(findK l key).isSome, false] ∧ (delAll l [key, key]).2.2 = l.filter (keepB key) := by
  refine ⟨rfl, ?_, ?_⟩
  · show [(findK l key).isSome, (findK (delK l key) key).isSome] = _
    rw [find_delK]; rfl
  · show delK (delK l key) key = _
    rw [delK_twice, delK_filter]
theorem sortK_hasE {l : List It} {key : Ky} (h : ∃ x ∈ l, eqB x key = true) : ∃ z ∈ sortK l, eqB z key = true := by
  have key' : ∀ (xs acc : List It), (∃ z ∈ acc, (ky z).toList = key.toList) ∨ (∃ x ∈ xs, (ky x).toList = key.toList) → ∃ z ∈ xs.foldl (putF ilt) acc, (ky z).toList = key.toList := by
    intro xs
    induction xs with
    | nil => intro acc h; exact h.resolve_right (by simp)
    | cons x xs ih =>
      intro acc h
      refine ih _ ?_
      have put : ∀ z, z ∈ acc ∨ z = x → ∃ z' ∈ putF ilt acc x, (ky z').toList = (ky z).toList := fun z hz => by
        obtain ⟨z', h1, h2, h3⟩ := putF_has iord (l := acc) (x := x) (y := z) hz
        exact ⟨z', h1, bytesLess_tri _ _ h2 h3⟩
      rcases h with ⟨z, hz, e⟩ | ⟨z, hz, e⟩
      · obtain ⟨z', h1, h2⟩ := put z (.inl hz)
        exact .inl ⟨z', h1, h2.trans e⟩
      · rcases List.mem_cons.1 hz with rfl | h
        · obtain ⟨z', h1, h2⟩ := put z (.inr rfl)
          exact .inl ⟨z', h1, h2.trans e⟩
        · exact .inr ⟨z, h, e⟩
  obtain ⟨x, hx, he⟩ := h
  obtain ⟨z, hz, e⟩ := key' l [] (.inr ⟨x, hx, eq_of_beq he⟩)
  exact ⟨z, hz, beq_iff_eq.2 e⟩
theorem find_any (l : List It) (key : Ky) : (findK (sortK l) key).isSome = l.any fun x => eqB x key := by
  rw [Bool.eq_iff_iff]
  constructor
  · intro h
    obtain ⟨y, hy⟩ := Option.isSome_iff_exists.1 h
    have hm := List.mem_of_find?_eq_some hy
    have hp := List.find?_some hy
    simp only [Bool.and_eq_true, Bool.not_eq_true'] at hp
    rcases mem_foldl_put hm with h | h
    · cases h
    · exact List.any_eq_true.2 ⟨y, h, beq_iff_eq.2 (bytesLess_tri _ _ hp.1 hp.2)⟩
  · intro h
    obtain ⟨x, hx, he⟩ := List.any_eq_true.1 h
    obtain ⟨z, hz, e⟩ := sortK_hasE ⟨x, hx, he⟩
    unfold findK
    rw [List.find?_isSome]
    refine ⟨z, hz, ?_⟩
    have := keep_is key z
    unfold keepB at this
    rw [e] at this
    simp only [Bool.not_true, Bool.or_eq_false_iff] at this
    simp [this.1, this.2]
end Go.Proofs.Ytckplcmieelmpaa.W

namespace Go.Proofs.Ytckplcmieelmpaa.W
open Go.RowKit Go.Wb

set_option maxRecDepth 100000 in
set_option maxHeartbeats 4000000 in
theorem wgets_small {w : World} {a : Option Addr} {cap : Nat} {l : List It} (hg : Given w a (OE.all l)) (hl : l.length ≤ maxLen) (key : ByteArray) (h : fitsB l = false ∨ ¬ key.size ≤ 2147483647) (d : Int) :
    Calls Try.prog 7 #[.int .i64 d, .slice a l.length cap, .string key] w (TruePost w) := by
  have HG := Lib.hid hg
  have HLL := Lib.hid hl
  clear hg hl
  go_enter Try.func7, Try.ntmps7
  go_upto_region 1 with (fail)
  refine wp_world ?_
  intro W1 hW1
  have K1 : Hid (Keep Nothing w W1) := by subst hW1; exact (Keep.refl _ _).al _
  have X1 : Hid (W1.heap[w.heap.size]? = some (.cells #[.string key] 9 (0, 0))) := by subst hW1; exact heap_alloc_new w _
  generalize w.heap.size = kb at *
  clear hW1
  have hf := Lib.hid (fits8_any (cap := cap) (HG.out.keep K1.out) HLL.out)
  by_cases hb : fitsB l = false
  · rw [hb] at hf
    clear hb h
    go_wp2_with fail
    refine hf.out.mono ?_
    rintro e w1 ⟨rfl, hk⟩
    have HK := Lib.hid hk
    clear hk hf
    go_wp2_with fail
    go_ret
    exact ⟨rfl, K1.out.trans HK.out fun _ _ _ h => h⟩
  · have hs := h.resolve_left hb
    have hb' : fitsB l = true := by simpa using hb
    rw [hb'] at hf
    clear hb h hb'
    have hs2 : 2147483647 < (key.size : Int) := by omega
    go_wp2_with fail
    refine hf.out.mono ?_
    rintro e w1 ⟨rfl, hk⟩
    have x1 := (blk1 (blk_keep X1.out hk fun _ h => h)).1
    have HK := Lib.hid hk
    clear hk hf
    go_wp2_with fail
    go_ret
    exact ⟨rfl, K1.out.trans HK.out fun _ _ _ h => h⟩

set_option maxRecDepth 100000 in
set_option maxHeartbeats 8000000 in
theorem wgets_main {w : World} {a : Option Addr} {cap : Nat} {l : List It} (hg : Given w a (OE.all l)) (hl : l.length ≤ maxLen) (key : ByteArray) (h : fitsB l = true) (hs : key.size ≤ 2147483647) (d : Int) :
    Calls Try.prog 7 #[.int .i64 d, .slice a l.length cap, .string key] w (TruePost w) := by
  obtain ⟨hll, _⟩ := fitsB_true.1 h
  simp only [most] at hll
  have HG := Lib.hid hg
  have HLL := Lib.hid hl
  have hal := Lib.hid (fun W => aliveW_any W)
  have hs2 : ¬ 2147483647 < (key.size : Int) := by omega
  clear hg hl hs
  go_enter Try.func7, Try.ntmps7
  go_upto_region 1 with (fail)
  refine wp_world ?_
  intro W1 hW1
  have K1 : Hid (Keep Nothing w W1) := by subst hW1; exact (Keep.refl _ _).al _
  have X1 : Hid (W1.heap[w.heap.size]? = some (.cells #[.string key] 9 (0, 0))) := by subst hW1; exact heap_alloc_new w _
  generalize w.heap.size = kb at *
  clear hW1
  have hf := Lib.hid (fits8_any (cap := cap) (HG.out.keep K1.out) HLL.out)
  rw [h] at hf
  clear h
  go_wp2_with fail
  refine hf.out.mono ?_
  rintro e w1 ⟨rfl, hk⟩
  have X2 := Lib.hid (blk_keep X1.out hk fun _ h => h)
  have HK := Lib.hid (K1.out.trans hk fun _ _ _ h => h : Keep Nothing w w1)
  clear hk hf K1 X1
  have x1 := (blk1 X2.out).1
  cases hd : fitD d with
  | false =>
    have hfi := Lib.hid (fun W => fit_any W d false hd)
    clear hd
    go_wp2_with fail
    refine (hfi.out _).mono ?_
    rintro e w2 ⟨rfl, rfl⟩
    go_wp2_with fail
    refine (hal.out _).mono ?_
    rintro e w3 ⟨rfl, hk⟩
    have HK3 := Lib.hid (HK.out.trans hk fun _ _ _ h => h)
    clear hk HK
    go_wp2_with fail
    go_ret
    exact ⟨rfl, HK3.out⟩
  | true =>
    have hfi := Lib.hid (fun W => fit_any W d true hd)
    simp only [fitD, Bool.and_eq_true, decide_eq_true_eq] at hd
    obtain ⟨hd1, hd2⟩ := hd
    go_wp2_with fail
    refine (hfi.out _).mono ?_
    rintro e w2 ⟨rfl, rfl⟩
    clear hfi
    obtain ⟨v0, hv0⟩ : ∃ z : Int, z = foundV (sortK l) key := ⟨_, rfl⟩
    obtain ⟨f0, hf0⟩ : ∃ z : Bool, z = (findK (sortK l) key).isSome := ⟨_, rfl⟩
    obtain ⟨v1, hv1⟩ : ∃ z : Int, z = foundV (delK (sortK l) key) key := ⟨_, rfl⟩
    obtain ⟨ka1, hka1⟩ : ∃ m : List It, m = (sortK l).filter (keepB key) := ⟨_, rfl⟩
    obtain ⟨g1, g2, g3⟩ := delAll_two (sortK l) key
    rw [← hv0, ← hv1] at g1
    rw [← hf0] at g2
    rw [← hka1] at g3
    have hkl : ka1.length ≤ l.length := by rw [hka1]; exact Nat.le_trans (List.length_filter_le _ _) (sortK_len l)
    have hwg : Hid (∀ W, Keep Nothing w W → Calls Try.prog 38 #[.int .i64 d, .slice a l.length cap, .slice (some ⟨W.heap.size, 0, none⟩) 1 1] (W.alloc (.cells #[.string key] 9)) fun e w' => ∃ b3 o3 c3 b4 o4 c4, e = .returned (.tuple #[.slice (some ⟨b3, o3, none⟩) 1 c3, .slice (some ⟨b4, o4, none⟩) 1 c4]) ∧ w'.cell? ⟨b3, o3, none⟩ = some (.int .i64 v0) ∧ w'.cell? ⟨b4, o4, none⟩ = some (.bool f0) ∧ Keep Nothing W w') := by
      refine Lib.hid fun W hW => ?_
      have hw := wget_any (w := W.alloc (.cells #[.string key] 9)) (cap := cap) (HG.out.keep (hW.al _)) (by omega) d hd1 hd2 (ks := [key]) (kcap := 1) (new_given W [.string key] 9) (by simp)
      refine hw.mono ?_
      rintro e w' ⟨a3, c3, a4, c4, rfl, hV, hO, hk⟩
      obtain ⟨b3, o3, rfl, x3⟩ := hV.cell (i := 0) (by simp)
      obtain ⟨b4, o4, rfl, x4⟩ := hO.cell (i := 0) (by simp)
      refine ⟨b3, o3, c3, b4, o4, c4, rfl, ?_, ?_, (Keep.alloc Nothing W _).trans hk fun _ _ _ h => h⟩
      · rw [hv0]; simpa using x3
      · rw [hf0]; simpa using x4
    have hwd : Hid (∀ W, Keep Nothing w W → Calls Try.prog 39 #[.int .i64 d, .slice a l.length cap, .slice (some ⟨W.heap.size, 0, none⟩) 2 2] (W.alloc (.cells #[.string key, .string key] 9)) fun e w' => ∃ b3 o3 c3 b4 o4 c4 a5 c5, e = .returned (.tuple #[.slice (some ⟨b3, o3, none⟩) 2 c3, .slice (some ⟨b4, o4, none⟩) 2 c4, .slice a5 ka1.length c5]) ∧ w'.cell? ⟨b3, o3, none⟩ = some (.int .i64 v0) ∧ w'.cell? ⟨b4, o4, none⟩ = some (.bool f0) ∧ w'.cell? ⟨b4, o4 + 1, none⟩ = some (.bool false) ∧ Given w' a5 (OE.all ka1) ∧ Keep Nothing W w') := by
      refine Lib.hid fun W hW => ?_
      have hw := wdelete_any (w := W.alloc (.cells #[.string key, .string key] 9)) (cap := cap) (HG.out.keep (hW.al _)) (by omega) d hd1 hd2 (ks := [key, key]) (kcap := 2) (new_given W [.string key, .string key] 9) (by simp)
      refine hw.mono ?_
      rintro e w' ⟨a3, n3, c3, a4, n4, c4, a5, c5, rfl, rfl, rfl, hV, hO, hW5, hk⟩
      rw [g1] at hV
      rw [g2] at hO
      rw [g3] at hW5
      obtain ⟨b3, o3, rfl, x3⟩ := hV.cell (i := 0) (by simp)
      obtain ⟨b4, o4, h4, x4⟩ := hO.cell (i := 0) (by simp)
      obtain ⟨b5, o5, h5, x5⟩ := hO.cell (i := 1) (by simp)
      rw [h4] at h5
      cases h5
      subst h4
      refine ⟨b3, o3, c3, b4, o4, c4, a5, c5, by rw [g1, g2, g3]; rfl, by simpa using x3, by simpa using x4, by simpa using x5, hW5, (Keep.alloc Nothing W _).trans hk fun _ _ _ h => h⟩
    have HF0 : Hid (f0 = l.any fun x => eqB x key) := Lib.hid (hf0.trans (find_any l key))
    have HKA := Lib.hid hka1
    clear hv0 hf0 hv1 hka1 g1 g2 g3
    go_wp2_with fail
    refine (hwg.out _ HK.out).mono ?_
    rintro e w3 ⟨b3, o3, c3, b4, o4, c4, rfl, y3, y4, hk3⟩
    have HK3 : Hid (Keep Nothing w w3) := by exact HK.out.trans hk3 fun _ _ _ h => h
    have X3 := Lib.hid (blk_keep X2.out hk3 fun _ h => h)
    clear HK X2 x1 hk3 hwg
    have x1 := (blk1 X3.out).1
    go_wp2_with fail
    refine (hwd.out _ HK3.out).mono ?_
    rintro e w4 ⟨b5, o5, c5, b6, o6, c6, a7, c7, rfl, y5, y6, y7, hW7, hk4⟩
    have HK4 : Hid (Keep Nothing w w4) := by exact HK3.out.trans hk4 fun _ _ _ h => h
    have X4 := Lib.hid (blk_keep X3.out hk4 fun _ h => h)
    have z3 := hk4.cell' y3 fun h => h
    have z4 := hk4.cell' y4 fun h => h
    have HW7 := Lib.hid hW7
    have Z4 := Lib.hid z4
    clear HK3 X3 x1 hk4 hwd y3 y4 hW7
    have hff : (f0 != f0) = false := by cases f0 <;> rfl
    have hvv : (v0 != v0) = false := by simp
    go_wp2_with fail
    go_quiet (fail)
    go_wp2_with fail
    have K5 : Keep Nothing w4 (w4.drewN nq) := Keep.drewN _ _ _
    have hws := Lib.hid (wscan_any (w := w4.drewN nq) (cap := cap) (HG.out.keep (HK4.out.trans K5 fun _ _ _ h => h)) (by omega) d hd1 hd2 0 (by omega) (by omega))
    refine hws.out.mono ?_
    rintro e w6 ⟨a8, c8, rfl, hA8, hk6⟩
    have hfn : firstN (0 : Int) (sortK l) = sortK l := by simp [firstN]
    rw [hfn] at hA8 ⊢
    have hsl : (sortK l).length ≤ 4000000000000 := by have := sortK_len l; omega
    have K6 : Hid (Keep Nothing w4 w6) := by exact K5.trans hk6 fun _ _ _ h => h
    have hkb := lt_of_heap X4.out
    have x6 := (blk1 (blk_keep X4.out K6.out fun _ h => h)).1
    have hown : Hid (∀ b o, rowFp a8 (c8 * 2) b o → w4.heap.size ≤ b) := by exact hA8.own
    have hdf := Lib.hid (deleteFunc_any hA8.row hA8.le hsl (eqFn1 kb key) x6 (fun o hf => by have := hown.out kb o hf; omega))
    have hmf : ∀ (fn : Fn) (first cap : Array Value) (w : World), (Instr.makeFunc fn first cap).run Try.prog w = .ok (.func fn first cap) w := fun _ _ _ _ => rfl
    clear hws hA8 hk6 K5 hfn z3 z4 y5 y6 y7
    unfold ptr at *
    go_wp2_with fail
    refine hdf.out.mono ?_
    rintro e w7 ⟨c9, rfl, hD, hk7⟩
    rw [← HKA.out] at hD
    simp only [← HKA.out]
    have K7 : Hid (Keep Nothing w4 w7) := by exact K6.out.trans hk7 fun b o hb hf => by have := hown.out b o hf; omega
    have z7 := K7.out.cell' Z4.out fun h => h
    have x7 := (blk1 (blk_keep X4.out K7.out fun _ h => h)).1
    have HK7 : Hid (Keep Nothing w w7) := by exact HK4.out.trans K7.out fun _ _ _ h => h
    have HD := Lib.hid hD
    have HW8 := Lib.hid (HW7.out.keep K7.out)
    have hEQ : Hid (∀ W, Keep Nothing w7 W → Calls Try.prog 30 #[.slice a7 ka1.length c7, .slice a8 ka1.length c9] W fun e w' => e = .returned (.bool true) ∧ Keep Nothing w7 w') := by
      exact fun W hW => (equalW_any (HW8.out.keep hW) (HD.out.keep hW) (by omega)).mono fun e w' h => ⟨h.1, hW.trans h.2 fun _ _ _ h => h⟩
    have hCF : Hid (∀ W, Keep Nothing w7 W → Calls Try.prog 43 #[.slice a l.length cap, .func (.func 44) #[] #[.pointer (some ⟨kb, 0, none⟩)]] W fun e w' => e = .returned (.bool f0) ∧ Keep Nothing w7 w') := by
      refine Lib.hid fun W hW => ?_
      have hx : W.cell? ⟨kb, 0, none⟩ = some (.string key) := hW.cell' x7 fun h => h
      refine (contains_any (cap := cap) (HG.out.keep (HK7.out.trans hW fun _ _ _ h => h)) (by omega) (eqFn2 kb key) hx).mono fun e w' h => ⟨?_, hW.trans h.2 fun _ _ _ h => h⟩
      rw [HF0.out]; exact h.1
    have hAL : Hid (∀ W, Keep Nothing w7 W → Calls Try.prog 15 #[] W fun e w' => e = .returned (.bool true) ∧ Keep Nothing w7 w') := by
      exact fun W hW => (hal.out W).mono fun e w' h => ⟨h.1, hW.trans h.2 fun _ _ _ h => h⟩
    have kk : Keep Nothing w7 w7 := Keep.refl _ _
    clear hdf hD hk7 hown x6 HK4 K6 K7 HD HW8 HW7 Z4 X4 hal x7
    have hfb : (f0 == f0) = true := by cases f0 <;> rfl
    go_wp2_with fail
    go_region_held3 (fun w' => w'.cell? ⟨b4, o4, none⟩ = some (.bool f0)) (first | assumption | exact hKc.cell' z7 (fun h => h) | go_keep)
      ((first
        | (go_at_call 30; refine (hEQ.out _ ?_).mono ?_; (first | exact kk | exact kk.dr | exact kk.drN _ | exact hKc | exact hKc.dr); rintro e w8 ⟨rfl, hKc⟩)
        | (go_at_call 43; refine (hCF.out _ ?_).mono ?_; (first | exact hKc | exact hKc.dr | exact kk.dr | exact kk); rintro e w8 ⟨rfl, hKc⟩)
        | (go_at_call 15; refine (hAL.out _ ?_).mono ?_; (first | exact hKc | exact hKc.dr | exact kk.dr | exact kk); rintro e w8 ⟨rfl, hKc⟩)))
    all_goals
      go_wp2_with fail
      go_ret
      exact ⟨rfl, by first | exact HK7.out.trans hKc fun _ _ _ h => h | exact (HK7.out.trans hKc fun _ _ _ h => h).dr⟩

theorem wgets_row {w : World} {d : Int} (_ : (Lit.int .i64 d).wf = true) {a : Option Addr} {cap : Nat} {l : List It} (hg : Given w a (OE.all l)) (hl : l.length ≤ maxLen) {key : ByteArray} {Q : Prop} (_ : Q) :
    Calls Try.prog 7 #[.int .i64 d, .slice a l.length cap, .string key] w (TruePost w) := by
  by_cases h : fitsB l = true
  · by_cases h2 : key.size ≤ 2147483647
    · exact wgets_main hg hl key h h2 d
    · exact wgets_small hg hl key (.inr h2) d
  · exact wgets_small hg hl key (.inl (by simpa using h)) d
end Go.Proofs.Ytckplcmieelmpaa.W

namespace Go.Wb
open Go Go.ChangeShapes Go.WideShapes Go.ChangeAt Go.RowKit

/-- The cells of a slice that came in. -/
theorem given_cells {W : World} {a : Addr} {cs : List Value} (h : ∀ i v, cs[i]? = some v → W.cell? (a.add i) = some v) : Given W (some a) cs := by
  cases cs with
  | nil => exact .inl rfl
  | cons x cs =>
    obtain ⟨b, off, spot⟩ := a
    have h0 := h 0 x (by simp)
    have hspot : spot = none := by simpa [Addr.add] using World.cell?_spot h0
    subst hspot
    refine .inr ⟨b, off, rfl, fun i v hi => ?_⟩
    rw [← add_plain]
    exact h i v hi

section
variable {H : Type} {enc : TypeId × Value → H} {P : Program} {W : World}

/-- A slice of texts that came in. -/
theorem open_texts {t e : TypeId} {base : Nat} {v : Value} {d : DataW H} {p : List MemPlace} (ht : P.underlying t = some (.slice e)) (he : P.underlying e = some .string) (hc : P.cellsOf e = 1) (hval : Value.okWide P W .any base t v)
    (h : DataW.Trod enc P W 0 (fun _ => true) true t v d p) : ∃ (a : Option Addr) (l : List ByteArray) (cap : Nat), v = .slice a l.length cap ∧ Given W a (l.map .string) ∧ l.length ≤ maxLen := by
  obtain ⟨a0, len, cap, rfl⟩ := okWide_slice ht hval
  obtain ⟨fuel, hf⟩ := h
  rcases open_strings ht he hc hf with ⟨hcs, hx⟩ | ⟨a, len', cap', ss, hcs, _, hl, hm, hz, hx, hcell, hws⟩
  · simp [Value.cells] at hcs
    obtain ⟨rfl, rfl, rfl⟩ := hcs
    exact ⟨none, [], 0, rfl, .inl rfl, by simp⟩
  · simp [Value.cells] at hcs
    obtain ⟨rfl, rfl, rfl⟩ := hcs
    simp only [if_true] at hz
    have hlen : (ss.take len).length = len := by simp; omega
    refine ⟨some a, ss.take len, cap, by rw [hlen], given_cells fun i v hi => ?_, by rw [hlen]; omega⟩
    rw [List.getElem?_map, List.getElem?_take] at hi
    split at hi
    · have hil : i < ss.length := by omega
      rw [List.getElem?_eq_getElem hil] at hi
      rw [hcell i hil]
      simp at hi
      rw [← hi]
      simp [List.getD, hil]
    · cases hi

/-- What came in reads as it did. -/
theorem Below.trodAll (hl : laidOutB P = true) {W' : World} (hb : Below W.heap.size W W') : ∀ {ts : List TypeId} {vs : List Value} {ds : List (DataW H)} {ps : List MemPlace}, (ts.all fun t => P.readableRec t && decide (t < P.types.size)) = true →
    DataW.TrodAll enc P W 0 (fun _ => true) true ts vs ds ps → (∀ x ∈ ps, x.block < W.heap.size) → DataW.TrodAll enc P W' 0 (fun b => decide (b < W.heap.size)) true ts vs ds ps
  | [], [], [], ps, _, h, _ => h
  | t :: ts, v :: vs, d :: ds, ps, hc, h, hp => by
    obtain ⟨p, q, h1, h2, rfl⟩ := h
    simp only [List.all_cons, Bool.and_eq_true, decide_eq_true_eq] at hc
    refine ⟨p, q, Below.trod hl hc.1.1 hc.1.2 h1 hb (fun x hx => hp x (by simp [hx])), Below.trodAll hl hb (by simpa using hc.2) h2 (fun x hx => hp x (by simp [hx])), rfl⟩
  | [], _ :: _, _, _, _, h, _ => h.elim
  | [], [], _ :: _, _, _, h, _ => h.elim
  | _ :: _, [], _, _, _, h, _ => h.elim
  | _ :: _, _ :: _, [], _, _, h, _ => h.elim
end
end Go.Wb

namespace Go.Wb
open Go Go.ChangeShapes Go.WideShapes Go.ChangeAt Go.RowKit Go.Deep

theorem pairs_get {β : Type} (f g : β → Value) : ∀ {l : List β} {j : Nat} {v : Value}, (l.flatMap fun x => [f x, g x])[j]? = some v → ∃ i x, l[i]? = some x ∧ ((j = i * 2 ∧ v = f x) ∨ (j = i * 2 + 1 ∧ v = g x))
  | [], j, v, h => by simp at h
  | x :: l, 0, v, h => ⟨0, x, rfl, .inl ⟨rfl, by simpa using h.symm⟩⟩
  | x :: l, 1, v, h => ⟨0, x, rfl, .inr ⟨rfl, by simpa using h.symm⟩⟩
  | x :: l, j + 2, v, h => by
    obtain ⟨i, y, h1, h2⟩ := pairs_get f g (l := l) (j := j) (v := v) (by simpa using h)
    exact ⟨i + 1, y, by simpa using h1, h2.imp (fun ⟨a, b⟩ => ⟨by omega, b⟩) fun ⟨a, b⟩ => ⟨by omega, b⟩⟩

def strV : Value → ByteArray | .string s => s | _ => ⟨#[]⟩
def intV : Value → Int | .int _ n => n | _ => 0

section
variable {H : Type} {enc : TypeId × Value → H} {P : Program} {W : World}
/-- A slice of pairs of a text and a number that came in. -/
theorem open_words {t e : TypeId} {f0 f1 : Field} {base : Nat} {v : Value} {d : DataW H} {p : List MemPlace} (ht : P.underlying t = some (.slice e)) (he : P.underlying e = some (.struct #[f0, f1])) (hk : P.underlying f0.type = some .string) (hi : P.underlying f1.type = some (.int .i64))
    (ce : P.cellsOf e = 2) (o0 : f0.offset = 0) (o1 : f1.offset = 1) (c0 : P.cellsOf f0.type = 1) (c1 : P.cellsOf f1.type = 1) (hval : Value.okWide P W .any base t v)
    (h : DataW.Trod enc P W 0 (fun _ => true) true t v d p) : ∃ (a : Option Addr) (l : List (ByteArray × Int)) (cap : Nat), v = .slice a l.length cap ∧ Given W a (l.flatMap fun x => [.string x.1, .int .i64 x.2]) ∧ l.length ≤ maxLen := by
  obtain ⟨a0, len, cap, rfl⟩ := okWide_slice ht hval
  obtain ⟨fuel, hf⟩ := h
  rcases open_slice_pairs ht he ce o0 o1 c0 c1 hf with ⟨hcs, hx⟩ | ⟨a, len', cap', m, n, V0, V1, D0, D1, P0, P1, hcs, _, hl, hm, hz, hx, hc⟩
  · simp [Value.cells] at hcs
    obtain ⟨rfl, rfl, rfl⟩ := hcs
    exact ⟨none, [], 0, rfl, .inl rfl, by simp⟩
  · simp [Value.cells] at hcs
    obtain ⟨rfl, rfl, rfl⟩ := hcs
    simp only [if_true] at hz
    have hlen : ((List.range len).map fun i => (strV (V0 i), intV (V1 i))).length = len := by simp
    refine ⟨some a, (List.range len).map fun i => (strV (V0 i), intV (V1 i)), cap, by rw [hlen], given_cells fun j u hj => ?_, by rw [hlen]; omega⟩
    obtain ⟨i, x, h1, h2⟩ := pairs_get (fun x : ByteArray × Int => Value.string x.1) (fun x => Value.int .i64 x.2) hj
    rw [List.getElem?_map] at h1
    obtain ⟨k, hk1, hk2⟩ := Option.map_eq_some_iff.1 h1
    obtain ⟨hil, rfl⟩ := List.getElem?_eq_some_iff.1 hk1
    simp only [List.length_range] at hil
    simp only [List.getElem_range] at hk2
    subst hk2
    obtain ⟨g0, g1, g2, g3⟩ := hc i (by omega)
    obtain ⟨s, e1, _, _⟩ := DataW.trod_string hk g2
    obtain ⟨z, e2, _, _⟩ := DataW.trod_int hi g3
    have e1' : V0 i = .string s := by simpa using e1
    have e2' : V1 i = .int .i64 z := by simpa using e2
    rcases h2 with ⟨rfl, rfl⟩ | ⟨rfl, rfl⟩
    · rw [g0, e1']; rfl
    · rw [g1, e2']; rfl
end
end Go.Wb
