/- Part 1 of the texts for the statement FnSetAlgebraSaid: the package's tree of maps and sets, its functions' contracts. -/
import Derived.Test.YtckplcmieelmpaaHXA
import Derived.Test.YtckplcmieelmpaaHYA
import Derived.Test.YtckplcmieelmpaaHZA
import Derived.Deep.RegionHeld3
import Derived.Deep.DeepCutAuto
import Derived.Deep.QuietTactic
import Derived.BigQuiet
import Derived.Lib.SliceRun
import Derived.Deep.CutBlock
import Derived.ProofKit
import Derived.SliceStrings
import Derived.Deep.SlicePairs
import Derived.ChangeSlices
namespace Go.Proofs.Ytckplcmieelmpaa.S
open Go.RowKit Go.Wb

/-- The contract of deleting below height h. -/
def DelIH (b : Nat) (hr : HRec) (mn mx h : Nat) : Prop := ∀ (t : Tr It) (w : World) (pb po n : Nat) (H : Store It) (L : Nat → Lay) (F : List Nat) (mb : Bool) (k : Ky), DelPre w b hr pb po n H L h t F mn mx →
  Calls Try.prog 173 #[ptr b, .pointer (some ⟨pb, po, none⟩), .bool mb, kv k] w (DelPost w H L F hr.iso mn mx h n t mb k hr.emp)

section mid
variable {w : World} {b : Nat} {hr : HRec} {pb po n : Nat} {H : Store It} {L : Nat → Lay} {h : Nat} {t : Tr It} {F : List Nat} {mn mx : Nat} {r : NRec It} {i c : Nat} {kt : Tr It} {N1 N2 : List Nat} {K1 K2 : List (Tr It)} {F1 Fk F2 : List Nat}

theorem del_down (IH : DelIH b hr mn mx h) (P : DelPre w b hr pb po n H L (h + 1) t F mn mx) (A : Around H hr.iso mn mx h n t F r i kt N1 N2 c K1 K2 F1 Fk F2) {kb ko : Nat} (hka : (L n).ka = some ⟨kb, ko, none⟩) {C D : List It} (hsub : flat (h + 1) t = C ++ flat h kt ++ D) (mb : Bool) (key : Ky) {W : World} (hK : Keep Nothing w W) :
    Calls Try.prog 173 #[ptr b, .pointer (some ⟨kb, ko + i, none⟩), .bool mb, kv key] W (DelDown w W b hr n r (L n) c (GoD H L Fk hr.iso mn mx h c kt mb key hr.emp)) := by
  have mem := P.pre.mem
  have hdr := P.pre.hdr
  have nd := P.pre.nd
  rw [A.Fq] at nd
  have hnF := List.nodup_cons.1 nd
  have nd2 := List.nodup_append.1 hnF.2
  have nd1 := List.nodup_append.1 nd2.1
  have hc : (N1 ++ c :: N2)[i]? = some c := by rw [← A.ln]; simp
  have srt := P.pre.srt
  have big := P.pre.big
  rw [hsub] at srt big
  have hwk := A.wk.own_le
  have hcF := A.rk.root.1
  have hcn : c ≠ n := fun e => hnF.1 (by rw [← e]; simp [hcF])
  refine (IH kt W kb (ko + i) c H L Fk mb key ⟨P.pre.child A.rec_ A.kids hka hc A.rk nd1.2.1 A.wk srt.mid (by simp at big; omega) hK, P.hm, P.pos, Nat.le_trans P.pos hwk.1⟩).mono ?_
  rintro e W' ⟨p, k', G, H', L', rfl, st, rep', nd', less, dl⟩
  obtain ⟨o1, o2⟩ := st.out n (fun hn => hnF.1 (by simp [hn])) r A.rec_
  obtain ⟨hcG, rc, hrc, _, hcits, _⟩ := rep'.root
  refine ⟨Option.getD p hr.emp, p.isSome, rc, L' c, rfl, st.keep.mono fun x o _ ⟨m, q, _, hq, hf⟩ => (mem.at_ m q hq).lt hf, ?_, st.mem.at_ c rc hrc, hcn, ?_, ?_, fun x o hf => ?_, fun x o h1 h2 => st.mem.sep c n rc r hcn hrc o1 x o h1 (by rw [o2]; exact h2), p, k', G, H', L', rfl, rfl, hrc, st, rep', nd', less, dl⟩
  · have := st.mem.at_ n r o1
    rwa [o2] at this
  · have := less.le
    have := P.pre.hb
    rw [hcits]; omega
  · exact blk_keep (blk_keep hdr hK fun _ h => h) st.keep fun o ⟨m, q, _, hq, hf⟩ => hdr_apart hdr (mem.at_ m q hq) hf
  · by_cases hx : x < W.heap.size
    · obtain ⟨m, q, _, hq, hfp⟩ := st.fp x o hx ⟨c, rc, hcG, hrc, hf⟩
      exact .inl ((mem.at_ m q hq).lt hfp)
    · exact .inr (by omega)

theorem kid_sizes (A : Around H hr.iso mn mx h n t F r i kt N1 N2 c K1 K2 F1 Fk F2) {k' : Tr It} (hb : body mn mx h k') (hl : k'.its.length + 1 = mn) : ∀ j k, (K1 ++ k' :: K2)[j]? = some k → body mn mx h k ∧ (j = i → k.its.length + 1 = mn) ∧ (j ≠ i → mn ≤ k.its.length ∧ k.its.length ≤ mx) := by
  intro j k hj
  have lk := A.lk
  rcases Nat.lt_trichotomy j i with h1 | h1 | h1
  · rw [List.getElem?_append_left (by omega)] at hj
    have := A.wo k (by simp [List.mem_of_getElem? hj])
    exact ⟨this.body, fun e => by omega, fun _ => this.own_le⟩
  · subst h1
    rw [List.getElem?_append_right (by omega), lk] at hj
    simp at hj
    subst hj
    exact ⟨hb, fun _ => hl, fun e => absurd rfl e⟩
  · rw [List.getElem?_append_right (by omega)] at hj
    obtain ⟨m, hm⟩ : ∃ m, j - K1.length = m + 1 := ⟨j - K1.length - 1, by omega⟩
    rw [hm, List.getElem?_cons_succ] at hj
    have := A.wo k (by simp [List.mem_of_getElem? hj])
    exact ⟨this.body, fun e => by omega, fun _ => this.own_le⟩

theorem kids_len (A : Around H hr.iso mn mx h n t F r i kt N1 N2 c K1 K2 F1 Fk F2) (k' : Tr It) : (K1 ++ k' :: K2).length = r.items.length + 1 := by
  have := A.lk; have := A.lr; simp; omega

/-- The node's own body, where the child behind the call has enough items. -/
theorem mid_body (A : Around H hr.iso mn mx h n t F r i kt N1 N2 c K1 K2 F1 Fk F2) {k' : Tr It} {p : Option It} (hl : Less mn mx h kt k' p) (hm : mn ≤ k'.its.length) {its1 : List It} (h1 : its1.length = r.items.length) : body mn mx (h + 1) (.node its1 (K1 ++ k' :: K2)) := by
  refine ⟨by simp only [Tr.its, Tr.ks]; rw [h1]; exact kids_len A k', fun k hk => ?_⟩
  simp only [Tr.ks, List.mem_append, List.mem_cons] at hk
  rcases hk with hk | rfl | hk
  · exact A.wo k (by simp [hk])
  · exact hl.body.wfr hm (Nat.le_trans hl.le A.wk.own_le.2)
  · exact A.wo k (by simp [hk])

/-- What putting right leaves. -/
def RBD (w : World) (H : Store It) (L : Nat → Lay) (F : List Nat) (iso : Int) (mn mx h n : Nat) (t : Tr It) (mb : Bool) (key : Ky) (W : World) (y : It) (_X X' : World) : Prop :=
  ∃ t'', Lies w W X' H L F iso (h + 1) n t'' ∧ Less mn mx (h + 1) t t'' (some y) ∧ Dl mb key (flat (h + 1) t) (flat (h + 1) t'') (some y)

theorem t_its (A : Around H hr.iso mn mx h n t F r i kt N1 N2 c K1 K2 F1 Fk F2) : t.its = r.items := by rw [A.tq]; rfl

/-- The child has too few items: the node is put right. -/
theorem mid_reb (R : RebOK) (P : DelPre w b hr pb po n H L (h + 1) t F mn mx) (A : Around H hr.iso mn mx h n t F r i kt N1 N2 c K1 K2 F1 Fk F2) {W W' X : World} (hK : Keep Nothing w W) {k' : Tr It} {G : List Nat} {H' : Store It} {L' : Nat → Lay} (st : Step TT E W H L Fk W' H' L' G) (rep' : Rep H' hr.iso h c k' G) (nd' : G.Nodup) {p : Option It} (hl : Less mn mx h kt k' p)
    {its1 : List It} (h1 : its1.length = r.items.length) (hX : Keep (fun b o => fp TT n r (L n) b o ∨ (w.heap.size ≤ b ∧ b < W.heap.size)) W' X) (hat : NodeAt TT E X n { r with cnt := r.cnt - 1, items := its1 } (L n)) {z : It} {mb : Bool} {key : Ky} (hd : Dl mb key (flat (h + 1) t) (flat (h + 1) (.node its1 (K1 ++ k' :: K2))) (some z)) (hlt : k'.its.length < mn) :
    Calls Try.prog 201 #[ptr b, ptr n, .int .i64 i] X fun e X' => e = .returned (.tuple #[]) ∧ Keep (fun b _ => b < w.heap.size ∨ W.heap.size ≤ b) X X' ∧ RBD w H L F hr.iso mn mx h n t mb key W z X X' := by
  have hlen := hd.len
  simp at hlen
  have hti := t_its A
  have hcnt : r.cnt - 1 = ((flat (h + 1) (.node its1 (K1 ++ k' :: K2))).length : Int) := by rw [A.cnt]; omega
  have hls := lies_mid P A hK st rep' nd' hX hat hcnt
  have hge := hl.ge
  have hwk := A.wk.own_le
  have hkl := kids_len A k'
  have hlr := A.lr
  have hbig := P.pre.big
  refine (lies_reb R P hls (Nat.le_trans st.keep.size hX.size) (i := i) (by rw [hti]; exact h1) (by simp only [Tr.its, Tr.ks]; rw [h1]; exact hkl) (by simp only [Tr.its]; omega) (kid_sizes A hl.body (by omega)) (by omega)).mono ?_
  rintro e X' ⟨rfl, hkk, t', hl', hb, l1, l2, hf⟩
  have l1' : t'.its.length ≤ its1.length := l1
  have l2' : its1.length ≤ t'.its.length + 1 := l2
  refine ⟨rfl, hkk, t', hl', ⟨hb, by rw [hti]; omega, by rw [hti]; omega, fun h => by cases h⟩, ?_⟩
  rw [hf]
  exact hd

/-- The child has enough items. -/
theorem mid_done (P : DelPre w b hr pb po n H L (h + 1) t F mn mx) (A : Around H hr.iso mn mx h n t F r i kt N1 N2 c K1 K2 F1 Fk F2) {W W' X w' : World} (hK : Keep Nothing w W) {k' : Tr It} {G : List Nat} {H' : Store It} {L' : Nat → Lay} (st : Step TT E W H L Fk W' H' L' G) (rep' : Rep H' hr.iso h c k' G) (nd' : G.Nodup) {p : Option It} (hl : Less mn mx h kt k' p)
    {its1 : List It} {q : Option It} (h1 : its1.length = r.items.length) {cnt1 : Int} (hX : Keep (fun b o => fp TT n r (L n) b o ∨ (w.heap.size ≤ b ∧ b < W.heap.size)) W' X) (hat : NodeAt TT E X n { r with cnt := cnt1, items := its1 } (L n)) (hc1 : cnt1 = r.cnt - if q.isSome then 1 else 0) {mb : Bool} {key : Ky} (hd : Dl mb key (flat (h + 1) t) (flat (h + 1) (.node its1 (K1 ++ k' :: K2))) q) (hmn : mn ≤ k'.its.length)
    (hK4 : Keep (fun b _ => w.heap.size ≤ b ∧ b < W.heap.size) X w') {e : Ending} (he : e = .returned (.tuple #[pv (Option.getD q hr.emp), .bool q.isSome])) : DelPost w H L F hr.iso mn mx (h + 1) n t mb key hr.emp e w' := by
  have hlen := hd.len
  have hti := t_its A
  have hcnt : cnt1 = ((flat (h + 1) (.node its1 (K1 ++ k' :: K2))).length : Int) := by rw [hc1, A.cnt]; split at hlen <;> simp_all
  have hls := lies_mid P A hK st rep' nd' hX hat hcnt
  refine hls.done hK4 he ⟨mid_body A hl hmn h1, by rw [hti]; simp only [Tr.its]; omega, by rw [hti]; simp only [Tr.its]; omega, fun _ => by rw [hti]; exact h1⟩ hd

/-- How what is below a node becomes what the node has. -/
theorem del_go_reb (R : RebOK) (P : DelPre w b hr pb po n H L (h + 1) t F mn mx) (A : Around H hr.iso mn mx h n t F r i kt N1 N2 c K1 K2 F1 Fk F2) {mb : Bool} {gk key : Ky} (hfr : ∀ k' p, Dl mb gk (flat h kt) (flat h k') p → Dl mb key (flat (h + 1) t) (flat (h + 1) (.node r.items (K1 ++ k' :: K2))) p) :
    ∀ W W' y rc X, Keep Nothing w W → GoD H L Fk hr.iso mn mx h c kt mb gk hr.emp y true rc W W' → Keep (fun b _ => b < w.heap.size) W W' → Keep (fun b o => (b = n ∧ o = 1) ∨ (w.heap.size ≤ b ∧ b < W.heap.size)) W' X → NodeAt TT E X n { r with cnt := r.cnt - 1 } (L n) → (rc.items.length : Int) < hr.mn →
      Calls Try.prog 201 #[ptr b, ptr n, .int .i64 i] X fun e X' => e = .returned (.tuple #[]) ∧ Keep (fun b _ => b < w.heap.size ∨ W.heap.size ≤ b) X X' ∧ RBD w H L F hr.iso mn mx h n t mb key W y X X' := by
  rintro W W' y rc X hK ⟨p, k', G, H', L', hy, hp, hrc, st, rep', nd', less, dl⟩ _ hX hat hlt
  cases p with
  | none => cases hp
  | some y' =>
    obtain rfl : y = y' := hy
    obtain ⟨_, q, e1, _, e2, _⟩ := rep'.root
    rw [hrc] at e1
    cases e1
    rw [e2, P.hm] at hlt
    refine mid_reb R P A hK st rep' nd' less rfl (hX.mono fun x o _ hx => ?_) hat (hfr k' _ dl) (by omega)
    rcases hx with ⟨rfl, _⟩ | hx
    · exact .inl (.inl rfl)
    · exact .inr hx

theorem del_go_done (P : DelPre w b hr pb po n H L (h + 1) t F mn mx) (A : Around H hr.iso mn mx h n t F r i kt N1 N2 c K1 K2 F1 Fk F2) {mb : Bool} {gk key : Ky} (hfr : ∀ k' p, Dl mb gk (flat h kt) (flat h k') p → Dl mb key (flat (h + 1) t) (flat (h + 1) (.node r.items (K1 ++ k' :: K2))) p) :
    ∀ e w', DelGo w n r (L n) hr.mn hr.emp (GoD H L Fk hr.iso mn mx h c kt mb gk hr.emp) (RBD w H L F hr.iso mn mx h n t mb key) e w' → DelPost w H L F hr.iso mn mx (h + 1) n t mb key hr.emp e w' := by
  rintro e w' ⟨W, W', y, del, rc, hK, ⟨p, k', G, H', L', rfl, rfl, hrc, st, rep', nd', less, dl⟩, _, hm⟩
  cases p with
  | none =>
    obtain ⟨rfl, hK3, hat⟩ := hm
    have hn := less.non rfl
    have hwk := A.wk.own_le
    exact mid_done (q := none) P A hK st rep' nd' less (its1 := r.items) (cnt1 := r.cnt) rfl (hK3.mono fun _ _ _ h => .inr h) hat (by simp) (hfr k' _ dl) (by omega) (Keep.refl _ _) rfl
  | some y' =>
    obtain ⟨rfl, X, X', hX, hat, hor, hK4⟩ := hm
    obtain ⟨_, q, e1, _, e2, _⟩ := rep'.root
    rw [hrc] at e1
    cases e1
    rw [e2, P.hm] at hor
    rcases hor with ⟨hmn, rfl⟩ | ⟨_, t'', hl, less2, dl2⟩
    · refine mid_done (q := some y') P A hK st rep' nd' less (its1 := r.items) (cnt1 := r.cnt - 1) rfl (hX.mono fun x o _ hx => ?_) hat (by simp) (hfr k' _ dl) (by omega) hK4 rfl
      rcases hx with ⟨rfl, _⟩ | hx
      · exact .inl (.inl rfl)
      · exact .inr hx
    · exact hl.done hK4 rfl less2 dl2
end mid
end Go.Proofs.Ytckplcmieelmpaa.S

namespace Go.Proofs.Ytckplcmieelmpaa.S
open Go.RowKit Go.Wb

section mid
variable {w : World} {b : Nat} {hr : HRec} {pb po n : Nat} {H : Store It} {L : Nat → Lay} {h : Nat} {t : Tr It} {F : List Nat} {mn mx : Nat} {r : NRec It} {i c : Nat} {kt : Tr It} {N1 N2 : List Nat} {K1 K2 : List (Tr It)} {F1 Fk F2 : List Nat}

/-- The numbers that a walk asks for. -/
theorem del_nums (P : DelPre w b hr pb po n H L (h + 1) t F mn mx) (A : Around H hr.iso mn mx h n t F r i kt N1 N2 c K1 K2 F1 Fk F2) : r.items.length ≤ 1000000000000 ∧ 0 ≤ r.cnt ∧ r.cnt ≤ 4000000000000000000 ∧ 0 ≤ hr.mn ∧ hr.mn ≤ 1000000000000 ∧ Sorted ilt r.items := by
  have h1 := A.le
  have h2 := P.pre.hb
  have h3 := A.cnt
  have h4 := P.pre.big
  have h5 := P.hm
  have h6 := P.pre.hmn
  refine ⟨by omega, by omega, by omega, by omega, by omega, ?_⟩
  have := own_sorted P.pre.wf P.pre.srt
  rwa [t_its A] at this

theorem del_succ_max (IH : DelIH b hr mn mx h) (R : RebOK) (P : DelPre w b hr pb po n H L (h + 1) t F mn mx) (k : Ky) :
    Calls Try.prog 173 #[ptr b, .pointer (some ⟨pb, po, none⟩), .bool true, kv k] w (DelPost w H L F hr.iso mn mx (h + 1) n t true k hr.emp) := by
  have hwk := P.pre.wf.2.2.1
  have hkt : t.ks[t.its.length]? = some (t.ks[t.its.length]'(by omega)) := List.getElem?_eq_getElem (by omega)
  obtain ⟨r, N1, N2, c, K1, K2, F1, Fk, F2, A⟩ := around_of P.pre.rep P.pre.wf hkt
  obtain ⟨n1, n2, n3, n4, n5, n6⟩ := del_nums P A
  have hat := P.pre.mem.at_ n r A.rec_
  obtain ⟨kb, ko, hka, _⟩ := ((hat.2.2.2 _ A.kids).2.1).form (by simp; omega)
  have hc : (N1 ++ c :: N2)[t.its.length]? = some c := by rw [← A.ln]; simp
  have hti := t_its A
  have hK2 : K2 = [] := List.eq_nil_of_length_eq_zero (by have := A.lr; rw [hti] at this; omega)
  have hne := P.ne
  have hlk := A.lk
  rw [hti] at hlk
  have hfl : ∀ k', flat (h + 1) (.node r.items (K1 ++ k' :: K2)) = wl (K1.map (flat h)) r.items ++ flat h k' ++ [] := fun k' => by
    subst hK2
    have := wl_wr (K1.map (flat h)) r.items (flat h k') [] [] (by simpa using hlk)
    simp only [List.append_nil] at this ⊢
    simp only [flat, Tr.its, Tr.ks, List.map_append, List.map_cons, List.map_nil]
    rw [this]
    simp [wr]
  have hft : flat (h + 1) t = wl (K1.map (flat h)) r.items ++ flat h (t.ks[t.its.length]'(by omega)) ++ [] := by
    have := hfl (t.ks[t.its.length]'(by omega))
    rw [← A.tq] at this
    exact this
  have hfr : ∀ k' p, Dl true (ky hr.emp) (flat h (t.ks[t.its.length]'(by omega))) (flat h k') p → Dl true k (flat (h + 1) t) (flat (h + 1) (.node r.items (K1 ++ k' :: K2))) p := fun k' p hd => by
    rw [hft, hfl k']
    exact Dl.frame (k := k) hd _ _ (fun h => by cases h) fun _ => rfl
  refine (del_inner_max P.pre.hdr P.pre.cell hat A.isoq n1 k (i := t.its.length) (by rw [hti]) hne n2 n3 n4 n5 A.kids hka hc (GoD H L Fk hr.iso mn mx h c (t.ks[t.its.length]'(by omega)) true (ky hr.emp) hr.emp) (RBD w H L F hr.iso mn mx h n t true k) (fun W hK => del_down IH P A hka hft true _ hK) (del_go_reb R P A hfr)).mono (del_go_done P A hfr)

theorem del_succ_go (IH : DelIH b hr mn mx h) (R : RebOK) (P : DelPre w b hr pb po n H L (h + 1) t F mn mx) (k : Ky) {i : Nat} (hloc : Loc t.its k i false) :
    Calls Try.prog 173 #[ptr b, .pointer (some ⟨pb, po, none⟩), .bool false, kv k] w (DelPost w H L F hr.iso mn mx (h + 1) n t false k hr.emp) := by
  have hwk := P.pre.wf.2.2.1
  have hil := hloc.1
  have hkt : t.ks[i]? = some (t.ks[i]'(by omega)) := List.getElem?_eq_getElem (by omega)
  generalize (t.ks[i]'(by omega)) = kt at hkt
  obtain ⟨r, N1, N2, c, K1, K2, F1, Fk, F2, A⟩ := around_of P.pre.rep P.pre.wf hkt
  obtain ⟨n1, n2, n3, n4, n5, n6⟩ := del_nums P A
  have hat := P.pre.mem.at_ n r A.rec_
  obtain ⟨kb, ko, hka, _⟩ := ((hat.2.2.2 _ A.kids).2.1).form (by simp; omega)
  have hc : (N1 ++ c :: N2)[i]? = some c := by rw [← A.ln]; simp
  have hti := t_its A
  rw [hti] at hloc hil
  have hlk := A.lk
  have hlr := A.lr
  have hI : r.items.take i ++ r.items.drop i = r.items := List.take_append_drop _ _
  have hIl : (r.items.take i).length = i := by rw [List.length_take]; omega
  have hIr : (r.items.drop i).length = K2.length := by rw [List.length_drop]; omega
  obtain ⟨lA, lB⟩ := loc_none hloc
  obtain ⟨C, D, hCD, hC, hD⟩ := flat_around (lt := ilt) (x := mkIt k) iord (h := h) (I1 := r.items.take i) (I2 := r.items.drop i) (K1 := K1) (K2 := K2) (k := kt) (by omega) (by omega) (by rw [hI, ← A.tq]; exact P.pre.srt) lA lB
  rw [hI] at hCD
  have hft : flat (h + 1) t = C ++ flat h kt ++ D := by
    have := hCD kt
    rw [← A.tq] at this
    exact this
  have hfr : ∀ k' p, Dl false k (flat h kt) (flat h k') p → Dl false k (flat (h + 1) t) (flat (h + 1) (.node r.items (K1 ++ k' :: K2))) p := fun k' p hd => by
    rw [hft, hCD k']
    exact Dl.frame hd _ _ (fun _ => ⟨hC, hD⟩) fun h => by cases h
  exact (del_inner_go P.pre.hdr P.pre.cell hat A.isoq n1 n6 hloc n2 n3 n4 n5 A.kids hka hc (GoD H L Fk hr.iso mn mx h c kt false k hr.emp) (RBD w H L F hr.iso mn mx h n t false k) (fun W hK => del_down IH P A hka hft false k hK) (del_go_reb R P A hfr)).mono (del_go_done P A hfr)

/-- Around an item and the child ahead of it. -/
theorem flat_two {h : Nat} {A0 B0 : List It} {K1 K2 : List (Tr It)} (h1 : K1.length = A0.length) (h2 : K2.length = B0.length + 1) : ∃ C D, ∀ z k', flat (h + 1) (.node (A0 ++ z :: B0) (K1 ++ k' :: K2)) = C ++ flat h k' ++ z :: D := by
  cases K2 with
  | nil => simp at h2
  | cons k2 K2 =>
    refine ⟨wl (K1.map (flat h)) A0, flat h k2 ++ wr B0 (K2.map (flat h)), fun z k' => ?_⟩
    simp only [flat, Tr.its, Tr.ks, List.map_append, List.map_cons]
    rw [wl_wr _ _ _ _ _ (by simpa using h1)]
    simp [wr]

theorem del_succ_found (IH : DelIH b hr mn mx h) (R : RebOK) (P : DelPre w b hr pb po n H L (h + 1) t F mn mx) (k : Ky) {i : Nat} (hloc : Loc t.its k i true) :
    Calls Try.prog 173 #[ptr b, .pointer (some ⟨pb, po, none⟩), .bool false, kv k] w (DelPost w H L F hr.iso mn mx (h + 1) n t false k hr.emp) := by
  have hwk := P.pre.wf.2.2.1
  have hil := hloc.1
  have hkt : t.ks[i]? = some (t.ks[i]'(by omega)) := List.getElem?_eq_getElem (by omega)
  generalize (t.ks[i]'(by omega)) = kt at hkt
  obtain ⟨r, N1, N2, c, K1, K2, F1, Fk, F2, A⟩ := around_of P.pre.rep P.pre.wf hkt
  obtain ⟨n1, n2, n3, n4, n5, n6⟩ := del_nums P A
  have hat := P.pre.mem.at_ n r A.rec_
  obtain ⟨kb, ko, hka, _⟩ := ((hat.2.2.2 _ A.kids).2.1).form (by simp; omega)
  have hc : (N1 ++ c :: N2)[i]? = some c := by rw [← A.ln]; simp
  have hti := t_its A
  rw [hti] at hloc hil
  have hlk := A.lk
  have hlr := A.lr
  obtain ⟨A0, z, B0, hits, hA0, hz, h1, h2, _, _⟩ := loc_found n6 hloc
  obtain ⟨C, D, hCD⟩ := flat_two (h := h) (A0 := A0) (B0 := B0) (K1 := K1) (K2 := K2) (by omega) (by rw [hits] at hlr; simp at hlr; omega)
  have hset : ∀ y, r.items.set i y = A0 ++ y :: B0 := fun y => by rw [hits, ← hA0]; simp
  have hft : flat (h + 1) t = C ++ flat h kt ++ z :: D := by rw [A.tq, hits]; exact hCD z kt
  have srt := P.pre.srt
  have hfr : ∀ k' y, Dl true (ky hr.emp) (flat h kt) (flat h k') (some y) → Dl false k (flat (h + 1) t) (flat (h + 1) (.node (r.items.set i y) (K1 ++ k' :: K2))) (some z) := fun k' y hd => by
    obtain ⟨y', hy, hk'⟩ := hd
    obtain rfl := Option.some.inj hy
    rw [hft] at srt ⊢
    rw [hset, hCD, hk']
    rw [hk'] at srt
    obtain ⟨_, sD, sCD⟩ := Sorted.of_append srt
    refine ⟨C ++ flat h k' ++ [y], D, by simp, by simp, h1, h2, fun a ha => ?_, fun d hd => ?_⟩
    · exact klt_of_eq h1 h2 (sCD a (by simpa using ha) z (by simp))
    · exact klt_of_eq' h1 h2 ((List.pairwise_cons.1 sD).1 d hd)
  refine (del_inner_found P.pre.hdr P.pre.cell hat A.isoq n1 n6 hloc hz n2 n3 n4 n5 A.kids hka hc (GoD H L Fk hr.iso mn mx h c kt true (ky hr.emp) hr.emp) (fun W _ X X' => RBD w H L F hr.iso mn mx h n t false k W z X X') (fun W hK => del_down IH P A hka hft true _ hK) ?_).mono ?_
  · rintro W W' y del rc X hK ⟨p, k', G, H', L', rfl, rfl, hrc, st, rep', nd', less, dl⟩ _ hX hx hlt
    obtain ⟨y, rfl, _⟩ := id dl
    obtain ⟨_, q, e1, _, e2, _⟩ := rep'.root
    rw [hrc] at e1
    cases e1
    rw [e2, P.hm] at hlt
    exact mid_reb R P A hK st rep' nd' less (by simp) hX hx (hfr k' y dl) (by omega)
  · rintro e w' ⟨W, W', y, del, rc, hK, ⟨p, k', G, H', L', rfl, rfl, hrc, st, rep', nd', less, dl⟩, _, rfl, X, X', hX, hx, hor, hK4⟩
    obtain ⟨y, rfl, _⟩ := id dl
    obtain ⟨_, q, e1, _, e2, _⟩ := rep'.root
    rw [hrc] at e1
    cases e1
    rw [e2, P.hm] at hor
    rcases hor with ⟨hmn, rfl⟩ | ⟨_, t'', hl, less2, dl2⟩
    · exact mid_done (q := some z) P A hK st rep' nd' less (its1 := r.items.set i y) (cnt1 := r.cnt - 1) (by simp) hX hx (by simp) (hfr k' y dl) (by omega) hK4 rfl
    · exact hl.done hK4 rfl less2 dl2
end mid

/-- DELETING BELOW A NODE: what it leaves. -/
theorem del_any (R : RebOK) {b : Nat} {hr : HRec} {mn mx : Nat} : ∀ h, DelIH b hr mn mx h
  | 0 => fun _ _ _ _ _ _ _ _ mb k P => del_zero P mb k
  | h + 1 => fun t w pb po n H L F mb k P => by
    cases mb with
    | true => exact del_succ_max (del_any R h) R P k
    | false =>
      obtain ⟨i, f, hloc⟩ := Loc.ex k t.its (own_sorted P.pre.wf P.pre.srt)
      cases f with
      | true => exact del_succ_found (del_any R h) R P k hloc
      | false => exact del_succ_go (del_any R h) R P k hloc
end Go.Proofs.Ytckplcmieelmpaa.S

namespace Go.Proofs.Ytckplcmieelmpaa.S
open Go.RowKit Go.Wb

/-- What the split of a child leaves. -/
def Halves (H : Store It) (L : Nat → Lay) (c : Nat) (rc : NRec It) (iso : Int) (i : Nat) (m : Nat) (med : It) (W W' : World) : Prop :=
  rc.items[i]? = some med ∧ W.heap.size ≤ m ∧ ∃ L', Step TT E W H L [c] W' (upd (upd H c (some (halfL H iso rc i))) m (some (halfR H iso rc i))) L' [c, m]

theorem split_step {w : World} {b c : Nat} {hr : HRec} {H : Store It} {L : Nat → Lay} {h : Nat} {k : Tr It} {Fk : List Nat} {mn mx : Nat} (hdr : Hdr w b hr) (mem : Mem TT E w H L) (hmx : hr.mx = (mx : Int)) (h3 : 3 ≤ mx) (hb : mx ≤ 1000000000000)
    {l : Nat} (rk : Rep H hr.iso h c k Fk) (wk : wfr l mn mx h k) (ndk : Fk.Nodup) (hl : k.its.length = mx) (big : (flat h k).length ≤ 3000000000000000000) {rc : NRec It} (hrc : H c = some rc) :
    Calls Try.prog 197 #[ptr b, ptr c] w fun e W' => ∃ m med, e = .returned (.tuple #[ptr m, pv med]) ∧ Keep (fp TT c rc (L c)) w W' ∧ Halves H L c rc hr.iso (mx / 2) m med w W' := by
  obtain ⟨_, q, e1, hci, hits, _⟩ := rk.root
  rw [hrc] at e1
  cases e1
  refine (split_any (i := mx / 2) hdr (mem.at_ c rc hrc) hmx (by rw [hits]; exact hl) h3 hb rfl (cntOf H) fun ks hks => ?_).mono ?_
  · obtain ⟨o1, o2, o3⟩ := rk.kids_ok wk ndk hrc hks
    refine ⟨by omega, by omega, fun a ha => ?_⟩
    obtain ⟨p1, p2, q, p3, p4⟩ := o3 a ha
    exact ⟨p1, p2, q, _, mem.at_ a q p3, p4⟩
  · intro e W' hp
    unfold SplitPost at hp
    rw [hci] at hp
    obtain ⟨m, L1, L2, med, h1, rfl, h2, h4, h5, h6, h7, h8, h9⟩ := hp
    exact ⟨m, med, rfl, h4, h1, h2, _, Step.two mem hrc h2 h4 h5 h6 h7 h8 h9⟩

/-- What the second call leaves. -/
def RetryR (H : Store It) (L : Nat → Lay) (F : List Nat) (iso : Int) (mn mx h n : Nat) (t : Tr It) (x ep : It) (_m : Nat) (_med : It) (W _W' _W2 : World) (_L2 : Lay) (e : Ending) (W3 : World) : Prop :=
  ∃ p t' F' H' L', e = .returned (.tuple #[vv (Option.getD p ep), .bool p.isSome, .bool false]) ∧ Step TT E W H L F W3 H' L' F' ∧ Rep H' iso h n t' F' ∧ F'.Nodup ∧ wfr t.its.length mn mx h t' ∧ Put ilt (flat h t) x (flat h t') p

/-- Where a key belongs behind a split. -/
theorem loc_split {its : List It} {k : Ky} {i : Nat} (hloc : Loc its k i false) {med : It} (hs : Sorted ilt (its.take i ++ med :: its.drop i)) {j : Nat} (h : Loc (its.take i ++ med :: its.drop i) k j false) : j = i ∨ j = i + 1 := by
  obtain ⟨lA, lB⟩ := loc_none hloc
  have hil := hloc.1
  have hA : (its.take i).length = i := by simp; omega
  have mk : ∀ (A B : List It) (l : List It), A ++ B = l → (∀ a ∈ A, klt (ky a) k = true) → (∀ b ∈ B, klt k (ky b) = true) → Loc l k A.length false := by
    rintro A B l rfl h1 h2
    refine ⟨by simp, fun j y hj hy => ?_, fun j y hj hy => ?_⟩
    · rw [List.getElem?_append_left hj] at hy
      exact h1 y (List.mem_of_getElem? hy)
    · rw [List.getElem?_append_right hj] at hy
      exact h2 y (List.mem_of_getElem? hy)
  cases h1 : klt k (ky med) with
  | true =>
    have := mk (its.take i) (med :: its.drop i) _ rfl lA (fun b hb => by
      rcases List.mem_cons.1 hb with rfl | hb
      · exact h1
      · exact lB b hb)
    rw [hA] at this
    exact .inl (Loc.uniq hs h this).1
  | false =>
    cases h2 : klt (ky med) k with
    | true =>
      have := mk (its.take i ++ [med]) (its.drop i) (its.take i ++ med :: its.drop i) (by simp) (fun a ha => by
        rcases List.mem_append.1 ha with ha | ha
        · exact lA a ha
        · obtain rfl := List.mem_singleton.1 ha; exact h2) lB
      rw [List.length_append, hA] at this
      exact .inr (Loc.uniq hs h this).1
    | false =>
      have : Loc (its.take i ++ med :: its.drop i) k i true := ⟨by simp; omega, med, by rw [List.getElem?_append_right (by omega), hA]; simp, h1, h2⟩
      have := (Loc.uniq hs h this).2
      cases this

/-- Setting below: the child is full, the node is not. -/
theorem set_succ_retry {w : World} {b : Nat} {hr : HRec} {pb po n : Nat} {H : Store It} {L : Nat → Lay} {h : Nat} {t : Tr It} {F : List Nat} {mn mx : Nat} (P : SetPre w b hr pb po n H L (h + 1) t F mn mx) (x : It) {i : Nat} (hloc : Loc t.its (ky x) i false)
    {k : Tr It} (hk : t.ks[i]? = some k) (hfull : t.its.length ≠ mx) (ha : Asks mx h k (ky x))
    (IH : ∀ (k : Tr It) (w : World) (pb po n : Nat) (H : Store It) (L : Nat → Lay) (F : List Nat), SetPre w b hr pb po n H L h k F mn mx → Calls Try.prog 196 #[ptr b, .pointer (some ⟨pb, po, none⟩), pv x] w (SetPost w H L F hr.iso mn mx h n k x hr.emp)) :
    Calls Try.prog 196 #[ptr b, .pointer (some ⟨pb, po, none⟩), pv x] w (SetPost w H L F hr.iso mn mx (h + 1) n t x hr.emp) := by
  obtain ⟨r, N1, N2, c, K1, K2, F1, Fk, F2, A⟩ := around_of P.rep P.wf hk
  have hat := P.mem.at_ n r A.rec_
  have ht := A.tq
  have hits : t.its = r.items := by rw [ht]; rfl
  have hs : Sorted ilt r.items := by rw [← hits]; exact own_sorted P.wf P.srt
  have hlen : r.items.length ≤ 1000000000000 := by have := P.hb; have := A.le; omega
  obtain ⟨kb, ko, hka, _⟩ := ((hat.2.2.2 _ A.kids).2.1).form (by simp; omega)
  have hc : (N1 ++ c :: N2)[i]? = some c := by rw [← A.ln]; simp
  have lr := A.lr
  have lk := A.lk
  have ln := A.ln
  have ln2 := A.ln2
  have h3 := P.h3
  have hb := P.hb
  have hmn := P.hmn
  rw [hits] at hloc hfull
  obtain ⟨lA, lB⟩ := loc_none hloc
  have hI : r.items.take i ++ r.items.drop i = r.items := List.take_append_drop _ _
  have hIl : (r.items.take i).length = i := by rw [List.length_take]; omega
  have hIr : (r.items.drop i).length = K2.length := by rw [List.length_drop]; omega
  have et : t = .node (r.items.take i ++ r.items.drop i) (K1 ++ k :: K2) := by rw [hI]; exact ht
  obtain ⟨C, D, hCD, _, _⟩ := flat_around (lt := ilt) (x := x) iord (h := h) (I1 := r.items.take i) (I2 := r.items.drop i) (K1 := K1) (K2 := K2) (k := k) (by omega) (by omega) (by rw [← et]; exact P.srt) lA lB
  have srt := P.srt
  have big := P.big
  have nd := P.nd
  rw [et, hCD] at srt big
  rw [A.Fq] at nd
  have hnF := List.nodup_cons.1 nd
  have nd2 := List.nodup_append.1 hnF.2
  have nd1 := List.nodup_append.1 nd2.1
  have old : ∀ m, m ∈ n :: (F1 ++ Fk ++ F2) → m < w.heap.size := fun m hm => P.bnd m (by rw [A.Fq]; exact hm)
  obtain ⟨hcF, rc, hrc, hci, hcits, _⟩ := A.rk.root
  have hkfull := ha.full
  have hi2 : mx / 2 < k.its.length := by omega
  refine (set_inner_retry P.hdr P.cell hat A.isoq hlen hs hloc (by rw [P.hmx]; exact fun e => hfull (by omega)) A.kids hka hc (by simp; omega) (Halves H L c rc hr.iso (mx / 2)) (RetryR H L F hr.iso mn mx (h + 1) n t x hr.emp) (fun W hK => ?_) (fun W hK => ?_) (fun W m med W' W2 Ln pq hK hG hMid hpq hcell hHdr => ?_)).mono ?_
  · refine (IH k W kb (ko + i) c H L Fk (P.child A.rec_ A.kids hka hc A.rk nd1.2.1 A.wk srt.mid (by simp at big; omega) hK)).mono ?_
    rintro e W' (⟨_, h2⟩ | ⟨h1, _⟩)
    · exact h2
    · exact absurd ha h1
  · have memW := P.mem.keepS hK (fun _ _ _ _ _ _ h => h)
    have hdrW := blk_keep P.hdr hK fun _ h => h
    refine (split_step hdrW memW P.hmx P.h3 P.hb A.rk A.wk nd1.2.1 hkfull (by simp at big; omega) hrc).mono ?_
    rintro e W' ⟨m, med, rfl, h4, hH⟩
    refine ⟨m, med, rfl, h4.mono fun a o _ hf => (P.mem.at_ c rc hrc).lt hf, ?_, ?_, hH⟩
    · exact (memW.at_ n r A.rec_).keep h4 fun a o hf hg => P.mem.sep n c r rc (fun e => hnF.1 (by rw [e]; simp [hcF])) A.rec_ hrc a o hf hg
    · exact blk_keep hdrW h4 fun o hf => hdr_apart hdrW (memW.at_ c rc hrc) hf
  · obtain ⟨hmed, hmW, L', st⟩ := hG
    have hws : w.heap.size ≤ W.heap.size := hK.size
    have hmn0 : H m = none := by
      cases hq : H m with
      | none => rfl
      | some q => have := P.mem.lt hq; omega
    have memW := P.mem.keepS hK (fun _ _ _ _ _ _ h => h)
    obtain ⟨Fc1, Fc2, rfl, RL, RR⟩ := A.rk.halves A.wk nd1.2.1 hrc hmn0 hi2
    have hcn : c ≠ n := fun e => hnF.1 (by rw [← e]; simp)
    have hmne : ∀ a, a ∈ n :: (F1 ++ c :: (Fc1 ++ Fc2) ++ F2) → a ≠ m := fun a ha e => by have := old a ha; omega
    have ndc := List.nodup_cons.1 nd1.2.1
    have dom : ∀ a, a ∈ (n :: F1) ++ (Fc1 ++ Fc2 ++ F2) → a ∉ [c] ∧ ∃ q, H a = some q := fun a ha => by
      refine ⟨fun hf => ?_, P.rep.dom a ?_⟩
      · obtain rfl := List.mem_singleton.1 hf
        simp only [List.mem_append, List.mem_cons] at ha
        rcases ha with (rfl | ha) | (ha | ha) | ha
        · exact hcn rfl
        · exact nd1.2.2 a ha a (by simp) rfl
        · exact ndc.1 (by simp [ha])
        · exact ndc.1 (by simp [ha])
        · exact nd2.2.2 a (by simp) a ha rfl
      · rw [A.Fq]
        simp only [List.mem_append, List.mem_cons] at ha ⊢
        rcases ha with (ha | ha) | (ha | ha) | ha <;> simp [ha]
    have st1 := st.frame (n :: F1) (Fc1 ++ Fc2 ++ F2) dom
    obtain ⟨o1, o2⟩ := st.out n (by simpa using fun e => hcn e.symm) r A.rec_
    have st2 := Step.then memW st1 (n := n) (r := r) (r' := grown r (N1 ++ c :: N2) i m med) (l' := Ln) (X := fun _ _ => False) (by simp) o1 (hMid.keep.mono fun a o _ hf => .inl (by rw [o2]; exact hf)) (fun _ _ h => h.elim) (fun _ _ _ _ _ _ h => h) hMid.node (fun a o hb2 hf => by rw [o2]; exact hMid.fp a o hb2 hf)
    have st3 := st2.same (G' := n :: (F1 ++ c :: Fc1 ++ (m :: Fc2 ++ F2))) (fun a => by
      simp only [List.mem_append, List.mem_cons, List.not_mem_nil, or_false]
      grind)
    have eF : (n :: F1) ++ [c] ++ (Fc1 ++ Fc2 ++ F2) = F := by rw [A.Fq]; simp
    rw [eF] at st3
    clear st2 st1
    generalize hH2 : upd (upd (upd H c (some (halfL H hr.iso rc (mx / 2)))) m (some (halfR H hr.iso rc (mx / 2)))) n (some (grown r (N1 ++ c :: N2) i m med)) = H2 at st3
    generalize upd L' n Ln = LL2 at st3
    have hkm : k.its[mx / 2]? = some med := by rw [← hcits]; exact hmed
    have hfc := flat_cut A.wk hkm
    have hfl : flat (h + 1) (.node (r.items.take i ++ med :: r.items.drop i) (K1 ++ cutL (mx / 2) k :: cutR (mx / 2) k :: K2)) = flat (h + 1) t := by
      rw [et]
      exact flat_split (by omega) hfc
    have hks : (N1 ++ c :: N2).take (i + 1) ++ m :: (N1 ++ c :: N2).drop (i + 1) = N1 ++ c :: m :: N2 := by
      rw [← ln, List.take_length_add_append, List.drop_length_add_append]; simp
    have out2 : ∀ a, a ∈ F1 ++ F2 → H2 a = H a := fun a ha => by
      have e1 : a ≠ n := fun e => hnF.1 (by subst e; simp only [List.mem_append] at ha ⊢; rcases ha with h | h <;> simp [h])
      have e2 : a ≠ m := hmne a (by simp only [List.mem_append, List.mem_cons] at ha ⊢; rcases ha with h | h <;> simp [h])
      have e3 : a ≠ c := fun e => by
        subst e
        rcases List.mem_append.1 ha with h | h
        · exact nd1.2.2 a h a (by simp) rfl
        · exact nd2.2.2 a (by simp) a h rfl
      rw [← hH2, upd_ne _ _ e1, upd_ne _ _ e2, upd_ne _ _ e3]
    have outc : ∀ a, a ∈ c :: Fc1 ++ m :: Fc2 → H2 a = upd (upd H c (some (halfL H hr.iso rc (mx / 2)))) m (some (halfR H hr.iso rc (mx / 2))) a := fun a ha => by
      rw [← hH2]
      refine upd_ne _ _ fun e => ?_
      subst e
      simp only [List.mem_append, List.mem_cons] at ha
      rcases ha with (h | h) | (h | h)
      · exact hcn h.symm
      · exact hnF.1 (by simp [h])
      · exact hmne a (by simp) h
      · exact hnF.1 (by simp [h])
    have A1 : RepL (Rep H2 hr.iso h) N1 K1 F1 := A.r1.imp fun a t G hG hR => hR.congr fun a ha => out2 a (by simp [hG a ha])
    have A2 : RepL (Rep H2 hr.iso h) N2 K2 F2 := A.r2.imp fun a t G hG hR => hR.congr fun a ha => out2 a (by simp [hG a ha])
    have AL : Rep H2 hr.iso h c (cutL (mx / 2) k) (c :: Fc1) := RL.congr fun a ha => outc a (by simp only [List.mem_append]; exact .inl ha)
    have AR : Rep H2 hr.iso h m (cutR (mx / 2) k) (m :: Fc2) := RR.congr fun a ha => outc a (by simp only [List.mem_append]; exact .inr ha)
    have hcw := cut_wf A.wk (l1 := mn) (l2 := mn) hi2 (by omega) (by omega)
    have rep2 : Rep H2 hr.iso (h + 1) n (.node (r.items.take i ++ med :: r.items.drop i) (K1 ++ cutL (mx / 2) k :: cutR (mx / 2) k :: K2)) (n :: (F1 ++ c :: Fc1 ++ (m :: Fc2 ++ F2))) := by
      refine ⟨grown r (N1 ++ c :: N2) i m med, N1 ++ c :: m :: N2, _, by rw [← hH2, upd_same], A.isoq, rfl, by simp only [grown, hks], ?_, ?_, rfl⟩
      · rw [hfl]; exact A.cnt
      · rw [List.append_assoc]
        exact RepL.join (R := Rep H2 hr.iso h) (N2 := c :: m :: N2) (K2 := cutL (mx / 2) k :: cutR (mx / 2) k :: K2) ⟨c :: Fc1, m :: Fc2 ++ F2, AL, ⟨m :: Fc2, F2, AR, A2, rfl⟩, rfl⟩ A1
    have nd3 : (n :: (F1 ++ c :: Fc1 ++ (m :: Fc2 ++ F2))).Nodup := by
      have hp : (n :: (F1 ++ c :: Fc1 ++ (m :: Fc2 ++ F2))).Perm (m :: (n :: (F1 ++ c :: (Fc1 ++ Fc2) ++ F2))) := by
        have h1 : (n :: (F1 ++ c :: Fc1) ++ m :: (Fc2 ++ F2)).Perm (m :: (n :: (F1 ++ c :: Fc1) ++ (Fc2 ++ F2))) := List.perm_middle
        simpa using h1
      rw [hp.nodup_iff]
      exact List.nodup_cons.2 ⟨fun h => hmne m h rfl, nd⟩
    have wf2 : wfr 0 mn mx (h + 1) (.node (r.items.take i ++ med :: r.items.drop i) (K1 ++ cutL (mx / 2) k :: cutR (mx / 2) k :: K2)) := by
      have := A.le
      refine ⟨Nat.zero_le _, by simp only [Tr.its, List.length_append, List.length_cons]; omega, by simp only [Tr.its, Tr.ks, List.length_append, List.length_cons]; omega, fun k' hk' => ?_⟩
      simp only [Tr.ks, List.mem_append, List.mem_cons] at hk'
      rcases hk' with hk' | rfl | rfl | hk'
      · exact A.wo k' (by simp [hk'])
      · exact hcw.1
      · exact hcw.2
      · exact A.wo k' (by simp [hk'])
    have P2 : SetPre W2 b hr pq 0 n H2 LL2 (h + 1) (.node (r.items.take i ++ med :: r.items.drop i) (K1 ++ cutL (mx / 2) k :: cutR (mx / 2) k :: K2)) (n :: (F1 ++ c :: Fc1 ++ (m :: Fc2 ++ F2))) mn mx :=
      ⟨hHdr, hcell, st3.mem, rep2, nd3, wf2, by rw [hfl]; exact P.srt, P.hmx, P.h3, P.hb, P.hmn, by rw [hfl]; exact P.big⟩
    have srt2 : Sorted ilt (r.items.take i ++ med :: r.items.drop i) := own_sorted wf2 P2.srt
    have hcL : (cutL (mx / 2) k).its.length = mx / 2 := by show (k.its.take (mx / 2)).length = _; rw [List.length_take]; omega
    have hcR : (cutR (mx / 2) k).its.length = mx - (mx / 2 + 1) := by show (k.its.drop (mx / 2 + 1)).length = _; rw [List.length_drop]; omega
    have kid : ∀ j k', Loc (r.items.take i ++ med :: r.items.drop i) (ky x) j false → (K1 ++ cutL (mx / 2) k :: cutR (mx / 2) k :: K2)[j]? = some k' → k'.its.length ≠ mx := fun j k' hj hk' => by
      rcases loc_split hloc srt2 hj with rfl | rfl
      · rw [List.getElem?_append_right (by omega)] at hk'
        simp [lk] at hk'
        subst hk'
        omega
      · rw [List.getElem?_append_right (by omega)] at hk'
        simp [lk] at hk'
        subst hk'
        omega
    have hnA : ¬ Asks mx (h + 1) (.node (r.items.take i ++ med :: r.items.drop i) (K1 ++ cutL (mx / 2) k :: cutR (mx / 2) k :: K2)) (ky x) := by
      rintro ⟨_, j, c', h1, h2, h5⟩
      exact kid j c' h1 h2 h5.full
    have call : Calls Try.prog 196 #[ptr b, .pointer (some ⟨pq, 0, none⟩), pv x] W2 (SetPost W2 H2 LL2 (n :: (F1 ++ c :: Fc1 ++ (m :: Fc2 ++ F2))) hr.iso mn mx (h + 1) n (.node (r.items.take i ++ med :: r.items.drop i) (K1 ++ cutL (mx / 2) k :: cutR (mx / 2) k :: K2)) x hr.emp) := by
      obtain ⟨j, f, hj⟩ := Loc.ex (ky x) (r.items.take i ++ med :: r.items.drop i) srt2
      cases f with
      | true => exact set_succ_found P2 x hj
      | false =>
        have hjl : j < (K1 ++ cutL (mx / 2) k :: cutR (mx / 2) k :: K2).length := by have := hj.1; simp at this ⊢; omega
        have hk' : (K1 ++ cutL (mx / 2) k :: cutR (mx / 2) k :: K2)[j]? = some ((K1 ++ cutL (mx / 2) k :: cutR (mx / 2) k :: K2)[j]) := List.getElem?_eq_getElem hjl
        exact set_succ_go P2 x hj hk' (fun h => kid j _ hj hk' h.full) (fun w pb po n H L F => IH _ w pb po n H L F)
    refine call.mono ?_
    rintro e W3 (⟨h1, _⟩ | ⟨_, p, t', F', H', L3, rfl, st4, rep', nd', wf', put⟩)
    · exact absurd h1 hnA
    · have st5 := st3.trans st4 (fun a q ha hq => by
        rw [← eF]
        simp only [List.mem_append, List.mem_cons] at ha
        rcases ha with ha | (ha | ha | ha) | ((ha | ha) | ha)
        · simp [ha]
        · simp [ha]
        · simp [ha]
        · simp [ha]
        · subst ha; rw [hmn0] at hq; cases hq
        · simp [ha]
        · simp [ha])
      refine ⟨⟨p, t', F', H', L3, rfl, st5, rep', nd', ?_, ?_⟩, ⟨_, _, _, rfl⟩, ?_⟩
      · refine wf'.weaken ?_
        have := wf'.own_le.1
        have e : (Tr.node (r.items.take i ++ med :: r.items.drop i) (K1 ++ cutL (mx / 2) k :: cutR (mx / 2) k :: K2)).its.length = r.items.length + 1 := by show (r.items.take i ++ med :: r.items.drop i).length = _; simp; omega
        rw [hits]
        omega
      · rw [hfl] at put; exact put
      · refine st4.keep.mono fun a o _ ⟨m', q, _, hq, hf⟩ => ?_
        have := Step.clear P.mem hK st3 m' q hq a o hf
        omega
  · rintro e w' ⟨W, m, med, W', W2, L2, W3, hK, _, _, ⟨p, t', F', H', L3, rfl, st, rep', nd', wf', put⟩, hK3⟩
    refine .inr ⟨fun h => hfull (by rw [← hits]; exact h.full), p, t', F', H', L3, rfl, (Step.pre hK st).post hK3 (fun _ _ h => h.1) (Step.clear P.mem hK st), rep', nd', wf', put⟩

/-- SETTING BELOW A NODE: what it leaves. -/
theorem set_any {b : Nat} {hr : HRec} {mn mx : Nat} (x : It) : ∀ (h : Nat) (t : Tr It) (w : World) (pb po n : Nat) (H : Store It) (L : Nat → Lay) (F : List Nat), SetPre w b hr pb po n H L h t F mn mx →
    Calls Try.prog 196 #[ptr b, .pointer (some ⟨pb, po, none⟩), pv x] w (SetPost w H L F hr.iso mn mx h n t x hr.emp)
  | 0, t, w, pb, po, n, H, L, F, P => set_zero P x
  | h + 1, t, w, pb, po, n, H, L, F, P => by
    obtain ⟨i, f, hloc⟩ := Loc.ex (ky x) t.its (own_sorted P.wf P.srt)
    cases f with
    | true => exact set_succ_found P x hloc
    | false =>
      have hil : i < t.ks.length := by have := hloc.1; have := P.wf.2.2.1; omega
      have hk : t.ks[i]? = some t.ks[i] := List.getElem?_eq_getElem hil
      by_cases ha : Asks mx h t.ks[i] (ky x)
      · by_cases hfull : t.its.length = mx
        · exact set_succ_full P x hloc hk hfull ha (set_any x h _)
        · exact set_succ_retry P x hloc hk hfull ha (set_any x h)
      · exact set_succ_go P x hloc hk ha (set_any x h _)
end Go.Proofs.Ytckplcmieelmpaa.S

namespace Go.Proofs.Ytckplcmieelmpaa.S
open Go.RowKit Go.Wb

/-- A tree's shape: none, or a root of some height. -/
abbrev Sh := Option (Nat × Tr It)
def its : Sh → List It
  | none => []
  | some (h, t) => flat h t
def RootAt (H : Store It) (iso : Int) (root : Option Nat) (F : List Nat) (mn mx : Nat) : Sh → Prop
  | none => root = none ∧ F = []
  | some (h, t) => ∃ n, root = some n ∧ Rep H iso h n t F ∧ wfr 1 mn mx h t
/-- The sizes of nodes. -/
structure ParOk (hr : HRec) (mn mx : Nat) : Prop where
  cv : hr.cv = false
  icv : hr.icv = false
  one : (hr.mn = (mn : Int) ∧ hr.mx = (mx : Int)) ∨ (hr.mn = 0 ∧ hr.root = none ∧ mn = 31 ∧ mx = 63)
  odd : mx = 2 * mn + 1
  pos : 1 ≤ mn
  hb : mx ≤ 1000000000000

/-- A tree lies in w: its head at block b, its nodes F. -/
structure TreeAt (w : World) (b : Nat) (hr : HRec) (H : Store It) (L : Nat → Lay) (F : List Nat) (mn mx : Nat) (s : Sh) : Prop where
  hdr : Hdr w b hr
  mem : Mem TT E w H L
  nd : F.Nodup
  root : RootAt H hr.iso hr.root F mn mx s
  cnt : hr.cnt = ((its s).length : Int)
  srt : Sorted ilt (its s)
  par : ParOk hr mn mx

theorem TreeAt.keep {w w' : World} {b : Nat} {hr : HRec} {H : Store It} {L : Nat → Lay} {F : List Nat} {mn mx : Nat} {s : Sh} (h : TreeAt w b hr H L F mn mx s) (hk : Keep Nothing w w') : TreeAt w' b hr H L F mn mx s :=
  ⟨blk_keep h.hdr hk fun _ h => h, h.mem.keepS hk fun _ _ _ _ _ _ h => h, h.nd, h.root, h.cnt, h.srt, h.par⟩

/-- What setting leaves of a tree. -/
def SetT (w : World) (b : Nat) (hr : HRec) (H : Store It) (L : Nat → Lay) (F : List Nat) (mn mx : Nat) (s : Sh) (x : It) (e : Ending) (w' : World) : Prop :=
  ∃ hr' H' L' F' s' p, e = .returned (.tuple #[vv (Option.getD p hr.emp), .bool p.isSome]) ∧ TStep TT E (fun c _ => c = b) w H L F w' H' L' F' ∧ TreeAt w' b hr' H' L' F' mn mx s' ∧ Put ilt (its s) x (its s') p ∧
    hr'.iso = hr.iso ∧ hr'.ctr = hr.ctr ∧ hr'.emp = hr.emp ∧ hr'.root.isSome = true

theorem hdr_root {w : World} {b : Nat} {h : HRec} (hh : Hdr w b h) : w.cell? ⟨b, 2, none⟩ = some (rootV h.root) := (hdr_cells hh).2.2.1
theorem hdr_cnt {w : World} {b : Nat} {h : HRec} (hh : Hdr w b h) : w.cell? ⟨b, 3, none⟩ = some (.int .i64 h.cnt) := (hdr_cells hh).2.2.2.1
theorem hdr_fz {w : World} {b : Nat} {h : HRec} (hh : Hdr w b h) : ∀ o, w.frozen? ⟨b, o, none⟩ = false := (hdr_cells hh).2.2.2.2.2.2.2.2.2.1
theorem hdr_set_cnt {w : World} {b : Nat} {h : HRec} (hh : Hdr w b h) (c : Int) : Hdr (w.setCell ⟨b, 3, none⟩ (.int .i64 c)) b { h with cnt := c } := by
  unfold Hdr at hh ⊢; rw [blk_set _ hh]; rfl
theorem hdr_set_root {w : World} {b : Nat} {h : HRec} (hh : Hdr w b h) (r : Option Nat) : Hdr (w.setCell ⟨b, 2, none⟩ (rootV r)) b { h with root := r } := by
  unfold Hdr at hh ⊢; rw [blk_set _ hh]; rfl
theorem fold0 (f : Array Value → (Value × Nat) → Array Value) (i : Array Value) : Array.foldl f i ((#[] : Array Value).zipIdx) 0 0 = i := rfl
end Go.Proofs.Ytckplcmieelmpaa.S

namespace Go.Proofs.Ytckplcmieelmpaa.S
open Go.RowKit Go.Wb

theorem root_pre {w : World} {b : Nat} {hr : HRec} {H : Store It} {L : Nat → Lay} {F : List Nat} {mn mx h : Nat} {t : Tr It} (T : TreeAt w b hr H L F mn mx (some (h, t))) (big : (flat h t).length ≤ 3000000000000000000) :
    ∃ n, hr.root = some n ∧ ∀ W, Keep Nothing w W → SetPre W b hr b 2 n H L h t F mn mx := by
  obtain ⟨n, hroot, rep, wf⟩ := T.root
  refine ⟨n, hroot, fun W hK => ?_⟩
  have T' := T.keep hK
  have odd := T.par.odd
  have pos := T.par.pos
  have hmx : hr.mx = (mx : Int) := by
    rcases T.par.one with h | ⟨_, h, _⟩
    · exact h.2
    · rw [hroot] at h; cases h
  have hc := hdr_root T'.hdr
  rw [hroot] at hc
  exact ⟨T'.hdr, hc, T'.mem, rep, T.nd, wf.weaken (Nat.zero_le _), T.srt, hmx, by omega, T.par.hb, by omega, big⟩

/-- Behind the setting below the root. -/
def PlainRel (w : World) (H : Store It) (L : Nat → Lay) (F : List Nat) (iso : Int) (mn mx h n : Nat) (t : Tr It) (x _ep : It) (s9 s10 s11 : Value) (wx : World) : Prop :=
  ∃ W W' g p t' F' H' L', Keep Nothing w W ∧ Step TT E W H L F W' H' L' F' ∧ Rep H' iso h n t' F' ∧ F'.Nodup ∧ wfr t.its.length mn mx h t' ∧ Put ilt (flat h t) x (flat h t') p ∧ Keep Nothing W' wx ∧
    s9 = .pointer (some ⟨g, 0, none⟩) ∧ s10 = .bool p.isSome ∧ s11 = .bool false

set_option maxRecDepth 100000 in
set_option maxHeartbeats 4000000 in
theorem set_plain {w : World} {b : Nat} {hr : HRec} {H : Store It} {L : Nat → Lay} {F : List Nat} {mn mx h : Nat} {t : Tr It} (T : TreeAt w b hr H L F mn mx (some (h, t))) (big : (flat h t).length ≤ 3000000000000000000) (x : It) (hna : ¬ Asks mx h t (ky x)) :
    Calls Try.prog 172 #[ptr b, kv (ky x), vv x] w (SetT w b hr H L F mn mx (some (h, t)) x) := by
  obtain ⟨n, hroot, hpre⟩ := root_pre T big
  have hcall : ∀ W, Keep Nothing w W → Calls Try.prog 196 #[ptr b, .pointer (some ⟨b, 2, none⟩), pv x] W (SetPost W H L F hr.iso mn mx h n t x hr.emp) := fun W hK => set_any x h t W b 2 n H L F (hpre W hK)
  have HT := Lib.hid T
  have HC := Lib.hid hcall
  have HR := Lib.hid hroot
  have HNA := Lib.hid hna
  have HBIG := Lib.hid big
  clear T hcall hroot hpre hna big
  unfold ptr pv kv vv at *
  have hf0 := fold0
  go_enter Try.func172, Try.ntmps172
  go_upto_region 2 with (fail)
  refine wp_world ?_
  intro W1 hW1
  generalize hq : w.heap.size = q at *
  have K1 : Hid (Keep Nothing w W1) := by
    subst hW1; exact (((Keep.refl _ _).al _).al _).al _
  have X1 : Hid (W1.heap[q + 2]? = some (.cells (E.enc x).toArray 181 (0, 0))) := by
    subst hW1; subst hq
    have h0 := heap_alloc_new ((w.alloc (.cells #[] 124)).alloc (.cells #[] 124)) (.cells (E.enc x).toArray 181)
    rw [World.size_alloc, World.size_alloc] at h0
    exact h0
  have Y1 : Hid (W1.heap[q + 1]? = some (.cells #[] 124 (0, 0))) := by
    subst hW1; subst hq
    have h0 := heap_alloc_new (w.alloc (.cells #[] 124)) (.cells #[] 124)
    rw [World.size_alloc] at h0
    exact blk_alloc _ h0
  have S1 : W1.heap.size = q + 3 := by subst hW1; rw [World.size_alloc, World.size_alloc, World.size_alloc, hq]
  have XQ := Lib.hid hq
  clear hW1 hq
  have H1 : Hid (Hdr W1 b hr) := by exact blk_keep HT.out.hdr K1.out fun _ h => h
  have c2 := hdr_root H1.out
  rw [HR.out] at c2
  simp only [rootV, Option.map_some] at c2
  have fz := hdr_fz H1.out
  go_upto_region 9 with (fail)
  clear c2 fz
  have hfp : Hid (∀ c o, q ≤ c → ¬ FP TT H L F c o) := by
    rintro c o hc ⟨m, r, _, hr, hf⟩
    have := (HT.out.mem.at_ m r hr).lt hf
    have := XQ.out
    omega
  go_cut [9, 10, 11] (fun s9 s10 s11 wx => PlainRel w H L F hr.iso mn mx h n t x hr.emp s9 s10 s11 wx ∧ wx.heap[q + 1]? = some (.cells #[] 124 (0, 0)))
  case first =>
    have kx : W1.cell? ⟨q + 1 + 1, 0, none⟩ = some (.int .i64 (ky x)) := by have := X1.out; simp only [World.cell?, this]; rfl
    go_region_held3 (fun w' => w'.cell? ⟨q + 1 + 1, 0, none⟩ = some (.int .i64 (ky x))) (first | go_keep)
      ((go_at_call 196; refine (HC.out _ ?_).mono ?_; (first | exact K1.out.dr | exact (K1.out.al _).dr); rintro e w' (⟨h1, _⟩ | ⟨_, p, t', F', H', L', rfl, st, h2⟩); exact absurd h1 HNA.out; (have kx' : w'.cell? ⟨q + 1 + 1, 0, none⟩ = some (.int .i64 (ky x)) := by (refine st.keep.cell' (by assumption) ?_; exact hfp.out _ _ (by omega))); unfold vv))
    all_goals
      go_wp2_with fail
      go_meet
      obtain ⟨r1, r2, r3, r4⟩ := h2
      first
        | exact ⟨⟨_, _, _, p, t', F', H', L', K1.out.dr, st, r1, r2, r3, r4, (Keep.refl _ _).al _, rfl, rfl, rfl⟩, blk_alloc _ (blk_keep (blk_drew Y1.out) st.keep fun o => hfp.out _ _ (by omega))⟩
        | exact ⟨⟨_, _, _, p, t', F', H', L', (K1.out.al _).dr, st, r1, r2, r3, r4, Keep.refl _ _, rfl, rfl, rfl⟩, blk_keep (blk_drew (blk_alloc _ Y1.out)) st.keep fun o => hfp.out _ _ (by omega)⟩
  case rest =>
    obtain ⟨⟨W, W', g, p, t', F', H', L', hKW, st, r1, r2, r3, r4, hK9, rfl, rfl, rfl⟩, hY⟩ := hcut
    have T := HT.out
    have hapW : ∀ m r o, H m = some r → ¬ fp TT m r (L m) b o := fun m r o hr hf => hdr_apart T.hdr (T.mem.at_ m r hr) hf
    have HW' : Hdr W' b hr := blk_keep (blk_keep T.hdr hKW fun _ h => h) st.keep fun o ⟨m, r, _, hr, hf⟩ => hapW m r o hr hf
    have H9 := Lib.hid (blk_keep HW' hK9 fun _ h => h : Hdr wc b hr)
    have hap' : Hid (∀ m r, H' m = some r → ∀ c o, fp TT m r (L' m) c o → c ≠ b) := by exact fun m r hr c o hf e => hdr_apart HW' (st.mem.at_ m r hr) (e ▸ hf)
    have ST := Lib.hid st
    have R1 := Lib.hid r1
    have R2 := Lib.hid r2
    have R3 := Lib.hid (r3.weaken (Nat.le_trans T.root.choose_spec.2.2.own_le.1 r3.own_le.1) : wfr 1 mn mx h t')
    have R4 := Lib.hid r4
    have K9 := Lib.hid hK9
    have KW := Lib.hid hKW
    have HB := Lib.hid T.cnt
    clear hKW st r1 r2 r3 r4 hK9 HW' hapW T
    replace hY := Lib.hid hY
    have hcb : -9223372036854775808 ≤ hr.cnt + 1 ∧ hr.cnt + 1 ≤ 9223372036854775807 := by
      have := HB.out
      have := HBIG.out
      simp only [its] at *
      omega
    cases p with
    | some y =>
      go_wp2_with fail
      refine bodyPost_ret (results_cell_tmp_row rfl _ _ (q + 1) 124 #[] (0, 0) _ rfl hY.out Try.underlying124 rfl (by kernel_rfl)) rfl ?_
      have T := HT.out
      have put := R4.out
      have hpl := put_len put
      refine ⟨hr, H', L', F', some (h, t'), some y, rfl, ((ST.out.t _).pre KW.out).post (K9.out.mono fun _ _ _ h => h.elim : Keep (fun c _ => c = b) _ _) (fun _ _ _ h => h) (fun m r hr c o hf => hap'.out m r hr c o hf), ?_, put, rfl, rfl, rfl, by rw [HR.out]; rfl⟩
      refine ⟨H9.out, ST.out.mem.keepS K9.out fun _ _ _ _ _ _ h => h, R2.out, ⟨n, HR.out, R1.out, R3.out⟩, ?_, put.sorted T.srt, T.par⟩
      have := T.cnt
      simp only [its] at *
      simp at hpl
      omega
    | none =>
      have c3 := hdr_cnt H9.out
      have fz := hdr_fz H9.out
      go_upto_region 22 with (fail)
      refine wp_world ?_
      intro W5 hW5
      have H5 : Hid (Hdr W5 b { hr with cnt := hr.cnt + 1 }) := by subst hW5; exact hdr_set_cnt H9.out _
      have K5 : Hid (Keep (fun c _ => c = b) wc W5) := by subst hW5; exact (Keep.refl _ _).set _ _ _ fun _ => rfl
      have Y5 : Hid (W5.heap[q + 1]? = some (.cells #[] 124 (0, 0))) := by exact blk_keep hY.out K5.out fun o e => by have := lt_of_heap HT.out.hdr; have := XQ.out; omega
      clear hW5 c3 fz
      have f0 := field0_hdr H5.out
      go_wp2_with fail
      refine bodyPost_ret (results_cell_tmp_row rfl _ _ (q + 1) 124 #[] (0, 0) _ rfl Y5.out Try.underlying124 rfl (by kernel_rfl)) rfl ?_
      have T := HT.out
      have put := R4.out
      have hpl := put_len put
      have KA : Keep (fun c _ => c = b) W' W5 := (K9.out.mono fun _ _ _ h => h.elim : Keep (fun c _ => c = b) W' wc).trans K5.out fun _ _ _ h => h
      refine ⟨{ hr with cnt := hr.cnt + 1 }, H', L', F', some (h, t'), none, rfl, ((ST.out.t _).pre KW.out).post KA (fun _ _ _ h => h) (fun m r hr c o hf => hap'.out m r hr c o hf), ?_, put, rfl, rfl, rfl, by show hr.root.isSome = true; rw [HR.out]; rfl⟩
      refine ⟨H5.out, ST.out.mem.keepS KA fun m r c o hr hf => hap'.out m r hr c o hf, R2.out, ⟨n, HR.out, R1.out, R3.out⟩, ?_, put.sorted T.srt, T.par.cv, T.par.icv, ?_, T.par.odd, T.par.pos, T.par.hb⟩
      · have := T.cnt
        simp only [its] at *
        simp at hpl
        omega
      · exact T.par.one
end Go.Proofs.Ytckplcmieelmpaa.S

namespace Go.Wb
open Go Go.RowKit
variable {α : Type} {T : Ty} {E : Enc α}

/-- A node is given up. -/
theorem TStep.drop {X : Nat → Nat → Prop} {w w' : World} {H H' : Store α} {L L' : Nat → Lay} {F F' G : List Nat} (hm : Mem T E w H L) (h : TStep T E X w H L F w' H' L' F') {n : Nat} (hn : n ∈ F') (hG : ∀ m, m ∈ G ↔ m ∈ F' ∧ m ≠ n) : TStep T E X w H L F w' (upd H' n none) L' G := by
  have ne : ∀ m r, upd H' n none m = some r → m ≠ n ∧ H' m = some r := fun m r hr => by
    by_cases e : m = n
    · subst e; rw [upd_same] at hr; cases hr
    · rw [upd_ne _ _ e] at hr; exact ⟨e, hr⟩
  refine ⟨⟨fun m r hr => h.mem.at_ m r (ne m r hr).2, fun a b p q hab hp hq x o hf hg => h.mem.sep a b p q hab (ne a p hp).2 (ne b q hq).2 x o hf hg⟩, h.keep, fun m hmF r hr => ?_, fun m hmG => h.new m ((hG m).1 hmG).1, fun b o hb hf => ?_, fun m r hr => ?_⟩
  · obtain ⟨h1, h2⟩ := h.out m hmF r hr
    have e : m ≠ n := fun e => by
      subst e
      rcases h.new m hn with h3 | h3
      · exact hmF h3
      · have := hm.lt hr; omega
    exact ⟨by rw [upd_ne _ _ e]; exact h1, h2⟩
  · obtain ⟨m, r, hmG, hr, hf⟩ := hf
    exact h.fp b o hb ⟨m, r, ((hG m).1 hmG).1, (ne m r hr).2, hf⟩
  · obtain ⟨e, hr'⟩ := ne m r hr
    exact (h.only m r hr').imp (fun h1 => (hG m).2 ⟨h1, e⟩) id
end Go.Wb

namespace Go.Proofs.Ytckplcmieelmpaa.S
open Go.RowKit Go.Wb

/-- What deleting leaves of a tree. -/
def DelT (w : World) (b : Nat) (hr : HRec) (H : Store It) (L : Nat → Lay) (F : List Nat) (mn mx : Nat) (s : Sh) (k : Ky) (e : Ending) (w' : World) : Prop :=
  ∃ hr' H' L' F' s' p, e = .returned (.tuple #[vv (Option.getD p hr.emp), .bool p.isSome]) ∧ TStep TT E (fun c _ => c = b) w H L F w' H' L' F' ∧ TreeAt w' b hr' H' L' F' mn mx s' ∧ Del ilt (its s) (mkIt k) (its s') p ∧
    hr'.iso = hr.iso ∧ hr'.ctr = hr.ctr ∧ hr'.emp = hr.emp

set_option maxRecDepth 100000 in
set_option maxHeartbeats 4000000 in
theorem del_none {w : World} {b : Nat} {hr : HRec} {H : Store It} {L : Nat → Lay} {F : List Nat} {mn mx : Nat} (T : TreeAt w b hr H L F mn mx none) (k : Ky) :
    Calls Try.prog 128 #[ptr b, kv k] w (DelT w b hr H L F mn mx none k) := by
  have HT := Lib.hid T
  clear T
  unfold ptr kv at *
  go_enter Try.func128, Try.ntmps128
  go_upto_region 1 with (fail)
  refine wp_world ?_
  intro W1 hW1
  have K1 : Hid (Keep Nothing w W1) := by subst hW1; exact (Keep.refl _ _).al _
  have Y1 : Hid (W1.heap[w.heap.size]? = some (.cells #[] 124 (0, 0))) := by subst hW1; exact heap_alloc_new w _
  clear hW1
  have H1 : Hid (Hdr W1 b hr) := by exact blk_keep HT.out.hdr K1.out fun _ h => h
  have c2 := hdr_root H1.out
  rw [HT.out.root.1] at c2
  simp only [rootV, Option.map_none] at c2
  have fz := hdr_fz H1.out
  have f0 := field0_hdr H1.out
  go_wp2_with fail
  refine bodyPost_ret (results_cell_tmp_row rfl _ _ w.heap.size 124 #[] (0, 0) _ rfl Y1.out Try.underlying124 rfl (by kernel_rfl)) rfl ?_
  have T := HT.out
  exact ⟨hr, H, L, F, none, none, rfl, (TStep.refl (T.keep K1.out).mem (fun c _ => c = b) F).pre K1.out, T.keep K1.out, ⟨rfl, [], [], rfl, by simp, by simp⟩, rfl, rfl, rfl⟩

theorem DelT.pre {w W w' : World} {b : Nat} {hr : HRec} {H : Store It} {L : Nat → Lay} {F : List Nat} {mn mx : Nat} {s : Sh} {k : Ky} {e : Ending} (hk : Keep Nothing w W) (h : DelT W b hr H L F mn mx s k e w') : DelT w b hr H L F mn mx s k e w' := by
   obtain ⟨hr', H', L', F', s', p, h1, ts, h2⟩ := h
   exact ⟨hr', H', L', F', s', p, h1, ts.pre hk, h2⟩
theorem field0_pair {w : World} {q : Nat} {v : Value} (h : w.heap[q]? = some (.cells #[v] 181 (0, 0))) : (partAt ⟨q, 0, none⟩ 0 0).run Try.prog w = .ok ⟨q, 0, none⟩ w :=
   run_part0 (sz := 1) (e := 181) (n := 1) (by simp [World.shape?, h]) (by kernel_rfl) (by omega) (by kernel_rfl)

/-- A tree behind a deletion: what becomes of its root. -/
structure Behind (W' : World) (hr : HRec) (H' : Store It) (iso : Int) (mn mx h n : Nat) (t' : Tr It) (F' : List Nat) : Prop where
  rep : Rep H' iso h n t' F'
  nd : F'.Nodup
  body : body mn mx h t'
  le : t'.its.length ≤ mx

theorem behind_same {W' : World} {hr : HRec} {H' : Store It} {iso : Int} {mn mx h n : Nat} {t' : Tr It} {F' : List Nat} (B : Behind W' hr H' iso mn mx h n t' F') (h1 : 1 ≤ t'.its.length) : RootAt H' iso (some n) F' mn mx (some (h, t')) ∧ 1 ≤ (flat h t').length := by
  have wf := B.body.wfr h1 B.le
  refine ⟨⟨n, rfl, B.rep, wf⟩, ?_⟩
  have := (own_sub wf).length_le
  omega
theorem behind_none {W' : World} {hr : HRec} {H' : Store It} {iso : Int} {mn mx n : Nat} {t' : Tr It} {F' : List Nat} (B : Behind W' hr H' iso mn mx 0 n t' F') (h0 : t'.its.length = 0) : F' = [n] ∧ flat 0 t' = [] := by
  obtain ⟨r, _, _, _, _, _, _, rfl⟩ := B.rep
  exact ⟨rfl, List.eq_nil_of_length_eq_zero h0⟩
theorem behind_down {W' : World} {hr : HRec} {H' : Store It} {iso : Int} {mn mx h n : Nat} {t' : Tr It} {F' : List Nat} (B : Behind W' hr H' iso mn mx (h + 1) n t' F') (hp : 1 ≤ mn) (h0 : t'.its.length = 0) :
    ∃ r c kc Fc, H' n = some r ∧ r.kids = some [c] ∧ F' = n :: Fc ∧ flat (h + 1) t' = flat h kc ∧ RootAt (upd H' n none) iso (some c) Fc mn mx (some (h, kc)) ∧ 1 ≤ (flat h kc).length ∧ Fc.Nodup ∧ n ∉ Fc := by
  obtain ⟨r, ns, G, h1, h2, h3, h4, h5, h6, rfl⟩ := B.rep
  obtain ⟨b1, b2⟩ := B.body
  obtain ⟨its, ks⟩ := t'
  simp only [Tr.its, Tr.ks] at *
  have hi : its = [] := List.eq_nil_of_length_eq_zero h0
  subst hi
  obtain ⟨kc, rfl⟩ : ∃ kc, ks = [kc] := by
    cases ks with
    | nil => simp at b1
    | cons k l => cases l with
      | nil => exact ⟨k, rfl⟩
      | cons _ _ => simp at b1
  have hnl := h6.len
  obtain ⟨c, rfl⟩ : ∃ c, ns = [c] := by
    cases ns with
    | nil => simp at hnl
    | cons k l => cases l with
      | nil => exact ⟨k, rfl⟩
      | cons _ _ => simp at hnl
  obtain ⟨Fc, F2, r1, r2, rfl⟩ := h6
  obtain rfl : F2 = [] := r2
  have nd := List.nodup_cons.1 B.nd
  rw [List.append_nil] at nd
  have wk := b2 kc (by simp)
  have hsub := (own_sub wk).length_le
  have := wk.own_le
  refine ⟨r, c, kc, Fc, h1, h4, by simp, by simp [flat, Tr.its, Tr.ks, weave, wr], ⟨c, rfl, r1.congr fun m hm => upd_ne _ _ fun e => nd.1 (e ▸ hm), wk.weaken (by omega)⟩, by omega, nd.2, nd.1⟩
end Go.Proofs.Ytckplcmieelmpaa.S

namespace Go.Proofs.Ytckplcmieelmpaa.S
open Go.RowKit Go.Wb

theorem del_pre {w : World} {b : Nat} {hr : HRec} {H : Store It} {L : Nat → Lay} {F : List Nat} {mn mx h : Nat} {t : Tr It} (T : TreeAt w b hr H L F mn mx (some (h, t))) (big : (flat h t).length ≤ 3000000000000000000) : ∃ n, hr.root = some n ∧ DelPre w b hr b 2 n H L h t F mn mx := by
  obtain ⟨n, hroot, hpre⟩ := root_pre T big
  have hm : hr.mn = (mn : Int) := by
    rcases T.par.one with h | ⟨_, h, _⟩
    · exact h.1
    · rw [hroot] at h; cases h
  obtain ⟨n', hn', rep, wf⟩ := T.root
  exact ⟨n, hroot, hpre w (Keep.refl _ _), hm, T.par.pos, wf.own_le.1⟩

set_option maxRecDepth 100000 in
set_option maxHeartbeats 4000000 in
theorem del_some (R : RebOK) {w : World} {b : Nat} {hr : HRec} {H : Store It} {L : Nat → Lay} {F : List Nat} {mn mx h : Nat} {t : Tr It} (T : TreeAt w b hr H L F mn mx (some (h, t))) (big : (flat h t).length ≤ 3000000000000000000) (k : Ky) :
    Calls Try.prog 128 #[ptr b, kv k] w (DelT w b hr H L F mn mx (some (h, t)) k) := by
  obtain ⟨n, hroot, hpre⟩ := del_pre T big
  have HC : Hid (∀ W, Keep Nothing w W → Calls Try.prog 173 #[ptr b, .pointer (some ⟨b, 2, none⟩), .bool false, kv k] W (DelPost W H L F hr.iso mn mx h n t false k hr.emp)) := by
    refine Lib.hid fun W hK => ?_
    obtain ⟨n', h1, h2⟩ := del_pre (T.keep hK) big
    rw [hroot] at h1
    cases h1
    exact del_any R h t W b 2 n H L F false k h2
  have HT := Lib.hid T
  have HBIG := Lib.hid big
  have HR := Lib.hid hroot
  have HPR := Lib.hid hpre
  clear T big hroot hpre
  unfold ptr kv at *
  go_enter Try.func128, Try.ntmps128
  go_upto_region 1 with (fail)
  refine wp_world ?_
  intro W0 hW0
  generalize hq0 : w.heap.size = q0 at *
  have K0 : Hid (Keep Nothing w W0) := by subst hW0; exact (Keep.refl _ _).al _
  have Y0 : Hid (W0.heap[q0]? = some (.cells #[] 124 (0, 0))) := by subst hW0; subst hq0; exact heap_alloc_new w _
  have hfp0 : Hid (∀ o, ¬ FP TT H L F q0 o) := by
    rintro o ⟨m, r, _, hr, hf⟩
    have := (HT.out.mem.at_ m r hr).lt hf
    omega
  have hbq0 : b < q0 := by have := lt_of_heap HT.out.hdr; omega
  have HTW := HT
  replace HT := Lib.hid (HT.out.keep K0.out)
  have hcl := Lib.hid (HC.out W0 K0.out)
  have c2 := hdr_root HT.out.hdr
  rw [HR.out] at c2
  simp only [rootV, Option.map_some] at c2
  clear hW0 hq0
  go_wp2_with fail
  refine hcl.out.mono ?_
  rintro e W' ⟨p, t', F', H', L', rfl, st, rep, nd, less, dl⟩
  have ST := Lib.hid st
  have T := HT.out
  have HW' := Lib.hid (blk_keep T.hdr st.keep fun o ⟨m, r, _, hr, hf⟩ => hdr_apart T.hdr (T.mem.at_ m r hr) hf : Hdr W' b hr)
  have hap' : Hid (∀ m r, H' m = some r → ∀ c o, fp TT m r (L' m) c o → c ≠ b) := by exact fun m r hr c o hf e => hdr_apart HW'.out (st.mem.at_ m r hr) (e ▸ hf)
  have hle : t'.its.length ≤ mx := by have := less.le; have := HPR.out.pre.wf.own_le.2; omega
  have BH : Hid (Behind W' hr H' hr.iso mn mx h n t' F') := by exact ⟨rep, nd, less.body, hle⟩
  have LS := Lib.hid less
  have DL := Lib.hid dl
  have hlen := dl.len
  have hcn := T.cnt
  simp only [its] at hcn
  have hbig := HBIG.out
  have YW : Hid (W'.heap[q0]? = some (.cells #[] 124 (0, 0))) := by exact blk_keep Y0.out st.keep fun o => hfp0.out o
  clear st rep nd less dl c2 T
  unfold pv kv
  go_upto_region 4 with (fail)
  refine wp_world ?_
  intro W1 hW1
  generalize hq : W'.heap.size = q at *
  have hbq : b < q := by rw [← hq]; exact lt_of_heap HW'.out
  have K1 : Hid (Keep Nothing W' W1) := by
    subst hW1
    exact (Keep.refl _ _).al _
  have X1 : Hid (W1.heap[q]? = some (.cells (E.enc (Option.getD p hr.emp)).toArray 181 (0, 0))) := by
    subst hW1
    subst hq
    exact heap_alloc_new W' _
  have Y1 := Lib.hid (blk_keep YW.out K1.out fun _ h => h)
  have XQ := Lib.hid hq
  clear hW1 hq
  have H1 := Lib.hid (blk_keep HW'.out K1.out fun _ h => h : Hdr W1 b hr)
  have M1 := Lib.hid (ST.out.mem.keepS K1.out fun _ _ _ _ _ _ h => h)
  cases p with
  | none =>
    have f0 := field0_hdr H1.out
    have fzh := hdr_fz H1.out
    go_wp2_with fail
    refine bodyPost_ret (results_cell_tmp_row rfl _ _ q0 124 #[] (0, 0) _ rfl Y1.out Try.underlying124 rfl (by kernel_rfl)) rfl ?_
    refine DelT.pre K0.out ?_
    have hits := LS.out.non rfl
    have hne := HPR.out.ne
    obtain ⟨hroot, _⟩ := behind_same BH.out (by omega)
    have T := HT.out
    refine ⟨hr, H', L', F', some (h, t'), none, rfl, ((ST.out.t _).post (K1.out.mono fun _ _ _ h => h.elim : Keep (fun c _ => c = b) _ _) (fun _ _ _ h => h) fun m r hr c o hf => hap'.out m r hr c o hf), ⟨H1.out, M1.out, BH.out.nd, by rw [HR.out]; exact hroot, ?_, DL.out.sorted T.srt, T.par⟩, DL.out, rfl, rfl, rfl⟩
    simp only [its]
    simp at hlen
    omega
  | some y =>
    simp only [Option.isSome_some, if_true] at hlen
    obtain ⟨_, r, hr1, _, hri, _⟩ := BH.out.rep.root
    have N1 := Lib.hid (M1.out.at_ n r hr1)
    have c2 := hdr_root H1.out
    rw [HR.out] at c2
    simp only [rootV, Option.map_some] at c2
    obtain ⟨d0, d1, cn2, d3, fzn⟩ := blk4 N1.out.1
    clear d0 d1 d3 fzn
    have hcb : -9223372036854775808 ≤ hr.cnt - 1 ∧ hr.cnt - 1 ≤ 9223372036854775807 := by omega
    have HLEN := Lib.hid hlen
    have HCN := Lib.hid hcn
    clear hlen hcn
    by_cases h0 : t'.its.length = 0
    case neg =>
      have hne : ¬ r.items.length = 0 := by rw [hri]; exact h0
      obtain ⟨hroot, hfl⟩ := behind_same BH.out (by omega)
      have hnz : ¬ (hr.cnt - 1 = 0) := by have := HLEN.out; have := HCN.out; omega
      have c3 := hdr_cnt H1.out
      have fz := hdr_fz H1.out
      go_upto_region 9 with (fail)
      refine wp_world ?_
      intro W2 hW2
      have H2 : Hid (Hdr W2 b { hr with cnt := hr.cnt - 1 }) := by subst hW2; exact hdr_set_cnt H1.out _
      have K2 : Hid (Keep (fun c _ => c = b) W1 W2) := by subst hW2; exact (Keep.refl _ _).set _ _ _ fun _ => rfl
      have X2 : Hid (W2.heap[q]? = some (.cells (E.enc (Option.getD (some y) hr.emp)).toArray 181 (0, 0))) := by exact blk_keep X1.out K2.out fun o e => by omega
      have Y2 := Lib.hid (blk_keep Y1.out K2.out fun o e => by omega)
      clear hW2 c2 c3 fz cn2
      have c3 := hdr_cnt H2.out
      have fp0 := field0_pair X2.out
      obtain ⟨x0, xf⟩ := blk1 X2.out
      go_wp2_with fail
      refine bodyPost_ret (results_cell_tmp_row rfl _ _ q0 124 #[] (0, 0) _ rfl Y2.out Try.underlying124 rfl (by kernel_rfl)) rfl ?_
      refine DelT.pre K0.out ?_
      have T := HT.out
      have KA : Keep (fun c _ => c = b) W' W2 := (K1.out.mono fun _ _ _ h => h.elim : Keep (fun c _ => c = b) W' W1).trans K2.out fun _ _ _ h => h
      refine ⟨{ hr with cnt := hr.cnt - 1 }, H', L', F', some (h, t'), some y, rfl, ((ST.out.t _).post KA (fun _ _ _ h => h) fun m r hr c o hf => hap'.out m r hr c o hf), ⟨H2.out, ST.out.mem.keepS KA fun m r c o hr hf => hap'.out m r hr c o hf, BH.out.nd, by show RootAt H' hr.iso hr.root F' mn mx _; rw [HR.out]; exact hroot, ?_, DL.out.sorted T.srt, T.par.cv, T.par.icv, T.par.one, T.par.odd, T.par.pos, T.par.hb⟩, DL.out, rfl, rfl, rfl⟩
      simp only [its]
      have := HLEN.out
      have := HCN.out
      omega
    case pos =>
      have hze : r.items.length = 0 := by rw [hri]; exact h0
      have hlv := Lib.hid (leaf_any N1.out)
      unfold ptr at hlv
      rw [hze] at cn2
      go_upto_region 6 with (fail)
      cases h with
      | zero =>
        obtain ⟨hF, hfl⟩ := behind_none BH.out h0
        have hk : r.kids = none := by
          obtain ⟨q, e1, _, _, _, e5, _⟩ := BH.out.rep
          rw [hr1] at e1; cases e1; exact e5
        have hnz : hr.cnt - 1 = 0 := by have h1 := HLEN.out; have h2 := HCN.out; rw [hfl] at h1; simp at h1; omega
        go_wp2_with fail
        refine hlv.out.mono ?_
        rintro e w1 ⟨rfl, rfl⟩
        simp only [hk, Option.isNone_none]
        have c3 := hdr_cnt H1.out
        have fz := hdr_fz H1.out
        go_upto_region 9 with (fail)
        refine wp_world ?_
        intro W2 hW2
        have H2 : Hid (Hdr W2 b { hr with cnt := hr.cnt - 1 }) := by subst hW2; rw [hnz]; exact hdr_set_cnt H1.out _
        have K2 : Hid (Keep (fun c _ => c = b) W1 W2) := by subst hW2; exact (Keep.refl _ _).set _ _ _ fun _ => rfl
        have X2 : Hid (W2.heap[q]? = some (.cells (E.enc (Option.getD (some y) hr.emp)).toArray 181 (0, 0))) := by exact blk_keep X1.out K2.out fun o e => by omega
        have Y2 := Lib.hid (blk_keep Y1.out K2.out fun o e => by omega)
        clear hW2 c2 c3 fz cn2 hlv
        have c3 := hdr_cnt H2.out
        have fz := hdr_fz H2.out
        have c2b := hdr_root H2.out
        simp only [rootV, HR.out, Option.map_some] at c2b
        go_upto_region 11 with (fail)
        refine wp_world ?_
        intro W3 hW3
        have H3 : Hid (Hdr W3 b { hr with root := none, cnt := hr.cnt - 1 }) := by subst hW3; exact hdr_set_root H2.out none
        have K3 : Hid (Keep (fun c _ => c = b) W2 W3) := by subst hW3; exact (Keep.refl _ _).set _ _ _ fun _ => rfl
        have X3 : Hid (W3.heap[q]? = some (.cells (E.enc (Option.getD (some y) hr.emp)).toArray 181 (0, 0))) := by exact blk_keep X2.out K3.out fun o e => by omega
        have Y3 := Lib.hid (blk_keep Y2.out K3.out fun o e => by omega)
        clear hW3 c3 fz c2b
        have fp0 := field0_pair X3.out
        obtain ⟨x0, xf⟩ := blk1 X3.out
        go_wp2_with fail
        refine bodyPost_ret (results_cell_tmp_row rfl _ _ q0 124 #[] (0, 0) _ rfl Y3.out Try.underlying124 rfl (by kernel_rfl)) rfl ?_
        refine DelT.pre K0.out ?_
        have T := HT.out
        have KA : Keep (fun c _ => c = b) W' W3 := ((K1.out.mono fun _ _ _ h => h.elim : Keep (fun c _ => c = b) W' W1).trans K2.out fun _ _ _ h => h).trans K3.out fun _ _ _ h => h
        have ts := ((ST.out.t (fun c _ => c = b)).post KA (fun _ _ _ h => h) fun m r hr c o hf => hap'.out m r hr c o hf)
        subst hF
        have ts2 := TStep.drop T.mem ts (n := n) (G := []) (by simp) (fun m => by simp)
        refine ⟨{ hr with root := none, cnt := hr.cnt - 1 }, upd H' n none, L', [], none, some y, rfl, ts2, ⟨H3.out, ts2.mem, by simp, ⟨rfl, rfl⟩, ?_, List.Pairwise.nil, T.par.cv, T.par.icv, ?_, T.par.odd, T.par.pos, T.par.hb⟩, ?_, rfl, rfl, rfl⟩
        · show hr.cnt - 1 = _; rw [hnz]; rfl
        · rcases T.par.one with h | ⟨_, h, _⟩
          · exact .inl h
          · rw [HR.out] at h; cases h
        · have hd := DL.out
          rw [hfl] at hd
          exact hd
      | succ h =>
        obtain ⟨r2, c, kc, Fc, hr2, hk, hF, hfl, hroot, hfl1, ndc, hnc⟩ := behind_down BH.out HPR.out.pos h0
        rw [hr1] at hr2
        cases hr2
        have hnz : ¬ (hr.cnt - 1 = 0) := by have h1 := HLEN.out; have h2 := HCN.out; rw [hfl] at h1; omega
        have XN := N1.out.kids hk
        have p1 := XN.1
        have p2 := XN.2.1
        have hrK := XN.2.2.2.1
        obtain ⟨kb, ko, hka, _⟩ := hrK.form (by simp)
        rw [hka] at p2 hrK
        have hk0 : W1.cell? ⟨kb, ko + 0, none⟩ = some (ptr c) := hrK.cell (by simp)
        rw [Nat.add_zero] at hk0
        unfold ptr at p1 hk0
        clear XN hrK
        go_wp2_with fail
        refine hlv.out.mono ?_
        rintro e w1 ⟨rfl, rfl⟩
        simp only [hk, Option.isNone_some]
        have fz := hdr_fz H1.out
        go_upto_region 8 with (fail)
        refine wp_world ?_
        intro W2 hW2
        have H2 : Hid (Hdr W2 b { hr with root := some c }) := by subst hW2; exact hdr_set_root H1.out (some c)
        have K2 : Hid (Keep (fun c _ => c = b) W1 W2) := by subst hW2; exact (Keep.refl _ _).set _ _ _ fun _ => rfl
        have X2 : Hid (W2.heap[q]? = some (.cells (E.enc (Option.getD (some y) hr.emp)).toArray 181 (0, 0))) := by exact blk_keep X1.out K2.out fun o e => by omega
        have Y2 := Lib.hid (blk_keep Y1.out K2.out fun o e => by omega)
        clear hW2 c2 fz cn2 hlv p1 p2 hk0
        have c3 := hdr_cnt H2.out
        have fz := hdr_fz H2.out
        go_upto_region 9 with (fail)
        refine wp_world ?_
        intro W3 hW3
        have H3 : Hid (Hdr W3 b { hr with root := some c, cnt := hr.cnt - 1 }) := by subst hW3; exact hdr_set_cnt H2.out _
        have K3 : Hid (Keep (fun c _ => c = b) W2 W3) := by subst hW3; exact (Keep.refl _ _).set _ _ _ fun _ => rfl
        have X3 : Hid (W3.heap[q]? = some (.cells (E.enc (Option.getD (some y) hr.emp)).toArray 181 (0, 0))) := by exact blk_keep X2.out K3.out fun o e => by omega
        have Y3 := Lib.hid (blk_keep Y2.out K3.out fun o e => by omega)
        clear hW3 c3 fz
        have c3 := hdr_cnt H3.out
        have fp0 := field0_pair X3.out
        obtain ⟨x0, xf⟩ := blk1 X3.out
        go_wp2_with fail
        refine bodyPost_ret (results_cell_tmp_row rfl _ _ q0 124 #[] (0, 0) _ rfl Y3.out Try.underlying124 rfl (by kernel_rfl)) rfl ?_
        refine DelT.pre K0.out ?_
        have T := HT.out
        have KA : Keep (fun c _ => c = b) W' W3 := ((K1.out.mono fun _ _ _ h => h.elim : Keep (fun c _ => c = b) W' W1).trans K2.out fun _ _ _ h => h).trans K3.out fun _ _ _ h => h
        have ts := ((ST.out.t (fun c _ => c = b)).post KA (fun _ _ _ h => h) fun m r hr c o hf => hap'.out m r hr c o hf)
        subst hF
        have ts2 := TStep.drop T.mem ts (n := n) (G := Fc) (by simp) (fun m => by simp only [List.mem_cons]; exact ⟨fun hm => ⟨.inr hm, fun e => hnc (e ▸ hm)⟩, fun ⟨h1, h2⟩ => h1.resolve_left h2⟩)
        refine ⟨{ hr with root := some c, cnt := hr.cnt - 1 }, upd H' n none, L', Fc, some (h, kc), some y, rfl, ts2, ⟨H3.out, ts2.mem, ndc, hroot, ?_, ?_, T.par.cv, T.par.icv, ?_, T.par.odd, T.par.pos, T.par.hb⟩, ?_, rfl, rfl, rfl⟩
        · have h1 := HLEN.out
          have h2 := HCN.out
          simp only [its]
          rw [hfl] at h1
          show hr.cnt - 1 = _
          omega
        · have := DL.out.sorted T.srt
          rw [hfl] at this
          exact this
        · rcases T.par.one with h | ⟨_, h, _⟩
          · exact .inl h
          · rw [HR.out] at h; cases h
        · have hd := DL.out
          rw [hfl] at hd
          exact hd
end Go.Proofs.Ytckplcmieelmpaa.S

namespace Go.Proofs.Ytckplcmieelmpaa.S
open Go.RowKit Go.Wb

theorem rebRec_ok : RebRecOK := fun w b hr S n a d r ra rb L La Lb N1 N2 i i0 m mx c P h => by
  by_cases h1 : ra.items.length + rb.items.length < mx
  · exact reb_merge P h h1
  · by_cases h2 : rb.items.length < ra.items.length
    · exact reb_right P h (by omega) h2
    · exact reb_left P h (by omega) h2

/-- MAP.DELETE: what it leaves. -/
theorem delete_any {w : World} {b : Nat} {hr : HRec} {H : Store It} {L : Nat → Lay} {F : List Nat} {mn mx : Nat} {s : Sh} (T : TreeAt w b hr H L F mn mx s) (big : (its s).length ≤ 3000000000000000000) (k : Ky) :
    Calls Try.prog 128 #[ptr b, kv k] w (DelT w b hr H L F mn mx s k) := by
  cases s with
  | none => exact del_none T k
  | some p => exact del_some (reb_of rebRec_ok) T big k
end Go.Proofs.Ytckplcmieelmpaa.S

namespace Go.Proofs.Ytckplcmieelmpaa.S
open Go.RowKit Go.Wb

theorem hdr_mn {w : World} {b : Nat} {h : HRec} (hh : Hdr w b h) : 
    w.cell? ⟨b, 5, none⟩ = some (.int .i64 h.mn) := (hdr_cells hh).2.2.2.2.2.1

set_option maxHeartbeats 400000 in
theorem init_old {w : World} {b : Nat} {h : HRec} (hh : Hdr w b h) (d : Value) (h0 : (h.mn != 0) = true) :
    Calls Try.prog 194 #[ptr b, d] w fun e w' => e = .returned (.tuple #[]) ∧ w = w' := by
  have c := hdr_mn hh
  clear hh
  unfold ptr
  go_enter Try.func194, Try.ntmps194
  go_wp2
  refine bodyPost_ret (v := .tuple #[]) (by simp [results, Try.results194, go_sem]) rfl ⟨rfl, rfl⟩

/-- init(0) of an empty tree. -/
theorem init_par {w : World} {b : Nat} {hr : HRec} {mn mx : Nat} (hh : Hdr w b hr) (hp : ParOk hr mn mx) :
    Calls Try.prog 194 #[ptr b, .int .i64 0] w fun e w' => e = .returned (.tuple #[]) ∧ Hdr w' b { hr with mn := mn, mx := mx } ∧ Keep (fun x _ => x = b) w w' := by
  obtain ⟨iso, ctr, root, cnt, emp, hmn, hmx, cv, icv⟩ := hr
  obtain ⟨h1, h2, h3, h4, h5, h6⟩ := hp
  simp only at h1 h2 h3
  subst h1
  subst h2
  rcases h3 with ⟨rfl, rfl⟩ | ⟨rfl, _, rfl, rfl⟩
  · refine (init_old hh _ (by simp; omega)).mono ?_
    rintro e w' ⟨rfl, rfl⟩
    exact ⟨rfl, hh, Keep.refl _ _⟩
  · refine (init_new hh 0 (by omega) (by omega) rfl).mono ?_
    rintro e w' ⟨rfl, h7, h8⟩
    exact ⟨rfl, h7, h8⟩

set_option maxRecDepth 100000 in
set_option maxHeartbeats 4000000 in
theorem set_nil {w : World} {b : Nat} {hr : HRec} {H : Store It} {L : Nat → Lay} {F : List Nat} {mn mx : Nat} (T : TreeAt w b hr H L F mn mx none) (x : It) :
    Calls Try.prog 172 #[ptr b, kv (ky x), vv x] w (SetT w b hr H L F mn mx none x) := by
  have HT := Lib.hid T
  have hroot : hr.root = none := T.root.1
  have HR := Lib.hid hroot
  have O0 := Lib.hid (Own.one (T := TT) (E := E) (S := fun c o => FP TT H L [] c o ∨ c = b) (w := w) (r := .blk b (hdrC hr) 185) T.hdr (fun _ _ h => .inr h))
  have hbw := lt_of_heap T.hdr
  clear T hroot
  unfold ptr kv vv
  have hf0 := fold0
  go_enter Try.func172, Try.ntmps172
  go_upto_region 2 with (fail)
  refine wp_world ?_
  intro W1 hW1
  generalize hq : w.heap.size = q at *
  have O1 : Hid (Own TT E (fun c o => FP TT H L [] c o ∨ c = b) w W1 [.blk b (hdrC hr) 185, .blk q #[] 124, .blk (q + 1) #[] 124, .blk (q + 1 + 1) (E.enc x).toArray 181]) := by
    subst hW1; have := ((O0.out.alloc #[] 124).alloc #[] 124).alloc (E.enc x).toArray 181
    simp only [World.size_alloc, hq] at this; exact this
  clear hW1 O0
  have H1 : Hid (Hdr W1 b hr) := by exact O1.out.blk_ 0 rfl
  have c2 := hdr_root H1.out
  rw [HR.out] at c2
  simp only [rootV, Option.map_none] at c2
  have fz := hdr_fz H1.out
  have hin := Lib.hid (init_par H1.out HT.out.par)
  unfold ptr at hin
  go_wp2_with fail
  refine hin.out.mono ?_
  rintro e W2 ⟨rfl, h2, k2⟩
  have O2 := Lib.hid (O1.out.turn 0 rfl (r' := .blk b (hdrC { hr with mn := mn, mx := mx }) 185) k2 h2 (fun _ _ _ h => h))
  clear hin c2 fz H1 O1 h2 k2
  have hnn := Lib.hid (newNode_any (O2.out.blk_ 0 rfl : Hdr W2 b { hr with mn := mn, mx := mx }) true)
  unfold ptr at hnn
  go_wp2_with fail
  refine hnn.out.mono ?_
  rintro e W3 ⟨m, Lm, rfl, hmw, k3, hm, hfpm⟩
  have O3 := Lib.hid (O2.out.add k3 (r := .node m ⟨hr.iso, 0, [], none⟩ Lm) hm hfpm)
  clear hnn k3 hm hfpm O2
  simp only [List.set, List.cons_append, List.nil_append] at O3
  have fz := hdr_fz (O3.out.blk_ 0 rfl : Hdr W3 b { hr with mn := mn, mx := mx })
  have c2 := hdr_root (O3.out.blk_ 0 rfl : Hdr W3 b { hr with mn := mn, mx := mx })
  rw [show ({ hr with mn := (mn : Int), mx := (mx : Int) } : HRec).root = hr.root from rfl, HR.out] at c2
  simp only [rootV, Option.map_none] at c2
  unfold ptr
  go_upto_region 5 with (fail)
  refine wp_world ?_
  intro W4 hW4
  have O4 : Hid (Own TT E (fun c o => FP TT H L [] c o ∨ c = b) w W4 [.blk b (hdrC { hr with mn := mn, mx := mx, root := some m }) 185, .blk q #[] 124, .blk (q + 1) #[] 124, .blk (q + 1 + 1) (E.enc x).toArray 181, .node m ⟨hr.iso, 0, [], none⟩ Lm]) := by
    subst hW4; have := O3.out.set 0 rfl 2 (rootV (some m)); exact this
  clear hW4 O3 c2 fz
  have hm4 := Lib.hid (O4.out.node_ 4 rfl)
  go_cut [] (fun wx => ∃ L', NTurn TT E W4 m ⟨hr.iso, 0, [], none⟩ Lm wx ⟨hr.iso, 0, [x], none⟩ L')
  case first =>
    have c2 := hdr_root (O4.out.blk_ 0 rfl : Hdr W4 b { hr with mn := mn, mx := mx, root := some m })
    simp only [rootV, Option.map_some] at c2
    have cx : W4.cell? ⟨q + 1 + 1, 0, none⟩ = some (.int .i64 (ky x)) := by have := O4.out.blk_ 3 rfl; simp only [World.cell?, this]; rfl
    obtain ⟨d0, d1, cm, d3, fz⟩ := hm4.out.own
    clear d0 d1 d3
    have hmw4 := lt_of_cell cm
    have hbm : b ≠ m := fun e => O4.out.apart 0 4 _ _ (by omega) rfl rfl m 0 e.symm (.inl rfl)
    have hqm : q + 1 + 1 ≠ m := fun e => O4.out.apart 3 4 _ _ (by omega) rfl rfl m 0 e.symm (.inl rfl)
    have fzm := fz 2
    go_region_held3 (fun w' => w'.cell? ⟨b, 2, none⟩ = some (.pointer (some ⟨m, 0, none⟩)) ∧ w'.cell? ⟨q + 1 + 1, 0, none⟩ = some (.int .i64 (ky x))) ((go_split_ands; refine ⟨?_, ?_⟩ <;> first | assumption | (refine cell_al _ ?_; assumption) | (refine cell_grew hg ?_; assumption) | (refine cell_set ?_ ?_ <;> assumption)))
      ((refine step_append_any rfl (Operand.tmp 34) (Operand.tmp 36) 250 rfl 181 1 8 Try.underlying250 ⟨by kernel_rfl, by kernel_rfl, by kernel_rfl⟩ _ 0 0 [] (by rfl) (Row.empty (by first | exact blk_two _ rfl | exact blk_last (by simp))) rfl _ 1 1 (E.enc x) (by rfl) (E.len _) (fun j u hj => new_cells (cs := E.enc x) (by first | exact blk_two _ rfl | exact blk_last (by simp)) j u hj) (E.one _) (by omega) (by omega) (by simp [maxLen]) (by omega) ?_; intro a' cap' w1 hg; have cm1 := cell_grew hg (cell_al _ (cell_al _ cm)); have fz1 := (fz_grew hg (fz_al _ (fz_al _ hmw4 fzm).1 (fz_al _ hmw4 fzm).2).1 (fz_al _ (fz_al _ hmw4 fzm).1 (fz_al _ hmw4 fzm).2).2).2))
    all_goals
      go_wp2_with fail
      go_meet
      refine ⟨_, nt_fresh ty_ok hm4.out (its := [x]) (((Keep.refl _ _).al _).al _).dr (hg.new (B := W4.heap.size) ((((Keep.refl Nothing W4).al _).al _).dr).size).1 ?_ hg.cap (hg.new (B := W4.heap.size) ((((Keep.refl Nothing W4).al _).al _).dr).size).2⟩
      have := hg.row
      simp only [List.nil_append] at this
      simp only [Enc.all, List.flatMap_cons, List.flatMap_nil, List.append_nil]
      exact this
  case rest =>
    obtain ⟨L', nt⟩ := hcut
    have O5 := Lib.hid (O4.out.nt 4 rfl nt)
    clear nt O4 hm4
    simp only [List.set] at O5
    have c2 := hdr_root (O5.out.blk_ 0 rfl : Hdr wc b { hr with mn := mn, mx := mx, root := some m })
    simp only [rootV, Option.map_some] at c2
    obtain ⟨d0, cm, d2, d3, fz⟩ := (O5.out.node_ 4 rfl).own
    clear d0 d2 d3
    go_upto_region 7 with (fail)
    refine wp_world ?_
    intro W6 hW6
    have O6 : Hid (Own TT E (fun c o => FP TT H L [] c o ∨ c = b) w W6 [.blk b (hdrC { hr with mn := mn, mx := mx, root := some m }) 185, .blk q #[] 124, .blk (q + 1) #[] 124, .blk (q + 1 + 1) (E.enc x).toArray 181, .node m ⟨hr.iso, 1, [x], none⟩ L']) := by
      subst hW6; exact O5.out.nt 4 rfl (nt_cnt ty_ok (O5.out.node_ 4 rfl) 1)
    clear hW6 O5 c2 cm fz
    have c3 := hdr_cnt (O6.out.blk_ 0 rfl : Hdr W6 b { hr with mn := mn, mx := mx, root := some m })
    have fz := hdr_fz (O6.out.blk_ 0 rfl : Hdr W6 b { hr with mn := mn, mx := mx, root := some m })
    go_upto_region 8 with (fail)
    refine wp_world ?_
    intro W7 hW7
    have O7 : Hid (Own TT E (fun c o => FP TT H L [] c o ∨ c = b) w W7 [.blk b (hdrC { hr with mn := mn, mx := mx, root := some m, cnt := 1 }) 185, .blk q #[] 124, .blk (q + 1) #[] 124, .blk (q + 1 + 1) (E.enc x).toArray 181, .node m ⟨hr.iso, 1, [x], none⟩ L']) := by
      subst hW7; exact O6.out.set 0 rfl 3 (.int .i64 1)
    clear hW7 O6 c3 fz
    have he := hdr_emp (O7.out.blk_ 0 rfl : Hdr W7 b { hr with mn := mn, mx := mx, root := some m, cnt := 1 })
    have f0 := field0_hdr (O7.out.blk_ 0 rfl : Hdr W7 b { hr with mn := mn, mx := mx, root := some m, cnt := 1 })
    go_wp2_with fail
    refine bodyPost_ret (results_cell_tmp_row rfl _ _ (q + 1) 124 #[] (0, 0) _ rfl (O7.out.blk_ 2 rfl) Try.underlying124 rfl (by kernel_rfl)) rfl ?_
    have T := HT.out
    have hmw' : w.heap.size ≤ m := by
      rcases Nat.lt_or_ge m w.heap.size with h | h
      · exfalso
        rcases O7.out.old 4 _ rfl m 0 h (.inl rfl) with ⟨_, _, h, _⟩ | h
        · cases h
        · exact O7.out.apart 0 4 _ _ (by omega) rfl rfl m 0 h (.inl rfl)
      · exact h
    have hst : TStep TT E (fun c _ => c = b) w H L F W7 (upd H m (some ⟨hr.iso, 1, [x], none⟩)) (upd L m L') [m] := by
      obtain ⟨_, rfl⟩ := T.root
      refine Own.tstep T.mem O7.out (fun a r c o ha hf e => ?_) (fun a r c o ha hr hf e => ?_) (fun a _ ha => ?_) (fun a ha _ => ?_) (fun a ha => by cases ha) (fun a r ha hr => ?_)
      · subst e; exact hdr_apart T.hdr (T.mem.at_ a r ha) hf
      · obtain rfl := List.mem_singleton.1 ha
        rw [upd_same] at hr hf
        cases hr
        exact O7.out.apart 0 4 _ _ (by omega) rfl rfl c o e hf
      · have : a ≠ m := by simpa using ha
        exact ⟨upd_ne _ _ this, upd_ne _ _ this⟩
      · obtain rfl := List.mem_singleton.1 ha; exact hmw'
      · obtain rfl := List.mem_singleton.1 ha
        rw [upd_same] at hr ⊢
        cases hr
        exact ⟨4, rfl⟩
    refine ⟨{ hr with mn := mn, mx := mx, root := some m, cnt := 1 }, upd H m (some ⟨hr.iso, 1, [x], none⟩), upd L m L', [m], some (0, .node [x] []), none, rfl, hst, ?_, ⟨[], [], rfl, rfl, by simp, by simp⟩, rfl, rfl, rfl, rfl⟩
    · obtain ⟨_, rfl⟩ := T.root
      refine ⟨O7.out.blk_ 0 rfl, ?_, by simp, ⟨m, rfl, ⟨_, upd_same _ _ _, rfl, rfl, rfl, rfl, by simp [flat, Tr.its], rfl⟩, by simp [Tr.its], by have := T.par.odd; have := T.par.pos; simp [Tr.its]; omega, rfl⟩, by simp [its, flat, Tr.its], by simp [its, flat, Tr.its, Sorted], T.par.cv, T.par.icv, .inl ⟨rfl, rfl⟩, T.par.odd, T.par.pos, T.par.hb⟩
      exact hst.mem
end Go.Proofs.Ytckplcmieelmpaa.S

namespace Go.Proofs.Ytckplcmieelmpaa.S
open Go.RowKit Go.Wb

/-- The root is in two halves, and nothing else has turned. -/
structure Halved (w wx : World) (b : Nat) (hr : HRec) (H : Store It) (L : Nat → Lay) (F : List Nat) (mn mx h n : Nat) (t : Tr It) (m : Nat) (med : It) (H' : Store It) (L' : Nat → Lay) (F1 F2 : List Nat) (K : Nat) : Prop where
  clr : ∀ a r c o, H' a = some r → fp TT a r (L' a) c o → ¬ (w.heap.size ≤ c ∧ c < K)
  clk : K ≤ wx.heap.size
  ts : TStep TT E (fun c _ => c = b) w H L F wx H' L' (n :: F1 ++ m :: F2)
  nd : (n :: F1 ++ m :: F2).Nodup
  hdr : Hdr wx b hr
  rl : Rep H' hr.iso h n (cutL (mx / 2) t) (n :: F1)
  rr : Rep H' hr.iso h m (cutR (mx / 2) t) (m :: F2)
  wl : wfr mn mn mx h (cutL (mx / 2) t)
  wr : wfr mn mn mx h (cutR (mx / 2) t)
  fl : flat h t = flat h (cutL (mx / 2) t) ++ med :: flat h (cutR (mx / 2) t)

theorem halved {w W W' : World} {b : Nat} {hr : HRec} {H : Store It} {L : Nat → Lay} {F : List Nat} {mn mx h : Nat} {t : Tr It} (T : TreeAt w b hr H L F mn mx (some (h, t))) {n : Nat} (hroot : hr.root = some n) (hfull : t.its.length = mx) {rc : NRec It} (hrc : H n = some rc)
    (hK : Keep Nothing w W) {m : Nat} {med : It} (hk : Keep (fp TT n rc (L n)) W W') (hh : Halves H L n rc hr.iso (mx / 2) m med W W') :
    ∃ H' L' F1 F2, Halved w W' b hr H L F mn mx h n t m med H' L' F1 F2 W.heap.size := by
  obtain ⟨n', e, rep, wf⟩ := T.root
  rw [hroot] at e
  cases e
  obtain ⟨hmed, hmW, L', st⟩ := hh
  have hws := hK.size
  have hm0 : H m = none := by
    cases hq : H m with
    | none => rfl
    | some q => have := T.mem.lt hq; omega
  obtain ⟨_, q, e1, hci, hits, _⟩ := rep.root
  rw [hrc] at e1
  cases e1
  have odd := T.par.odd
  have pos := T.par.pos
  have hi2 : mx / 2 < t.its.length := by omega
  obtain ⟨F1, F2, rfl, RL, RR⟩ := rep.halves wf T.nd hrc hm0 hi2
  have old : ∀ a, a ∈ n :: (F1 ++ F2) → a < w.heap.size := fun a ha => by
    obtain ⟨q, hq⟩ := rep.dom a ha
    exact T.mem.lt hq
  have ndn := List.nodup_cons.1 T.nd
  have dom : ∀ a, a ∈ [] ++ (F1 ++ F2) → a ∉ [n] ∧ ∃ q, H a = some q := fun a ha => by
    simp only [List.nil_append] at ha
    refine ⟨fun h => ndn.1 ?_, rep.dom a (by simp [List.mem_append.1 ha])⟩
    obtain rfl := List.mem_singleton.1 h
    exact ha
  have st1 := (Step.pre hK st).frame [] (F1 ++ F2) dom
  have hcw := cut_wf wf (l1 := mn) (l2 := mn) hi2 (by omega) (by omega)
  have hap : ∀ a r c o, H a = some r → fp TT a r (L a) c o → c ≠ b := fun a r c o hr hf e => by
    subst e
    exact hdr_apart T.hdr (T.mem.at_ a r hr) hf
  refine ⟨_, L', F1, F2, fun a r c o h1 h2 => Step.clear T.mem hK st a r h1 c o h2, hk.size, ((st1.t _).same (G' := n :: F1 ++ m :: F2) fun a => by simp; grind), ?_, ?_, RL, RR, hcw.1, hcw.2, flat_cut wf (by rw [← hits]; exact hmed)⟩
  · have hp : (n :: F1 ++ m :: F2).Perm (m :: (n :: (F1 ++ F2))) := by
      have h1 : (n :: F1 ++ m :: F2).Perm (m :: (n :: F1 ++ F2)) := List.perm_middle
      simpa using h1
    rw [hp.nodup_iff]
    exact List.nodup_cons.2 ⟨fun h => by have := old m h; omega, T.nd⟩
  · exact blk_keep (blk_keep T.hdr hK fun _ h => h) hk fun o hf => hap n rc b o hrc hf rfl

/-- What lies apart from a tree's nodes and its head, from w on. -/
theorem Halved.local {w wx : World} {b : Nat} {hr : HRec} {H : Store It} {L : Nat → Lay} {F : List Nat} {mn mx h n : Nat} {t : Tr It} {m : Nat} {med : It} {H' : Store It} {L' : Nat → Lay} {F1 F2 : List Nat} {K : Nat} (A : Halved w wx b hr H L F mn mx h n t m med H' L' F1 F2 K) :
    ∀ a r c o, H' a = some r → fp TT a r (L' a) c o → c ≠ b := fun a r c o hr hf e => by
  subst e
  exact hdr_apart A.hdr (A.ts.mem.at_ a r hr) hf

/-- The new root's tree. -/
theorem Halved.tree {w wx we : World} {b : Nat} {hr : HRec} {H : Store It} {L : Nat → Lay} {F : List Nat} {mn mx h n : Nat} {t : Tr It} {m : Nat} {med : It} {H' : Store It} {L' : Nat → Lay} {F1 F2 : List Nat} {K : Nat} (T : TreeAt w b hr H L F mn mx (some (h, t))) (A : Halved w wx b hr H L F mn mx h n t m med H' L' F1 F2 K)
    {wy : World} (hy : Keep Nothing wx wy) {nn : Nat} {Ln : Lay} (hroot : hr.root = some n)
    (O : Own TT E (fun c o => FP TT H' L' [] c o ∨ c = b) wy we [.blk b (hdrC { hr with root := some nn }) 185, .node nn ⟨hr.iso, ((flat h t).length : Int), [med], some [n, m]⟩ Ln]) (hnew : wy.heap.size ≤ nn) :
    ∃ H2 L2 F2', TStep TT E (fun c _ => c = b) w H L F we H2 L2 F2' ∧ TreeAt we b { hr with root := some nn } H2 L2 F2' mn mx (some (h + 1, .node [med] [cutL (mx / 2) t, cutR (mx / 2) t])) ∧
      flat (h + 1) (.node [med] [cutL (mx / 2) t, cutR (mx / 2) t]) = flat h t ∧ ∀ a r c o, H2 a = some r → fp TT a r (L2 a) c o → ¬ (w.heap.size ≤ c ∧ c < K) := by
  have hmy : Mem TT E wy H' L' := A.ts.mem.keepS hy fun _ _ _ _ _ _ h => h
  have dom : ∀ a, a ∈ n :: F1 ++ m :: F2 → ∃ q, H' a = some q := fun a ha => by
    rcases List.mem_append.1 ha with h | h
    · exact A.rl.dom a h
    · exact A.rr.dom a h
  have hnn : ∀ a, a ∈ n :: F1 ++ m :: F2 → a ≠ nn := fun a ha e => by
    obtain ⟨q, hq⟩ := dom a ha
    have := hmy.lt hq
    omega
  have ts2 : TStep TT E (fun c _ => c = b) wy H' L' [] we (upd H' nn (some ⟨hr.iso, ((flat h t).length : Int), [med], some [n, m]⟩)) (upd L' nn Ln) [nn] := by
    refine Own.tstep hmy O (fun a r c o ha hf e => A.local a r c o ha hf e) (fun a r c o ha hr' hf e => ?_) (fun a _ ha => ?_) (fun a ha _ => ?_) (fun a ha => by cases ha) (fun a r ha hr' => ?_)
    · obtain rfl := List.mem_singleton.1 ha
      rw [upd_same] at hr' hf
      cases hr'
      exact O.apart 0 1 _ _ (by omega) rfl rfl c o e hf
    · have : a ≠ nn := by simpa using ha
      exact ⟨upd_ne _ _ this, upd_ne _ _ this⟩
    · obtain rfl := List.mem_singleton.1 ha; exact hnew
    · obtain rfl := List.mem_singleton.1 ha
      rw [upd_same] at hr' ⊢
      cases hr'
      exact ⟨1, rfl⟩
  have ts3 := ts2.frame [] (n :: F1 ++ m :: F2) (fun a ha => ⟨by simp, dom a (by simpa using ha)⟩)
  simp only [List.nil_append] at ts3
  have ts4 := A.ts.then T.mem (ts3.pre hy)
  have out : ∀ a, a ∈ n :: F1 ++ m :: F2 → upd H' nn (some ⟨hr.iso, ((flat h t).length : Int), [med], some [n, m]⟩) a = H' a := fun a ha => upd_ne _ _ (hnn a ha)
  have fl : flat (h + 1) (.node [med] [cutL (mx / 2) t, cutR (mx / 2) t]) = flat h t := by
    rw [A.fl]
    show flat h (cutL (mx / 2) t) ++ (med :: flat h (cutR (mx / 2) t) ++ []) = _
    simp
  have hro := A.rl.root.1
  refine ⟨_, _, [nn] ++ (n :: F1 ++ m :: F2), ts4, ⟨O.blk_ 0 rfl, ts4.mem, ?_, ⟨nn, rfl, ⟨_, [n, m], _, upd_same _ _ _, rfl, rfl, rfl, by rw [fl], ⟨n :: F1, m :: F2, A.rl.congr fun a ha => out a (List.mem_append_left _ ha), ⟨m :: F2, [], A.rr.congr fun a ha => out a (List.mem_append_right _ ha), rfl, by simp⟩, rfl⟩, rfl⟩, ?_⟩, ?_, ?_, T.par.cv, T.par.icv, ?_, T.par.odd, T.par.pos, T.par.hb⟩, fl, fun a r c o ha hf hc => ?_⟩
  · rw [List.singleton_append]
    exact List.nodup_cons.2 ⟨fun h => hnn nn h rfl, A.nd⟩
  · have := T.par.odd; have := T.par.pos
    refine ⟨by simp [Tr.its], by simp [Tr.its]; omega, by simp [Tr.its, Tr.ks], fun k hk => ?_⟩
    simp only [Tr.ks, List.mem_cons, List.not_mem_nil, or_false] at hk
    rcases hk with rfl | rfl
    · exact A.wl
    · exact A.wr
  · simp only [its]; rw [fl]; exact T.cnt
  · simp only [its]; rw [fl]; exact T.srt
  · rcases T.par.one with h | ⟨_, h, _⟩
    · exact .inl h
    · rw [hroot] at h; cases h
  · have hky : K ≤ wy.heap.size := Nat.le_trans A.clk hy.size
    by_cases e : a = nn
    · subst e
      rw [upd_same] at ha hf
      cases ha
      rcases O.old 1 _ rfl c o (by omega) hf with ⟨_, _, h, _⟩ | h
      · cases h
      · exact O.apart 0 1 _ _ (by omega) rfl rfl c o h hf
    · rw [upd_ne _ _ e] at ha hf
      exact A.clr a r c o ha hf hc
end Go.Proofs.Ytckplcmieelmpaa.S

namespace Go.Proofs.Ytckplcmieelmpaa.S
open Go.RowKit Go.Wb

set_option maxRecDepth 100000 in
set_option maxHeartbeats 8000000 in
theorem set_split {w : World} {b : Nat} {hr : HRec} {H : Store It} {L : Nat → Lay} {F : List Nat} {mn mx h : Nat} {t : Tr It} (T : TreeAt w b hr H L F mn mx (some (h, t))) (big : (flat h t).length ≤ 3000000000000000000) (x : It) (ha : Asks mx h t (ky x)) :
    Calls Try.prog 172 #[ptr b, kv (ky x), vv x] w (SetT w b hr H L F mn mx (some (h, t)) x) := by
  obtain ⟨n, hroot, hpre⟩ := root_pre T big
  have hcall : ∀ W, Keep Nothing w W → Calls Try.prog 196 #[ptr b, .pointer (some ⟨b, 2, none⟩), pv x] W (SetPost W H L F hr.iso mn mx h n t x hr.emp) := fun W hK => set_any x h t W b 2 n H L F (hpre W hK)
  have HT := Lib.hid T
  have HC := Lib.hid hcall
  have HR := Lib.hid hroot
  have HA := Lib.hid ha
  have HP := Lib.hid (hpre w (Keep.refl _ _))
  have HBIG := Lib.hid big
  clear T hcall hroot hpre ha big
  unfold ptr pv kv vv at *
  have hf0 := fold0
  go_enter Try.func172, Try.ntmps172
  go_upto_region 2 with (fail)
  refine wp_world ?_
  intro W1 hW1
  generalize hq : w.heap.size = q at *
  have K1 : Hid (Keep Nothing w W1) := by
    subst hW1; exact (((Keep.refl _ _).al _).al _).al _
  have X1 : Hid (W1.heap[q + 2]? = some (.cells (E.enc x).toArray 181 (0, 0))) := by
    subst hW1; subst hq
    have h0 := heap_alloc_new ((w.alloc (.cells #[] 124)).alloc (.cells #[] 124)) (.cells (E.enc x).toArray 181)
    rw [World.size_alloc, World.size_alloc] at h0
    exact h0
  have Y1 : Hid (W1.heap[q + 1]? = some (.cells #[] 124 (0, 0))) := by
    subst hW1; subst hq
    have h0 := heap_alloc_new (w.alloc (.cells #[] 124)) (.cells #[] 124)
    rw [World.size_alloc] at h0
    exact blk_alloc _ h0
  have XQ := Lib.hid hq
  clear hW1 hq
  have H1 : Hid (Hdr W1 b hr) := by exact blk_keep HT.out.hdr K1.out fun _ h => h
  have c2 := hdr_root H1.out
  rw [HR.out] at c2
  simp only [rootV, Option.map_some] at c2
  have fz := hdr_fz H1.out
  go_upto_region 9 with (fail)
  clear c2 fz
  go_cut [10, 11] (fun s10 s11 wx => s10 = .bool false ∧ s11 = .bool true ∧ Keep Nothing W1 wx)
  case first =>
    have kx : W1.cell? ⟨q + 1 + 1, 0, none⟩ = some (.int .i64 (ky x)) := by have := X1.out; simp only [World.cell?, this]; rfl
    go_region_held3 (fun w' => w'.cell? ⟨q + 1 + 1, 0, none⟩ = some (.int .i64 (ky x))) (first | go_keep)
      ((go_at_call 196; refine (HC.out _ ?_).mono ?_; (first | exact K1.out.dr | exact (K1.out.al _).dr); rintro e w' (⟨_, rfl, hk⟩ | ⟨h1, _⟩); rotate_left; exact absurd HA.out h1; (have kx' : w'.cell? ⟨q + 1 + 1, 0, none⟩ = some (.int .i64 (ky x)) := by (refine hk.cell' (by assumption) ?_; exact fun h => h)); unfold vv))
    all_goals
      go_wp2_with fail
      go_meet
      first
        | exact ⟨rfl, rfl, ((Keep.refl _ _).dr.trans hk fun _ _ _ h => h).al _⟩
        | exact ⟨rfl, rfl, ((Keep.refl _ _).al _).dr.trans hk fun _ _ _ h => h⟩
  case rest =>
    obtain ⟨rfl, rfl, hK⟩ := hcut
    have KC : Hid (Keep Nothing w wc) := by exact K1.out.trans hK fun _ _ _ h => h
    have X2 := Lib.hid (blk_keep X1.out hK fun _ h => h)
    have Y2 := Lib.hid (blk_keep Y1.out hK fun _ h => h)
    clear hK K1 X1 H1
    clear Y1
    have H2 : Hid (Hdr wc b hr) := by exact blk_keep HT.out.hdr KC.out fun _ h => h
    have hm2 : Hid (Mem TT E wc H L) := by exact HT.out.mem.keepS KC.out fun _ _ _ _ _ _ h => h
    obtain ⟨nF, rc, hrc, hci, hits, hcn⟩ := HP.out.rep.root
    have HRC := Lib.hid hrc
    have hsp := Lib.hid (split_step H2.out hm2.out HP.out.hmx HP.out.h3 HP.out.hb HP.out.rep HP.out.wf HP.out.nd HA.out.full HBIG.out hrc)
    clear nF hrc hci hits hcn
    have c2 := hdr_root H2.out
    rw [HR.out] at c2
    simp only [rootV, Option.map_some] at c2
    have fz := hdr_fz H2.out
    unfold ptr pv kv at hsp
    go_wp2_with fail
    refine hsp.out.mono ?_
    rintro e W3 ⟨m, med, rfl, hk, hh⟩
    obtain ⟨H', L', F1, F2, A⟩ := halved HT.out HR.out HA.out.full HRC.out KC.out hk hh
    have hloc : ∀ c, q ≤ c → c < wc.heap.size → W3.heap[c]? = wc.heap[c]? := fun c h1 h2 => hk.whole h2 fun o hf => by
      have := (HT.out.mem.at_ n rc HRC.out).lt hf
      have := XQ.out
      omega
    have X3 := Lib.hid ((hloc (q + 2) (by omega) (lt_of_heap X2.out)).trans X2.out)
    have Y3 := Lib.hid ((hloc (q + 1) (by omega) (lt_of_heap Y2.out)).trans Y2.out)
    have HA2 := Lib.hid A
    have hwq : q + 2 < wc.heap.size := lt_of_heap X2.out
    clear hloc A hk hh hsp c2 fz X2 H2 hm2 KC
    clear Y2
    go_upto_region 13 with (fail)
    refine wp_world ?_
    intro WB hWB
    generalize hp : W3.heap.size = p at *
    have KB : Hid (Keep Nothing W3 WB) := by
      subst hWB; exact (Keep.refl _ _).al _
    have M0 : Hid (WB.heap[p]? = some (.cells (E.enc med).toArray 181 (0, 0))) := by
      subst hWB; subst hp; exact heap_alloc_new W3 _
    have SB : Hid (WB.heap.size = p + 1) := by
      subst hWB; rw [← hp]; exact World.size_alloc _ _
    have hpq : Hid (q + 2 < p) := by have := lt_of_heap X3.out; rw [hp] at this; exact this
    have X0 := Lib.hid (blk_keep X3.out KB.out fun _ h => h)
    have Y0 := Lib.hid (blk_keep Y3.out KB.out fun _ h => h)
    have hbq : b < q := by have := lt_of_heap HT.out.hdr; rwa [XQ.out] at this
    have O0 := Lib.hid (Own.one (T := TT) (E := E) (S := fun c o => FP TT H' L' [] c o ∨ c = b) (w := WB) (r := .blk b (hdrC hr) 185) (blk_keep HA2.out.hdr KB.out fun _ h => h) (fun _ _ h => .inr h))
    have HL : Hid (∀ (W : World), Keep (fun c o => FP TT H' L' [] c o ∨ c = b) WB W → ∀ (c : Nat) (ob : Obj), c ≠ b → WB.heap[c]? = some ob → W.heap[c]? = some ob) := by
      exact fun W k c ob hc hb => blk_keep hb k fun o h => h.elim (fun ⟨_, _, h, _⟩ => by cases h) hc
    clear hWB hp X3
    clear Y3
    have hnn := Lib.hid (newNode_any (O0.out.blk_ 0 rfl : Hdr WB b hr) false)
    unfold ptr at hnn
    go_wp2_with fail
    refine hnn.out.mono ?_
    rintro e WC ⟨nn, Ln, rfl, hnw, k3, hm, hfpm⟩
    have O1 := Lib.hid (O0.out.add k3 (r := .node nn ⟨hr.iso, 0, [], some []⟩ Ln) hm hfpm)
    have NW := Lib.hid hnw
    clear hnn k3 hm hfpm O0 hnw
    simp only [List.cons_append, List.nil_append] at O1
    have c2 := hdr_root (O1.out.blk_ 0 rfl : Hdr WC b hr)
    rw [HR.out] at c2
    simp only [rootV, Option.map_some] at c2
    have fz := hdr_fz (O1.out.blk_ 0 rfl : Hdr WC b hr)
    unfold ptr
    go_upto_region 14 with (fail)
    refine wp_world ?_
    intro WD hWD
    have O2 : Hid (Own TT E (fun c o => FP TT H' L' [] c o ∨ c = b) WB WD [.blk b (hdrC { hr with root := some nn }) 185, .node nn ⟨hr.iso, 0, [], some []⟩ Ln]) := by
      subst hWD; exact O1.out.set 0 rfl 2 (rootV (some nn))
    clear hWD O1 c2 fz
    go_cut [] (fun wx => ∃ L2, NTurn TT E WD nn ⟨hr.iso, 0, [], some []⟩ Ln wx ⟨hr.iso, 0, [], some []⟩ L2)
    case first =>
      have hn2 := Lib.hid (O2.out.node_ 1 rfl)
      have c2 := hdr_root (O2.out.blk_ 0 rfl : Hdr WD b { hr with root := some nn })
      simp only [rootV, Option.map_some] at c2
      have c6 := hdr_mx (O2.out.blk_ 0 rfl : Hdr WD b { hr with root := some nn })
      simp only at c6
      rw [HP.out.hmx] at c6
      obtain ⟨c3, g1, fz, _, _⟩ := hn2.out.kids rfl
      unfold ptr at c3
      have e1 := World.new_ne WD _ c2
      have e2 := World.new_ne WD _ c6
      have e3 := World.new_ne WD _ c3
      have e4 := World.new_ne WD _ g1
      have hcbw := lt_of_cell g1
      have cm1 : ∀ o, (WD.alloc o).cell? ⟨Ln.cb, 0, none⟩ = some (.slice Ln.ka 0 Ln.kcap) := fun o => cell_al o g1
      have cm2 : ∀ o, (WD.alloc o).frozen? ⟨Ln.cb, 0, none⟩ = false := fun o => (fz_al o hcbw (fz 0)).2
      have hcb1 : b ≠ Ln.cb := fun e => O2.out.apart 0 1 _ _ (by omega) rfl rfl Ln.cb 0 e.symm (.inr (.inr ⟨rfl, .inl rfl⟩))
      have hcb2 : nn ≠ Ln.cb := blk_ne hn2.out.1 (hn2.out.2.2.2 _ rfl).1 ty_ok.c
      have hmxb : (mx : Int) ≤ 1000000000000 := by have := HP.out.hb; omega
      obtain ⟨cs, hcs, hmk⟩ := run_make0 (P := Try.prog) 254 179 1 8 Try.underlying254 ⟨by kernel_rfl, by kernel_rfl, by kernel_rfl⟩ 0 (mx + 1) (by omega) (by omega) (by omega)
      have hwr : IntKind.i64.wrap ((mx : Int) + 1) = ((mx + 1 : Nat) : Int) := by rw [IntKind.wrap_i64]; omega
      have hmk' : ∀ w, (Instr.makeSlice 254 (.int .i64 0) (.int .i64 ((mx : Int) + 1))).run Try.prog w = .ok (.slice (some ⟨w.heap.size, 0, none⟩) 0 (mx + 1)) (w.alloc (.cells cs 179)) := fun w => hmk w
      have HCS := Lib.hid hcs
      clear hcs hmk
      go_region_held3 (fun w' => w'.cell? ⟨b, 2, none⟩ = some (.pointer (some ⟨nn, 0, none⟩)) ∧ w'.cell? ⟨b, 6, none⟩ = some (.int .i64 mx) ∧ w'.cell? ⟨nn, 3, none⟩ = some (.pointer (some ⟨Ln.cb, 0, none⟩))) ((go_split_ands; refine ⟨?_, ?_, ?_⟩ <;> first | assumption | (refine cell_al _ ?_; assumption) | (refine cell_al _ (cell_set ?_ ?_) <;> assumption))) (fail)
      all_goals
        go_wp2_with fail
        go_meet
        have hrw : Row (WD.alloc (.cells cs 179)) TT.nodeP 1 (some ⟨WD.heap.size, 0, none⟩) (mx + 1) (([] : List Nat).map ptr) := .inr ⟨_, 0, cs, rfl, heap_alloc_new WD _, by simp, by rw [HCS.out]; omega, by simp⟩
        have hk1 : Keep (fun b _ => WD.heap.size ≤ b) WD (WD.alloc (.cells cs 179)) := Keep.alloc _ _ _
        have hf1 : ∀ b o, rowFp (some ⟨WD.heap.size, 0, none⟩) (mx + 1) b o → WD.heap.size ≤ b := fun c o hf => Nat.le_of_eq (rowFp_some hf).1.symm
        have := nk_fresh ty_ok hn2.out rfl (Keep.refl _ WD) hk1 hrw (Nat.zero_le _) hf1
        rw [World.setCell_alloc_past _ _ _ _ hcbw] at this
        exact ⟨_, this.dr⟩
    case rest =>
      obtain ⟨L2, nt⟩ := hcut
      have O3 := Lib.hid (O2.out.nt 1 rfl nt)
      clear nt O2
      simp only [List.set] at O3
      go_upto_region 15 with (fail)
      have hn3 := Lib.hid (O3.out.node_ 1 rfl)
      go_cut [] (fun wx => ∃ L', NTurn TT E wc nn ⟨hr.iso, 0, [], some []⟩ L2 wx ⟨hr.iso, 0, [], some [n, m]⟩ L')
      case first =>
        have c2 := hdr_root (O3.out.blk_ 0 rfl : Hdr wc b { hr with root := some nn })
        simp only [rootV, Option.map_some] at c2
        obtain ⟨c3, g1, fz, _, _⟩ := hn3.out.kids rfl
        unfold ptr at c3
        have hcbw := lt_of_cell g1
        have fz0 := fz 0
        have hcb1 : b ≠ L2.cb := fun e => O3.out.apart 0 1 _ _ (by omega) rfl rfl L2.cb 0 e.symm (.inr (.inr ⟨rfl, .inl rfl⟩))
        have hcb2 : nn ≠ L2.cb := blk_ne hn3.out.1 (hn3.out.2.2.2 _ rfl).1 ty_ok.c
        go_region_held3 (fun w' => w'.cell? ⟨b, 2, none⟩ = some (.pointer (some ⟨nn, 0, none⟩)) ∧ w'.cell? ⟨nn, 3, none⟩ = some (.pointer (some ⟨L2.cb, 0, none⟩))) ((go_split_ands; refine ⟨?_, ?_⟩ <;> first | assumption | (refine cell_al _ ?_; assumption) | (refine cell_grew hg ?_; assumption) | (refine cell_set ?_ ?_ <;> assumption)))
          ((refine step_append_any rfl (Operand.tmp 101) (Operand.tmp 104) 254 rfl 179 1 8 Try.underlying254 ⟨by kernel_rfl, by kernel_rfl, by kernel_rfl⟩ _ 0 0 [] (by rfl) (Row.empty (by first | exact blk_two _ rfl | exact blk_last (by simp))) rfl _ 2 2 [ptr n, ptr m] (by rfl) rfl (fun j u hj => new_cells (cs := [ptr n, ptr m]) (by first | exact blk_two _ rfl | exact blk_last (by simp)) j u hj) (by intro u hu; simp at hu; rcases hu with rfl | rfl <;> rfl) (by omega) (by omega) (by simp [maxLen]) (by omega) ?_; intro a' cap' w1 hg; have cm1 := cell_grew hg (cell_al _ (cell_al _ g1)); have fz1 := (fz_grew hg (fz_al _ (fz_al _ hcbw fz0).1 (fz_al _ hcbw fz0).2).1 (fz_al _ (fz_al _ hcbw fz0).1 (fz_al _ hcbw fz0).2).2).2))
        all_goals
          go_wp2_with fail
          go_meet
          obtain ⟨hk1, hf1⟩ := hg.fresh (w := wc) ((((Keep.refl _ _).al _).al _).dr)
          simp only [Nat.mul_one] at hf1
          exact ⟨_, nk_fresh ty_ok hn3.out rfl (Keep.refl _ wc) hk1 (new := [n, m]) hg.row hg.cap hf1⟩
      case rest =>
        obtain ⟨L4, nt⟩ := hcut
        have O4 := Lib.hid (O3.out.nt 1 rfl nt)
        clear nt O3 hn3
        simp only [List.set] at O4
        go_upto_region 16 with (fail)
        have hn4 := Lib.hid (O4.out.node_ 1 rfl)
        go_cut [] (fun wx => ∃ L', NTurn TT E wc nn ⟨hr.iso, 0, [], some [n, m]⟩ L4 wx ⟨hr.iso, 0, [med], some [n, m]⟩ L')
        case first =>
          have c2 := hdr_root (O4.out.blk_ 0 rfl : Hdr wc b { hr with root := some nn })
          simp only [rootV, Option.map_some] at c2
          have M4 := HL.out wc O4.out.keep p _ (by have := hpq.out; omega) M0.out
          have cm : wc.cell? ⟨p, 0, none⟩ = some (kv (ky med)) := by simp only [World.cell?, M4]; rfl
          unfold kv at cm
          obtain ⟨d0, d1, g1, d3, fz⟩ := hn4.out.own
          clear d0 d1 d3 M4
          have hcbw := lt_of_cell g1
          have fz0 := fz 2
          have hb1 : b ≠ nn := fun e => O4.out.apart 0 1 _ _ (by omega) rfl rfl nn 0 e.symm (.inl rfl)
          have hb2 : p ≠ nn := by have := NW.out; have := SB.out; omega
          go_region_held3 (fun w' => w'.cell? ⟨b, 2, none⟩ = some (.pointer (some ⟨nn, 0, none⟩)) ∧ w'.cell? ⟨p, 0, none⟩ = some (.int .i64 (ky med))) ((go_split_ands; refine ⟨?_, ?_⟩ <;> first | assumption | (refine cell_al _ ?_; assumption) | (refine cell_grew hg ?_; assumption) | (refine cell_set ?_ ?_ <;> assumption)))
            ((refine step_append_any rfl (Operand.tmp 111) (Operand.tmp 113) 250 rfl 181 1 8 Try.underlying250 ⟨by kernel_rfl, by kernel_rfl, by kernel_rfl⟩ _ 0 0 [] (by rfl) (Row.empty (by first | exact blk_two _ rfl | exact blk_last (by simp))) rfl _ 1 1 (E.enc med) (by rfl) (E.len _) (fun j u hj => new_cells (cs := E.enc med) (by first | exact blk_two _ rfl | exact blk_last (by simp)) j u hj) (E.one _) (by omega) (by omega) (by simp [maxLen]) (by omega) ?_; intro a' cap' w1 hg; have cm1 := cell_grew hg (cell_al _ (cell_al _ g1)); have fz1 := (fz_grew hg (fz_al _ (fz_al _ hcbw fz0).1 (fz_al _ hcbw fz0).2).1 (fz_al _ (fz_al _ hcbw fz0).1 (fz_al _ hcbw fz0).2).2).2))
          all_goals
            go_wp2_with fail
            go_meet
            obtain ⟨hk1, hf1⟩ := hg.fresh (w := wc) ((((Keep.refl _ _).al _).al _).dr)
            have hrw := hg.row
            simp only [List.nil_append] at hrw
            exact ⟨_, nt_fresh ty_ok hn4.out (Keep.refl _ wc) hk1 (its := [med]) (by simp only [Enc.all, List.flatMap_cons, List.flatMap_nil, List.append_nil]; exact hrw) hg.cap hf1⟩
        case rest =>
          obtain ⟨L5, nt⟩ := hcut
          have O5 := Lib.hid (O4.out.nt 1 rfl nt)
          clear nt O4 hn4
          simp only [List.set] at O5
          obtain ⟨_, rl, el, _, _, ecl⟩ := HA2.out.rl.root
          obtain ⟨_, rr, er, _, _, ecr⟩ := HA2.out.rr.root
          have hm5 : Mem TT E wc H' L' := (HA2.out.ts.mem.keepS KB.out fun _ _ _ _ _ _ h => h).keepS O5.out.keep fun a q c o hq hf hs => hs.elim (fun ⟨_, _, h, _⟩ => by cases h) (HA2.out.local a q c o hq hf)
          have hnl : n < WB.heap.size := (HA2.out.ts.mem.keepS KB.out fun _ _ _ _ _ _ h => h).lt el
          have hml : m < WB.heap.size := (HA2.out.ts.mem.keepS KB.out fun _ _ _ _ _ _ h => h).lt er
          have hfl : ((flat h t).length : Int) = rl.cnt + rr.cnt + 1 := by rw [HA2.out.fl, ecl, ecr]; simp; omega
          have hup := Lib.hid (updateCount_any (O5.out.node_ 1 rfl) (by simp) (cntOf H') (fun ks hks => by
            obtain rfl : [n, m] = ks := Option.some.inj hks
            have := HBIG.out
            refine ⟨by simp, by simp [cntOf, el, er]; omega, fun k hk => ?_⟩
            simp only [List.mem_cons, List.not_mem_nil, or_false] at hk
            have := NW.out
            rcases hk with rfl | rfl
            · exact ⟨by omega, by simp [cntOf, el]; omega, by rw [(hm5.at_ _ _ el).own.2.1]; simp [cntOf, el]⟩
            · exact ⟨by omega, by simp [cntOf, er]; omega, by rw [(hm5.at_ _ _ er).own.2.1]; simp [cntOf, er]⟩))
          have hcn : Hid ((1 : Int) + kidSum (cntOf H') (some [n, m]) = ((flat h t).length : Int)) := by
            show (1 : Int) + ([n, m].map (cntOf H')).sum = _
            simp [cntOf, el, er]; omega
          clear el er ecl ecr hm5 hnl hml hfl
          have c2 := hdr_root (O5.out.blk_ 0 rfl : Hdr wc b { hr with root := some nn })
          simp only [rootV, Option.map_some] at c2
          unfold ptr at hup
          go_wp2_with fail
          refine hup.out.mono ?_
          intro e we hpo
          have hat := upd_node (O5.out.node_ 1 rfl) hpo
          obtain ⟨rfl, hku, _⟩ := hpo
          have O6 := Lib.hid (O5.out.turn 1 rfl (r' := .node nn ⟨hr.iso, ((flat h t).length : Int), [med], some [n, m]⟩ L5) (hku.mono fun _ _ _ h => .inl h.1) (by have h2 := hcn.out; rw [← h2]; exact hat) (fun _ _ _ h => h))
          clear hat hku O5 hup c2 hcn
          simp only [List.set] at O6
          obtain ⟨H2, L6, F2', ts, T2, fl2, clr⟩ := HA2.out.tree HT.out KB.out HR.out O6.out NW.out
          have TS := Lib.hid ts
          have TT2 := Lib.hid T2
          have FL := Lib.hid fl2
          have CLR := Lib.hid clr
          have X6 := Lib.hid (HL.out we O6.out.keep (q + 2) _ (by omega) X0.out)
          have Y6 := Lib.hid (HL.out we O6.out.keep (q + 1) _ (by omega) Y0.out)
          have hset := Lib.hid (set_plain TT2.out (by rw [FL.out]; exact HBIG.out) x (fun a => by have := a.full; have := HT.out.par.odd; have := HT.out.par.pos; simp [Tr.its] at *; omega))
          clear ts T2 fl2 clr O6 X0
          have kx : we.cell? ⟨q + 1 + 1, 0, none⟩ = some (.int .i64 (ky x)) := by have := X6.out; simp only [World.cell?, this]; rfl
          have f0 : (partAt ⟨q + 1 + 1, 0, none⟩ 0 0).run Try.prog we = .ok ⟨q + 1 + 1, 0, none⟩ we := run_part0 (sz := 1) (n := 1) (by have := X6.out; simp only [World.shape?, this]; rfl) (by kernel_rfl) (by omega) (by kernel_rfl)
          unfold ptr kv vv at hset
          go_wp2_with fail
          refine hset.out.mono ?_
          rintro e w' ⟨hr', H'', L'', F'', s', pp, rfl, ts5, T5, put, i1, i2, i3, i4⟩
          have Y7 : w'.heap[q + 1]? = some (.cells #[] 124 (0, 0)) := ts5.blk TT2.out.mem Y6.out (fun o e => by omega) (fun a r o ha hf => CLR.out a r _ o ha hf (by have := XQ.out; omega))
          unfold vv
          simp only at i1 i2 i3
          replace Y7 := Lib.hid Y7
          go_wp2_with fail
          refine bodyPost_ret (results_cell_tmp_row rfl _ _ (q + 1) 124 #[] (0, 0) _ rfl Y7.out Try.underlying124 rfl (by kernel_rfl)) rfl ?_
          simp only [its] at put
          rw [FL.out] at put
          exact ⟨hr', H'', L'', F'', s', pp, rfl, TS.out.then HT.out.mem ts5, T5, put, i1, i2, i3, i4⟩

/-- SETTING IN A TREE. -/
theorem set_tree {w : World} {b : Nat} {hr : HRec} {H : Store It} {L : Nat → Lay} {F : List Nat} {mn mx : Nat} {s : Sh} (T : TreeAt w b hr H L F mn mx s) (big : (its s).length ≤ 3000000000000000000) (x : It) :
    Calls Try.prog 172 #[ptr b, kv (ky x), vv x] w (SetT w b hr H L F mn mx s x) := by
  cases s with
  | none => exact set_nil T x
  | some p =>
    obtain ⟨h, t⟩ := p
    by_cases ha : Asks mx h t (ky x)
    · exact set_split T big x ha
    · exact set_plain T big x ha
end Go.Proofs.Ytckplcmieelmpaa.S

namespace Go.Proofs.Ytckplcmieelmpaa.S
open Go.RowKit Go.Wb

/-- What is handed from a tree to a growing slice of keys. -/
def KeysPost (B : Nat) (w : World) (xs : List Ky) (e : Ending) (w' : World) : Prop := ∃ a cap, e = .returned (.slice a xs.length cap) ∧ Acc B w' 3 1 a xs.length cap (xs.map kv) ∧ Keep (fun b _ => B ≤ b) w w'

theorem wl_succ {α : Type} (K : List (List α)) (I : List α) (i : Nat) {k : List α} {x : α} (hk : K[i]? = some k) (hx : I[i]? = some x) : wl (K.take (i + 1)) (I.take (i + 1)) = wl (K.take i) (I.take i) ++ k ++ [x] := by
  induction i generalizing K I with
  | zero =>
    cases K with
    | nil => simp at hk
    | cons a K => cases I with
      | nil => simp at hx
      | cons b I => simp at hk hx; subst hk; subst hx; simp [wl]
  | succ i ih =>
    cases K with
    | nil => simp at hk
    | cons a K => cases I with
      | nil => simp at hx
      | cons b I =>
        simp only [List.take_succ_cons, wl, List.cons_append, List.append_assoc]
        rw [ih K I (by simpa using hk) (by simpa using hx)]
        simp
theorem wl_last {α : Type} {h : Nat} {its : List α} {ks : List (Tr α)} (hl : ks.length = its.length + 1) {k : Tr α} (hk : ks[its.length]? = some k) : flat (h + 1) (.node its ks) = wl ((ks.map (flat h)).take its.length) its ++ flat h k := by
  obtain ⟨hlt, rfl⟩ := List.getElem?_eq_some_iff.1 hk
  have e : ks = ks.take its.length ++ ks[its.length] :: [] := by
    have := List.take_append_drop its.length ks
    rw [List.drop_eq_getElem_cons hlt, List.drop_eq_nil_of_le (by omega)] at this
    exact this.symm
  have h1 := wl_wr ((ks.take its.length).map (flat h)) its (flat h ks[its.length]) [] [] (by simp; omega)
  simp only [List.append_nil, wr] at h1
  simp only [flat, Tr.its, Tr.ks]
  conv => lhs; rw [e]
  rw [List.map_append, List.map_cons, List.map_nil, h1, List.map_take]

theorem elemK : Elem Try.prog 3 1 8 := ⟨by kernel_rfl, by kernel_rfl, by kernel_rfl⟩

/-- The key's cell of an item of a node. -/
theorem node_key {w : World} {n : Nat} {r : NRec It} {L : Lay} (hn : NodeAt TT E w n r L) {i : Nat} {x : It} (hi : r.items[i]? = some x) : ∃ ib io, L.ia = some ⟨ib, io, none⟩ ∧
    w.cell? ⟨ib, io + i, none⟩ = some (kv (ky x)) := by
  obtain ⟨hil, _⟩ := List.getElem?_eq_some_iff.1 hi
  have hrow := hn.2.1
  obtain ⟨ib, io, hia, _⟩ := hrow.form (by rw [E.all_len]; exact Nat.mul_pos (by omega) E.pos)
  rw [hia] at hrow
  exact ⟨ib, io, hia, key_cell hrow hi⟩

set_option maxRecDepth 100000 in
set_option maxHeartbeats 4000000 in
theorem keys_leaf {w0 : World} {n : Nat} {r : NRec It} {L : Lay} (hn : NodeAt TT E w0 n r L) (hlf : r.kids = none) (hlen : r.items.length ≤ 1000000000000) (B : Nat) (hB : B = w0.heap.size) {w : World} (hK : Keep (fun b _ => B ≤ b) w0 w) {a : Option Addr} {cap : Nat} {xs : List Ky}
    (hA : Acc B w 3 1 a xs.length cap (xs.map kv)) (hb : xs.length + r.items.length ≤ 4000000000000) :
    Calls Try.prog 175 #[ptr n, .slice a xs.length cap] w (KeysPost B w (xs ++ r.items.map ky)) := by
  have HN := Lib.hid hn
  have HB0 := Lib.hid hB
  have HK := Lib.hid hK
  have HA := Lib.hid hA
  have nodeat : Hid (∀ W, Keep (fun b _ => B ≤ b) w0 W → NodeAt TT E W n r L) := by
    exact fun W k => hn.keep k fun b o hf h => by have := hn.lt hf; omega
  have hlv := leaf_any (nodeat.out w hK)
  rw [hlf] at hlv
  simp only [Option.isNone_none] at hlv
  clear hn hlf hK hA hB
  unfold ptr at *
  go_enter Try.func175, Try.ntmps175
  go_wp2_with fail
  refine hlv.mono ?_
  rintro e w1 ⟨rfl, rfl⟩
  clear hlv
  go_wp2_with fail
  go_loopg [1, 5] (r.items.length + 1) (fun k v1 v5 wr => ∃ (i : Nat) (a' : Option Addr) (cap' : Nat), v5 = .int .i64 i ∧ v1 = .slice a' (xs.length + i) cap' ∧ i ≤ r.items.length ∧ i + k = r.items.length + 1 ∧ Keep (fun b _ => B ≤ b) w wr ∧ Acc B wr 3 1 a' (xs.length + i) cap' ((xs ++ (r.items.take i).map ky).map kv))
  case atStart => exact ⟨0, a, cap, rfl, rfl, by omega, by omega, Keep.refl _ _, by simpa using HA.out⟩
  case round =>
    obtain ⟨i, a1, cap1, rfl, rfl, hil, hik, hK1, hA1⟩ := hrel
    have HK1 := Lib.hid hK1
    have HA1 := Lib.hid hA1
    have N1 := Lib.hid (nodeat.out wr (HK.out.trans hK1 fun _ _ _ h => h))
    obtain ⟨d0, d1, c2, d3, fz⟩ := N1.out.own
    clear d0 d1 d3 hK1 hA1
    by_cases hlt : i < r.items.length
    · have hx : r.items[i]? = some r.items[i] := List.getElem?_eq_getElem hlt
      have HX := Lib.hid hx
      obtain ⟨ib, io, hia, ck⟩ := node_key N1.out hx
      rw [hia] at c2
      generalize r.items[i] = x at *
      have hBw : B ≤ wr.heap.size := by have := HB0.out; have := HK.out.size; have := HK1.out.size; omega
      clear hx hia
      unfold kv at ck
      go_wp2_with (at_builtin; refine wpList_append_any rfl _ _ _ rfl 3 1 8 Try.underlying32 elemK a1 (xs.length + i) cap1 _ rfl (HA1.out.quiet (Keep.alloc _ _ _)).row HA1.out.len ⟨wr.heap.size, 0, none⟩ 1 1 [kv (ky x)] rfl rfl (new_cells (heap_alloc_new wr _)) (by intro u hu; rw [List.mem_singleton.1 hu]; rfl) (by omega) HA1.out.le (by simp only [maxLen]; omega) (by omega) ?_; intro a2 cap2 w2 hg)
      obtain ⟨hA2, hK2⟩ := (HA1.out.quiet (Keep.alloc _ _ _)).grow (by simp; omega) hg rfl
      have HA2 := Lib.hid hA2
      have HK2 : Hid (Keep (fun b _ => B ≤ b) w w2) := by exact (HK1.out.al _).trans hK2 fun _ _ _ h => h
      clear hg hA2 hK2 ck c2 fz
      go_wp2_with fail
      go_roundg (r.items.length - i)
      case measure => omega
      case rel =>
        refine ⟨i + 1, a2, cap2, by go_num, by simp [Nat.add_assoc], by omega, by omega, HK2.out, ?_⟩
        have e : (xs ++ (r.items.take (i + 1)).map ky).map kv = (xs ++ (r.items.take i).map ky).map kv ++ [kv (ky x)] := by
          rw [List.take_add_one, HX.out]; simp
        rw [e]
        exact HA2.out
    · have hi : i = r.items.length := by omega
      subst hi
      go_wp2_with fail
      go_ret
      refine ⟨a1, cap1, by simp, ?_, HK1.out⟩
      have := HA1.out
      rw [List.take_of_length_le (Nat.le_refl _)] at this
      simpa using this

set_option maxRecDepth 100000 in
set_option maxHeartbeats 8000000 in
theorem keys_inner {w0 : World} {n h : Nat} {r : NRec It} {L : Lay} (hn : NodeAt TT E w0 n r L) {ns : List Nat} (hkd : r.kids = some ns) {ks : List (Tr It)} (hks : ks.length = r.items.length + 1) (hnl : ns.length = ks.length) (hlen : r.items.length ≤ 1000000000000) (B : Nat) (hB : B = w0.heap.size)
    (IH : ∀ (i m : Nat) (k : Tr It) (w : World) (a : Option Addr) (cap : Nat) (xs : List Ky), ns[i]? = some m → ks[i]? = some k → Keep (fun b _ => B ≤ b) w0 w → Acc B w 3 1 a xs.length cap (xs.map kv) → xs.length + (flat h k).length ≤ 4000000000000 →
      Calls Try.prog 175 #[ptr m, .slice a xs.length cap] w (KeysPost B w (xs ++ (flat h k).map ky)))
    {w : World} (hK : Keep (fun b _ => B ≤ b) w0 w) {a : Option Addr} {cap : Nat} {xs : List Ky}
    (hA : Acc B w 3 1 a xs.length cap (xs.map kv)) (hb : xs.length + (flat (h + 1) (.node r.items ks)).length ≤ 4000000000000) :
    Calls Try.prog 175 #[ptr n, .slice a xs.length cap] w (KeysPost B w (xs ++ (flat (h + 1) (.node r.items ks)).map ky)) := by
  have HN := Lib.hid hn
  have HB0 := Lib.hid hB
  have HK := Lib.hid hK
  have HA := Lib.hid hA
  have HI := Lib.hid IH
  have HKD := Lib.hid hkd
  have HKS := Lib.hid hks
  have HNL := Lib.hid hnl
  have nodeat : Hid (∀ W, Keep (fun b _ => B ≤ b) w0 W → NodeAt TT E W n r L) := by
    exact fun W k => hn.keep k fun b o hf h => by have := hn.lt hf; omega
  have hlv := leaf_any (nodeat.out w hK)
  rw [hkd] at hlv
  simp only [Option.isNone_some] at hlv
  have part : Hid (∀ i, i ≤ r.items.length → (wl ((ks.map (flat h)).take i) (r.items.take i)).length ≤ (flat (h + 1) (.node r.items ks)).length ∧ ∀ k, ks[i]? = some k → (wl ((ks.map (flat h)).take i) (r.items.take i)).length + (flat h k).length + (if i < r.items.length then 1 else 0) ≤ (flat (h + 1) (.node r.items ks)).length) := by
    intro i hi
    have hl := (flat_len (h := h) hks)
    have hw : ∀ i, i ≤ r.items.length → (wl ((ks.map (flat h)).take i) (r.items.take i)).length = i + (((ks.map fun k => (flat h k).length)).take i).sum := by
      intro i
      induction i with
      | zero => intro _; simp [wl]
      | succ i ih =>
        intro hi
        have hk : (ks.map (flat h))[i]? = some (flat h (ks[i]'(by omega))) := by rw [List.getElem?_map, List.getElem?_eq_getElem (by omega)]; rfl
        rw [wl_succ _ _ i hk (List.getElem?_eq_getElem (by omega)), List.length_append, List.length_append, ih (by omega), List.take_succ_eq_append_getElem (by simp; omega), List.sum_append]
        simp
        omega
    have hs : ∀ j, (((ks.map fun k => (flat h k).length)).take j).sum ≤ ((ks.map fun k => (flat h k).length)).sum := fun j => by
      have := List.sum_append (l₁ := (ks.map fun k => (flat h k).length).take j) (l₂ := (ks.map fun k => (flat h k).length).drop j)
      rw [List.take_append_drop] at this
      omega
    rw [hw i hi, hl]
    refine ⟨by have := hs i; omega, fun k hk => ?_⟩
    have h1 := hs (i + 1)
    obtain ⟨hkl, rfl⟩ := List.getElem?_eq_some_iff.1 hk
    rw [List.take_succ_eq_append_getElem (by simpa using hkl), List.sum_append] at h1
    simp at h1
    split <;> omega
  clear hn hkd hK hA hB IH hks hnl
  unfold ptr at *
  go_enter Try.func175, Try.ntmps175
  go_wp2_with fail
  refine hlv.mono ?_
  rintro e w1 ⟨rfl, rfl⟩
  clear hlv
  go_wp2_with fail
  go_loopg [1, 6] (r.items.length + 1) (fun k v1 v6 wr => ∃ (i : Nat) (a' : Option Addr) (cap' : Nat) (ys : List Ky), v6 = .int .i64 i ∧ v1 = .slice a' ys.length cap' ∧ i ≤ r.items.length ∧ i + k = r.items.length + 1 ∧ Keep (fun b _ => B ≤ b) w wr ∧ Acc B wr 3 1 a' ys.length cap' (ys.map kv) ∧
    ys = xs ++ (wl ((ks.map (flat h)).take i) (r.items.take i)).map ky)
  case atStart => exact ⟨0, a, cap, xs, rfl, rfl, by omega, by omega, Keep.refl _ _, HA.out, by simp [wl]⟩
  case round =>
    obtain ⟨i, a1, cap1, ys, rfl, rfl, hil, hik, hK1, hA1, hys⟩ := hrel
    have HYS := Lib.hid hys
    have HK1 := Lib.hid hK1
    have HA1 := Lib.hid hA1
    have N1 := Lib.hid (nodeat.out wr (HK.out.trans hK1 fun _ _ _ h => h))
    obtain ⟨d0, d1, c2, d3, fz⟩ := N1.out.own
    obtain ⟨c3, g1, fz2, _, _⟩ := N1.out.kids HKD.out
    unfold ptr at c3
    have hkl : ks[i]? = some (ks[i]'(by have := HKS.out; omega)) := List.getElem?_eq_getElem _
    have hnl : ns[i]? = some (ns[i]'(by have := HKS.out; have := HNL.out; omega)) := List.getElem?_eq_getElem _
    have hrow := (N1.out.2.2.2 ns HKD.out).2.1
    obtain ⟨kb, ko, hka, _⟩ := hrow.form (by simp; have := HKS.out; have := HNL.out; omega)
    rw [hka] at hrow g1
    have ck := hrow.cell (i := i) (v := ptr (ns[i]'(by have := HKS.out; have := HNL.out; omega))) (by simp [hnl])
    have hylen : ys.length = xs.length + (wl ((ks.map (flat h)).take i) (r.items.take i)).length := by rw [hys]; simp
    have HYL := Lib.hid hylen
    have hnsl : i < ns.length := (List.getElem?_eq_some_iff.1 hnl).1
    generalize ns[i]'(by have := HKS.out; have := HNL.out; omega) = m at *
    generalize ks[i]'(by have := HKS.out; omega) = k at *
    obtain ⟨p1, p2⟩ := part.out i hil
    have p3 := p2 k hkl
    have HKL := Lib.hid hkl
    have HMN := Lib.hid hnl
    unfold ptr at ck
    clear d0 d1 d3 hK1 hA1 hys hrow hka hkl hnl hylen p1 p2
    by_cases hlt : i < r.items.length
    · have hx : r.items[i]? = some r.items[i] := List.getElem?_eq_getElem hlt
      have HX := Lib.hid hx
      generalize r.items[i] = x at *
      rw [if_pos hlt] at p3
      have hcall := Lib.hid (HI.out i m k wr a1 cap1 ys HMN.out HKL.out (HK.out.trans HK1.out fun _ _ _ h => h) HA1.out (by have := HYL.out; omega))
      clear hx
      unfold ptr at hcall
      go_wp2_with fail
      refine hcall.out.mono ?_
      rintro e w2 ⟨a2, cap2, rfl, hA2, hK2⟩
      have HA2 := Lib.hid hA2
      have HK2 : Hid (Keep (fun b _ => B ≤ b) w w2) := by exact HK1.out.trans hK2 fun _ _ _ h => h
      have HL2 : Hid ((ys ++ (flat h k).map ky).length + 1 ≤ 4000000000000) := Lib.hid (by have := HYL.out; simp; omega)
      clear hA2 hK2 hcall N1 c2 fz c3 g1 fz2 ck
      generalize hz : ys ++ (flat h k).map ky = zs at *
      have HZ := Lib.hid hz
      have N2 := Lib.hid (nodeat.out w2 (HK.out.trans HK2.out fun _ _ _ h => h))
      obtain ⟨d0, d1, c2, d3, fz⟩ := N2.out.own
      obtain ⟨ib, io, hia, ck⟩ := node_key N2.out HX.out
      rw [hia] at c2
      have hBw : B ≤ w2.heap.size := by have := HB0.out; have := HK.out.size; have := HK2.out.size; omega
      unfold kv at ck
      have hl2 := HL2.out
      clear d0 d1 d3 hia hz
      go_wp2_with (at_builtin; refine wpList_append_any rfl _ _ _ rfl 3 1 8 Try.underlying32 elemK a2 zs.length cap2 _ rfl (HA2.out.quiet (Keep.alloc _ _ _)).row HA2.out.len ⟨w2.heap.size, 0, none⟩ 1 1 [kv (ky x)] rfl rfl (new_cells (heap_alloc_new w2 _)) (by intro u hu; rw [List.mem_singleton.1 hu]; rfl) (by omega) HA2.out.le (by simp only [maxLen]; omega) (by omega) ?_; intro a3 cap3 w3 hg)
      obtain ⟨hA3, hK3⟩ := (HA2.out.quiet (Keep.alloc _ _ _)).grow (by simp; omega) hg rfl
      have HA3 := Lib.hid hA3
      have HK3 : Hid (Keep (fun b _ => B ≤ b) w w3) := by exact (HK2.out.al _).trans hK3 fun _ _ _ h => h
      clear hg hA3 hK3 ck c2 fz
      go_wp2_with fail
      go_roundg (r.items.length - i)
      case measure => omega
      case rel =>
        refine ⟨i + 1, a3, cap3, zs ++ [ky x], by go_num, by simp, by omega, by omega, HK3.out, ?_, ?_⟩
        · simpa using HA3.out
        · rw [wl_succ _ _ i (k := flat h k) (by simp [HKL.out]) HX.out, ← HZ.out, HYS.out]
          simp
    · have hi : i = r.items.length := by omega
      subst hi
      have hcall := Lib.hid (HI.out _ m k wr.drew a1 cap1 ys HMN.out HKL.out ((HK.out.trans HK1.out fun _ _ _ h => h).dr) (HA1.out.quiet (Keep.drew _ _)) (by have := HYL.out; omega))
      unfold ptr at hcall
      rw [HNL.out, HKS.out] at g1
      go_wp2_with fail
      refine wp_calm (by kernel_rfl) (by kernel_rfl) rfl ?_
      simp only [List.flatMap_cons, List.flatMap_nil, checks, chk, nilLit, List.cons_append, List.nil_append, List.append_nil]
      go_wp2_with fail
      refine hcall.out.mono ?_
      rintro e w2 ⟨a2, cap2, rfl, hA2, hK2⟩
      have HA2 := Lib.hid hA2
      have HK2 : Hid (Keep (fun b _ => B ≤ b) w w2) := by exact HK1.out.dr.trans hK2 fun _ _ _ h => h
      clear hA2 hK2 hcall N1 c2 fz c3 g1 fz2 ck
      go_wp2_with fail
      rw [HQ_normal]
      go_wp2_with fail
      go_ret
      have e : ys ++ (flat h k).map ky = xs ++ (flat (h + 1) (.node r.items ks)).map ky := by
        rw [wl_last HKS.out HKL.out, HYS.out, List.take_of_length_le (Nat.le_refl _)]
        simp
      rw [← e]
      exact ⟨a2, cap2, by simp, HA2.out, HK2.out⟩

/-- THE KEYS below a node. -/
theorem keys_any {w0 : World} {H : Store It} {L : Nat → Lay} {c : Int} {mn mx : Nat} (hm : Mem TT E w0 H L) (hmx : mx ≤ 1000000000000) (B : Nat) (hB : B = w0.heap.size) : ∀ (h l n : Nat) (t : Tr It) (F : List Nat), Rep H c h n t F → wfr l mn mx h t → ∀ (w : World), Keep (fun b _ => B ≤ b) w0 w → ∀ (a : Option Addr) (cap : Nat) (xs : List Ky),
    Acc B w 3 1 a xs.length cap (xs.map kv) → xs.length + (flat h t).length ≤ 4000000000000 → Calls Try.prog 175 #[ptr n, .slice a xs.length cap] w (KeysPost B w (xs ++ (flat h t).map ky))
  | 0, l, n, t, F, hr, wf, w, hK, a, cap, xs, hA, hb => by
    obtain ⟨r, h1, h2, h3, h4, h5, h6, _⟩ := hr
    obtain ⟨its, ks⟩ := t
    simp only [Tr.its, flat] at *
    subst h3
    exact keys_leaf (hm.at_ n r h1) h5 (by have := wf.2.1; simp only [Tr.its] at this; omega) B hB hK hA hb
  | h + 1, l, n, t, F, hr, wf, w, hK, a, cap, xs, hA, hb => by
    obtain ⟨r, ns, F', h1, h2, h3, h4, h5, h6, _⟩ := hr
    obtain ⟨w1, w2, w3, w4⟩ := wf
    obtain ⟨its, ks⟩ := t
    simp only [Tr.its, Tr.ks] at *
    subst h3
    refine keys_inner (hm.at_ n r h1) h4 w3 h6.len (by omega) B hB (fun i m k w a cap xs hm1 hk hK hA hb => ?_) hK hA hb
    obtain ⟨G, hR⟩ := h6.get hm1 hk
    exact keys_any hm hmx B hB h mn m k G hR (w4 k (List.mem_of_getElem? hk)) w hK a cap xs hA hb
end Go.Proofs.Ytckplcmieelmpaa.S

namespace Go.Proofs.Ytckplcmieelmpaa.S
open Go.RowKit Go.Wb

theorem len_any {w : World} {b : Nat} {hr : HRec} (hh : Hdr w b hr) : Calls Try.prog 130 #[ptr b] w fun e w' => e = .returned (.int .i64 hr.cnt) ∧ w = w' := by
  have c3 := hdr_cnt hh
  clear hh
  unfold ptr
  go_enter Try.func130, Try.ntmps130
  go_wp2
  go_ret
  exact ⟨rfl, rfl⟩

/-- What Keys returns: a slice of its own of the keys. -/
def NewKeys (w : World) (xs : List Ky) (e : Ending) (w' : World) : Prop := ∃ a cap, e = .returned (.slice a xs.length cap) ∧ Acc w.heap.size w' 3 1 a xs.length cap (xs.map kv) ∧ Keep Nothing w w'

set_option maxRecDepth 100000 in
set_option maxHeartbeats 4000000 in
theorem mapKeys_any {w : World} {b : Nat} {hr : HRec} {H : Store It} {L : Nat → Lay} {F : List Nat} {mn mx : Nat} {s : Sh} (T : TreeAt w b hr H L F mn mx s) (hb : (its s).length ≤ 4000000000000) :
    Calls Try.prog 129 #[ptr b] w (NewKeys w ((its s).map ky)) := by
  have HT := Lib.hid T
  have hln := len_any T.hdr
  rw [T.cnt] at hln
  obtain ⟨cs, hcs, hmk⟩ := run_make0 (P := Try.prog) 32 3 1 8 Try.underlying32 elemK 0 (its s).length (by omega) (by omega) (by omega)
  have hmk' : ∀ w, (Instr.makeSlice 32 (.int .i64 0) (.int .i64 ((its s).length : Int))).run Try.prog w = .ok (.slice (some ⟨w.heap.size, 0, none⟩) 0 (its s).length) (w.alloc (.cells cs 3)) := fun w => hmk w
  have HCS := Lib.hid hcs
  clear hmk hcs T
  unfold ptr at *
  go_enter Try.func129, Try.ntmps129
  go_wp2_with fail
  refine hln.mono ?_
  rintro e w1 ⟨rfl, rfl⟩
  go_upto_region 2 with (fail)
  refine wp_world ?_
  intro W1 hW1
  have K1 : Hid (Keep Nothing w W1) := by subst hW1; exact (Keep.refl _ _).al _
  have KB1 : Hid (Keep (fun b _ => w.heap.size ≤ b) w W1) := by exact K1.out.mono fun _ _ _ h => h.elim
  have A1 : Hid (Acc w.heap.size W1 3 1 (some ⟨w.heap.size, 0, none⟩) 0 (its s).length []) := by
    subst hW1
    exact ⟨.inr ⟨_, 0, cs, rfl, heap_alloc_new w _, by simp, by rw [HCS.out]; omega, by simp⟩, rfl, Nat.zero_le _, fun c o hf => Nat.le_of_eq (rowFp_some hf).1.symm⟩
  have H1 : Hid (Hdr W1 b hr) := by exact blk_keep HT.out.hdr K1.out fun _ h => h
  clear hW1 hmk' hln
  have c2 := hdr_root H1.out
  have fz := hdr_fz H1.out
  cases s with
  | none =>
    obtain ⟨hroot, _⟩ := HT.out.root
    rw [hroot] at c2
    simp only [rootV, Option.map_none] at c2
    clear hroot
    go_wp2_with fail
    go_ret
    exact ⟨_, _, rfl, A1.out, K1.out⟩
  | some p =>
    obtain ⟨h, t⟩ := p
    obtain ⟨n, hroot, rep, wf⟩ := HT.out.root
    rw [hroot] at c2
    simp only [rootV, Option.map_some] at c2
    have hcall := Lib.hid (keys_any HT.out.mem HT.out.par.hb w.heap.size rfl h 1 n t F rep wf W1 KB1.out _ _ [] A1.out (by simpa [its] using hb))
    clear hroot rep wf
    unfold ptr at hcall
    go_wp2_with fail
    refine hcall.out.mono ?_
    rintro e w2 ⟨a, cap, rfl, hA, hK⟩
    have HA := Lib.hid hA
    have HK := Lib.hid hK
    clear hA hK hcall c2 fz
    go_wp2_with fail
    go_ret
    exact ⟨a, cap, by simp [its], by simpa [its] using HA.out, (KB1.out.trans HK.out fun _ _ _ h => h).mono fun b o hb h => by omega⟩
end Go.Proofs.Ytckplcmieelmpaa.S

namespace Go.Wb
variable {α : Type} {lt : α → α → Bool}

/-- An item put into sorted ones. -/
def putF (lt : α → α → Bool) (l : List α) (x : α) : List α := l.filter (fun a => lt a x) ++ x :: l.filter (fun b => lt x b)
/-- The item that is as x. -/
def sameF (lt : α → α → Bool) (l : List α) (x : α) : Option α := l.find? fun a => !lt a x && !lt x a

theorem Put.eq (o : Ord lt) {l l' : List α} {x : α} {p : Option α} (h : Put lt l x l' p) : l' = putF lt l x ∧ p = sameF lt l x := by
  have hA : ∀ A : List α, (∀ a ∈ A, lt a x = true) → A.filter (fun a => lt a x) = A ∧ A.filter (fun b => lt x b) = [] := fun A hA => ⟨List.filter_eq_self.2 hA, List.filter_eq_nil_iff.2 fun a ha => by rw [o.asymm (hA a ha)]; simp⟩
  have hB : ∀ B : List α, (∀ b ∈ B, lt x b = true) → B.filter (fun a => lt a x) = [] ∧ B.filter (fun b => lt x b) = B := fun B hB => ⟨List.filter_eq_nil_iff.2 fun a ha => by rw [o.asymm (hB a ha)]; simp, List.filter_eq_self.2 hB⟩
  cases p with
  | none =>
    obtain ⟨A, B, rfl, rfl, h1, h2⟩ := h
    refine ⟨by simp [putF, hA A h1, hB B h2], ?_⟩
    rw [sameF, eq_comm, List.find?_eq_none]
    intro a ha
    rcases List.mem_append.1 ha with h | h
    · simp [h1 a h]
    · simp [h2 a h]
  | some p =>
    obtain ⟨A, B, rfl, rfl, e1, e2, h1, h2⟩ := h
    refine ⟨by simp [putF, hA A h1, hB B h2, e1, e2], ?_⟩
    rw [sameF, List.find?_append, List.find?_eq_none.2 (fun a ha => by simp [h1 a ha])]
    simp [e1, e2]

theorem putF_len (l : List α) (x : α) (o : Ord lt) : (putF lt l x).length ≤ l.length + 1 := by
  have h : ∀ l : List α, (l.filter (fun a => lt a x)).length + (l.filter (fun b => lt x b)).length ≤ l.length := by
    intro l
    induction l with
    | nil => simp
    | cons a l ih =>
      simp only [List.filter_cons]
      cases h1 : lt a x with
      | true => rw [o.asymm h1]; simp; omega
      | false => cases h2 : lt x a <;> simp <;> omega
  have := h l
  simp [putF]; omega
theorem foldl_put_len (o : Ord lt) (xs : List α) : ∀ l : List α, (xs.foldl (putF lt) l).length ≤ l.length + xs.length := by
  induction xs with
  | nil => intro l; simp
  | cons x xs ih => intro l; have h1 := ih (putF lt l x); have h2 := putF_len l x o; simp only [List.foldl_cons, List.length_cons]; omega
end Go.Wb
namespace Go.Wb
variable {α : Type} {lt : α → α → Bool}
theorem mem_putF {l : List α} {x y : α} (h : y ∈ putF lt l x) : y ∈ l ∨ y = x := by
  simp only [putF, List.mem_append, List.mem_cons, List.mem_filter] at h
  rcases h with h | h | h
  · exact .inl h.1
  · exact .inr h
  · exact .inl h.1
theorem mem_foldl_put {xs : List α} : ∀ {l : List α} {y : α}, y ∈ xs.foldl (putF lt) l → y ∈ l ∨ y ∈ xs := by
  induction xs with
  | nil => intro l y h; exact .inl h
  | cons x xs ih =>
    intro l y h
    rcases ih h with h | h
    · rcases mem_putF h with h | h
      · exact .inl h
      · exact .inr (by simp [h])
    · exact .inr (by simp [h])
theorem putF_sorted (o : Ord lt) {l : List α} (hs : Sorted lt l) (x : α) : Sorted lt (putF lt l x) := by
  refine List.pairwise_append.2 ⟨hs.filter _, List.pairwise_cons.2 ⟨fun b hb => (List.mem_filter.1 hb).2, hs.filter _⟩, fun a ha b hb => ?_⟩
  have h1 := (List.mem_filter.1 ha).2
  rcases List.mem_cons.1 hb with rfl | hb
  · exact h1
  · exact o.tr _ _ _ h1 (List.mem_filter.1 hb).2
theorem foldl_put_sorted (o : Ord lt) (xs : List α) : ∀ {l : List α}, Sorted lt l → Sorted lt (xs.foldl (putF lt) l) := by
  induction xs with
  | nil => intro l h; exact h
  | cons x xs ih => intro l h; exact ih (putF_sorted o h x)
/-- What is put is there, or one that is as it. -/
theorem putF_has (o : Ord lt) {l : List α} {x y : α} (h : y ∈ l ∨ y = x) : ∃ z ∈ putF lt l x, lt z y = false ∧ lt y z = false := by
  rcases h with h | rfl
  · cases h1 : lt y x with
    | true => exact ⟨y, by simp [putF, h, h1], o.irr y, o.irr y⟩
    | false => cases h2 : lt x y with
      | true => exact ⟨y, by simp [putF, h, h2], o.irr y, o.irr y⟩
      | false => exact ⟨x, by simp [putF], h2, h1⟩
  · exact ⟨y, by simp [putF], o.irr y, o.irr y⟩
theorem putF_map {β : Type} {lt' : β → β → Bool} (f : α → β) (hf : ∀ a b, lt' (f a) (f b) = lt a b) (l : List α) (x : α) : putF lt' (l.map f) (f x) = (putF lt l x).map f := by
  simp only [putF, List.map_append, List.map_cons, List.filter_map]
  congr 1
  · congr 1; apply List.filter_congr; intro a _; simp [hf]
  · congr 2; apply List.filter_congr; intro a _; simp [hf]
theorem foldl_put_map {β : Type} {lt' : β → β → Bool} (f : α → β) (hf : ∀ a b, lt' (f a) (f b) = lt a b) (xs : List α) : ∀ l : List α, (xs.map f).foldl (putF lt') (l.map f) = (xs.foldl (putF lt) l).map f := by
  induction xs with
  | nil => intro l; rfl
  | cons x xs ih => intro l; simp only [List.map_cons, List.foldl_cons]; rw [putF_map f hf, ih]
end Go.Wb

namespace Go.Proofs.Ytckplcmieelmpaa.S
open Go.RowKit Go.Wb

/-- A tree that was made since w. -/
structure NewTree (w w' : World) (b : Nat) (hr : HRec) (H : Store It) (L : Nat → Lay) (F : List Nat) (mn mx : Nat) (s : Sh) : Prop where
  tree : TreeAt w' b hr H L F mn mx s
  keep : Keep Nothing w w'
  head : w.heap.size ≤ b
  nodes : ∀ m r c o, H m = some r → fp TT m r (L m) c o → w.heap.size ≤ c

theorem NewTree.step {w wr w' : World} {b : Nat} {hr hr' : HRec} {H H' : Store It} {L L' : Nat → Lay} {F F' : List Nat} {mn mx : Nat} {s s' : Sh} (h : NewTree w wr b hr H L F mn mx s) (ts : TStep TT E (fun c _ => c = b) wr H L F w' H' L' F') (T : TreeAt w' b hr' H' L' F' mn mx s') : NewTree w w' b hr' H' L' F' mn mx s' := by
  refine ⟨T, h.keep.trans ts.keep fun c o hc hs => ?_, h.head, fun m r c o hr hf => ?_⟩
  · rcases hs with ⟨m, r, _, hr, hf⟩ | rfl
    · have := h.nodes m r c o hr hf; omega
    · have := h.head; omega
  · rcases ts.only m r hr with h1 | ⟨_, h2, h3⟩
    · rcases Nat.lt_or_ge c wr.heap.size with hc | hc
      · obtain ⟨k, q, _, hq, hfq⟩ := ts.fp c o hc ⟨m, r, h1, hr, hf⟩
        exact h.nodes k q c o hq hfq
      · exact Nat.le_trans h.keep.size hc
    · rw [h3] at hf
      exact h.nodes m r c o h2 hf

theorem NewTree.calm {w wr w' : World} {b : Nat} {hr : HRec} {H : Store It} {L : Nat → Lay} {F : List Nat} {mn mx : Nat} {s : Sh} (h : NewTree w wr b hr H L F mn mx s) (hk : Keep Nothing wr w') : NewTree w w' b hr H L F mn mx s :=
  ⟨h.tree.keep hk, h.keep.trans hk fun _ _ _ h => h, h.head, h.nodes⟩

def zeroHdr : HRec := ⟨0, none, none, 0, 0, 0, 0, false, false⟩
theorem mem_empty (w : World) (L : Nat → Lay) : Mem TT E w (fun _ => none) L := ⟨fun n r h => (by cases h), fun n m r q _ h => (by cases h)⟩
/-- A zero tree. -/
theorem newTree_zero {w : World} {b : Nat} (hb : Hdr w b zeroHdr) {w0 : World} (hk : Keep Nothing w0 w) (h0 : w0.heap.size ≤ b) : NewTree w0 w b zeroHdr (fun _ => none) (fun _ => ⟨none, 0, 0, none, 0⟩) [] 31 63 none :=
  ⟨⟨hb, mem_empty _ _, by simp, ⟨rfl, rfl⟩, rfl, by simp [its, Sorted], ⟨rfl, rfl, .inr ⟨rfl, rfl, rfl, rfl⟩, by omega, by omega, by omega⟩⟩, hk, h0, fun m r c o h => by cases h⟩

end Go.Proofs.Ytckplcmieelmpaa.S

namespace Go.Proofs.Ytckplcmieelmpaa.S
open Go.RowKit Go.Wb

set_option maxHeartbeats 1000000 in
theorem insert_any {w : World} {b : Nat} {hr : HRec} {H : Store It} {L : Nat → Lay} {F : List Nat} {mn mx : Nat} {s : Sh} (T : TreeAt w b hr H L F mn mx s) (big : (its s).length ≤ 3000000000000000000) (x : It) :
    Calls Try.prog 127 #[ptr b, kv (ky x)] w fun e w' => e = .returned (.tuple #[]) ∧ ∃ hr' H' L' F' s' p, TStep TT E (fun c _ => c = b) w H L F w' H' L' F' ∧ TreeAt w' b hr' H' L' F' mn mx s' ∧ Put ilt (its s) x (its s') p ∧ hr'.iso = hr.iso ∧ hr'.ctr = hr.ctr ∧ hr'.emp = hr.emp := by
  have hset := Lib.hid (set_tree T big x)
  clear T big
  unfold ptr kv vv at *
  go_enter Try.func127, Try.ntmps127
  go_wp2_with fail
  refine hset.out.mono ?_
  rintro e w' ⟨hr', H', L', F', s', p, rfl, h1, h2, h3, h4, h5, h6, _⟩
  go_wp2_with fail
  go_end0
  exact ⟨rfl, hr', H', L', F', s', p, h1, h2, h3, h4, h5, h6⟩

theorem setKeys_any {w : World} {b : Nat} {hr : HRec} {H : Store It} {L : Nat → Lay} {F : List Nat} {mn mx : Nat} {s : Sh} (T : TreeAt w b hr H L F mn mx s) (hb : (its s).length ≤ 4000000000000) :
    Calls Try.prog 79 #[ptr b] w (NewKeys w ((its s).map ky)) := by
  have hk := Lib.hid (mapKeys_any T hb)
  clear T
  unfold ptr at *
  go_enter Try.func79, Try.ntmps79
  go_wp2_with fail
  refine hk.out.mono ?_
  rintro e w' ⟨a, cap, rfl, h1, h2⟩
  go_wp2_with fail
  go_ret
  exact ⟨a, cap, by simp, h1, h2⟩

def GrowPost (w : World) (l : List It) (e : Ending) (w' : World) : Prop := ∃ b hr H L F s, e = .returned (ptr b) ∧ NewTree w w' b hr H L F 31 63 s ∧ its s = l.foldl (putF ilt) []

set_option maxRecDepth 100000 in
set_option maxHeartbeats 4000000 in
theorem grow_any {w : World} {a : Option Addr} {cap : Nat} {l : List It} (hrow : Given w a (l.map fun x => kv (ky x))) (hl : l.length ≤ 4000000000000) :
    Calls Try.prog 77 #[.slice a l.length cap] w (GrowPost w l) := by
  have HR := Lib.hid hrow
  have HL := Lib.hid hl
  clear hrow hl
  go_enter Try.func77, Try.ntmps77
  go_upto_region 2 with (fail)
  refine wp_world ?_
  intro W1 hW1
  have N1 : Hid (NewTree w W1 w.heap.size zeroHdr (fun _ => none) (fun _ => ⟨none, 0, 0, none, 0⟩) [] 31 63 none) := by
    subst hW1
    exact newTree_zero (by have := heap_alloc_new w (.cells (hdrC zeroHdr) 185); exact this) ((Keep.refl _ _).al _) (Nat.le_refl _)
  clear hW1
  generalize w.heap.size = b at *
  go_wp2_with fail
  go_loopg [9] (l.length + 1) (fun k v9 wr => ∃ (i : Nat) (hr : HRec) (H : Store It) (L : Nat → Lay) (F : List Nat) (s : Sh), v9 = .int .i64 i ∧ i ≤ l.length ∧ i + k = l.length + 1 ∧ NewTree w wr b hr H L F 31 63 s ∧ its s = (l.take i).foldl (putF ilt) [])
  case atStart => exact ⟨0, _, _, _, _, _, rfl, by omega, by omega, N1.out, rfl⟩
  case round =>
    obtain ⟨i, hr, H, L, F, s, rfl, hil, hik, hN, hits⟩ := hrel
    have HN := Lib.hid hN
    have HI := Lib.hid hits
    by_cases hlt : i < l.length
    · have hx : l[i]? = some l[i] := List.getElem?_eq_getElem hlt
      have HX := Lib.hid hx
      obtain ⟨x, hxe⟩ : ∃ x, l[i] = x := ⟨_, rfl⟩
      rw [hxe] at hx HX
      obtain ⟨kb, ko, hka, ck⟩ := (HR.out.keep hN.keep).cell (i := i) (by simpa using hlt)
      subst hka
      rw [show (l.map fun x => kv (ky x))[i]'(by simpa using hlt) = kv (ky x) by simp [hxe]] at ck
      clear hxe
      have hll := HL.out
      have hlen : (its s).length ≤ i := by rw [hits]; have := foldl_put_len iord (l.take i) []; simp at this; omega
      have hins := Lib.hid (insert_any hN.tree (by have := HL.out; omega) x)
      unfold kv ptr at *
      clear hN hits hx
      go_wp2_with fail
      refine hins.out.mono ?_
      rintro e w2 ⟨rfl, hr', H', L', F', s', p, h1, h2, h3, _, _, _⟩
      have HN2 := Lib.hid (HN.out.step h1 h2)
      have HP := Lib.hid h3
      clear h1 h2 h3 hins ck
      go_wp2_with fail
      go_roundg (l.length - i)
      case measure => omega
      case rel =>
        refine ⟨i + 1, hr', H', L', F', s', by go_num, by omega, by omega, HN2.out, ?_⟩
        rw [(HP.out.eq iord).1, HI.out, List.take_add_one, HX.out]
        simp
    · have hi : i = l.length := by omega
      subst hi
      go_wp2_with fail
      go_ret
      refine ⟨b, hr, H, L, F, s, rfl, HN.out, ?_⟩
      rw [HI.out, List.take_of_length_le (Nat.le_refl _)]

/-- The keys of what was inserted. -/
def sortK (l : List It) : List It := l.foldl (putF ilt) []
set_option maxHeartbeats 1000000 in
theorem tinsert_any {w : World} {a : Option Addr} {cap : Nat} {l : List It} (hrow : Given w a (l.map fun x => kv (ky x))) (hl : l.length ≤ 4000000000000) :
    Calls Try.prog 75 #[.slice a l.length cap] w (NewKeys w ((sortK l).map ky)) := by
  have hg := Lib.hid (grow_any (cap := cap) hrow hl)
  clear hrow
  go_enter Try.func75, Try.ntmps75
  go_wp2_with fail
  refine hg.out.mono ?_
  rintro e w1 ⟨b, hr, H, L, F, s, rfl, hN, hits⟩
  have hk := Lib.hid (setKeys_any hN.tree (by rw [hits]; have := foldl_put_len iord l []; simp at this; omega))
  have HN := Lib.hid hN
  have HI := Lib.hid hits
  clear hN hits hg
  unfold ptr at *
  go_wp2_with fail
  refine hk.out.mono ?_
  rintro e w2 ⟨a', cap', rfl, h1, h2⟩
  go_wp2_with fail
  go_ret
  rw [HI.out] at h1 ⊢
  refine ⟨a', cap', by simp [sortK], ⟨h1.row, h1.len, h1.le, fun b o hf => Nat.le_trans HN.out.keep.size (h1.own b o hf)⟩, HN.out.keep.trans h2 fun _ _ _ h => h⟩
end Go.Proofs.Ytckplcmieelmpaa.S

namespace Go.Proofs.Ytckplcmieelmpaa.S
open Go.RowKit Go.Wb

/-- Lists of numbers: what is put into a sorted list, taken out of it. -/
theorem lt_iff {a b : Int} : ilt a b = true ↔ a < b := decide_eq_true_iff
theorem mem_put {l : List Int} {x y : Int} : y ∈ putF ilt l x ↔ y = x ∨ (y ∈ l ∧ y ≠ x) := by
  unfold putF
  simp only [List.mem_append, List.mem_cons, List.mem_filter, lt_iff]
  constructor
  · rintro (⟨h1, h2⟩ | h | ⟨h1, h2⟩)
    · exact .inr ⟨h1, by omega⟩
    · exact .inl h
    · exact .inr ⟨h1, by omega⟩
  · rintro (h | ⟨h1, h2⟩)
    · exact .inr (.inl h)
    · by_cases h3 : y < x
      · exact .inl ⟨h1, h3⟩
      · exact .inr (.inr ⟨h1, by omega⟩)
theorem mem_sort {l : List Int} {y : Int} : y ∈ sortK l ↔ y ∈ l := by
  have : ∀ (l acc : List Int), y ∈ l.foldl (putF ilt) acc ↔ y ∈ l ∨ y ∈ acc := by
    intro l
    induction l with
    | nil => intro acc; simp
    | cons x l ih =>
      intro acc
      rw [List.foldl_cons, ih, mem_put]
      simp only [List.mem_cons]
      by_cases h : y = x
      · simp [h]
      · simp [h]
  unfold sortK
  rw [this]
  simp
theorem sort_sorted (l : List Int) : Sorted ilt (sortK l) := foldl_put_sorted iord l (by simp [Sorted])
theorem sort_len (l : List Int) : (sortK l).length ≤ l.length := by have := foldl_put_len iord l []; unfold sortK; simpa using this
/-- Without some. -/
def lessS (l ks : List Int) : List Int := (sortK l).filter fun x => decide (x ∉ ks)
theorem mem_less {l ks : List Int} {y : Int} : y ∈ lessS l ks ↔ y ∈ l ∧ y ∉ ks := by
  unfold lessS
  rw [List.mem_filter, mem_sort, decide_eq_true_eq]
theorem less_sorted (l ks : List Int) : Sorted ilt (lessS l ks) := List.Pairwise.sublist List.filter_sublist (sort_sorted l)
theorem less_len (l ks : List Int) : (lessS l ks).length ≤ l.length := Nat.le_trans (List.length_filter_le _ _) (sort_len l)
def meetS (a b : List Int) : List Int := lessS a (lessS a b)
def unionS (a b : List Int) : List Int := sortK (a ++ b)
theorem mem_meet {a b : List Int} {y : Int} : y ∈ meetS a b ↔ y ∈ a ∧ y ∈ b := by
  unfold meetS
  rw [mem_less, mem_less]
  by_cases h1 : y ∈ a <;> by_cases h2 : y ∈ b <;> simp [h1, h2]
theorem mem_union {a b : List Int} {y : Int} : y ∈ unionS a b ↔ y ∈ a ∨ y ∈ b := by
  unfold unionS
  rw [mem_sort, List.mem_append]
theorem meet_sorted (a b : List Int) : Sorted ilt (meetS a b) := less_sorted _ _
theorem union_sorted (a b : List Int) : Sorted ilt (unionS a b) := sort_sorted _
theorem meet_len (a b : List Int) : (meetS a b).length ≤ a.length := less_len _ _
theorem union_len (a b : List Int) : (unionS a b).length ≤ a.length + b.length := by have := sort_len (a ++ b); rw [List.length_append] at this; exact this

theorem sorted_nodup {l : List Int} (h : Sorted ilt l) : l.Nodup := List.Pairwise.imp (fun {a b} h e => by subst e; rw [lt_iff] at h; omega) h
/-- Sorted lists of the same numbers are the same. -/
theorem sorted_ext : ∀ {l m : List Int}, Sorted ilt l → Sorted ilt m → (∀ y, y ∈ l ↔ y ∈ m) → l = m
  | [], [], _, _, _ => rfl
  | [], b :: m, _, _, h => by have := (h b).2 (by simp); cases this
  | a :: l, [], _, _, h => by have := (h a).1 (by simp); cases this
  | a :: l, b :: m, h1, h2, h => by
    obtain ⟨p1, p2⟩ := List.pairwise_cons.1 h1
    obtain ⟨q1, q2⟩ := List.pairwise_cons.1 h2
    have e : a = b := by
      rcases List.mem_cons.1 ((h a).1 (by simp)) with e | e
      · exact e
      · rcases List.mem_cons.1 ((h b).2 (by simp)) with e' | e'
        · exact e'.symm
        · have h3 := lt_iff.1 (p1 b e')
          have h4 := lt_iff.1 (q1 a e)
          omega
    subst e
    congr 1
    refine sorted_ext p2 q2 fun y => ⟨fun hy => ?_, fun hy => ?_⟩
    · rcases List.mem_cons.1 ((h y).1 (by simp [hy])) with e | e
      · have := lt_iff.1 (p1 y hy); omega
      · exact e
    · rcases List.mem_cons.1 ((h y).2 (by simp [hy])) with e | e
      · have := lt_iff.1 (q1 y hy); omega
      · exact e

theorem alg_one (a b c : List Int) : meetS a (unionS b c) = unionS (meetS a b) (meetS a c) := sorted_ext (meet_sorted _ _) (union_sorted _ _) fun y => by
  simp only [mem_meet, mem_union]
  by_cases h1 : y ∈ a <;> by_cases h2 : y ∈ b <;> by_cases h3 : y ∈ c <;> simp [h1, h2, h3]
theorem alg_two (a b c : List Int) : unionS a (meetS b c) = meetS (unionS a b) (unionS a c) := sorted_ext (union_sorted _ _) (meet_sorted _ _) fun y => by
  simp only [mem_meet, mem_union]
  by_cases h1 : y ∈ a <;> by_cases h2 : y ∈ b <;> by_cases h3 : y ∈ c <;> simp [h1, h2, h3]
theorem alg_three (a b c : List Int) : lessS a (unionS b c) = meetS (lessS a b) (lessS a c) := sorted_ext (less_sorted _ _) (meet_sorted _ _) fun y => by
  simp only [mem_meet, mem_union, mem_less]
  by_cases h1 : y ∈ a <;> by_cases h2 : y ∈ b <;> by_cases h3 : y ∈ c <;> simp [h1, h2, h3]
theorem alg_four (a b : List Int) : (unionS a b).length + (meetS a b).length = (sortK a).length + (sortK b).length := by
  have hu : (unionS a b).Perm (sortK a ++ (sortK b).filter fun x => decide (x ∉ a)) := by
    refine (List.perm_ext_iff_of_nodup (sorted_nodup (union_sorted a b)) ?_).2 fun y => ?_
    · refine List.nodup_append.2 ⟨sorted_nodup (sort_sorted a), List.Pairwise.sublist List.filter_sublist (sorted_nodup (sort_sorted b)), fun x hx y hy e => ?_⟩
      subst e
      rw [List.mem_filter, decide_eq_true_eq] at hy
      exact hy.2 (mem_sort.1 hx)
    · rw [mem_union, List.mem_append, mem_sort, List.mem_filter, mem_sort, decide_eq_true_eq]
      by_cases h1 : y ∈ a <;> simp [h1]
  have hm : (meetS a b).Perm ((sortK b).filter fun x => decide (x ∈ a)) := by
    refine (List.perm_ext_iff_of_nodup (sorted_nodup (meet_sorted a b)) (List.Pairwise.sublist List.filter_sublist (sorted_nodup (sort_sorted b)))).2 fun y => ?_
    rw [mem_meet, List.mem_filter, mem_sort, decide_eq_true_eq]
    exact And.comm
  have h1 := hu.length_eq
  have h2 := hm.length_eq
  have h3 : ∀ l : List Int, (l.filter fun x => decide (x ∉ a)).length + (l.filter fun x => decide (x ∈ a)).length = l.length := by
    intro l
    induction l with
    | nil => rfl
    | cons x l ih => by_cases h : x ∈ a <;> simp [h] at ih ⊢ <;> omega
  have := h3 (sortK b)
  rw [List.length_append] at h1
  omega
/-- Keys are deleted in turn. -/
theorem less_snoc (l : List Int) (ks : List Int) (k : Int) : lessS l (ks ++ [k]) = (lessS l ks).filter fun x => klt x k || klt k x := by
  unfold lessS
  rw [List.filter_filter]
  congr 1
  funext x
  simp only [List.mem_append, List.mem_singleton, not_or, klt, Bool.decide_and]
  by_cases h : x ∈ ks
  · simp [h]
  · by_cases e : x = k
    · subst e; simp [h]
    · have : (decide (x < k) || decide (k < x)) = true := by
        rcases Int.lt_or_gt_of_ne e with h1 | h1 <;> simp [h1]
      simp [h, e, this]
theorem less_nil (l : List Int) : lessS l [] = sortK l := by simp [lessS]
end Go.Proofs.Ytckplcmieelmpaa.S

namespace Go.Proofs.Ytckplcmieelmpaa.S
open Go.RowKit Go.Wb

theorem map_ky (l : List Int) : l.map ky = l := List.map_id' l
theorem elemI : Elem Try.prog 3 1 8 := ⟨by kernel_rfl, by kernel_rfl, by kernel_rfl⟩
/-- MAP.DELETE's contract, as a premise. -/
def DelOK : Prop := ∀ {w : World} {b : Nat} {hr : HRec} {H : Store It} {L : Nat → Lay} {F : List Nat} {mn mx : Nat} {s : Sh}, TreeAt w b hr H L F mn mx s → (its s).length ≤ 3000000000000000000 → ∀ k : Ky,
  Calls Try.prog 128 #[ptr b, kv k] w (DelT w b hr H L F mn mx s k)
theorem del_filter {l l' : List It} {k : Ky} {p : Option It} (h : Del ilt l (mkIt k) l' p) : l' = l.filter fun x => klt x k || klt k x := by
  have all : ∀ {l : List It}, (∀ x ∈ l, klt x k = true ∨ klt k x = true) → (l.filter fun x => klt x k || klt k x) = l := fun h => List.filter_eq_self.2 fun x hx => by simpa using h x hx
  cases p with
  | none =>
    obtain ⟨rfl, A, B, rfl, hA, hB⟩ := h
    refine (all fun x hx => ?_).symm
    rcases List.mem_append.1 hx with hx | hx
    · exact .inl (hA x hx)
    · exact .inr (hB x hx)
  | some p =>
    obtain ⟨A, B, rfl, rfl, h1, h2, hA, hB⟩ := h
    have e1 := all (l := A) fun x hx => .inl (hA x hx)
    have e2 := all (l := B) fun x hx => .inr (hB x hx)
    have e3 : klt p k = false := h1
    have e4 : klt k p = false := h2
    rw [List.filter_append, List.filter_cons, e1, e2]
    simp [e3, e4]

set_option maxHeartbeats 1000000 in
theorem setDel_any (hdel : DelOK) {w : World} {b : Nat} {hr : HRec} {H : Store It} {L : Nat → Lay} {F : List Nat} {mn mx : Nat} {s : Sh} (T : TreeAt w b hr H L F mn mx s) (big : (its s).length ≤ 3000000000000000000) (k : Ky) :
    Calls Try.prog 78 #[ptr b, kv k] w fun e w' => e = .returned (.tuple #[]) ∧ ∃ hr' H' L' F' s', TStep TT E (fun c _ => c = b) w H L F w' H' L' F' ∧ TreeAt w' b hr' H' L' F' mn mx s' ∧ its s' = (its s).filter fun x => klt x k || klt k x := by
  have hd := Lib.hid (hdel T big k)
  clear T big hdel
  unfold ptr kv at *
  go_enter Try.func78, Try.ntmps78
  go_wp2_with fail
  refine hd.out.mono ?_
  rintro e w' ⟨hr', H', L', F', s', p, rfl, h1, h2, h3, _⟩
  unfold vv
  go_wp2_with fail
  go_end0
  exact ⟨rfl, hr', H', L', F', s', h1, h2, del_filter h3⟩

set_option maxRecDepth 100000 in
set_option maxHeartbeats 4000000 in
theorem sdelete_any (hdel : DelOK) {w : World} {a : Option Addr} {cap : Nat} {l : List Int} (hrow : Given w a (l.map (Value.int .i64))) (hl : l.length ≤ 4000000000) {ka : Option Addr} {kcap : Nat} {ks : List Int} (hk : Given w ka (ks.map (Value.int .i64))) (hkl : ks.length ≤ 4000000000) :
    Calls Try.prog 35 #[.slice a l.length cap, .slice ka ks.length kcap] w (NewKeys w (lessS l ks)) := by
  have hg := Lib.hid (grow_any (cap := cap) (l := l) hrow (by omega))
  have HKS := Lib.hid hk
  have HLL := Lib.hid hl
  have HDEL : Hid DelOK := Lib.hid hdel
  clear hrow hk hdel
  go_enter Try.func35, Try.ntmps35
  go_wp2_with fail
  refine hg.out.mono ?_
  rintro e w1 ⟨b, hr, H, L, F, s, rfl, hN, hits⟩
  have HN := Lib.hid hN
  have HI : Hid (its s = lessS l (ks.take 0)) := Lib.hid (by rw [List.take_zero, less_nil]; exact hits)
  clear hg hN hits
  unfold ptr
  go_wp2_with fail
  go_loopg [12] (ks.length + 1) (fun m v12 wr => ∃ (i : Nat) (hr : HRec) (H : Store It) (L : Nat → Lay) (F : List Nat) (s : Sh), v12 = .int .i64 i ∧ i ≤ ks.length ∧ i + m = ks.length + 1 ∧ NewTree w wr b hr H L F 31 63 s ∧ its s = lessS l (ks.take i))
  case atStart => exact ⟨0, hr, H, L, F, s, rfl, by omega, by omega, HN.out, HI.out⟩
  case round =>
    obtain ⟨i, hr2, H2, L2, F2, s2, rfl, hil, hik, hN2, hI2⟩ := hrel
    have HN2 := Lib.hid hN2
    have HI2 := Lib.hid hI2
    clear hN2 hI2
    have hsl : (its s2).length ≤ 4000000000 := by rw [HI2.out]; have := less_len l (ks.take i); omega
    by_cases hlt : i < ks.length
    · obtain ⟨kb, ko, hka, ck⟩ := (HKS.out.keep HN2.out.keep).cell (i := i) (by simpa using hlt)
      subst hka
      obtain ⟨t, ht⟩ : ∃ t, ks[i] = t := ⟨_, rfl⟩
      rw [show (ks.map (Value.int .i64))[i]'(by simpa using hlt) = .int .i64 t by simp [ht]] at ck
      have hx : ks[i]? = some t := by rw [← ht]; exact List.getElem?_eq_getElem hlt
      have HX := Lib.hid hx
      have hd := Lib.hid (setDel_any HDEL.out HN2.out.tree (by omega) t)
      clear hx ht
      unfold kv ptr at *
      go_wp2_with fail
      refine hd.out.mono ?_
      rintro e w2 ⟨rfl, hr3, H3, L3, F3, s3, ts, T3, hI3⟩
      have HN3 := Lib.hid (HN2.out.step ts T3)
      have HI3 := Lib.hid hI3
      clear hd ts T3 hI3 ck
      go_wp2_with fail
      go_roundg (ks.length - i)
      case measure => omega
      case rel =>
        refine ⟨i + 1, hr3, H3, L3, F3, s3, by go_num, by omega, by omega, HN3.out, ?_⟩
        rw [HI3.out, HI2.out, List.take_add_one, HX.out, Option.toList_some, less_snoc]
    · have hi : i = ks.length := by omega
      subst hi
      have hk := Lib.hid (setKeys_any HN2.out.tree (by omega))
      unfold ptr at hk
      go_wp2_with fail
      refine hk.out.mono ?_
      rintro e w2 ⟨a', cap', rfl, h1, h2⟩
      have hm := map_ky (its s2)
      rw [hm] at h1 ⊢
      have hI := HI2.out
      rw [List.take_of_length_le (Nat.le_refl _)] at hI
      rw [hI] at h1 ⊢
      have H1 := Lib.hid h1
      have H2 := Lib.hid h2
      clear hk h1 h2 hm hI
      go_wp2_with fail
      go_ret
      exact ⟨a', cap', rfl, ⟨H1.out.row, H1.out.len, H1.out.le, fun c o hf => Nat.le_trans HN2.out.keep.size (H1.out.own c o hf)⟩, HN2.out.keep.trans H2.out fun _ _ _ h => h⟩

theorem sinsert_any {w : World} {a : Option Addr} {cap : Nat} {l : List Int} (hrow : Given w a (l.map (Value.int .i64))) (hl : l.length ≤ 4000000000) :
    Calls Try.prog 75 #[.slice a l.length cap] w (NewKeys w (sortK l)) := by
  have := tinsert_any (cap := cap) (l := l) hrow (by omega)
  rw [map_ky] at this
  exact this

set_option maxHeartbeats 1000000 in
theorem meet_any (hdel : DelOK) {w : World} {a : Option Addr} {cap : Nat} {l : List Int} (hrow : Given w a (l.map (Value.int .i64))) (hl : l.length ≤ 4000000000) {ka : Option Addr} {kcap : Nat} {ks : List Int} (hk : Given w ka (ks.map (Value.int .i64))) (hkl : ks.length ≤ 4000000000) :
    Calls Try.prog 33 #[.slice a l.length cap, .slice ka ks.length kcap] w (NewKeys w (meetS l ks)) := by
  have h1 := Lib.hid (sdelete_any hdel (cap := cap) (kcap := kcap) hrow hl hk hkl)
  have HR := Lib.hid hrow
  have HL := Lib.hid hl
  have HDEL : Hid DelOK := Lib.hid hdel
  clear hrow hk hdel
  go_enter Try.func33, Try.ntmps33
  go_wp2_with fail
  refine h1.out.mono ?_
  rintro e w1 ⟨a1, c1, rfl, hA, hK⟩
  have h2 := Lib.hid (sdelete_any HDEL.out (cap := cap) (kcap := c1) (HR.out.keep hK) HL.out hA.row.reads (by have := less_len l ks; have := HL.out; omega))
  have HK := Lib.hid hK
  clear h1 hA hK
  go_wp2_with fail
  refine h2.out.mono ?_
  rintro e w2 ⟨a2, c2, rfl, hA, hK⟩
  have HA := Lib.hid hA
  have HK2 := Lib.hid hK
  clear h2 hA hK
  go_wp2_with fail
  go_ret
  exact ⟨a2, c2, rfl, ⟨HA.out.row, HA.out.len, HA.out.le, fun c o hf => Nat.le_trans HK.out.size (HA.out.own c o hf)⟩, HK.out.trans HK2.out fun _ _ _ h => h⟩

set_option maxHeartbeats 1000000 in
theorem slen_any {w : World} {a : Option Addr} {cap : Nat} {l : List Int} (hrow : Given w a (l.map (Value.int .i64))) (hl : l.length ≤ 4000000000) :
    Calls Try.prog 36 #[.slice a l.length cap] w fun e w' => e = .returned (.int .i64 (sortK l).length) ∧ Keep Nothing w w' := by
  have hg := Lib.hid (grow_any (cap := cap) (l := l) hrow (by omega))
  clear hrow
  go_enter Try.func36, Try.ntmps36
  go_wp2_with fail
  refine hg.out.mono ?_
  rintro e w1 ⟨b, hr, H, L, F, s, rfl, hN, hits⟩
  have hln := len_any hN.tree.hdr
  have hc := hN.tree.cnt
  rw [hits] at hc
  rw [hc] at hln
  have HLN := Lib.hid hln
  have HK := Lib.hid hN.keep
  clear hg hN hits hln hc
  have hsl : Hid (Calls Try.prog 80 #[ptr b] w1 fun e w' => e = .returned (.int .i64 (sortK l).length) ∧ w1 = w') := by
    unfold ptr at *
    refine Lib.hid ?_
    go_enter Try.func80, Try.ntmps80
    go_wp2_with fail
    refine HLN.out.mono ?_
    rintro e w2 ⟨rfl, rfl⟩
    go_wp2_with fail
    go_ret
    exact ⟨rfl, rfl⟩
  unfold ptr at *
  go_wp2_with fail
  refine hsl.out.mono ?_
  rintro e w2 ⟨rfl, rfl⟩
  go_wp2_with fail
  go_ret
  exact ⟨rfl, HK.out⟩

set_option maxRecDepth 100000 in
set_option maxHeartbeats 2000000 in
theorem equalI_any {w : World} {a c : Option Addr} {acap ccap : Nat} {l : List Int} (h1 : Given w a (l.map (Value.int .i64))) (h2 : Given w c (l.map (Value.int .i64))) (hl : l.length ≤ 4000000000000) :
    Calls Try.prog 18 #[.slice a l.length acap, .slice c l.length ccap] w fun e w' => e = .returned (.bool true) ∧ Keep Nothing w w' := by
  have H1 := Lib.hid h1
  have H2 := Lib.hid h2
  clear h1 h2
  go_enter Try.func18, Try.ntmps18
  go_wp2_with fail
  go_loopg [13] (l.length + 1) (fun k v13 wr => ∃ i : Nat, v13 = .int .i64 i ∧ i ≤ l.length ∧ i + k = l.length + 1 ∧ Keep Nothing w wr)
  case atStart => exact ⟨0, rfl, by omega, by omega, Keep.refl _ _⟩
  case round =>
    obtain ⟨i, rfl, hil, hik, hK⟩ := hrel
    have HK := Lib.hid hK
    clear hK
    by_cases hlt : i < l.length
    · obtain ⟨t, ht⟩ : ∃ t, l[i] = t := ⟨_, rfl⟩
      obtain ⟨b1, o1, ha, x0⟩ := (H1.out.keep HK.out).cell (i := i) (by simpa using hlt)
      obtain ⟨b2, o2, hc, y0⟩ := (H2.out.keep HK.out).cell (i := i) (by simpa using hlt)
      subst ha
      subst hc
      rw [show (l.map (Value.int .i64))[i]'(by simpa using hlt) = .int .i64 t by simp [ht]] at x0 y0
      clear ht
      have hbb : (t != t) = false := by simp
      go_wp2_with fail
      go_quiet (fail)
      go_wp2_with fail
      go_roundg (l.length - i)
      case measure => omega
      case rel => exact ⟨i + 1, by go_num, by omega, by omega, HK.out.drN _⟩
    · have hi : i = l.length := by omega
      subst hi
      go_wp2_with fail
      go_ret
      exact ⟨rfl, HK.out⟩
end Go.Proofs.Ytckplcmieelmpaa.S

namespace Go.Proofs.Ytckplcmieelmpaa.S
open Go.RowKit Go.Wb

set_option maxHeartbeats 1000000 in
theorem has_any {w : World} {a : Option Addr} {cap : Nat} {l : List Int} (hrow : Given w a (l.map (Value.int .i64))) (hl : l.length ≤ 4000000000000) (y : Int) :
    Calls Try.prog 81 #[.slice a l.length cap, .int .i64 y] w fun e w' => e = .returned (.bool (decide (y ∈ l))) ∧ w = w' := by
  have HR := Lib.hid hrow
  clear hrow
  go_enter Try.func81, Try.ntmps81
  go_wp2_with fail
  go_loopg [9] (l.length + 1) (fun k v9 wr => ∃ i : Nat, v9 = .int .i64 i ∧ i ≤ l.length ∧ i + k = l.length + 1 ∧ w = wr ∧ y ∉ l.take i)
  case atStart => exact ⟨0, rfl, by omega, by omega, rfl, by simp⟩
  case round =>
    obtain ⟨i, rfl, hil, hik, rfl, hno⟩ := hrel
    have HNO := Lib.hid hno
    clear hno
    by_cases hlt : i < l.length
    · obtain ⟨t, ht⟩ : ∃ t, l[i] = t := ⟨_, rfl⟩
      obtain ⟨b1, o1, ha, x0⟩ := HR.out.cell (i := i) (by simpa using hlt)
      subst ha
      rw [show (l.map (Value.int .i64))[i]'(by simpa using hlt) = .int .i64 t by simp [ht]] at x0
      have hx : l[i]? = some t := by rw [← ht]; exact List.getElem?_eq_getElem hlt
      have HX := Lib.hid hx
      clear ht hx
      by_cases e : t = y
      · subst e
        have hm : t ∈ l := List.mem_of_getElem? HX.out
        have HM := Lib.hid hm
        clear hm
        go_wp2_with fail
        go_ret
        exact ⟨by simp [HM.out], rfl⟩
      · have hne : (t == y) = false := by simpa using e
        go_wp2_with fail
        go_roundg (l.length - i)
        case measure => omega
        case rel =>
          refine ⟨i + 1, by go_num, by omega, by omega, rfl, ?_⟩
          rw [List.take_add_one, HX.out, Option.toList_some, List.mem_append, List.mem_singleton]
          rintro (h | h)
          · exact HNO.out h
          · exact e h.symm
    · have hi : i = l.length := by omega
      subst hi
      have hno := HNO.out
      rw [List.take_of_length_le (Nat.le_refl _)] at hno
      have HM := Lib.hid hno
      clear hno
      go_wp2_with fail
      go_ret
      exact ⟨by simp [HM.out], rfl⟩

theorem int_one {l : List Int} : ∀ u ∈ l.map (Value.int .i64), u.oneCell' = true := by
  intro u hu
  obtain ⟨x, _, rfl⟩ := List.mem_map.1 hu
  rfl
set_option maxRecDepth 100000 in
set_option maxHeartbeats 1000000 in
theorem clone_any {w : World} {a : Option Addr} {cap : Nat} {l : List Int} (hrow : Given w a (l.map (Value.int .i64))) (hl : l.length ≤ 4000000000) :
    Calls Try.prog 76 #[.slice a l.length cap] w (NewKeys w l) := by
  have HR := Lib.hid hrow
  clear hrow
  cases a with
  | none =>
    have hl0 : l = [] := by
      rcases HR.out with h | ⟨b, o, h, _⟩
      · simpa using h
      · cases h
    subst hl0
    have hnil : ∀ W, (binOp .eql 32 (.slice none 0 cap) (.slice none 0 0)).run Try.prog W = .ok (.bool true) W := fun W => Go.Lib.run_eql_slice_nil W _ 3 none _ _ _ _ Try.underlying32
    go_enter Try.func76, Try.ntmps76
    go_wp2_with fail
    go_ret
    exact ⟨none, 0, rfl, Acc.nil _ _ _ _, Keep.refl _ _⟩
  | some ad =>
    have hnil : ∀ W, (binOp .eql 32 (.slice (some ad) l.length cap) (.slice none 0 0)).run Try.prog W = .ok (.bool false) W := fun W => Go.Lib.run_eql_slice_nil W _ 3 (some ad) _ _ _ _ Try.underlying32
    go_enter Try.func76, Try.ntmps76
    have hsrc := HR.out.keep (Keep.alloc Nothing w (.cells #[] 3))
    go_wp2_with (at_builtin; refine wpList_append_src rfl _ _ _ rfl 3 1 8 Try.underlying32 elemI _ 0 0 [] (by rfl) (Row.empty (heap_alloc_new w _)) rfl (some ad) l.length cap (l.map (Value.int .i64)) (by rfl) (by omega) (by simp) hsrc int_one (by omega) (by simp only [maxLen]; omega) (by omega) ?_; intro a1 c1 W1 hg)
    go_ret
    have A0 : Acc w.heap.size (w.alloc (.cells #[] 3)) 3 1 (some ⟨w.heap.size, 0, none⟩) 0 0 [] := ⟨Row.empty (heap_alloc_new w _), by simp, Nat.le_refl _, fun c p hf => Nat.le_of_eq (rowFp_some hf).1.symm⟩
    obtain ⟨A1, k1⟩ := A0.grow (by rw [World.size_alloc]; omega) hg (by simp)
    simp only [Nat.zero_add, List.nil_append] at A1
    exact ⟨a1, c1, by simp, A1, (Keep.alloc Nothing w _).trans k1 fun c p hc h => by omega⟩

set_option maxRecDepth 100000 in
set_option maxHeartbeats 1000000 in
theorem union_any {w : World} {a : Option Addr} {cap : Nat} {l : List Int} (hrow : Given w a (l.map (Value.int .i64))) (hl : l.length ≤ 1000000000) {ka : Option Addr} {kcap : Nat} {ks : List Int} (hk : Given w ka (ks.map (Value.int .i64))) (hkl : ks.length ≤ 1000000000) :
    Calls Try.prog 34 #[.slice a l.length cap, .slice ka ks.length kcap] w (NewKeys w (unionS l ks)) := by
  have h1 := Lib.hid (clone_any (cap := cap) hrow (by omega))
  have HK := Lib.hid hk
  clear hrow hk
  go_enter Try.func34, Try.ntmps34
  go_wp2_with fail
  refine h1.out.mono ?_
  rintro e w1 ⟨a1, c1, rfl, hA, hK⟩
  have HA := Lib.hid hA
  have K1 := Lib.hid hK
  have hk1 := Lib.hid (HK.out.keep hK)
  have hle := hA.le
  clear h1 hA hK
  have hsi : Hid (∀ (W : World) (a' : Option Addr) (c' : Nat), Given W a' ((l ++ ks).map (Value.int .i64)) → Calls Try.prog 75 #[.slice a' (l.length + ks.length) c'] W (NewKeys W (unionS l ks))) := by
    refine Lib.hid fun W a' c' h => ?_
    have := sinsert_any (cap := c') (l := l ++ ks) h (by simp; omega)
    rw [List.length_append] at this
    exact this
  go_wp2_with (at_builtin; refine wpList_append_src rfl _ _ _ rfl 3 1 8 Try.underlying32 elemI a1 l.length c1 (l.map (Value.int .i64)) (by rfl) HA.out.row (by simp) ka ks.length kcap (ks.map (Value.int .i64)) (by rfl) (by omega) (by simp) hk1.out int_one hle (by simp only [maxLen]; omega) (by omega) ?_; intro a2 c2 W2 hg)
  have hgr : Given W2 a2 ((l ++ ks).map (Value.int .i64)) := by
    have := hg.row.reads
    rwa [← List.map_append] at this
  obtain ⟨A2, k2⟩ := HA.out.grow K1.out.size hg (by simp)
  have K2 : Hid (Keep Nothing w W2) := by exact K1.out.trans k2 fun c p hc h => by omega
  have hcall := Lib.hid (hsi.out W2 a2 c2 hgr)
  clear hg hgr A2 k2 hsi
  go_wp2_with fail
  refine hcall.out.mono ?_
  rintro e w3 ⟨a3, c3, rfl, hA, hK⟩
  have HA3 := Lib.hid hA
  have K3 := Lib.hid hK
  clear hcall hA hK
  go_wp2_with fail
  go_ret
  exact ⟨a3, c3, rfl, ⟨HA3.out.row, HA3.out.len, HA3.out.le, fun c o hf => Nat.le_trans K2.out.size (HA3.out.own c o hf)⟩, K2.out.trans K3.out fun _ _ _ h => h⟩
end Go.Proofs.Ytckplcmieelmpaa.S

namespace Go.Wb
open Go Go.RowKit

theorem int_wf {n : Int} (h : (Lit.int .i64 n).wf = true) : -9223372036854775808 ≤ n ∧ n ≤ 9223372036854775807 := by
  simp only [Lit.wf, Bool.and_eq_true] at h
  have h1 := of_decide_eq_true h.1
  have h2 := of_decide_eq_true h.2
  rw [show IntKind.i64.min = -9223372036854775808 from rfl] at h1
  rw [show IntKind.i64.max = 9223372036854775807 from rfl] at h2
  exact ⟨h1, h2⟩
/-- A new block reads as what was laid into it. -/
theorem new_given (w : World) (cs : List Value) (ty : TypeId) : Given (w.alloc (.cells cs.toArray ty)) (some ⟨w.heap.size, 0, none⟩) cs :=
  .inr ⟨_, 0, rfl, fun i v hi => by rw [Nat.zero_add]; have h := heap_alloc_new w (.cells cs.toArray ty); simp only [World.cell?, h]; simpa using hi⟩
/-- A slice that grows, told. -/
structure Rw where
  ty : Nat
  s : Nat
  a : Option Addr
  n : Nat
  cap : Nat
  cs : List Value
def Rw.fp (r : Rw) (b : Nat) : Prop := ∃ o, rowFp r.a (r.cap * r.s) b o
/-- Slices that grow, in blocks of their own from B on. -/
structure Accs (B : Nat) (w : World) (l : List Rw) : Prop where
  acc : ∀ (i : Nat) (r : Rw), l[i]? = some r → Acc B w r.ty r.s r.a r.n r.cap r.cs
  apart : ∀ (i j : Nat) (r q : Rw), i ≠ j → l[i]? = some r → l[j]? = some q → ∀ b, r.fp b → q.fp b → False

variable {B : Nat} {w w' : World} {l : List Rw}
theorem Accs.nil (B : Nat) (w : World) : Accs B w [] := ⟨fun i r h => by simp at h, fun i j r q _ h => by simp at h⟩
theorem Accs.quiet (h : Accs B w l) (hk : Keep (fun _ _ => False) w w') : Accs B w' l := ⟨fun i r hi => (h.acc i r hi).quiet hk, h.apart⟩
/-- What turns is none of the rows'. -/
theorem Accs.calm (h : Accs B w l) {S : Nat → Nat → Prop} (hk : Keep S w w') (hS : ∀ b o, B ≤ b → ¬ S b o) : Accs B w' l := ⟨fun i r hi => (h.acc i r hi).calm hk hS, h.apart⟩
/-- One more, in new blocks. -/
theorem Accs.add (h : Accs B w l) (hB : B ≤ w.heap.size) (hk : Keep (fun _ _ => False) w w') {r : Rw} (hr : Row w' r.ty r.s r.a r.cap r.cs) (hl : r.cs.length = r.n * r.s) (hle : r.n ≤ r.cap) (hn : ∀ b, r.fp b → w.heap.size ≤ b) : Accs B w' (l ++ [r]) := by
  have get : ∀ (i : Nat) (q : Rw), (l ++ [r])[i]? = some q → l[i]? = some q ∨ (i = l.length ∧ q = r) := fun i q hi => by
    rw [List.getElem?_append] at hi
    split at hi
    · exact .inl hi
    · rename_i hlt
      have : i - l.length = 0 := by
        rcases Nat.eq_zero_or_pos (i - l.length) with h | h
        · exact h
        · rw [List.getElem?_eq_none (by simp; omega)] at hi; cases hi
      rw [this] at hi
      exact .inr ⟨by omega, by simpa using hi.symm⟩
  have old : ∀ (i : Nat) (q : Rw), l[i]? = some q → ∀ b, q.fp b → b < w.heap.size := fun i q hi b ⟨o, hf⟩ => rowFp_lt (h.acc i q hi).row hf
  refine ⟨fun i q hi => ?_, fun i j p q hij hi hj b hp hq => ?_⟩
  · rcases get i q hi with h1 | ⟨_, rfl⟩
    · exact (h.acc i q h1).quiet hk
    · exact ⟨hr, hl, hle, fun b o hf => Nat.le_trans hB (hn b ⟨o, hf⟩)⟩
  · rcases get i p hi with h1 | ⟨e1, rfl⟩ <;> rcases get j q hj with h2 | ⟨e2, rfl⟩
    · exact h.apart i j p q hij h1 h2 b hp hq
    · have := old i p h1 b hp; have := hn b hq; omega
    · have := old j q h2 b hq; have := hn b hp; omega
    · omega
theorem Accs.addNil (h : Accs B w l) (hB : B ≤ w.heap.size) (ty s : Nat) : Accs B w (l ++ [⟨ty, s, none, 0, 0, []⟩]) :=
  h.add hB (Keep.refl _ _) (.inl ⟨rfl, rfl, rfl⟩) (by simp) (Nat.le_refl _) fun b ⟨o, _, _, h, _⟩ => by cases h
/-- One grows. -/
theorem Accs.grow (h : Accs B w l) (hB : B ≤ w.heap.size) (i : Nat) {ty s n cap m cap' : Nat} {a a' : Option Addr} {cs news : List Value} (hi : l[i]? = some ⟨ty, s, a, n, cap, cs⟩) (hg : Grew w w' ty s a a' n m cap cap' (cs ++ news)) (hl : news.length = m * s) :
    Accs B w' (l.set i ⟨ty, s, a', n + m, cap', cs ++ news⟩) ∧ Keep (fun b _ => B ≤ b) w w' := by
  obtain ⟨g1, g2⟩ := (h.acc i _ hi).grow hB hg hl
  have get : ∀ (j : Nat) (q : Rw), (l.set i ⟨ty, s, a', n + m, cap', cs ++ news⟩)[j]? = some q → (j = i ∧ q = ⟨ty, s, a', n + m, cap', cs ++ news⟩) ∨ (j ≠ i ∧ l[j]? = some q) := fun j q hj => by
    rw [List.getElem?_set] at hj
    split at hj
    · rename_i hij
      split at hj
      · exact .inl ⟨hij.symm, by simpa using hj.symm⟩
      · cases hj
    · rename_i hij
      exact .inr ⟨fun e => hij e.symm, hj⟩
  have old : ∀ (j : Nat) (q : Rw), l[j]? = some q → ∀ b, q.fp b → b < w.heap.size := fun j q hj b ⟨o, hf⟩ => rowFp_lt (h.acc j q hj).row hf
  have fp' : ∀ b, (⟨ty, s, a', n + m, cap', cs ++ news⟩ : Rw).fp b → (⟨ty, s, a, n, cap, cs⟩ : Rw).fp b ∨ w.heap.size ≤ b := fun b ⟨o, hf⟩ => by
    rcases hg.fp b o hf with h1 | ⟨h1, _⟩
    · exact .inl ⟨o, h1⟩
    · exact .inr (by omega)
  refine ⟨⟨fun j q hj => ?_, fun j k p q hjk hj hk b hp hq => ?_⟩, g2⟩
  · rcases get j q hj with ⟨rfl, rfl⟩ | ⟨hne, hj⟩
    · exact g1
    · have hq := h.acc j q hj
      refine ⟨hq.row.keep' hg.keep fun b o hf ⟨x, y, e1, e2, e3, e4⟩ => ?_, hq.len, hq.le, hq.own⟩
      exact h.apart j i q _ hne hj hi b ⟨o, hf⟩ ⟨o, x, y, e1, e2, by omega, e4⟩
  · rcases get j p hj with ⟨rfl, rfl⟩ | ⟨hj1, hj2⟩ <;> rcases get k q hk with ⟨rfl, rfl⟩ | ⟨hk1, hk2⟩
    · exact hjk rfl
    · rcases fp' b hp with h1 | h1
      · exact h.apart j k _ q hjk hi hk2 b h1 hq
      · have := old k q hk2 b hq; omega
    · rcases fp' b hq with h1 | h1
      · exact h.apart j k p _ hjk hj2 hi b hp h1
      · have := old j p hj2 b hp; omega
    · exact h.apart j k p q hjk hj2 hk2 b hp hq
/-- A cell of one is written. -/
theorem Accs.set (h : Accs B w l) (i : Nat) {ty s n cap b o j : Nat} {cs : List Value} (hi : l[i]? = some ⟨ty, s, some ⟨b, o, none⟩, n, cap, cs⟩) (hj : j < cs.length) (v : Value) : Accs B (w.setCell ⟨b, o + j, none⟩ v) (l.set i ⟨ty, s, some ⟨b, o, none⟩, n, cap, cs.set j v⟩) := by
  have hr := h.acc i _ hi
  have hlen := hr.row.len
  have hk : Keep (fun x y => x = b ∧ o ≤ y ∧ y < o + cap * s) w (w.setCell ⟨b, o + j, none⟩ v) := Keep.set (Keep.refl _ _) _ _ _ fun _ => ⟨rfl, by omega, by simp only at hlen; omega⟩
  have get : ∀ (k : Nat) (q : Rw), (l.set i ⟨ty, s, some ⟨b, o, none⟩, n, cap, cs.set j v⟩)[k]? = some q → (k = i ∧ q = ⟨ty, s, some ⟨b, o, none⟩, n, cap, cs.set j v⟩) ∨ (k ≠ i ∧ l[k]? = some q) := fun k q hk => by
    rw [List.getElem?_set] at hk
    split at hk
    · rename_i hij
      split at hk
      · exact .inl ⟨hij.symm, by simpa using hk.symm⟩
      · cases hk
    · rename_i hij
      exact .inr ⟨fun e => hij e.symm, hk⟩
  refine ⟨fun k q hq => ?_, fun k m p q hkm hp hq c hc hd => ?_⟩
  · rcases get k q hq with ⟨rfl, rfl⟩ | ⟨hne, hq2⟩
    · exact ⟨hr.row.setCell v hj, by rw [List.length_set]; exact hr.len, hr.le, hr.own⟩
    · have hq' := h.acc k q hq2
      refine ⟨hq'.row.keep' hk fun c y hf ⟨e, h1, h2⟩ => ?_, hq'.len, hq'.le, hq'.own⟩
      exact h.apart k i q _ hne hq2 hi c ⟨y, hf⟩ ⟨y, b, o, rfl, e, h1, h2⟩
  · rcases get k p hp with ⟨rfl, rfl⟩ | ⟨hk1, hp2⟩ <;> rcases get m q hq with ⟨rfl, rfl⟩ | ⟨hm1, hq2⟩
    · exact hkm rfl
    · exact h.apart k m _ q hkm hi hq2 c hc hd
    · exact h.apart k m p _ hkm hp2 hi c hc hd
    · exact h.apart k m p q hkm hp2 hq2 c hc hd
/-- A new block of one element. -/
theorem Accs.addBlk (h : Accs B w l) (hB : B ≤ w.heap.size) {w' : World} (hk : Keep (fun _ _ => False) w w') {ty s b n : Nat} {cs : List Value} (hb : w'.heap[b]? = some (.cells cs.toArray ty (0, 0))) (hw : w.heap.size ≤ b) (hs : cs.length = n * s) : Accs B w' (l ++ [⟨ty, s, some ⟨b, 0, none⟩, n, n, cs⟩]) :=
  h.add hB hk (.inr ⟨b, 0, cs.toArray, rfl, hb, by simp only; omega, by simp only [List.size_toArray]; omega, fun i v hi => by simpa using hi⟩) hs (Nat.le_refl _) fun c ⟨o, x, y, e, e2, _⟩ => by
    obtain ⟨rfl, _⟩ : b = x ∧ 0 = y := by simpa using e
    omega
/-- Some of them, in another order. -/
theorem Accs.sub (h : Accs B w l) {l' : List Rw} (f : Nat → Nat) (hf : ∀ i r, l'[i]? = some r → l[f i]? = some r) (inj : ∀ i j, i < l'.length → j < l'.length → f i = f j → i = j) : Accs B w l' :=
  ⟨fun i r hi => h.acc (f i) r (hf i r hi), fun i j r q hij hi hj => h.apart (f i) (f j) r q (fun e => hij (inj i j (List.getElem?_eq_some_iff.1 hi).1 (List.getElem?_eq_some_iff.1 hj).1 e)) (hf i r hi) (hf j q hj)⟩
end Go.Wb

namespace Go.Proofs.Ytckplcmieelmpaa.S
open Go.RowKit Go.Wb

def TruePost (w : World) (e : Ending) (w' : World) : Prop := e = .returned (.bool true) ∧ Keep Nothing w w'
/-- What spec.Both is asked to tell, as a premise. -/
def BothOK : Prop := ∀ {w : World} {a : Option Addr} {cap : Nat} {l : List Int}, Given w a (l.map (Value.int .i64)) → l.length ≤ 1000000000 → ∀ {ka : Option Addr} {kcap : Nat} {ks : List Int}, Given w ka (ks.map (Value.int .i64)) → ks.length ≤ 1000000000 →
  Calls Try.prog 37 #[.slice a l.length cap, .slice ka ks.length kcap] w (NewKeys w (meetS l ks))

set_option maxHeartbeats 1000000 in
theorem aliveS_any (w : World) : Calls Try.prog 32 #[] w (TruePost w) := by
  have h1 := Lib.hid (sinsert_any (w := w.alloc (.cells #[.int .i64 5, .int .i64 3, .int .i64 9] 3)) (a := some ⟨w.heap.size, 0, none⟩) (cap := 3) (l := [5, 3, 9]) (new_given w [Value.int .i64 5, Value.int .i64 3, Value.int .i64 9] 3) (by simp))
  have h3 : (sortK [5, 3, 9]).length = 3 := by decide
  go_enter Try.func32, Try.ntmps32
  go_wp2_with fail
  refine h1.out.mono ?_
  rintro e w1 ⟨a1, c1, rfl, hA, hK⟩
  rw [h3] at hA ⊢
  have HK := Lib.hid hK
  clear hA hK h1
  go_wp2_with fail
  go_ret
  exact ⟨rfl, (Keep.alloc Nothing w _).trans HK.out fun _ _ _ h => h⟩

set_option maxRecDepth 100000 in
theorem alg_far {w : World} {a b c : Option Addr} {ca cb cc : Nat} {la lb lc : List Int} (h : ¬ la.length ≤ 2147483647 ∨ ¬ lb.length ≤ 2147483647 ∨ ¬ lc.length ≤ 2147483647) :
    Calls Try.prog 6 #[.slice a la.length ca, .slice b lb.length cb, .slice c lc.length cc] w (TruePost w) := by
  by_cases h1 : ((la.length : Nat) : Int) > 2147483647
  · clear h
    go_enter Try.func6, Try.ntmps6
    go_wp2_with fail
    go_ret
    exact ⟨rfl, Keep.refl _ _⟩
  · by_cases h2 : ((lb.length : Nat) : Int) > 2147483647
    · clear h
      go_enter Try.func6, Try.ntmps6
      go_wp2_with fail
      go_ret
      exact ⟨rfl, Keep.refl _ _⟩
    · have h3 : ((lc.length : Nat) : Int) > 2147483647 := by omega
      clear h
      go_enter Try.func6, Try.ntmps6
      go_wp2_with fail
      go_ret
      exact ⟨rfl, Keep.refl _ _⟩

set_option maxRecDepth 100000 in
theorem alg_big {w : World} {a b c : Option Addr} {ca cb cc : Nat} {la lb lc : List Int} (h1 : la.length ≤ 2147483647) (h2 : lb.length ≤ 2147483647) (h3 : lc.length ≤ 2147483647) (h : ¬ la.length ≤ 100 ∨ ¬ lb.length ≤ 100 ∨ ¬ lc.length ≤ 100) :
    Calls Try.prog 6 #[.slice a la.length ca, .slice b lb.length cb, .slice c lc.length cc] w (TruePost w) := by
  have hal := Lib.hid (fun W => aliveS_any W)
  have e1 : ¬ ((la.length : Nat) : Int) > 2147483647 := by omega
  have e2 : ¬ ((lb.length : Nat) : Int) > 2147483647 := by omega
  have e3 : ¬ ((lc.length : Nat) : Int) > 2147483647 := by omega
  clear h1 h2 h3
  by_cases h1 : ((la.length : Nat) : Int) > 100
  · clear h
    go_enter Try.func6, Try.ntmps6
    go_wp2_with fail
    refine (hal.out _).mono ?_
    rintro e w1 ⟨rfl, hk⟩
    have HK := Lib.hid hk
    go_wp2_with fail
    go_ret
    exact ⟨rfl, HK.out⟩
  · by_cases h2 : ((lb.length : Nat) : Int) > 100
    · clear h
      go_enter Try.func6, Try.ntmps6
      go_wp2_with fail
      refine (hal.out _).mono ?_
      rintro e w1 ⟨rfl, hk⟩
      have HK := Lib.hid hk
      go_wp2_with fail
      go_ret
      exact ⟨rfl, HK.out⟩
    · have h3 : ((lc.length : Nat) : Int) > 100 := by omega
      clear h
      go_enter Try.func6, Try.ntmps6
      go_wp2_with fail
      refine (hal.out _).mono ?_
      rintro e w1 ⟨rfl, hk⟩
      have HK := Lib.hid hk
      go_wp2_with fail
      go_ret
      exact ⟨rfl, HK.out⟩

set_option maxRecDepth 100000 in
set_option maxHeartbeats 8000000 in
theorem alg_main (hdel : DelOK) (hboth : BothOK) {w : World} {a b c : Option Addr} {ca cb cc : Nat} {la lb lc : List Int} (ha : Given w a (la.map (Value.int .i64))) (hb : Given w b (lb.map (Value.int .i64))) (hc : Given w c (lc.map (Value.int .i64))) (h1 : la.length ≤ 100) (h2 : lb.length ≤ 100) (h3 : lc.length ≤ 100) :
    Calls Try.prog 6 #[.slice a la.length ca, .slice b lb.length cb, .slice c lc.length cc] w (TruePost w) := by
    have hal := Lib.hid (fun W => aliveS_any W)
    have GA := Lib.hid ha
    have GB := Lib.hid hb
    have GC := Lib.hid hc
    have KW : Hid (Keep Nothing w w) := Lib.hid (Keep.refl _ _)
    have e1 : ¬ ((la.length : Nat) : Int) > 2147483647 := by omega
    have e2 : ¬ ((lb.length : Nat) : Int) > 2147483647 := by omega
    have e3 : ¬ ((lc.length : Nat) : Int) > 2147483647 := by omega
    have e4 : ¬ ((la.length : Nat) : Int) > 100 := by omega
    have e5 : ¬ ((lb.length : Nat) : Int) > 100 := by omega
    have e6 : ¬ ((lc.length : Nat) : Int) > 100 := by omega
    clear ha hb hc
    obtain ⟨X1, hX1⟩ : ∃ X, X = unionS lb lc := ⟨_, rfl⟩
    obtain ⟨X2, hX2⟩ : ∃ X, X = unionS (meetS la lb) (meetS la lc) := ⟨_, rfl⟩
    obtain ⟨X3, hX3⟩ : ∃ X, X = meetS la lb := ⟨_, rfl⟩
    obtain ⟨X4, hX4⟩ : ∃ X, X = meetS la lc := ⟨_, rfl⟩
    obtain ⟨X6, hX6⟩ : ∃ X, X = meetS lb lc := ⟨_, rfl⟩
    obtain ⟨X7, hX7⟩ : ∃ X, X = meetS (unionS la lb) (unionS la lc) := ⟨_, rfl⟩
    obtain ⟨X8, hX8⟩ : ∃ X, X = unionS la lb := ⟨_, rfl⟩
    obtain ⟨X9, hX9⟩ : ∃ X, X = unionS la lc := ⟨_, rfl⟩
    obtain ⟨X12, hX12⟩ : ∃ X, X = meetS (lessS la lb) (lessS la lc) := ⟨_, rfl⟩
    obtain ⟨X13, hX13⟩ : ∃ X, X = lessS la lb := ⟨_, rfl⟩
    obtain ⟨X14, hX14⟩ : ∃ X, X = lessS la lc := ⟨_, rfl⟩
    have nX1 : Hid (X1.length ≤ 1000) := Lib.hid (by rw [hX1]; have q := (union_len lb lc); omega)
    have nX2 : Hid (X2.length ≤ 1000) := Lib.hid (by rw [hX2]; have q := (union_len (meetS la lb) (meetS la lc)); have q1 := meet_len la lb; have q2 := meet_len la lc; omega)
    have nX3 : Hid (X3.length ≤ 1000) := Lib.hid (by rw [hX3]; have q := (meet_len la lb); omega)
    have nX4 : Hid (X4.length ≤ 1000) := Lib.hid (by rw [hX4]; have q := (meet_len la lc); omega)
    have nX6 : Hid (X6.length ≤ 1000) := Lib.hid (by rw [hX6]; have q := (meet_len lb lc); omega)
    have nX7 : Hid (X7.length ≤ 1000) := Lib.hid (by rw [hX7]; have q := (meet_len (unionS la lb) (unionS la lc)); have q1 := union_len la lb; omega)
    have nX8 : Hid (X8.length ≤ 1000) := Lib.hid (by rw [hX8]; have q := (union_len la lb); omega)
    have nX9 : Hid (X9.length ≤ 1000) := Lib.hid (by rw [hX9]; have q := (union_len la lc); omega)
    have nX12 : Hid (X12.length ≤ 1000) := Lib.hid (by rw [hX12]; have q := (meet_len (lessS la lb) (lessS la lc)); have q1 := less_len la lb; omega)
    have nX13 : Hid (X13.length ≤ 1000) := Lib.hid (by rw [hX13]; have q := (less_len la lb); omega)
    have nX14 : Hid (X14.length ≤ 1000) := Lib.hid (by rw [hX14]; have q := (less_len la lc); omega)
    have C1 : Hid (∀ (W : World) (p q : Option Addr) (m n : Nat), Given W p (lb.map (Value.int .i64)) → Given W q (lc.map (Value.int .i64)) → Calls Try.prog 34 #[.slice p lb.length m, .slice q lc.length n] W (NewKeys W X1)) := by
      refine Lib.hid fun W p q m n h1 h2 => ?_
      have := union_any (cap := m) (kcap := n) h1 (by omega) h2 (by omega)
      rw [show unionS lb lc = X1 from by rw [hX1]] at this
      exact this
    have C2 : Hid (∀ (W : World) (p q : Option Addr) (m n : Nat), Given W p (la.map (Value.int .i64)) → Given W q (X1.map (Value.int .i64)) → Calls Try.prog 33 #[.slice p la.length m, .slice q X1.length n] W (NewKeys W X2)) := by
      refine Lib.hid fun W p q m n h1 h2 => ?_
      have := meet_any hdel (cap := m) (kcap := n) h1 (by omega) h2 (by have := nX1.out; omega)
      rw [show meetS la X1 = X2 from by rw [hX1, hX2]; exact alg_one la lb lc] at this
      exact this
    have C3 : Hid (∀ (W : World) (p q : Option Addr) (m n : Nat), Given W p (la.map (Value.int .i64)) → Given W q (lb.map (Value.int .i64)) → Calls Try.prog 33 #[.slice p la.length m, .slice q lb.length n] W (NewKeys W X3)) := by
      refine Lib.hid fun W p q m n h1 h2 => ?_
      have := meet_any hdel (cap := m) (kcap := n) h1 (by omega) h2 (by omega)
      rw [show meetS la lb = X3 from by rw [hX3]] at this
      exact this
    have C4 : Hid (∀ (W : World) (p q : Option Addr) (m n : Nat), Given W p (la.map (Value.int .i64)) → Given W q (lc.map (Value.int .i64)) → Calls Try.prog 33 #[.slice p la.length m, .slice q lc.length n] W (NewKeys W X4)) := by
      refine Lib.hid fun W p q m n h1 h2 => ?_
      have := meet_any hdel (cap := m) (kcap := n) h1 (by omega) h2 (by omega)
      rw [show meetS la lc = X4 from by rw [hX4]] at this
      exact this
    have C5 : Hid (∀ (W : World) (p q : Option Addr) (m n : Nat), Given W p (X3.map (Value.int .i64)) → Given W q (X4.map (Value.int .i64)) → Calls Try.prog 34 #[.slice p X3.length m, .slice q X4.length n] W (NewKeys W X2)) := by
      refine Lib.hid fun W p q m n h1 h2 => ?_
      have := union_any (cap := m) (kcap := n) h1 (by have := nX3.out; omega) h2 (by have := nX4.out; omega)
      rw [show unionS X3 X4 = X2 from by rw [hX3, hX4, hX2]] at this
      exact this
    have C6 : Hid (∀ (W : World) (p q : Option Addr) (m n : Nat), Given W p (lb.map (Value.int .i64)) → Given W q (lc.map (Value.int .i64)) → Calls Try.prog 33 #[.slice p lb.length m, .slice q lc.length n] W (NewKeys W X6)) := by
      refine Lib.hid fun W p q m n h1 h2 => ?_
      have := meet_any hdel (cap := m) (kcap := n) h1 (by omega) h2 (by omega)
      rw [show meetS lb lc = X6 from by rw [hX6]] at this
      exact this
    have C7 : Hid (∀ (W : World) (p q : Option Addr) (m n : Nat), Given W p (la.map (Value.int .i64)) → Given W q (X6.map (Value.int .i64)) → Calls Try.prog 34 #[.slice p la.length m, .slice q X6.length n] W (NewKeys W X7)) := by
      refine Lib.hid fun W p q m n h1 h2 => ?_
      have := union_any (cap := m) (kcap := n) h1 (by omega) h2 (by have := nX6.out; omega)
      rw [show unionS la X6 = X7 from by rw [hX6, hX7]; exact alg_two la lb lc] at this
      exact this
    have C8 : Hid (∀ (W : World) (p q : Option Addr) (m n : Nat), Given W p (la.map (Value.int .i64)) → Given W q (lb.map (Value.int .i64)) → Calls Try.prog 34 #[.slice p la.length m, .slice q lb.length n] W (NewKeys W X8)) := by
      refine Lib.hid fun W p q m n h1 h2 => ?_
      have := union_any (cap := m) (kcap := n) h1 (by omega) h2 (by omega)
      rw [show unionS la lb = X8 from by rw [hX8]] at this
      exact this
    have C9 : Hid (∀ (W : World) (p q : Option Addr) (m n : Nat), Given W p (la.map (Value.int .i64)) → Given W q (lc.map (Value.int .i64)) → Calls Try.prog 34 #[.slice p la.length m, .slice q lc.length n] W (NewKeys W X9)) := by
      refine Lib.hid fun W p q m n h1 h2 => ?_
      have := union_any (cap := m) (kcap := n) h1 (by omega) h2 (by omega)
      rw [show unionS la lc = X9 from by rw [hX9]] at this
      exact this
    have C10 : Hid (∀ (W : World) (p q : Option Addr) (m n : Nat), Given W p (X8.map (Value.int .i64)) → Given W q (X9.map (Value.int .i64)) → Calls Try.prog 33 #[.slice p X8.length m, .slice q X9.length n] W (NewKeys W X7)) := by
      refine Lib.hid fun W p q m n h1 h2 => ?_
      have := meet_any hdel (cap := m) (kcap := n) h1 (by have := nX8.out; omega) h2 (by have := nX9.out; omega)
      rw [show meetS X8 X9 = X7 from by rw [hX8, hX9, hX7]] at this
      exact this
    have C11 : Hid (∀ (W : World) (p q : Option Addr) (m n : Nat), Given W p (lb.map (Value.int .i64)) → Given W q (lc.map (Value.int .i64)) → Calls Try.prog 34 #[.slice p lb.length m, .slice q lc.length n] W (NewKeys W X1)) := by
      refine Lib.hid fun W p q m n h1 h2 => ?_
      have := union_any (cap := m) (kcap := n) h1 (by omega) h2 (by omega)
      rw [show unionS lb lc = X1 from by rw [hX1]] at this
      exact this
    have C12 : Hid (∀ (W : World) (p q : Option Addr) (m n : Nat), Given W p (la.map (Value.int .i64)) → Given W q (X1.map (Value.int .i64)) → Calls Try.prog 35 #[.slice p la.length m, .slice q X1.length n] W (NewKeys W X12)) := by
      refine Lib.hid fun W p q m n h1 h2 => ?_
      have := sdelete_any hdel (cap := m) (kcap := n) h1 (by omega) h2 (by have := nX1.out; omega)
      rw [show lessS la X1 = X12 from by rw [hX1, hX12]; exact alg_three la lb lc] at this
      exact this
    have C13 : Hid (∀ (W : World) (p q : Option Addr) (m n : Nat), Given W p (la.map (Value.int .i64)) → Given W q (lb.map (Value.int .i64)) → Calls Try.prog 35 #[.slice p la.length m, .slice q lb.length n] W (NewKeys W X13)) := by
      refine Lib.hid fun W p q m n h1 h2 => ?_
      have := sdelete_any hdel (cap := m) (kcap := n) h1 (by omega) h2 (by omega)
      rw [show lessS la lb = X13 from by rw [hX13]] at this
      exact this
    have C14 : Hid (∀ (W : World) (p q : Option Addr) (m n : Nat), Given W p (la.map (Value.int .i64)) → Given W q (lc.map (Value.int .i64)) → Calls Try.prog 35 #[.slice p la.length m, .slice q lc.length n] W (NewKeys W X14)) := by
      refine Lib.hid fun W p q m n h1 h2 => ?_
      have := sdelete_any hdel (cap := m) (kcap := n) h1 (by omega) h2 (by omega)
      rw [show lessS la lc = X14 from by rw [hX14]] at this
      exact this
    have C15 : Hid (∀ (W : World) (p q : Option Addr) (m n : Nat), Given W p (X13.map (Value.int .i64)) → Given W q (X14.map (Value.int .i64)) → Calls Try.prog 33 #[.slice p X13.length m, .slice q X14.length n] W (NewKeys W X12)) := by
      refine Lib.hid fun W p q m n h1 h2 => ?_
      have := meet_any hdel (cap := m) (kcap := n) h1 (by have := nX13.out; omega) h2 (by have := nX14.out; omega)
      rw [show meetS X13 X14 = X12 from by rw [hX13, hX14, hX12]] at this
      exact this
    have C16 : Hid (∀ (W : World) (p q : Option Addr) (m n : Nat), Given W p (la.map (Value.int .i64)) → Given W q (lb.map (Value.int .i64)) → Calls Try.prog 34 #[.slice p la.length m, .slice q lb.length n] W (NewKeys W X8)) := by
      refine Lib.hid fun W p q m n h1 h2 => ?_
      have := union_any (cap := m) (kcap := n) h1 (by omega) h2 (by omega)
      rw [show unionS la lb = X8 from by rw [hX8]] at this
      exact this
    have C17 : Hid (∀ (W : World) (p q : Option Addr) (m n : Nat), Given W p (la.map (Value.int .i64)) → Given W q (lb.map (Value.int .i64)) → Calls Try.prog 33 #[.slice p la.length m, .slice q lb.length n] W (NewKeys W X3)) := by
      refine Lib.hid fun W p q m n h1 h2 => ?_
      have := meet_any hdel (cap := m) (kcap := n) h1 (by omega) h2 (by omega)
      rw [show meetS la lb = X3 from by rw [hX3]] at this
      exact this
    have C18 : Hid (∀ (W : World) (p q : Option Addr) (m n : Nat), Given W p (la.map (Value.int .i64)) → Given W q (lb.map (Value.int .i64)) → Calls Try.prog 33 #[.slice p la.length m, .slice q lb.length n] W (NewKeys W X3)) := by
      refine Lib.hid fun W p q m n h1 h2 => ?_
      have := meet_any hdel (cap := m) (kcap := n) h1 (by omega) h2 (by omega)
      rw [show meetS la lb = X3 from by rw [hX3]] at this
      exact this
    have C19 : Hid (∀ (W : World) (p q : Option Addr) (m n : Nat), Given W p (la.map (Value.int .i64)) → Given W q (lb.map (Value.int .i64)) → Calls Try.prog 37 #[.slice p la.length m, .slice q lb.length n] W (NewKeys W X3)) := by
      refine Lib.hid fun W p q m n h1 h2 => ?_
      have := hboth (cap := m) (kcap := n) h1 (by omega) h2 (by omega)
      rw [← hX3] at this
      exact this
    have hfour : Hid ((X8.length : Int) + X3.length = (sortK la).length + (sortK lb).length) := Lib.hid (by rw [hX8, hX3]; have := alg_four la lb; omega)
    have hsl : Hid ((sortK la).length ≤ 100 ∧ (sortK lb).length ≤ 100) := Lib.hid ⟨Nat.le_trans (sort_len la) (by omega), Nat.le_trans (sort_len lb) (by omega)⟩
    obtain ⟨N1, hN1⟩ : ∃ N, N = (sortK la).length := ⟨_, rfl⟩
    obtain ⟨N2, hN2⟩ : ∃ N, N = (sortK lb).length := ⟨_, rfl⟩
    rw [← hN1, ← hN2] at hfour hsl
    have D1 : Hid (∀ (W : World) (p : Option Addr) (m : Nat), Given W p (la.map (Value.int .i64)) → Calls Try.prog 36 #[.slice p la.length m] W fun e w' => e = .returned (.int .i64 N1) ∧ Keep Nothing W w') := by rw [hN1]; exact Lib.hid fun W p m h => slen_any h (by omega)
    have D2 : Hid (∀ (W : World) (p : Option Addr) (m : Nat), Given W p (lb.map (Value.int .i64)) → Calls Try.prog 36 #[.slice p lb.length m] W fun e w' => e = .returned (.int .i64 N2) ∧ Keep Nothing W w') := by rw [hN2]; exact Lib.hid fun W p m h => slen_any h (by omega)
    clear hX1 hX2 hX3 hX4 hX6 hX7 hX8 hX9 hX12 hX13 hX14 hN1 hN2
    clear h1 h2 h3 hdel hboth
    go_enter Try.func6, Try.ntmps6
    go_wp2_with fail
    refine (C1.out _ _ _ _ _ GB.out GC.out).mono ?_
    rintro e w1 ⟨a1, c1, rfl, hA, hK⟩
    have Gr1 := Lib.hid hA.row.reads
    clear hA C1
    replace GA := Lib.hid (GA.out.keep hK)
    replace GB := Lib.hid (GB.out.keep hK)
    replace GC := Lib.hid (GC.out.keep hK)
    replace KW := Lib.hid (KW.out.trans hK fun _ _ _ h => h)
    clear hK
    go_wp2_with fail
    refine (C2.out _ _ _ _ _ GA.out Gr1.out).mono ?_
    rintro e w2 ⟨a2, c2, rfl, hA, hK⟩
    have Gr2 := Lib.hid hA.row.reads
    clear hA C2
    replace GA := Lib.hid (GA.out.keep hK)
    replace GB := Lib.hid (GB.out.keep hK)
    replace GC := Lib.hid (GC.out.keep hK)
    clear Gr1
    replace KW := Lib.hid (KW.out.trans hK fun _ _ _ h => h)
    clear hK
    go_wp2_with fail
    refine (C3.out _ _ _ _ _ GA.out GB.out).mono ?_
    rintro e w3 ⟨a3, c3, rfl, hA, hK⟩
    have Gr3 := Lib.hid hA.row.reads
    clear hA C3
    replace GA := Lib.hid (GA.out.keep hK)
    replace GB := Lib.hid (GB.out.keep hK)
    replace GC := Lib.hid (GC.out.keep hK)
    replace Gr2 := Lib.hid (Gr2.out.keep hK)
    replace KW := Lib.hid (KW.out.trans hK fun _ _ _ h => h)
    clear hK
    go_wp2_with fail
    refine (C4.out _ _ _ _ _ GA.out GC.out).mono ?_
    rintro e w4 ⟨a4, c4, rfl, hA, hK⟩
    have Gr4 := Lib.hid hA.row.reads
    clear hA C4
    replace GA := Lib.hid (GA.out.keep hK)
    replace GB := Lib.hid (GB.out.keep hK)
    replace GC := Lib.hid (GC.out.keep hK)
    replace Gr2 := Lib.hid (Gr2.out.keep hK)
    replace Gr3 := Lib.hid (Gr3.out.keep hK)
    replace KW := Lib.hid (KW.out.trans hK fun _ _ _ h => h)
    clear hK
    go_wp2_with fail
    refine (C5.out _ _ _ _ _ Gr3.out Gr4.out).mono ?_
    rintro e w5 ⟨a5, c5, rfl, hA, hK⟩
    have Gr5 := Lib.hid hA.row.reads
    clear hA C5
    replace GA := Lib.hid (GA.out.keep hK)
    replace GB := Lib.hid (GB.out.keep hK)
    replace GC := Lib.hid (GC.out.keep hK)
    replace Gr2 := Lib.hid (Gr2.out.keep hK)
    clear Gr3
    clear Gr4
    replace KW := Lib.hid (KW.out.trans hK fun _ _ _ h => h)
    clear hK
    go_wp2_with fail
    refine (equalI_any Gr2.out Gr5.out (by have := nX2.out; omega)).mono ?_
    rintro e w6 ⟨rfl, hK⟩
    replace GA := Lib.hid (GA.out.keep hK)
    replace GB := Lib.hid (GB.out.keep hK)
    replace GC := Lib.hid (GC.out.keep hK)
    clear Gr2
    clear Gr5
    replace KW := Lib.hid (KW.out.trans hK fun _ _ _ h => h)
    clear hK
    go_wp2_with fail
    refine (C6.out _ _ _ _ _ GB.out GC.out).mono ?_
    rintro e w7 ⟨a6, c6, rfl, hA, hK⟩
    have Gr6 := Lib.hid hA.row.reads
    clear hA C6
    replace GA := Lib.hid (GA.out.keep hK)
    replace GB := Lib.hid (GB.out.keep hK)
    replace GC := Lib.hid (GC.out.keep hK)
    replace KW := Lib.hid (KW.out.trans hK fun _ _ _ h => h)
    clear hK
    go_wp2_with fail
    refine (C7.out _ _ _ _ _ GA.out Gr6.out).mono ?_
    rintro e w8 ⟨a7, c7, rfl, hA, hK⟩
    have Gr7 := Lib.hid hA.row.reads
    clear hA C7
    replace GA := Lib.hid (GA.out.keep hK)
    replace GB := Lib.hid (GB.out.keep hK)
    replace GC := Lib.hid (GC.out.keep hK)
    clear Gr6
    replace KW := Lib.hid (KW.out.trans hK fun _ _ _ h => h)
    clear hK
    go_wp2_with fail
    refine (C8.out _ _ _ _ _ GA.out GB.out).mono ?_
    rintro e w9 ⟨a8, c8, rfl, hA, hK⟩
    have Gr8 := Lib.hid hA.row.reads
    clear hA C8
    replace GA := Lib.hid (GA.out.keep hK)
    replace GB := Lib.hid (GB.out.keep hK)
    replace GC := Lib.hid (GC.out.keep hK)
    replace Gr7 := Lib.hid (Gr7.out.keep hK)
    replace KW := Lib.hid (KW.out.trans hK fun _ _ _ h => h)
    clear hK
    go_wp2_with fail
    refine (C9.out _ _ _ _ _ GA.out GC.out).mono ?_
    rintro e w10 ⟨a9, c9, rfl, hA, hK⟩
    have Gr9 := Lib.hid hA.row.reads
    clear hA C9
    replace GA := Lib.hid (GA.out.keep hK)
    replace GB := Lib.hid (GB.out.keep hK)
    replace GC := Lib.hid (GC.out.keep hK)
    replace Gr7 := Lib.hid (Gr7.out.keep hK)
    replace Gr8 := Lib.hid (Gr8.out.keep hK)
    replace KW := Lib.hid (KW.out.trans hK fun _ _ _ h => h)
    clear hK
    go_wp2_with fail
    refine (C10.out _ _ _ _ _ Gr8.out Gr9.out).mono ?_
    rintro e w11 ⟨a10, c10, rfl, hA, hK⟩
    have Gr10 := Lib.hid hA.row.reads
    clear hA C10
    replace GA := Lib.hid (GA.out.keep hK)
    replace GB := Lib.hid (GB.out.keep hK)
    replace GC := Lib.hid (GC.out.keep hK)
    replace Gr7 := Lib.hid (Gr7.out.keep hK)
    clear Gr8
    clear Gr9
    replace KW := Lib.hid (KW.out.trans hK fun _ _ _ h => h)
    clear hK
    go_wp2_with fail
    refine (equalI_any Gr7.out Gr10.out (by have := nX7.out; omega)).mono ?_
    rintro e w12 ⟨rfl, hK⟩
    replace GA := Lib.hid (GA.out.keep hK)
    replace GB := Lib.hid (GB.out.keep hK)
    replace GC := Lib.hid (GC.out.keep hK)
    clear Gr7
    clear Gr10
    replace KW := Lib.hid (KW.out.trans hK fun _ _ _ h => h)
    clear hK
    go_wp2_with fail
    refine (C11.out _ _ _ _ _ GB.out GC.out).mono ?_
    rintro e w13 ⟨a11, c11, rfl, hA, hK⟩
    have Gr11 := Lib.hid hA.row.reads
    clear hA C11
    replace GA := Lib.hid (GA.out.keep hK)
    replace GB := Lib.hid (GB.out.keep hK)
    replace GC := Lib.hid (GC.out.keep hK)
    replace KW := Lib.hid (KW.out.trans hK fun _ _ _ h => h)
    clear hK
    go_wp2_with fail
    refine (C12.out _ _ _ _ _ GA.out Gr11.out).mono ?_
    rintro e w14 ⟨a12, c12, rfl, hA, hK⟩
    have Gr12 := Lib.hid hA.row.reads
    clear hA C12
    replace GA := Lib.hid (GA.out.keep hK)
    replace GB := Lib.hid (GB.out.keep hK)
    replace GC := Lib.hid (GC.out.keep hK)
    clear Gr11
    replace KW := Lib.hid (KW.out.trans hK fun _ _ _ h => h)
    clear hK
    go_wp2_with fail
    refine (C13.out _ _ _ _ _ GA.out GB.out).mono ?_
    rintro e w15 ⟨a13, c13, rfl, hA, hK⟩
    have Gr13 := Lib.hid hA.row.reads
    clear hA C13
    replace GA := Lib.hid (GA.out.keep hK)
    replace GB := Lib.hid (GB.out.keep hK)
    replace GC := Lib.hid (GC.out.keep hK)
    replace Gr12 := Lib.hid (Gr12.out.keep hK)
    replace KW := Lib.hid (KW.out.trans hK fun _ _ _ h => h)
    clear hK
    go_wp2_with fail
    refine (C14.out _ _ _ _ _ GA.out GC.out).mono ?_
    rintro e w16 ⟨a14, c14, rfl, hA, hK⟩
    have Gr14 := Lib.hid hA.row.reads
    clear hA C14
    replace GA := Lib.hid (GA.out.keep hK)
    replace GB := Lib.hid (GB.out.keep hK)
    replace GC := Lib.hid (GC.out.keep hK)
    replace Gr12 := Lib.hid (Gr12.out.keep hK)
    replace Gr13 := Lib.hid (Gr13.out.keep hK)
    replace KW := Lib.hid (KW.out.trans hK fun _ _ _ h => h)
    clear hK
    go_wp2_with fail
    refine (C15.out _ _ _ _ _ Gr13.out Gr14.out).mono ?_
    rintro e w17 ⟨a15, c15, rfl, hA, hK⟩
    have Gr15 := Lib.hid hA.row.reads
    clear hA C15
    replace GA := Lib.hid (GA.out.keep hK)
    replace GB := Lib.hid (GB.out.keep hK)
    replace GC := Lib.hid (GC.out.keep hK)
    replace Gr12 := Lib.hid (Gr12.out.keep hK)
    clear Gr13
    clear Gr14
    replace KW := Lib.hid (KW.out.trans hK fun _ _ _ h => h)
    clear hK
    go_wp2_with fail
    refine (equalI_any Gr12.out Gr15.out (by have := nX12.out; omega)).mono ?_
    rintro e w18 ⟨rfl, hK⟩
    replace GA := Lib.hid (GA.out.keep hK)
    replace GB := Lib.hid (GB.out.keep hK)
    replace GC := Lib.hid (GC.out.keep hK)
    clear Gr12
    clear Gr15
    replace KW := Lib.hid (KW.out.trans hK fun _ _ _ h => h)
    clear hK
    go_wp2_with fail
    refine (C16.out _ _ _ _ _ GA.out GB.out).mono ?_
    rintro e w19 ⟨a16, c16, rfl, hA, hK⟩
    have Gr16 := Lib.hid hA.row.reads
    clear hA C16
    replace GA := Lib.hid (GA.out.keep hK)
    replace GB := Lib.hid (GB.out.keep hK)
    replace GC := Lib.hid (GC.out.keep hK)
    replace KW := Lib.hid (KW.out.trans hK fun _ _ _ h => h)
    clear hK
    go_wp2_with fail
    refine (C17.out _ _ _ _ _ GA.out GB.out).mono ?_
    rintro e w20 ⟨a17, c17, rfl, hA, hK⟩
    have Gr17 := Lib.hid hA.row.reads
    clear hA C17
    replace GA := Lib.hid (GA.out.keep hK)
    replace GB := Lib.hid (GB.out.keep hK)
    replace GC := Lib.hid (GC.out.keep hK)
    clear Gr16
    replace KW := Lib.hid (KW.out.trans hK fun _ _ _ h => h)
    clear hK
    go_wp2_with fail
    refine (D1.out _ _ _ GA.out).mono ?_
    rintro e w21 ⟨rfl, hK⟩
    replace GA := Lib.hid (GA.out.keep hK)
    replace GB := Lib.hid (GB.out.keep hK)
    replace GC := Lib.hid (GC.out.keep hK)
    clear Gr17
    replace KW := Lib.hid (KW.out.trans hK fun _ _ _ h => h)
    clear hK
    go_wp2_with fail
    refine (D2.out _ _ _ GB.out).mono ?_
    rintro e w22 ⟨rfl, hK⟩
    replace GA := Lib.hid (GA.out.keep hK)
    replace GB := Lib.hid (GB.out.keep hK)
    replace GC := Lib.hid (GC.out.keep hK)
    replace KW := Lib.hid (KW.out.trans hK fun _ _ _ h => h)
    clear hK
    have hb1 : -9223372036854775808 ≤ (X8.length : Int) + X3.length ∧ (X8.length : Int) + X3.length ≤ 9223372036854775807 := by have := nX8.out; have := nX3.out; omega
    have hb2 : -9223372036854775808 ≤ (N1 : Int) + N2 ∧ (N1 : Int) + N2 ≤ 9223372036854775807 := by have := hsl.out; omega
    have heq : (X8.length : Int) + X3.length = (N1 : Int) + N2 := hfour.out
    have hw2 : wrap64 ((N1 : Int) + N2) = (N1 : Int) + N2 := by unfold wrap64; omega
    have hnn : ((N1 : Int) + N2 != (N1 : Int) + N2) = false := by simp
    go_wp2_with fail
    refine (C18.out _ _ _ _ _ GA.out GB.out).mono ?_
    rintro e w23 ⟨a18, c18, rfl, hA, hK⟩
    have Gr18 := Lib.hid hA.row.reads
    clear hA C18
    replace GA := Lib.hid (GA.out.keep hK)
    replace GB := Lib.hid (GB.out.keep hK)
    replace GC := Lib.hid (GC.out.keep hK)
    replace KW := Lib.hid (KW.out.trans hK fun _ _ _ h => h)
    clear hK
    go_wp2_with fail
    refine (C19.out _ _ _ _ _ GA.out GB.out).mono ?_
    rintro e w24 ⟨a19, c19, rfl, hA, hK⟩
    have Gr19 := Lib.hid hA.row.reads
    clear hA C19
    replace GA := Lib.hid (GA.out.keep hK)
    replace GB := Lib.hid (GB.out.keep hK)
    replace GC := Lib.hid (GC.out.keep hK)
    replace Gr18 := Lib.hid (Gr18.out.keep hK)
    replace KW := Lib.hid (KW.out.trans hK fun _ _ _ h => h)
    clear hK
    go_wp2_with fail
    refine (equalI_any Gr18.out Gr19.out (by have := nX3.out; omega)).mono ?_
    rintro e w25 ⟨rfl, hK⟩
    replace GA := Lib.hid (GA.out.keep hK)
    replace GB := Lib.hid (GB.out.keep hK)
    replace GC := Lib.hid (GC.out.keep hK)
    clear Gr18
    clear Gr19
    replace KW := Lib.hid (KW.out.trans hK fun _ _ _ h => h)
    clear hK
    go_wp2_with fail
    refine (hal.out _).mono ?_
    rintro e w26 ⟨rfl, hK⟩
    replace KW := Lib.hid (KW.out.trans hK fun _ _ _ h => h)
    go_wp2_with fail
    go_ret
    exact ⟨rfl, KW.out⟩
end Go.Proofs.Ytckplcmieelmpaa.S

namespace Go.Wb
open Go Go.RowKit

theorem step_append_src {P : Program} {w : World} {ops : Array Oper} {o : Oper} {a : Act} {K : Act → World → Prop} {Q : Exit → Act → World → Prop} {E : Prop} (hgd : o.guard = none) (s x : Operand) (t : TypeId)
    (ho : o.op = .call { callee := .builtin .append, args := #[s, x], argTypes := #[t, t] })
    (e : TypeId) (sz b : Nat) (ht : P.underlying t = some (.slice e)) (he : Elem P e sz b)
    (aa : Option Addr) (n cap : Nat) (xs : List Value) (hs : a.eval s = .slice aa n cap) (hrow : Row w e sz aa cap xs) (hn : xs.length = n * sz)
    (sa : Option Addr) (m c : Nat) (news : List Value) (hx : a.eval x = .slice sa m c) (hsz : 0 < sz) (hl : news.length = m * sz) (hnews : Given w sa news) (h1 : ∀ u ∈ news, u.oneCell' = true)
    (hle : n ≤ cap) (h63 : n + m ≤ maxLen) (hbytes : (n + m) * b ≤ 140737488355328)
    (h : ∀ a' cap' w', Grew w w' e sz aa a' n m cap cap' (xs ++ news) → K (a.put o.dst (.slice a' (n + m) cap')) w') :
    if Region.wanted o (yielded ops a.tmps) = true then Oper.wp P o a w K Q else E := by
  have hw : Region.wanted o (yielded ops a.tmps) = true := by simp [Region.wanted, hgd]
  rw [if_pos hw]
  obtain ⟨a', cap', w', hr, hg⟩ := run_append_src (P := P) w t o.type e sz b ht he aa n cap xs hrow hn sa m c news hsz hl hnews h1 hle h63 hbytes
  unfold Oper.wp execOp
  simp only [ho, resolve, invoke, builtin, Sem.run_bind, Sem.run_pure, Result.andThen_ok, List.map_toArray, List.map_cons, List.map_nil, hs, hx, hr]
  exact h a' cap' w' hg
end Go.Wb

namespace Go.Proofs.Ytckplcmieelmpaa.S
open Go.RowKit Go.Wb

theorem both_same {l ks : List Int} {i : Nat} {x : Int} (hx : l[i]? = some x) (h : x ∉ ks ∨ x ∈ meetS (l.take i) ks) : meetS (l.take (i + 1)) ks = meetS (l.take i) ks := by
  refine sorted_ext (meet_sorted _ _) (meet_sorted _ _) fun y => ?_
  rw [mem_meet, mem_meet, List.take_add_one, hx, Option.toList_some, List.mem_append, List.mem_singleton]
  rcases h with h | h
  · constructor
    · rintro ⟨h1 | h1, h2⟩
      · exact ⟨h1, h2⟩
      · subst h1; exact absurd h2 h
    · exact fun ⟨h1, h2⟩ => ⟨.inl h1, h2⟩
  · rw [mem_meet] at h
    constructor
    · rintro ⟨h1 | h1, h2⟩
      · exact ⟨h1, h2⟩
      · subst h1; exact h
    · exact fun ⟨h1, h2⟩ => ⟨.inl h1, h2⟩
theorem both_put {l ks : List Int} {i j : Nat} {x : Int} (hx : l[i]? = some x) (h1 : x ∈ ks) (hlo : ∀ y ∈ (meetS (l.take i) ks).take j, y < x) (hhi : ∀ y ∈ (meetS (l.take i) ks).drop j, x < y) :
    meetS (l.take (i + 1)) ks = (meetS (l.take i) ks).take j ++ x :: (meetS (l.take i) ks).drop j := by
  have hs := meet_sorted (l.take i) ks
  rw [← List.take_append_drop j (meetS (l.take i) ks)] at hs
  obtain ⟨s1, s2, s3⟩ := Sorted.of_append hs
  refine sorted_ext (meet_sorted _ _) ?_ fun y => ?_
  · refine List.pairwise_append.2 ⟨s1, List.pairwise_cons.2 ⟨fun y hy => lt_iff.2 (hhi y hy), s2⟩, fun a ha b hb => ?_⟩
    rcases List.mem_cons.1 hb with e | hb
    · subst e; exact lt_iff.2 (hlo a ha)
    · exact s3 a ha b hb
  · have e : ∀ y, y ∈ (meetS (l.take i) ks).take j ∨ y ∈ (meetS (l.take i) ks).drop j ↔ y ∈ meetS (l.take i) ks := fun y => by rw [← List.mem_append, List.take_append_drop]
    rw [mem_meet, List.take_add_one, hx, Option.toList_some, List.mem_append, List.mem_singleton, List.mem_append, List.mem_cons]
    have e1 := e y
    rw [mem_meet] at e1
    constructor
    · rintro ⟨h2 | h2, h3⟩
      · rcases e1.2 ⟨h2, h3⟩ with h | h
        · exact .inl h
        · exact .inr (.inr h)
      · exact .inr (.inl h2)
    · rintro (h2 | h2 | h2)
      · have := e1.1 (.inl h2); exact ⟨.inl this.1, this.2⟩
      · subst h2; exact ⟨.inr rfl, h1⟩
      · have := e1.1 (.inr h2); exact ⟨.inl this.1, this.2⟩
theorem lower {o : List Int} (hs : Sorted ilt o) {q : Nat} {z x : Int} (hz : o[q]? = some z) (h : z < x) : ∀ y ∈ o.take (q + 1), y < x := by
  intro y hy
  obtain ⟨k, hk, rfl⟩ := List.getElem_of_mem hy
  simp only [List.length_take] at hk
  obtain ⟨hql, hqe⟩ := List.getElem?_eq_some_iff.1 hz
  rw [List.getElem_take]
  by_cases e : k = q
  · subst e; omega
  · have := lt_iff.1 (List.pairwise_iff_getElem.1 hs k q (by omega) hql (by omega))
    omega

/-- The state of the loop: what is there so far. -/
structure BothAt (w wr : World) (a : Option Addr) (c : Nat) (o : List Int) : Prop where
  acc : Acc w.heap.size wr 3 1 a o.length c (o.map (Value.int .i64))
  keep : Keep Nothing w wr
  some_ : (o = [] ∧ a = none ∧ c = 0) ∨ ∃ b p, a = some ⟨b, p, none⟩

theorem acc_new {B q : Nat} {w : World} (h : w.heap[q]? = some (.cells #[] 3 (0, 0))) (hq : B ≤ q) : Acc B w 3 1 (some ⟨q, 0, none⟩) 0 0 [] :=
  ⟨Row.empty h, by simp, Nat.le_refl _, fun c p hf => by have := (rowFp_some hf).1; omega⟩
theorem acc_cast {B n n' cap : Nat} {w : World} {a : Option Addr} {cs : List Value} (h : Acc B w 3 1 a n cap cs) (e : n = n') : Acc B w 3 1 a n' cap cs := e ▸ h
theorem step_append_to {P : Program} {w : World} {ops : Array Oper} {o : Oper} {a : Act} {K : Act → World → Prop} {Q : Exit → Act → World → Prop} {E : Prop} (hgd : o.guard = none) (s x : Operand) (t : TypeId)
    (ho : o.op = .call { callee := .builtin .append, args := #[s, x], argTypes := #[t, t] })
    (e : TypeId) (sz b : Nat) (ht : P.underlying t = some (.slice e)) (he : Elem P e sz b)
    (aa : Option Addr) (n cap : Nat) (xs : List Value) (hs : a.eval s = .slice aa n cap) (hrow : Row w e sz aa cap xs) (hn : xs.length = n * sz)
    (sa : Option Addr) (m c : Nat) (news : List Value) (hx : a.eval x = .slice sa m c) (hsz : 0 < sz) (hl : news.length = m * sz) (hnews : Given w sa news) (h1 : ∀ u ∈ news, u.oneCell' = true)
    (k : Nat) (hk : n + m = k) (hle : n ≤ cap) (h63 : n + m ≤ maxLen) (hbytes : (n + m) * b ≤ 140737488355328)
    (h : ∀ a' cap' w', Grew w w' e sz aa a' n m cap cap' (xs ++ news) → K (a.put o.dst (.slice a' k cap')) w') :
    if Region.wanted o (yielded ops a.tmps) = true then Oper.wp P o a w K Q else E := by
  subst hk
  exact step_append_src hgd s x t ho e sz b ht he aa n cap xs hs hrow hn sa m c news hx hsz hl hnews h1 hle h63 hbytes h
theorem new_two (w : World) (o o' : Obj) : ((w.alloc o).alloc o').heap[w.heap.size + 1]? = some o' := by
  have h := heap_alloc_new (w.alloc o) o'
  rw [World.size_alloc] at h
  exact h
theorem given_two (w : World) (o : Obj) (cs : List Value) (ty : TypeId) : Given ((w.alloc o).alloc (.cells cs.toArray ty)) (some ⟨w.heap.size + 1, 0, none⟩) cs := by
  have h := new_given (w.alloc o) cs ty
  rw [World.size_alloc] at h
  exact h
theorem grow_to {wc W W' : World} {k : Nat} {a a' : Option Addr} {n m cap cap' : Nat} {cs news : List Value} (hk : n + m = k) (A : Acc wc.heap.size W 3 1 a n cap cs) (K : Keep Nothing wc W) (hg : Grew W W' 3 1 a a' n m cap cap' (cs ++ news)) (hl : news.length = m) :
    Acc wc.heap.size W' 3 1 a' k cap' (cs ++ news) ∧ Keep Nothing wc W' := by
  subst hk
  obtain ⟨g1, g2⟩ := A.grow K.size hg (by omega)
  exact ⟨g1, K.trans g2 fun c p hc h => by omega⟩
theorem grow_on {wc W W' : World} {a a' : Option Addr} {n m cap cap' : Nat} {cs news : List Value} (A : Acc wc.heap.size W 3 1 a n cap cs) (K : Keep Nothing wc W) (hg : Grew W W' 3 1 a a' n m cap cap' (cs ++ news)) (hl : news.length = m) :
    Acc wc.heap.size W' 3 1 a' (n + m) cap' (cs ++ news) ∧ Keep Nothing wc W' := by
  obtain ⟨g1, g2⟩ := A.grow K.size hg (by omega)
  exact ⟨g1, K.trans g2 fun c p hc h => by omega⟩

set_option maxRecDepth 100000 in
set_option maxHeartbeats 8000000 in
theorem both_any {w : World} {a : Option Addr} {cap : Nat} {l : List Int} (hrow : Given w a (l.map (Value.int .i64))) (hl : l.length ≤ 1000000000) {ka : Option Addr} {kcap : Nat} {ks : List Int} (hk : Given w ka (ks.map (Value.int .i64))) (hkl : ks.length ≤ 1000000000) :
    Calls Try.prog 37 #[.slice a l.length cap, .slice ka ks.length kcap] w (NewKeys w (meetS l ks)) := by
  have HR := Lib.hid hrow
  have HK := Lib.hid hk
  have HL := Lib.hid hl
  clear hrow hk
  go_enter Try.func37, Try.ntmps37
  go_wp2_with fail
  go_loopg [5, 11] (l.length + 1) (fun m v5 v11 wr => ∃ (i : Nat) (aO : Option Addr) (cO : Nat), v5 = .slice aO (meetS (l.take i) ks).length cO ∧ v11 = .int .i64 i ∧ i ≤ l.length ∧ i + m = l.length + 1 ∧ BothAt w wr aO cO (meetS (l.take i) ks))
  case atStart =>
    have h0 : meetS (l.take 0) ks = [] := by rw [List.take_zero]; rfl
    refine ⟨0, none, 0, by rw [h0]; rfl, rfl, by omega, by omega, ?_⟩
    rw [h0]
    exact ⟨Acc.nil _ _ _ _, Keep.refl _ _, .inl ⟨rfl, rfl, rfl⟩⟩
  case round =>
    obtain ⟨i, aO, cO, rfl, rfl, hil, hik, hB⟩ := hrel
    have HB := Lib.hid hB
    clear hB
    by_cases hlt : i < l.length
    · obtain ⟨x, hx⟩ : ∃ x, l[i] = x := ⟨_, rfl⟩
      obtain ⟨b1, o1, ha, x0⟩ := (HR.out.keep HB.out.keep).cell (i := i) (by simpa using hlt)
      subst ha
      rw [show (l.map (Value.int .i64))[i]'(by simpa using hlt) = .int .i64 x by simp [hx]] at x0
      have hx : l[i]? = some x := by rw [← hx]; exact List.getElem?_eq_getElem hlt
      have HX := Lib.hid hx
      have hol : (meetS (l.take i) ks).length ≤ 1000000000 := by have := meet_len (l.take i) ks; rw [List.length_take] at this; omega
      have hh1 := Lib.hid (has_any (cap := kcap) (HK.out.keep HB.out.keep) (by omega) x)
      have hh2 := Lib.hid (has_any (cap := cO) HB.out.acc.row.reads (by omega) x)
      have hsame := Lib.hid (both_same (ks := ks) hx)
      have hput := Lib.hid (fun (j : Nat) => both_put (ks := ks) (j := j) hx)
      have hsrt := Lib.hid (meet_sorted (l.take i) ks)
      obtain ⟨o, ho⟩ : ∃ o, o = meetS (l.take i) ks := ⟨_, rfl⟩
      rw [← ho] at HB hh2 hsame hput hsrt hol ⊢
      clear ho hx
      by_cases hx1 : x ∈ ks
      case neg =>
        have hs := Lib.hid (hsame.out (.inl hx1))
        have hd1 : decide (x ∈ ks) = false := by simpa using hx1
        rw [hd1] at hh1
        clear hx1 hd1 hh2 hput
        go_wp2_with fail
        refine hh1.out.mono ?_
        rintro e w2 ⟨rfl, rfl⟩
        go_wp2_with fail
        go_roundg (l.length - i)
        case measure => omega
        case rel => exact ⟨i + 1, aO, cO, by rw [hs.out], by go_num, by omega, by omega, by rw [hs.out]; exact HB.out⟩
      case pos =>
        have hd1 : decide (x ∈ ks) = true := by simpa using hx1
        rw [hd1] at hh1
        have HX1 := Lib.hid hx1
        clear hx1 hd1
        by_cases hx2 : x ∈ o
        case pos =>
          have hs := Lib.hid (hsame.out (.inr hx2))
          have hd2 : decide (x ∈ o) = true := by simpa using hx2
          rw [hd2] at hh2
          clear hx2 hd2 hput
          go_wp2_with fail
          refine hh1.out.mono ?_
          rintro e w2 ⟨rfl, rfl⟩
          go_wp2_with fail
          refine hh2.out.mono ?_
          rintro e w2 ⟨rfl, rfl⟩
          go_wp2_with fail
          go_roundg (l.length - i)
          case measure => omega
          case rel => exact ⟨i + 1, aO, cO, by rw [hs.out], by go_num, by omega, by omega, by rw [hs.out]; exact HB.out⟩
        case neg =>
          have hd2 : decide (x ∈ o) = false := by simpa using hx2
          rw [hd2] at hh2
          have HX2 := Lib.hid hx2
          clear hx2 hd2 hsame
          go_wp2_with fail
          refine hh1.out.mono ?_
          rintro e w2 ⟨rfl, rfl⟩
          go_wp2_with fail
          refine hh2.out.mono ?_
          rintro e w2 ⟨rfl, rfl⟩
          clear hh1 hh2
          go_upto_block 2 with (fail)
          go_cut [8] (fun v8 wx => ∃ j : Nat, v8 = .int .i64 j ∧ j ≤ o.length ∧ (∀ y ∈ o.take j, y < x) ∧ (∀ y ∈ o.drop j, x < y) ∧ wx = wr)
          case first =>
            go_wp2_with fail
            go_loopg [8] (o.length + 1) (fun m v8 wx => ∃ j : Nat, v8 = .int .i64 j ∧ j ≤ o.length ∧ j < m ∧ (∀ y ∈ o.drop j, x < y) ∧ wx = wr)
            case atStart => exact ⟨o.length, rfl, by omega, by omega, by simp, rfl⟩
            case round =>
              obtain ⟨j, rfl, hjl, hjm, hhi, rfl⟩ := hrel
              have HHI := Lib.hid hhi
              clear hhi
              cases j with
              | zero =>
                go_wp2_with fail
                go_meet
                exact ⟨0, rfl, by omega, by simp, HHI.out, rfl⟩
              | succ q =>
                obtain ⟨z, hz⟩ : ∃ z, o[q]'(by omega) = z := ⟨_, rfl⟩
                obtain ⟨b2, o2, ha2, z0⟩ := HB.out.acc.row.reads.cell (i := q) (by simp; omega)
                subst ha2
                rw [show (o.map (Value.int .i64))[q]'(by simp; omega) = .int .i64 z by simp [hz]] at z0
                have hz : o[q]? = some z := by rw [← hz]; exact List.getElem?_eq_getElem (by omega)
                have HZ := Lib.hid hz
                clear hz
                have hq1 : ((q : Int) + 1) - 1 = (q : Int) := by omega
                by_cases hzx : z > x
                · go_wp2_with fail
                  go_roundg (q + 1)
                  case measure => omega
                  case rel =>
                    refine ⟨q, by go_num, by omega, by omega, fun y hy => ?_, rfl⟩
                    obtain ⟨hql, hqe⟩ := List.getElem?_eq_some_iff.1 HZ.out
                    rw [List.drop_eq_getElem_cons hql, hqe] at hy
                    rcases List.mem_cons.1 hy with e | hy
                    · omega
                    · exact HHI.out y hy
                · have hlow := lower hsrt.out HZ.out (x := x) (by
                    have hne : z ≠ x := fun e => HX2.out (e ▸ List.mem_of_getElem? HZ.out)
                    omega)
                  have HLOW := Lib.hid hlow
                  clear hlow
                  go_wp2_with fail
                  go_meet
                  exact ⟨q + 1, rfl, by omega, HLOW.out, HHI.out, rfl⟩
          case rest =>
            obtain ⟨j, rfl, hjl, hlo, hhi, rfl⟩ := hcut
            have hnew := Lib.hid (hput.out j HX1.out hlo hhi)
            clear hlo hhi hput x0
            have hsz := HB.out.keep.size
            have hoc := HB.out.acc.le
            go_upto_region 9 with (fail)
            have hO := Lib.hid HB.out.acc.row.reads
            have hlt2 : ((o.take j).map (Value.int .i64)).length = j * 1 := by simp; omega
            have hln3 : ((o.drop j).map (Value.int .i64)).length = (o.length - j) * 1 := by simp
            have hone1 : ∀ u ∈ [Value.int .i64 x], u.oneCell' = true := by intro u hu; simp at hu; subst hu; rfl
            have htl : Hid (j + 1 + (o.length - j) = (meetS (l.take (i + 1)) ks).length) := Lib.hid (by rw [hnew.out]; simp; omega)
            have hcs0 : Hid ((o.take j).map (Value.int .i64) ++ [.int .i64 x] ++ (o.drop j).map (Value.int .i64) = (meetS (l.take (i + 1)) ks).map (Value.int .i64)) := Lib.hid (by rw [hnew.out]; simp)
            have HLT3 : Hid (((o.take j).map (Value.int .i64)).length = j) := Lib.hid (by simp; omega)
            have HLT2 := Lib.hid hlt2
            have HLT4 : Hid ((([] : List Value) ++ (o.take j).map (Value.int .i64)).length = j * 1) := Lib.hid (by simp; omega)
            have HLN3 := Lib.hid hln3
            have HONE1 := Lib.hid hone1
            clear hlt2 hln3 hone1
            have hcs0 : Hid ([] ++ (o.take j).map (Value.int .i64) ++ [.int .i64 x] ++ (o.drop j).map (Value.int .i64) = (meetS (l.take (i + 1)) ks).map (Value.int .i64)) := Lib.hid (by rw [hnew.out]; simp)
            rcases HB.out.some_ with ⟨hoe, rfl, rfl⟩ | ⟨b', p', rfl⟩
            case' inl =>
              subst hoe
              obtain rfl : j = 0 := by simpa using hjl
              go_region_held3 (fun _ => True) (exact trivial)
                ((first
                  | (revert F2; intro F2; refine step_append_to rfl _ _ _ rfl 3 1 8 Try.underlying32 elemI a2 (0 + 1) c2 _ (by rfl) F2.out.1.row (by have := F2.out.1.len; omega) none 0 0 ((([] : List Int).drop 0).map (Value.int .i64)) (by rfl) (by omega) (by simp) (.inl (by simp)) int_one (0 + 1 + 0) (by omega) (by have := F2.out.1.le; omega) (by unfold maxLen; omega) (by omega) ?_; intro a3 c3 W4 hgC; have F3 := Lib.hid (grow_to (k := (0 + 1 + 0)) (by omega) (wc := wc) F2.out.1 F2.out.2 hgC (by simp)); clear hgC)
                  | (revert F1; intro F1; refine step_append_to rfl _ _ _ rfl 3 1 8 Try.underlying32 elemI a1 0 c1 ([] ++ (([] : List Int).take 0).map (Value.int .i64)) (by rfl) (by first | exact F1.out.1.row | exact (F1.out.1.quiet (Keep.alloc Nothing _ _)).row) HLT4.out (some ⟨W2.heap.size, 0, none⟩) 1 1 [.int .i64 x] (by rfl) (by omega) rfl (new_given W2 [Value.int .i64 x] 3) HONE1.out (0 + 1) (by omega) (by have := F1.out.1.le; omega) (by unfold maxLen; omega) (by omega) ?_; intro a2 c2 W3 hgB; have F2 := Lib.hid (grow_to (k := (0 + 1)) (by omega) (wc := wc) (by first | exact F1.out.1 | exact F1.out.1.quiet (Keep.alloc Nothing _ _)) (by first | exact F1.out.2 | exact F1.out.2.al _) hgB rfl); clear hgB)
                  | (revert F1; intro F1; refine step_append_to rfl _ _ _ rfl 3 1 8 Try.underlying32 elemI a1 0 c1 ([] ++ (([] : List Int).take 0).map (Value.int .i64)) (by rfl) (by first | exact F1.out.1.row | exact (F1.out.1.quiet (Keep.alloc Nothing _ _)).row) HLT4.out (some ⟨wc.heap.size + 1, 0, none⟩) 1 1 [.int .i64 x] (by rfl) (by omega) rfl ((given_two wc.drew (.cells #[] 3) [Value.int .i64 x] 3).keep hA1) HONE1.out (0 + 1) (by omega) (by have := F1.out.1.le; omega) (by unfold maxLen; omega) (by omega) ?_; intro a2 c2 W3 hgB; have F2 := Lib.hid (grow_to (k := (0 + 1)) (by omega) (wc := wc) (by first | exact F1.out.1 | exact F1.out.1.quiet (Keep.alloc Nothing _ _)) (by first | exact F1.out.2 | exact F1.out.2.al _) hgB rfl); clear hgB)
                  | (revert F1; intro F1; refine step_append_to rfl _ _ _ rfl 3 1 8 Try.underlying32 elemI a1 0 c1 ([] ++ (([] : List Int).take 0).map (Value.int .i64)) (by rfl) (by first | exact F1.out.1.row | exact (F1.out.1.quiet (Keep.alloc Nothing _ _)).row) HLT4.out (some ⟨wc.heap.size, 0, none⟩) 1 1 [.int .i64 x] (by rfl) (by omega) rfl (((new_given wc.drew [Value.int .i64 x] 3).keep (Keep.alloc Nothing _ _)).keep hA1) HONE1.out (0 + 1) (by omega) (by have := F1.out.1.le; omega) (by unfold maxLen; omega) (by omega) ?_; intro a2 c2 W3 hgB; have F2 := Lib.hid (grow_to (k := (0 + 1)) (by omega) (wc := wc) (by first | exact F1.out.1 | exact F1.out.1.quiet (Keep.alloc Nothing _ _)) (by first | exact F1.out.2 | exact F1.out.2.al _) hgB rfl); clear hgB)
                  | (refine step_append_to rfl _ _ _ rfl 3 1 8 Try.underlying32 elemI _ 0 0 [] (by rfl) (by first | exact Row.empty (heap_alloc_new _ _) | exact Row.empty (blk_alloc _ (heap_alloc_new _ _)) | exact Row.empty (new_two _ _ _)) rfl none 0 0 ((([] : List Int).take 0).map (Value.int .i64)) (by rfl) (by omega) HLT2.out (.inl (by simp)) int_one 0 (by omega) (by omega) (by unfold maxLen; omega) (by omega) ?_; intro a1 c1 W2 hgA; have F1 := Lib.hid (grow_to (k := 0) (by omega) (wc := wc) (by first | exact acc_new (heap_alloc_new _ _) (Nat.le_refl _) | exact acc_new (blk_alloc _ (heap_alloc_new _ _)) (Nat.le_refl _) | exact acc_new (new_two _ _ _) (Nat.le_succ _)) (by first | exact (Keep.refl _ _).al _ | exact ((Keep.refl _ _).al _).dr | exact (Keep.refl _ _).dr.al _ | exact ((Keep.refl _ _).al _).al _ | exact (((Keep.refl _ _).al _).al _).dr | exact ((Keep.refl _ _).dr.al _).al _) hgA HLT3.out); have hA1 := hgA.calm; clear hgA)))
            case' inr =>
              have HS : Hid (∀ W, Keep Nothing wc W → Given W (some ⟨b', p', none⟩) ((o.take j).map (Value.int .i64)) ∧ Given W (some ⟨b', p' + j, none⟩) ((o.drop j).map (Value.int .i64))) := by
                refine Lib.hid fun W hW => ⟨?_, ?_⟩
                · rw [List.map_take]; exact (hO.out.keep hW).take _
                · rw [List.map_drop]; exact (hO.out.keep hW).drop _ rfl
              by_cases hce : cO = j
              case' pos =>
                obtain rfl : j = cO := hce.symm
                have hol2 : o.length = j := by omega
                have hdn : Hid (o.drop j = []) := Lib.hid (List.drop_eq_nil_of_le (by omega))
                have HZ0 : Hid (((o.drop j).map (Value.int .i64)).length = 0 * 1) := Lib.hid (by rw [hdn.out]; rfl)
                have HZ1 : Hid (((o.drop j).map (Value.int .i64)).length = 0) := Lib.hid (by rw [hdn.out]; rfl)
                go_region_held3 (fun _ => True) (exact trivial)
                ((first
                  | (revert F2; intro F2; refine step_append_to rfl _ _ _ rfl 3 1 8 Try.underlying32 elemI a2 (j + 1) c2 _ (by rfl) F2.out.1.row (by have := F2.out.1.len; omega) (some ⟨b', p', none⟩) 0 0 ((o.drop j).map (Value.int .i64)) (by rfl) (by omega) HZ0.out (.inl (by rw [hdn.out]; rfl)) int_one (j + 1 + 0) (by omega) (by have := F2.out.1.le; omega) (by unfold maxLen; omega) (by omega) ?_; intro a3 c3 W4 hgC; have F3 := Lib.hid (grow_to (k := (j + 1 + 0)) (by omega) (wc := wc) F2.out.1 F2.out.2 hgC HZ1.out); clear hgC)
                  | (revert F1; intro F1; refine step_append_to rfl _ _ _ rfl 3 1 8 Try.underlying32 elemI a1 j c1 ([] ++ (o.take j).map (Value.int .i64)) (by rfl) (by first | exact F1.out.1.row | exact (F1.out.1.quiet (Keep.alloc Nothing _ _)).row) HLT4.out (some ⟨W2.heap.size, 0, none⟩) 1 1 [.int .i64 x] (by rfl) (by omega) rfl (new_given W2 [Value.int .i64 x] 3) HONE1.out (j + 1) (by omega) (by have := F1.out.1.le; omega) (by unfold maxLen; omega) (by omega) ?_; intro a2 c2 W3 hgB; have F2 := Lib.hid (grow_to (k := (j + 1)) (by omega) (wc := wc) (by first | exact F1.out.1 | exact F1.out.1.quiet (Keep.alloc Nothing _ _)) (by first | exact F1.out.2 | exact F1.out.2.al _) hgB rfl); clear hgB)
                  | (revert F1; intro F1; refine step_append_to rfl _ _ _ rfl 3 1 8 Try.underlying32 elemI a1 j c1 ([] ++ (o.take j).map (Value.int .i64)) (by rfl) (by first | exact F1.out.1.row | exact (F1.out.1.quiet (Keep.alloc Nothing _ _)).row) HLT4.out (some ⟨wc.heap.size + 1, 0, none⟩) 1 1 [.int .i64 x] (by rfl) (by omega) rfl ((given_two wc.drew (.cells #[] 3) [Value.int .i64 x] 3).keep hA1) HONE1.out (j + 1) (by omega) (by have := F1.out.1.le; omega) (by unfold maxLen; omega) (by omega) ?_; intro a2 c2 W3 hgB; have F2 := Lib.hid (grow_to (k := (j + 1)) (by omega) (wc := wc) (by first | exact F1.out.1 | exact F1.out.1.quiet (Keep.alloc Nothing _ _)) (by first | exact F1.out.2 | exact F1.out.2.al _) hgB rfl); clear hgB)
                  | (revert F1; intro F1; refine step_append_to rfl _ _ _ rfl 3 1 8 Try.underlying32 elemI a1 j c1 ([] ++ (o.take j).map (Value.int .i64)) (by rfl) (by first | exact F1.out.1.row | exact (F1.out.1.quiet (Keep.alloc Nothing _ _)).row) HLT4.out (some ⟨wc.heap.size, 0, none⟩) 1 1 [.int .i64 x] (by rfl) (by omega) rfl (((new_given wc.drew [Value.int .i64 x] 3).keep (Keep.alloc Nothing _ _)).keep hA1) HONE1.out (j + 1) (by omega) (by have := F1.out.1.le; omega) (by unfold maxLen; omega) (by omega) ?_; intro a2 c2 W3 hgB; have F2 := Lib.hid (grow_to (k := (j + 1)) (by omega) (wc := wc) (by first | exact F1.out.1 | exact F1.out.1.quiet (Keep.alloc Nothing _ _)) (by first | exact F1.out.2 | exact F1.out.2.al _) hgB rfl); clear hgB)
                  | (refine step_append_to rfl _ _ _ rfl 3 1 8 Try.underlying32 elemI _ 0 0 [] (by rfl) (by first | exact Row.empty (heap_alloc_new _ _) | exact Row.empty (blk_alloc _ (heap_alloc_new _ _)) | exact Row.empty (new_two _ _ _)) rfl (some ⟨b', p', none⟩) j j ((o.take j).map (Value.int .i64)) (by rfl) (by omega) HLT2.out (by first | exact (HS.out _ ((Keep.refl _ _).al _)).1 | exact (HS.out _ ((Keep.refl _ _).al _).dr).1 | exact (HS.out _ ((Keep.refl _ _).dr.al _)).1 | exact (HS.out _ (((Keep.refl _ _).al _).al _)).1 | exact (HS.out _ (((Keep.refl _ _).al _).al _).dr).1 | exact (HS.out _ (((Keep.refl _ _).dr.al _).al _)).1) int_one j (by omega) (by omega) (by unfold maxLen; omega) (by omega) ?_; intro a1 c1 W2 hgA; have F1 := Lib.hid (grow_to (k := j) (by omega) (wc := wc) (by first | exact acc_new (heap_alloc_new _ _) (Nat.le_refl _) | exact acc_new (blk_alloc _ (heap_alloc_new _ _)) (Nat.le_refl _) | exact acc_new (new_two _ _ _) (Nat.le_succ _)) (by first | exact (Keep.refl _ _).al _ | exact ((Keep.refl _ _).al _).dr | exact (Keep.refl _ _).dr.al _ | exact ((Keep.refl _ _).al _).al _ | exact (((Keep.refl _ _).al _).al _).dr | exact ((Keep.refl _ _).dr.al _).al _) hgA HLT3.out); have hA1 := hgA.calm; clear hgA)))
              case' neg =>
                have hjc : j ≤ cO := by omega
                have hjI : ((j : Nat) : Int) ≤ ((cO : Nat) : Int) := by omega
                have HLN4 : Hid (((o.drop j).map (Value.int .i64)).length = o.length - j) := Lib.hid (by simp)
                go_region_held3 (fun _ => True) (exact trivial)
                ((first
                  | (revert F2; intro F2; refine step_append_to rfl _ _ _ rfl 3 1 8 Try.underlying32 elemI a2 (j + 1) c2 _ (by rfl) F2.out.1.row (by have := F2.out.1.len; omega) (some ⟨b', p' + j, none⟩) (o.length - j) (cO - j) ((o.drop j).map (Value.int .i64)) (by rfl) (by omega) HLN3.out (HS.out _ F2.out.2).2 int_one (j + 1 + (o.length - j)) (by omega) (by have := F2.out.1.le; omega) (by unfold maxLen; omega) (by omega) ?_; intro a3 c3 W4 hgC; have F3 := Lib.hid (grow_to (k := (j + 1 + (o.length - j))) (by omega) (wc := wc) F2.out.1 F2.out.2 hgC HLN4.out); clear hgC)
                  | (revert F1; intro F1; refine step_append_to rfl _ _ _ rfl 3 1 8 Try.underlying32 elemI a1 j c1 ([] ++ (o.take j).map (Value.int .i64)) (by rfl) (by first | exact F1.out.1.row | exact (F1.out.1.quiet (Keep.alloc Nothing _ _)).row) HLT4.out (some ⟨W2.heap.size, 0, none⟩) 1 1 [.int .i64 x] (by rfl) (by omega) rfl (new_given W2 [Value.int .i64 x] 3) HONE1.out (j + 1) (by omega) (by have := F1.out.1.le; omega) (by unfold maxLen; omega) (by omega) ?_; intro a2 c2 W3 hgB; have F2 := Lib.hid (grow_to (k := (j + 1)) (by omega) (wc := wc) (by first | exact F1.out.1 | exact F1.out.1.quiet (Keep.alloc Nothing _ _)) (by first | exact F1.out.2 | exact F1.out.2.al _) hgB rfl); clear hgB)
                  | (revert F1; intro F1; refine step_append_to rfl _ _ _ rfl 3 1 8 Try.underlying32 elemI a1 j c1 ([] ++ (o.take j).map (Value.int .i64)) (by rfl) (by first | exact F1.out.1.row | exact (F1.out.1.quiet (Keep.alloc Nothing _ _)).row) HLT4.out (some ⟨wc.heap.size + 1, 0, none⟩) 1 1 [.int .i64 x] (by rfl) (by omega) rfl ((given_two wc.drew (.cells #[] 3) [Value.int .i64 x] 3).keep hA1) HONE1.out (j + 1) (by omega) (by have := F1.out.1.le; omega) (by unfold maxLen; omega) (by omega) ?_; intro a2 c2 W3 hgB; have F2 := Lib.hid (grow_to (k := (j + 1)) (by omega) (wc := wc) (by first | exact F1.out.1 | exact F1.out.1.quiet (Keep.alloc Nothing _ _)) (by first | exact F1.out.2 | exact F1.out.2.al _) hgB rfl); clear hgB)
                  | (revert F1; intro F1; refine step_append_to rfl _ _ _ rfl 3 1 8 Try.underlying32 elemI a1 j c1 ([] ++ (o.take j).map (Value.int .i64)) (by rfl) (by first | exact F1.out.1.row | exact (F1.out.1.quiet (Keep.alloc Nothing _ _)).row) HLT4.out (some ⟨wc.heap.size, 0, none⟩) 1 1 [.int .i64 x] (by rfl) (by omega) rfl (((new_given wc.drew [Value.int .i64 x] 3).keep (Keep.alloc Nothing _ _)).keep hA1) HONE1.out (j + 1) (by omega) (by have := F1.out.1.le; omega) (by unfold maxLen; omega) (by omega) ?_; intro a2 c2 W3 hgB; have F2 := Lib.hid (grow_to (k := (j + 1)) (by omega) (wc := wc) (by first | exact F1.out.1 | exact F1.out.1.quiet (Keep.alloc Nothing _ _)) (by first | exact F1.out.2 | exact F1.out.2.al _) hgB rfl); clear hgB)
                  | (refine step_append_to rfl _ _ _ rfl 3 1 8 Try.underlying32 elemI _ 0 0 [] (by rfl) (by first | exact Row.empty (heap_alloc_new _ _) | exact Row.empty (blk_alloc _ (heap_alloc_new _ _)) | exact Row.empty (new_two _ _ _)) rfl (some ⟨b', p', none⟩) j cO ((o.take j).map (Value.int .i64)) (by rfl) (by omega) HLT2.out (by first | exact (HS.out _ ((Keep.refl _ _).al _)).1 | exact (HS.out _ ((Keep.refl _ _).al _).dr).1 | exact (HS.out _ ((Keep.refl _ _).dr.al _)).1 | exact (HS.out _ (((Keep.refl _ _).al _).al _)).1 | exact (HS.out _ (((Keep.refl _ _).al _).al _).dr).1 | exact (HS.out _ (((Keep.refl _ _).dr.al _).al _)).1) int_one j (by omega) (by omega) (by unfold maxLen; omega) (by omega) ?_; intro a1 c1 W2 hgA; have F1 := Lib.hid (grow_to (k := j) (by omega) (wc := wc) (by first | exact acc_new (heap_alloc_new _ _) (Nat.le_refl _) | exact acc_new (blk_alloc _ (heap_alloc_new _ _)) (Nat.le_refl _) | exact acc_new (new_two _ _ _) (Nat.le_succ _)) (by first | exact (Keep.refl _ _).al _ | exact ((Keep.refl _ _).al _).dr | exact (Keep.refl _ _).dr.al _ | exact ((Keep.refl _ _).al _).al _ | exact (((Keep.refl _ _).al _).al _).dr | exact ((Keep.refl _ _).dr.al _).al _) hgA HLT3.out); have hA1 := hgA.calm; clear hgA)))
            all_goals
              go_wp2_with fail
              go_roundg (l.length - i)
              case measure => omega
              case rel =>
                have A3 := F3.out.1
                rw [hcs0.out] at A3
                have A4 := acc_cast A3 (n' := (meetS (l.take (i + 1)) ks).length) (by have := htl.out; omega)
                refine ⟨i + 1, a3, c3, by (first | (rw [← htl.out]; done) | (rw [← htl.out]; go_num)), by go_num, by omega, by omega, ⟨⟨A4.row, A4.len, A4.le, fun b p h => Nat.le_trans hsz (A4.own b p h)⟩, HB.out.keep.trans F3.out.2 fun _ _ _ h => h, .inr ?_⟩⟩
                obtain ⟨b, p, h, _⟩ := A4.row.form (by rw [A4.len, ← htl.out]; omega)
                exact ⟨b, p, h⟩
    · have hi : i = l.length := by omega
      subst hi
      have hB := HB.out
      rw [List.take_of_length_le (Nat.le_refl _)] at hB ⊢
      have HB2 := Lib.hid hB
      clear hB HB
      go_wp2_with fail
      go_ret
      exact ⟨aO, cO, rfl, HB2.out.acc, HB2.out.keep⟩
end Go.Proofs.Ytckplcmieelmpaa.S

namespace Go.Proofs.Ytckplcmieelmpaa.S
open Go.RowKit Go.Wb
theorem alg_row {w : World} {a b c : Option Addr} {ca cb cc : Nat} {la lb lc : List Int} (ha : Given w a (la.map (Value.int .i64))) (_ : la.length ≤ maxLen) (hb : Given w b (lb.map (Value.int .i64))) (_ : lb.length ≤ maxLen) (hc : Given w c (lc.map (Value.int .i64))) (_ : lc.length ≤ maxLen) :
    Calls Try.prog 6 #[.slice a la.length ca, .slice b lb.length cb, .slice c lc.length cc] w (TruePost w) := by
  by_cases h : la.length ≤ 2147483647 ∧ lb.length ≤ 2147483647 ∧ lc.length ≤ 2147483647
  · by_cases h2 : la.length ≤ 100 ∧ lb.length ≤ 100 ∧ lc.length ≤ 100
    · exact alg_main (fun T big k => delete_any T big k) (fun h1 h2 _ _ _ h3 h4 => both_any h1 h2 h3 h4) ha hb hc h2.1 h2.2.1 h2.2.2
    · exact alg_big h.1 h.2.1 h.2.2 (by omega)
  · exact alg_far (by omega)
end Go.Proofs.Ytckplcmieelmpaa.S

namespace Go.Wb
open Go Go.ChangeShapes Go.WideShapes Go.ChangeAt Go.RowKit

/-- The cells of a slice that came in. -/
theorem given_cells {W : World} {a : Addr} {cs : List Value} (h : ∀ i v, cs[i]? = some v → W.cell? (a.add i) = some v) : Given W (some a) cs := by
  cases cs with
  | nil => exact .inl rfl
  | cons x cs =>
    obtain ⟨b, off, spot⟩ := a
    have h0 := h 0 x (by simp)
    have hspot : spot = none := by simpa [Addr.add] using World.cell?_spot h0
    subst hspot
    refine .inr ⟨b, off, rfl, fun i v hi => ?_⟩
    rw [← add_plain]
    exact h i v hi

section
variable {H : Type} {enc : TypeId × Value → H} {P : Program} {W : World}

/-- A slice of texts that came in. -/
theorem open_texts {t e : TypeId} {base : Nat} {v : Value} {d : DataW H} {p : List MemPlace} (ht : P.underlying t = some (.slice e)) (he : P.underlying e = some .string) (hc : P.cellsOf e = 1) (hval : Value.okWide P W .any base t v)
    (h : DataW.Trod enc P W 0 (fun _ => true) true t v d p) : ∃ (a : Option Addr) (l : List ByteArray) (cap : Nat), v = .slice a l.length cap ∧ Given W a (l.map .string) ∧ l.length ≤ maxLen := by
  obtain ⟨a0, len, cap, rfl⟩ := okWide_slice ht hval
  obtain ⟨fuel, hf⟩ := h
  rcases open_strings ht he hc hf with ⟨hcs, hx⟩ | ⟨a, len', cap', ss, hcs, _, hl, hm, hz, hx, hcell, hws⟩
  · simp [Value.cells] at hcs
    obtain ⟨rfl, rfl, rfl⟩ := hcs
    exact ⟨none, [], 0, rfl, .inl rfl, by simp⟩
  · simp [Value.cells] at hcs
    obtain ⟨rfl, rfl, rfl⟩ := hcs
    simp only [if_true] at hz
    have hlen : (ss.take len).length = len := by simp; omega
    refine ⟨some a, ss.take len, cap, by rw [hlen], given_cells fun i v hi => ?_, by rw [hlen]; omega⟩
    rw [List.getElem?_map, List.getElem?_take] at hi
    split at hi
    · have hil : i < ss.length := by omega
      rw [List.getElem?_eq_getElem hil] at hi
      rw [hcell i hil]
      simp at hi
      rw [← hi]
      simp [List.getD, hil]
    · cases hi

/-- What came in reads as it did. -/
theorem Below.trodAll (hl : laidOutB P = true) {W' : World} (hb : Below W.heap.size W W') : ∀ {ts : List TypeId} {vs : List Value} {ds : List (DataW H)} {ps : List MemPlace}, (ts.all fun t => P.readableRec t && decide (t < P.types.size)) = true →
    DataW.TrodAll enc P W 0 (fun _ => true) true ts vs ds ps → (∀ x ∈ ps, x.block < W.heap.size) → DataW.TrodAll enc P W' 0 (fun b => decide (b < W.heap.size)) true ts vs ds ps
  | [], [], [], ps, _, h, _ => h
  | t :: ts, v :: vs, d :: ds, ps, hc, h, hp => by
    obtain ⟨p, q, h1, h2, rfl⟩ := h
    simp only [List.all_cons, Bool.and_eq_true, decide_eq_true_eq] at hc
    refine ⟨p, q, Below.trod hl hc.1.1 hc.1.2 h1 hb (fun x hx => hp x (by simp [hx])), Below.trodAll hl hb (by simpa using hc.2) h2 (fun x hx => hp x (by simp [hx])), rfl⟩
  | [], _ :: _, _, _, _, h, _ => h.elim
  | [], [], _ :: _, _, _, h, _ => h.elim
  | _ :: _, [], _, _, _, h, _ => h.elim
  | _ :: _, _ :: _, [], _, _, h, _ => h.elim
end
end Go.Wb

namespace Go.Wb
open Go Go.ChangeShapes Go.WideShapes Go.ChangeAt Go.RowKit Go.Deep

theorem pairs_get {β : Type} (f g : β → Value) : ∀ {l : List β} {j : Nat} {v : Value}, (l.flatMap fun x => [f x, g x])[j]? = some v → ∃ i x, l[i]? = some x ∧ ((j = i * 2 ∧ v = f x) ∨ (j = i * 2 + 1 ∧ v = g x))
  | [], j, v, h => by simp at h
  | x :: l, 0, v, h => ⟨0, x, rfl, .inl ⟨rfl, by simpa using h.symm⟩⟩
  | x :: l, 1, v, h => ⟨0, x, rfl, .inr ⟨rfl, by simpa using h.symm⟩⟩
  | x :: l, j + 2, v, h => by
    obtain ⟨i, y, h1, h2⟩ := pairs_get f g (l := l) (j := j) (v := v) (by simpa using h)
    exact ⟨i + 1, y, by simpa using h1, h2.imp (fun ⟨a, b⟩ => ⟨by omega, b⟩) fun ⟨a, b⟩ => ⟨by omega, b⟩⟩

def strV : Value → ByteArray | .string s => s | _ => ⟨#[]⟩
def intV : Value → Int | .int _ n => n | _ => 0

section
variable {H : Type} {enc : TypeId × Value → H} {P : Program} {W : World}
/-- A slice of pairs of a text and a number that came in. -/
theorem open_words {t e : TypeId} {f0 f1 : Field} {base : Nat} {v : Value} {d : DataW H} {p : List MemPlace} (ht : P.underlying t = some (.slice e)) (he : P.underlying e = some (.struct #[f0, f1])) (hk : P.underlying f0.type = some .string) (hi : P.underlying f1.type = some (.int .i64))
    (ce : P.cellsOf e = 2) (o0 : f0.offset = 0) (o1 : f1.offset = 1) (c0 : P.cellsOf f0.type = 1) (c1 : P.cellsOf f1.type = 1) (hval : Value.okWide P W .any base t v)
    (h : DataW.Trod enc P W 0 (fun _ => true) true t v d p) : ∃ (a : Option Addr) (l : List (ByteArray × Int)) (cap : Nat), v = .slice a l.length cap ∧ Given W a (l.flatMap fun x => [.string x.1, .int .i64 x.2]) ∧ l.length ≤ maxLen := by
  obtain ⟨a0, len, cap, rfl⟩ := okWide_slice ht hval
  obtain ⟨fuel, hf⟩ := h
  rcases open_slice_pairs ht he ce o0 o1 c0 c1 hf with ⟨hcs, hx⟩ | ⟨a, len', cap', m, n, V0, V1, D0, D1, P0, P1, hcs, _, hl, hm, hz, hx, hc⟩
  · simp [Value.cells] at hcs
    obtain ⟨rfl, rfl, rfl⟩ := hcs
    exact ⟨none, [], 0, rfl, .inl rfl, by simp⟩
  · simp [Value.cells] at hcs
    obtain ⟨rfl, rfl, rfl⟩ := hcs
    simp only [if_true] at hz
    have hlen : ((List.range len).map fun i => (strV (V0 i), intV (V1 i))).length = len := by simp
    refine ⟨some a, (List.range len).map fun i => (strV (V0 i), intV (V1 i)), cap, by rw [hlen], given_cells fun j u hj => ?_, by rw [hlen]; omega⟩
    obtain ⟨i, x, h1, h2⟩ := pairs_get (fun x : ByteArray × Int => Value.string x.1) (fun x => Value.int .i64 x.2) hj
    rw [List.getElem?_map] at h1
    obtain ⟨k, hk1, hk2⟩ := Option.map_eq_some_iff.1 h1
    obtain ⟨hil, rfl⟩ := List.getElem?_eq_some_iff.1 hk1
    simp only [List.length_range] at hil
    simp only [List.getElem_range] at hk2
    subst hk2
    obtain ⟨g0, g1, g2, g3⟩ := hc i (by omega)
    obtain ⟨s, e1, _, _⟩ := DataW.trod_string hk g2
    obtain ⟨z, e2, _, _⟩ := DataW.trod_int hi g3
    have e1' : V0 i = .string s := by simpa using e1
    have e2' : V1 i = .int .i64 z := by simpa using e2
    rcases h2 with ⟨rfl, rfl⟩ | ⟨rfl, rfl⟩
    · rw [g0, e1']; rfl
    · rw [g1, e2']; rfl
end
end Go.Wb

namespace Go.Wb
open Go Go.ChangeShapes Go.WideShapes Go.ChangeAt Go.RowKit

section
variable {H : Type} {enc : TypeId × Value → H} {P : Program} {W : World}
/-- A slice of numbers that came in. -/
theorem open_numbers {t e : TypeId} {base : Nat} {v : Value} {d : DataW H} {p : List MemPlace} (ht : P.underlying t = some (.slice e)) (he : P.underlying e = some (.int .i64)) (hc : P.cellsOf e = 1) (hval : Value.okWide P W .any base t v)
    (h : DataW.Trod enc P W 0 (fun _ => true) true t v d p) : ∃ (a : Option Addr) (l : List Int) (cap : Nat), v = .slice a l.length cap ∧ Given W a (l.map (Value.int .i64)) ∧ l.length ≤ maxLen := by
  obtain ⟨a0, len, cap, rfl⟩ := okWide_slice ht hval
  obtain ⟨fuel, hf⟩ := h
  rcases open_ints ht he hc hf with ⟨hcs, hx⟩ | ⟨a, len', cap', ss, hcs, _, hl, hm, hz, hx, hcell, hws⟩
  · simp [Value.cells] at hcs
    obtain ⟨rfl, rfl, rfl⟩ := hcs
    exact ⟨none, [], 0, rfl, .inl rfl, by simp⟩
  · simp [Value.cells] at hcs
    obtain ⟨rfl, rfl, rfl⟩ := hcs
    simp only [if_true] at hz
    have hlen : (ss.take len).length = len := by simp; omega
    refine ⟨some a, ss.take len, cap, by rw [hlen], given_cells fun i v hi => ?_, by rw [hlen]; omega⟩
    rw [List.getElem?_map, List.getElem?_take] at hi
    split at hi
    · have hil : i < ss.length := by omega
      rw [List.getElem?_eq_getElem hil] at hi
      rw [hcell i hil]
      simp at hi
      rw [← hi]
      simp [List.getD, hil]
    · cases hi
end
end Go.Wb
