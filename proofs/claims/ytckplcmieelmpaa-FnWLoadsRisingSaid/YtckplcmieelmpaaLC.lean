/- Part 3 of the texts for the statement FnWLoadsRisingSaid: the package's tree of maps and sets, its functions' contracts. -/
import Derived.Test.YtckplcmieelmpaaLB
import Derived.Deep.CutBlock
import Derived.Deep.DeepCutAuto
import Derived.Deep.RegionHeld3
import Derived.Laws.EntriesVeiled
import Derived.Deep.QuietTactic
import Derived.BigQuiet
namespace Go.Wb
open Go Go.RowKit
variable {α : Type}

/-- A node's record, its count one less. -/
def NRec.less (r : NRec α) : NRec α := { r with cnt := r.cnt - 1 }
/-- The counts of the nodes P are one less. -/
def decs (H : Store α) (P : List Nat) : Store α := fun m => if m ∈ P then (H m).map NRec.less else H m

variable {H : Store α} {P : List Nat}
theorem decs_nil : decs H [] = H := by funext m; simp [decs]
theorem decs_out {m : Nat} (h : m ∉ P) : decs H P m = H m := by simp [decs, h]
theorem decs_in {m : Nat} {r : NRec α} (h : m ∈ P) (hr : H m = some r) : decs H P m = some r.less := by simp [decs, h, hr]
theorem decs_snoc {n : Nat} {r : NRec α} (hr : H n = some r) : upd (decs H P) n (some r.less) = decs H (P ++ [n]) := by
  funext m
  by_cases e : m = n
  · subst e
    rw [upd_same, decs_in (by simp) hr]
  · rw [upd_ne _ _ e]
    simp [decs, e]
theorem decs_drop (nd : P.Nodup) {j n : Nat} {r : NRec α} (hj : P[j]? = some n) (hr : H n = some r) : upd (decs H (P.drop j)) n (some r) = decs H (P.drop (j + 1)) := by
  obtain ⟨hl, rfl⟩ := List.getElem?_eq_some_iff.1 hj
  have e : P.drop j = P[j] :: P.drop (j + 1) := List.drop_eq_getElem_cons hl
  have nd2 : (P.drop j).Nodup := List.Pairwise.sublist (List.drop_sublist _ _) nd
  rw [e] at nd2
  have h1 := (List.nodup_cons.1 nd2).1
  have key : ∀ m, m ≠ P[j] → (m ∈ P.drop j ↔ m ∈ P.drop (j + 1)) := fun m hm => by
    rw [e, List.mem_cons]
    exact ⟨fun h => h.resolve_left hm, .inr⟩
  funext m
  by_cases h : m = P[j]
  · subst h
    rw [upd_same, decs_out h1, hr]
  · rw [upd_ne _ _ h]
    simp only [decs, key m h]
theorem decs_dom {m : Nat} {q : NRec α} (h : decs H P m = some q) : ∃ r, H m = some r ∧ q.items = r.items ∧ q.kids = r.kids ∧ q.iso = r.iso := by
  unfold decs at h
  split at h
  · cases hr : H m with
    | none => rw [hr] at h; cases h
    | some r =>
      rw [hr] at h
      simp only [Option.map_some, Option.some.injEq] at h
      subst h
      exact ⟨r, rfl, rfl, rfl, rfl⟩
  · exact ⟨q, h, rfl, rfl, rfl⟩
theorem decs_some {m : Nat} {r : NRec α} (h : H m = some r) : ∃ q, decs H P m = some q ∧ q.items = r.items ∧ q.kids = r.kids ∧ q.iso = r.iso ∧ (q.cnt = r.cnt ∨ q.cnt = r.cnt - 1) := by
  by_cases hm : m ∈ P
  · exact ⟨_, decs_in hm h, rfl, rfl, rfl, .inr rfl⟩
  · exact ⟨r, (decs_out hm).trans h, rfl, rfl, rfl, .inl rfl⟩

/-- What is around a node of a tree: whatever is put in its place, with one item less, the whole is a tree with one item less. -/
def Plug (H : Store α) (iso : Int) (mn mx : Nat) (P : List Nat) (h0 n0 l0 : Nat) (F : List Nat) (l h n : Nat) (t : Tr α) (G : List Nat) (C D : List α) : Prop :=
  ∀ (H' : Store α) (t' : Tr α), (∀ m, m ∉ G → H' m = decs H P m) → Rep H' iso h n t' G → (flat h t').length + 1 = (flat h t).length → wfr l mn mx h t' →
    ∃ t0', Rep H' iso h0 n0 t0' F ∧ wfr l0 mn mx h0 t0' ∧ flat h0 t0' = C ++ flat h t' ++ D

theorem Plug.start (H : Store α) (iso : Int) (mn mx h0 n0 l0 : Nat) (F : List Nat) (t : Tr α) : Plug H iso mn mx [] h0 n0 l0 F l0 h0 n0 t F [] [] :=
  fun _ t' _ hr _ hw => ⟨t', hr, hw, by simp⟩

theorem RepL.notin {R : Nat → Tr α → List Nat → Prop} {ns : List Nat} {ts : List (Tr α)} {F : List Nat} {m : Nat} (_ : RepL R ns ts F) (h : m ∉ F) (hR : ∀ n t G, R n t G → n ∈ G) (h2 : RepL R ns ts F) : m ∉ ns := by
  induction ns generalizing ts F with
  | nil => simp
  | cons n ns ih =>
    cases ts with
    | nil => exact h2.elim
    | cons t ts =>
      obtain ⟨F1, F2, h1, h3, rfl⟩ := h2
      simp only [List.mem_append, not_or] at h
      simp only [List.mem_cons, not_or]
      exact ⟨fun e => h.1 (e ▸ hR n t F1 h1), ih h3 h.2 h3⟩

theorem Plug.down {iso : Int} {mn mx h0 n0 l0 l h n i c : Nat} {F G N1 N2 F1 Fk F2 : List Nat} {t k : Tr α} {C D : List α} {r : NRec α} {K1 K2 : List (Tr α)}
    (hp : Plug H iso mn mx P h0 n0 l0 F l (h + 1) n t G C D) (nd : G.Nodup) (hnP : n ∉ P) (wl_ : l ≤ t.its.length)
    (A : Around (decs H P) iso mn mx h n t G r i k N1 N2 c K1 K2 F1 Fk F2) :
    Plug H iso mn mx (P ++ [n]) h0 n0 l0 F mn h c k Fk (C ++ wl (K1.map (flat h)) (r.items.take i)) (wr (r.items.drop i) (K2.map (flat h)) ++ D) := by
  intro H' k' hH' hR' hlen hwf
  have hG := A.Fq
  have nd1 := nd
  rw [hG] at nd1
  have hn1 := (List.nodup_cons.1 nd1).1
  have nd2 := (List.nodup_cons.1 nd1).2
  obtain ⟨nd3, nd4, nd5⟩ := List.nodup_append.1 nd2
  obtain ⟨nd6, nd7, nd8⟩ := List.nodup_append.1 nd3
  simp only [List.mem_append, not_or] at hn1
  obtain ⟨⟨hn1, hnk⟩, hn2⟩ := hn1
  have hrec : H n = some r := by have := A.rec_; rwa [decs_out hnP] at this
  have o1 : ∀ m, m ∈ F1 → H' m = decs H P m := fun m hm => by
    have e : m ≠ n := fun e => hn1 (e ▸ hm)
    rw [hH' m fun hk => nd8 m hm m hk rfl]
    simp [decs, e]
  have o2 : ∀ m, m ∈ F2 → H' m = decs H P m := fun m hm => by
    have e : m ≠ n := fun e => hn2 (e ▸ hm)
    rw [hH' m fun hk => nd5 m (List.mem_append.2 (.inr hk)) m hm rfl]
    simp [decs, e]
  have r1 : RepL (Rep H' iso h) N1 K1 F1 := A.r1.imp fun a t G hG (hR : Rep _ iso h a t G) => hR.congr fun m hm => o1 m (hG m hm)
  have r2 : RepL (Rep H' iso h) N2 K2 F2 := A.r2.imp fun a t G hG (hR : Rep _ iso h a t G) => hR.congr fun m hm => o2 m (hG m hm)
  have lr := A.lr
  have e0 : r.items.take i ++ r.items.drop i = r.items := List.take_append_drop _ _
  have e1 : ∀ x : Tr α, flat (h + 1) (.node r.items (K1 ++ x :: K2)) = wl (K1.map (flat h)) (r.items.take i) ++ flat h x ++ wr (r.items.drop i) (K2.map (flat h)) := fun x => by
    have := wl_wr (K1.map (flat h)) (r.items.take i) (flat h x) (r.items.drop i) (K2.map (flat h)) (by simp [A.lk]; omega)
    simp only [flat, Tr.its, Tr.ks, List.map_append, List.map_cons]
    rw [← this, e0]
  have htq := A.tq
  have hlen2 : (flat (h + 1) (.node r.items (K1 ++ k' :: K2))).length + 1 = (flat (h + 1) t).length := by
    rw [htq, e1, e1]
    simp only [List.length_append]
    omega
  have hitl : t.its.length = r.items.length := by rw [htq]; rfl
  obtain ⟨t0', g1, g2, g3⟩ := hp H' (.node r.items (K1 ++ k' :: K2)) (fun m hm => by
      rw [hG] at hm
      simp only [List.mem_cons, List.mem_append, not_or] at hm
      rw [hH' m hm.2.1.2]
      simp [decs, hm.1]) ⟨r.less, N1 ++ c :: N2, F1 ++ (Fk ++ F2), by rw [hH' n hnk]; exact decs_in (by simp) hrec, A.isoq, rfl, A.kids, by
        have := A.cnt
        show r.cnt - 1 = _
        omega, RepL.join (by obtain h3 : RepL (Rep H' iso h) ([c] ++ N2) ([k'] ++ K2) (Fk ++ F2) := RepL.join r2 (RepL.one hR'); exact h3) r1, by rw [hG]; simp⟩ hlen2 ⟨by rw [hitl] at wl_; exact wl_, A.le, by simp only [Tr.ks, Tr.its, List.length_append, List.length_cons, A.lk]; omega, fun q hq => by
        simp only [Tr.ks, List.mem_append, List.mem_cons] at hq
        rcases hq with hq | rfl | hq
        · exact A.wo q (by simp [hq])
        · exact hwf
        · exact A.wo q (by simp [hq])⟩
  refine ⟨t0', g1, g2, ?_⟩
  rw [g3, e1]
  simp

/-- The way down: its nodes, and at which children it goes on. -/
structure Trail (H : Store α) (n0 : Nat) (Q : List Nat) (I : List Nat) : Prop where
  root : Q[0]? = some n0
  nxt : ∀ j a b, Q[j]? = some a → Q[j + 1]? = some b → ∃ r ks i, H a = some r ∧ r.kids = some ks ∧ I[j]? = some i ∧ ks[i]? = some b
theorem Trail.start (H : Store α) (n0 : Nat) : Trail H n0 ([] ++ [n0]) [] := ⟨rfl, fun j a b _ hb => by simp at hb⟩
theorem Trail.snoc {n0 n c i : Nat} {I : List Nat} {r : NRec α} {ks : List Nat} (h : Trail H n0 (P ++ [n]) I) (hl : I.length = P.length) (hr : H n = some r) (hk : r.kids = some ks) (hi : ks[i]? = some c) : Trail H n0 (P ++ [n] ++ [c]) (I ++ [i]) := by
  refine ⟨?_, fun j a b ha hb => ?_⟩
  · rw [List.getElem?_append_left (by simp)]; exact h.root
  · by_cases hj : j < P.length
    · rw [List.getElem?_append_left (by simp; omega)] at ha
      rw [List.getElem?_append_left (by simp; omega)] at hb
      obtain ⟨r', ks', i', g1, g2, g3, g4⟩ := h.nxt j a b ha hb
      exact ⟨r', ks', i', g1, g2, by rw [List.getElem?_append_left (by omega)]; exact g3, g4⟩
    · have hj2 : j = P.length := by
        obtain ⟨hlt, _⟩ := List.getElem?_eq_some_iff.1 hb
        simp at hlt
        omega
      subst hj2
      rw [List.getElem?_append_left (by simp)] at ha
      simp at ha hb
      subst ha
      subst hb
      exact ⟨r, ks, i, hr, hk, by rw [← hl]; simp, hi⟩

theorem wl_len_snoc (K : List (List α)) (I : List α) (k : List α) (x : α) (h : K.length = I.length) : wl (K ++ [k]) (I ++ [x]) = wl K I ++ k ++ [x] := by
  induction K generalizing I with
  | nil => cases I with
    | nil => simp [wl]
    | cons _ _ => simp at h
  | cons a K ih => cases I with
    | nil => simp at h
    | cons y I =>
      simp only [List.cons_append, wl]
      rw [ih I (by simpa using h)]
      simp

/-- How many items there are ahead of child i. -/
def aheadN (h : Nat) (t : Tr α) (i : Nat) : Nat := (wl ((t.ks.take i).map (flat h)) (t.its.take i)).length
theorem aheadN_zero (h : Nat) (t : Tr α) : aheadN h t 0 = 0 := by simp [aheadN, wl]
theorem ahead_succ {h : Nat} {t k : Tr α} {i : Nat} (hk : t.ks.length = t.its.length + 1) (hi : i < t.its.length) (hc : t.ks[i]? = some k) : aheadN h t (i + 1) = aheadN h t i + (flat h k).length + 1 := by
  unfold aheadN
  have hx : t.its[i]? = some t.its[i] := List.getElem?_eq_getElem hi
  rw [List.take_add_one, List.take_add_one, hc, hx, Option.toList_some, Option.toList_some, List.map_append, List.map_cons, List.map_nil, wl_len_snoc _ _ _ _ (by simp; omega)]
  simp only [List.length_append, List.length_cons, List.length_nil]
theorem ahead_flat {h : Nat} {t k : Tr α} {i : Nat} (hk : t.ks.length = t.its.length + 1) (hc : t.ks[i]? = some k) : flat (h + 1) t = wl ((t.ks.take i).map (flat h)) (t.its.take i) ++ flat h k ++ wr (t.its.drop i) ((t.ks.drop (i + 1)).map (flat h)) := by
  obtain ⟨its, ks⟩ := t
  simp only [Tr.its, Tr.ks] at *
  obtain ⟨hil, _⟩ := List.getElem?_eq_some_iff.1 hc
  obtain ⟨K1, k0, K2, rfl, hK1, hk0⟩ := split_at ks i hil
  rw [hc] at hk0
  cases hk0
  subst hK1
  have e0 : its.take K1.length ++ its.drop K1.length = its := List.take_append_drop _ _
  have t1 : (K1 ++ k :: K2).take K1.length = K1 := by simp
  have t2 : (K1 ++ k :: K2).drop (K1.length + 1) = K2 := by simp
  rw [t1, t2]
  have := wl_wr (K1.map (flat h)) (its.take K1.length) (flat h k) (its.drop K1.length) (K2.map (flat h)) (by simp at hk ⊢; omega)
  simp only [flat, Tr.its, Tr.ks, List.map_append, List.map_cons]
  rw [← this, e0]
theorem ahead_item {h : Nat} {t k : Tr α} {x : α} {i : Nat} (hk : t.ks.length = t.its.length + 1) (hc : t.ks[i]? = some k) (hx : t.its[i]? = some x) : (flat (h + 1) t)[aheadN h t i + (flat h k).length]? = some x := by
  obtain ⟨hxl, hxe⟩ := List.getElem?_eq_some_iff.1 hx
  have e := List.drop_eq_getElem_cons hxl
  rw [hxe] at e
  have e2 : t.ks.drop (i + 1) = t.ks[i + 1] :: t.ks.drop (i + 1 + 1) := List.drop_eq_getElem_cons (by omega)
  rw [ahead_flat hk hc, e, e2]
  simp only [List.map_cons, wr, List.cons_append]
  rw [List.getElem?_append_right (by simp [aheadN])]
  simp [aheadN]
theorem ahead_last {h : Nat} {t k : Tr α} (hk : t.ks.length = t.its.length + 1) (hc : t.ks[t.its.length]? = some k) : (flat (h + 1) t).length = aheadN h t t.its.length + (flat h k).length := by
  rw [ahead_flat hk hc, List.drop_length, List.drop_eq_nil_of_le (by omega)]
  simp [wr, aheadN]

/-- A tree is no higher than its items. -/
theorem tall {mn mx : Nat} (hm : 1 ≤ mn) : ∀ {h l : Nat} {t : Tr α}, wfr l mn mx h t → 1 ≤ l → h + 1 ≤ (flat h t).length
  | 0, l, t, hw, hl => by
    have := hw.1
    simp only [flat]
    omega
  | h + 1, l, t, hw, hl => by
    obtain ⟨its, ks⟩ := t
    obtain ⟨w1, w2, w3, w4⟩ := hw
    simp only [Tr.its, Tr.ks] at w1 w2 w3 w4
    cases ks with
    | nil => simp at w3
    | cons k ks =>
      have h1 := tall hm (w4 k (by simp)) hm
      simp only [flat, Tr.its, Tr.ks, List.map_cons, weave, List.length_append]
      rw [wr_len its (ks.map (flat h)) (by simpa using w3)]
      omega

theorem RepL.inside {R : Nat → Tr α → List Nat → Prop} : ∀ {ns : List Nat} {ts : List (Tr α)} {F : List Nat}, RepL R ns ts F → ∀ m, m ∈ F → ∃ n t G, t ∈ ts ∧ R n t G ∧ m ∈ G
  | [], [], _, h, m, hm => by obtain rfl : _ = [] := h; cases hm
  | n :: ns, t :: ts, F, h, m, hm => by
    obtain ⟨F1, F2, h1, h2, rfl⟩ := h
    rcases List.mem_append.1 hm with hm | hm
    · exact ⟨n, t, F1, by simp, h1, hm⟩
    · obtain ⟨n', t', G, g1, g2, g3⟩ := RepL.inside h2 m hm
      exact ⟨n', t', G, by simp [g1], g2, g3⟩
  | [], _ :: _, _, h, _, _ => h.elim
  | _ :: _, [], _, h, _, _ => h.elim
/-- A node's count is at most that of the whole. -/
theorem Rep.cnt_le {H : Store α} {c : Int} {mn mx : Nat} : ∀ {h n l : Nat} {t : Tr α} {F : List Nat}, Rep H c h n t F → wfr l mn mx h t → ∀ m, m ∈ F → ∀ r, H m = some r → 0 ≤ r.cnt ∧ r.cnt ≤ ((flat h t).length : Int)
  | 0, n, l, t, F, hr, _, m, hm, r, hmr => by
    obtain ⟨q, h1, _, _, _, _, h6, rfl⟩ := hr
    obtain rfl : m = n := by simpa using hm
    rw [h1] at hmr
    cases hmr
    omega
  | h + 1, n, l, t, F, hr, hw, m, hm, r, hmr => by
    obtain ⟨q, ns, F', h1, _, _, _, h5, h6, rfl⟩ := hr
    rcases List.mem_cons.1 hm with rfl | hm
    · rw [h1] at hmr
      cases hmr
      omega
    · obtain ⟨n', k, G, g1, g2, g3⟩ := h6.inside m hm
      have h7 := Rep.cnt_le g2 (hw.2.2.2 k g1) m g3 r hmr
      obtain ⟨i, hi, rfl⟩ := List.getElem_of_mem g1
      have h8 := congrArg List.length (ahead_flat (h := h) hw.2.2.1 (List.getElem?_eq_getElem hi))
      simp only [List.length_append] at h8
      omega

/-- A change of cells of a tree's nodes that leaves them as they were, ahead of a step. -/
theorem TStep.pre2 {T : Ty} {E : Enc α} {X : Nat → Nat → Prop} {w W w' : World} {H H' : Store α} {L L' : Nat → Lay} {F F' : List Nat} (h : TStep T E X W H L F w' H' L' F') (hk : Keep (FP T H L F) w W) : TStep T E X w H L F w' H' L' F' :=
  ⟨h.mem, (hk.mono fun _ _ _ h => .inl h).trans h.keep fun _ _ _ h => h, h.out, fun m hm => (h.new m hm).imp id fun h1 => Nat.le_trans hk.size h1, fun b o hb hf => h.fp b o (Nat.lt_of_lt_of_le hb hk.size) hf, h.only⟩
end Go.Wb

namespace Go.Wb
open Go Go.RowKit
variable {α : Type}

/-- A node's record, its count one more. -/
def NRec.more (r : NRec α) : NRec α := { r with cnt := r.cnt + 1 }
/-- The counts of the nodes P are one more. -/
def incs (H : Store α) (P : List Nat) : Store α := fun m => if m ∈ P then (H m).map NRec.more else H m

variable {H : Store α} {P : List Nat}
theorem incs_nil : incs H [] = H := by funext m; simp [incs]
theorem incs_out {m : Nat} (h : m ∉ P) : incs H P m = H m := by simp [incs, h]
theorem incs_in {m : Nat} {r : NRec α} (h : m ∈ P) (hr : H m = some r) : incs H P m = some r.more := by simp [incs, h, hr]
theorem incs_snoc {n : Nat} {r : NRec α} (hr : H n = some r) : upd (incs H P) n (some r.more) = incs H (P ++ [n]) := by
  funext m
  by_cases e : m = n
  · subst e
    rw [upd_same, incs_in (by simp) hr]
  · rw [upd_ne _ _ e]
    simp [incs, e]
theorem incs_drop (nd : P.Nodup) {j n : Nat} {r : NRec α} (hj : P[j]? = some n) (hr : H n = some r) : upd (incs H (P.drop j)) n (some r) = incs H (P.drop (j + 1)) := by
  obtain ⟨hl, rfl⟩ := List.getElem?_eq_some_iff.1 hj
  have e : P.drop j = P[j] :: P.drop (j + 1) := List.drop_eq_getElem_cons hl
  have nd2 : (P.drop j).Nodup := List.Pairwise.sublist (List.drop_sublist _ _) nd
  rw [e] at nd2
  have h1 := (List.nodup_cons.1 nd2).1
  have key : ∀ m, m ≠ P[j] → (m ∈ P.drop j ↔ m ∈ P.drop (j + 1)) := fun m hm => by
    rw [e, List.mem_cons]
    exact ⟨fun h => h.resolve_left hm, .inr⟩
  funext m
  by_cases h : m = P[j]
  · subst h
    rw [upd_same, incs_out h1, hr]
  · rw [upd_ne _ _ h]
    simp only [incs, key m h]
theorem incs_dom {m : Nat} {q : NRec α} (h : incs H P m = some q) : ∃ r, H m = some r ∧ q.items = r.items ∧ q.kids = r.kids ∧ q.iso = r.iso := by
  unfold incs at h
  split at h
  · cases hr : H m with
    | none => rw [hr] at h; cases h
    | some r =>
      rw [hr] at h
      simp only [Option.map_some, Option.some.injEq] at h
      subst h
      exact ⟨r, rfl, rfl, rfl, rfl⟩
  · exact ⟨q, h, rfl, rfl, rfl⟩
theorem incs_some {m : Nat} {r : NRec α} (h : H m = some r) : ∃ q, incs H P m = some q ∧ q.items = r.items ∧ q.kids = r.kids ∧ q.iso = r.iso ∧ (q.cnt = r.cnt ∨ q.cnt = r.cnt + 1) := by
  by_cases hm : m ∈ P
  · exact ⟨_, incs_in hm h, rfl, rfl, rfl, .inr rfl⟩
  · exact ⟨r, (incs_out hm).trans h, rfl, rfl, rfl, .inl rfl⟩

/-- What is around a node of a tree: whatever is put in its place, with one item more, the whole is a tree with one item more. -/
def PlugM (H : Store α) (iso : Int) (mn mx : Nat) (P : List Nat) (h0 n0 l0 : Nat) (F : List Nat) (l h n : Nat) (t : Tr α) (G : List Nat) (C D : List α) : Prop :=
  ∀ (H' : Store α) (t' : Tr α), (∀ m, m ∉ G → H' m = incs H P m) → Rep H' iso h n t' G → (flat h t').length = (flat h t).length + 1 → wfr l mn mx h t' →
    ∃ t0', Rep H' iso h0 n0 t0' F ∧ wfr l0 mn mx h0 t0' ∧ flat h0 t0' = C ++ flat h t' ++ D

theorem PlugM.start (H : Store α) (iso : Int) (mn mx h0 n0 l0 : Nat) (F : List Nat) (t : Tr α) : PlugM H iso mn mx [] h0 n0 l0 F l0 h0 n0 t F [] [] :=
  fun _ t' _ hr _ hw => ⟨t', hr, hw, by simp⟩

theorem PlugM.down {iso : Int} {mn mx h0 n0 l0 l h n i c : Nat} {F G N1 N2 F1 Fk F2 : List Nat} {t k : Tr α} {C D : List α} {r : NRec α} {K1 K2 : List (Tr α)}
    (hp : PlugM H iso mn mx P h0 n0 l0 F l (h + 1) n t G C D) (nd : G.Nodup) (hnP : n ∉ P) (wl_ : l ≤ t.its.length)
    (A : Around (incs H P) iso mn mx h n t G r i k N1 N2 c K1 K2 F1 Fk F2) :
    PlugM H iso mn mx (P ++ [n]) h0 n0 l0 F mn h c k Fk (C ++ wl (K1.map (flat h)) (r.items.take i)) (wr (r.items.drop i) (K2.map (flat h)) ++ D) := by
  intro H' k' hH' hR' hlen hwf
  have hG := A.Fq
  have nd1 := nd
  rw [hG] at nd1
  have hn1 := (List.nodup_cons.1 nd1).1
  have nd2 := (List.nodup_cons.1 nd1).2
  obtain ⟨nd3, nd4, nd5⟩ := List.nodup_append.1 nd2
  obtain ⟨nd6, nd7, nd8⟩ := List.nodup_append.1 nd3
  simp only [List.mem_append, not_or] at hn1
  obtain ⟨⟨hn1, hnk⟩, hn2⟩ := hn1
  have hrec : H n = some r := by have := A.rec_; rwa [incs_out hnP] at this
  have o1 : ∀ m, m ∈ F1 → H' m = incs H P m := fun m hm => by
    have e : m ≠ n := fun e => hn1 (e ▸ hm)
    rw [hH' m fun hk => nd8 m hm m hk rfl]
    simp [incs, e]
  have o2 : ∀ m, m ∈ F2 → H' m = incs H P m := fun m hm => by
    have e : m ≠ n := fun e => hn2 (e ▸ hm)
    rw [hH' m fun hk => nd5 m (List.mem_append.2 (.inr hk)) m hm rfl]
    simp [incs, e]
  have r1 : RepL (Rep H' iso h) N1 K1 F1 := A.r1.imp fun a t G hG (hR : Rep _ iso h a t G) => hR.congr fun m hm => o1 m (hG m hm)
  have r2 : RepL (Rep H' iso h) N2 K2 F2 := A.r2.imp fun a t G hG (hR : Rep _ iso h a t G) => hR.congr fun m hm => o2 m (hG m hm)
  have lr := A.lr
  have e0 : r.items.take i ++ r.items.drop i = r.items := List.take_append_drop _ _
  have e1 : ∀ x : Tr α, flat (h + 1) (.node r.items (K1 ++ x :: K2)) = wl (K1.map (flat h)) (r.items.take i) ++ flat h x ++ wr (r.items.drop i) (K2.map (flat h)) := fun x => by
    have := wl_wr (K1.map (flat h)) (r.items.take i) (flat h x) (r.items.drop i) (K2.map (flat h)) (by simp [A.lk]; omega)
    simp only [flat, Tr.its, Tr.ks, List.map_append, List.map_cons]
    rw [← this, e0]
  have htq := A.tq
  have hlen2 : (flat (h + 1) (.node r.items (K1 ++ k' :: K2))).length = (flat (h + 1) t).length + 1 := by
    rw [htq, e1, e1]
    simp only [List.length_append]
    omega
  have hitl : t.its.length = r.items.length := by rw [htq]; rfl
  obtain ⟨t0', g1, g2, g3⟩ := hp H' (.node r.items (K1 ++ k' :: K2)) (fun m hm => by
      rw [hG] at hm
      simp only [List.mem_cons, List.mem_append, not_or] at hm
      rw [hH' m hm.2.1.2]
      simp [incs, hm.1]) ⟨r.more, N1 ++ c :: N2, F1 ++ (Fk ++ F2), by rw [hH' n hnk]; exact incs_in (by simp) hrec, A.isoq, rfl, A.kids, by
        have := A.cnt
        show r.cnt + 1 = _
        omega, RepL.join (by obtain h3 : RepL (Rep H' iso h) ([c] ++ N2) ([k'] ++ K2) (Fk ++ F2) := RepL.join r2 (RepL.one hR'); exact h3) r1, by rw [hG]; simp⟩ hlen2 ⟨by rw [hitl] at wl_; exact wl_, A.le, by simp only [Tr.ks, Tr.its, List.length_append, List.length_cons, A.lk]; omega, fun q hq => by
        simp only [Tr.ks, List.mem_append, List.mem_cons] at hq
        rcases hq with hq | rfl | hq
        · exact A.wo q (by simp [hq])
        · exact hwf
        · exact A.wo q (by simp [hq])⟩
  refine ⟨t0', g1, g2, ?_⟩
  rw [g3, e1]
  simp

/-- No node has more than mx + 1 children. -/
theorem Rep.kids_le {H : Store α} {c : Int} {mn mx : Nat} : ∀ {h n l : Nat} {t : Tr α} {F : List Nat}, Rep H c h n t F → wfr l mn mx h t → ∀ m, m ∈ F → ∀ r ks, H m = some r → r.kids = some ks → ks.length ≤ mx + 1
  | 0, n, l, t, F, hr, _, m, hm, r, ks, hmr, hk => by
    obtain ⟨q, h1, _, _, _, h5, h6, rfl⟩ := hr
    obtain rfl : m = n := by simpa using hm
    rw [h1] at hmr
    cases hmr
    rw [h5] at hk
    cases hk
  | h + 1, n, l, t, F, hr, hw, m, hm, r, ks, hmr, hk => by
    obtain ⟨q, ns, F', h1, _, _, h4, h5, h6, rfl⟩ := hr
    rcases List.mem_cons.1 hm with rfl | hm
    · rw [h1] at hmr
      cases hmr
      rw [h4] at hk
      cases hk
      rw [h6.len, hw.2.2.1]
      have := hw.2.1
      omega
    · obtain ⟨n', k, G, g1, g2, g3⟩ := h6.inside m hm
      exact Rep.kids_le g2 (hw.2.2.2 k g1) m g3 r ks hmr hk

/-- The way down along the last children. -/
structure Spine (H : Store α) (n0 : Nat) (Q : List Nat) : Prop where
  root : Q[0]? = some n0
  nxt : ∀ j a b, Q[j]? = some a → Q[j + 1]? = some b → ∃ r ks, H a = some r ∧ r.kids = some ks ∧ ks[ks.length - 1]? = some b
theorem Spine.start (H : Store α) (n0 : Nat) : Spine H n0 ([] ++ [n0]) := ⟨rfl, fun j a b _ hb => by simp at hb⟩
theorem Spine.snoc {n0 n c : Nat} {r : NRec α} {ks : List Nat} (h : Spine H n0 (P ++ [n])) (hr : H n = some r) (hk : r.kids = some ks) (hi : ks[ks.length - 1]? = some c) : Spine H n0 (P ++ [n] ++ [c]) := by
  refine ⟨?_, fun j a b ha hb => ?_⟩
  · rw [List.getElem?_append_left (by simp)]; exact h.root
  · by_cases hj : j < P.length
    · rw [List.getElem?_append_left (by simp; omega)] at ha
      rw [List.getElem?_append_left (by simp; omega)] at hb
      exact h.nxt j a b ha hb
    · have hj2 : j = P.length := by
        obtain ⟨hlt, _⟩ := List.getElem?_eq_some_iff.1 hb
        simp at hlt
        omega
      subst hj2
      rw [List.getElem?_append_left (by simp)] at ha
      simp at ha hb
      subst ha
      subst hb
      exact ⟨r, ks, hr, hk, hi⟩
end Go.Wb

namespace Go.Proofs.Ytckplcmieelmpaa.W
open Go.RowKit Go.Wb

/-- The way down along the last children has come to node n; its count and those below it are as they were, those above it one more. -/
structure Lod (w wr : World) (iso : Int) (H : Store It) (L : Nat → Lay) (F : List Nat) (mn mx h0 n0 : Nat) (t0 : Tr It) (P : List Nat) (h n l : Nat) (t : Tr It) (G : List Nat) (C : List It) : Prop where
  keep : Keep (FP TT H L F) w wr
  mem : Mem TT E wr (incs H P) L
  rep : Rep (incs H P) iso h n t G
  wf : wfr l mn mx h t
  nd : G.Nodup
  ndP : P.Nodup
  out : ∀ m, m ∈ P → m ∉ G
  dom : ∀ m, m ∈ P ++ G → m ∈ F
  plug : PlugM H iso mn mx P h0 n0 1 F l h n t G C []
  fl : flat h0 t0 = C ++ flat h t
  spine : Spine H n0 (P ++ [n])
  hp : h + P.length = h0
  lc : 1 ≤ l

variable {w wr : World} {iso : Int} {H : Store It} {L : Nat → Lay} {F : List Nat} {mn mx h0 n0 : Nat} {t0 : Tr It} {P : List Nat} {h n l : Nat} {t : Tr It} {G : List Nat} {C : List It}

theorem Lod.start (hk : Keep Nothing w wr) (hm : Mem TT E w H L) (hr : Rep H iso h0 n0 t0 F) (wf : wfr 1 mn mx h0 t0) (nd : F.Nodup) :
    Lod w wr iso H L F mn mx h0 n0 t0 [] h0 n0 1 t0 F [] :=
  ⟨hk.mono fun _ _ _ h => h.elim, by rw [incs_nil]; exact hm.keepS hk fun _ _ _ _ _ _ h => h, by rw [incs_nil]; exact hr, wf, nd, by simp, fun m hm => by (cases hm), fun m hm => by simpa using hm, PlugM.start _ _ _ _ _ _ _ _ _, by simp, Spine.start _ _, by simp, Nat.le_refl _⟩

/-- The node that the way has come to. -/
theorem Lod.here (d : Lod w wr iso H L F mn mx h0 n0 t0 P h n l t G C) : n ∉ P ∧ n ∈ G ∧ n ∈ F ∧ ∃ r, H n = some r ∧ incs H P n = some r ∧ r.iso = iso ∧ r.items = t.its ∧ r.cnt = ((flat h t).length : Int) ∧ NodeAt TT E wr n r (L n) := by
  obtain ⟨hG, r, h1, h2, h3, h4⟩ := d.rep.root
  have hnP : n ∉ P := fun hp => d.out n hp hG
  exact ⟨hnP, hG, d.dom n (by simp [hG]), r, by rwa [incs_out hnP] at h1, h1, h2, h3, h4, d.mem.at_ n r h1⟩

theorem upd_id (L : Nat → Lay) (n : Nat) : upd L n (L n) = L := by funext m; unfold upd; split <;> simp_all
/-- Its count is one more. -/
theorem Lod.more (d : Lod w wr iso H L F mn mx h0 n0 t0 P h n l t G C) {r : NRec It} (hr : H n = some r) {w' : World} (hk : Keep (fun b o => b = n ∧ o = 1) wr w') (hn : NodeAt TT E w' n r.more (L n)) :
    Keep (FP TT H L F) w w' ∧ Mem TT E w' (incs H (P ++ [n])) L := by
  obtain ⟨hnP, hG, hF, r', h1, h2, h3, h4, h5, h6⟩ := d.here
  rw [hr] at h1
  cases h1
  have st := Step.one d.mem h2 (hk.mono fun b o _ ⟨e, _⟩ => .inl e) hn fun b o _ hf => hf
  refine ⟨d.keep.trans hk fun b o _ ⟨e, _⟩ => ⟨n, r, hF, hr, .inl e⟩, ?_⟩
  have := st.mem
  rw [incs_snoc hr, upd_id] at this
  exact this

/-- It goes on at the last child. -/
theorem Lod.go (d : Lod w wr iso H L F mn mx h0 n0 t0 P (h + 1) n l t G C) {w' : World} (hw : Keep (FP TT H L F) w w' ∧ Mem TT E w' (incs H (P ++ [n])) L) {r : NRec It} (hr : H n = some r) {c : Nat} {ks : List Nat} (hks : r.kids = some ks) (hc : ks[ks.length - 1]? = some c) (hmn : 1 ≤ mn) :
    ∃ k G' C', Lod w w' iso H L F mn mx h0 n0 t0 (P ++ [n]) h c mn k G' C' := by
  obtain ⟨hnP, hnG, hF, r', h1, h2, h3, h4, h5, h6⟩ := d.here
  rw [hr] at h1
  cases h1
  have hkl := d.wf.2.2.1
  obtain ⟨i, hi⟩ : ∃ i, i = t.its.length := ⟨_, rfl⟩
  have hil : i < t.ks.length := by omega
  obtain ⟨k, hk⟩ : ∃ k, t.ks[i]? = some k := ⟨_, List.getElem?_eq_getElem hil⟩
  obtain ⟨q, N1, N2, c', K1, K2, F1, Fk, F2, A⟩ := around_of d.rep d.wf hk
  have hq : q = r := by have := A.rec_; rw [h2] at this; exact (Option.some.inj this).symm
  subst hq
  have hkk := A.kids
  rw [hks] at hkk
  obtain rfl : ks = N1 ++ c' :: N2 := Option.some.inj hkk
  have hK2 : K2 = [] := List.eq_nil_of_length_eq_zero (by have := A.lr; rw [h4] at this; omega)
  have hN2 : N2 = [] := List.eq_nil_of_length_eq_zero (by rw [A.ln2, hK2]; rfl)
  have hcc : c' = c := by
    rw [hN2] at hc
    simpa using hc
  subst hcc
  have hG := A.Fq
  have nd1 := d.nd
  rw [hG] at nd1
  have hn1 := (List.nodup_cons.1 nd1).1
  have nd2 := (List.nodup_cons.1 nd1).2
  have sub : ∀ m, m ∈ Fk → m ∈ G := fun m hm => by rw [hG]; simp [hm]
  have hnk : n ∉ Fk := fun hm => hn1 (by simp [hm])
  have hl0 : l ≤ t.its.length := d.wf.own_le.1
  have hfl := ahead_flat (h := h) hkl hk
  have hwr : Wb.wr (q.items.drop i) (K2.map (flat h)) = [] := by rw [hK2, h4, hi, List.drop_length]; rfl
  have pl := d.plug.down d.nd hnP hl0 A
  rw [hwr, List.nil_append] at pl
  refine ⟨k, Fk, _, hw.1, hw.2, A.rk.congr fun m hm => ?_, A.wk, (List.nodup_append.1 (List.nodup_append.1 nd2).1).2.1, List.nodup_append.2 ⟨d.ndP, by simp, fun a ha b hb e => by simp at hb; subst hb; subst e; exact hnP ha⟩, fun m hm => ?_, fun m hm => ?_, pl, ?_, d.spine.snoc hr hks hc, by have := d.hp; simp; omega, hmn⟩
  · have e : m ≠ n := fun e => hnk (e ▸ hm)
    simp [incs, e]
  · rcases List.mem_append.1 hm with hm | hm
    · exact fun hk => d.out m hm (sub m hk)
    · simp at hm
      subst hm
      exact hnk
  · rcases List.mem_append.1 hm with hm | hm
    · rcases List.mem_append.1 hm with hm | hm
      · exact d.dom m (by simp [hm])
      · simp at hm
        subst hm
        exact hF
    · exact d.dom m (by simp [sub m hm])
  · have htq := A.tq
    have t1 : (K1 ++ k :: K2).take i = K1 := by rw [← A.lk]; simp
    have ht : t.its.take i = q.items.take i := by rw [h4]
    have e2 : Wb.wr (t.its.drop i) ((t.ks.drop (i + 1)).map (flat h)) = [] := by
      rw [hi, List.drop_length, List.drop_eq_nil_of_le (by omega)]; rfl
    rw [d.fl, hfl, e2, ht, List.append_nil]
    rw [htq]
    simp only [Tr.ks, t1, List.append_assoc]

/-- What the nodes take was there at the begin. -/
theorem incs_old (hm : Mem TT E w H L) {Q : List Nat} {m : Nat} {q : NRec It} (hq : incs H Q m = some q) {c o : Nat} (hf : fp TT m q (L m) c o) : c < w.heap.size := by
  obtain ⟨r, h1, _, h2, _⟩ := incs_dom hq
  refine (hm.at_ m r h1).lt (o := o) ?_
  rcases hf with h | h | ⟨h3, h4⟩
  · exact .inl h
  · exact .inr (.inl h)
  · exact .inr (.inr ⟨by rw [← h2]; exact h3, h4⟩)
theorem lod_keep (hm : Mem TT E w H L) {W W' : World} {Q : List Nat} (hw : Keep (FP TT H L F) w W ∧ Mem TT E W (incs H Q) L) {S : Nat → Nat → Prop} (hk : Keep S W W') (hS : ∀ c o, S c o → w.heap.size ≤ c) : Keep (FP TT H L F) w W' ∧ Mem TT E W' (incs H Q) L :=
  ⟨hw.1.trans hk fun c o hc hs => by have := hS c o hs; omega, hw.2.keepS hk fun m q c o hq hf hs => by have := incs_old hm hq hf; have := hS c o hs; omega⟩
theorem Lod.calm (d : Lod w wr iso H L F mn mx h0 n0 t0 P h n l t G C) (hm : Mem TT E w H L) {W' : World} {S : Nat → Nat → Prop} (hk : Keep S wr W') (hS : ∀ c o, S c o → w.heap.size ≤ c) : Lod w W' iso H L F mn mx h0 n0 t0 P h n l t G C := by
  obtain ⟨g1, g2⟩ := lod_keep hm ⟨d.keep, d.mem⟩ hk hS
  exact ⟨g1, g2, d.rep, d.wf, d.nd, d.ndP, d.out, d.dom, d.plug, d.fl, d.spine, d.hp, d.lc⟩
theorem lod_hdr {b : Nat} {hr : HRec} {mn mx : Nat} {s : Sh} (T : TreeAt w b hr H L F mn mx s) {W : World} (hk : Keep (FP TT H L F) w W) : Hdr W b hr :=
  blk_keep T.hdr hk fun _ ⟨m, r, _, hr, hf⟩ => hdr_apart T.hdr (T.mem.at_ m r hr) hf

/-- The last child. -/
theorem Lod.kid (d : Lod w wr iso H L F mn mx h0 n0 t0 P (h + 1) n l t G C) {r : NRec It} (hr : H n = some r) {ks : List Nat} (hks : r.kids = some ks) :
    0 < ks.length ∧ ks.length = r.items.length + 1 ∧ ∃ c rc, ks[ks.length - 1]? = some c ∧ c ≠ n ∧ c ∉ P ∧ H c = some rc ∧ rc.iso = iso ∧ NodeAt TT E wr c rc (L c) := by
  obtain ⟨hnP, hnG, hF, r', h1, h2, h3, h4, h5, h6⟩ := d.here
  rw [hr] at h1
  cases h1
  obtain ⟨q, ns, F', e1, _, _, e4, _, hrl, hG⟩ := d.rep
  rw [h2] at e1
  cases e1
  rw [hks] at e4
  cases e4
  have hkl := d.wf.2.2.1
  have hlen : ks.length = t.its.length + 1 := by rw [hrl.len, hkl]
  have hi : ks.length - 1 < ks.length := by omega
  have hc : ks[ks.length - 1]? = some ks[ks.length - 1] := List.getElem?_eq_getElem hi
  have hkl2 : ks.length - 1 < t.ks.length := by rw [← hrl.len]; exact hi
  have hk : t.ks[ks.length - 1]? = some t.ks[ks.length - 1] := List.getElem?_eq_getElem hkl2
  obtain ⟨G', hR⟩ := hrl.get hc hk
  obtain ⟨_, rc, g1, g2, _, g3⟩ := hR.root
  have hcG : ks[ks.length - 1] ∈ F' := by
    obtain ⟨t', G2, q1, q2⟩ := hrl.mem ks[ks.length - 1] (List.getElem_mem hi)
    exact q2 _ q1.root.1
  have nd := d.nd
  rw [hG] at nd
  have hcn : ks[ks.length - 1] ≠ n := fun e => (List.nodup_cons.1 nd).1 (e ▸ hcG)
  have hcP : ks[ks.length - 1] ∉ P := fun hp => d.out _ hp (by rw [hG]; simp [hcG])
  exact ⟨by omega, by rw [hlen, h4], ks[ks.length - 1], rc, hc, hcn, hcP, by rwa [incs_out hcP] at g1, g2, d.mem.at_ _ rc g1⟩
end Go.Proofs.Ytckplcmieelmpaa.W

namespace Go.Proofs.Ytckplcmieelmpaa.W
open Go.RowKit Go.Wb

variable {w wr : World} {H : Store It} {L : Nat → Lay} {F : List Nat} {mn mx h0 n0 : Nat} {t0 : Tr It} {P : List Nat} {n l : Nat} {t : Tr It} {G : List Nat} {C : List It}

/-- THE LEAF: an item is appended to it. -/
theorem Lod.leaf {b : Nat} {hr : HRec} (T : TreeAt w b hr H L F mn mx (some (h0, t0))) (hroot : hr.root = some n0) (d : Lod w wr hr.iso H L F mn mx h0 n0 t0 P 0 n l t G C) {r : NRec It} (hr1 : H n = some r) (hmx : r.items.length < mx) {x y : It} (hy : r.items[r.items.length - 1]? = some y) (hyx : ilt y x = true)
    {W5 W8 W : World} (way : Keep (FP TT H L F) w W5 ∧ Mem TT E W5 (incs H (P ++ [n])) L) {l' : Lay} (tn : NTurn TT E W5 n r.more (L n) W8 { r.more with items := r.items ++ [x] } l') (hkW : Keep (fun c _ => c = b) W8 W) (hh : Hdr W b { hr with cnt := hr.cnt + 1 }) :
    SetT w b hr H L F mn mx (some (h0, t0)) x (.returned (.tuple #[vv hr.emp, .bool false])) W := by
  obtain ⟨hnP, hnG, hF, r', h1, h2, h3, h4, h5, h6⟩ := d.here
  rw [hr1] at h1
  cases h1
  have hft : flat 0 t = r.items := by rw [h4]; rfl
  obtain ⟨q, e1, _, e3, e4, e5, _, hG⟩ := d.rep
  rw [h2] at e1
  cases e1
  have hin : incs H (P ++ [n]) n = some r.more := incs_in (by simp) hr1
  have st := Step.one way.2 hin tn.keep tn.at_ tn.fp
  generalize hr8 : ({ r.more with items := r.items ++ [x] } : NRec It) = r8 at *
  generalize hH' : upd (incs H (P ++ [n])) n (some r8) = H' at *
  generalize hL' : upd L n l' = L' at *
  have hdr8 : Hdr W8 b hr := blk_keep (lod_hdr T way.1) tn.keep fun o hf => hdr_apart T.hdr (T.mem.at_ n r hr1) hf
  have hlw := T.mem.lt hr1
  have hmem : Mem TT E W H' L' := st.mem.keepS hkW fun m q c o hq hf e => hdr_apart hdr8 (st.mem.at_ m q hq) (e ▸ hf)
  have hkeep : Keep (fun c o => FP TT H L F c o ∨ c = b) w W := ((way.1.mono fun _ _ _ h => .inl h).trans tn.keep fun c o _ hf => .inl ⟨n, r, hF, hr1, hf⟩).trans hkW fun c o _ e => .inr e
  have gp := d.plug H' (.node (r.items ++ [x]) []) (fun m hm => by
      have e : m ≠ n := fun e => hm (e ▸ hnG)
      rw [← hH', upd_ne _ _ e]
      simp [incs, e]) ⟨r8, by rw [← hH', upd_same], by rw [← hr8]; exact h3, by rw [← hr8]; rfl, rfl, by rw [← hr8]; exact e5, by
        have h5' := h5
        rw [hft] at h5'
        rw [← hr8]
        show r.cnt + 1 = (((r.items ++ [x]).length : Nat) : Int)
        simp
        omega, hG⟩ (by rw [hft]; simp [flat, Tr.its]) ⟨by
          have := d.wf.own_le.1
          rw [← h4] at this
          simp only [Tr.its, List.length_append, List.length_singleton]
          omega, by simp only [Tr.its, List.length_append, List.length_singleton]; omega, rfl⟩
  obtain ⟨t0', g1, g2, g3⟩ := gp
  have gf : flat h0 t0' = flat h0 t0 ++ [x] := by
    rw [g3, d.fl, hft]
    simp [flat, Tr.its]
  have below : ∀ a, a ∈ flat h0 t0 → ilt a x = true := by
    intro a ha
    have srt : Sorted ilt (flat h0 t0) := T.srt
    have hsp : r.items = r.items.take (r.items.length - 1) ++ [y] := by
      obtain ⟨hl1, hl2⟩ := List.getElem?_eq_some_iff.1 hy
      have := List.take_append_drop (r.items.length - 1) r.items
      rw [List.drop_eq_getElem_cons hl1, hl2, List.drop_eq_nil_of_le (by omega)] at this
      exact this.symm
    have e : flat h0 t0 = (C ++ r.items.take (r.items.length - 1)) ++ [y] := by rw [d.fl, hft, List.append_assoc, ← hsp]
    rw [e] at srt ha
    rcases List.mem_append.1 ha with ha | ha
    · have : ilt a y = true := (List.pairwise_append.1 srt).2.2 a ha y (by simp)
      exact kord.tr _ _ _ this hyx
    · simp at ha
      subst ha
      exact hyx
  have put : Put ilt (flat h0 t0) x (flat h0 t0') none := ⟨flat h0 t0, [], by simp, gf, below, by simp⟩
  have gc : hr.cnt = ((flat h0 t0).length : Int) := T.cnt
  have srt' : Sorted ilt (flat h0 t0') := by
    rw [gf]
    exact List.pairwise_append.2 ⟨T.srt, by simp, fun a ha c hc => by simp at hc; subst hc; exact below a ha⟩
  have hPF : ∀ m, m ∈ P ++ [n] → m ∈ F := fun m hm => by
    rcases List.mem_append.1 hm with hm | hm
    · exact d.dom m (by simp [hm])
    · simp at hm
      subst hm
      exact hF
  have ts : TStep TT E (fun c _ => c = b) w H L F W H' L' F := by
    refine ⟨hmem, hkeep, fun m hm r2 hr2 => ?_, fun m hm => .inl hm, fun c o hc ⟨m, q, hm, hq, hf⟩ => ?_, fun m q hq => ?_⟩
    · have e : m ≠ n := fun e => hm (e ▸ hF)
      refine ⟨?_, ?_⟩
      · rw [← hH', upd_ne _ _ e, incs_out fun hp => hm (hPF m hp)]
        exact hr2
      · rw [← hL', upd_ne _ _ e]
    · by_cases e : m = n
      · subst e
        rw [← hH', upd_same] at hq
        cases hq
        rw [← hL', upd_same] at hf
        exact ⟨m, r, hF, hr1, tn.fp c o (Nat.lt_of_lt_of_le hc way.1.size) hf⟩
      · rw [← hH', upd_ne _ _ e] at hq
        rw [← hL', upd_ne _ _ e] at hf
        obtain ⟨r2, q1, _, q2, _⟩ := incs_dom hq
        refine ⟨m, r2, hm, q1, ?_⟩
        unfold fp at hf ⊢
        rwa [q2] at hf
    · by_cases hm : m ∈ F
      · exact .inl hm
      · have e : m ≠ n := fun e => hm (e ▸ hF)
        rw [← hH', upd_ne _ _ e, incs_out fun hp => hm (hPF m hp)] at hq
        exact .inr ⟨hm, hq, by rw [← hL', upd_ne _ _ e]⟩
  have one : hr.mn = (mn : Int) ∧ hr.mx = (mx : Int) := by
    rcases T.par.one with h | ⟨_, h, _⟩
    · exact h
    · rw [hroot] at h; cases h
  exact ⟨_, H', L', F, some (h0, t0'), none, rfl, ts, ⟨hh, hmem, T.nd, ⟨n0, hroot, g1, g2⟩, by
    show hr.cnt + 1 = _
    simp only [its]
    rw [gf]
    simp
    omega, srt', T.par.cv, T.par.icv, .inl one, T.par.odd, T.par.pos, T.par.hb⟩, put, rfl, rfl, rfl, by show hr.root.isSome = true; rw [hroot]; rfl⟩

/-- The way back: the counts of the way's nodes from j on are one more. -/
structure Back (w wr : World) (H : Store It) (L : Nat → Lay) (F : List Nat) (n0 : Nat) (Q : List Nat) (j : Nat) : Prop where
  keep : Keep (FP TT H L F) w wr
  mem : Mem TT E wr (incs H (Q.drop j)) L
  ndQ : Q.Nodup
  dom : ∀ m, m ∈ Q → m ∈ F ∧ ∃ r, H m = some r
  spine : Spine H n0 Q
  last : ∀ a, Q[Q.length - 1]? = some a → ∃ r, H a = some r ∧ r.kids = none
theorem Lod.back {iso : Int} (d : Lod w wr iso H L F mn mx h0 n0 t0 P 0 n l t G C) {W5 : World} (way : Keep (FP TT H L F) w W5 ∧ Mem TT E W5 (incs H (P ++ [n])) L) : Back w W5 H L F n0 (P ++ [n]) 0 := by
  obtain ⟨hnP, hnG, hF, r, h1, h2, h3, h4, h5, h6⟩ := d.here
  have hk0 : r.kids = none := by
    obtain ⟨q, e1, _, _, _, e5, _⟩ := d.rep
    rw [h2] at e1
    cases e1
    exact e5
  refine ⟨way.1, by simpa using way.2, List.nodup_append.2 ⟨d.ndP, by simp, fun a ha b hb e => by simp at hb; subst hb; subst e; exact hnP ha⟩, fun m hm => ?_, d.spine, fun a ha => ?_⟩
  · rcases List.mem_append.1 hm with hm | hm
    · refine ⟨d.dom m (by simp [hm]), ?_⟩
      obtain ⟨j, hjl, rfl⟩ := List.getElem_of_mem hm
      have ha : (P ++ [n])[j]? = some P[j] := by rw [List.getElem?_append_left hjl]; simp
      have hlt : j + 1 < (P ++ [n]).length := by simp; omega
      have hb : (P ++ [n])[j + 1]? = some (P ++ [n])[j + 1] := List.getElem?_eq_getElem hlt
      obtain ⟨r, ks, g1, _⟩ := d.spine.nxt j _ _ ha hb
      exact ⟨r, g1⟩
    · simp at hm
      subst hm
      exact ⟨hF, r, h1⟩
  · simp at ha
    subst ha
    exact ⟨r, h1, hk0⟩
theorem Back.here {Q : List Nat} {j : Nat} (d : Back w wr H L F n0 Q j) {a : Nat} (ha : Q[j]? = some a) : a ∈ F ∧ ∃ r, H a = some r ∧ incs H (Q.drop j) a = some r.more ∧ NodeAt TT E wr a r.more (L a) := by
  obtain ⟨hl, he⟩ := List.getElem?_eq_some_iff.1 ha
  obtain ⟨hF, r, hr⟩ := d.dom a (by rw [← he]; exact List.getElem_mem hl)
  have hi : incs H (Q.drop j) a = some r.more := incs_in (by rw [List.drop_eq_getElem_cons hl, he]; simp) hr
  exact ⟨hF, r, hr, hi, d.mem.at_ a _ hi⟩
theorem Back.step {Q : List Nat} {j : Nat} (d : Back w wr H L F n0 Q j) {a : Nat} (ha : Q[j]? = some a) {r : NRec It} (hr : H a = some r) {w' : World} (hk : Keep (fun b o => b = a ∧ o = 1) wr w') (hn : NodeAt TT E w' a r (L a)) : Back w w' H L F n0 Q (j + 1) := by
  obtain ⟨hF, r', h1, h2, h3⟩ := d.here ha
  rw [hr] at h1
  cases h1
  have st := Step.one d.mem h2 (hk.mono fun b o _ ⟨e, _⟩ => .inl e) hn fun b o _ hf => hf
  refine ⟨d.keep.trans hk fun b o _ ⟨e, _⟩ => ⟨a, r, hF, hr, .inl e⟩, ?_, d.ndQ, d.dom, d.spine, d.last⟩
  have := st.mem
  rw [incs_drop d.ndQ ha hr, upd_id] at this
  exact this
theorem Back.calm {Q : List Nat} {j : Nat} (d : Back w wr H L F n0 Q j) (hm : Mem TT E w H L) {W' : World} {S : Nat → Nat → Prop} (hk : Keep S wr W') (hS : ∀ c o, S c o → w.heap.size ≤ c) : Back w W' H L F n0 Q j := by
  obtain ⟨g1, g2⟩ := lod_keep hm ⟨d.keep, d.mem⟩ hk hS
  exact ⟨g1, g2, d.ndQ, d.dom, d.spine, d.last⟩
theorem Back.done {Q : List Nat} (d : Back w wr H L F n0 Q Q.length) : Keep (FP TT H L F) w wr ∧ Mem TT E wr H L := by
  refine ⟨d.keep, ?_⟩
  have := d.mem
  rwa [List.drop_length, incs_nil] at this
/-- The tree is as it was. -/
theorem tree_back {b : Nat} {hr : HRec} {s : Sh} (T : TreeAt w b hr H L F mn mx s) (hk : Keep (FP TT H L F) w wr ∧ Mem TT E wr H L) : TreeAt wr b hr H L F mn mx s :=
  ⟨lod_hdr T hk.1, hk.2, T.nd, T.root, T.cnt, T.srt, T.par⟩
theorem set_back {b : Nat} {hr : HRec} {s : Sh} {x : It} {e : Ending} {w' : World} (hk : Keep (FP TT H L F) w wr) (h : SetT wr b hr H L F mn mx s x e w') : SetT w b hr H L F mn mx s x e w' := by
  obtain ⟨hr', H', L', F', s', p, h1, h2, h3⟩ := h
  exact ⟨hr', H', L', F', s', p, h1, h2.pre2 hk, h3⟩
end Go.Proofs.Ytckplcmieelmpaa.W

namespace Go.Proofs.Ytckplcmieelmpaa.W
open Go.RowKit Go.Wb

theorem lod_mx {w : World} {b : Nat} {h : HRec} (hh : Hdr w b h) : w.cell? ⟨b, 7, none⟩ = some (.int .i64 h.mx) := (hdr_cells hh).2.2.2.2.2.2.2.1
theorem lod_emp {w : World} {b : Nat} {h : HRec} (hh : Hdr w b h) : w.cell? ⟨b, 4, none⟩ = some (.int .i64 h.emp.2) := (hdr_cells hh).2.2.2.2.1
theorem set_ahead {w w1 : World} {b : Nat} {hr : HRec} {H : Store It} {L : Nat → Lay} {F : List Nat} {mn mx : Nat} {s : Sh} {x : It} {e : Ending} {w' : World} (hk : Keep Nothing w w1) (h : SetT w1 b hr H L F mn mx s x e w') : SetT w b hr H L F mn mx s x e w' := by
  obtain ⟨hr', H', L', F', s', p, h1, h2, h3⟩ := h
  exact ⟨hr', H', L', F', s', p, h1, h2.pre hk, h3⟩
theorem itm2 {w : World} {n : Nat} {a b : Value} {t : TypeId} (h : w.heap[n]? = some (.cells #[a, b] t (0, 0))) :
    w.cell? ⟨n, 0, none⟩ = some a ∧ w.cell? ⟨n, 1, none⟩ = some b ∧ ∀ o, w.frozen? ⟨n, o, none⟩ = false := by
  simp [World.cell?, World.frozen?, h]

set_option maxRecDepth 100000 in
set_option maxHeartbeats 16000000 in
theorem load_any {w : World} {b : Nat} {hr : HRec} {H : Store It} {L : Nat → Lay} {F : List Nat} {mn mx : Nat} {s : Sh} (T : TreeAt w b hr H L F mn mx s) (big : (its s).length ≤ 4000000000000) (x : It) :
    Calls Try.prog 72 #[ptr b, kv (ky x), vv x] w (SetT w b hr H L F mn mx s x) := by
  have HT := Lib.hid T
  have k1 : Keep Nothing w (w.alloc (.cells #[.int .i64 x.2, kv (ky x)] 161)) := Keep.alloc _ _ _
  have K1 := Lib.hid k1
  have hx1 := heap_alloc_new w (.cells #[.int .i64 x.2, kv (ky x)] 161)
  have X1 : Hid ((w.alloc (.cells #[.int .i64 x.2, kv (ky x)] 161)).heap[w.heap.size]? = some (.cells #[.int .i64 x.2, kv (ky x)] 161 (0, 0))) := Lib.hid hx1
  have c2 := hdr_root (T.keep k1).hdr
  cases s with
  | none =>
    have hr0 : hr.root = none := T.root.1
    rw [hr0] at c2
    simp only [rootV, Option.map_none] at c2
    have hset := Lib.hid (set_tree (T.keep k1) (by omega) x)
    obtain ⟨x0, x1, xf⟩ := itm2 hx1
    clear T k1 hx1
    unfold ptr kv vv at *
    go_enter Try.func72, Try.ntmps72
    go_wp2_with fail
    refine hset.out.mono ?_
    rintro e w' h
    have h' := Lib.hid (set_ahead K1.out h)
    obtain ⟨hr', H', L', F', s', p, rfl, _⟩ := h
    unfold vv
    go_wp2_with fail
    go_ret2
    exact h'.out
  | some ht =>
    obtain ⟨h0, t0⟩ := ht
    obtain ⟨n0, hroot, rep, wf⟩ := T.root
    have hone : hr.mx = (mx : Int) := by
      rcases T.par.one with h | ⟨_, h, _⟩
      · exact h.2
      · rw [hroot] at h; cases h
    obtain ⟨_, r0, e0, hi0, _, _⟩ := rep.root
    have hiso := Lib.hid (isoLoad_own (T.keep k1).hdr (by rw [hroot] at c2; exact c2) ((T.keep k1).mem.at_ n0 r0 e0) hi0 true)
    rw [hroot] at c2
    simp only [rootV, Option.map_some] at c2
    have HR := Lib.hid hroot
    have HREP := Lib.hid rep
    have HWF := Lib.hid wf
    have HONE := Lib.hid hone
    have hbw := lt_of_heap T.hdr
    have HBIG := Lib.hid big
    have HCN : Hid (∀ m, m ∈ F → ∀ r, H m = some r → 0 ≤ r.cnt ∧ r.cnt ≤ 4000000000000) := Lib.hid fun m hm r hr => by
      have h1 := rep.cnt_le wf m hm r hr
      have h2 : (flat h0 t0).length ≤ 4000000000000 := big
      omega
    have HKM : Hid (∀ m, m ∈ F → ∀ r, H m = some r → ∀ ks, r.kids = some ks → ks.length ≤ mx + 1) := Lib.hid fun m hm r hr ks hk => rep.kids_le wf m hm r ks hr hk
    clear T rep wf hone e0 hi0 hroot k1 hx1
    generalize hq : w.heap.size = q at *
    have HQ := Lib.hid hq
    unfold ptr at *
    go_enter Try.func72, Try.ntmps72
    unfold kv vv at *
    go_wp2_with fail
    refine hiso.out.mono ?_
    rintro e w2 ⟨rfl, kd, rfl⟩
    clear hiso c2
    have K2 : Hid (Keep Nothing w ((w.alloc (.cells #[.int .i64 x.2, kv (ky x)] 161)).drewN kd)) := Lib.hid (K1.out.drN kd)
    have X2 : Hid (((w.alloc (.cells #[.int .i64 x.2, kv (ky x)] 161)).drewN kd).heap[q]? = some (.cells #[.int .i64 x.2, kv (ky x)] 161 (0, 0))) := Lib.hid X1.out
    unfold kv at *
    clear K1 X1
    generalize (w.alloc (.cells #[.int .i64 x.2, _] 161)).drewN kd = W2 at *
    have D2 := Lib.hid (Lod.start K2.out HT.out.mem HREP.out HWF.out HT.out.nd)
    unfold ptr
    go_upto_block 0 with (fail)
    go_cut [] (fun wx => ∃ Q, Back w wx H L F n0 Q 0 ∧ wx.heap[q]? = some (.cells #[.int .i64 x.2, .string (ky x)] 161 (0, 0)))
    case first =>
      go_wp2_with fail
      go_loopg [9] (h0 + 1) (fun m v9 wr => ∃ (P : List Nat) (h n l : Nat) (t : Tr It) (G : List Nat) (C : List It), v9 = .pointer (some ⟨n, 0, none⟩) ∧ h + 1 = m ∧ Lod w wr hr.iso H L F mn mx h0 n0 t0 P h n l t G C ∧ wr.heap[q]? = some (.cells #[.int .i64 x.2, .string (ky x)] 161 (0, 0)))
      case atStart => exact ⟨[], h0, n0, _, t0, F, [], rfl, rfl, D2.out, X2.out⟩
      case round =>
        obtain ⟨P, h, n, l, t, G, C, rfl, rfl, hD, hX⟩ := hrel
        have HD := Lib.hid hD
        have HX := Lib.hid hX
        clear hD hX D2 K2 X2
        obtain ⟨hnP, hnG, hnF, r, hr1, hr2, hri, hrit, hrc, hat⟩ := HD.out.here
        have hnq : n < q := by have := HQ.out; have := lt_of_heap (HT.out.mem.at_ n r hr1).1; omega
        obtain ⟨d0, c1, d2, d3, fzn⟩ := hat.own
        clear d0 d2 d3
        have hcb := HCN.out n hnF r hr1
        have HR1 := Lib.hid hr1
        have HR2 := Lib.hid hr2
        have HRIT := Lib.hid hrit
        have HAT := Lib.hid hat
        have HNF := Lib.hid hnF
        clear hr1 hr2 hri hrit hrc hat hnP hnG hnF
        go_upto_region 6 with (fail)
        refine wp_world ?_
        intro W3 hW3
        have K3 : Hid (Keep (fun c o => c = n ∧ o = 1) wr W3) := by subst hW3; exact Lib.hid ((Keep.refl _ _).set _ _ _ fun _ => ⟨rfl, rfl⟩)
        have N3 : Hid (NodeAt TT E W3 n r.more (L n)) := by subst hW3; exact Lib.hid (nt_cnt ty_ok HAT.out _).at_
        clear hW3 c1 fzn
        have WAY := Lib.hid (HD.out.more HR1.out K3.out N3.out)
        have X3 : Hid (W3.heap[q]? = some (.cells #[.int .i64 x.2, .string (ky x)] 161 (0, 0))) := Lib.hid (blk_keep HX.out K3.out fun o h => by omega)
        have hlv := Lib.hid (leaf_any N3.out)
        unfold ptr at hlv
        clear HX HAT
        cases h with
        | zero =>
          have hkn : r.kids = none := by
            obtain ⟨q', e1, _, _, _, e5, _⟩ := HD.out.rep
            rw [HR2.out] at e1; cases e1; exact e5
          simp only [NRec.more, hkn, Option.isNone_none] at hlv
          have hl1 : 1 ≤ r.items.length := by rw [HRIT.out]; exact Nat.le_trans HD.out.lc HD.out.wf.own_le.1
          obtain ⟨m, hm⟩ : ∃ m, r.items.length = m + 1 := ⟨r.items.length - 1, by omega⟩
          obtain ⟨y, hy⟩ : ∃ y, r.items[m]? = some y := ⟨_, List.getElem?_eq_getElem (by omega)⟩
          have hlm : r.items.length ≤ mx := by rw [HRIT.out]; exact HD.out.wf.own_le.2
          have hmxb := HT.out.par.hb
          have HB3 := Lib.hid (lod_hdr HT.out WAY.out.1)
          have c7 := lod_mx HB3.out
          rw [HONE.out] at c7
          obtain ⟨d0, d1, c2, d3, fzn⟩ := N3.out.own
          have hrow := N3.out.2.1
          simp only [NRec.more] at c2
          have hrow : Row W3 TT.pair TT.s (L n).ia (L n).icap (E.all r.items) := hrow
          obtain ⟨ib, io, hia, _⟩ := hrow.form (by rw [E.all_len]; exact Nat.mul_pos (by omega) E.pos)
          rw [hia, hm] at c2
          rw [hia] at hrow
          have ck := key_cell hrow hy
          have hicap := N3.out.2.2.1
          simp only [NRec.more] at hicap
          have HIA := Lib.hid hia
          have HM := Lib.hid hm
          have HY := Lib.hid hy
          have HROW := Lib.hid hrow
          have hbn : b ≠ n := fun e => hdr_apart HT.out.hdr (HT.out.mem.at_ n r HR1.out) (o := 0) (by rw [e]; exact .inl rfl)
          have HBACK := Lib.hid (HD.out.back WAY.out)
          clear d0 d1 d3 hkn hy hrow hia
          rw [hm] at hl1 hlm hicap
          obtain ⟨x0, x1, xf⟩ := itm2 X3.out
          unfold kv at ck
          have hq3 : w.heap.size ≤ W3.heap.size := WAY.out.1.size
          rw [HQ.out] at hq3
          by_cases hlx : m + 1 < mx
          · by_cases hky : klt (ky y) (ky x) = true
            · have HKY := Lib.hid hky
              have hby : Op.bytesLess (ky y).toList (ky x).toList = true := hky
              clear hky
              go_wp2_with fail
              refine hlv.out.mono ?_
              rintro e w4 ⟨rfl, rfl⟩
              go_wp2_with fail
              refine wp_calm (by kernel_rfl) (by kernel_rfl) rfl ?_
              simp only [List.flatMap_cons, List.flatMap_nil, checks, chk, nilLit, List.cons_append, List.nil_append, List.append_nil]
              go_wp2_with fail
              rw [HQ_normal]
              go_wp2_with fail
              refine wp_calm (by kernel_rfl) (by kernel_rfl) rfl ?_
              simp only [List.flatMap_cons, List.flatMap_nil, checks, chk, nilLit, List.cons_append, List.nil_append, List.append_nil]
              go_wp2_with fail
              rw [HQ_normal]
              go_upto_region 9 with (fail)
              refine wp_world ?_
              intro W5 hW5
              have k5 : Keep Nothing W3 W5 := by subst hW5; exact ((Keep.refl _ _).dr).dr
              clear hW5 c7 ck hlv c2 fzn
              have HK5 := Lib.hid k5
              have X5 := Lib.hid (blk_keep X3.out k5 fun _ h => h)
              have N5 := Lib.hid (N3.out.keep k5 fun _ _ _ h => h)
              have WAY5 := Lib.hid (lod_keep HT.out.mem WAY.out k5 (fun c o h => h.elim))
              have hsz5 : q ≤ W5.heap.size := Nat.le_trans hq3 k5.size
              have hqw := lt_of_heap X5.out
              obtain ⟨x0, x1, xf⟩ := itm2 (blk_keep X5.out (Keep.drew Nothing W5) fun _ h => h)
              obtain ⟨_, _, c2, _, fzn⟩ := (N5.out.keep (Keep.drew Nothing W5) fun _ _ _ h => h).own
              simp only [NRec.more] at c2
              rw [HIA.out, HM.out] at c2
              clear k5
              refine wp_held (fun w' => w'.cell? ⟨n, 2, none⟩ = some (.slice (some ⟨ib, io, none⟩) (m + 1) (L n).icap)) [4] (by kernel_rfl) (by kernel_rfl) (by kernel_rfl) rfl c2 ?_
              simp only [segs, readsB, silentB, lenB, checks, List.nil_append, Bool.or_true, Bool.or_false, Bool.false_eq_true, reduceIte, Bool.false_and, show (Builtin.append == Builtin.len) = false from rfl]
              go_wp2_with fail
              refine held_world ?_
              intro W6 hW6
              have k6 : Keep Nothing W5 W6 := by subst hW6; exact ((Keep.refl _ _).al _).dr
              have G6 : W6.heap[W5.heap.size]? = some (.cells (E.enc x).toArray 161 (0, 0)) := by subst hW6; exact heap_alloc_new W5 _
              clear hW6 c2 x0 x1 xf fzn
              have N6 := Lib.hid (N5.out.keep k6 fun _ _ _ h => h)
              have row6 : Row W6 TT.pair TT.s (L n).ia (L n).icap (E.all r.items) := N6.out.2.1
              rw [HIA.out] at row6
              have c26 := N6.out.own.2.2.1
              simp only [NRec.more] at c26
              rw [HIA.out, HM.out] at c26
              have hnib : n ≠ ib := fun e => by
                obtain ⟨arr, ha⟩ := row6.block (b := ib) (o := io) ⟨1, ib, io, rfl, rfl, Nat.le_refl _, by omega⟩
                have hn1 := N6.out.1
                rw [e, ha] at hn1
                exact absurd (Obj.cells.inj (Option.some.inj hn1)).2.1 (by decide)
              have HNIB := Lib.hid hnib
              have hrl6 : (E.all r.items).length = (m + 1) * 2 := by rw [E.all_len, HM.out]; rfl
              have K6 := Lib.hid k6
              clear k6 hnib
              refine held_next c26 ?_
              refine wpList_append_any rfl _ _ _ rfl 161 2 24 Try.underlying169 ⟨by kernel_rfl, by kernel_rfl, by kernel_rfl⟩ (some ⟨ib, io, none⟩) (m + 1) (L n).icap (E.all r.items) rfl row6 hrl6 ⟨W5.heap.size, 0, none⟩ 1 1 (E.enc x) ?_ (E.len _) ?_ (E.one _) (by omega) hicap (by simp only [maxLen]; omega) (by omega) ?_
              · rfl
              · exact new_cells G6
              intro a' cap' W7 hG
              have G7 : Hid (Grew W6 W7 TT.pair TT.s (L n).ia a' r.more.items.length 1 (L n).icap cap' (E.all r.more.items ++ E.enc x)) := by
                rw [HIA.out, show r.more.items.length = m + 1 from HM.out]
                exact Lib.hid hG
              have b7 := blk_keep N6.out.1 hG.keep fun o ⟨_, _, e, e1, _⟩ => HNIB.out (by cases e; exact e1)
              obtain ⟨_, _, c27, _, fz7⟩ := blk4 b7
              simp only [NRec.more] at c27
              rw [HIA.out, HM.out] at c27
              clear hG b7 row6 c26
              refine held_next c27 ?_
              simp only [Act.put]
              go_wp2_with fail
              refine held_world ?_
              intro W8 hW8
              refine held_end ?_ ?_
              · exact ⟨⟨.slice (some ⟨ib, io, none⟩) (m + 1) (L n).icap, fun w' hS => by simp [execOp, hS, go_sem]⟩, trivial⟩
              have TN : Hid (NTurn TT E W5 n r.more (L n) W8 { r.more with items := r.more.items ++ [x] } { L n with ia := a', icap := cap' }) := by
                have h1 := nt_append1 ty_ok N5.out K6.out G7.out
                rw [show r.more.items.length = m + 1 from HM.out] at h1
                rw [hW8]
                exact Lib.hid h1
              clear hW8 c27 fz7 N6 N5 G7 K6
              have HB8 : Hid (Hdr W8 b hr) := Lib.hid (blk_keep (lod_hdr HT.out WAY5.out.1) TN.out.keep fun o hf => hdr_apart HT.out.hdr (HT.out.mem.at_ n r HR1.out) (o := o) hf)
              have c3 := hdr_cnt HB8.out
              have c4 := lod_emp HB8.out
              have fz8 := hdr_fz HB8.out
              have hc0 : hr.cnt = ((flat h0 t0).length : Int) := HT.out.cnt
              have hcl : (flat h0 t0).length ≤ 4000000000000 := HBIG.out
              have hc1 : 0 ≤ hr.cnt ∧ hr.cnt ≤ 4000000000000 := by omega
              clear hc0 hcl
              go_wp2_with fail
              go_ret2
              exact HD.out.leaf HT.out HR.out HR1.out (by rw [HM.out]; exact hlx) (by rw [HM.out]; exact HY.out) HKY.out WAY5.out TN.out ((Keep.refl _ _).set _ _ _ fun _ => by rfl) (hdr_set_cnt HB8.out _)
            · have hky' : klt (ky y) (ky x) = false := by simpa using hky
              have hby : Op.bytesLess (ky y).toList (ky x).toList = false := hky'
              clear hky hky'
              go_wp2_with fail
              refine hlv.out.mono ?_
              rintro e w4 ⟨rfl, rfl⟩
              go_wp2_with fail
              refine wp_calm (by kernel_rfl) (by kernel_rfl) rfl ?_
              simp only [List.flatMap_cons, List.flatMap_nil, checks, chk, nilLit, List.cons_append, List.nil_append, List.append_nil]
              go_wp2_with fail
              rw [HQ_normal]
              go_wp2_with fail
              refine wp_calm (by kernel_rfl) (by kernel_rfl) rfl ?_
              simp only [List.flatMap_cons, List.flatMap_nil, checks, chk, nilLit, List.cons_append, List.nil_append, List.append_nil]
              go_wp2_with fail
              rw [HQ_normal]
              go_wp2_with fail
              go_meet
              exact ⟨P ++ [n], HBACK.out.calm HT.out.mem (((Keep.refl Nothing W3).dr).dr) fun c o h => h.elim, X3.out⟩
          · go_wp2_with fail
            refine hlv.out.mono ?_
            rintro e w4 ⟨rfl, rfl⟩
            go_wp2_with fail
            refine wp_calm (by kernel_rfl) (by kernel_rfl) rfl ?_
            simp only [List.flatMap_cons, List.flatMap_nil, checks, chk, nilLit, List.cons_append, List.nil_append, List.append_nil]
            go_wp2_with fail
            rw [HQ_normal]
            go_wp2_with fail
            go_meet
            exact ⟨P ++ [n], HBACK.out.calm HT.out.mem ((Keep.refl Nothing W3).dr) fun c o h => h.elim, X3.out⟩
        | succ h =>
          obtain ⟨q', ks, F', e1, z1, z2, hks, z3, hrl, hGq⟩ := id HD.out.rep
          rw [HR2.out] at e1
          cases e1
          clear z1 z2 z3 hrl hGq
          obtain ⟨hk0, hkl, c, rc, p1, p2, p3, p4, p5, p6⟩ := HD.out.kid HR1.out hks
          have hcn : c ∉ P ++ [n] := by simp; exact ⟨p3, p2⟩
          simp only [NRec.more, hks, Option.isNone_some] at hlv
          obtain ⟨g3, g1, fzn, hrow, z4⟩ := N3.out.kids (show r.more.kids = some ks from hks)
          clear z4
          obtain ⟨kb, ko, hka, z5⟩ := hrow.form (by simp; omega)
          clear z5
          rw [hka] at hrow g1
          obtain ⟨m, hm⟩ : ∃ m, ks.length = m + 1 := ⟨ks.length - 1, by omega⟩
          rw [hm, Nat.add_sub_cancel] at p1
          have ck : W3.cell? ⟨kb, ko + m, none⟩ = some (ptr c) := hrow.cell (by simp [p1])
          have hlm : r.items.length ≤ mx := by rw [HRIT.out]; exact HD.out.wf.own_le.2
          have hmxb := HT.out.par.hb
          have hmb : m ≤ 1000000000000 := by omega
          have WAY4 := Lib.hid (lod_keep HT.out.mem WAY.out (Keep.drew Nothing W3) (fun c o h => h.elim))
          have hiso := Lib.hid (isoLoad_own (lod_hdr HT.out WAY4.out.1) ((Keep.drew Nothing W3).cell' ck fun h => h) (WAY4.out.2.at_ c rc ((incs_out hcn).trans p4)) p5 true)
          have HKS := Lib.hid hks
          have HP1 := Lib.hid (show ks[ks.length - 1]? = some c by rw [hm, Nat.add_sub_cancel]; exact p1)
          rw [hm] at g1
          clear hks hrow hka p1 p2 p3 p4 p5 p6 hk0 hkl hlm hm
          unfold ptr at hiso g3 ck
          go_wp2_with fail
          refine hlv.out.mono ?_
          rintro e w4 ⟨rfl, rfl⟩
          clear hlv
          go_wp2_with fail
          refine wp_calm (by kernel_rfl) (by kernel_rfl) rfl ?_
          simp only [List.flatMap_cons, List.flatMap_nil, checks, chk, nilLit, List.cons_append, List.nil_append, List.append_nil]
          go_wp2_with fail
          refine hiso.out.mono ?_
          rintro e W7 ⟨rfl, kd7, rfl⟩
          have WAY7 := lod_keep HT.out.mem WAY.out (Keep.drewN Nothing W3 (1 + kd7)) (fun c o h => h.elim)
          obtain ⟨k, G', C', d'⟩ := HD.out.go WAY7 HR1.out HKS.out HP1.out HT.out.par.pos
          have X7 : (W3.drewN (1 + kd7)).heap[q]? = some (.cells #[.int .i64 x.2, .string (ky x)] 161 (0, 0)) := X3.out
          clear hiso ck g3 g1 fzn
          unfold ptr
          go_wp2_with fail
          rw [HQ_normal]
          go_wp2_with fail
          go_roundg (h + 1)
          case measure => omega
          case rel => exact ⟨P ++ [n], h, c, mn, k, G', C', rfl, rfl, d', X7⟩
    case rest =>
      obtain ⟨Q, hB, hX⟩ := hcut
      have HB := Lib.hid hB
      have HX := Lib.hid hX
      have H3 := Lib.hid (lod_hdr HT.out hB.keep)
      have c2 := hdr_root H3.out
      rw [HR.out] at c2
      simp only [rootV, Option.map_some] at c2
      have hq0 := hB.spine.root
      have HQ0 := Lib.hid hq0
      clear hB hX D2 X2 K2 hq0
      go_wp2_with fail
      clear c2
      go_loopg [9] (Q.length + 1) (fun m v9 wr => ∃ (j n : Nat), v9 = .pointer (some ⟨n, 0, none⟩) ∧ j + m = Q.length + 1 ∧ Q[j]? = some n ∧ Back w wr H L F n0 Q j ∧ wr.heap[q]? = some (.cells #[.int .i64 x.2, .string (ky x)] 161 (0, 0)))
      case atStart => exact ⟨0, n0, rfl, by omega, HQ0.out, HB.out, HX.out⟩
      case round =>
        obtain ⟨j, n, rfl, hjm, hn, hB, hX⟩ := hrel
        have HB := Lib.hid hB
        have HX := Lib.hid hX
        have HN := Lib.hid hn
        obtain ⟨hjl, _⟩ := List.getElem?_eq_some_iff.1 hn
        obtain ⟨hnF, r, hr1, hr2, hat⟩ := HB.out.here hn
        have hcb := HCN.out n hnF r hr1
        have hnq : n < q := by have := HQ.out; have := lt_of_heap (HT.out.mem.at_ n r hr1).1; omega
        have HR1 := Lib.hid hr1
        have HAT := Lib.hid hat
        obtain ⟨d0, c1, d2, d3, fzn⟩ := hat.own
        simp only [NRec.more] at c1
        clear d0 d2 d3 hn hr1 hr2 hat hB hX HQ0 H3
        go_upto_region 15 with (fail)
        refine wp_world ?_
        intro W3 hW3
        have K3 : Hid (Keep (fun c o => c = n ∧ o = 1) wr W3) := by subst hW3; exact Lib.hid ((Keep.refl _ _).set _ _ _ fun _ => ⟨rfl, rfl⟩)
        have N3 : Hid (NodeAt TT E W3 n r (L n)) := by
          subst hW3
          exact Lib.hid (nt_cnt ty_ok HAT.out r.cnt).at_
        clear hW3 c1 fzn
        have HB3 := Lib.hid (HB.out.step HN.out HR1.out K3.out N3.out)
        have X3 : Hid (W3.heap[q]? = some (.cells #[.int .i64 x.2, .string (ky x)] 161 (0, 0))) := Lib.hid (blk_keep HX.out K3.out fun o h => by omega)
        have hlv := Lib.hid (leaf_any N3.out)
        unfold ptr at hlv
        clear HX HAT K3
        cases hk : r.kids with
        | none =>
          have hend : j + 1 = Q.length := by
            by_cases h : j + 1 < Q.length
            · obtain ⟨r', ks, g1, g2, _⟩ := HB.out.spine.nxt j n (Q[j + 1]'h) HN.out (List.getElem?_eq_getElem h)
              rw [HR1.out] at g1
              cases g1
              rw [hk] at g2
              cases g2
            · omega
          have DONE : Hid (Keep (FP TT H L F) w W3 ∧ Mem TT E W3 H L) := by
            have := HB3.out
            rw [hend] at this
            exact Lib.hid this.done
          have hset := Lib.hid (set_tree (tree_back HT.out DONE.out) (by have := HBIG.out; omega) x)
          simp only [hk, Option.isNone_none] at hlv
          obtain ⟨x0, x1, xf⟩ := itm2 X3.out
          clear hk HB HB3
          unfold ptr kv vv at hset
          go_wp2_with fail
          refine hlv.out.mono ?_
          rintro e w4 ⟨rfl, rfl⟩
          go_wp2_with fail
          refine hset.out.mono ?_
          rintro e w' h
          have h' := Lib.hid (set_back DONE.out.1 h)
          obtain ⟨hr', H', L', F', s', p, rfl, _⟩ := h
          unfold vv
          go_wp2_with fail
          go_ret2
          exact h'.out
        | some ks =>
          have hnx : ∃ c, Q[j + 1]? = some c ∧ ks[ks.length - 1]? = some c := by
            by_cases h : j + 1 < Q.length
            · obtain ⟨r', ks', g1, g2, g3⟩ := HB.out.spine.nxt j n (Q[j + 1]'h) HN.out (List.getElem?_eq_getElem h)
              rw [HR1.out] at g1
              cases g1
              rw [hk] at g2
              cases g2
              exact ⟨_, List.getElem?_eq_getElem h, g3⟩
            · have hjq : j = Q.length - 1 := by omega
              obtain ⟨r', g1, g2⟩ := HB.out.last n (by rw [← hjq]; exact HN.out)
              rw [HR1.out] at g1
              cases g1
              rw [hk] at g2
              cases g2
          obtain ⟨c, hc1, hc2⟩ := hnx
          simp only [hk, Option.isNone_some] at hlv
          obtain ⟨g3, g1, fzn, hrow, z4⟩ := N3.out.kids hk
          clear z4
          have hkl := (List.getElem?_eq_some_iff.1 hc2).1
          have hkm := HKM.out n hnF r HR1.out ks hk
          have hmxb := HT.out.par.hb
          obtain ⟨kb, ko, hka, z5⟩ := hrow.form (by simp; omega)
          clear z5
          rw [hka] at hrow g1
          obtain ⟨m, hm⟩ : ∃ m, ks.length = m + 1 := ⟨ks.length - 1, by omega⟩
          rw [hm, Nat.add_sub_cancel] at hc2
          have ck : W3.cell? ⟨kb, ko + m, none⟩ = some (ptr c) := hrow.cell (by simp [hc2])
          have HC1 := Lib.hid hc1
          rw [hm] at g1 hkm
          have hmb : m ≤ 1000000000000 := by omega
          clear hrow hka hc1 hc2 hk hkl hm hkm hmxb
          unfold ptr at ck g3
          go_wp2_with fail
          refine hlv.out.mono ?_
          rintro e w4 ⟨rfl, rfl⟩
          clear hlv
          go_wp2_with fail
          refine wp_calm (by kernel_rfl) (by kernel_rfl) rfl ?_
          simp only [List.flatMap_cons, List.flatMap_nil, checks, chk, nilLit, List.cons_append, List.nil_append, List.append_nil]
          go_wp2_with fail
          rw [HQ_normal]
          go_wp2_with fail
          go_roundg (Q.length - j)
          case measure => omega
          case rel => exact ⟨j + 1, c, rfl, by omega, HC1.out, HB3.out.calm HT.out.mem (Keep.drew Nothing W3) fun c o h => h.elim, X3.out⟩
end Go.Proofs.Ytckplcmieelmpaa.W

namespace Go.Wb
open Go Go.RowKit

/-- A slice that grows: its row lies in blocks from B on. -/
structure Acc (B : Nat) (w : World) (ty s : Nat) (a : Option Addr) (n cap : Nat) (cs : List Value) : Prop where
  row : Row w ty s a cap cs
  len : cs.length = n * s
  le : n ≤ cap
  own : ∀ b o, rowFp a (cap * s) b o → B ≤ b

variable {B : Nat} {w w' : World} {ty s n m cap cap' : Nat} {a a' : Option Addr} {cs : List Value}

theorem Acc.calm (h : Acc B w ty s a n cap cs) {S : Nat → Nat → Prop} (hk : Keep S w w') (hS : ∀ b o, B ≤ b → ¬ S b o) : Acc B w' ty s a n cap cs :=
  ⟨h.row.keep' hk fun b o hf => hS b o (h.own b o hf), h.len, h.le, h.own⟩
theorem Acc.quiet (h : Acc B w ty s a n cap cs) (hk : Keep (fun _ _ => False) w w') : Acc B w' ty s a n cap cs := h.calm hk fun _ _ _ h => h
theorem Acc.nil (B : Nat) (w : World) (ty s : Nat) : Acc B w ty s none 0 0 [] := ⟨.inl ⟨rfl, rfl, rfl⟩, by simp, Nat.le_refl _, fun b o ⟨_, _, h, _⟩ => by cases h⟩
theorem Acc.grow (h : Acc B w ty s a n cap cs) (hB : B ≤ w.heap.size) {news : List Value} (hg : Grew w w' ty s a a' n m cap cap' (cs ++ news)) (hl : news.length = m * s) : Acc B w' ty s a' (n + m) cap' (cs ++ news) ∧ Keep (fun b _ => B ≤ b) w w' := by
  refine ⟨⟨hg.row, by rw [List.length_append, h.len, hl, Nat.add_mul], hg.cap, fun b o hf => ?_⟩, hg.keep.mono fun b o _ ⟨x, y, e1, e2, e3, e4⟩ => h.own b o ⟨x, y, e1, e2, by omega, e4⟩⟩
  rcases hg.fp b o hf with h1 | ⟨h1, _⟩
  · exact h.own b o h1
  · omega
theorem Acc.one (h : Acc B w ty s a n cap cs) {cs' : List Value} (e : cs = cs') : Acc B w ty s a n cap cs' := e ▸ h
end Go.Wb

namespace Go.Proofs.Ytckplcmieelmpaa.W
open Go.RowKit Go.Wb

/-- What is handed from a tree to a growing slice of keys. -/
def KeysPost (B : Nat) (w : World) (xs : List Ky) (e : Ending) (w' : World) : Prop := ∃ a cap, e = .returned (.slice a xs.length cap) ∧ Acc B w' 9 1 a xs.length cap (xs.map kv) ∧ Keep (fun b _ => B ≤ b) w w'

theorem wl_succ {α : Type} (K : List (List α)) (I : List α) (i : Nat) {k : List α} {x : α} (hk : K[i]? = some k) (hx : I[i]? = some x) : wl (K.take (i + 1)) (I.take (i + 1)) = wl (K.take i) (I.take i) ++ k ++ [x] := by
  induction i generalizing K I with
  | zero =>
    cases K with
    | nil => simp at hk
    | cons a K => cases I with
      | nil => simp at hx
      | cons b I => simp at hk hx; subst hk; subst hx; simp [wl]
  | succ i ih =>
    cases K with
    | nil => simp at hk
    | cons a K => cases I with
      | nil => simp at hx
      | cons b I =>
        simp only [List.take_succ_cons, wl, List.cons_append, List.append_assoc]
        rw [ih K I (by simpa using hk) (by simpa using hx)]
        simp
theorem wl_last {α : Type} {h : Nat} {its : List α} {ks : List (Tr α)} (hl : ks.length = its.length + 1) {k : Tr α} (hk : ks[its.length]? = some k) : flat (h + 1) (.node its ks) = wl ((ks.map (flat h)).take its.length) its ++ flat h k := by
  obtain ⟨hlt, rfl⟩ := List.getElem?_eq_some_iff.1 hk
  have e : ks = ks.take its.length ++ ks[its.length] :: [] := by
    have := List.take_append_drop its.length ks
    rw [List.drop_eq_getElem_cons hlt, List.drop_eq_nil_of_le (by omega)] at this
    exact this.symm
  have h1 := wl_wr ((ks.take its.length).map (flat h)) its (flat h ks[its.length]) [] [] (by simp; omega)
  simp only [List.append_nil, wr] at h1
  simp only [flat, Tr.its, Tr.ks]
  conv => lhs; rw [e]
  rw [List.map_append, List.map_cons, List.map_nil, h1, List.map_take]

theorem elemK : Elem Try.prog 9 1 16 := ⟨by kernel_rfl, by kernel_rfl, by kernel_rfl⟩

/-- The key's cell of an item of a node. -/
theorem node_key {w : World} {n : Nat} {r : NRec It} {L : Lay} (hn : NodeAt TT E w n r L) {i : Nat} {x : It} (hi : r.items[i]? = some x) : ∃ ib io, L.ia = some ⟨ib, io, none⟩ ∧
    w.cell? ⟨ib, io + i * 2 + 1, none⟩ = some (kv (ky x)) := by
  obtain ⟨hil, _⟩ := List.getElem?_eq_some_iff.1 hi
  have hrow := hn.2.1
  obtain ⟨ib, io, hia, _⟩ := hrow.form (by rw [E.all_len]; exact Nat.mul_pos (by omega) E.pos)
  rw [hia] at hrow
  exact ⟨ib, io, hia, key_cell hrow hi⟩

set_option maxRecDepth 100000 in
set_option maxHeartbeats 4000000 in
theorem keys_leaf {w0 : World} {n : Nat} {r : NRec It} {L : Lay} (hn : NodeAt TT E w0 n r L) (hlf : r.kids = none) (hlen : r.items.length ≤ 1000000000000) (B : Nat) (hB : B = w0.heap.size) {w : World} (hK : Keep (fun b _ => B ≤ b) w0 w) {a : Option Addr} {cap : Nat} {xs : List Ky}
    (hA : Acc B w 9 1 a xs.length cap (xs.map kv)) (hb : xs.length + r.items.length ≤ 4000000000000) :
    Calls Try.prog 153 #[ptr n, .slice a xs.length cap] w (KeysPost B w (xs ++ r.items.map ky)) := by
  have HN := Lib.hid hn
  have HB0 := Lib.hid hB
  have HK := Lib.hid hK
  have HA := Lib.hid hA
  have nodeat : Hid (∀ W, Keep (fun b _ => B ≤ b) w0 W → NodeAt TT E W n r L) := by
    exact fun W k => hn.keep k fun b o hf h => by have := hn.lt hf; omega
  have hlv := leaf_any (nodeat.out w hK)
  rw [hlf] at hlv
  simp only [Option.isNone_none] at hlv
  clear hn hlf hK hA hB
  unfold ptr at *
  go_enter Try.func153, Try.ntmps153
  go_wp2_with fail
  refine hlv.mono ?_
  rintro e w1 ⟨rfl, rfl⟩
  clear hlv
  go_wp2_with fail
  go_loopg [1, 5] (r.items.length + 1) (fun k v1 v5 wr => ∃ (i : Nat) (a' : Option Addr) (cap' : Nat), v5 = .int .i64 i ∧ v1 = .slice a' (xs.length + i) cap' ∧ i ≤ r.items.length ∧ i + k = r.items.length + 1 ∧ Keep (fun b _ => B ≤ b) w wr ∧ Acc B wr 9 1 a' (xs.length + i) cap' ((xs ++ (r.items.take i).map ky).map kv))
  case atStart => exact ⟨0, a, cap, rfl, rfl, by omega, by omega, Keep.refl _ _, by simpa using HA.out⟩
  case round =>
    obtain ⟨i, a1, cap1, rfl, rfl, hil, hik, hK1, hA1⟩ := hrel
    have HK1 := Lib.hid hK1
    have HA1 := Lib.hid hA1
    have N1 := Lib.hid (nodeat.out wr (HK.out.trans hK1 fun _ _ _ h => h))
    obtain ⟨d0, d1, c2, d3, fz⟩ := N1.out.own
    clear d0 d1 d3 hK1 hA1
    by_cases hlt : i < r.items.length
    · have hx : r.items[i]? = some r.items[i] := List.getElem?_eq_getElem hlt
      have HX := Lib.hid hx
      obtain ⟨ib, io, hia, ck⟩ := node_key N1.out hx
      rw [hia] at c2
      generalize r.items[i] = x at *
      have hBw : B ≤ wr.heap.size := by have := HB0.out; have := HK.out.size; have := HK1.out.size; omega
      clear hx hia
      unfold kv at ck
      go_wp2_with (at_builtin; refine wpList_append_any rfl _ _ _ rfl 9 1 16 Try.underlying22 elemK a1 (xs.length + i) cap1 _ rfl (HA1.out.quiet (Keep.alloc _ _ _)).row HA1.out.len ⟨wr.heap.size, 0, none⟩ 1 1 [kv (ky x)] rfl rfl (new_cells (heap_alloc_new wr _)) (by intro u hu; rw [List.mem_singleton.1 hu]; rfl) (by omega) HA1.out.le (by simp only [maxLen]; omega) (by omega) ?_; intro a2 cap2 w2 hg)
      obtain ⟨hA2, hK2⟩ := (HA1.out.quiet (Keep.alloc _ _ _)).grow (by simp; omega) hg rfl
      have HA2 := Lib.hid hA2
      have HK2 : Hid (Keep (fun b _ => B ≤ b) w w2) := by exact (HK1.out.al _).trans hK2 fun _ _ _ h => h
      clear hg hA2 hK2 ck c2 fz
      go_wp2_with fail
      go_roundg (r.items.length - i)
      case measure => omega
      case rel =>
        refine ⟨i + 1, a2, cap2, by go_num, by simp [Nat.add_assoc], by omega, by omega, HK2.out, ?_⟩
        have e : (xs ++ (r.items.take (i + 1)).map ky).map kv = (xs ++ (r.items.take i).map ky).map kv ++ [kv (ky x)] := by
          rw [List.take_add_one, HX.out]; simp
        rw [e]
        exact HA2.out
    · have hi : i = r.items.length := by omega
      subst hi
      go_wp2_with fail
      go_ret
      refine ⟨a1, cap1, by simp, ?_, HK1.out⟩
      have := HA1.out
      rw [List.take_of_length_le (Nat.le_refl _)] at this
      simpa using this

set_option maxRecDepth 100000 in
set_option maxHeartbeats 8000000 in
theorem keys_inner {w0 : World} {n h : Nat} {r : NRec It} {L : Lay} (hn : NodeAt TT E w0 n r L) {ns : List Nat} (hkd : r.kids = some ns) {ks : List (Tr It)} (hks : ks.length = r.items.length + 1) (hnl : ns.length = ks.length) (hlen : r.items.length ≤ 1000000000000) (B : Nat) (hB : B = w0.heap.size)
    (IH : ∀ (i m : Nat) (k : Tr It) (w : World) (a : Option Addr) (cap : Nat) (xs : List Ky), ns[i]? = some m → ks[i]? = some k → Keep (fun b _ => B ≤ b) w0 w → Acc B w 9 1 a xs.length cap (xs.map kv) → xs.length + (flat h k).length ≤ 4000000000000 →
      Calls Try.prog 153 #[ptr m, .slice a xs.length cap] w (KeysPost B w (xs ++ (flat h k).map ky)))
    {w : World} (hK : Keep (fun b _ => B ≤ b) w0 w) {a : Option Addr} {cap : Nat} {xs : List Ky}
    (hA : Acc B w 9 1 a xs.length cap (xs.map kv)) (hb : xs.length + (flat (h + 1) (.node r.items ks)).length ≤ 4000000000000) :
    Calls Try.prog 153 #[ptr n, .slice a xs.length cap] w (KeysPost B w (xs ++ (flat (h + 1) (.node r.items ks)).map ky)) := by
  have HN := Lib.hid hn
  have HB0 := Lib.hid hB
  have HK := Lib.hid hK
  have HA := Lib.hid hA
  have HI := Lib.hid IH
  have HKD := Lib.hid hkd
  have HKS := Lib.hid hks
  have HNL := Lib.hid hnl
  have nodeat : Hid (∀ W, Keep (fun b _ => B ≤ b) w0 W → NodeAt TT E W n r L) := by
    exact fun W k => hn.keep k fun b o hf h => by have := hn.lt hf; omega
  have hlv := leaf_any (nodeat.out w hK)
  rw [hkd] at hlv
  simp only [Option.isNone_some] at hlv
  have part : Hid (∀ i, i ≤ r.items.length → (wl ((ks.map (flat h)).take i) (r.items.take i)).length ≤ (flat (h + 1) (.node r.items ks)).length ∧ ∀ k, ks[i]? = some k → (wl ((ks.map (flat h)).take i) (r.items.take i)).length + (flat h k).length + (if i < r.items.length then 1 else 0) ≤ (flat (h + 1) (.node r.items ks)).length) := by
    intro i hi
    have hl := (flat_len (h := h) hks)
    have hw : ∀ i, i ≤ r.items.length → (wl ((ks.map (flat h)).take i) (r.items.take i)).length = i + (((ks.map fun k => (flat h k).length)).take i).sum := by
      intro i
      induction i with
      | zero => intro _; simp [wl]
      | succ i ih =>
        intro hi
        have hk : (ks.map (flat h))[i]? = some (flat h (ks[i]'(by omega))) := by rw [List.getElem?_map, List.getElem?_eq_getElem (by omega)]; rfl
        rw [wl_succ _ _ i hk (List.getElem?_eq_getElem (by omega)), List.length_append, List.length_append, ih (by omega), List.take_succ_eq_append_getElem (by simp; omega), List.sum_append]
        simp
        omega
    have hs : ∀ j, (((ks.map fun k => (flat h k).length)).take j).sum ≤ ((ks.map fun k => (flat h k).length)).sum := fun j => by
      have := List.sum_append (l₁ := (ks.map fun k => (flat h k).length).take j) (l₂ := (ks.map fun k => (flat h k).length).drop j)
      rw [List.take_append_drop] at this
      omega
    rw [hw i hi, hl]
    refine ⟨by have := hs i; omega, fun k hk => ?_⟩
    have h1 := hs (i + 1)
    obtain ⟨hkl, rfl⟩ := List.getElem?_eq_some_iff.1 hk
    rw [List.take_succ_eq_append_getElem (by simpa using hkl), List.sum_append] at h1
    simp at h1
    split <;> omega
  clear hn hkd hK hA hB IH hks hnl
  unfold ptr at *
  go_enter Try.func153, Try.ntmps153
  go_wp2_with fail
  refine hlv.mono ?_
  rintro e w1 ⟨rfl, rfl⟩
  clear hlv
  go_wp2_with fail
  go_loopg [1, 6] (r.items.length + 1) (fun k v1 v6 wr => ∃ (i : Nat) (a' : Option Addr) (cap' : Nat) (ys : List Ky), v6 = .int .i64 i ∧ v1 = .slice a' ys.length cap' ∧ i ≤ r.items.length ∧ i + k = r.items.length + 1 ∧ Keep (fun b _ => B ≤ b) w wr ∧ Acc B wr 9 1 a' ys.length cap' (ys.map kv) ∧
    ys = xs ++ (wl ((ks.map (flat h)).take i) (r.items.take i)).map ky)
  case atStart => exact ⟨0, a, cap, xs, rfl, rfl, by omega, by omega, Keep.refl _ _, HA.out, by simp [wl]⟩
  case round =>
    obtain ⟨i, a1, cap1, ys, rfl, rfl, hil, hik, hK1, hA1, hys⟩ := hrel
    have HYS := Lib.hid hys
    have HK1 := Lib.hid hK1
    have HA1 := Lib.hid hA1
    have N1 := Lib.hid (nodeat.out wr (HK.out.trans hK1 fun _ _ _ h => h))
    obtain ⟨d0, d1, c2, d3, fz⟩ := N1.out.own
    obtain ⟨c3, g1, fz2, _, _⟩ := N1.out.kids HKD.out
    unfold ptr at c3
    have hkl : ks[i]? = some (ks[i]'(by have := HKS.out; omega)) := List.getElem?_eq_getElem _
    have hnl : ns[i]? = some (ns[i]'(by have := HKS.out; have := HNL.out; omega)) := List.getElem?_eq_getElem _
    have hrow := (N1.out.2.2.2 ns HKD.out).2.1
    obtain ⟨kb, ko, hka, _⟩ := hrow.form (by simp; have := HKS.out; have := HNL.out; omega)
    rw [hka] at hrow g1
    have ck := hrow.cell (i := i) (v := ptr (ns[i]'(by have := HKS.out; have := HNL.out; omega))) (by simp [hnl])
    have hylen : ys.length = xs.length + (wl ((ks.map (flat h)).take i) (r.items.take i)).length := by rw [hys]; simp
    have HYL := Lib.hid hylen
    have hnsl : i < ns.length := (List.getElem?_eq_some_iff.1 hnl).1
    generalize ns[i]'(by have := HKS.out; have := HNL.out; omega) = m at *
    generalize ks[i]'(by have := HKS.out; omega) = k at *
    obtain ⟨p1, p2⟩ := part.out i hil
    have p3 := p2 k hkl
    have HKL := Lib.hid hkl
    have HMN := Lib.hid hnl
    unfold ptr at ck
    clear d0 d1 d3 hK1 hA1 hys hrow hka hkl hnl hylen p1 p2
    by_cases hlt : i < r.items.length
    · have hx : r.items[i]? = some r.items[i] := List.getElem?_eq_getElem hlt
      have HX := Lib.hid hx
      generalize r.items[i] = x at *
      rw [if_pos hlt] at p3
      have hcall := Lib.hid (HI.out i m k wr a1 cap1 ys HMN.out HKL.out (HK.out.trans HK1.out fun _ _ _ h => h) HA1.out (by have := HYL.out; omega))
      clear hx
      unfold ptr at hcall
      go_wp2_with fail
      refine hcall.out.mono ?_
      rintro e w2 ⟨a2, cap2, rfl, hA2, hK2⟩
      have HA2 := Lib.hid hA2
      have HK2 : Hid (Keep (fun b _ => B ≤ b) w w2) := by exact HK1.out.trans hK2 fun _ _ _ h => h
      have HL2 : Hid ((ys ++ (flat h k).map ky).length + 1 ≤ 4000000000000) := Lib.hid (by have := HYL.out; simp; omega)
      clear hA2 hK2 hcall N1 c2 fz c3 g1 fz2 ck
      generalize hz : ys ++ (flat h k).map ky = zs at *
      have HZ := Lib.hid hz
      have N2 := Lib.hid (nodeat.out w2 (HK.out.trans HK2.out fun _ _ _ h => h))
      obtain ⟨d0, d1, c2, d3, fz⟩ := N2.out.own
      obtain ⟨ib, io, hia, ck⟩ := node_key N2.out HX.out
      rw [hia] at c2
      have hBw : B ≤ w2.heap.size := by have := HB0.out; have := HK.out.size; have := HK2.out.size; omega
      unfold kv at ck
      have hl2 := HL2.out
      clear d0 d1 d3 hia hz
      go_wp2_with (at_builtin; refine wpList_append_any rfl _ _ _ rfl 9 1 16 Try.underlying22 elemK a2 zs.length cap2 _ rfl (HA2.out.quiet (Keep.alloc _ _ _)).row HA2.out.len ⟨w2.heap.size, 0, none⟩ 1 1 [kv (ky x)] rfl rfl (new_cells (heap_alloc_new w2 _)) (by intro u hu; rw [List.mem_singleton.1 hu]; rfl) (by omega) HA2.out.le (by simp only [maxLen]; omega) (by omega) ?_; intro a3 cap3 w3 hg)
      obtain ⟨hA3, hK3⟩ := (HA2.out.quiet (Keep.alloc _ _ _)).grow (by simp; omega) hg rfl
      have HA3 := Lib.hid hA3
      have HK3 : Hid (Keep (fun b _ => B ≤ b) w w3) := by exact (HK2.out.al _).trans hK3 fun _ _ _ h => h
      clear hg hA3 hK3 ck c2 fz
      go_wp2_with fail
      go_roundg (r.items.length - i)
      case measure => omega
      case rel =>
        refine ⟨i + 1, a3, cap3, zs ++ [ky x], by go_num, by simp, by omega, by omega, HK3.out, ?_, ?_⟩
        · simpa using HA3.out
        · rw [wl_succ _ _ i (k := flat h k) (by simp [HKL.out]) HX.out, ← HZ.out, HYS.out]
          simp
    · have hi : i = r.items.length := by omega
      subst hi
      have hcall := Lib.hid (HI.out _ m k wr.drew a1 cap1 ys HMN.out HKL.out ((HK.out.trans HK1.out fun _ _ _ h => h).dr) (HA1.out.quiet (Keep.drew _ _)) (by have := HYL.out; omega))
      unfold ptr at hcall
      rw [HNL.out, HKS.out] at g1
      go_wp2_with fail
      refine wp_calm (by kernel_rfl) (by kernel_rfl) rfl ?_
      simp only [List.flatMap_cons, List.flatMap_nil, checks, chk, nilLit, List.cons_append, List.nil_append, List.append_nil]
      go_wp2_with fail
      refine hcall.out.mono ?_
      rintro e w2 ⟨a2, cap2, rfl, hA2, hK2⟩
      have HA2 := Lib.hid hA2
      have HK2 : Hid (Keep (fun b _ => B ≤ b) w w2) := by exact HK1.out.dr.trans hK2 fun _ _ _ h => h
      clear hA2 hK2 hcall N1 c2 fz c3 g1 fz2 ck
      go_wp2_with fail
      rw [HQ_normal]
      go_wp2_with fail
      go_ret
      have e : ys ++ (flat h k).map ky = xs ++ (flat (h + 1) (.node r.items ks)).map ky := by
        rw [wl_last HKS.out HKL.out, HYS.out, List.take_of_length_le (Nat.le_refl _)]
        simp
      rw [← e]
      exact ⟨a2, cap2, by simp, HA2.out, HK2.out⟩

/-- THE KEYS below a node. -/
theorem keys_any {w0 : World} {H : Store It} {L : Nat → Lay} {c : Int} {mn mx : Nat} (hm : Mem TT E w0 H L) (hmx : mx ≤ 1000000000000) (B : Nat) (hB : B = w0.heap.size) : ∀ (h l n : Nat) (t : Tr It) (F : List Nat), Rep H c h n t F → wfr l mn mx h t → ∀ (w : World), Keep (fun b _ => B ≤ b) w0 w → ∀ (a : Option Addr) (cap : Nat) (xs : List Ky),
    Acc B w 9 1 a xs.length cap (xs.map kv) → xs.length + (flat h t).length ≤ 4000000000000 → Calls Try.prog 153 #[ptr n, .slice a xs.length cap] w (KeysPost B w (xs ++ (flat h t).map ky))
  | 0, l, n, t, F, hr, wf, w, hK, a, cap, xs, hA, hb => by
    obtain ⟨r, h1, h2, h3, h4, h5, h6, _⟩ := hr
    obtain ⟨its, ks⟩ := t
    simp only [Tr.its, flat] at *
    subst h3
    exact keys_leaf (hm.at_ n r h1) h5 (by have := wf.2.1; simp only [Tr.its] at this; omega) B hB hK hA hb
  | h + 1, l, n, t, F, hr, wf, w, hK, a, cap, xs, hA, hb => by
    obtain ⟨r, ns, F', h1, h2, h3, h4, h5, h6, _⟩ := hr
    obtain ⟨w1, w2, w3, w4⟩ := wf
    obtain ⟨its, ks⟩ := t
    simp only [Tr.its, Tr.ks] at *
    subst h3
    refine keys_inner (hm.at_ n r h1) h4 w3 h6.len (by omega) B hB (fun i m k w a cap xs hm1 hk hK hA hb => ?_) hK hA hb
    obtain ⟨G, hR⟩ := h6.get hm1 hk
    exact keys_any hm hmx B hB h mn m k G hR (w4 k (List.mem_of_getElem? hk)) w hK a cap xs hA hb
end Go.Proofs.Ytckplcmieelmpaa.W

namespace Go.Proofs.Ytckplcmieelmpaa.W
open Go.RowKit Go.Wb

/-- An item of a key. -/
def itOf (k : Ky) : It := (k, 0)
/-- The item of a key. -/
def findK (l : List It) (k : Ky) : Option It := l.find? fun x => !klt (ky x) k && !klt k (ky x)
theorem findK_less {l : List It} {k : Ky} (h : ∀ a ∈ l, klt (ky a) k = true) : findK l k = none := List.find?_eq_none.2 fun a ha => by simp [h a ha]
theorem findK_more {l : List It} {k : Ky} (h : ∀ a ∈ l, klt k (ky a) = true) : findK l k = none := List.find?_eq_none.2 fun a ha => by simp [h a ha]
theorem findK_append (l m : List It) (k : Ky) : findK (l ++ m) k = (findK l k).or (findK m k) := List.find?_append
theorem findK_mid {A B : List It} {k : Ky} {y : It} (hA : ∀ a ∈ A, klt (ky a) k = true) (h1 : klt (ky y) k = false) (h2 : klt k (ky y) = false) : findK (A ++ y :: B) k = some y := by
  rw [findK_append, findK_less hA]
  simp [findK, h1, h2]

theorem find_leaf {its : List It} {k : Ky} {i : Nat} (h : Loc its k i false) : findK its k = none := by
  obtain ⟨h1, h2⟩ := loc_none h
  rw [← List.take_append_drop i its, findK_append, findK_less h1, findK_more h2]
  rfl
theorem find_own {l mn mx h : Nat} {t : Tr It} (wf : wfr l mn mx h t) (hs : Sorted ilt (flat h t)) {k : Ky} {i : Nat} (hl : Loc t.its k i true) {y : It} (hy : t.its[i]? = some y) : findK (flat h t) k = some y := by
  obtain ⟨A, y', B, e, hA, hy', h1, h2, hlA, hlB⟩ := loc_found (own_sorted wf hs) hl
  rw [hy] at hy'
  cases hy'
  have key : ∃ C D, flat h t = C ++ y :: D := by
    cases h with
    | zero => exact ⟨A, B, e⟩
    | succ h =>
      obtain ⟨its, ks⟩ := t
      simp only [Tr.its] at e
      subst e
      obtain ⟨C, D, hCD⟩ := flat_item (h := h) (A := A) (B := B) (y := y) (ks := ks) wf.2.2.1
      exact ⟨C, D, hCD y⟩
  obtain ⟨C, D, e2⟩ := key
  rw [e2] at hs ⊢
  obtain ⟨_, _, hC⟩ := Sorted.of_append hs
  exact findK_mid (fun a ha => klt_of_eq h1 h2 (hC a ha y (by simp))) h1 h2
theorem find_child {l mn mx h : Nat} {t : Tr It} (wf : wfr l mn mx (h + 1) t) (hs : Sorted ilt (flat (h + 1) t)) {k : Ky} {i : Nat} (hl : Loc t.its k i false) {c : Tr It} (hc : t.ks[i]? = some c) :
    findK (flat (h + 1) t) k = findK (flat h c) k ∧ Sorted ilt (flat h c) ∧ wfr mn mn mx h c := by
  obtain ⟨w1, w2, w3, w4⟩ := wf
  obtain ⟨its, ks⟩ := t
  simp only [Tr.its, Tr.ks] at *
  obtain ⟨hil, _⟩ := List.getElem?_eq_some_iff.1 hc
  obtain ⟨K1, c', K2, rfl, hK1, hc'⟩ := split_at ks i hil
  rw [hc] at hc'
  cases hc'
  obtain ⟨lA, lB⟩ := loc_none hl
  have e : its.take i ++ its.drop i = its := List.take_append_drop _ _
  have hi := hl.1
  simp only [List.length_append, List.length_cons] at w3
  have this := flat_around (lt := ilt) (x := itOf k) iord (h := h) (I1 := its.take i) (I2 := its.drop i) (K1 := K1) (K2 := K2) (k := c) (by simp; omega) (by simp; omega) (by rw [e]; exact hs) lA lB
  rw [e] at this
  obtain ⟨C, D, e2, hC, hD⟩ := this
  rw [e2 c] at hs ⊢
  refine ⟨?_, hs.mid, w4 c (by simp)⟩
  have hC' : findK C k = none := findK_less hC
  have hD' : findK D k = none := findK_more hD
  rw [findK_append, findK_append, hC', hD']
  cases findK (flat h c) k <;> rfl

/-- The value's cell of an item. -/
def GetPost (w : World) (p : Option It) (ep : It) (e : Ending) (w' : World) : Prop := e = .returned (.tuple #[vv (p.getD ep), .bool p.isSome]) ∧ Keep Nothing w w'

set_option maxRecDepth 100000 in
set_option maxHeartbeats 4000000 in
theorem get_any {w : World} {b : Nat} {hr : HRec} {H : Store It} {L : Nat → Lay} {F : List Nat} {mn mx : Nat} {s : Sh} (T : TreeAt w b hr H L F mn mx s) (k : Ky) :
    Calls Try.prog 131 #[ptr b, kv k, .bool false] w (GetPost w (findK (its s) k) hr.emp) := by
  have HT := Lib.hid T
  have hbw := lt_of_heap T.hdr
  clear T
  unfold ptr kv at *
  cases s with
  | none =>
    obtain ⟨hroot, _⟩ := HT.out.root
    have HR := Lib.hid hroot
    clear hroot
    go_enter Try.func131, Try.ntmps131
    go_upto_region 1 with (fail)
    refine wp_world ?_
    intro W1 hW1
    have K1 : Hid (Keep Nothing w W1) := by
      subst hW1; exact Keep.refl _ _
    clear hW1
    have H1 : Hid (Hdr W1 b hr) := by exact blk_keep HT.out.hdr K1.out fun _ h => h
    have c2 := hdr_root H1.out
    rw [HR.out] at c2
    simp only [rootV, Option.map_none] at c2
    have fz := hdr_fz H1.out
    have he := hdr_emp H1.out
    go_wp2_with fail
    go_ret2
    exact ⟨rfl, K1.out⟩
  | some p =>
    obtain ⟨h0, t0⟩ := p
    obtain ⟨n0, hroot, rep, wf⟩ := HT.out.root
    obtain ⟨_, r0, e0, i0, _, _⟩ := rep.root
    have HR := Lib.hid hroot
    have HREP := Lib.hid rep
    have HWF := Lib.hid wf
    have hat0 : Hid (∀ W, Keep Nothing w W → NodeAt TT E W n0 r0 (L n0)) := by exact fun W hK => (HT.out.mem.at_ n0 r0 e0).keep hK fun _ _ _ h => h
    have HI0 := Lib.hid i0
    clear hroot rep wf e0 i0
    go_enter Try.func131, Try.ntmps131
    go_upto_region 1 with (fail)
    refine wp_world ?_
    intro W1 hW1
    generalize hq : w.heap.size = q at *
    have K1 : Hid (Keep Nothing w W1) := by
      subst hW1; exact Keep.refl _ _
    clear hW1 hq
    have H1 : Hid (Hdr W1 b hr) := by exact blk_keep HT.out.hdr K1.out fun _ h => h
    have c2 := hdr_root H1.out
    have hc2 := Lib.hid c2
    rw [HR.out] at c2 hc2
    simp only [rootV, Option.map_some] at c2 hc2
    have fz := hdr_fz H1.out
    have hiso := Lib.hid (isoLoad_own H1.out hc2.out (hat0.out W1 K1.out) HI0.out false)
    unfold ptr at hiso
    go_wp2_with fail
    refine hiso.out.mono ?_
    rintro e w2 ⟨rfl, kd, rfl⟩
    have K2 : Hid (Keep Nothing w (W1.drewN kd)) := by exact K1.out.drN kd
    clear hiso c2 hc2 fz H1 K1
    generalize W1.drewN kd = W2 at *
    unfold ptr
    go_wp2_with fail
    go_loopg [8] (h0 + 1) (fun m v8 wr => ∃ (h l n : Nat) (t : Tr It) (G : List Nat), v8 = .pointer (some ⟨n, 0, none⟩) ∧ h + 1 = m ∧ Keep Nothing w wr ∧ Rep H hr.iso h n t G ∧ wfr l mn mx h t ∧ Sorted ilt (flat h t) ∧ findK (flat h0 t0) k = findK (flat h t) k
      )
    case atStart => exact ⟨h0, 1, n0, t0, F, rfl, rfl, K2.out, HREP.out, HWF.out, HT.out.srt, rfl⟩
    case round =>
      obtain ⟨h, l, n, t, G, rfl, rfl, hKr, hrep, hwf, hsrt, hfd⟩ := hrel
      have HKr := Lib.hid hKr
      have HRr := Lib.hid hrep
      have HWr := Lib.hid hwf
      have HSr := Lib.hid hsrt
      have HFr := Lib.hid hfd
      clear hKr hrep hwf hsrt hfd
      obtain ⟨_, r, er, ir, itr, _⟩ := HRr.out.root
      have N1 := Lib.hid ((HT.out.mem.at_ n r er).keep HKr.out fun _ _ _ h => h)
      have hsr : Sorted ilt r.items := by rw [itr]; exact own_sorted HWr.out HSr.out
      have hlr : r.items.length ≤ 1000000000000 := by rw [itr]; have := HWr.out.own_le.2; have := HT.out.par.hb; omega
      obtain ⟨i, f, hloc⟩ := Loc.ex k r.items hsr
      have hse := Lib.hid (search_loc (tr := ptr b) N1.out hlr hsr hloc)
      have HER := Lib.hid er
      have HIT := Lib.hid itr
      have HIR := Lib.hid ir
      have HLOC := Lib.hid hloc
      clear er itr hsr ir hloc
      unfold ptr kv at hse
      go_wp2_with fail
      refine hse.out.mono ?_
      rintro e w3 ⟨rfl, kd3, rfl⟩
      have K3 : Hid (Keep Nothing w (wr.drewN kd3)) := by exact HKr.out.drN kd3
      clear hse N1 HKr
      generalize wr.drewN kd3 = W3 at *
      have N3 := Lib.hid ((HT.out.mem.at_ n r HER.out).keep K3.out fun _ _ _ h => h)
      obtain ⟨d0, d1, c2, d3, fz⟩ := N3.out.own
      clear d0 d1 d3
      cases f with
      | true =>
        obtain ⟨_, y, hy, _, _⟩ := id HLOC.out
        have HY := Lib.hid hy
        obtain ⟨hil, _⟩ := List.getElem?_eq_some_iff.1 hy
        have hrow := N3.out.2.1
        obtain ⟨ib, io, hia, _⟩ := hrow.form (by rw [E.all_len]; exact Nat.mul_pos (by omega) E.pos)
        rw [hia] at c2 hrow
        have cv := val_cell hrow hy
        have fz2 := hrow.frozen
        have hfind : findK (its (some (h0, t0))) k = some y := by
          show findK (flat h0 t0) k = some y
          rw [HFr.out]
          have hl2 := HLOC.out
          rw [HIT.out] at hl2
          exact find_own HWr.out HSr.out hl2 (by rw [← HIT.out]; exact HY.out)
        have HFI := Lib.hid hfind
        clear hy hrow hia hfind
        go_wp2_with fail
        go_ret2
        exact ⟨by rw [HFI.out]; rfl, K3.out⟩
      | false =>
        have hlv := Lib.hid (leaf_any N3.out)
        unfold ptr at hlv
        cases h with
        | zero =>
          obtain ⟨r', e1, _, _, _, hkn, _, _⟩ := HRr.out
          rw [HER.out] at e1
          cases e1
          rw [hkn] at hlv
          simp only [Option.isNone_none] at hlv
          have H3 : Hid (Hdr W3 b hr) := by exact blk_keep HT.out.hdr K3.out fun _ h => h
          have he := hdr_emp H3.out
          have fzh := hdr_fz H3.out
          have hfind : findK (its (some (h0, t0))) k = none := by
            show findK (flat h0 t0) k = none
            rw [HFr.out]
            show findK t.its k = none
            rw [← HIT.out]
            exact find_leaf HLOC.out
          have HFI := Lib.hid hfind
          clear hkn hfind
          go_wp2_with fail
          refine hlv.out.mono ?_
          rintro e w4 ⟨rfl, rfl⟩
          go_wp2_with fail
          go_ret2
          exact ⟨by rw [HFI.out]; rfl, K3.out⟩
        | succ h =>
          obtain ⟨r', ns, F', e1, _, _, hkn, _, hrl, _⟩ := HRr.out
          rw [HER.out] at e1
          cases e1
          rw [hkn] at hlv
          simp only [Option.isNone_some] at hlv
          obtain ⟨c3, g1, fz3, hrow, _⟩ := N3.out.kids hkn
          unfold ptr at c3
          have wl := HWr.out.2.2.1
          have hil : i < t.ks.length := by have := HLOC.out.1; rw [HIT.out] at this; omega
          have hck : t.ks[i]? = some t.ks[i] := List.getElem?_eq_getElem hil
          have hcn : ns[i]? = some (ns[i]'(by rw [hrl.len]; exact hil)) := List.getElem?_eq_getElem _
          obtain ⟨G', hR'⟩ := hrl.get hcn hck
          have hl2 := HLOC.out
          rw [HIT.out] at hl2
          obtain ⟨q1, q2, q3⟩ := find_child HWr.out HSr.out hl2 hck
          obtain ⟨kb, ko, hka, _⟩ := hrow.form (by simp; have := hrl.len; omega)
          rw [hka] at hrow g1
          have hnl : i < ns.length := by rw [hrl.len]; exact hil
          generalize ns[i]'(by rw [hrl.len]; exact hil) = m at *
          generalize t.ks[i] = c at *
          have ck := hrow.cell (i := i) (v := ptr m) (by simp [hcn])
          obtain ⟨_, rm, em, im, _, _⟩ := hR'.root
          have H3 : Hid (Hdr W3 b hr) := by exact blk_keep HT.out.hdr K3.out fun _ h => h
          have hiso2 := Lib.hid (isoLoad_own H3.out ck ((HT.out.mem.at_ m rm em).keep K3.out fun _ _ _ h => h) im false)
          have Q1 := Lib.hid q1
          have Q2 := Lib.hid q2
          have Q3 := Lib.hid q3
          have HR' := Lib.hid hR'
          unfold ptr at hiso2
          clear hkn hrl wl hck hcn hR' hl2 q1 q2 q3 hrow hka ck em im
          go_wp2_with fail
          refine hlv.out.mono ?_
          rintro e w4 ⟨rfl, rfl⟩
          go_wp2_with fail
          refine hiso2.out.mono ?_
          rintro e w5 ⟨rfl, kd5, rfl⟩
          unfold ptr
          go_wp2_with fail
          go_roundg (h + 1)
          case measure => omega
          case rel => exact ⟨h, mn, m, c, G', rfl, rfl, K3.out.drN kd5, HR'.out, Q3.out, Q2.out, HFr.out.trans Q1.out⟩

set_option maxHeartbeats 1000000 in
theorem mapGet_any {w : World} {b : Nat} {hr : HRec} {H : Store It} {L : Nat → Lay} {F : List Nat} {mn mx : Nat} {s : Sh} (T : TreeAt w b hr H L F mn mx s) (k : Ky) :
    Calls Try.prog 82 #[ptr b, kv k] w (GetPost w (findK (its s) k) hr.emp) := by
  have hg : ∀ W, Keep Nothing w W → Calls Try.prog 131 #[ptr b, kv k, .bool false] W (GetPost W (findK (its s) k) hr.emp) := fun W hK => get_any (T.keep hK) k
  have HG := Lib.hid hg
  clear hg T
  generalize findK (its s) k = p at *
  unfold ptr kv at *
  go_enter Try.func82, Try.ntmps82
  go_upto_region 1 with (fail)
  refine wp_world ?_
  intro W1 hW1
  have K1 : Hid (Keep Nothing w W1) := by
    subst hW1; exact Keep.refl _ _
  clear hW1
  go_wp2_with fail
  refine (HG.out W1 K1.out).mono ?_
  rintro e w2 ⟨rfl, hK2⟩
  have K2 : Hid (Keep Nothing w w2) := by exact K1.out.trans hK2 fun _ _ _ h => h
  clear hK2
  unfold vv
  go_wp2_with fail
  go_ret2
  exact ⟨rfl, K2.out⟩
end Go.Proofs.Ytckplcmieelmpaa.W

namespace Go.Wb
variable {α : Type}

/-- What is handed on, an item in turn, until a function of all that was handed on says no. -/
def handOn (go : List α → Bool) : List α → List α → List α × Bool
  | acc, [] => (acc, true)
  | acc, x :: l => if go (acc ++ [x]) = true then handOn go (acc ++ [x]) l else (acc ++ [x], false)

variable {go : List α → Bool}
theorem handOn_yes {acc l : List α} {x : α} (h : go (acc ++ [x]) = true) : handOn go acc (x :: l) = handOn go (acc ++ [x]) l := by simp [handOn, h]
theorem handOn_no {acc l : List α} {x : α} (h : go (acc ++ [x]) = false) : handOn go acc (x :: l) = (acc ++ [x], false) := by simp [handOn, h]
theorem handOn_append : ∀ (l k acc : List α), handOn go acc (l ++ k) = if (handOn go acc l).2 = true then handOn go (handOn go acc l).1 k else handOn go acc l
  | [], k, acc => by simp [handOn]
  | x :: l, k, acc => by
    simp only [List.cons_append, handOn]
    split
    · exact handOn_append l k _
    · simp
theorem handOn_on {acc acc' l : List α} (h : handOn go acc l = (acc', true)) (k : List α) : handOn go acc (l ++ k) = handOn go acc' k := by simp [handOn_append, h]
theorem handOn_end {acc acc' l : List α} (h : handOn go acc l = (acc', false)) (k : List α) : handOn go acc (l ++ k) = (acc', false) := by simp [handOn_append, h]

theorem handOn_true : ∀ {l acc a : List α}, handOn go acc l = (a, true) → a = acc ++ l
  | [], acc, a, h => by simp [handOn] at h; simp [h]
  | x :: l, acc, a, h => by
    simp only [handOn] at h
    split at h
    · rw [handOn_true h]; simp
    · cases h
theorem handOn_len {l acc a : List α} (h : handOn go acc l = (a, true)) : a.length = acc.length + l.length := by rw [handOn_true h, List.length_append]

/-- Items below a node: those ahead of child i (i is at most the number of items), those behind it, those from it on. -/
def lo (h : Nat) (its : List α) (ks : List (Tr α)) (i : Nat) : List α := wl ((ks.map (flat h)).take i) (its.take i)
def hi (h : Nat) (its : List α) (ks : List (Tr α)) (i : Nat) : List α := wr (its.drop i) ((ks.map (flat h)).drop (i + 1))
def tl (h : Nat) (its : List α) (ks : List (Tr α)) (i : Nat) : List α := weave ((ks.map (flat h)).drop i) (its.drop i)

variable {h i : Nat} {its : List α} {ks : List (Tr α)}
theorem wl_succ_ (K : List (List α)) (I : List α) (i : Nat) {k : List α} {x : α} (hk : K[i]? = some k) (hx : I[i]? = some x) : wl (K.take (i + 1)) (I.take (i + 1)) = wl (K.take i) (I.take i) ++ k ++ [x] := by
  induction i generalizing K I with
  | zero =>
    cases K with
    | nil => simp at hk
    | cons a K => cases I with
      | nil => simp at hx
      | cons b I => simp at hk hx; subst hk; subst hx; simp [wl]
  | succ i ih =>
    cases K with
    | nil => simp at hk
    | cons a K => cases I with
      | nil => simp at hx
      | cons b I =>
        simp only [List.take_succ_cons, wl, List.cons_append, List.append_assoc]
        rw [ih K I (by simpa using hk) (by simpa using hx)]
        simp
theorem lo_zero : lo h its ks 0 = [] := by simp [lo, wl]
theorem lo_succ {k : Tr α} {x : α} (hk : ks[i]? = some k) (hx : its[i]? = some x) : lo h its ks (i + 1) = lo h its ks i ++ flat h k ++ [x] :=
  wl_succ_ _ _ i (by simp [hk]) hx
theorem tl_zero : flat (h + 1) (.node its ks) = tl h its ks 0 := by simp [tl, flat, Tr.its, Tr.ks]
theorem tl_succ {k : Tr α} {x : α} (hk : ks[i]? = some k) (hx : its[i]? = some x) (hl : ks.length = its.length + 1) : tl h its ks i = flat h k ++ x :: tl h its ks (i + 1) := by
  obtain ⟨h1, rfl⟩ := List.getElem?_eq_some_iff.1 hk
  obtain ⟨h2, rfl⟩ := List.getElem?_eq_some_iff.1 hx
  unfold tl
  rw [List.drop_eq_getElem_cons (by simpa using h1), weave, List.drop_eq_getElem_cons (l := its) h2, List.drop_eq_getElem_cons (l := ks.map (flat h)) (i := i + 1) (by simp; omega)]
  simp [wr, weave]
theorem tl_last {k : Tr α} (hk : ks[its.length]? = some k) (_hl : ks.length = its.length + 1) : tl h its ks its.length = flat h k := by
  obtain ⟨h1, rfl⟩ := List.getElem?_eq_some_iff.1 hk
  unfold tl
  rw [List.drop_eq_getElem_cons (by simpa using h1), weave, (List.drop_eq_nil_of_le (Nat.le_refl _) : its.drop its.length = [])]
  simp [wr]
theorem hi_succ {k : Tr α} {x : α} (hk : ks[i + 1]? = some k) (hx : its[i]? = some x) : hi h its ks i = x :: (flat h k ++ hi h its ks (i + 1)) := by
  obtain ⟨h1, rfl⟩ := List.getElem?_eq_some_iff.1 hk
  obtain ⟨h2, rfl⟩ := List.getElem?_eq_some_iff.1 hx
  unfold hi
  rw [List.drop_eq_getElem_cons (l := its) h2, List.drop_eq_getElem_cons (l := ks.map (flat h)) (i := i + 1) (by simpa using h1)]
  simp [wr]
theorem hi_last : hi h its ks its.length = [] := by
  unfold hi
  rw [(List.drop_eq_nil_of_le (Nat.le_refl _) : its.drop its.length = [])]
  simp [wr]
theorem flat_at {k : Tr α} (hl : ks.length = its.length + 1) (hi' : i ≤ its.length) (hk : ks[i]? = some k) : flat (h + 1) (.node its ks) = lo h its ks i ++ flat h k ++ hi h its ks i := by
  obtain ⟨h1, rfl⟩ := List.getElem?_eq_some_iff.1 hk
  have e : ks = ks.take i ++ ks[i] :: ks.drop (i + 1) := by
    have := List.take_append_drop i ks
    rw [List.drop_eq_getElem_cons h1] at this
    exact this.symm
  have e2 : its = its.take i ++ its.drop i := (List.take_append_drop i its).symm
  have := wl_wr ((ks.take i).map (flat h)) (its.take i) (flat h ks[i]) (its.drop i) ((ks.drop (i + 1)).map (flat h)) (by simp; omega)
  have key : weave (ks.map (flat h)) its = weave ((ks.take i).map (flat h) ++ flat h ks[i] :: (ks.drop (i + 1)).map (flat h)) (its.take i ++ its.drop i) := by
    rw [← e2, ← List.map_cons, ← List.map_append, ← e]
  simp only [flat, Tr.its, Tr.ks]
  unfold lo hi
  rw [← List.map_take, ← List.map_drop, key, this]
theorem lo_last {k : Tr α} (hl : ks.length = its.length + 1) (hk : ks[its.length]? = some k) : flat (h + 1) (.node its ks) = lo h its ks its.length ++ flat h k := by
  rw [flat_at hl (Nat.le_refl _) hk, hi_last, List.append_nil]

/-- Stopped at the n-th item, never for n below 1. -/
def upTo (n : Int) (l : List α) : Bool := decide (n < 1) || decide ((l.length : Int) < n)
def firstN (n : Int) (l : List α) : List α := if n < 1 then l else l.take n.toNat
theorem handOn_upTo (n : Int) : ∀ (l acc : List α), (n < 1 ∨ (acc.length : Int) < n) → (handOn (upTo n) acc l).1 = if n < 1 then acc ++ l else acc ++ l.take (n.toNat - acc.length)
  | [], acc, h => by simp [handOn]
  | x :: l, acc, h => by
    cases hg : upTo n (acc ++ [x]) with
    | true =>
      rw [handOn_yes hg]
      simp only [upTo, Bool.or_eq_true, decide_eq_true_eq, List.length_append, List.length_cons, List.length_nil] at hg
      rw [handOn_upTo n l (acc ++ [x]) (by simp; omega)]
      split
      · simp
      · obtain ⟨m, hm⟩ : ∃ m, n.toNat - acc.length = m + 1 := ⟨n.toNat - acc.length - 1, by omega⟩
        have : n.toNat - (acc ++ [x]).length = m := by simp; omega
        rw [this, hm]
        simp
    | false =>
      rw [handOn_no hg]
      simp only [upTo, Bool.or_eq_false_iff, decide_eq_false_iff_not, List.length_append, List.length_cons, List.length_nil] at hg
      have : n.toNat - acc.length = 1 := by omega
      rw [if_neg hg.1, this]
      simp
theorem handOn_first (n : Int) (l : List α) : (handOn (upTo n) [] l).1 = firstN n l := by
  rw [handOn_upTo n l [] (by simp; omega)]
  simp [firstN]
theorem handOn_all {l : List α} : ∀ {acc : List α}, (∀ a, go a = true) → handOn go acc l = (acc ++ l, true) := by
  induction l with
  | nil => intro acc _; simp [handOn]
  | cons x l ih => intro acc h; rw [handOn_yes (h _), ih h]; simp
end Go.Wb

namespace Go.Proofs.Ytckplcmieelmpaa.W
open Go.RowKit Go.Wb

/-- A function value (function g, what it captured) to which items are handed: J tells what was handed on so far; all that turns lies in S. -/
structure Hands (g : FuncId) (caps : Array Value) (go : List It → Bool) (J : List It → World → Prop) (S : Nat → Nat → Prop) (w0 : World) (N : Nat) : Prop where
  call : ∀ acc x W, J acc W → acc.length < N → Calls Try.prog g (#[kv (ky x), vv x] ++ caps) W fun e W' => e = .returned (.bool (go (acc ++ [x]))) ∧ J (acc ++ [x]) W'
  enter : ∀ args w, (callFunc g args).run Try.prog w = .ok (.enter g args) w
  keep : ∀ acc W, J acc W → Keep S w0 W
  calm : ∀ acc W W', J acc W → Keep Nothing W W' → J acc W'

/-- What handing on leaves. -/
def HandPost (J : List It → World → Prop) (r : List It × Bool) (e : Ending) (w' : World) : Prop := e = .returned (.bool r.2) ∧ J r.1 w'

/-- A node that stays while S turns, the head, and the cell that leads to it. -/
structure Stays (w0 : World) (S : Nat → Nat → Prop) (b : Nat) (hr : HRec) (pb po n : Nat) (r : NRec It) (L : Lay) : Prop where
  hdr : ∀ W, Keep S w0 W → Hdr W b hr
  cell : ∀ W, Keep S w0 W → W.cell? ⟨pb, po, none⟩ = some (ptr n)
  node : ∀ W, Keep S w0 W → NodeAt TT E W n r L
  iso : r.iso = hr.iso
  len : r.items.length ≤ 1000000000000

/-- The cells of an item of a node. -/
theorem node_item {w : World} {n : Nat} {r : NRec It} {L : Lay} (hn : NodeAt TT E w n r L) {i : Nat} {x : It} (hi : r.items[i]? = some x) : ∃ ib io, L.ia = some ⟨ib, io, none⟩ ∧
    w.cell? ⟨ib, io + i * 2 + 1, none⟩ = some (kv (ky x)) ∧ w.cell? ⟨ib, io + i * 2, none⟩ = some (.int .i64 x.2) := by
  obtain ⟨hil, _⟩ := List.getElem?_eq_some_iff.1 hi
  have hrow := hn.2.1
  obtain ⟨ib, io, hia, _⟩ := hrow.form (by rw [E.all_len]; exact Nat.mul_pos (by omega) E.pos)
  rw [hia] at hrow
  exact ⟨ib, io, hia, key_cell hrow hi, val_cell hrow hi⟩

/-- The cells of a child of a node. -/
theorem node_child {w : World} {n : Nat} {r : NRec It} {L : Lay} (hn : NodeAt TT E w n r L) {ns : List Nat} (hk : r.kids = some ns) {i m : Nat} (hi : ns[i]? = some m) : ∃ kb ko, L.ka = some ⟨kb, ko, none⟩ ∧ w.cell? ⟨n, 3, none⟩ = some (ptr L.cb) ∧
    w.cell? ⟨L.cb, 0, none⟩ = some (.slice (some ⟨kb, ko, none⟩) ns.length L.kcap) ∧ w.cell? ⟨kb, ko + i, none⟩ = some (ptr m) := by
  obtain ⟨c3, g1, _, hrow, _⟩ := hn.kids hk
  obtain ⟨hil, _⟩ := List.getElem?_eq_some_iff.1 hi
  obtain ⟨kb, ko, hka, _⟩ := hrow.form (by simp; omega)
  rw [hka] at hrow g1
  exact ⟨kb, ko, hka, c3, g1, hrow.cell (i := i) (v := ptr m) (by simp [hi])⟩

/-- All nodes of a tree stay while S turns, which is none of theirs. -/
structure StayAll (w0 : World) (S : Nat → Nat → Prop) (b : Nat) (hr : HRec) (H : Store It) (L : Nat → Lay) : Prop where
  hdr : ∀ W, Keep S w0 W → Hdr W b hr
  node : ∀ W, Keep S w0 W → ∀ n r, H n = some r → NodeAt TT E W n r (L n)

theorem TreeAt.stay {w0 : World} {b : Nat} {hr : HRec} {H : Store It} {L : Nat → Lay} {F : List Nat} {mn mx : Nat} {s : Sh} (T : TreeAt w0 b hr H L F mn mx s) {S : Nat → Nat → Prop} (hb : ∀ o, ¬ S b o) (hS : ∀ n r c o, H n = some r → fp TT n r (L n) c o → ¬ S c o) : StayAll w0 S b hr H L :=
  ⟨fun _ hk => blk_keep T.hdr hk hb, fun _ hk n r hr => (T.mem.at_ n r hr).keep hk fun c o hf => hS n r c o hr hf⟩

def HandedPost (J : List It → World → Prop) (r : List It × Bool) (e : Ending) (w' : World) : Prop := e = .returned (.tuple #[]) ∧ J r.1 w'

/-- What is given where a tree's items are handed to a function. -/
structure HandPre (w0 w : World) (b : Nat) (hr : HRec) (H : Store It) (L : Nat → Lay) (F : List Nat) (mn mx : Nat) (s : Sh) (g : FuncId) (caps : Array Value) (go : List It → Bool) (J : List It → World → Prop) (S : Nat → Nat → Prop) (N : Nat) : Prop where
  tree : TreeAt w0 b hr H L F mn mx s
  hands : Hands g caps go J S w0 N
  hb : ∀ o, ¬ S b o
  hS : ∀ n r c o, H n = some r → fp TT n r (L n) c o → ¬ S c o
  len : (its s).length ≤ N
  start : J [] w
theorem HandPre.calm {w0 w w' : World} {b : Nat} {hr : HRec} {H : Store It} {L : Nat → Lay} {F : List Nat} {mn mx : Nat} {s : Sh} {g : FuncId} {caps : Array Value} {go : List It → Bool} {J : List It → World → Prop} {S : Nat → Nat → Prop} {N : Nat} (P : HandPre w0 w b hr H L F mn mx s g caps go J S N) (hk : Keep Nothing w w') : HandPre w0 w' b hr H L F mn mx s g caps go J S N :=
  ⟨P.tree, P.hands, P.hb, P.hS, P.len, P.hands.calm _ _ _ P.start hk⟩
end Go.Proofs.Ytckplcmieelmpaa.W

namespace Go.Proofs.Ytckplcmieelmpaa.W
open Go.RowKit Go.Wb

/-- What a list keeps of an item. -/
def OE : Enc It := ⟨fun x => [kv (ky x), .int .i64 x.2], 2, fun _ => rfl, fun x v hv => by rcases List.mem_cons.1 hv with rfl | hv <;> first | rfl | (obtain rfl := List.mem_singleton.1 hv; rfl), by omega⟩
theorem elemO : Elem Try.prog 31 2 24 := ⟨by kernel_rfl, by kernel_rfl, by kernel_rfl⟩
/-- The list at block ob, its row in blocks from B on. -/
def OutAt (B ob : Nat) (acc : List It) (W : World) : Prop := ∃ a cap, W.heap[ob]? = some (.cells #[.slice a acc.length cap] 28 (0, 0)) ∧ Acc B W 31 2 a acc.length cap (OE.all acc)
def OutJ (w0 : World) (ob : Nat) (acc : List It) (W : World) : Prop := Keep (fun c _ => c = ob) w0 W ∧ OutAt w0.heap.size ob acc W
theorem OutJ.calm {w0 : World} {ob : Nat} {acc : List It} {W W' : World} (h : OutJ w0 ob acc W) (hk : Keep Nothing W W') : OutJ w0 ob acc W' := by
  obtain ⟨h1, a, cap, h2, h3⟩ := h
  exact ⟨h1.trans hk fun _ _ _ h => h.elim, a, cap, blk_keep h2 hk fun _ h => h, h3.quiet hk⟩

def TakePost (w0 : World) (ob : Nat) (n : Int) (acc : List It) (e : Ending) (W' : World) : Prop := e = .returned (.bool (upTo n acc)) ∧ OutJ w0 ob acc W'

set_option maxRecDepth 100000 in
set_option maxHeartbeats 8000000 in
theorem take_any {w0 : World} {ob kt kn : Nat} {n : Int} (hkt : w0.heap[kt]? = some (.cells #[ptr ob] 91 (0, 0))) (hkn : w0.heap[kn]? = some (.cells #[.int .i64 n] 3 (0, 0))) (d1 : kt ≠ ob) (d2 : kn ≠ ob) (hob : ob < w0.heap.size)
    (_hn1 : -9223372036854775808 ≤ n) (_hn2 : n ≤ 9223372036854775807) {acc : List It} {x : It} {W : World} (hJ : OutJ w0 ob acc W) (hl : acc.length < 4000000000000) :
    Calls Try.prog 155 #[.agg #[kv (ky x), .int .i64 x.2], ptr kt, ptr kn] W (TakePost w0 ob n (acc ++ [x])) := by
  obtain ⟨hK, a, cap, hout, hA⟩ := hJ
  have HKT := Lib.hid hkt
  have HKL := Lib.hid (lt_of_heap hkt)
  have HKN := Lib.hid hkn
  have HK := Lib.hid hK
  have HOUT := Lib.hid hout
  have HA := Lib.hid hA
  have HD1 := Lib.hid d1
  have HD2 := Lib.hid d2
  have hsz := hK.size
  have hobW := Nat.lt_of_lt_of_le hob hsz
  clear hkt hkn hK hout hA d1 d2
  unfold ptr kv at *
  go_enter Try.func155, Try.ntmps155
  go_upto_region 1 with (fail)
  refine wp_world ?_
  intro W1 hW1
  have k1 : Keep Nothing W W1 := by subst hW1; exact (Keep.refl _ _).al _
  have X1 : W1.heap[W.heap.size]? = some (.cells #[.string (ky x), .int .i64 x.2] 31 (0, 0)) := by subst hW1; exact heap_alloc_new W _
  clear hW1
  have HK1 : Hid (Keep (fun c _ => c = ob) w0 W1) := by exact HK.out.trans k1 fun _ _ _ h => h.elim
  have HO1 := Lib.hid (blk_keep HOUT.out k1 fun _ h => h)
  have HA1 := Lib.hid (HA.out.quiet k1)
  have kt1 := (blk1 (blk_keep HKT.out HK1.out fun _ e => HD1.out e)).1
  have kn1 := (blk1 (blk_keep HKN.out HK1.out fun _ e => HD2.out e)).1
  obtain ⟨co, fz⟩ := blk1 HO1.out
  have HX := Lib.hid X1
  obtain ⟨x0, x1, _⟩ := blk2 X1
  have hsz1 := HK1.out.size
  clear HK HOUT HA k1
  clear X1
  generalize W.heap.size = q at *
  refine wp_held (fun w' => w'.cell? ⟨kt, 0, none⟩ = some (.pointer (some ⟨ob, 0, none⟩)) ∧ w'.cell? ⟨ob, 0, none⟩ = some (.slice a acc.length cap)) [0, 1, 3] (by kernel_rfl) (by kernel_rfl) (by kernel_rfl) rfl ⟨kt1, co⟩ ?_
  simp only [segs, readsB, silentB, lenB, checks, List.nil_append]
  go_wp2_with fail
  refine held_world ?_
  intro W2 hW2
  have k2 : Keep Nothing W1 W2 := by subst hW2; exact ((Keep.refl _ _).al _).dr
  have N2 : W2.heap[W1.heap.size]? = some (.cells (OE.enc x).toArray 31 (0, 0)) := by subst hW2; exact heap_alloc_new W1 _
  clear hW2
  have HK2 : Hid (Keep (fun c _ => c = ob) w0 W2) := by exact HK1.out.trans k2 fun _ _ _ h => h.elim
  have HO2 := Lib.hid (blk_keep HO1.out k2 fun _ h => h)
  have HA2 := Lib.hid (HA1.out.quiet k2)
  have kt2 := k2.cell' kt1 fun h => h
  have co2 := (blk1 HO2.out).1
  have hsz2 := HK2.out.size
  clear HK1 HO1 HA1 co fz kt1 k2 kn1
  clear x0 x1 HX
  refine held_next ⟨kt2, co2⟩ ?_
  refine wpList_append_any rfl _ _ _ rfl 31 2 24 Try.underlying28 elemO a acc.length cap (OE.all acc) rfl HA2.out.row HA2.out.len ⟨W1.heap.size, 0, none⟩ 1 1 (OE.enc x) ?_ (OE.len _) ?_ (OE.one _) (by omega) HA2.out.le (by simp only [maxLen]; omega) (by omega) ?_
  · rfl
  · exact new_cells N2
  intro a' cap' W3 hG
  obtain ⟨hA3, hK3⟩ := HA2.out.grow hsz2 hG (OE.len _)
  have HA3 := Lib.hid hA3
  have HK3 : Hid (Keep (fun c _ => c = ob) w0 W3) := by exact HK2.out.trans hK3 fun x o hx h => absurd h (by omega)
  have HO3 := Lib.hid (blk_keep HO2.out hK3 fun o (h : w0.heap.size ≤ ob) => by omega)
  have kt3 := hK3.cell' kt2 (fun (h : w0.heap.size ≤ kt) => by have := HKL.out; omega)
  obtain ⟨co3, fz3⟩ := blk1 HO3.out
  clear HK2 HO2 HA2 hA3 hK3 hG N2 kt2 co2
  refine held_next ⟨kt3, co3⟩ ?_
  simp only [Act.put]
  go_wp2_with fail
  refine held_world ?_
  intro W4 hW4
  refine held_end ?_ ?_
  · refine ⟨?_, ?_, ?_, trivial⟩
    · exact ⟨.pointer (some ⟨ob, 0, none⟩), fun w' hS => by simp [execOp, hS.1, go_sem]⟩
    · exact ⟨.pointer (some ⟨ob, 0, none⟩), fun w' hS => by simp [execOp, hS.1, go_sem]⟩
    · exact ⟨.slice a acc.length cap, fun w' hS => by simp [execOp, hS.2, go_sem]⟩
  have eall : OE.all acc ++ OE.enc x = OE.all (acc ++ [x]) := by rw [Enc.all_append]; simp [Enc.all]
  have HK4 : Hid (Keep (fun c _ => c = ob) w0 W4) := by subst hW4; exact HK3.out.set _ _ _ fun _ => rfl
  have HO4 : Hid (W4.heap[ob]? = some (.cells #[.slice a' (acc.length + 1) cap'] 28 (0, 0))) := by subst hW4; exact blk_set _ HO3.out
  have HA4 : Hid (Acc w0.heap.size W4 31 2 a' (acc.length + 1) cap' (OE.all (acc ++ [x]))) := by
    rw [← eall]
    subst hW4
    exact HA3.out.calm (S := fun c _ => c = ob) (Keep.set (Keep.refl _ _) _ _ _ fun _ => rfl) fun c o h1 h2 => by omega
  have HJ4 : Hid (OutJ w0 ob (acc ++ [x]) W4) := by
    refine ⟨HK4.out, a', cap', ?_, ?_⟩
    · rw [List.length_append]; exact HO4.out
    · rw [List.length_append]; exact HA4.out
  have kt4 := (HK4.out.cell' (blk1 HKT.out).1 (HD1.out))
  have kn4 := (HK4.out.cell' (blk1 HKN.out).1 (HD2.out))
  have co4 := (blk1 HO4.out).1
  clear hW4 eall HK4 HO4 HA4 HK3 HO3 HA3 co3 fz3 kt3
  by_cases h1 : n < 1
  · have hu : upTo n (acc ++ [x]) = true := by simp [upTo, h1]
    go_wp2_with fail
    refine wp_calm (by kernel_rfl) (by kernel_rfl) rfl ?_
    simp only [List.flatMap_cons, List.flatMap_nil, checks, chk, nilLit, List.cons_append, List.nil_append, List.append_nil, Try.underlying3]
    go_wp2_with fail
    rw [HQ_normal]
    go_wp2_with fail
    go_ret
    rw [TakePost, hu]
    exact ⟨by first | rfl | simp [h1, h2] | simp [h1], HJ4.out.calm (Keep.drew _ _)⟩
  · by_cases h2 : (acc.length : Int) + 1 < n
    · have hu : upTo n (acc ++ [x]) = true := by simp [upTo, h2]
      have HU := Lib.hid hu
      clear hu
      go_wp2_with fail
      refine wp_calm (by kernel_rfl) (by kernel_rfl) rfl ?_
      simp only [List.flatMap_cons, List.flatMap_nil, checks, chk, nilLit, List.cons_append, List.nil_append, List.append_nil, Try.underlying3]
      go_wp2_with fail
      rw [HQ_normal]
      go_wp2_with fail
      go_ret
      rw [TakePost, HU.out]
      exact ⟨by first | rfl | simp [h1, h2] | simp [h1], HJ4.out.calm (Keep.drew _ _)⟩
    · have hu : upTo n (acc ++ [x]) = false := by simp [upTo, h1, h2]
      have HU := Lib.hid hu
      clear hu
      go_wp2_with fail
      refine wp_calm (by kernel_rfl) (by kernel_rfl) rfl ?_
      simp only [List.flatMap_cons, List.flatMap_nil, checks, chk, nilLit, List.cons_append, List.nil_append, List.append_nil, Try.underlying3]
      go_wp2_with fail
      rw [HQ_normal]
      go_wp2_with fail
      go_ret
      rw [TakePost, HU.out]
      exact ⟨by first | rfl | simp [h1, h2] | simp [h1], HJ4.out.calm (Keep.drew _ _)⟩

/-- The function value that keeps what is handed to it. -/
structure Taker (w0 : World) (ob kt kn : Nat) (n : Int) : Prop where
  t : w0.heap[kt]? = some (.cells #[ptr ob] 91 (0, 0))
  n : w0.heap[kn]? = some (.cells #[.int .i64 n] 3 (0, 0))
  d1 : kt ≠ ob
  d2 : kn ≠ ob
  ob : ob < w0.heap.size
def TakerPost (w : World) (ob : Nat) (n : Int) (e : Ending) (w' : World) : Prop := ∃ kt kn, e = .returned (.func (.func 155) #[] #[ptr kt, ptr kn]) ∧ Keep Nothing w w' ∧ Taker w' ob kt kn n
set_option maxHeartbeats 1000000 in
theorem taker_any {w : World} {ob : Nat} (hob : ob < w.heap.size) (n : Int) : Calls Try.prog 111 #[ptr ob, .int .i64 n] w (TakerPost w ob n) := by
  unfold ptr
  have hmf : ∀ (fn : Fn) (first cap : Array Value) (w : World), (Instr.makeFunc fn first cap).run Try.prog w = .ok (.func fn first cap) w := fun _ _ _ _ => rfl
  go_enter Try.func111, Try.ntmps111
  go_wp2_with fail
  go_ret
  refine ⟨_, _, rfl, ((Keep.refl _ _).al _).al _, blk_alloc _ (heap_alloc_new w _), ?_, by omega, ?_, ?_⟩
  · have := heap_alloc_new (w.alloc (.cells #[.pointer (some ⟨ob, 0, none⟩)] 91)) (.cells #[.int .i64 n] 3)
    rw [World.size_alloc] at this
    exact this
  · omega
  · simp; omega
end Go.Proofs.Ytckplcmieelmpaa.W

namespace Go.Proofs.Ytckplcmieelmpaa.W
open Go.RowKit Go.Wb

/-- The function value that hands a pair on to the taker. -/
structure Hander (w0 : World) (ob kf kt kn : Nat) (n : Int) : Prop where
  tk : Taker w0 ob kt kn n
  f : w0.heap[kf]? = some (.cells #[.func (.func 155) #[] #[ptr kt, ptr kn]] 66 (0, 0))
  ne : kf ≠ ob

set_option maxHeartbeats 1000000 in
theorem hand1_any {w0 : World} {ob kf kt kn : Nat} {n : Int} (hh : Hander w0 ob kf kt kn n) (hn1 : -9223372036854775808 ≤ n) (hn2 : n ≤ 9223372036854775807) {acc : List It} {x : It} {W : World} (hJ : OutJ w0 ob acc W) (hl : acc.length < 4000000000000) :
    Calls Try.prog 112 #[kv (ky x), vv x, ptr kf] W (TakePost w0 ob n (acc ++ [x])) := by
  have ht := Lib.hid (take_any hh.tk.t hh.tk.n hh.tk.d1 hh.tk.d2 hh.tk.ob hn1 hn2 (x := x) hJ hl)
  have cf := (blk1 (blk_keep hh.f hJ.1 fun _ e => hh.ne e)).1
  clear hh hJ hl
  unfold ptr kv vv at *
  go_enter Try.func112, Try.ntmps112
  go_wp2_with fail
  refine ht.out.mono ?_
  rintro e w' ⟨rfl, hJ⟩
  have HJ := Lib.hid hJ
  clear hJ ht
  go_wp2_with fail
  go_ret
  exact ⟨rfl, HJ.out⟩

theorem hands_of {w0 : World} {ob kf kt kn : Nat} {n : Int} (hh : Hander w0 ob kf kt kn n) (hn1 : -9223372036854775808 ≤ n) (hn2 : n ≤ 9223372036854775807) : Hands 112 #[ptr kf] (upTo n) (OutJ w0 ob) (fun c _ => c = ob) w0 4000000000000 :=
  ⟨fun _ _ _ hJ hl => hand1_any hh hn1 hn2 hJ hl, fun args w => Try.call112 args w, fun _ _ hJ => hJ.1, fun _ _ _ hJ hk => hJ.calm hk⟩

def HanderPost (w : World) (ob : Nat) (n : Int) (e : Ending) (w' : World) : Prop := ∃ kf kt kn, e = .returned (.func (.func 112) #[] #[ptr kf]) ∧ Keep Nothing w w' ∧ Hander w' ob kf kt kn n
set_option maxHeartbeats 1000000 in
theorem hander_any {w : World} {ob : Nat} (hob : ob < w.heap.size) (n : Int) : Calls Try.prog 61 #[ptr ob, .int .i64 n] w (HanderPost w ob n) := by
  have ht := Lib.hid (taker_any hob n)
  have hmf : ∀ (fn : Fn) (first cap : Array Value) (w : World), (Instr.makeFunc fn first cap).run Try.prog w = .ok (.func fn first cap) w := fun _ _ _ _ => rfl
  unfold ptr at *
  go_enter Try.func61, Try.ntmps61
  go_wp2_with fail
  refine ht.out.mono ?_
  rintro e w1 ⟨kt, kn, rfl, hk, tk⟩
  have HK := Lib.hid hk
  have TK := Lib.hid tk
  clear hk tk ht
  unfold ptr
  go_wp2_with fail
  go_ret
  have ka : Keep Nothing w1 (w1.alloc (.cells #[.func (.func 155) #[] #[.pointer (some ⟨kt, 0, none⟩), .pointer (some ⟨kn, 0, none⟩)]] 66)) := Keep.alloc _ _ _
  have hsz := HK.out.size
  exact ⟨_, kt, kn, rfl, HK.out.trans ka fun _ _ _ h => h, ⟨blk_keep TK.out.t ka fun _ h => h, blk_keep TK.out.n ka fun _ h => h, TK.out.d1, TK.out.d2, by simp; omega⟩, heap_alloc_new w1 _, by omega⟩

/-- An empty list at block ob. -/
theorem outJ_start {w0 : World} {ob : Nat} (h : w0.heap[ob]? = some (.cells #[.slice none 0 0] 28 (0, 0))) : OutJ w0 ob [] w0 := ⟨Keep.refl _ _, none, 0, h, Acc.nil _ _ _ _⟩
end Go.Proofs.Ytckplcmieelmpaa.W

namespace Go.Proofs.Ytckplcmieelmpaa.W
open Go.RowKit Go.Wb

set_option maxRecDepth 100000 in
set_option maxHeartbeats 8000000 in
theorem scan_leaf {w0 w : World} {b : Nat} {hr : HRec} {pb po n : Nat} {g : FuncId} {caps : Array Value} {go : List It → Bool} {J : List It → World → Prop} {S : Nat → Nat → Prop} {N : Nat} {r : NRec It} {L : Lay}
    (HD : Hands g caps go J S w0 N) (A : Stays w0 S b hr pb po n r L) (hkn : r.kids = none) {acc : List It} (hJ : J acc w) (hN : acc.length + r.items.length ≤ N) :
    Calls Try.prog 177 #[ptr b, .pointer (some ⟨pb, po, none⟩), .func (.func g) #[] caps, .bool false] w (HandPost J (handOn go acc r.items)) := by
  have HH := Lib.hid HD
  have hcf := HD.enter
  have HA := Lib.hid A
  have HJ := Lib.hid hJ
  have hk0 := HD.keep _ _ hJ
  have hiso := Lib.hid (isoLoad_own (A.hdr w hk0) (A.cell w hk0) (A.node w hk0) A.iso false)
  have HKN := Lib.hid hkn
  have hlen := A.len
  clear HD A hJ hk0 hkn
  unfold ptr at *
  go_enter Try.func177, Try.ntmps177
  go_wp2_with fail
  refine hiso.out.mono ?_
  rintro e w1 ⟨rfl, kd, rfl⟩
  have HJ1 : Hid (J acc (w.drewN kd)) := by exact HH.out.calm _ _ _ HJ.out (Keep.drewN _ _ _)
  clear hiso HJ
  generalize w.drewN kd = w1 at *
  have hlv := leaf_any (HA.out.node w1 (HH.out.keep _ _ HJ1.out))
  rw [HKN.out] at hlv
  simp only [Option.isNone_none] at hlv
  unfold ptr at *
  go_wp2_with fail
  refine hlv.mono ?_
  rintro e w2 ⟨rfl, rfl⟩
  clear hlv
  go_wp2_with fail
  go_loopg [10] (r.items.length + 1) (fun k v10 wr => ∃ (i : Nat) (acc' : List It), v10 = .int .i64 i ∧ i ≤ r.items.length ∧ i + k = r.items.length + 1 ∧ J acc' wr ∧ handOn go acc r.items = handOn go acc' (r.items.drop i) ∧ acc'.length + (r.items.length - i) ≤ N)
  case atStart => exact ⟨0, acc, rfl, by omega, by omega, HJ1.out, by simp, by omega⟩
  case round =>
    obtain ⟨i, acc', rfl, hil, hik, hJr, heq, hNr⟩ := hrel
    have HJr := Lib.hid hJr
    have HEQ := Lib.hid heq
    have N1 := Lib.hid (HA.out.node wr (HH.out.keep _ _ hJr))
    obtain ⟨d0, d1, c2, d3, fz⟩ := N1.out.own
    clear d0 d1 d3 hJr heq
    by_cases hlt : i < r.items.length
    · have hx : r.items[i]? = some r.items[i] := List.getElem?_eq_getElem hlt
      have hd : r.items.drop i = r.items[i] :: r.items.drop (i + 1) := List.drop_eq_getElem_cons hlt
      generalize r.items[i] = x at *
      have HD := Lib.hid hd
      obtain ⟨ib, io, hia, ck⟩ := node_item N1.out hx
      rw [hia] at c2
      obtain ⟨ck, cv⟩ := ck
      have hcall := Lib.hid (HH.out.call acc' x wr.drew (HH.out.calm _ _ _ HJr.out (Keep.drew _ _)) (by omega))
      clear hd hx hia
      unfold kv vv at *
      go_wp2_with fail
      refine wp_calm (by kernel_rfl) (by kernel_rfl) rfl ?_
      simp only [List.flatMap_cons, List.flatMap_nil, checks, chk, nilLit, List.cons_append, List.nil_append, List.append_nil]
      go_wp2_with fail
      cases hg : go (acc' ++ [x]) with
      | true =>
        have HG := Lib.hid hg
        rw [hg] at hcall
        clear hg
        refine hcall.out.mono ?_
        rintro e w3 ⟨rfl, hJ3⟩
        have HJ3 := Lib.hid hJ3
        clear hJ3 hcall
        go_wp2_with fail
        rw [HQ_normal]
        go_wp2_with fail
        go_roundg (r.items.length - i)
        case measure => omega
        case rel => exact ⟨i + 1, acc' ++ [x], by go_num, by omega, by omega, HJ3.out, by rw [HEQ.out, HD.out, handOn_yes HG.out], by simp; omega⟩
      | false =>
        have HG := Lib.hid hg
        rw [hg] at hcall
        clear hg
        refine hcall.out.mono ?_
        rintro e w3 ⟨rfl, hJ3⟩
        have HJ3 := Lib.hid hJ3
        clear hJ3 hcall
        go_wp2_with fail
        rw [HQ_normal]
        go_wp2_with fail
        go_ret
        rw [HEQ.out, HD.out, handOn_no HG.out]
        exact ⟨rfl, HJ3.out⟩
    · have hi : i = r.items.length := by omega
      subst hi
      go_wp2_with fail
      go_ret
      rw [HEQ.out, List.drop_eq_nil_of_le (Nat.le_refl _)]
      exact ⟨rfl, HJr.out⟩

set_option maxRecDepth 100000 in
set_option maxHeartbeats 8000000 in
theorem scan_inner {w0 w : World} {b : Nat} {hr : HRec} {pb po n h : Nat} {g : FuncId} {caps : Array Value} {go : List It → Bool} {J : List It → World → Prop} {S : Nat → Nat → Prop} {N : Nat} {r : NRec It} {L : Lay}
    (HD : Hands g caps go J S w0 N) (A : Stays w0 S b hr pb po n r L) {ns : List Nat} (hkn : r.kids = some ns) {ks : List (Tr It)} (hks : ks.length = r.items.length + 1) (hnl : ns.length = ks.length)
    (IH : ∀ (i m : Nat) (k : Tr It) (kb ko : Nat) (acc : List It) (W : World), ns[i]? = some m → ks[i]? = some k → L.ka = some ⟨kb, ko, none⟩ → J acc W → acc.length + (flat h k).length ≤ N →
      Calls Try.prog 177 #[ptr b, .pointer (some ⟨kb, ko + i, none⟩), .func (.func g) #[] caps, .bool false] W (HandPost J (handOn go acc (flat h k))))
    {acc : List It} (hJ : J acc w) (hN : acc.length + (flat (h + 1) (.node r.items ks)).length ≤ N) :
    Calls Try.prog 177 #[ptr b, .pointer (some ⟨pb, po, none⟩), .func (.func g) #[] caps, .bool false] w (HandPost J (handOn go acc (flat (h + 1) (.node r.items ks)))) := by
  have HH := Lib.hid HD
  have hcf := HD.enter
  have HA := Lib.hid A
  have HJ := Lib.hid hJ
  have HI := Lib.hid IH
  have hk0 := HD.keep _ _ hJ
  have hiso := Lib.hid (isoLoad_own (A.hdr w hk0) (A.cell w hk0) (A.node w hk0) A.iso false)
  have HKN := Lib.hid hkn
  have HKS := Lib.hid hks
  have HNL := Lib.hid hnl
  have hlen := A.len
  clear HD A hJ hk0 hkn IH hks hnl
  unfold ptr at *
  go_enter Try.func177, Try.ntmps177
  go_wp2_with fail
  refine hiso.out.mono ?_
  rintro e w1 ⟨rfl, kd, rfl⟩
  have HJ1 : Hid (J acc (w.drewN kd)) := by exact HH.out.calm _ _ _ HJ.out (Keep.drewN _ _ _)
  clear hiso HJ
  generalize w.drewN kd = w1 at *
  have hlv := leaf_any (HA.out.node w1 (HH.out.keep _ _ HJ1.out))
  rw [HKN.out] at hlv
  simp only [Option.isNone_some] at hlv
  unfold ptr at *
  go_wp2_with fail
  refine hlv.mono ?_
  rintro e w2 ⟨rfl, rfl⟩
  clear hlv
  go_wp2_with fail
  go_loopg [11] (r.items.length + 1) (fun k v11 wr => ∃ (i : Nat) (acc' : List It), v11 = .int .i64 i ∧ i ≤ r.items.length ∧ i + k = r.items.length + 1 ∧ J acc' wr ∧ handOn go acc (flat (h + 1) (.node r.items ks)) = handOn go acc' (tl h r.items ks i) ∧ acc'.length + (tl h r.items ks i).length ≤ N)
  case atStart => exact ⟨0, acc, rfl, by omega, by omega, HJ1.out, by rw [tl_zero], by rw [← tl_zero]; exact hN⟩
  case round =>
    obtain ⟨i, acc', rfl, hil, hik, hJr, heq, hNr⟩ := hrel
    have HJr := Lib.hid hJr
    have HEQ := Lib.hid heq
    have N1 := Lib.hid (HA.out.node wr (HH.out.keep _ _ hJr))
    obtain ⟨d0, d1, c2, d3, fz⟩ := N1.out.own
    have hkl : ks[i]? = some (ks[i]'(by have := HKS.out; omega)) := List.getElem?_eq_getElem _
    have hnl : ns[i]? = some (ns[i]'(by have := HKS.out; have := HNL.out; omega)) := List.getElem?_eq_getElem _
    have hnsl : i < ns.length := (List.getElem?_eq_some_iff.1 hnl).1
    generalize ns[i]'(by have := HKS.out; have := HNL.out; omega) = m at *
    generalize ks[i]'(by have := HKS.out; omega) = k at *
    obtain ⟨kb, ko, hka, c3, g1, ck⟩ := node_child N1.out HKN.out hnl
    have HKL := Lib.hid hkl
    unfold ptr at *
    by_cases hlt : i < r.items.length
    · have hx : r.items[i]? = some r.items[i] := List.getElem?_eq_getElem hlt
      generalize r.items[i] = x at *
      have HTL := Lib.hid (tl_succ (h := h) hkl hx HKS.out)
      have hlen2 : Hid (acc'.length + (flat h k).length + 1 + (tl h r.items ks (i + 1)).length ≤ N) := by
        have := hNr; rw [HTL.out] at this; simp only [List.length_append, List.length_cons] at this; exact Lib.hid (by omega)
      have hcall := Lib.hid (HI.out i m k kb ko acc' wr hnl hkl hka HJr.out (by have := hlen2.out; omega))
      have HX := Lib.hid hx
      clear d0 d1 d3 hJr heq hkl hnl hka hx
      obtain ⟨⟨a1, yes⟩, hro⟩ : ∃ p, handOn go acc' (flat h k) = p := ⟨_, rfl⟩
      have HRO := Lib.hid hro
      rw [hro] at hcall
      clear hro
      go_wp2_with fail
      refine hcall.out.mono ?_
      rintro e w3 ⟨rfl, hJ3⟩
      have HJ3 := Lib.hid hJ3
      clear hJ3 hcall N1 c2 fz c3 g1 ck
      cases yes with
      | false =>
        go_wp2_with fail
        go_ret
        rw [HEQ.out, HTL.out, handOn_end HRO.out]
        exact ⟨rfl, HJ3.out⟩
      | true =>
        have N3 := Lib.hid (HA.out.node w3 (HH.out.keep _ _ HJ3.out))
        obtain ⟨d0, d1, c2, d3, fz⟩ := N3.out.own
        obtain ⟨ib, io, hia, ck⟩ := node_item N3.out HX.out
        rw [hia] at c2
        obtain ⟨ck, cv⟩ := ck
        have hcall := Lib.hid (HH.out.call a1 x w3.drew (HH.out.calm _ _ _ HJ3.out (Keep.drew _ _)) (by have := handOn_len HRO.out; have := hlen2.out; omega))
        clear d0 d1 d3 hia
        unfold kv vv at *
        simp only at HJ3 HRO
        go_wp2_with fail
        refine wp_calm (by kernel_rfl) (by kernel_rfl) rfl ?_
        simp only [List.flatMap_cons, List.flatMap_nil, checks, chk, nilLit, List.cons_append, List.nil_append, List.append_nil]
        go_wp2_with fail
        cases hg : go (a1 ++ [x]) with
        | true =>
          have HG := Lib.hid hg
          rw [hg] at hcall
          clear hg
          refine hcall.out.mono ?_
          rintro e w4 ⟨rfl, hJ4⟩
          have HJ4 := Lib.hid hJ4
          clear hJ4 hcall
          go_wp2_with fail
          rw [HQ_normal]
          go_wp2_with fail
          go_roundg (r.items.length - i)
          case measure => omega
          case rel => exact ⟨i + 1, a1 ++ [x], by go_num, by omega, by omega, HJ4.out, by rw [HEQ.out, HTL.out, handOn_on HRO.out, handOn_yes HG.out], by have := handOn_len HRO.out; have := hlen2.out; simp; omega⟩
        | false =>
          have HG := Lib.hid hg
          rw [hg] at hcall
          clear hg
          refine hcall.out.mono ?_
          rintro e w4 ⟨rfl, hJ4⟩
          have HJ4 := Lib.hid hJ4
          clear hJ4 hcall
          go_wp2_with fail
          rw [HQ_normal]
          go_wp2_with fail
          go_ret
          rw [HEQ.out, HTL.out, handOn_on HRO.out, handOn_no HG.out]
          exact ⟨rfl, HJ4.out⟩
    · have hi : i = r.items.length := by omega
      subst hi
      have hcall := Lib.hid (HI.out _ m k kb ko acc' wr.drew hnl hkl hka (HH.out.calm _ _ _ HJr.out (Keep.drew _ _)) (by have := hNr; rw [tl_last hkl HKS.out] at this; exact this))
      rw [HNL.out, HKS.out] at g1
      clear d0 d1 d3 hJr heq hkl hnl hka
      go_wp2_with fail
      refine wp_calm (by kernel_rfl) (by kernel_rfl) rfl ?_
      simp only [List.flatMap_cons, List.flatMap_nil, checks, chk, nilLit, List.cons_append, List.nil_append, List.append_nil]
      go_wp2_with fail
      refine hcall.out.mono ?_
      rintro e w3 ⟨rfl, hJ3⟩
      have HJ3 := Lib.hid hJ3
      clear hJ3 hcall
      go_wp2_with fail
      rw [HQ_normal]
      go_wp2_with fail
      go_ret
      rw [HEQ.out, tl_last HKL.out HKS.out]
      exact ⟨rfl, HJ3.out⟩

/-- THE SCAN below a node. -/
theorem scan_any {w0 : World} {b : Nat} {hr : HRec} {H : Store It} {L : Nat → Lay} {g : FuncId} {caps : Array Value} {go : List It → Bool} {J : List It → World → Prop} {S : Nat → Nat → Prop} {N : Nat} {mn mx : Nat}
    (HD : Hands g caps go J S w0 N) (A : StayAll w0 S b hr H L) (hmx : mx ≤ 1000000000000) : ∀ (h l n : Nat) (t : Tr It) (F : List Nat), Rep H hr.iso h n t F → wfr l mn mx h t → ∀ (pb po : Nat), (∀ W, Keep S w0 W → W.cell? ⟨pb, po, none⟩ = some (ptr n)) → ∀ (acc : List It) (w : World), J acc w → acc.length + (flat h t).length ≤ N →
    Calls Try.prog 177 #[ptr b, .pointer (some ⟨pb, po, none⟩), .func (.func g) #[] caps, .bool false] w (HandPost J (handOn go acc (flat h t)))
  | 0, l, n, t, F, hrp, wf, pb, po, hc, acc, w, hJ, hN => by
    obtain ⟨r, h1, h2, h3, h4, h5, h6, _⟩ := hrp
    obtain ⟨its, ks⟩ := t
    simp only [Tr.its, flat] at *
    subst h3
    exact scan_leaf HD ⟨A.hdr, hc, fun W k => A.node W k n r h1, h2, by have := wf.2.1; simp only [Tr.its] at this; omega⟩ h5 hJ hN
  | h + 1, l, n, t, F, hrp, wf, pb, po, hc, acc, w, hJ, hN => by
    obtain ⟨r, ns, F', h1, h2, h3, h4, h5, h6, _⟩ := hrp
    obtain ⟨w1, w2, w3, w4⟩ := wf
    obtain ⟨its, ks⟩ := t
    simp only [Tr.its, Tr.ks] at *
    subst h3
    refine scan_inner HD ⟨A.hdr, hc, fun W k => A.node W k n r h1, h2, by omega⟩ h4 w3 h6.len (fun i m k kb ko acc W hm1 hk hka hJ hN => ?_) hJ hN
    obtain ⟨G, hR⟩ := h6.get hm1 hk
    refine scan_any HD A hmx h mn m k G hR (w4 k (List.mem_of_getElem? hk)) kb (ko + i) (fun W' hk' => ?_) acc W hJ hN
    obtain ⟨kb', ko', hka', _, _, ck⟩ := node_child (A.node W' hk' n r h1) h4 hm1
    rw [hka] at hka'
    obtain ⟨rfl, rfl⟩ : kb = kb' ∧ ko = ko' := by simpa using hka'
    exact ck
end Go.Proofs.Ytckplcmieelmpaa.W

namespace Go.Proofs.Ytckplcmieelmpaa.W
open Go.RowKit Go.Wb

set_option maxHeartbeats 2000000 in
theorem lowScan_any {w0 w : World} {b : Nat} {hr : HRec} {H : Store It} {L : Nat → Lay} {F : List Nat} {mn mx : Nat} {s : Sh} {g : FuncId} {caps : Array Value} {go : List It → Bool} {J : List It → World → Prop} {S : Nat → Nat → Prop} {N : Nat} (P : HandPre w0 w b hr H L F mn mx s g caps go J S N) :
    Calls Try.prog 133 #[ptr b, .func (.func g) #[] caps, .bool false] w (HandedPost J (handOn go [] (its s))) := by
  have T := P.tree
  have A := T.stay P.hb P.hS
  have hk0 := P.hands.keep _ _ P.start
  have c2 := hdr_root (A.hdr w hk0)
  cases s with
  | none =>
    obtain ⟨hroot, _⟩ := T.root
    rw [hroot] at c2
    simp only [rootV, Option.map_none] at c2
    have HP := Lib.hid P
    clear P T A hk0 hroot
    unfold ptr at *
    go_enter Try.func133, Try.ntmps133
    go_wp2_with fail
    go_end0
    exact ⟨rfl, HP.out.start⟩
  | some q =>
    obtain ⟨h, t⟩ := q
    obtain ⟨n, hroot, rep, wf⟩ := T.root
    rw [hroot] at c2
    simp only [rootV, Option.map_some] at c2
    have hcall := Lib.hid (scan_any P.hands A T.par.hb h 1 n t F rep wf b 2 (fun W hK => by have := hdr_root (A.hdr W hK); rw [hroot] at this; exact this) [] w P.start (by have := P.len; simp only [its, List.length_nil, Nat.zero_add] at *; exact this))
    have HP := Lib.hid P
    clear P T A hk0 hroot rep wf
    unfold ptr at *
    go_enter Try.func133, Try.ntmps133
    go_wp2_with fail
    refine hcall.out.mono ?_
    rintro e w' ⟨rfl, hJ⟩
    have HJ := Lib.hid hJ
    clear hJ hcall
    go_wp2_with fail
    go_end0
    exact ⟨rfl, HJ.out⟩

set_option maxHeartbeats 1000000 in
theorem mapScan_any {w0 w : World} {b : Nat} {hr : HRec} {H : Store It} {L : Nat → Lay} {F : List Nat} {mn mx : Nat} {s : Sh} {g : FuncId} {caps : Array Value} {go : List It → Bool} {J : List It → World → Prop} {S : Nat → Nat → Prop} {N : Nat} (P : HandPre w0 w b hr H L F mn mx s g caps go J S N) :
    Calls Try.prog 85 #[ptr b, .func (.func g) #[] caps] w (HandedPost J (handOn go [] (its s))) := by
  have hcall := Lib.hid (lowScan_any P)
  clear P
  unfold ptr at *
  go_enter Try.func85, Try.ntmps85
  go_wp2_with fail
  refine hcall.out.mono ?_
  rintro e w' ⟨rfl, hJ⟩
  have HJ := Lib.hid hJ
  clear hJ hcall
  go_wp2_with fail
  go_end0
  exact ⟨rfl, HJ.out⟩
end Go.Proofs.Ytckplcmieelmpaa.W

namespace Go.Wb
open Go Go.RowKit

/-- The cells of a slice that is only read. -/
def Given (w : World) (a : Option Addr) (cs : List Value) : Prop := cs = [] ∨ ∃ b o, a = some ⟨b, o, none⟩ ∧ ∀ i v, cs[i]? = some v → w.cell? ⟨b, o + i, none⟩ = some v

theorem Given.keep {w w' : World} {a : Option Addr} {cs : List Value} (h : Given w a cs) (hk : Keep (fun _ _ => False) w w') : Given w' a cs := by
  rcases h with h | ⟨b, o, h1, h2⟩
  · exact .inl h
  · exact .inr ⟨b, o, h1, fun i v hi => hk.cell' (h2 i v hi) fun h => h⟩
theorem Given.cell {w : World} {a : Option Addr} {cs : List Value} (h : Given w a cs) {i : Nat} (hi : i < cs.length) : ∃ b o, a = some ⟨b, o, none⟩ ∧ w.cell? ⟨b, o + i, none⟩ = some cs[i] := by
  rcases h with h | ⟨b, o, h1, h2⟩
  · subst h; simp at hi
  · exact ⟨b, o, h1, h2 i _ (by simp)⟩
theorem Row.reads {w : World} {ty s : Nat} {a : Option Addr} {cap : Nat} {cs : List Value} (h : Row w ty s a cap cs) : Given w a cs := by
  rcases h with ⟨_, _, h⟩ | ⟨b, o, arr, rfl, h2, h3, h4, h5⟩
  · exact .inl h
  · exact .inr ⟨b, o, rfl, fun i v hi => by simp [World.cell?, h2, h5 i v hi]⟩
/-- In a window of blocks that were there, too. -/
theorem Given.keep' {S : Nat → Nat → Prop} {w w' : World} {a : Option Addr} {cs : List Value} (h : Given w a cs) (hk : Keep S w w') (hS : ∀ b o, b < w.heap.size → ¬ S b o) : Given w' a cs := h.keep (hk.mono fun b o hb hs => (hS b o hb hs).elim)
end Go.Wb

namespace Go.Wb
open Go Go.RowKit

/-- Nothing is appended. -/
theorem run_append_zero {P : Program} (w : World) (t ty e : TypeId) (s b : Nat) (ht : P.underlying t = some (.slice e)) (he : Elem P e s b) (a : Option Addr) (n cap : Nat) (hle : n ≤ cap) (sa : Option Addr) (c : Nat) :
    (Builtin.append_ #[t, t] ty #[.slice a n cap, .slice sa 0 c]).run P w = .ok (.slice a n cap) w := by
  obtain ⟨h2, _, _⟩ := he
  cases hi : P.info? e with
  | none => rw [hi] at h2; cases h2
  | some i =>
    have hst : ∀ q : Addr, (storeCells q ([] : List Value)).run P w = .ok () w := fun q => by simp [storeCells]
    cases sa with
    | none => cases a <;> simp [Builtin.append_, run_underlying ht, sizeOf, typeInfo, hi, Builtin.lenOf, hle, Builtin.firstCells, hst]
    | some ad =>
      have hf := run_firstCells_some (P := P) w i.size 0 ad 0 c [] (by simp) (by simp)
      cases a <;> simp [Builtin.append_, run_underlying ht, sizeOf, typeInfo, hi, Builtin.lenOf, hle, hf, hst]

/-- Whatever list is appended. -/
theorem run_append_src {P : Program} (w : World) (t ty e : TypeId) (s b : Nat) (ht : P.underlying t = some (.slice e)) (he : Elem P e s b)
    (a : Option Addr) (n cap : Nat) (xs : List Value) (hrow : Row w e s a cap xs) (hn : xs.length = n * s)
    (sa : Option Addr) (m c : Nat) (news : List Value) (hs : 0 < s) (hl : news.length = m * s) (hnews : Given w sa news) (h1 : ∀ u ∈ news, u.oneCell' = true)
    (hle : n ≤ cap) (h63 : n + m ≤ maxLen) (hbytes : (n + m) * b ≤ 140737488355328) :
    ∃ a' cap' w', (Builtin.append_ #[t, t] ty #[.slice a n cap, .slice sa m c]).run P w = .ok (.slice a' (n + m) cap') w' ∧ Grew w w' e s a a' n m cap cap' (xs ++ news) := by
  by_cases hm : m = 0
  · subst hm
    obtain rfl : news = [] := by simpa using hl
    exact ⟨a, cap, w, run_append_zero w t ty e s b ht he a n cap hle sa c, ⟨by simpa using hrow, Keep.refl _ _, fun _ _ h => .inl h, by omega⟩⟩
  · rcases hnews with h | ⟨q, o, rfl, hc⟩
    · subst h
      have : 0 < m * s := Nat.mul_pos (by omega) hs
      simp at hl
      omega
    · exact run_append_any w t ty e s b ht he a n cap xs hrow hn ⟨q, o, none⟩ m c news hl (fun j u hj => by
        have hadd : (⟨q, o, none⟩ : Addr).add j = ⟨q, o + j, none⟩ := by unfold Addr.add; split <;> simp_all
        rw [hadd]; exact hc j u hj) h1 (by omega) hle h63 hbytes

theorem wpList_append_src {P : Program} {w : World} {ops : Array Oper} {rest : List Oper} {o : Oper} {a : Act} {Q : Exit → Act → World → Prop} (hgd : o.guard = none) (s x : Operand) (t : TypeId)
    (ho : o.op = .call { callee := .builtin .append, args := #[s, x], argTypes := #[t, t] })
    (e : TypeId) (sz b : Nat) (ht : P.underlying t = some (.slice e)) (he : Elem P e sz b)
    (aa : Option Addr) (n cap : Nat) (xs : List Value) (hs : a.eval s = .slice aa n cap) (hrow : Row w e sz aa cap xs) (hn : xs.length = n * sz)
    (sa : Option Addr) (m c : Nat) (news : List Value) (hx : a.eval x = .slice sa m c) (hsz : 0 < sz) (hl : news.length = m * sz) (hnews : Given w sa news) (h1 : ∀ u ∈ news, u.oneCell' = true)
    (hle : n ≤ cap) (h63 : n + m ≤ maxLen) (hbytes : (n + m) * b ≤ 140737488355328)
    (h : ∀ a' cap' w', Grew w w' e sz aa a' n m cap cap' (xs ++ news) → wpList P ops Q rest (a.put o.dst (.slice a' (n + m) cap')) w') : wpList P ops Q (o :: rest) a w := by
  refine wpList_plain hgd fun K hK => ?_
  obtain ⟨a', cap', w', hr, hg⟩ := run_append_src (P := P) w t o.type e sz b ht he aa n cap xs hrow hn sa m c news hsz hl hnews h1 hle h63 hbytes
  unfold Oper.wp execOp
  simp only [ho, resolve, invoke, builtin, Sem.run_bind, Sem.run_pure, Result.andThen_ok, List.map_toArray, List.map_cons, List.map_nil, hs, hx, hr]
  exact hK _ _ (h a' cap' w' hg)

/-- A part of a given slice. -/
theorem Given.drop {w : World} {a : Option Addr} {cs : List Value} (h : Given w a cs) (k : Nat) {b o : Nat} (ha : a = some ⟨b, o, none⟩) : Given w (some ⟨b, o + k, none⟩) (cs.drop k) := by
  rcases h with h | ⟨b', o', h1, h2⟩
  · subst h; exact .inl (by simp)
  · rw [ha] at h1
    obtain ⟨rfl, rfl⟩ : b = b' ∧ o = o' := by simpa using h1
    refine .inr ⟨b, o + k, rfl, fun i v hi => ?_⟩
    rw [List.getElem?_drop] at hi
    have := h2 (k + i) v hi
    rwa [← Nat.add_assoc] at this
theorem Given.take {w : World} {a : Option Addr} {cs : List Value} (h : Given w a cs) (k : Nat) : Given w a (cs.take k) := by
  rcases h with h | ⟨b', o', h1, h2⟩
  · subst h; exact .inl (by simp)
  · refine .inr ⟨b', o', h1, fun i v hi => h2 i v ?_⟩
    rw [List.getElem?_take] at hi
    split at hi
    · exact hi
    · cases hi
end Go.Wb

namespace Go.Wb
open Go Go.RowKit

theorem int_wf {n : Int} (h : (Lit.int .i64 n).wf = true) : -9223372036854775808 ≤ n ∧ n ≤ 9223372036854775807 := by
  simp only [Lit.wf, Bool.and_eq_true] at h
  have h1 := of_decide_eq_true h.1
  have h2 := of_decide_eq_true h.2
  rw [show IntKind.i64.min = -9223372036854775808 from rfl] at h1
  rw [show IntKind.i64.max = 9223372036854775807 from rfl] at h2
  exact ⟨h1, h2⟩
/-- A new block reads as what was laid into it. -/
theorem new_given (w : World) (cs : List Value) (ty : TypeId) : Given (w.alloc (.cells cs.toArray ty)) (some ⟨w.heap.size, 0, none⟩) cs :=
  .inr ⟨_, 0, rfl, fun i v hi => by rw [Nat.zero_add]; have h := heap_alloc_new w (.cells cs.toArray ty); simp only [World.cell?, h]; simpa using hi⟩
/-- A slice that grows, told. -/
structure Rw where
  ty : Nat
  s : Nat
  a : Option Addr
  n : Nat
  cap : Nat
  cs : List Value
def Rw.fp (r : Rw) (b : Nat) : Prop := ∃ o, rowFp r.a (r.cap * r.s) b o
/-- Slices that grow, in blocks of their own from B on. -/
structure Accs (B : Nat) (w : World) (l : List Rw) : Prop where
  acc : ∀ (i : Nat) (r : Rw), l[i]? = some r → Acc B w r.ty r.s r.a r.n r.cap r.cs
  apart : ∀ (i j : Nat) (r q : Rw), i ≠ j → l[i]? = some r → l[j]? = some q → ∀ b, r.fp b → q.fp b → False

variable {B : Nat} {w w' : World} {l : List Rw}
theorem Accs.nil (B : Nat) (w : World) : Accs B w [] := ⟨fun i r h => by simp at h, fun i j r q _ h => by simp at h⟩
theorem Accs.quiet (h : Accs B w l) (hk : Keep (fun _ _ => False) w w') : Accs B w' l := ⟨fun i r hi => (h.acc i r hi).quiet hk, h.apart⟩
/-- What turns is none of the rows'. -/
theorem Accs.calm (h : Accs B w l) {S : Nat → Nat → Prop} (hk : Keep S w w') (hS : ∀ b o, B ≤ b → ¬ S b o) : Accs B w' l := ⟨fun i r hi => (h.acc i r hi).calm hk hS, h.apart⟩
/-- One more, in new blocks. -/
theorem Accs.add (h : Accs B w l) (hB : B ≤ w.heap.size) (hk : Keep (fun _ _ => False) w w') {r : Rw} (hr : Row w' r.ty r.s r.a r.cap r.cs) (hl : r.cs.length = r.n * r.s) (hle : r.n ≤ r.cap) (hn : ∀ b, r.fp b → w.heap.size ≤ b) : Accs B w' (l ++ [r]) := by
  have get : ∀ (i : Nat) (q : Rw), (l ++ [r])[i]? = some q → l[i]? = some q ∨ (i = l.length ∧ q = r) := fun i q hi => by
    rw [List.getElem?_append] at hi
    split at hi
    · exact .inl hi
    · rename_i hlt
      have : i - l.length = 0 := by
        rcases Nat.eq_zero_or_pos (i - l.length) with h | h
        · exact h
        · rw [List.getElem?_eq_none (by simp; omega)] at hi; cases hi
      rw [this] at hi
      exact .inr ⟨by omega, by simpa using hi.symm⟩
  have old : ∀ (i : Nat) (q : Rw), l[i]? = some q → ∀ b, q.fp b → b < w.heap.size := fun i q hi b ⟨o, hf⟩ => rowFp_lt (h.acc i q hi).row hf
  refine ⟨fun i q hi => ?_, fun i j p q hij hi hj b hp hq => ?_⟩
  · rcases get i q hi with h1 | ⟨_, rfl⟩
    · exact (h.acc i q h1).quiet hk
    · exact ⟨hr, hl, hle, fun b o hf => Nat.le_trans hB (hn b ⟨o, hf⟩)⟩
  · rcases get i p hi with h1 | ⟨e1, rfl⟩ <;> rcases get j q hj with h2 | ⟨e2, rfl⟩
    · exact h.apart i j p q hij h1 h2 b hp hq
    · have := old i p h1 b hp; have := hn b hq; omega
    · have := old j q h2 b hq; have := hn b hp; omega
    · omega
theorem Accs.addNil (h : Accs B w l) (hB : B ≤ w.heap.size) (ty s : Nat) : Accs B w (l ++ [⟨ty, s, none, 0, 0, []⟩]) :=
  h.add hB (Keep.refl _ _) (.inl ⟨rfl, rfl, rfl⟩) (by simp) (Nat.le_refl _) fun b ⟨o, _, _, h, _⟩ => by cases h
/-- One grows. -/
theorem Accs.grow (h : Accs B w l) (hB : B ≤ w.heap.size) (i : Nat) {ty s n cap m cap' : Nat} {a a' : Option Addr} {cs news : List Value} (hi : l[i]? = some ⟨ty, s, a, n, cap, cs⟩) (hg : Grew w w' ty s a a' n m cap cap' (cs ++ news)) (hl : news.length = m * s) :
    Accs B w' (l.set i ⟨ty, s, a', n + m, cap', cs ++ news⟩) ∧ Keep (fun b _ => B ≤ b) w w' := by
  obtain ⟨g1, g2⟩ := (h.acc i _ hi).grow hB hg hl
  have get : ∀ (j : Nat) (q : Rw), (l.set i ⟨ty, s, a', n + m, cap', cs ++ news⟩)[j]? = some q → (j = i ∧ q = ⟨ty, s, a', n + m, cap', cs ++ news⟩) ∨ (j ≠ i ∧ l[j]? = some q) := fun j q hj => by
    rw [List.getElem?_set] at hj
    split at hj
    · rename_i hij
      split at hj
      · exact .inl ⟨hij.symm, by simpa using hj.symm⟩
      · cases hj
    · rename_i hij
      exact .inr ⟨fun e => hij e.symm, hj⟩
  have old : ∀ (j : Nat) (q : Rw), l[j]? = some q → ∀ b, q.fp b → b < w.heap.size := fun j q hj b ⟨o, hf⟩ => rowFp_lt (h.acc j q hj).row hf
  have fp' : ∀ b, (⟨ty, s, a', n + m, cap', cs ++ news⟩ : Rw).fp b → (⟨ty, s, a, n, cap, cs⟩ : Rw).fp b ∨ w.heap.size ≤ b := fun b ⟨o, hf⟩ => by
    rcases hg.fp b o hf with h1 | ⟨h1, _⟩
    · exact .inl ⟨o, h1⟩
    · exact .inr (by omega)
  refine ⟨⟨fun j q hj => ?_, fun j k p q hjk hj hk b hp hq => ?_⟩, g2⟩
  · rcases get j q hj with ⟨rfl, rfl⟩ | ⟨hne, hj⟩
    · exact g1
    · have hq := h.acc j q hj
      refine ⟨hq.row.keep' hg.keep fun b o hf ⟨x, y, e1, e2, e3, e4⟩ => ?_, hq.len, hq.le, hq.own⟩
      exact h.apart j i q _ hne hj hi b ⟨o, hf⟩ ⟨o, x, y, e1, e2, by omega, e4⟩
  · rcases get j p hj with ⟨rfl, rfl⟩ | ⟨hj1, hj2⟩ <;> rcases get k q hk with ⟨rfl, rfl⟩ | ⟨hk1, hk2⟩
    · exact hjk rfl
    · rcases fp' b hp with h1 | h1
      · exact h.apart j k _ q hjk hi hk2 b h1 hq
      · have := old k q hk2 b hq; omega
    · rcases fp' b hq with h1 | h1
      · exact h.apart j k p _ hjk hj2 hi b hp h1
      · have := old j p hj2 b hp; omega
    · exact h.apart j k p q hjk hj2 hk2 b hp hq
/-- A cell of one is written. -/
theorem Accs.set (h : Accs B w l) (i : Nat) {ty s n cap b o j : Nat} {cs : List Value} (hi : l[i]? = some ⟨ty, s, some ⟨b, o, none⟩, n, cap, cs⟩) (hj : j < cs.length) (v : Value) : Accs B (w.setCell ⟨b, o + j, none⟩ v) (l.set i ⟨ty, s, some ⟨b, o, none⟩, n, cap, cs.set j v⟩) := by
  have hr := h.acc i _ hi
  have hlen := hr.row.len
  have hk : Keep (fun x y => x = b ∧ o ≤ y ∧ y < o + cap * s) w (w.setCell ⟨b, o + j, none⟩ v) := Keep.set (Keep.refl _ _) _ _ _ fun _ => ⟨rfl, by omega, by simp only at hlen; omega⟩
  have get : ∀ (k : Nat) (q : Rw), (l.set i ⟨ty, s, some ⟨b, o, none⟩, n, cap, cs.set j v⟩)[k]? = some q → (k = i ∧ q = ⟨ty, s, some ⟨b, o, none⟩, n, cap, cs.set j v⟩) ∨ (k ≠ i ∧ l[k]? = some q) := fun k q hk => by
    rw [List.getElem?_set] at hk
    split at hk
    · rename_i hij
      split at hk
      · exact .inl ⟨hij.symm, by simpa using hk.symm⟩
      · cases hk
    · rename_i hij
      exact .inr ⟨fun e => hij e.symm, hk⟩
  refine ⟨fun k q hq => ?_, fun k m p q hkm hp hq c hc hd => ?_⟩
  · rcases get k q hq with ⟨rfl, rfl⟩ | ⟨hne, hq2⟩
    · exact ⟨hr.row.setCell v hj, by rw [List.length_set]; exact hr.len, hr.le, hr.own⟩
    · have hq' := h.acc k q hq2
      refine ⟨hq'.row.keep' hk fun c y hf ⟨e, h1, h2⟩ => ?_, hq'.len, hq'.le, hq'.own⟩
      exact h.apart k i q _ hne hq2 hi c ⟨y, hf⟩ ⟨y, b, o, rfl, e, h1, h2⟩
  · rcases get k p hp with ⟨rfl, rfl⟩ | ⟨hk1, hp2⟩ <;> rcases get m q hq with ⟨rfl, rfl⟩ | ⟨hm1, hq2⟩
    · exact hkm rfl
    · exact h.apart k m _ q hkm hi hq2 c hc hd
    · exact h.apart k m p _ hkm hp2 hi c hc hd
    · exact h.apart k m p q hkm hp2 hq2 c hc hd
/-- A new block of one element. -/
theorem Accs.addBlk (h : Accs B w l) (hB : B ≤ w.heap.size) {w' : World} (hk : Keep (fun _ _ => False) w w') {ty s b n : Nat} {cs : List Value} (hb : w'.heap[b]? = some (.cells cs.toArray ty (0, 0))) (hw : w.heap.size ≤ b) (hs : cs.length = n * s) : Accs B w' (l ++ [⟨ty, s, some ⟨b, 0, none⟩, n, n, cs⟩]) :=
  h.add hB hk (.inr ⟨b, 0, cs.toArray, rfl, hb, by simp only; omega, by simp only [List.size_toArray]; omega, fun i v hi => by simpa using hi⟩) hs (Nat.le_refl _) fun c ⟨o, x, y, e, e2, _⟩ => by
    obtain ⟨rfl, _⟩ : b = x ∧ 0 = y := by simpa using e
    omega
/-- Some of them, in another order. -/
theorem Accs.sub (h : Accs B w l) {l' : List Rw} (f : Nat → Nat) (hf : ∀ i r, l'[i]? = some r → l[f i]? = some r) (inj : ∀ i j, i < l'.length → j < l'.length → f i = f j → i = j) : Accs B w l' :=
  ⟨fun i r hi => h.acc (f i) r (hf i r hi), fun i j r q hij hi hj => h.apart (f i) (f j) r q (fun e => hij (inj i j (List.getElem?_eq_some_iff.1 hi).1 (List.getElem?_eq_some_iff.1 hj).1 e)) (hf i r hi) (hf j q hj)⟩
end Go.Wb

namespace Go.Wb
variable {α : Type} {lt : α → α → Bool}

/-- An item put into sorted ones. -/
def putF (lt : α → α → Bool) (l : List α) (x : α) : List α := l.filter (fun a => lt a x) ++ x :: l.filter (fun b => lt x b)
/-- The item that is as x. -/
def sameF (lt : α → α → Bool) (l : List α) (x : α) : Option α := l.find? fun a => !lt a x && !lt x a

theorem Put.eq (o : Ord lt) {l l' : List α} {x : α} {p : Option α} (h : Put lt l x l' p) : l' = putF lt l x ∧ p = sameF lt l x := by
  have hA : ∀ A : List α, (∀ a ∈ A, lt a x = true) → A.filter (fun a => lt a x) = A ∧ A.filter (fun b => lt x b) = [] := fun A hA => ⟨List.filter_eq_self.2 hA, List.filter_eq_nil_iff.2 fun a ha => by rw [o.asymm (hA a ha)]; simp⟩
  have hB : ∀ B : List α, (∀ b ∈ B, lt x b = true) → B.filter (fun a => lt a x) = [] ∧ B.filter (fun b => lt x b) = B := fun B hB => ⟨List.filter_eq_nil_iff.2 fun a ha => by rw [o.asymm (hB a ha)]; simp, List.filter_eq_self.2 hB⟩
  cases p with
  | none =>
    obtain ⟨A, B, rfl, rfl, h1, h2⟩ := h
    refine ⟨by simp [putF, hA A h1, hB B h2], ?_⟩
    rw [sameF, eq_comm, List.find?_eq_none]
    intro a ha
    rcases List.mem_append.1 ha with h | h
    · simp [h1 a h]
    · simp [h2 a h]
  | some p =>
    obtain ⟨A, B, rfl, rfl, e1, e2, h1, h2⟩ := h
    refine ⟨by simp [putF, hA A h1, hB B h2, e1, e2], ?_⟩
    rw [sameF, List.find?_append, List.find?_eq_none.2 (fun a ha => by simp [h1 a ha])]
    simp [e1, e2]

theorem putF_len (l : List α) (x : α) (o : Ord lt) : (putF lt l x).length ≤ l.length + 1 := by
  have h : ∀ l : List α, (l.filter (fun a => lt a x)).length + (l.filter (fun b => lt x b)).length ≤ l.length := by
    intro l
    induction l with
    | nil => simp
    | cons a l ih =>
      simp only [List.filter_cons]
      cases h1 : lt a x with
      | true => rw [o.asymm h1]; simp; omega
      | false => cases h2 : lt x a <;> simp <;> omega
  have := h l
  simp [putF]; omega
theorem foldl_put_len (o : Ord lt) (xs : List α) : ∀ l : List α, (xs.foldl (putF lt) l).length ≤ l.length + xs.length := by
  induction xs with
  | nil => intro l; simp
  | cons x xs ih => intro l; have h1 := ih (putF lt l x); have h2 := putF_len l x o; simp only [List.foldl_cons, List.length_cons]; omega
end Go.Wb
namespace Go.Wb
variable {α : Type} {lt : α → α → Bool}
theorem mem_putF {l : List α} {x y : α} (h : y ∈ putF lt l x) : y ∈ l ∨ y = x := by
  simp only [putF, List.mem_append, List.mem_cons, List.mem_filter] at h
  rcases h with h | h | h
  · exact .inl h.1
  · exact .inr h
  · exact .inl h.1
theorem mem_foldl_put {xs : List α} : ∀ {l : List α} {y : α}, y ∈ xs.foldl (putF lt) l → y ∈ l ∨ y ∈ xs := by
  induction xs with
  | nil => intro l y h; exact .inl h
  | cons x xs ih =>
    intro l y h
    rcases ih h with h | h
    · rcases mem_putF h with h | h
      · exact .inl h
      · exact .inr (by simp [h])
    · exact .inr (by simp [h])
theorem putF_sorted (o : Ord lt) {l : List α} (hs : Sorted lt l) (x : α) : Sorted lt (putF lt l x) := by
  refine List.pairwise_append.2 ⟨hs.filter _, List.pairwise_cons.2 ⟨fun b hb => (List.mem_filter.1 hb).2, hs.filter _⟩, fun a ha b hb => ?_⟩
  have h1 := (List.mem_filter.1 ha).2
  rcases List.mem_cons.1 hb with rfl | hb
  · exact h1
  · exact o.tr _ _ _ h1 (List.mem_filter.1 hb).2
theorem foldl_put_sorted (o : Ord lt) (xs : List α) : ∀ {l : List α}, Sorted lt l → Sorted lt (xs.foldl (putF lt) l) := by
  induction xs with
  | nil => intro l h; exact h
  | cons x xs ih => intro l h; exact ih (putF_sorted o h x)
/-- What is put is there, or one that is as it. -/
theorem putF_has (o : Ord lt) {l : List α} {x y : α} (h : y ∈ l ∨ y = x) : ∃ z ∈ putF lt l x, lt z y = false ∧ lt y z = false := by
  rcases h with h | rfl
  · cases h1 : lt y x with
    | true => exact ⟨y, by simp [putF, h, h1], o.irr y, o.irr y⟩
    | false => cases h2 : lt x y with
      | true => exact ⟨y, by simp [putF, h, h2], o.irr y, o.irr y⟩
      | false => exact ⟨x, by simp [putF], h2, h1⟩
  · exact ⟨y, by simp [putF], o.irr y, o.irr y⟩
theorem putF_map {β : Type} {lt' : β → β → Bool} (f : α → β) (hf : ∀ a b, lt' (f a) (f b) = lt a b) (l : List α) (x : α) : putF lt' (l.map f) (f x) = (putF lt l x).map f := by
  simp only [putF, List.map_append, List.map_cons, List.filter_map]
  congr 1
  · congr 1; apply List.filter_congr; intro a _; simp [hf]
  · congr 2; apply List.filter_congr; intro a _; simp [hf]
theorem foldl_put_map {β : Type} {lt' : β → β → Bool} (f : α → β) (hf : ∀ a b, lt' (f a) (f b) = lt a b) (xs : List α) : ∀ l : List α, (xs.map f).foldl (putF lt') (l.map f) = (xs.foldl (putF lt) l).map f := by
  induction xs with
  | nil => intro l; rfl
  | cons x xs ih => intro l; simp only [List.map_cons, List.foldl_cons]; rw [putF_map f hf, ih]
end Go.Wb

namespace Go.Proofs.Ytckplcmieelmpaa.W
open Go.RowKit Go.Wb

/-- The cells of a word of a list that is read. -/
theorem word_cell {w : World} {a : Option Addr} {l : List It} (h : Given w a (OE.all l)) {i : Nat} {x : It} (hi : l[i]? = some x) : ∃ b o, a = some ⟨b, o, none⟩ ∧ w.cell? ⟨b, o + i * 2, none⟩ = some (kv (ky x)) ∧ w.cell? ⟨b, o + i * 2 + 1, none⟩ = some (.int .i64 x.2) := by
  have h0 := OE.all_get l i x hi 0 (kv (ky x)) rfl
  have h1 := OE.all_get l i x hi 1 (.int .i64 x.2) rfl
  simp only [show OE.s = 2 from rfl] at h0 h1
  rcases h with h | ⟨b, o, ha, hc⟩
  · rw [h] at h0; simp at h0
  · exact ⟨b, o, ha, hc _ _ h0, by have := hc _ _ h1; rwa [← Nat.add_assoc] at this⟩

theorem out_len (l : List It) : (OE.all l).length = l.length * 2 := OE.all_len l
theorem out_one {l : List It} : ∀ u ∈ OE.all l, u.oneCell' = true := fun u hu => by
  obtain ⟨x, _, hx⟩ := List.mem_flatMap.1 hu
  exact OE.one x u hx
theorem out_take (l : List It) (n : Nat) : OE.all (l.take n) = (OE.all l).take (n * 2) := by
  induction l generalizing n with
  | nil => simp [Enc.all]
  | cons x l ih =>
    cases n with
    | zero => simp [Enc.all]
    | succ n =>
      rw [List.take_succ_cons, Enc.all_cons, Enc.all_cons, ih n, show (n + 1) * 2 = (OE.enc x).length + n * 2 by rw [OE.len]; simp [OE]; omega, List.take_append, Nat.add_sub_cancel_left, List.take_of_length_le (l := OE.enc x) (by omega)]
theorem out_drop (l : List It) (n : Nat) : OE.all (l.drop n) = (OE.all l).drop (n * 2) := by
  induction l generalizing n with
  | nil => simp [Enc.all]
  | cons x l ih =>
    cases n with
    | zero => simp [Enc.all]
    | succ n =>
      rw [List.drop_succ_cons, Enc.all_cons, ih n, show (n + 1) * 2 = (OE.enc x).length + n * 2 by rw [OE.len]; simp [OE]; omega, ← List.drop_drop, List.drop_left]
/-- A new list of words. -/
def NewWords (w : World) (xs : List It) (e : Ending) (w' : World) : Prop := ∃ a cap, e = .returned (.slice a xs.length cap) ∧ Acc w.heap.size w' 31 2 a xs.length cap (OE.all xs) ∧ Keep Nothing w w'

-- equal lists
set_option maxRecDepth 100000 in
set_option maxHeartbeats 2000000 in
theorem equalW_any {w : World} {a c : Option Addr} {acap ccap : Nat} {l : List It} (h1 : Given w a (OE.all l)) (h2 : Given w c (OE.all l)) (hl : l.length ≤ 4000000000000) :
    Calls Try.prog 30 #[.slice a l.length acap, .slice c l.length ccap] w fun e w' => e = .returned (.bool true) ∧ Keep Nothing w w' := by
  have H1 := Lib.hid h1
  have H2 := Lib.hid h2
  clear h1 h2
  go_enter Try.func30, Try.ntmps30
  go_wp2_with fail
  go_loopg [13] (l.length + 1) (fun k v13 wr => ∃ i : Nat, v13 = .int .i64 i ∧ i ≤ l.length ∧ i + k = l.length + 1 ∧ Keep Nothing w wr)
  case atStart => exact ⟨0, rfl, by omega, by omega, Keep.refl _ _⟩
  case round =>
    obtain ⟨i, rfl, hil, hik, hK⟩ := hrel
    have HK := Lib.hid hK
    clear hK
    by_cases hlt : i < l.length
    · have hx : l[i]? = some l[i] := List.getElem?_eq_getElem hlt
      generalize l[i] = x at *
      obtain ⟨b1, o1, ha, x0, x1⟩ := word_cell (H1.out.keep HK.out) hx
      obtain ⟨b2, o2, hc, y0, y1⟩ := word_cell (H2.out.keep HK.out) hx
      subst ha
      subst hc
      clear hx
      unfold kv at *
      go_wp2_with fail
      go_quiet (fail)
      go_wp2_with fail
      go_roundg (l.length - i)
      case measure => omega
      case rel => exact ⟨i + 1, by go_num, by omega, by omega, HK.out.drN _⟩
    · have hi : i = l.length := by omega
      subst hi
      go_wp2_with fail
      go_ret
      exact ⟨rfl, HK.out⟩

-- spot
theorem loc_lt {l : List It} {k : Ky} {i j : Nat} {f : Bool} (hs : Sorted ilt l) (hl : Loc l k i f) (hj : j < i) {x : It} (hx : l[j]? = some x) : klt (ky x) k = true := by
  cases f with
  | false => exact hl.2.1 j x hj hx
  | true =>
    obtain ⟨A, y, B, rfl, rfl, _, _, _, hA, _⟩ := loc_found hs hl
    rw [List.getElem?_append_left hj] at hx
    exact hA x (List.mem_of_getElem? hx)
theorem loc_at {l : List It} {k : Ky} {i : Nat} {f : Bool} (hl : Loc l k i f) {x : It} (hx : l[i]? = some x) : klt (ky x) k = false ∧ ((ky x).toList == k.toList) = f := by
  cases f with
  | false =>
    have h := hl.2.2 i x (Nat.le_refl _) hx
    refine ⟨kord.asymm h, ?_⟩
    rw [beq_eq_false_iff_ne]
    intro e
    unfold klt at h
    rw [e, bytesLess_irr] at h
    cases h
  | true =>
    obtain ⟨_, y, hy, h1, h2⟩ := hl
    rw [hx] at hy
    cases hy
    exact ⟨h2, by rw [beq_iff_eq]; exact bytesLess_tri _ _ h2 h1⟩

set_option maxRecDepth 100000 in
set_option maxHeartbeats 4000000 in
theorem spot_any {w : World} {a : Option Addr} {cap : Nat} {l : List It} {k : Ky} {i : Nat} {f : Bool} (h1 : Given w a (OE.all l)) (hl : l.length ≤ 4000000000000) (hloc : Loc l k i f) (hs : Sorted ilt l) :
    Calls Try.prog 178 #[.slice a l.length cap, kv k] w fun e w' => e = .returned (.tuple #[.int .i64 i, .bool f]) ∧ Keep Nothing w w' := by
  have H1 := Lib.hid h1
  have HLO := Lib.hid hloc
  have HS := Lib.hid hs
  have hil0 := hloc.1
  clear h1 hloc hs
  unfold kv
  go_enter Try.func178, Try.ntmps178
  go_wp2_with fail
  go_loopg [6] (i + 1) (fun c v6 wr => ∃ j : Nat, v6 = .int .i64 j ∧ j ≤ i ∧ j + c = i + 1 ∧ w = wr)
  case atStart => exact ⟨0, rfl, by omega, by omega, rfl⟩
  case round =>
    obtain ⟨j, rfl, hji, hjc, rfl⟩ := hrel
    by_cases hlt : j < i
    · have hx : l[j]? = some (l[j]'(by omega)) := List.getElem?_eq_getElem (by omega)
      have hjl : j < l.length := by omega
      generalize l[j]'(by omega) = x at *
      have hb := loc_lt HS.out HLO.out hlt hx
      obtain ⟨b1, o1, ha, x0, x1⟩ := word_cell H1.out hx
      subst ha
      clear hx
      unfold kv klt at *
      go_wp2_with fail
      go_roundg (i - j)
      case measure => omega
      case rel => exact ⟨j + 1, by go_num, by omega, by omega, rfl⟩
    · obtain rfl : i = j := by omega
      clear hjc hji hlt
      by_cases hjl : i < l.length
      · have hx : l[i]? = some l[i] := List.getElem?_eq_getElem hjl
        generalize l[i] = x at *
        obtain ⟨hb, hq⟩ := loc_at HLO.out hx
        obtain ⟨b1, o1, ha, x0, x1⟩ := word_cell H1.out hx
        subst ha
        clear hx
        unfold kv klt at *
        go_wp2_with fail
        refine wp_calm (by kernel_rfl) (by kernel_rfl) rfl ?_
        simp only [List.flatMap_cons, List.flatMap_nil, checks, chk, nilLit, List.cons_append, List.nil_append, List.append_nil, Try.underlying3, Try.underlying9]
        go_wp2_with fail
        rw [HQ_normal]
        go_wp2_with fail
        go_ret2
        exact ⟨rfl, Keep.drew _ _⟩
      · have hi : i = l.length := by omega
        have hf : f = false := by
          cases f with
          | false => rfl
          | true => obtain ⟨_, y, hy, _⟩ := HLO.out; have := (List.getElem?_eq_some_iff.1 hy).1; omega
        subst hf
        subst hi
        go_wp2_with fail
        refine wp_calm (by kernel_rfl) (by kernel_rfl) rfl ?_
        simp only [List.flatMap_cons, List.flatMap_nil, checks, chk, nilLit, List.cons_append, List.nil_append, List.append_nil, Try.underlying3, Try.underlying9]
        go_wp2_with fail
        rw [HQ_normal]
        go_wp2_with fail
        go_ret2
        exact ⟨rfl, Keep.drew _ _⟩

/-- The items of what was set. -/
def sortK (l : List It) : List It := l.foldl (putF ilt) []
theorem sortK_sorted (l : List It) : Sorted ilt (sortK l) := foldl_put_sorted iord l (by simp [Sorted])
theorem sortK_len (l : List It) : (sortK l).length ≤ l.length := by have := foldl_put_len iord l []; unfold sortK; simpa using this
theorem sortK_snoc (l : List It) {i : Nat} {x : It} (hx : l[i]? = some x) : sortK (l.take (i + 1)) = putF ilt (sortK (l.take i)) x := by
  unfold sortK; rw [List.take_add_one, hx]; simp
theorem putF_none {l : List It} {x : It} {i : Nat} (h : Loc l (ky x) i false) : putF ilt l x = l.take i ++ x :: l.drop i := by
  obtain ⟨hA, hB⟩ := loc_none h
  exact ((show Put ilt l x (l.take i ++ x :: l.drop i) none from ⟨_, _, (List.take_append_drop i l).symm, rfl, hA, hB⟩).eq iord).1.symm
theorem putF_some {l : List It} {x : It} {i : Nat} (hs : Sorted ilt l) (h : Loc l (ky x) i true) : putF ilt l x = l.take i ++ x :: l.drop (i + 1) := by
  obtain ⟨A, y, B, rfl, rfl, _, h1, h2, hA, hB⟩ := loc_found hs h
  have := ((show Put ilt (A ++ y :: B) x (A ++ x :: B) (some y) from ⟨_, _, rfl, rfl, h1, h2, hA, hB⟩).eq iord).1.symm
  rw [this]
  simp
end Go.Proofs.Ytckplcmieelmpaa.W

namespace Go.Proofs.Ytckplcmieelmpaa.W
open Go.RowKit Go.Wb

theorem elemBool : Elem Try.prog 4 1 1 := ⟨by kernel_rfl, by kernel_rfl, by kernel_rfl⟩
def WSetPost (w : World) (l : List It) (e : Ending) (w' : World) : Prop :=
  ∃ v1 v2 a cap, e = .returned (.tuple #[v1, v2, .slice a (sortK l).length cap]) ∧ Acc w.heap.size w' 31 2 a (sortK l).length cap (OE.all (sortK l)) ∧ Keep Nothing w w'

/-- Where the loop of WSet stands. -/
structure WSetAt (w wr : World) (l its : List It) (i : Nat) (a5 a6 a7 : Option Addr) (c5 c6 c7 : Nat) (cs5 cs7 : List Value) : Prop where
  keep : Keep Nothing w wr
  rows : Accs w.heap.size wr [⟨31, 2, a5, i, c5, cs5⟩, ⟨31, 2, a6, its.length, c6, OE.all its⟩, ⟨4, 1, a7, i, c7, cs7⟩]
  its : its = sortK (l.take i)

/-- A part from start on. -/
theorem row_from {B : Nat} {w : World} {a : Option Addr} {n cap k : Nat} {its : List It} (h : Acc B w 31 2 a n cap (OE.all its)) (hk : k ≤ its.length) : (cap = k → its.drop k = []) ∧ (cap ≠ k → ∃ b o, a = some ⟨b, o, none⟩ ∧ Given w (some ⟨b, o + k * 2, none⟩) (OE.all (its.drop k))) := by
  have hl := h.row.len
  rw [out_len] at hl
  refine ⟨fun e => List.drop_eq_nil_of_le (by omega), fun hne => ?_⟩
  rcases h.row with ⟨_, h0, h1⟩ | ⟨b, o, arr, ha, _⟩
  · have := out_len its; rw [h1] at this; simp at this; omega
  · refine ⟨b, o, ha, ?_⟩
    rw [out_drop]
    exact (h.row.reads).drop (k * 2) ha

set_option maxRecDepth 100000 in
set_option maxHeartbeats 16000000 in
theorem wset_any {w : World} {a : Option Addr} {cap : Nat} {l : List It} (h1 : Given w a (OE.all l)) (hl : l.length ≤ 4000000000000) :
    Calls Try.prog 134 #[.slice a l.length cap] w (WSetPost w l) := by
  have H1 := Lib.hid h1
  have HLL := Lib.hid hl
  clear h1
  go_enter Try.func134, Try.ntmps134
  go_wp2_with fail
  go_loopg [5, 6, 7, 16] (l.length + 1) (fun k v5 v6 v7 v16 wr => ∃ (i : Nat) (its : List It) (a5 a6 a7 : Option Addr) (c5 c6 c7 : Nat) (cs5 cs7 : List Value), v5 = .slice a5 i c5 ∧ v6 = .slice a6 its.length c6 ∧ v7 = .slice a7 i c7 ∧ v16 = .int .i64 i ∧ i ≤ l.length ∧ i + k = l.length + 1 ∧ WSetAt w wr l its i a5 a6 a7 c5 c6 c7 cs5 cs7)
  case atStart =>
    refine ⟨0, [], none, none, none, 0, 0, 0, [], [], rfl, rfl, rfl, rfl, by omega, by omega, Keep.refl _ _, ?_, by simp [sortK]⟩
    exact (((Accs.nil w.heap.size w).addNil (Nat.le_refl _) 31 2).addNil (Nat.le_refl _) 31 2).addNil (Nat.le_refl _) 4 1
  case round =>
    obtain ⟨i, its, a5, a6, a7, c5, c6, c7, cs5, cs7, rfl, rfl, rfl, rfl, hil, hik, hA⟩ := hrel
    have HA := Lib.hid hA
    clear hA
    by_cases hlt : i < l.length
    · have hx : l[i]? = some l[i] := List.getElem?_eq_getElem hlt
      generalize l[i] = x at *
      have HX := Lib.hid hx
      obtain ⟨b0, o0, ha, x0, x1⟩ := word_cell (H1.out.keep HA.out.keep) hx
      subst ha
      have hsrt : Sorted ilt its := by rw [HA.out.its]; exact sortK_sorted _
      obtain ⟨j, f, hloc⟩ := Loc.ex (ky x) its hsrt
      have hlen : its.length ≤ i := by rw [HA.out.its]; have := sortK_len (l.take i); simp at this; omega
      have hj := hloc.1
      have hww := HA.out.keep.size
      have HS := Lib.hid hsrt
      have HLO := Lib.hid hloc
      have hllb := HLL.out
      clear hx hsrt hloc
      unfold kv at *
      go_upto_region 6 with (fail)
      refine wp_world ?_
      intro W1 hW1
      have k1 : Keep Nothing wr W1 := by subst hW1; exact (Keep.refl _ _).al _
      have A1 : Hid (Accs w.heap.size W1 [⟨31, 2, a5, i, c5, cs5⟩, ⟨31, 2, a6, its.length, c6, OE.all its⟩, ⟨4, 1, a7, i, c7, cs7⟩, ⟨31, 2, some ⟨wr.heap.size, 0, none⟩, 1, 1, OE.enc x⟩]) := by
        exact HA.out.rows.addBlk hww k1 (by subst hW1; exact heap_alloc_new wr _) (Nat.le_refl _) (OE.len _)
      have K1 : Hid (Keep Nothing w W1) := by exact HA.out.keep.trans k1 fun _ _ _ h => h
      have EI := Lib.hid HA.out.its
      generalize wr.heap.size = q at *
      clear hW1 k1 HA x0 x1 hww
      have hsp := Lib.hid (spot_any (cap := c6) (A1.out.acc 1 _ rfl).row.reads (by omega) HLO.out HS.out)
      have xk := (A1.out.acc 3 _ rfl).row.cell (i := 0) (v := kv (ky x)) rfl
      have xv := (A1.out.acc 3 _ rfl).row.cell (i := 1) (v := .int .i64 x.2) rfl
      simp only [Nat.add_zero] at xk xv
      unfold kv at hsp xk
      go_wp2_with fail
      refine hsp.out.mono ?_
      rintro e W2 ⟨rfl, k2⟩
      have K2 : Hid (Keep Nothing w W2) := by exact K1.out.trans k2 fun _ _ _ h => h
      have A2 := Lib.hid (A1.out.quiet k2)
      clear hsp k2 K1 A1 xk xv
      have xk := (A2.out.acc 3 _ rfl).row.cell (i := 0) (v := kv (ky x)) rfl
      simp only [Nat.add_zero] at xk
      have hw2 := K2.out.size
      unfold kv at xk
      go_upto_region 8 with (fail)
      refine wp_world ?_
      intro W3 hW3
      have k3 : Keep Nothing W2 W3 := by subst hW3; exact (Keep.refl _ _).al _
      have A3 : Hid (Accs w.heap.size W3 [⟨31, 2, a5, i, c5, cs5⟩, ⟨31, 2, a6, its.length, c6, OE.all its⟩, ⟨4, 1, a7, i, c7, cs7⟩, ⟨31, 2, some ⟨q, 0, none⟩, 1, 1, OE.enc x⟩, ⟨31, 2, some ⟨W2.heap.size, 0, none⟩, 1, 1, [.string (ky x), .int .i64 0]⟩]) := by
        exact A2.out.addBlk hw2 k3 (by subst hW3; exact heap_alloc_new W2 _) (Nat.le_refl _) rfl
      have K3 : Hid (Keep Nothing w W3) := by exact K2.out.trans k3 fun _ _ _ h => h
      generalize W2.heap.size = p at *
      have HPW := Lib.hid hw2
      clear hW3 k3 K2 A2 xk hw2
      have hc6 := (A3.out.acc 1 _ rfl).le
      simp only at hc6
      have hw3 := K3.out.size
      go_cut [13] (fun v13 wx => ∃ (a8 : Option Addr) (c8 : Nat), v13 = .slice a8 j c8 ∧ Keep Nothing w wx ∧ Accs w.heap.size wx [⟨31, 2, a5, i, c5, cs5⟩, ⟨31, 2, a6, its.length, c6, OE.all its⟩, ⟨4, 1, a7, i, c7, cs7⟩, ⟨31, 2, some ⟨q, 0, none⟩, 1, 1, OE.enc x⟩, ⟨31, 2, some ⟨p, 0, none⟩, 1, 1, [.string (ky x), .int .i64 0]⟩, ⟨31, 2, a8, j, c8, OE.all (its.take j)⟩])
      case first =>
        have fin : ∀ (a8 : Option Addr) (c8 : Nat) (W4 : World), Grew (W3.alloc (.cells #[] 31)) W4 31 2 (some ⟨W3.heap.size, 0, none⟩) a8 0 j 0 c8 ([] ++ OE.all (its.take j)) → Keep Nothing w W4 ∧ Accs w.heap.size W4 [⟨31, 2, a5, i, c5, cs5⟩, ⟨31, 2, a6, its.length, c6, OE.all its⟩, ⟨4, 1, a7, i, c7, cs7⟩, ⟨31, 2, some ⟨q, 0, none⟩, 1, 1, OE.enc x⟩, ⟨31, 2, some ⟨p, 0, none⟩, 1, 1, [.string (ky x), .int .i64 0]⟩, ⟨31, 2, a8, j, c8, OE.all (its.take j)⟩] := by
          intro a8 c8 W4 hg
          obtain ⟨k4, f4⟩ := hg.fresh (w := W3) ((Keep.refl _ _).al _)
          have k4' : Keep Nothing W3 W4 := ((Keep.refl Nothing W3).al _).trans hg.calm fun _ _ _ h => h
          refine ⟨K3.out.trans k4' fun _ _ _ h => h, ?_⟩
          exact A3.out.add hw3 k4' (r := ⟨31, 2, a8, j, c8, OE.all (its.take j)⟩) (by have := hg.row; simpa using this) (by simp only [out_len, List.length_take]; omega) (by have := hg.cap; simp only; omega) (fun b ⟨o, hf⟩ => f4 b o hf)
        have FIN := Lib.hid fin
        clear fin
        rcases (A3.out.acc 1 _ rfl).row with ⟨h6, h6c, h6n⟩ | ⟨b6, o6, _, h6, _⟩
        · simp only at h6 h6c h6n
          subst h6
          subst h6c
          have hits0 : its = [] := by have := out_len its; rw [h6n] at this; simp at this; exact List.eq_nil_of_length_eq_zero (by omega)
          subst hits0
          obtain rfl : j = 0 := by simpa using hj
          clear h6n
          go_wp2_with (at_builtin; refine wpList_append_src rfl _ _ _ rfl 31 2 24 Try.underlying28 elemO _ 0 0 [] (by rfl) (Row.empty (heap_alloc_new W3 _)) rfl none 0 0 (OE.all (([] : List It).take 0)) (by rfl) (by omega) (by simp [Enc.all]) (.inl (by simp [Enc.all])) out_one (by omega) (by simp only [maxLen]; omega) (by omega) ?_; intro a8 c8 W4 hg; have F := Lib.hid (FIN.out a8 c8 W4 hg); clear hg)
          obtain ⟨F1, F2⟩ := F.out
          go_meet
          exact ⟨a8, c8, rfl, F1, F2⟩
        · simp only at h6
          subst h6
          have HG6 : Hid (Given (W3.alloc (.cells #[] 31)) (some ⟨b6, o6, none⟩) (OE.all (its.take j))) := by
            rw [out_take]; exact (((A3.out.acc 1 _ rfl).row.reads).take _).keep (Keep.alloc _ _ _)
          go_wp2_with (at_builtin; refine wpList_append_src rfl _ _ _ rfl 31 2 24 Try.underlying28 elemO _ 0 0 [] (by rfl) (Row.empty (heap_alloc_new W3 _)) rfl (some ⟨b6, o6, none⟩) j c6 (OE.all (its.take j)) (by rfl) (by omega) (by rw [out_len, List.length_take]; omega) HG6.out out_one (by omega) (by simp only [maxLen]; omega) (by omega) ?_; intro a8 c8 W4 hg; have F := Lib.hid (FIN.out a8 c8 W4 hg); clear hg)
          obtain ⟨F1, F2⟩ := F.out
          go_meet
          exact ⟨a8, c8, by simp, F1, F2⟩
      case' rest =>
        obtain ⟨a8, c8, rfl, k4, g4⟩ := hcut
        have A4 := Lib.hid g4
        have K4 := Lib.hid k4
        clear k4 g4 A3 K3 hw3
      have xk := (A4.out.acc 3 _ rfl).row.cell (i := 0) (v := kv (ky x)) rfl
      have xv := (A4.out.acc 3 _ rfl).row.cell (i := 1) (v := .int .i64 x.2) rfl
      simp only [Nat.zero_add, Nat.add_zero] at xk xv
      have hw4 := K4.out.size
      have A4a : Hid (∀ o, Accs w.heap.size (wc.alloc o) [⟨31, 2, a5, i, c5, cs5⟩, ⟨31, 2, a6, its.length, c6, OE.all its⟩, ⟨4, 1, a7, i, c7, cs7⟩, ⟨31, 2, some ⟨q, 0, none⟩, 1, 1, OE.enc x⟩, ⟨31, 2, some ⟨p, 0, none⟩, 1, 1, [.string (ky x), .int .i64 0]⟩, ⟨31, 2, a8, j, c8, OE.all (its.take j)⟩]) := by exact fun o => A4.out.quiet (Keep.alloc _ _ _)
      have hc8 : Hid (j ≤ c8) := Lib.hid (A4.out.acc 5 _ rfl).le
      unfold kv at xk
      go_upto_region 10 with (at_builtin; refine wpList_append_src rfl _ _ _ rfl 31 2 24 Try.underlying28 elemO a8 j c8 (OE.all (its.take j)) (by rfl) ((A4a.out _).acc 5 _ rfl).row (by rw [out_len, List.length_take]; omega) (some ⟨wc.heap.size, 0, none⟩) 1 1 (OE.enc x) (by rfl) (by omega) rfl (new_given wc (OE.enc x) 31) (OE.one _) hc8.out (by simp only [maxLen]; omega) (by omega) ?_; intro a9 c9 W5 hg)
      obtain ⟨g5, k5⟩ := (A4a.out _).grow (by simp; omega) 5 rfl hg rfl
      have A5 := Lib.hid g5
      have K5 : Hid (Keep Nothing w W5) := by exact (K4.out.al _).trans k5 fun c o hc h => absurd h (by omega)
      clear hg g5 k5 A4 A4a K4 xk xv hw4 hc8
      simp only [List.set] at A5
      have HC9 : Hid (j + 1 ≤ c9) := Lib.hid (A5.out.acc 5 _ rfl).le
      obtain ⟨st, hst⟩ : ∃ st : Nat, st = if f then j + 1 else j := ⟨_, rfl⟩
      have hstl : st ≤ its.length := by
        cases f with
        | false => simp only [if_false, Bool.false_eq_true] at hst; omega
        | true => obtain ⟨_, y, hy, _⟩ := HLO.out; have := (List.getElem?_eq_some_iff.1 hy).1; simp only [if_true] at hst; omega
      have hjst : j ≤ st := by
        cases f with
        | false => simp only [if_false, Bool.false_eq_true] at hst; omega
        | true => simp only [if_true] at hst; omega
      have HPUT : Hid (putF ilt its x = its.take j ++ x :: its.drop st) := by
        cases f with
        | false => simp only [if_false, Bool.false_eq_true] at hst; subst hst; exact putF_none HLO.out
        | true => simp only [if_true] at hst; subst hst; exact putF_some HS.out HLO.out
      have HST := Lib.hid hst
      clear hst
      go_upto_if 39 with (fail)
      go_cut [10] (fun v10 wx => v10 = .int .i64 st ∧ Keep Nothing w wx ∧ ∃ bv : Int, Accs w.heap.size wx [⟨31, 2, a5, i, c5, cs5⟩, ⟨31, 2, a6, its.length, c6, OE.all its⟩, ⟨4, 1, a7, i, c7, cs7⟩, ⟨31, 2, some ⟨q, 0, none⟩, 1, 1, OE.enc x⟩, ⟨31, 2, some ⟨p, 0, none⟩, 1, 1, [.string (ky x), .int .i64 bv]⟩, ⟨31, 2, a9, j + 1, c9, OE.all (its.take j) ++ OE.enc x⟩])
      case first =>
        cases f with
        | false =>
          have hs1 := HST.out
          simp only [if_false, Bool.false_eq_true] at hs1
          subst hs1
          go_wp2_with fail
          go_meet
          exact ⟨rfl, K5.out, 0, A5.out⟩
        | true =>
          have hs1 := HST.out
          simp only [if_true] at hs1
          subst hs1
          obtain ⟨_, y, hy, _⟩ := id HLO.out
          obtain ⟨b6, o6, ha6, y0, y1⟩ := word_cell ((A5.out.acc 1 _ rfl).row.reads) hy
          subst ha6
          have p1 := (A5.out.acc 4 _ rfl).row.cell (i := 1) (v := .int .i64 0) rfl
          have fzp := (A5.out.acc 4 _ rfl).row.frozen
          simp only [Nat.zero_add] at p1
          have hjl : j < its.length := by omega
          clear hy y0
          go_wp2_with fail
          go_meet
          refine ⟨by go_num, K5.out.set _ _ _ (fun h => by have := HPW.out; omega), y.2, ?_⟩
          have := A5.out.set 4 rfl (j := 1) (by simp) (.int .i64 y.2)
          simpa [List.set] using this
      case rest =>
        obtain ⟨rfl, hK6, bv, hA6⟩ := hcut
        have K6 := Lib.hid hK6
        have A6 := Lib.hid hA6
        have hw6 := hK6.size
        obtain ⟨hf1, hf2⟩ := row_from (A6.out.acc 1 _ rfl) hstl
        have HF1 := Lib.hid hf1
        have HF2 := Lib.hid hf2
        have hc6l : its.length ≤ c6 := (A6.out.acc 1 _ rfl).le
        clear hK6 hA6 A5 K5 hf1 hf2
        have hml : (OE.all (its.drop st)).length = (its.length - st) * 2 := by rw [out_len, List.length_drop]
        have HML := Lib.hid hml
        clear hml
        have h9 := HC9.out
        have HFIN : Hid (∀ (a10 : Option Addr) (c10 : Nat) (W7 : World), Grew wc W7 31 2 a9 a10 (j + 1) (its.length - st) c9 c10 ((OE.all (its.take j) ++ OE.enc x) ++ OE.all (its.drop st)) → Keep Nothing w W7 ∧ Accs w.heap.size W7 [⟨31, 2, a5, i, c5, cs5⟩, ⟨31, 2, a6, its.length, c6, OE.all its⟩, ⟨4, 1, a7, i, c7, cs7⟩, ⟨31, 2, some ⟨q, 0, none⟩, 1, 1, OE.enc x⟩, ⟨31, 2, some ⟨p, 0, none⟩, 1, 1, [.string (ky x), .int .i64 bv]⟩, ⟨31, 2, a10, j + 1 + (its.length - st), c10, (OE.all (its.take j) ++ OE.enc x) ++ OE.all (its.drop st)⟩]) := by
          refine Lib.hid ?_
          intro a10 c10 W7 hg
          obtain ⟨g7, k7⟩ := A6.out.grow hw6 5 rfl hg HML.out
          exact ⟨K6.out.trans k7 fun c o hc h => absurd h (by omega), by simpa [List.set] using g7⟩
        go_upto_region 13 with (fail)
        go_cut [6] (fun v6 wx => ∃ (a10 : Option Addr) (c10 : Nat), v6 = .slice a10 (j + 1 + (its.length - st)) c10 ∧ Keep Nothing w wx ∧ Accs w.heap.size wx [⟨31, 2, a5, i, c5, cs5⟩, ⟨31, 2, a6, its.length, c6, OE.all its⟩, ⟨4, 1, a7, i, c7, cs7⟩, ⟨31, 2, some ⟨q, 0, none⟩, 1, 1, OE.enc x⟩, ⟨31, 2, some ⟨p, 0, none⟩, 1, 1, [.string (ky x), .int .i64 bv]⟩, ⟨31, 2, a10, j + 1 + (its.length - st), c10, (OE.all (its.take j) ++ OE.enc x) ++ OE.all (its.drop st)⟩])
        case first =>
          by_cases hc : c6 = st
          · have hnil := HF1.out hc
            have HN := Lib.hid hnil
            have hlst : its.length = st := by omega
            have hg0 : Hid (∀ sa, Given wc sa (OE.all (its.drop st))) := by exact fun sa => .inl (by rw [HN.out]; rfl)
            have HLST := Lib.hid hlst
            clear hnil hlst
            subst hc
            rcases (A6.out.acc 1 _ rfl).row with ⟨h6, h6c, h6n⟩ | ⟨b6, o6, _, h6, _⟩
            · simp only at h6 h6c h6n
              subst h6
              subst h6c
              obtain rfl : its = [] := List.eq_nil_of_length_eq_zero HLST.out
              clear h6n
              have hform := (A6.out.acc 5 _ rfl).row.form (by rw [List.length_append, OE.len]; have := OE.pos; omega)
              simp only at hform
              obtain ⟨b9, o9, h9a, _⟩ := hform
              subst h9a
              go_wp2_with fail
              go_meet
              exact ⟨_, c9, by first | rfl | simp, K6.out, by simpa [Enc.all] using A6.out⟩
            · simp only at h6
              subst h6
              have hform := (A6.out.acc 5 _ rfl).row.form (by rw [List.length_append, OE.len]; have := OE.pos; omega)
              simp only at hform
              obtain ⟨b9, o9, h9a, _⟩ := hform
              subst h9a
              go_wp2_with fail
              go_meet
              have h0 : its.length - c6 = 0 := by have := HLST.out; omega
              refine ⟨some ⟨b9, o9, none⟩, c9, by rw [h0], K6.out, ?_⟩
              rw [h0, HN.out]
              simpa [Enc.all] using A6.out
          · obtain ⟨b6, o6, ha6, hgv⟩ := HF2.out hc
            subst ha6
            have HGV := Lib.hid hgv
            clear hgv
            go_wp2_with (at_builtin; refine wpList_append_src rfl _ _ _ rfl 31 2 24 Try.underlying28 elemO a9 (j + 1) c9 (OE.all (its.take j) ++ OE.enc x) (by rfl) (A6.out.acc 5 _ rfl).row (A6.out.acc 5 _ rfl).len (some ⟨b6, o6 + st * 2, none⟩) (its.length - st) (c6 - st) (OE.all (its.drop st)) (by rfl) (by omega) HML.out HGV.out out_one h9 (by simp only [maxLen]; omega) (by omega) ?_; intro a10 c10 W7 hg; have F := Lib.hid (HFIN.out a10 c10 W7 hg); clear hg)
            obtain ⟨F1, F2⟩ := F.out
            go_meet
            exact ⟨a10, c10, rfl, F1, F2⟩
        case rest =>
          obtain ⟨a10, c10, rfl, k7, g7⟩ := hcut
          have K7 := Lib.hid k7
          have A7 := Lib.hid g7
          have hw7 := k7.size
          have pk := (g7.acc 4 _ rfl).row.cell (i := 0) (v := .string (ky x)) rfl
          have pv := (g7.acc 4 _ rfl).row.cell (i := 1) (v := .int .i64 bv) rfl
          simp only [Nat.zero_add, Nat.add_zero] at pk pv
          have A7a : Hid (∀ o, Accs w.heap.size (wc.alloc o) [⟨31, 2, a5, i, c5, cs5⟩, ⟨31, 2, a6, its.length, c6, OE.all its⟩, ⟨4, 1, a7, i, c7, cs7⟩, ⟨31, 2, some ⟨q, 0, none⟩, 1, 1, OE.enc x⟩, ⟨31, 2, some ⟨p, 0, none⟩, 1, 1, [.string (ky x), .int .i64 bv]⟩, ⟨31, 2, a10, j + 1 + (its.length - st), c10, (OE.all (its.take j) ++ OE.enc x) ++ OE.all (its.drop st)⟩]) := by exact fun o => A7.out.quiet (Keep.alloc _ _ _)
          have hc5 : Hid (i ≤ c5) := Lib.hid (g7.acc 0 _ rfl).le
          clear k7 g7 K6 A6 HFIN HF1 HF2 hc6l
          have h5 := hc5.out
          have hb1 : (i + 1) * 24 ≤ 140737488355328 := by omega
          have hone : ∀ u ∈ [Value.string (ky x), .int .i64 bv], u.oneCell' = true := by intro u hu; simp at hu; rcases hu with rfl | rfl <;> rfl
          have hnew := new_given wc [Value.string (ky x), .int .i64 bv] 31
          have hro := ((A7a.out (.cells [Value.string (ky x), .int .i64 bv].toArray 31)).acc 0 _ rfl).row
          have hln := ((A7a.out (.cells [Value.string (ky x), .int .i64 bv].toArray 31)).acc 0 _ rfl).len
          have HN8 : Hid (∀ (a11 : Option Addr) (c11 : Nat) (W8 : World), Grew (wc.alloc (.cells [Value.string (ky x), .int .i64 bv].toArray 31)) W8 31 2 a5 a11 i 1 c5 c11 (cs5 ++ [.string (ky x), .int .i64 bv]) → Keep Nothing w W8 ∧ Accs w.heap.size W8 [⟨31, 2, a11, i + 1, c11, cs5 ++ [.string (ky x), .int .i64 bv]⟩, ⟨31, 2, a6, its.length, c6, OE.all its⟩, ⟨4, 1, a7, i, c7, cs7⟩, ⟨31, 2, some ⟨q, 0, none⟩, 1, 1, OE.enc x⟩, ⟨31, 2, some ⟨p, 0, none⟩, 1, 1, [.string (ky x), .int .i64 bv]⟩, ⟨31, 2, a10, j + 1 + (its.length - st), c10, (OE.all (its.take j) ++ OE.enc x) ++ OE.all (its.drop st)⟩]) := by
            refine Lib.hid ?_
            intro a11 c11 W8 hg
            obtain ⟨g8, k8⟩ := (A7a.out _).grow (by simp; omega) 0 rfl hg rfl
            exact ⟨(K7.out.al _).trans k8 fun c o hc h => absurd h (by omega), by simpa [List.set] using g8⟩
          have HN9 : Hid (∀ (a11 a12 : Option Addr) (c11 c12 : Nat) (W8 W9 : World), Keep Nothing w W8 ∧ Accs w.heap.size W8 [⟨31, 2, a11, i + 1, c11, cs5 ++ [.string (ky x), .int .i64 bv]⟩, ⟨31, 2, a6, its.length, c6, OE.all its⟩, ⟨4, 1, a7, i, c7, cs7⟩, ⟨31, 2, some ⟨q, 0, none⟩, 1, 1, OE.enc x⟩, ⟨31, 2, some ⟨p, 0, none⟩, 1, 1, [.string (ky x), .int .i64 bv]⟩, ⟨31, 2, a10, j + 1 + (its.length - st), c10, (OE.all (its.take j) ++ OE.enc x) ++ OE.all (its.drop st)⟩] → Grew (W8.alloc (.cells [Value.bool f].toArray 4)) W9 4 1 a7 a12 i 1 c7 c12 (cs7 ++ [.bool f]) → Keep Nothing w W9 ∧ Accs w.heap.size W9 [⟨31, 2, a11, i + 1, c11, cs5 ++ [.string (ky x), .int .i64 bv]⟩, ⟨31, 2, a6, its.length, c6, OE.all its⟩, ⟨4, 1, a12, i + 1, c12, cs7 ++ [.bool f]⟩, ⟨31, 2, some ⟨q, 0, none⟩, 1, 1, OE.enc x⟩, ⟨31, 2, some ⟨p, 0, none⟩, 1, 1, [.string (ky x), .int .i64 bv]⟩, ⟨31, 2, a10, j + 1 + (its.length - st), c10, (OE.all (its.take j) ++ OE.enc x) ++ OE.all (its.drop st)⟩]) := by
            refine Lib.hid ?_
            intro a11 a12 c11 c12 W8 W9 ⟨k8, g8⟩ hg
            have := k8.size
            obtain ⟨g9, k9⟩ := (g8.quiet (Keep.alloc _ _ (.cells [Value.bool f].toArray 4))).grow (by simp; omega) 2 rfl hg rfl
            exact ⟨(k8.al _).trans k9 fun c o hc h => absurd h (by omega), by simpa [List.set] using g9⟩
          have hone2 : ∀ u ∈ [Value.bool f], u.oneCell' = true := by intro u hu; simp at hu; subst hu; rfl
          have h7 : i ≤ c7 := (A7.out.acc 2 _ rfl).le
          clear A7 A7a
          go_wp2_with (first
            | (at_builtin; refine wpList_append_src rfl _ _ _ rfl 31 2 24 Try.underlying28 elemO a5 i c5 cs5 (by rfl) hro hln (some ⟨wc.heap.size, 0, none⟩) 1 1 [.string (ky x), .int .i64 bv] (by rfl) (by omega) rfl hnew hone h5 (by simp only [maxLen]; omega) (by omega) ?_; intro a11 c11 W8 hg; have F8 := Lib.hid (HN8.out a11 c11 W8 hg); have hro8 := ((F8.out.2.quiet (Keep.alloc _ _ (.cells [Value.bool f].toArray 4))).acc 2 _ rfl).row; have hln8 := ((F8.out.2.quiet (Keep.alloc _ _ (.cells [Value.bool f].toArray 4))).acc 2 _ rfl).len; have hnew8 := new_given W8 [Value.bool f] 4; clear hg)
            | (at_builtin; refine wpList_append_src rfl _ _ _ rfl 4 1 1 Try.underlying51 elemBool a7 i c7 cs7 (by rfl) hro8 hln8 (some ⟨W8.heap.size, 0, none⟩) 1 1 [.bool f] (by rfl) (by omega) rfl hnew8 hone2 h7 (by simp only [maxLen]; omega) (by omega) ?_; intro a12 c12 W9 hg; have F9 := Lib.hid (HN9.out a11 a12 c11 c12 W8 W9 F8.out hg); clear hg))
          go_roundg (l.length - i)
          case measure => omega
          case rel =>
            have e : OE.all (its.take j ++ x :: its.drop st) = (OE.all (its.take j) ++ OE.enc x) ++ OE.all (its.drop st) := by rw [Enc.all_append, Enc.all_cons, List.append_assoc]
            have e2 : (its.take j ++ x :: its.drop st).length = j + 1 + (its.length - st) := by simp; omega
            refine ⟨i + 1, its.take j ++ x :: its.drop st, a11, a10, a12, c11, c10, c12, cs5 ++ [.string (ky x), .int .i64 bv], cs7 ++ [.bool f], rfl, by rw [e2], rfl, by go_num, by omega, by omega, F9.out.1, ?_, ?_⟩
            · rw [e, e2]
              refine F9.out.2.sub (fun k => if k = 1 then 5 else k) (fun k r hk => ?_) (fun a b ha hb hab => ?_)
              · match k, hk with
                | 0, hk => exact hk
                | 1, hk => exact hk
                | 2, hk => exact hk
              · simp only [List.length_cons, List.length_nil] at ha hb
                try simp only at hab
                split at hab <;> split at hab <;> omega
            · rw [sortK_snoc l HX.out, ← EI.out, HPUT.out]
    · have hi : i = l.length := by omega
      subst hi
      go_wp2_with fail
      go_ret3
      have hits := HA.out.its
      rw [List.take_of_length_le (Nat.le_refl _)] at hits
      subst hits
      exact ⟨_, _, a6, c6, rfl, HA.out.rows.acc 1 _ rfl, HA.out.keep⟩
end Go.Proofs.Ytckplcmieelmpaa.W

namespace Go.Proofs.Ytckplcmieelmpaa.W
open Go.RowKit Go.Wb

theorem len_any {w : World} {b : Nat} {hr : HRec} (hh : Hdr w b hr) : Calls Try.prog 152 #[ptr b] w fun e w' => e = .returned (.int .i64 hr.cnt) ∧ w = w' := by
  have c3 := hdr_cnt hh
  clear hh
  unfold ptr
  go_enter Try.func152, Try.ntmps152
  go_wp2
  go_ret
  exact ⟨rfl, rfl⟩

/-- What Keys returns: a slice of its own of the keys. -/
def NewKeys (w : World) (xs : List Ky) (e : Ending) (w' : World) : Prop := ∃ a cap, e = .returned (.slice a xs.length cap) ∧ Acc w.heap.size w' 9 1 a xs.length cap (xs.map kv) ∧ Keep Nothing w w'

set_option maxRecDepth 100000 in
set_option maxHeartbeats 4000000 in
theorem mapKeys_any {w : World} {b : Nat} {hr : HRec} {H : Store It} {L : Nat → Lay} {F : List Nat} {mn mx : Nat} {s : Sh} (T : TreeAt w b hr H L F mn mx s) (hb : (its s).length ≤ 4000000000000) :
    Calls Try.prog 108 #[ptr b] w (NewKeys w ((its s).map ky)) := by
  have HT := Lib.hid T
  have hln := len_any T.hdr
  rw [T.cnt] at hln
  obtain ⟨cs, hcs, hmk⟩ := run_make0 (P := Try.prog) 22 9 1 16 Try.underlying22 elemK 0 (its s).length (by omega) (by omega) (by omega)
  have hmk' : ∀ w, (Instr.makeSlice 22 (.int .i64 0) (.int .i64 ((its s).length : Int))).run Try.prog w = .ok (.slice (some ⟨w.heap.size, 0, none⟩) 0 (its s).length) (w.alloc (.cells cs 9)) := fun w => hmk w
  have HCS := Lib.hid hcs
  clear hmk hcs T
  unfold ptr at *
  go_enter Try.func108, Try.ntmps108
  go_wp2_with fail
  refine hln.mono ?_
  rintro e w1 ⟨rfl, rfl⟩
  go_upto_region 2 with (fail)
  refine wp_world ?_
  intro W1 hW1
  have K1 : Hid (Keep Nothing w W1) := by subst hW1; exact (Keep.refl _ _).al _
  have KB1 : Hid (Keep (fun b _ => w.heap.size ≤ b) w W1) := by exact K1.out.mono fun _ _ _ h => h.elim
  have A1 : Hid (Acc w.heap.size W1 9 1 (some ⟨w.heap.size, 0, none⟩) 0 (its s).length []) := by
    subst hW1
    exact ⟨.inr ⟨_, 0, cs, rfl, heap_alloc_new w _, by simp, by rw [HCS.out]; omega, by simp⟩, rfl, Nat.zero_le _, fun c o hf => Nat.le_of_eq (rowFp_some hf).1.symm⟩
  have H1 : Hid (Hdr W1 b hr) := by exact blk_keep HT.out.hdr K1.out fun _ h => h
  clear hW1 hmk' hln
  have c2 := hdr_root H1.out
  have fz := hdr_fz H1.out
  cases s with
  | none =>
    obtain ⟨hroot, _⟩ := HT.out.root
    rw [hroot] at c2
    simp only [rootV, Option.map_none] at c2
    clear hroot
    go_wp2_with fail
    go_ret
    exact ⟨_, _, rfl, A1.out, K1.out⟩
  | some p =>
    obtain ⟨h, t⟩ := p
    obtain ⟨n, hroot, rep, wf⟩ := HT.out.root
    rw [hroot] at c2
    simp only [rootV, Option.map_some] at c2
    have hcall := Lib.hid (keys_any HT.out.mem HT.out.par.hb w.heap.size rfl h 1 n t F rep wf W1 KB1.out _ _ [] A1.out (by simpa [its] using hb))
    clear hroot rep wf
    unfold ptr at hcall
    go_wp2_with fail
    refine hcall.out.mono ?_
    rintro e w2 ⟨a, cap, rfl, hA, hK⟩
    have HA := Lib.hid hA
    have HK := Lib.hid hK
    clear hA hK hcall c2 fz
    go_wp2_with fail
    go_ret
    exact ⟨a, cap, by simp [its], by simpa [its] using HA.out, (KB1.out.trans HK.out fun _ _ _ h => h).mono fun b o hb h => by omega⟩
end Go.Proofs.Ytckplcmieelmpaa.W

namespace Go.Proofs.Ytckplcmieelmpaa.W
open Go.RowKit Go.Wb

/-- A tree that was made since w. -/
structure NewTree (w w' : World) (b : Nat) (hr : HRec) (H : Store It) (L : Nat → Lay) (F : List Nat) (mn mx : Nat) (s : Sh) : Prop where
  tree : TreeAt w' b hr H L F mn mx s
  keep : Keep Nothing w w'
  head : w.heap.size ≤ b
  nodes : ∀ m r c o, H m = some r → fp TT m r (L m) c o → w.heap.size ≤ c

theorem NewTree.step {w wr w' : World} {b : Nat} {hr hr' : HRec} {H H' : Store It} {L L' : Nat → Lay} {F F' : List Nat} {mn mx : Nat} {s s' : Sh} (h : NewTree w wr b hr H L F mn mx s) (ts : TStep TT E (fun c _ => c = b) wr H L F w' H' L' F') (T : TreeAt w' b hr' H' L' F' mn mx s') : NewTree w w' b hr' H' L' F' mn mx s' := by
  refine ⟨T, h.keep.trans ts.keep fun c o hc hs => ?_, h.head, fun m r c o hr hf => ?_⟩
  · rcases hs with ⟨m, r, _, hr, hf⟩ | rfl
    · have := h.nodes m r c o hr hf; omega
    · have := h.head; omega
  · rcases ts.only m r hr with h1 | ⟨_, h2, h3⟩
    · rcases Nat.lt_or_ge c wr.heap.size with hc | hc
      · obtain ⟨k, q, _, hq, hfq⟩ := ts.fp c o hc ⟨m, r, h1, hr, hf⟩
        exact h.nodes k q c o hq hfq
      · exact Nat.le_trans h.keep.size hc
    · rw [h3] at hf
      exact h.nodes m r c o h2 hf

theorem NewTree.calm {w wr w' : World} {b : Nat} {hr : HRec} {H : Store It} {L : Nat → Lay} {F : List Nat} {mn mx : Nat} {s : Sh} (h : NewTree w wr b hr H L F mn mx s) (hk : Keep Nothing wr w') : NewTree w w' b hr H L F mn mx s :=
  ⟨h.tree.keep hk, h.keep.trans hk fun _ _ _ h => h, h.head, h.nodes⟩

def zeroHdr : HRec := ⟨0, none, none, 0, ((⟨#[]⟩ : ByteArray), 0), 0, 0, false, false⟩
theorem mem_empty (w : World) (L : Nat → Lay) : Mem TT E w (fun _ => none) L := ⟨fun n r h => (by cases h), fun n m r q _ h => (by cases h)⟩
/-- A zero tree. -/
theorem newTree_zero {w : World} {b : Nat} (hb : Hdr w b zeroHdr) {w0 : World} (hk : Keep Nothing w0 w) (h0 : w0.heap.size ≤ b) : NewTree w0 w b zeroHdr (fun _ => none) (fun _ => ⟨none, 0, 0, none, 0⟩) [] 31 63 none :=
  ⟨⟨hb, mem_empty _ _, by simp, ⟨rfl, rfl⟩, rfl, by simp [its, Sorted], ⟨rfl, rfl, .inr ⟨rfl, rfl, rfl, rfl⟩, by omega, by omega, by omega⟩⟩, hk, h0, fun m r c o h => by cases h⟩

end Go.Proofs.Ytckplcmieelmpaa.W

namespace Go.Proofs.Ytckplcmieelmpaa.W
open Go.RowKit Go.Wb

def NewMapPost (w : World) (d : Int) (e : Ending) (w' : World) : Prop := ∃ b hr, e = .returned (ptr b) ∧ NewTree w w' b hr (fun _ => none) (fun _ => ⟨none, 0, 0, none, 0⟩) [] (d - 1).toNat (2 * d - 1).toNat none ∧ hr.emp = zeroHdr.emp
set_option maxHeartbeats 1000000 in
theorem newMap_any (w : World) (d : Int) (h1 : 2 ≤ d) (h2 : d ≤ 128) : Calls Try.prog 109 #[.int .i64 d] w (NewMapPost w d) := by
  have hmx : mxOf d = d * 2 - 1 := by unfold mxOf; rw [if_neg (by omega), if_neg (by omega)]
  have hmn : mxOf d / 2 = d - 1 := by rw [hmx]; omega
  have HMX := Lib.hid hmx
  have HMN := Lib.hid hmn
  clear hmx hmn
  go_enter Try.func109, Try.ntmps109
  go_upto_region 2 with (fail)
  refine wp_world ?_
  intro W1 hW1
  have K1 : Hid (Keep Nothing w W1) := by subst hW1; exact (Keep.refl _ _).al _
  have hb : Hdr W1 w.heap.size zeroHdr := by subst hW1; have := heap_alloc_new w (.cells (hdrC zeroHdr) 166); exact this
  have hin := Lib.hid (init_new hb d (by omega) (by omega) rfl)
  have HQ : Hid (w.heap.size ≤ w.heap.size) := Lib.hid (Nat.le_refl _)
  generalize hq : w.heap.size = b at *
  clear hW1 hb
  unfold ptr at hin
  go_wp2_with fail
  refine hin.out.mono ?_
  rintro e W2 ⟨rfl, h7, k7⟩
  have H7 := Lib.hid h7
  have K7 := Lib.hid k7
  have HQ2 := Lib.hid hq
  clear hin h7 k7 hq
  go_wp2_with fail
  go_ret
  refine ⟨b, _, rfl, ⟨⟨H7.out, mem_empty _ _, by simp, ⟨rfl, rfl⟩, rfl, by simp [its, Sorted], ⟨rfl, rfl, .inl ⟨?_, ?_⟩, by omega, by omega, by omega⟩⟩, ?_, by rw [HQ2.out]; exact Nat.le_refl _, fun m r c o h => by cases h⟩, rfl⟩
  · show mxOf d / 2 = _; rw [HMN.out]; omega
  · show mxOf d = _; rw [HMX.out]; omega
  · exact K1.out.trans K7.out fun c o hc (h : c = b) => by have := HQ2.out; omega

/-- A map that was made of words. -/
def GrowPost (w : World) (d : Int) (l : List It) (e : Ending) (w' : World) : Prop := ∃ b hr H L F s, e = .returned (ptr b) ∧ NewTree w w' b hr H L F (d - 1).toNat (2 * d - 1).toNat s ∧ its s = sortK l ∧ hr.emp = zeroHdr.emp

set_option maxRecDepth 100000 in
set_option maxHeartbeats 4000000 in
theorem grow_any {w : World} {a : Option Addr} {cap : Nat} {l : List It} (hg : Given w a (OE.all l)) (hl : l.length ≤ 4000000000000) (d : Int) (h1 : 2 ≤ d) (h2 : d ≤ 128) :
    Calls Try.prog 59 #[.int .i64 d, .slice a l.length cap] w (GrowPost w d l) := by
  have HG := Lib.hid hg
  have HL := Lib.hid hl
  have hnm := Lib.hid (newMap_any w d h1 h2)
  clear hg hl
  go_enter Try.func59, Try.ntmps59
  go_wp2_with fail
  refine hnm.out.mono ?_
  rintro e W1 ⟨b, hr0, rfl, hN0, he0⟩
  have HN0 := Lib.hid hN0
  have HE0 := Lib.hid he0
  clear hnm hN0 he0
  unfold ptr
  go_wp2_with fail
  go_loopg [12] (l.length + 1) (fun k v12 wr => ∃ (i : Nat) (hr : HRec) (H : Store It) (L : Nat → Lay) (F : List Nat) (s : Sh), v12 = .int .i64 i ∧ i ≤ l.length ∧ i + k = l.length + 1 ∧ NewTree w wr b hr H L F (d - 1).toNat (2 * d - 1).toNat s ∧ its s = sortK (l.take i) ∧ hr.emp = zeroHdr.emp)
  case atStart => exact ⟨0, _, _, _, _, _, rfl, by omega, by omega, HN0.out, by simp [its, sortK], HE0.out⟩
  case round =>
    obtain ⟨i, hr, H, L, F, s, rfl, hil, hik, hN, hits, hemp⟩ := hrel
    have HN := Lib.hid hN
    have HI := Lib.hid hits
    have HEM := Lib.hid hemp
    clear hN hits hemp
    by_cases hlt : i < l.length
    · have hx : l[i]? = some l[i] := List.getElem?_eq_getElem hlt
      generalize l[i] = x at *
      have HX := Lib.hid hx
      obtain ⟨b0, o0, ha, x0, x1⟩ := word_cell (HG.out.keep HN.out.keep) hx
      subst ha
      have hll := HL.out
      have hlen : Hid ((its s).length ≤ 3000000000000000000) := Lib.hid (by rw [HI.out]; have := sortK_len (l.take i); simp at this; omega)
      clear hx
      unfold kv at *
      go_upto_region 5 with (fail)
      refine wp_world ?_
      intro W2 hW2
      have k2 : Keep Nothing wr W2 := by subst hW2; exact (Keep.refl _ _).al _
      have X2 : W2.heap[wr.heap.size]? = some (.cells (OE.enc x).toArray 31 (0, 0)) := by subst hW2; exact heap_alloc_new wr _
      have HN2 := Lib.hid (HN.out.calm k2)
      obtain ⟨xk, xv, _⟩ := blk2 X2
      have hset := Lib.hid (set_tree HN2.out.tree hlen.out x)
      generalize wr.heap.size = q at *
      clear hW2 k2 X2 HN x0 x1
      unfold kv ptr vv at *
      go_wp2_with fail
      refine hset.out.mono ?_
      rintro e W3 ⟨hr', H', L', F', s', p, rfl, t1, t2, t3, t4, t5, t6, _⟩
      have HN3 := Lib.hid (HN2.out.step t1 t2)
      have HP := Lib.hid t3
      have HEM3 := Lib.hid (t6.trans HEM.out)
      clear t1 t2 t3 t4 t5 t6 hset xk xv HN2 HEM
      unfold vv
      go_wp2_with fail
      go_roundg (l.length - i)
      case measure => omega
      case rel => exact ⟨i + 1, hr', H', L', F', s', by go_num, by omega, by omega, HN3.out, by rw [(HP.out.eq iord).1, HI.out, sortK_snoc l HX.out], HEM3.out⟩
    · have hi : i = l.length := by omega
      subst hi
      go_wp2_with fail
      go_ret
      refine ⟨b, hr, H, L, F, s, rfl, HN.out, ?_, HEM.out⟩
      rw [HI.out, List.take_of_length_le (Nat.le_refl _)]

theorem grow_len {l : List It} {s : Sh} (h : its s = sortK l) : (its s).length ≤ l.length := by rw [h]; exact sortK_len l
end Go.Proofs.Ytckplcmieelmpaa.W

namespace Go.Proofs.Ytckplcmieelmpaa.W
open Go.RowKit Go.Wb

/-- What is left behind the handing on, out of the list at block ob. -/
theorem out_words {w w0 w' : World} {ob : Nat} {xs : List It} (hk : Keep Nothing w w0) (hob : w.heap.size ≤ ob) (hJ : OutJ w0 ob xs w') : ∃ a cap, w'.heap[ob]? = some (.cells #[.slice a xs.length cap] 28 (0, 0)) ∧ Acc w.heap.size w' 31 2 a xs.length cap (OE.all xs) ∧ Keep Nothing w w' := by
  obtain ⟨h1, a, cap, h2, h3⟩ := hJ
  refine ⟨a, cap, h2, ⟨h3.row, h3.len, h3.le, fun b o hf => Nat.le_trans hk.size (h3.own b o hf)⟩, hk.trans h1 fun c o hc (h : c = ob) => ?_⟩
  omega

set_option maxHeartbeats 2000000 in
theorem all_any {w : World} {b : Nat} {hr : HRec} {H : Store It} {L : Nat → Lay} {F : List Nat} {mn mx : Nat} {s : Sh} (T : TreeAt w b hr H L F mn mx s) (hl : (its s).length ≤ 4000000000000) :
    Calls Try.prog 73 #[ptr b] w (NewWords w (its s)) := by
  have HT := Lib.hid T
  have HL := Lib.hid hl
  have hbw := lt_of_heap T.hdr
  clear T hl
  unfold ptr at *
  go_enter Try.func73, Try.ntmps73
  go_upto_region 2 with (fail)
  refine wp_world ?_
  intro W1 hW1
  have k1 : Hid (Keep Nothing w W1) := by subst hW1; exact (Keep.refl _ _).al _
  have O1 : Hid (W1.heap[w.heap.size]? = some (.cells #[.slice none 0 0] 28 (0, 0))) := by subst hW1; exact heap_alloc_new w _
  have HQ : Hid (w.heap.size ≤ w.heap.size) := Lib.hid (Nat.le_refl _)
  generalize hq : w.heap.size = ob at *
  have HQE := Lib.hid hq
  clear hW1 hq
  have hh := Lib.hid (hander_any (lt_of_heap O1.out) 0)
  unfold ptr at hh
  go_wp2_with fail
  refine hh.out.mono ?_
  rintro e W2 ⟨kf, kt, kn, rfl, k2, hd⟩
  have K2 : Hid (Keep Nothing w W2) := by exact k1.out.trans k2 fun _ _ _ h => h
  have O2 := Lib.hid (blk_keep O1.out k2 fun _ h => h)
  have hP : HandPre W2 W2 b hr H L F mn mx s 112 #[ptr kf] (upTo 0) (OutJ W2 ob) (fun c _ => c = ob) 4000000000000 :=
    ⟨HT.out.keep K2.out, hands_of hd (by omega) (by omega), fun _ h => by omega, fun n r c o hn hf h => by have := (HT.out.mem.at_ n r hn).lt hf; have := HQE.out; omega, HL.out, outJ_start O2.out⟩
  have hsc := Lib.hid (mapScan_any hP)
  clear hh k2 hd hP k1 O1
  unfold ptr at *
  go_wp2_with fail
  refine hsc.out.mono ?_
  rintro e W3 ⟨rfl, hJ⟩
  rw [handOn_first] at hJ
  obtain ⟨a, cap, h1, h2, h3⟩ := out_words K2.out (by have := HQE.out; omega) hJ
  have co := (blk1 h1).1
  have H2 := Lib.hid h2
  have H3 := Lib.hid h3
  clear hJ h1 h2 h3 hsc
  go_wp2_with fail
  go_ret
  exact ⟨a, cap, rfl, H2.out, H3.out⟩
end Go.Proofs.Ytckplcmieelmpaa.W

namespace Go.Proofs.Ytckplcmieelmpaa.W
open Go.RowKit Go.Wb

set_option maxHeartbeats 1000000 in
theorem words_any {w : World} {a : Option Addr} {cap : Nat} {l : List It} (h1 : Given w a (OE.all l)) (hl : l.length ≤ 4000000000000) : Calls Try.prog 88 #[.slice a l.length cap] w (NewWords w (sortK l)) := by
  have hw := Lib.hid (wset_any (cap := cap) h1 hl)
  clear h1
  go_enter Try.func88, Try.ntmps88
  go_wp2_with fail
  refine hw.out.mono ?_
  rintro e w' ⟨v1, v2, a6, c6, rfl, hA, hK⟩
  have HA := Lib.hid hA
  have HK := Lib.hid hK
  clear hA hK hw
  go_wp2_with fail
  go_ret
  exact ⟨a6, c6, rfl, HA.out, HK.out⟩

theorem firstN_len (n : Int) (l : List It) : (firstN n l).length ≤ l.length := by unfold firstN; split <;> simp <;> omega
theorem firstN_given {w : World} {a : Option Addr} {l : List It} (n : Int) (h : Given w a (OE.all l)) : Given w a (OE.all (firstN n l)) := by
  unfold firstN
  split
  · exact h
  · rw [out_take]; exact h.take _
def FirstPost (w : World) (a : Option Addr) (n : Int) (l : List It) (cap : Nat) (e : Ending) (w' : World) : Prop := e = .returned (.slice a (firstN n l).length cap) ∧ w = w'

theorem rev_take {α : Type} {l : List α} {j : Nat} {x : α} (h : l[j]? = some x) : (l.drop j).reverse = (l.drop (j + 1)).reverse ++ [x] := by
  obtain ⟨hj, rfl⟩ := List.getElem?_eq_some_iff.1 h
  rw [List.drop_eq_getElem_cons hj]; simp

/-- A list that reads so, made since w. -/
def ReadWords (w : World) (xs : List It) (e : Ending) (w' : World) : Prop := ∃ a cap, e = .returned (.slice a xs.length cap) ∧ Given w' a (OE.all xs) ∧ Keep Nothing w w'
theorem NewWords.reads {w : World} {xs : List It} {e : Ending} {w' : World} (h : NewWords w xs e w') : ReadWords w xs e w' := by
  obtain ⟨a, cap, rfl, h1, h2⟩ := h
  exact ⟨a, cap, rfl, h1.row.reads, h2⟩
end Go.Proofs.Ytckplcmieelmpaa.W

namespace Go.Proofs.Ytckplcmieelmpaa.W
open Go.RowKit Go.Wb

/-- The types of the blocks of a tree. -/
def treeTy (t : TypeId) : Prop := t = 172 ∨ t = 161 ∨ t = 164 ∨ t = 173 ∨ t = 166

theorem fp_typed {w : World} {n : Nat} {r : NRec It} {L : Lay} (h : NodeAt TT E w n r L) {b o : Nat} (hf : fp TT n r L b o) : ∃ arr t, w.heap[b]? = some (.cells arr t (0, 0)) ∧ treeTy t := by
  rcases hf with rfl | hf | ⟨hk, hf⟩
  · exact ⟨_, _, h.1, .inl rfl⟩
  · obtain ⟨arr, ha⟩ := h.2.1.block ⟨_, hf⟩
    exact ⟨arr, _, ha, .inr (.inl rfl)⟩
  · obtain ⟨ks, hks⟩ := Option.isSome_iff_exists.1 hk
    obtain ⟨h5, h6, _⟩ := h.2.2.2 ks hks
    rcases hf with rfl | hf
    · exact ⟨_, _, h5, .inr (.inr (.inr (.inl rfl)))⟩
    · obtain ⟨arr, ha⟩ := h6.block ⟨_, hf⟩
      exact ⟨arr, _, ha, .inr (.inr (.inl rfl))⟩
/-- A row of another type is apart from a tree. -/
theorem row_apart {w : World} {b : Nat} {hr : HRec} {H : Store It} {L : Nat → Lay} {F : List Nat} {mn mx : Nat} {s : Sh} (T : TreeAt w b hr H L F mn mx s) {a : Option Addr} {ty z cap : Nat} {cs : List Value} (h : Row w ty z a cap cs) (hty : ¬ treeTy ty) : ∀ x o, rowFp a (cap * z) x o → ¬ (FP TT H L F x o ∨ x = b) := by
  intro x o hf hs
  obtain ⟨arr, ha⟩ := h.block ⟨_, hf⟩
  rcases hs with ⟨m, r, _, hr, hg⟩ | rfl
  · obtain ⟨arr2, t, ha2, ht⟩ := fp_typed (T.mem.at_ m r hr) hg
    rw [ha] at ha2
    cases ha2
    exact hty ht
  · have := T.hdr
    unfold Hdr at this
    rw [ha] at this
    have e := (Obj.cells.inj (Option.some.inj this)).2.1
    exact hty (.inr (.inr (.inr (.inr e))))
/-- A tree is as it was where only cells of other types turn. -/
theorem NewTree.off {w0 w w' : World} {b : Nat} {hr : HRec} {H : Store It} {L : Nat → Lay} {F : List Nat} {mn mx : Nat} {s : Sh} (N : NewTree w0 w b hr H L F mn mx s) {S : Nat → Nat → Prop} (hk : Keep S w w') (h0 : ∀ x o, S x o → w0.heap.size ≤ x) (hS : ∀ x o, x < w.heap.size → S x o → ∃ arr t, w.heap[x]? = some (.cells arr t (0, 0)) ∧ ¬ treeTy t) : NewTree w0 w' b hr H L F mn mx s := by
  have T := N.tree
  have nb : ∀ o, ¬ S b o := fun o hs => by
    have hh := T.hdr
    unfold Hdr at hh
    obtain ⟨arr, t, ha, ht⟩ := hS b o (lt_of_heap hh) hs
    rw [hh] at ha
    have e := (Obj.cells.inj (Option.some.inj ha)).2.1
    exact ht (.inr (.inr (.inr (.inr e.symm))))
  refine ⟨⟨blk_keep T.hdr hk fun o => nb o, T.mem.keepS hk fun n r x o hr hf hs => ?_, T.nd, T.root, T.cnt, T.srt, T.par⟩, N.keep.trans hk fun x o hx hs => absurd (h0 x o hs) (by omega), N.head, N.nodes⟩
  obtain ⟨arr, t, ha, ht⟩ := fp_typed (T.mem.at_ n r hr) hf
  obtain ⟨arr2, t2, ha2, ht2⟩ := hS x o (lt_of_heap ha) hs
  rw [ha] at ha2
  cases ha2
  exact ht2 ht
end Go.Proofs.Ytckplcmieelmpaa.W

namespace Go.Proofs.Ytckplcmieelmpaa.W
open Go.RowKit Go.Wb

theorem lo_off {B : Nat} {w w' : World} {l : List Rw} (h : Accs B w l) {S : Nat → Nat → Prop} (hk : Keep S w w') (hS : ∀ (i : Nat) (r : Rw), l[i]? = some r → ∀ b o, rowFp r.a (r.cap * r.s) b o → ¬ S b o) : Accs B w' l :=
  ⟨fun i r hi => ⟨(h.acc i r hi).row.keep' hk (hS i r hi), (h.acc i r hi).len, (h.acc i r hi).le, (h.acc i r hi).own⟩, h.apart⟩
theorem lo_grow {w0 w w' : World} {b : Nat} {hr : HRec} {H : Store It} {L : Nat → Lay} {F : List Nat} {mn mx : Nat} {s : Sh} (N : NewTree w0 w b hr H L F mn mx s) {B : Nat} {l : List Rw} (A : Accs B w l) (hB : w0.heap.size ≤ B) (i : Nat) {ty z n cap m cap' : Nat} {a a' : Option Addr} {cs cs2 : List Value} (hi : l[i]? = some ⟨ty, z, a, n, cap, cs⟩) (hty : ¬ treeTy ty) (hg : Grew w w' ty z a a' n m cap cap' cs2) : NewTree w0 w' b hr H L F mn mx s := by
  have hA := A.acc i _ hi
  refine N.off hg.keep (fun x o ⟨x1, y1, e1, e2, e3, e4⟩ => ?_) fun x o hx ⟨x1, y1, e1, e2, e3, e4⟩ => ?_
  · have e3' : y1 ≤ o := Nat.le_trans (Nat.le_add_right _ _) e3
    exact Nat.le_trans hB (hA.own x o ⟨x1, y1, e1, e2, e3', e4⟩)
  · have e3' : y1 ≤ o := Nat.le_trans (Nat.le_add_right _ _) e3
    obtain ⟨arr, ha⟩ := hA.row.block ⟨_, (show rowFp a (cap * z) x o from ⟨x1, y1, e1, e2, e3', e4⟩)⟩
    exact ⟨arr, ty, ha, hty⟩
theorem elemB : Elem Try.prog 4 1 1 := ⟨by kernel_rfl, by kernel_rfl, by kernel_rfl⟩

/-- Words are set in turn: what they replaced, whether there was one, the words behind it. -/
def stepS (st : List It × List Bool × List It) (x : It) : List It × List Bool × List It := (st.1 ++ [(ky x, ((sameF ilt st.2.2 x).getD zeroHdr.emp).2)], st.2.1 ++ [(sameF ilt st.2.2 x).isSome], putF ilt st.2.2 x)
def setAll (l : List It) : List It × List Bool × List It := l.foldl stepS ([], [], [])
theorem setAll_snoc (l : List It) {i : Nat} {x : It} (hk : l[i]? = some x) : setAll (l.take (i + 1)) = stepS (setAll (l.take i)) x := by
  unfold setAll
  rw [List.take_add_one, hk, Option.toList_some, List.foldl_append]
  rfl
theorem setAll_len (l : List It) : (setAll l).2.2.length ≤ l.length := by
  have : ∀ (l : List It) (st : List It × List Bool × List It), (l.foldl stepS st).2.2.length ≤ st.2.2.length + l.length := by
    intro l
    induction l with
    | nil => intro st; simp
    | cons k l ih =>
      intro st
      have h1 := ih (stepS st k)
      have h2 := putF_len st.2.2 k iord
      rw [List.foldl_cons, List.length_cons]
      have h3 : (stepS st k).2.2.length ≤ st.2.2.length + 1 := h2
      omega
  simpa [setAll] using this l ([], [], [])
theorem setAll_len2 (l : List It) : (setAll l).1.length = l.length ∧ (setAll l).2.1.length = l.length := by
  have : ∀ (l : List It) (st : List It × List Bool × List It), (l.foldl stepS st).1.length = st.1.length + l.length ∧ (l.foldl stepS st).2.1.length = st.2.1.length + l.length := by
    intro l
    induction l with
    | nil => intro st; exact ⟨rfl, rfl⟩
    | cons k l ih =>
      intro st
      obtain ⟨h1, h2⟩ := ih (stepS st k)
      rw [List.foldl_cons]
      refine ⟨h1.trans ?_, h2.trans ?_⟩ <;> simp [stepS] <;> omega
  obtain ⟨h1, h2⟩ := this l ([], [], [])
  exact ⟨by simpa [setAll] using h1, by simpa [setAll] using h2⟩
def WRunPost (w : World) (st : List It × List Bool × List It) (e : Ending) (w' : World) : Prop :=
  ∃ a c a2 c2 a3 c3, e = .returned (.tuple #[.slice a st.1.length c, .slice a2 st.2.1.length c2, .slice a3 st.2.2.length c3]) ∧ Given w' a (OE.all st.1) ∧ Given w' a2 (st.2.1.map .bool) ∧ Given w' a3 (OE.all st.2.2) ∧ Keep Nothing w w'
theorem el_no : ¬ treeTy 31 := by unfold treeTy; decide
theorem boo_no : ¬ treeTy 4 := by unfold treeTy; decide

/-- The state of the loop. -/
structure SetLoop (w : World) (B : Nat) (wr : World) (b : Nat) (hr : HRec) (H : Store It) (L : Nat → Lay) (F : List Nat) (mn mx : Nat) (s : Sh) (a5 a7 : Option Addr) (i c5 c7 : Nat) (st : List It × List Bool × List It) : Prop where
  tree : NewTree w wr b hr H L F mn mx s
  rows : Accs B wr [⟨31, 2, a5, i, c5, OE.all st.1⟩, ⟨4, 1, a7, i, c7, st.2.1.map .bool⟩]
  its_ : its s = st.2.2
  hB : w.heap.size ≤ B
  hB2 : B ≤ wr.heap.size
  emp : hr.emp = zeroHdr.emp
/-- .. behind the word was set. -/
structure SetHalf (w : World) (B : Nat) (wr : World) (b : Nat) (hr : HRec) (H : Store It) (L : Nat → Lay) (F : List Nat) (mn mx : Nat) (s : Sh) (a5 a7 : Option Addr) (i c5 c7 : Nat) (st : List It × List Bool × List It) (x : It) : Prop where
  tree : NewTree w wr b hr H L F mn mx s
  rows : Accs B wr [⟨31, 2, a5, i, c5, OE.all st.1⟩, ⟨4, 1, a7, i, c7, st.2.1.map .bool⟩]
  its_ : its s = putF ilt st.2.2 x
  hB : w.heap.size ≤ B
  hB2 : B ≤ wr.heap.size
  emp : hr.emp = zeroHdr.emp

variable {w : World} {B : Nat} {wr : World} {b : Nat} {hr : HRec} {H : Store It} {L : Nat → Lay} {F : List Nat} {mn mx : Nat} {s : Sh} {a5 a7 : Option Addr} {i c5 c7 : Nat} {st : List It × List Bool × List It}
theorem SetLoop.quiet (h : SetLoop w B wr b hr H L F mn mx s a5 a7 i c5 c7 st) {w' : World} (hk : Keep Nothing wr w') : SetLoop w B w' b hr H L F mn mx s a5 a7 i c5 c7 st :=
  ⟨h.tree.calm hk, h.rows.quiet hk, h.its_, h.hB, Nat.le_trans h.hB2 hk.size, h.emp⟩
theorem SetHalf.quiet {x : It} (h : SetHalf w B wr b hr H L F mn mx s a5 a7 i c5 c7 st x) {w' : World} (hk : Keep Nothing wr w') : SetHalf w B w' b hr H L F mn mx s a5 a7 i c5 c7 st x :=
  ⟨h.tree.calm hk, h.rows.quiet hk, h.its_, h.hB, Nat.le_trans h.hB2 hk.size, h.emp⟩
theorem SetLoop.set (h : SetLoop w B wr b hr H L F mn mx s a5 a7 i c5 c7 st) {x : It} {e : Ending} {w2 : World} (hd : SetT wr b hr H L F mn mx s x e w2) {xb : Nat} {ob : Array Value} (hxb : wr.heap[xb]? = some (.cells ob 31 (0, 0))) :
    e = .returned (.tuple #[.int .i64 (Option.getD (sameF ilt st.2.2 x) zeroHdr.emp).2, .bool (sameF ilt st.2.2 x).isSome]) ∧ ∃ hr' H' L' F' s', SetHalf w B w2 b hr' H' L' F' mn mx s' a5 a7 i c5 c7 st x ∧ w2.heap[xb]? = some (.cells ob 31 (0, 0)) := by
  obtain ⟨hr', H', L', F', s', p, rfl, ts, T, put, _, _, q3, _⟩ := hd
  obtain ⟨e1, e2⟩ := put.eq iord
  rw [h.its_] at e1 e2
  refine ⟨by rw [e2, h.emp]; rfl, hr', H', L', F', s', ⟨h.tree.step ts T, lo_off h.rows ts.keep fun j r hj x o hf => ?_, e1, h.hB, Nat.le_trans h.hB2 ts.keep.size, by rw [q3, h.emp]⟩, blk_keep hxb ts.keep fun o hs => ?_⟩
  · have hrow := (h.rows.acc j r hj).row
    refine row_apart h.tree.tree hrow ?_ x o hf
    cases j with
    | zero => cases hj; exact el_no
    | succ j => cases j with
      | zero => cases hj; exact boo_no
      | succ j => simp at hj
  · rcases hs with ⟨m, r, _, hr1, hf⟩ | e
    · obtain ⟨arr, t, ha, ht⟩ := fp_typed (h.tree.tree.mem.at_ m r hr1) hf
      rw [hxb] at ha
      cases ha
      exact el_no ht
    · have hh := h.tree.tree.hdr
      unfold Hdr at hh
      rw [← e, hxb] at hh
      have e3 := (Obj.cells.inj (Option.some.inj hh)).2.1
      exact el_no (by rw [e3]; exact .inr (.inr (.inr (.inr rfl))))
/-- Behind the first append, and behind both. -/
theorem SetHalf.one {w2 W : World} {hr : HRec} {H : Store It} {L : Nat → Lay} {F : List Nat} {s : Sh} {x0 : It} (h : SetHalf w B w2 b hr H L F mn mx s a5 a7 i c5 c7 st x0) (o : Obj) {x : It} {a' : Option Addr} {c' : Nat} (hg : Grew (w2.alloc o) W 31 2 a5 a' i 1 c5 c' (OE.all st.1 ++ OE.enc x)) :
    NewTree w W b hr H L F mn mx s ∧ Accs B W [⟨31, 2, a', i + 1, c', OE.all (st.1 ++ [x])⟩, ⟨4, 1, a7, i, c7, st.2.1.map .bool⟩] ∧ B ≤ W.heap.size := by
  have A1 := h.rows.quiet (Keep.alloc _ _ o)
  have N1 := h.tree.calm (Keep.alloc _ _ o)
  have hs : B ≤ (w2.alloc o).heap.size := by rw [World.size_alloc]; have := h.hB2; omega
  obtain ⟨g8, k8⟩ := A1.grow hs 0 rfl hg rfl
  refine ⟨lo_grow N1 A1 h.hB 0 rfl el_no hg, ?_, Nat.le_trans hs k8.size⟩
  have e : OE.all (st.1 ++ [x]) = OE.all st.1 ++ OE.enc x := by rw [Enc.all_append]; simp [Enc.all]
  rw [e]
  simpa [List.set] using g8
theorem SetHalf.two {W W' : World} {hr : HRec} {H : Store It} {L : Nat → Lay} {F : List Nat} {s : Sh} {n : Nat} {a' : Option Addr} {c' : Nat} {xs : List It} (h : NewTree w W b hr H L F mn mx s ∧ Accs B W [⟨31, 2, a', n, c', OE.all xs⟩, ⟨4, 1, a7, i, c7, st.2.1.map .bool⟩] ∧ B ≤ W.heap.size) (hB : w.heap.size ≤ B) (o : Obj) {f : Bool} {a2 : Option Addr} {c2 : Nat} (hg : Grew (W.alloc o) W' 4 1 a7 a2 i 1 c7 c2 (st.2.1.map .bool ++ [.bool f])) :
    NewTree w W' b hr H L F mn mx s ∧ Accs B W' [⟨31, 2, a', n, c', OE.all xs⟩, ⟨4, 1, a2, i + 1, c2, (st.2.1 ++ [f]).map .bool⟩] ∧ B ≤ W'.heap.size := by
  obtain ⟨N, A, hB2⟩ := h
  have A1 := A.quiet (Keep.alloc _ _ o)
  have N1 := N.calm (Keep.alloc _ _ o)
  have hs : B ≤ (W.alloc o).heap.size := by rw [World.size_alloc]; omega
  obtain ⟨g8, k8⟩ := A1.grow hs 1 rfl hg rfl
  refine ⟨lo_grow N1 A1 hB 1 rfl boo_no hg, ?_, Nat.le_trans hs k8.size⟩
  simpa [List.set] using g8
end Go.Proofs.Ytckplcmieelmpaa.W

namespace Go.Proofs.Ytckplcmieelmpaa.W
open Go.RowKit Go.Wb

set_option maxRecDepth 100000 in
set_option maxHeartbeats 8000000 in
theorem wrunSet_any {w : World} {a : Option Addr} {cap : Nat} {l : List It} (hg : Given w a (OE.all l)) (hl : l.length ≤ 3000000000000) (d : Int) (h1 : 2 ≤ d) (h2 : d ≤ 128) :
    Calls Try.prog 29 #[.int .i64 d, .slice a l.length cap] w (WRunPost w (setAll l)) := by
  have hgr := Lib.hid (grow_any (w := w) (a := none) (cap := 0) (l := []) (.inl rfl) (by simp) d h1 h2)
  have HKS := Lib.hid hg
  have HLL := Lib.hid hl
  clear hg hl
  go_enter Try.func29, Try.ntmps29
  simp only [List.length_nil] at hgr
  go_wp2_with fail
  refine hgr.out.mono ?_
  rintro e w1 ⟨b, hr, H, L, F, s, rfl, hN, hits, hemp⟩
  have HN := Lib.hid hN
  have HI := Lib.hid hits
  have HE := Lib.hid hemp
  clear hgr hN hits hemp
  unfold ptr
  go_wp2_with fail
  go_loopg [8, 9, 18] (l.length + 1) (fun m v8 v9 v18 wr => ∃ (i : Nat) (a5 a7 : Option Addr) (c5 c7 : Nat) (hr : HRec) (H : Store It) (L : Nat → Lay) (F : List Nat) (s : Sh), v8 = .slice a5 i c5 ∧ v9 = .slice a7 i c7 ∧ v18 = .int .i64 i ∧ i ≤ l.length ∧ i + m = l.length + 1 ∧ SetLoop w w1.heap.size wr b hr H L F (d - 1).toNat (2 * d - 1).toNat s a5 a7 i c5 c7 (setAll (l.take i)))
  case atStart => exact ⟨0, none, none, 0, 0, hr, H, L, F, s, rfl, rfl, rfl, by omega, by omega, HN.out, ((Accs.nil w1.heap.size w1).addNil (Nat.le_refl _) 31 2).addNil (Nat.le_refl _) 4 1, HI.out, HN.out.keep.size, Nat.le_refl _, HE.out⟩
  case round =>
    obtain ⟨i, a5, a7, c5, c7, hr2, H2, L2, F2, s2, rfl, rfl, rfl, hil, hik, hT⟩ := hrel
    have HT := Lib.hid hT
    clear hT
    by_cases hlt : i < l.length
    · obtain ⟨t, ht⟩ : ∃ t, l[i]? = some t := ⟨_, List.getElem?_eq_getElem hlt⟩
      obtain ⟨kb, ko, hka, ck, cv⟩ := word_cell (HKS.out.keep HT.out.tree.keep) ht
      subst hka
      have HX := Lib.hid ht
      have hsl : (its s2).length ≤ 4000000000000 := by
        have h5 := setAll_len (l.take i)
        have h7 := HLL.out
        rw [HT.out.its_]
        simp at h5
        omega
      have k0 : Keep Nothing wr (wr.alloc (.cells (OE.enc t).toArray 31)) := Keep.alloc _ _ _
      have hb0 := heap_alloc_new wr (.cells (OE.enc t).toArray 31)
      have T0 := Lib.hid (HT.out.quiet k0)
      have hset := Lib.hid (set_tree (x := t) T0.out.tree.tree (by first | exact hsl | omega))
      clear ht hsl
      obtain ⟨p, hp⟩ : ∃ p, p = sameF ilt (setAll (l.take i)).2.2 t := ⟨_, rfl⟩
      have HP := Lib.hid hp
      have hset2 : Calls Try.prog 74 #[ptr b, kv (ky t), vv t] (wr.alloc (.cells (OE.enc t).toArray 31)) fun e w2 => e = .returned (.tuple #[.int .i64 (Option.getD p zeroHdr.emp).2, .bool p.isSome]) ∧ ∃ hr' H' L' F' s', SetHalf w w1.heap.size w2 b hr' H' L' F' (d - 1).toNat (2 * d - 1).toNat s' a5 a7 i c5 c7 (setAll (l.take i)) t ∧ w2.heap[wr.heap.size]? = some (.cells (OE.enc t).toArray 31 (0, 0)) := by
        rw [hp]
        exact hset.out.mono fun e w2 h => T0.out.set h hb0
      have HG2 := Lib.hid hset2
      have hB := HT.out.hB
      obtain ⟨v, hvv⟩ : ∃ v, v = (Option.getD p zeroHdr.emp).2 := ⟨_, rfl⟩
      obtain ⟨f, hff⟩ : ∃ f, f = p.isSome := ⟨_, rfl⟩
      rw [← hvv, ← hff] at HG2
      have HVV := Lib.hid hvv
      have HFF := Lib.hid hff
      obtain ⟨bx0, bx1, _⟩ := blk2 hb0
      clear hset hset2 hp hvv hff k0 hb0 T0
      have ee : OE.enc t = [.string (ky t), .int .i64 t.2] := rfl
      rw [ee] at HG2 bx0 bx1
      generalize hqq : wr.heap.size = q at *
      unfold ptr kv vv at *
      go_upto_region 7 with (fail)
      go_upto_region 8 with (go_at_call 74; refine HG2.out.mono ?_; rintro e w2 ⟨rfl, hr3, H3, L3, F3, s3, hN3, hX3⟩; have N3 := Lib.hid hN3; have X3 := Lib.hid hX3; clear hN3 hX3)
      obtain ⟨x0, x1, xf⟩ := blk2 X3.out
      obtain ⟨x, hxx⟩ : ∃ x : It, x = (ky t, v) := ⟨_, rfl⟩
      have hex : OE.enc x = [.string (ky t), .int .i64 v] := by rw [hxx]; rfl
      have hro := ((N3.out.rows.quiet (Keep.alloc Nothing w2 (.cells (OE.enc x).toArray 31))).acc 0 _ rfl).row
      have hln := ((N3.out.rows.quiet (Keep.alloc Nothing w2 (.cells (OE.enc x).toArray 31))).acc 0 _ rfl).len
      have hnew := new_given w2 (OE.enc x) 31
      have hone1 := OE.one x
      have hone2 : ∀ u ∈ [Value.bool f], u.oneCell' = true := by intro u hu; simp at hu; subst hu; rfl
      have h5 : i ≤ c5 := (N3.out.rows.acc 0 _ rfl).le
      have h7 : i ≤ c7 := (N3.out.rows.acc 1 _ rfl).le
      have hll := HLL.out
      have HEX := Lib.hid hex
      have HXX := Lib.hid hxx
      have one8 := Lib.hid (fun (W : World) (a' : Option Addr) (c' : Nat) (hg : Grew (w2.alloc (.cells (OE.enc x).toArray 31)) W 31 2 a5 a' i 1 c5 c' (OE.all (setAll (l.take i)).1 ++ OE.enc x)) => N3.out.one _ hg)
      rw [hex] at hro hnew hone1 one8
      clear HT ck cv HG2 hex hxx ee bx0 bx1
      go_wp2_with (first
        | (at_builtin; refine wpList_append_src rfl _ _ _ rfl 31 2 24 Try.underlying28 elemO a5 i c5 _ (by rfl) hro hln (some ⟨w2.heap.size, 0, none⟩) 1 1 [.string (ky t), .int .i64 v] (by rfl) (by omega) rfl hnew hone1 h5 (by simp only [maxLen]; omega) (by omega) ?_; intro a11 c11 W8 hg; have F8 := Lib.hid (one8.out _ _ _ hg); have hro8 := ((F8.out.2.1.quiet (Keep.alloc Nothing W8 (.cells [Value.bool f].toArray 4))).acc 1 _ rfl).row; have hln8 := ((F8.out.2.1.quiet (Keep.alloc Nothing W8 (.cells [Value.bool f].toArray 4))).acc 1 _ rfl).len; have hnew8 := new_given W8 [Value.bool f] 4; clear hg)
        | (at_builtin; refine wpList_append_src rfl _ _ _ rfl 4 1 1 Try.underlying51 elemB a7 i c7 _ (by rfl) hro8 hln8 (some ⟨W8.heap.size, 0, none⟩) 1 1 [.bool f] (by rfl) (by omega) rfl hnew8 hone2 h7 (by simp only [maxLen]; omega) (by omega) ?_; intro a12 c12 W9 hg; have F9 := Lib.hid (SetHalf.two F8.out hB _ hg); clear hg))
      go_roundg (l.length - i)
      case measure => omega
      case rel =>
        refine ⟨i + 1, a11, a12, c11, c12, hr3, H3, L3, F3, s3, rfl, rfl, by go_num, by omega, by omega, ?_⟩
        have h9 := F9.out
        rw [HXX.out, HVV.out, HFF.out, HP.out] at h9
        rw [setAll_snoc _ HX.out]
        exact ⟨h9.1, h9.2.1, N3.out.its_, hB, h9.2.2, N3.out.emp⟩
    · have hi : i = l.length := by omega
      subst hi
      have hT := HT.out
      rw [List.take_of_length_le (Nat.le_refl _)] at hT
      have HT2 := Lib.hid hT
      have hall := Lib.hid (all_any hT.tree.tree (by rw [hT.its_]; have h5 := setAll_len l; have h7 := HLL.out; omega))
      clear hT
      unfold ptr at hall
      go_wp2_with fail
      refine hall.out.mono ?_
      rintro e W9 ⟨a9, c9, rfl, hA9, hK9⟩
      have HA9 := Lib.hid hA9
      have HK9 := Lib.hid hK9
      clear hall hA9 hK9
      go_wp2_with fail
      go_ret3
      have hT := HT2.out
      have h6 := (hT.rows.acc 0 _ rfl)
      have h8 := (hT.rows.acc 1 _ rfl)
      obtain ⟨l1, l2⟩ := setAll_len2 l
      refine ⟨a5, c5, a7, c7, a9, c9, by rw [← hT.its_, l1, l2]; first | rfl | simp, h6.row.reads.keep HK9.out, h8.row.reads.keep HK9.out, by rw [← hT.its_]; exact HA9.out.row.reads, hT.tree.keep.trans HK9.out fun _ _ _ h => h⟩
end Go.Proofs.Ytckplcmieelmpaa.W

namespace Go.Proofs.Ytckplcmieelmpaa.W
open Go.RowKit Go.Wb

set_option maxRecDepth 100000 in
set_option maxHeartbeats 8000000 in
theorem wrunLoad_any {w : World} {a : Option Addr} {cap : Nat} {l : List It} (hg : Given w a (OE.all l)) (hl : l.length ≤ 3000000000000) (d : Int) (h1 : 2 ≤ d) (h2 : d ≤ 128) :
    Calls Try.prog 28 #[.int .i64 d, .slice a l.length cap] w (WRunPost w (setAll l)) := by
  have hgr := Lib.hid (grow_any (w := w) (a := none) (cap := 0) (l := []) (.inl rfl) (by simp) d h1 h2)
  have HKS := Lib.hid hg
  have HLL := Lib.hid hl
  clear hg hl
  go_enter Try.func28, Try.ntmps28
  simp only [List.length_nil] at hgr
  go_wp2_with fail
  refine hgr.out.mono ?_
  rintro e w1 ⟨b, hr, H, L, F, s, rfl, hN, hits, hemp⟩
  have HN := Lib.hid hN
  have HI := Lib.hid hits
  have HE := Lib.hid hemp
  clear hgr hN hits hemp
  unfold ptr
  go_wp2_with fail
  go_loopg [8, 9, 18] (l.length + 1) (fun m v8 v9 v18 wr => ∃ (i : Nat) (a5 a7 : Option Addr) (c5 c7 : Nat) (hr : HRec) (H : Store It) (L : Nat → Lay) (F : List Nat) (s : Sh), v8 = .slice a5 i c5 ∧ v9 = .slice a7 i c7 ∧ v18 = .int .i64 i ∧ i ≤ l.length ∧ i + m = l.length + 1 ∧ SetLoop w w1.heap.size wr b hr H L F (d - 1).toNat (2 * d - 1).toNat s a5 a7 i c5 c7 (setAll (l.take i)))
  case atStart => exact ⟨0, none, none, 0, 0, hr, H, L, F, s, rfl, rfl, rfl, by omega, by omega, HN.out, ((Accs.nil w1.heap.size w1).addNil (Nat.le_refl _) 31 2).addNil (Nat.le_refl _) 4 1, HI.out, HN.out.keep.size, Nat.le_refl _, HE.out⟩
  case round =>
    obtain ⟨i, a5, a7, c5, c7, hr2, H2, L2, F2, s2, rfl, rfl, rfl, hil, hik, hT⟩ := hrel
    have HT := Lib.hid hT
    clear hT
    by_cases hlt : i < l.length
    · obtain ⟨t, ht⟩ : ∃ t, l[i]? = some t := ⟨_, List.getElem?_eq_getElem hlt⟩
      obtain ⟨kb, ko, hka, ck, cv⟩ := word_cell (HKS.out.keep HT.out.tree.keep) ht
      subst hka
      have HX := Lib.hid ht
      have hsl : (its s2).length ≤ 4000000000000 := by
        have h5 := setAll_len (l.take i)
        have h7 := HLL.out
        rw [HT.out.its_]
        simp at h5
        omega
      have k0 : Keep Nothing wr (wr.alloc (.cells (OE.enc t).toArray 31)) := Keep.alloc _ _ _
      have hb0 := heap_alloc_new wr (.cells (OE.enc t).toArray 31)
      have T0 := Lib.hid (HT.out.quiet k0)
      have hset := Lib.hid (load_any (x := t) T0.out.tree.tree (by first | exact hsl | omega))
      clear ht hsl
      obtain ⟨p, hp⟩ : ∃ p, p = sameF ilt (setAll (l.take i)).2.2 t := ⟨_, rfl⟩
      have HP := Lib.hid hp
      have hset2 : Calls Try.prog 72 #[ptr b, kv (ky t), vv t] (wr.alloc (.cells (OE.enc t).toArray 31)) fun e w2 => e = .returned (.tuple #[.int .i64 (Option.getD p zeroHdr.emp).2, .bool p.isSome]) ∧ ∃ hr' H' L' F' s', SetHalf w w1.heap.size w2 b hr' H' L' F' (d - 1).toNat (2 * d - 1).toNat s' a5 a7 i c5 c7 (setAll (l.take i)) t ∧ w2.heap[wr.heap.size]? = some (.cells (OE.enc t).toArray 31 (0, 0)) := by
        rw [hp]
        exact hset.out.mono fun e w2 h => T0.out.set h hb0
      have HG2 := Lib.hid hset2
      have hB := HT.out.hB
      obtain ⟨v, hvv⟩ : ∃ v, v = (Option.getD p zeroHdr.emp).2 := ⟨_, rfl⟩
      obtain ⟨f, hff⟩ : ∃ f, f = p.isSome := ⟨_, rfl⟩
      rw [← hvv, ← hff] at HG2
      have HVV := Lib.hid hvv
      have HFF := Lib.hid hff
      obtain ⟨bx0, bx1, _⟩ := blk2 hb0
      clear hset hset2 hp hvv hff k0 hb0 T0
      have ee : OE.enc t = [.string (ky t), .int .i64 t.2] := rfl
      rw [ee] at HG2 bx0 bx1
      generalize hqq : wr.heap.size = q at *
      unfold ptr kv vv at *
      go_upto_region 7 with (fail)
      go_upto_region 8 with (go_at_call 72; refine HG2.out.mono ?_; rintro e w2 ⟨rfl, hr3, H3, L3, F3, s3, hN3, hX3⟩; have N3 := Lib.hid hN3; have X3 := Lib.hid hX3; clear hN3 hX3)
      obtain ⟨x0, x1, xf⟩ := blk2 X3.out
      obtain ⟨x, hxx⟩ : ∃ x : It, x = (ky t, v) := ⟨_, rfl⟩
      have hex : OE.enc x = [.string (ky t), .int .i64 v] := by rw [hxx]; rfl
      have hro := ((N3.out.rows.quiet (Keep.alloc Nothing w2 (.cells (OE.enc x).toArray 31))).acc 0 _ rfl).row
      have hln := ((N3.out.rows.quiet (Keep.alloc Nothing w2 (.cells (OE.enc x).toArray 31))).acc 0 _ rfl).len
      have hnew := new_given w2 (OE.enc x) 31
      have hone1 := OE.one x
      have hone2 : ∀ u ∈ [Value.bool f], u.oneCell' = true := by intro u hu; simp at hu; subst hu; rfl
      have h5 : i ≤ c5 := (N3.out.rows.acc 0 _ rfl).le
      have h7 : i ≤ c7 := (N3.out.rows.acc 1 _ rfl).le
      have hll := HLL.out
      have HEX := Lib.hid hex
      have HXX := Lib.hid hxx
      have one8 := Lib.hid (fun (W : World) (a' : Option Addr) (c' : Nat) (hg : Grew (w2.alloc (.cells (OE.enc x).toArray 31)) W 31 2 a5 a' i 1 c5 c' (OE.all (setAll (l.take i)).1 ++ OE.enc x)) => N3.out.one _ hg)
      rw [hex] at hro hnew hone1 one8
      clear HT ck cv HG2 hex hxx ee bx0 bx1
      go_wp2_with (first
        | (at_builtin; refine wpList_append_src rfl _ _ _ rfl 31 2 24 Try.underlying28 elemO a5 i c5 _ (by rfl) hro hln (some ⟨w2.heap.size, 0, none⟩) 1 1 [.string (ky t), .int .i64 v] (by rfl) (by omega) rfl hnew hone1 h5 (by simp only [maxLen]; omega) (by omega) ?_; intro a11 c11 W8 hg; have F8 := Lib.hid (one8.out _ _ _ hg); have hro8 := ((F8.out.2.1.quiet (Keep.alloc Nothing W8 (.cells [Value.bool f].toArray 4))).acc 1 _ rfl).row; have hln8 := ((F8.out.2.1.quiet (Keep.alloc Nothing W8 (.cells [Value.bool f].toArray 4))).acc 1 _ rfl).len; have hnew8 := new_given W8 [Value.bool f] 4; clear hg)
        | (at_builtin; refine wpList_append_src rfl _ _ _ rfl 4 1 1 Try.underlying51 elemB a7 i c7 _ (by rfl) hro8 hln8 (some ⟨W8.heap.size, 0, none⟩) 1 1 [.bool f] (by rfl) (by omega) rfl hnew8 hone2 h7 (by simp only [maxLen]; omega) (by omega) ?_; intro a12 c12 W9 hg; have F9 := Lib.hid (SetHalf.two F8.out hB _ hg); clear hg))
      go_roundg (l.length - i)
      case measure => omega
      case rel =>
        refine ⟨i + 1, a11, a12, c11, c12, hr3, H3, L3, F3, s3, rfl, rfl, by go_num, by omega, by omega, ?_⟩
        have h9 := F9.out
        rw [HXX.out, HVV.out, HFF.out, HP.out] at h9
        rw [setAll_snoc _ HX.out]
        exact ⟨h9.1, h9.2.1, N3.out.its_, hB, h9.2.2, N3.out.emp⟩
    · have hi : i = l.length := by omega
      subst hi
      have hT := HT.out
      rw [List.take_of_length_le (Nat.le_refl _)] at hT
      have HT2 := Lib.hid hT
      have hall := Lib.hid (all_any hT.tree.tree (by rw [hT.its_]; have h5 := setAll_len l; have h7 := HLL.out; omega))
      clear hT
      unfold ptr at hall
      go_wp2_with fail
      refine hall.out.mono ?_
      rintro e W9 ⟨a9, c9, rfl, hA9, hK9⟩
      have HA9 := Lib.hid hA9
      have HK9 := Lib.hid hK9
      clear hall hA9 hK9
      go_wp2_with fail
      go_ret3
      have hT := HT2.out
      have h6 := (hT.rows.acc 0 _ rfl)
      have h8 := (hT.rows.acc 1 _ rfl)
      obtain ⟨l1, l2⟩ := setAll_len2 l
      refine ⟨a5, c5, a7, c7, a9, c9, by rw [← hT.its_, l1, l2]; first | rfl | simp, h6.row.reads.keep HK9.out, h8.row.reads.keep HK9.out, by rw [← hT.its_]; exact HA9.out.row.reads, hT.tree.keep.trans HK9.out fun _ _ _ h => h⟩
end Go.Proofs.Ytckplcmieelmpaa.W

namespace Go.Proofs.Ytckplcmieelmpaa.W
open Go.RowKit Go.Wb

set_option maxRecDepth 100000 in
set_option maxHeartbeats 2000000 in
theorem lo_keysIn {w : World} {a : Option Addr} {cap : Nat} {l : List It} (hg : Given w a (OE.all l)) (hl : l.length ≤ 4000000000000) : Calls Try.prog 27 #[.slice a l.length cap] w (NewKeys w (l.map ky)) := by
  have HG := Lib.hid hg
  clear hg
  go_enter Try.func27, Try.ntmps27
  go_wp2_with fail
  go_loopg [3, 8] (l.length + 1) (fun k v3 v8 wr => ∃ (i : Nat) (a1 : Option Addr) (c1 : Nat), v8 = .int .i64 i ∧ i ≤ l.length ∧ i + k = l.length + 1 ∧ v3 = .slice a1 i c1 ∧ Keep Nothing w wr ∧ Acc w.heap.size wr 9 1 a1 i c1 (((l.take i).map ky).map kv))
  case atStart => exact ⟨0, none, 0, rfl, by omega, by omega, rfl, Keep.refl _ _, Acc.nil _ _ _ _⟩
  case round =>
    obtain ⟨i, a1, c1, rfl, hil, hik, rfl, hK, hA⟩ := hrel
    have HK := Lib.hid hK
    have HA := Lib.hid hA
    clear hK hA
    by_cases hlt : i < l.length
    · have hx : l[i]? = some l[i] := List.getElem?_eq_getElem hlt
      generalize l[i] = x at *
      have HX := Lib.hid hx
      obtain ⟨b0, o0, ha, x0, x1⟩ := word_cell (HG.out.keep HK.out) hx
      subst ha
      have hsz := HK.out.size
      clear hx
      unfold kv at x0
      go_upto_region 5 with (fail)
      refine wp_world ?_
      intro W1 hW1
      have k1 : Keep Nothing wr W1 := by subst hW1; exact (Keep.refl _ _).al _
      have X1 : W1.heap[wr.heap.size]? = some (.cells (OE.enc x).toArray 31 (0, 0)) := by subst hW1; exact heap_alloc_new wr _
      obtain ⟨xk, xv, _⟩ := blk2 X1
      have HK1 : Hid (Keep Nothing w W1) := by exact HK.out.trans k1 fun _ _ _ h => h
      have HA1 := Lib.hid (HA.out.quiet k1)
      have hsz1 := HK1.out.size
      generalize wr.heap.size = q at *
      clear hW1 k1 X1 HK HA x0 x1
      unfold kv at *
      go_wp2_with (at_builtin; refine wpList_append_any rfl _ _ _ rfl 9 1 16 Try.underlying22 elemK a1 i c1 _ rfl (HA1.out.quiet (Keep.alloc _ _ _)).row HA1.out.len ⟨W1.heap.size, 0, none⟩ 1 1 [kv (ky x)] rfl rfl (new_cells (heap_alloc_new W1 _)) (by intro u hu; rw [List.mem_singleton.1 hu]; rfl) (by omega) HA1.out.le (by simp only [maxLen]; omega) (by omega) ?_; intro a2 c2 w2 hg)
      obtain ⟨hA2, hK2⟩ := (HA1.out.quiet (Keep.alloc _ _ _)).grow (by simp; omega) hg rfl
      have HA2 := Lib.hid hA2
      have HK2 : Hid (Keep Nothing w w2) := by exact (HK1.out.al _).trans hK2 fun c o hc h => absurd h (by omega)
      clear hg hA2 hK2 xk xv
      go_wp2_with fail
      go_roundg (l.length - i)
      case measure => omega
      case rel =>
        refine ⟨i + 1, a2, c2, by go_num, by omega, by omega, rfl, HK2.out, ?_⟩
        have := HA2.out
        rw [List.take_add_one, HX.out, List.map_append, List.map_append]
        simpa [kv] using this
    · have hi : i = l.length := by omega
      subst hi
      go_wp2_with fail
      go_ret
      have := HA.out
      rw [List.take_of_length_le (Nat.le_refl _)] at this
      exact ⟨a1, c1, by simp, by simpa using this, HK.out⟩

/-- True or false. -/
def AnyBool (w : World) (e : Ending) (w' : World) : Prop := ∃ r, e = .returned (.bool r) ∧ Keep Nothing w w'
theorem less_any (w : World) (x y : ByteArray) : Calls Try.prog 119 #[.string x, .string y] w fun e w' => e = .returned (.bool (Op.bytesLess x.toList y.toList)) ∧ w = w' := by
  have hn : ∀ (W : World) (z : ByteArray), Calls Try.prog 168 #[.string z] W fun e w' => e = .returned (.bool false) ∧ W = w' := by
    intro W z
    go_enter Try.func168, Try.ntmps168
    go_wp2_with fail
    go_ret
    exact ⟨by simp, rfl⟩
  have HN := Lib.hid hn
  clear hn
  go_enter Try.func119, Try.ntmps119
  go_wp2_with fail
  refine (HN.out w x).mono ?_
  rintro e w' ⟨rfl, rfl⟩
  go_wp2_with fail
  go_ret
  exact ⟨by simp, rfl⟩

set_option maxRecDepth 100000 in
set_option maxHeartbeats 2000000 in
theorem sorted_any {w : World} {a : Option Addr} {cap : Nat} {l : List Ky} (hg : Given w a (l.map kv)) (hl : l.length ≤ 4000000000000) :
    Calls Try.prog 71 #[.slice a l.length cap] w (AnyBool w) := by
  have HG := Lib.hid hg
  have hle := Lib.hid less_any
  clear hg
  go_enter Try.func71, Try.ntmps71
  go_wp2_with fail
  go_loopg [3] (l.length + 1) (fun k v3 wr => ∃ z : Int, v3 = .int .i64 z ∧ -1 ≤ z ∧ z < l.length ∧ z + 2 = k ∧ Keep Nothing w wr)
  case atStart => exact ⟨_, rfl, by omega, by omega, by omega, Keep.refl _ _⟩
  case round =>
    obtain ⟨z, rfl, hz1, hz2, hz3, hK⟩ := hrel
    have HK := Lib.hid hK
    clear hK
    by_cases hz : 0 < z
    · obtain ⟨i, rfl⟩ : ∃ i : Nat, z = (i : Int) + 1 := ⟨(z - 1).toNat, by omega⟩
      have h1 : i + 1 < l.length := by omega
      obtain ⟨s, hs⟩ : ∃ s, l[i + 1] = s := ⟨_, rfl⟩
      obtain ⟨t, ht⟩ : ∃ t, l[i] = t := ⟨_, rfl⟩
      obtain ⟨b1, o1, ha, x0⟩ := (HG.out.keep (HK.out.dr)).cell (i := i + 1) (by simpa using h1)
      obtain ⟨b2, o2, hc, y0⟩ := (HG.out.keep (HK.out.dr)).cell (i := i) (by simp; omega)
      rw [show (l.map kv)[i + 1]'(by simpa using h1) = kv s by simp [hs]] at x0
      rw [show (l.map kv)[i]'(by simp; omega) = kv t by simp [ht]] at y0
      subst ha
      cases hc
      have hc1 := Lib.hid (hle.out wr.drew s t)
      clear hs ht
      unfold kv at *
      have e1 : (((i : Int) + 1).toNat) = i + 1 := by omega
      generalize Op.bytesLess s.toList t.toList = r at *
      cases r with
      | true =>
        go_wp2_with fail
        refine wp_calm (by kernel_rfl) (by kernel_rfl) rfl ?_
        simp only [List.flatMap_cons, List.flatMap_nil, checks, chk, nilLit, List.cons_append, List.nil_append, List.append_nil]
        go_wp2_with fail
        refine hc1.out.mono ?_
        rintro e w5 ⟨rfl, rfl⟩
        go_wp2_with fail
        rw [HQ_normal]
        go_wp2_with fail
        go_ret
        exact ⟨false, rfl, HK.out.dr⟩
      | false =>
        go_wp2_with fail
        refine wp_calm (by kernel_rfl) (by kernel_rfl) rfl ?_
        simp only [List.flatMap_cons, List.flatMap_nil, checks, chk, nilLit, List.cons_append, List.nil_append, List.append_nil]
        go_wp2_with fail
        refine hc1.out.mono ?_
        rintro e w5 ⟨rfl, rfl⟩
        go_wp2_with fail
        rw [HQ_normal]
        go_wp2_with fail
        go_roundg (i + 2)
        case measure => omega
        case rel => exact ⟨i, by go_num, by omega, by omega, by omega, HK.out.dr⟩
    · go_wp2_with fail
      go_ret
      exact ⟨true, rfl, HK.out⟩

theorem rises_any {w : World} {a : Option Addr} {cap : Nat} {l : List Ky} (hg : Given w a (l.map kv)) (hl : l.length ≤ 4000000000000) :
    Calls Try.prog 26 #[.slice a l.length cap] w (AnyBool w) := by
  have h := Lib.hid (sorted_any (cap := cap) hg hl)
  clear hg
  go_enter Try.func26, Try.ntmps26
  go_wp2_with fail
  refine h.out.mono ?_
  rintro e w' ⟨r, rfl, hK⟩
  have HK := Lib.hid hK
  clear hK h
  go_wp2_with fail
  go_ret
  exact ⟨r, rfl, HK.out⟩
end Go.Proofs.Ytckplcmieelmpaa.W
