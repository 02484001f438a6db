/- Part 2 of the texts for the statement FnWLoadsRisingSaid: the package's tree of maps and sets, its functions' contracts. -/
import Derived.Test.YtckplcmieelmpaaLA
import Derived.Deep.RegionHeld3
import Derived.Deep.DeepCutAuto
import Derived.Laws.MakeOwn
namespace Go.Wb
open Go Go.RowKit
variable {P : Program}

theorem Row.getElem {w : World} {ty s b o cap : Nat} {cs : List Value} (h : Row w ty s (some ⟨b, o, none⟩) cap cs) : ∃ arr, w.heap[b]? = some (.cells arr ty (0, 0)) ∧ cs.length ≤ cap * s ∧ o + cap * s ≤ arr.size ∧ ∀ i v, cs[i]? = some v → arr[o + i]? = some v := by
  rcases h with ⟨h, _⟩ | ⟨b', o', arr, h1, h2, h3, h4, h5⟩
  · cases h
  · obtain ⟨rfl, rfl⟩ : b = b' ∧ o = o' := by simpa using h1
    exact ⟨arr, h2, h3, h4, h5⟩

/-- A row isn't touched by what writes a block of another type. -/
theorem Row.off {w w' : World} {ty s t y cap : Nat} {a : Option Addr} {cs : List Value} {arr : Array Value} (h : Row w ty s a cap cs) (hk : Keep (fun x _ => x = y) w w') (hy : w.heap[y]? = some (.cells arr t (0, 0))) (ht : t ≠ ty) : Row w' ty s a cap cs := by
  refine h.keep' hk fun b o hf e => ?_
  obtain ⟨ar, ha⟩ := h.block ⟨_, hf⟩
  subst e
  exact blk_ne hy ha ht rfl

/-- Cells of a row are written. -/
theorem Row.setCells {ty s b o cap : Nat} : ∀ (vs : List Value) {w : World} {cs : List Value} (_ : Row w ty s (some ⟨b, o, none⟩) cap cs) {k : Nat} (_ : k + vs.length ≤ cs.length),
    Row (w.setCells b (o + k) vs) ty s (some ⟨b, o, none⟩) cap (cs.take k ++ vs ++ cs.drop (k + vs.length))
  | [], w, cs, h, k, hk => by simpa [World.setCells] using h
  | v :: r, w, cs, h, k, hk => by
    simp only [List.length_cons] at hk
    have h1 := h.setCell (j := k) v (by omega)
    have h2 := Row.setCells r h1 (k := k + 1) (by rw [List.length_set]; omega)
    rw [World.setCells, Nat.add_assoc]
    have e : (cs.set k v).take (k + 1) ++ r ++ (cs.set k v).drop (k + 1 + r.length) = cs.take k ++ v :: r ++ cs.drop (k + (v :: r).length) := by
      rw [List.take_set, List.drop_set_of_lt (by omega), List.length_cons, show k + 1 + r.length = k + (r.length + 1) by omega]
      congr 1
      rw [show v :: r = [v] ++ r from rfl, ← List.append_assoc]
      congr 1
      rw [List.take_succ_eq_append_getElem (by omega), List.set_append_right _ _ (by simp; omega), List.length_take, show k - min k cs.length = 0 by omega]
      simp
    rw [← e]
    exact h2

/-- The builtin copy that makes room in a row for one element ahead of element i. -/
theorem run_copyRoom (w : World) (t ty e s : Nat) (hu : P.underlying t = some (.slice e)) (hs : (P.info? e).map (·.size) = some s) {b o cap n i : Nat} {xs : List Value}
    (hrow : Row w e s (some ⟨b, o, none⟩) cap xs) (hn : xs.length = (n + 1) * s) (hi : i ≤ n) (d a : Option Addr) (hd : i < n → d = some ⟨b, o + (i + 1) * s, none⟩) (ha : i < n → a = some ⟨b, o + i * s, none⟩) (c1 c2 : Nat) (one : ∀ v ∈ xs, v.oneCell' = true) :
    ∃ r w', (Builtin.copy_ #[t, t] ty #[.slice d (n + 1 - (i + 1)) c1, .slice a (n + 1 - i) c2]).run P w = .ok r w' ∧
      Keep (fun x y => x = b ∧ o + (i + 1) * s ≤ y ∧ y < o + (n + 1) * s) w w' ∧ Row w' e s (some ⟨b, o, none⟩) cap (xs.take ((i + 1) * s) ++ (xs.drop (i * s)).take ((n - i) * s)) := by
  have hm : Nat.min (n + 1 - i) (n + 1 - (i + 1)) = n - i := by show min _ _ = _; omega
  cases hq : P.info? e with
  | none => simp [hq] at hs
  | some inf =>
    have hz : inf.size = s := by simpa [hq] using hs
    by_cases hlt : i < n
    · rw [hd hlt, ha hlt]
      obtain ⟨arr, h2, h3, h4, h5⟩ := hrow.getElem
      have e1 : (i + 1) * s = i * s + s := by rw [Nat.add_mul]; omega
      have e2 : (n + 1) * s = i * s + s + (n - i) * s := by rw [← e1, ← Nat.add_mul]; congr 1; omega
      generalize hcs : (xs.drop (i * s)).take ((n - i) * s) = cs
      have hcl : cs.length = (n - i) * s := by rw [← hcs]; simp; omega
      have hsrc : ∀ j v, cs[j]? = some v → w.cell? ((⟨b, o + i * s, none⟩ : Addr).add j) = some v := fun j v hj => by
        have hadd : (⟨b, o + i * s, none⟩ : Addr).add j = ⟨b, o + (i * s + j), none⟩ := by unfold Addr.add; split <;> simp_all [Nat.add_assoc]
        rw [hadd]
        refine hrow.cell ?_
        rw [← hcs, List.getElem?_take] at hj
        split at hj
        · rwa [List.getElem?_drop] at hj
        · cases hj
      have hl := run_loadCells_list (P := P) w ⟨b, o + i * s, none⟩ cs hsrc
      have hst := run_storeCells_cells (P := P) b (o + (i + 1) * s) cs 0 w (fun j hj => by
          have : o + (i + 1) * s + 0 + j < arr.size := by omega
          simp [World.cell?, h2]; omega) (fun j hj => by simp [World.frozen?, h2]) (fun v hv => one v (by
          rw [← hcs] at hv
          exact List.mem_of_mem_drop (List.mem_of_mem_take hv)))
      refine ⟨goInt (n - i : Nat), w.setCells b (o + (i + 1) * s) cs, ?_, ?_, ?_⟩
      · rw [hcl] at hl
        have hm2 : (n + 1 - i).min (n - i) = n - i := by show min _ _ = _; omega
        simp [Builtin.copy_, run_underlying hu, Builtin.lenOf, Builtin.firstCells, sizeOf, typeInfo, hq, hz, hm2, hl, hst]
      · exact Keep.setCells b cs _ w fun j hj => ⟨rfl, by omega, by omega⟩
      · have := hrow.setCells cs (k := (i + 1) * s) (by omega)
        have hdrop : xs.drop ((i + 1) * s + cs.length) = [] := List.drop_eq_nil_of_le (by omega)
        rw [hdrop, List.append_nil] at this
        exact this
    · obtain rfl : i = n := by omega
      refine ⟨goInt 0, w, ?_, Keep.refl _ _, ?_⟩
      · have hl : ∀ (x : Addr), (loadCells x 0).run P w = .ok #[] w := fun x => by simpa using run_loadCells_list (P := P) w x [] (by simp)
        rw [Nat.sub_self] at hm
        cases d <;> cases a <;> simp [Builtin.copy_, run_underlying hu, Builtin.lenOf, Builtin.firstCells, sizeOf, typeInfo, hq, storeCells, hl]
      · rw [Nat.sub_self, Nat.zero_mul, List.take_zero, List.append_nil, List.take_of_length_le (by omega)]
        exact hrow

theorem step_copyRoom {w : World} {ops : Array Oper} {o' : Oper} {a' : Act} {K : Act → World → Prop} {Q : Exit → Act → World → Prop} {E : Prop} (hgd : o'.guard = none) (x y : Operand) (t : TypeId)
    (ho : o'.op = .call { callee := .builtin .copy, args := #[x, y], argTypes := #[t, t] })
    (e s : Nat) (hu : P.underlying t = some (.slice e)) (hs : (P.info? e).map (·.size) = some s) {b o cap n i : Nat} {xs : List Value}
    (hrow : Row w e s (some ⟨b, o, none⟩) cap xs) (hn : xs.length = (n + 1) * s) (hi : i ≤ n) (d a : Option Addr) (c1 c2 : Nat)
    (hx : a'.eval x = .slice d (n + 1 - (i + 1)) c1) (hy : a'.eval y = .slice a (n + 1 - i) c2)
    (hd : i < n → d = some ⟨b, o + (i + 1) * s, none⟩) (ha : i < n → a = some ⟨b, o + i * s, none⟩) (one : ∀ v ∈ xs, v.oneCell' = true)
    (h : ∀ r w', Keep (fun x y => x = b ∧ o + (i + 1) * s ≤ y ∧ y < o + (n + 1) * s) w w' → Row w' e s (some ⟨b, o, none⟩) cap (xs.take ((i + 1) * s) ++ (xs.drop (i * s)).take ((n - i) * s)) → K (a'.put o'.dst r) w') :
    if Region.wanted o' (yielded ops a'.tmps) = true then Oper.wp P o' a' w K Q else E := by
  have hw : Region.wanted o' (yielded ops a'.tmps) = true := by simp [Region.wanted, hgd]
  rw [if_pos hw]
  obtain ⟨r, w', hr, h1, h2⟩ := run_copyRoom (P := P) w t o'.type e s hu hs hrow hn hi d a hd ha c1 c2 one
  unfold Oper.wp execOp
  simp only [ho, resolve, invoke, builtin, Sem.run_bind, Sem.run_pure, Result.andThen_ok, List.map_toArray, List.map_cons, List.map_nil, hx, hy, hr]
  exact h r w' h1 h2
/-- A row into which an element was put. -/
theorem ins_cells {α : Type} (E : Enc α) (its : List α) (x : α) (em : List Value) {i : Nat} (hi : i ≤ its.length) (hem : em.length = E.s) :
    ((E.all its ++ em).take ((i + 1) * E.s) ++ ((E.all its ++ em).drop (i * E.s)).take ((its.length - i) * E.s)).take (i * E.s) ++ E.enc x ++
      ((E.all its ++ em).take ((i + 1) * E.s) ++ ((E.all its ++ em).drop (i * E.s)).take ((its.length - i) * E.s)).drop (i * E.s + (E.enc x).length) = E.all (its.take i ++ x :: its.drop i) := by
  have hl := E.all_len its
  have e1 : (i + 1) * E.s = i * E.s + E.s := by rw [Nat.add_mul]; omega
  have e2 : i * E.s ≤ its.length * E.s := Nat.mul_le_mul_right _ hi
  have e3 : (its.length - i) * E.s = its.length * E.s - i * E.s := Nat.sub_mul _ _ _
  rw [E.all_append, E.all_cons, E.all_take, E.all_drop, E.len, ← e1]
  generalize E.all its = A at *
  generalize its.length * E.s = N at *
  rw [List.append_assoc]
  have ht : ((A ++ em).take ((i + 1) * E.s)).length = (i + 1) * E.s := by simp; omega
  congr 1
  · rw [List.take_append_of_le_length (by omega), List.take_take, List.take_append_of_le_length (by omega)]
    congr 1
    omega
  · congr 1
    rw [List.drop_left' ht, e3, List.drop_append_of_le_length (by omega), List.take_append_of_le_length (by simp; omega), List.take_of_length_le (by simp; omega)]
/-- A row of children into which one was put behind child i. -/
theorem ins_kids (ks : List Nat) (m : Nat) (v : Value) {i : Nat} (hi : i < ks.length) :
    (((ks.map ptr ++ [v]).take ((i + 1) * 1) ++ ((ks.map ptr ++ [v]).drop (i * 1)).take ((ks.length - i) * 1)).set (i + 1) (ptr m)) = (ks.take (i + 1) ++ m :: ks.drop (i + 1)).map ptr := by
  simp only [Nat.mul_one]
  rw [List.set_append_right _ _ (by simp; omega)]
  have h1 : ((ks.map ptr ++ [v]).take (i + 1)) = (ks.take (i + 1)).map ptr := by rw [List.take_append_of_le_length (by simp; omega), List.map_take]
  have h2 : ((ks.map ptr ++ [v]).drop i).take (ks.length - i) = (ks.drop i).map ptr := by rw [List.drop_append_of_le_length (by simp; omega), List.take_append_of_le_length (by simp), List.take_of_length_le (by simp), List.map_drop]
  rw [h1, h2, List.drop_eq_getElem_cons hi, List.map_append, List.map_cons, List.map_cons]
  congr 1
  rw [show i + 1 - ((ks.take (i + 1)).map ptr).length = 0 by simp; omega]
  rfl
end Go.Wb

namespace Go.Proofs.Ytckplcmieelmpaa.W
open Go.RowKit Go.Wb

/-- A head is no node's cell. -/
theorem hdr_apart {w : World} {b n o : Nat} {h : HRec} {r : NRec It} {L : Lay} (hh : Hdr w b h) (hn : NodeAt TT E w n r L) (hf : fp TT n r L b o) : False := by
  have t1 : (166 : Nat) ≠ 172 := by decide
  have t2 : (166 : Nat) ≠ 161 := by decide
  have t3 : (166 : Nat) ≠ 173 := by decide
  have t4 : (166 : Nat) ≠ 164 := by decide
  rcases hf with rfl | hf | ⟨hk, hf⟩
  · exact blk_ne hh hn.1 t1 rfl
  · obtain ⟨arr, ha⟩ := hn.2.1.block ⟨_, hf⟩
    exact blk_ne hh ha t2 rfl
  · obtain ⟨ks, hks⟩ := Option.isSome_iff_exists.1 hk
    obtain ⟨h5, h6, _⟩ := hn.2.2.2 ks hks
    rcases hf with rfl | hf
    · exact blk_ne hh h5 t3 rfl
    · obtain ⟨arr, ha⟩ := h6.block ⟨_, hf⟩
      exact blk_ne hh ha t4 rfl

def InsPost (w : World) (n : Nat) (r : NRec It) (L : Lay) (x ep : It) (i : Nat) (e : Ending) (w' : World) : Prop :=
  e = .returned (.tuple #[vv ep, .bool false, .bool false]) ∧ Keep (fp TT n r L) w w' ∧
    ∃ L', NodeAt TT E w' n { r with cnt := r.cnt + 1, items := r.items.take i ++ x :: r.items.drop i } L' ∧
      ∀ b o, b < w.heap.size → fp TT n ({ r with cnt := r.cnt + 1, items := r.items.take i ++ x :: r.items.drop i } : NRec It) L' b o → fp TT n r L b o

set_option maxRecDepth 100000 in
set_option maxHeartbeats 4000000 in
theorem set_leaf {w : World} {b pb po n : Nat} {hr : HRec} {r : NRec It} {L : Lay} (hh : Hdr w b hr) (hp : w.cell? ⟨pb, po, none⟩ = some (ptr n)) (hn : NodeAt TT E w n r L) (hi : r.iso = hr.iso)
    (hlen : r.items.length ≤ 1000000000000) (hs : Sorted ilt r.items) {x : It} {i : Nat} (hloc : Loc r.items (ky x) i false) (hlf : r.kids = none) (hfull : hr.mx ≠ r.items.length) (hc0 : 0 ≤ r.cnt) (hc1 : r.cnt ≤ 4000000000000000000) :
    Calls Try.prog 124 #[ptr b, .pointer (some ⟨pb, po, none⟩), pv x] w (InsPost w n r L x hr.emp i) := by
  have HN := Lib.hid hn
  have HH := Lib.hid hh
  have HP := Lib.hid hp
  have HLOC := Lib.hid hloc
  have HS := Lib.hid hs
  have HI := Lib.hid hi
  have hnw := lt_of_heap hn.1
  have hpw := lt_of_cell hp
  have hbw := lt_of_heap hh
  clear hh hn hp hs hloc hi
  unfold ptr pv kv at *
  go_enter Try.func124, Try.ntmps124
  go_upto_region 1 with (fail)
  refine wp_world ?_
  intro W1 hW1
  generalize hq : w.heap.size = q at *
  have XQ := Lib.hid hq
  have K1 : Hid (Keep Nothing w W1) := by subst hW1; exact (Keep.refl _ _).al _
  have X1 : Hid (W1.heap[q]? = some (.cells (E.enc x).toArray 161 (0, 0))) := by subst hW1; subst hq; exact heap_alloc_new w _
  have S1 : W1.heap.size = q + 1 := by subst hW1; rw [World.size_alloc, hq]
  clear hW1 hq
  have HN1 : Hid (NodeAt TT E W1 n r L) := by exact HN.out.keep K1.out fun _ _ _ h => h
  have HH1 : Hid (Hdr W1 b hr) := by exact blk_keep HH.out K1.out fun _ h => h
  have hiso := isoLoad_own HH1.out (K1.out.cell' HP.out fun h => h) HN1.out HI.out true
  unfold ptr at hiso
  go_wp2_with fail
  refine hiso.mono ?_
  rintro e w1 ⟨rfl, kd, rfl⟩
  clear hiso
  have K1d : Hid (Keep Nothing w (W1.drewN kd)) := by exact K1.out.drN kd
  have S1d : (W1.drewN kd).heap.size = q + 1 := S1
  have X1d : Hid ((W1.drewN kd).heap[q]? = some (.cells (E.enc x).toArray 161 (0, 0))) := by exact X1.out
  clear HN1 HH1 K1 S1 X1
  generalize W1.drewN kd = W1 at *
  unfold ptr
  go_upto_region 2 with (fail)
  refine wp_world ?_
  intro W2 hW2
  have K2 : Hid (Keep Nothing w W2) := by subst hW2; exact K1d.out.al _
  have X2 : Hid (W2.heap[q]? = some (.cells (E.enc x).toArray 161 (0, 0))) := by subst hW2; exact blk_alloc _ X1d.out
  have Z2 : Hid (W2.heap[q + 1]? = some (.cells #[.pointer (some ⟨n, 0, none⟩)] 164 (0, 0))) := by subst hW2; rw [← S1d]; exact heap_alloc_new W1 _
  have Y2 := Lib.hid Z2.out
  have S2 : W2.heap.size = q + 2 := by subst hW2; rw [World.size_alloc, S1d]
  clear hW2 K1d X1d S1d
  have HN2 : Hid (NodeAt TT E W2 n r L) := by exact HN.out.keep K2.out fun _ _ _ h => h
  have hse := search_loc (tr := ptr b) HN2.out hlen HS.out HLOC.out
  have kc : W2.cell? ⟨q, 1, none⟩ = some (.string (ky x)) := by have := X2.out; simp only [World.cell?, this]; rfl
  have zc := (blk1 Z2.out).1
  unfold ptr kv at hse
  go_wp2_with fail
  refine hse.mono ?_
  rintro e w1 ⟨rfl, kd, rfl⟩
  clear hse kc zc HN2
  have K2d : Hid (Keep Nothing w (W2.drewN kd)) := by exact K2.out.drN kd
  have S2d : (W2.drewN kd).heap.size = q + 2 := S2
  have X2d : Hid ((W2.drewN kd).heap[q]? = some (.cells (E.enc x).toArray 161 (0, 0))) := by exact X2.out
  have Y2d : Hid ((W2.drewN kd).heap[q + 1]? = some (.cells #[.pointer (some ⟨n, 0, none⟩)] 164 (0, 0))) := by exact Y2.out
  have Z2d : Hid ((W2.drewN kd).heap[q + 1]? = some (.cells #[.pointer (some ⟨n, 0, none⟩)] 164 (0, 0))) := by exact Z2.out
  clear K2 S2 X2 Y2 Z2
  generalize W2.drewN kd = W at *
  have HNd : Hid (NodeAt TT E W n r L) := by exact HN.out.keep K2d.out fun _ _ _ h => h
  have HHd : Hid (Hdr W b hr) := by exact blk_keep HH.out K2d.out fun _ h => h
  have hlv := leaf_any HNd.out
  rw [hlf] at hlv
  simp only [Option.isNone_none] at hlv
  obtain ⟨c0, c1, c2, c3, fz⟩ := blk4 HNd.out.1
  have x6 := hdr_mx HHd.out
  have hne : ((r.items.length : Int) == hr.mx) = false := by simpa using fun h => hfull h.symm
  have zc := (blk1 Z2d.out).1
  unfold ptr at hlv
  replace hfull := Lib.hid hfull
  clear c0 c1 c3
  go_wp2_with fail
  refine hlv.mono ?_
  rintro e w1 ⟨rfl, rfl⟩
  clear hlv
  go_wp2_with fail
  refine wp_calm (by kernel_rfl) (by kernel_rfl) rfl ?_
  simp only [List.flatMap_cons, List.flatMap_nil, checks, chk, nilLit, List.cons_append, List.nil_append, List.append_nil, Try.underlying3]
  go_wp2_with fail
  rw [HQ_normal]
  go_upto_region 10 with (fail)
  refine wp_world ?_
  intro W3 hW3
  have K3 : Hid (Keep Nothing w W3) := by subst hW3; exact K2d.out.dr
  have S3 : W3.heap.size = q + 2 := by subst hW3; exact S2d
  have X3 : Hid (W3.heap[q]? = some (.cells (E.enc x).toArray 161 (0, 0))) := by subst hW3; exact X2d.out
  have Y3 : Hid (W3.heap[q + 1]? = some (.cells #[.pointer (some ⟨n, 0, none⟩)] 164 (0, 0))) := by subst hW3; exact Y2d.out
  have Z3 : Hid (W3.heap[q + 1]? = some (.cells #[.pointer (some ⟨n, 0, none⟩)] 164 (0, 0))) := by subst hW3; exact Z2d.out
  have HN3 : Hid (NodeAt TT E W3 n r L) := by exact HN.out.keep K3.out fun _ _ _ h => h
  have HH3 : Hid (Hdr W3 b hr) := by exact blk_keep HH.out K3.out fun _ h => h
  clear hW3 K2d S2d X2d Y2d Z2d HNd HHd c2 fz x6 hne zc
  have he := hdr_emp HH3.out
  have zc := (blk1 Z3.out).1
  obtain ⟨c0, c1, c2, c3, fz⟩ := blk4 HN3.out.1
  clear c0 c1 c3
  unfold kv at he
  refine wp_held (fun w' => w'.cell? ⟨q + 1, 0, none⟩ = some (.pointer (some ⟨n, 0, none⟩)) ∧ w'.cell? ⟨n, 2, none⟩ = some (.slice L.ia r.items.length L.icap)) [0, 1, 4] (by kernel_rfl) (by kernel_rfl) (by kernel_rfl) rfl ⟨zc, c2⟩ ?_
  simp only [segs, readsB, silentB, lenB, checks, List.nil_append]
  go_wp2_with fail
  refine held_world ?_
  intro W4 hW4
  have K4 : Hid (Keep Nothing w W4) := by subst hW4; exact (K3.out.al _).dr
  have N4 : Hid (W4.heap[q + 2]? = some (.cells (E.enc hr.emp).toArray 161 (0, 0))) := by subst hW4; rw [← S3]; exact heap_alloc_new W3 _
  have S4 : W4.heap.size = q + 3 := by subst hW4; show (W3.alloc _).heap.size = _; rw [World.size_alloc, S3]
  have X4 : Hid (W4.heap[q]? = some (.cells (E.enc x).toArray 161 (0, 0))) := by subst hW4; exact blk_alloc _ X3.out
  have Y4 : Hid (W4.heap[q + 1]? = some (.cells #[.pointer (some ⟨n, 0, none⟩)] 164 (0, 0))) := by subst hW4; exact blk_alloc _ Y3.out
  have Z4 : Hid (W4.heap[q + 1]? = some (.cells #[.pointer (some ⟨n, 0, none⟩)] 164 (0, 0))) := by subst hW4; exact blk_alloc _ Z3.out
  clear hW4 K3 X3 Y3 Z3 HN3 HH3 he zc c2 fz
  have HN4 : Hid (NodeAt TT E W4 n r L) := by exact HN.out.keep K4.out fun _ _ _ h => h
  have zc := (blk1 Z4.out).1
  obtain ⟨c0, c1, c2, c3, fz⟩ := blk4 HN4.out.1
  clear c0 c1 c3
  refine held_next ⟨zc, c2⟩ ?_
  refine wpList_append_any rfl _ _ _ rfl 161 2 24 Try.underlying169 ⟨by kernel_rfl, by kernel_rfl, by kernel_rfl⟩ L.ia r.items.length L.icap (E.all r.items) rfl HN4.out.2.1 (E.all_len _) ⟨q + 2, 0, none⟩ 1 1 (E.enc hr.emp) ?_ (E.len _) ?_ (E.one _) (by omega) HN4.out.2.2.1 (by simp only [maxLen]; omega) (by omega) ?_
  · rfl
  · exact new_cells N4.out
  intro a' cap' W5 hG
  have GR := Lib.hid hG
  have hRW : Hid (∀ y o, rowFp L.ia (L.icap * TT.s) y o → y < q ∧ y ≠ n) := by
    intro y o hf
    refine ⟨XQ.out ▸ rowFp_lt HN.out.2.1 hf, fun e => ?_⟩
    obtain ⟨arr, ha⟩ := HN.out.2.1.block ⟨_, hf⟩
    exact blk_ne HN.out.1 ha ty_ok.a e.symm
  have hGq : Hid (∀ y o, (∃ x z, L.ia = some ⟨x, z, none⟩ ∧ y = x ∧ z + r.items.length * 2 ≤ o ∧ o < z + L.icap * 2) → y < q ∧ y ≠ n) := by
    exact fun y o h => hRW.out y o (grow_row HN.out.2.2.1 h)
  have B4 := HN4.out.1
  have B5 : Hid (W5.heap[n]? = some (.cells #[.int .u64 r.iso, .int .i64 r.cnt, .slice L.ia r.items.length L.icap, kidsVal r.kids L.cb] 172 (0, 0))) := by
    exact blk_keep B4 hG.keep fun o h => (hGq.out n o h).2 rfl
  have X5 : Hid (W5.heap[q]? = some (.cells (E.enc x).toArray 161 (0, 0))) := by exact blk_keep X4.out hG.keep fun o h => by have := (hGq.out q o h).1; omega
  have Y5 : Hid (W5.heap[q + 1]? = some (.cells #[.pointer (some ⟨n, 0, none⟩)] 164 (0, 0))) := by exact blk_keep Y4.out hG.keep fun o h => by have := (hGq.out _ o h).1; omega
  have Z5 : Hid (W5.heap[q + 1]? = some (.cells #[.pointer (some ⟨n, 0, none⟩)] 164 (0, 0))) := by exact blk_keep Z4.out hG.keep fun o h => by have := (hGq.out _ o h).1; omega
  clear hG B4 zc c2 fz
  have zc := (blk1 Z5.out).1
  obtain ⟨c0, c1, c2, c3, fz⟩ := blk4 B5.out
  clear c0 c1 c3
  refine held_next ⟨zc, c2⟩ ?_
  simp only [Act.put]
  go_wp2_with fail
  refine held_world ?_
  intro W6 hW6
  refine held_end ?_ ?_
  · refine ⟨?_, ?_, ?_, trivial⟩
    · exact ⟨.pointer (some ⟨n, 0, none⟩), fun w' hS => by simp [execOp, hS.1, go_sem]⟩
    · exact ⟨.pointer (some ⟨n, 0, none⟩), fun w' hS => by simp [execOp, hS.1, go_sem]⟩
    · exact ⟨.slice L.ia r.items.length L.icap, fun w' hS => by simp [execOp, hS.2, go_sem]⟩
  have hform : ∃ jb jo, a' = some ⟨jb, jo, none⟩ := by
    obtain ⟨jb, jo, h1, _⟩ := GR.out.row.form (by rw [List.length_append, E.len]; have := E.pos; omega)
    exact ⟨jb, jo, h1⟩
  obtain ⟨jb, jo, hja⟩ := hform
  subst hja
  obtain ⟨fc, hfc⟩ : ∃ f : Unit → Nat, f () = cap' := ⟨fun _ => cap', rfl⟩
  subst hfc
  have hcap' := GR.out.cap
  have hjb : jb < q ∨ jb = q + 3 := by
    rcases GR.out.fp jb jo ⟨jb, jo, rfl, rfl, Nat.le_refl _, by omega⟩ with h | ⟨h, _⟩
    · exact .inl (hRW.out jb jo h).1
    · exact .inr (by omega)
  obtain ⟨arr5, harr5⟩ := GR.out.row.blk
  have hjn : jb ≠ n := (blk_ne B5.out harr5 ty_ok.a).symm
  have K6 : Hid (Keep (fp TT n r L) w W6) := by
    subst hW6
    refine Keep.set ?_ _ _ _ fun _ => .inl rfl
    exact (K4.out.mono fun _ _ _ h => h.elim).trans GR.out.keep fun y o _ h => .inr (.inl (grow_row HN.out.2.2.1 h))
  have B6 : Hid (W6.heap[n]? = some (.cells #[.int .u64 r.iso, .int .i64 r.cnt, .slice (some ⟨jb, jo, none⟩) (r.items.length + 1) (fc ()), kidsVal r.kids L.cb] 172 (0, 0))) := by
    subst hW6; exact blk_set _ B5.out
  have X6 : Hid (W6.heap[q]? = some (.cells (E.enc x).toArray 161 (0, 0))) := by subst hW6; exact blk_far _ X5.out (by omega)
  have Y6 : Hid (W6.heap[q + 1]? = some (.cells #[.pointer (some ⟨n, 0, none⟩)] 164 (0, 0))) := by subst hW6; exact blk_far _ Y5.out (by omega)
  have Z6 : Hid (W6.heap[q + 1]? = some (.cells #[.pointer (some ⟨n, 0, none⟩)] 164 (0, 0))) := by subst hW6; exact blk_far _ Z5.out (by omega)
  have R6 : Hid (Row W6 TT.pair TT.s (some ⟨jb, jo, none⟩) (fc ()) (E.all r.items ++ E.enc hr.emp)) := by
    have h1 := GR.out.row
    subst hW6
    refine h1.keep' (S := fun y o => y = n ∧ o = 2) ((Keep.refl _ _).set _ _ _ fun _ => ⟨rfl, rfl⟩) fun y o hf h => ?_
    exact hjn ((rowFp_some hf).1.symm.trans h.1)
  clear hW6 K4 N4 X4 Y4 Z4 HN4 X5 Y5 Z5 B5 zc c2 fz harr5 arr5
  have hil : i ≤ r.items.length := HLOC.out.1
  obtain ⟨c0, c1, c2, c3, fz⟩ := blk4 B6.out
  have zc := (blk1 Z6.out).1
  have hcn : ¬ (fc ()) = i := by omega
  clear c0 c1 c3
  have hxs : Hid ((E.all r.items ++ E.enc hr.emp).length = (r.items.length + 1) * 2) := by
    have : (E.all r.items ++ E.enc hr.emp).length = (r.items.length + 1) * 2 := by rw [List.length_append, E.all_len, E.len, Nat.add_mul, Nat.one_mul]; rfl
    exact this
  have hone : Hid (∀ v ∈ E.all r.items ++ E.enc hr.emp, v.oneCell' = true) := by
    intro v hv
    rcases List.mem_append.1 hv with h | h
    · unfold Enc.all at h
      obtain ⟨y, _, hy⟩ := List.mem_flatMap.1 h
      exact E.one y v hy
    · exact E.one _ v h
  have R6d : Hid (Row W6.drew 161 2 (some ⟨jb, jo, none⟩) (fc ()) (E.all r.items ++ E.enc hr.emp)) := by exact R6.out.keep (Keep.drew Nothing _) fun _ _ _ h => h
  go_wp2_with fail
  refine wp_calm (by kernel_rfl) (by kernel_rfl) rfl ?_
  simp only [List.flatMap_cons, List.flatMap_nil, checks, chk, nilLit, List.cons_append, List.nil_append, List.append_nil, Try.underlying3]
  go_wp2_with fail
  case' inl =>
    obtain ⟨rv, W7, hr7, hk7, hrow7⟩ := run_copyRoom (P := Try.prog) W6.drew 169 3 161 2 Try.underlying169 (by kernel_rfl) R6d.out hxs.out hil (some ⟨jb, jo, none⟩) (some ⟨jb, jo + i * 2, none⟩) (fun h => absurd h (by omega)) (fun h => absurd h (by omega)) 0 1 hone.out
    simp only [Nat.add_sub_add_right] at hr7
    rw [hr7]
  case' inr =>
    obtain ⟨rv, W7, hr7, hk7, hrow7⟩ := run_copyRoom (P := Try.prog) W6.drew 169 3 161 2 Try.underlying169 (by kernel_rfl) R6d.out hxs.out hil (some ⟨jb, jo + (i + 1) * 2, none⟩) (some ⟨jb, jo + i * 2, none⟩) (fun _ => by simp) (fun _ => by simp) (fc () - (i + 1)) (fc () - i) hone.out
    simp only [Nat.add_sub_add_right] at hr7
    rw [hr7]
  all_goals
    simp only [Result.andThen_ok]
    replace hrow7 := Lib.hid hrow7
    replace hk7 := Lib.hid hk7
    clear hr7 zc c2 fz
    have K7 : Hid (Keep (fp TT n r L) w W7) := by
      refine K6.out.dr.trans hk7.out ?_
      rintro y o hy ⟨rfl, h1, h2⟩
      rcases GR.out.fp y o ⟨y, jo, rfl, rfl, by omega, by have := hcap'; simp only [TT, E] at *; omega⟩ with h | ⟨h, _⟩
      · exact .inr (.inl h)
      · have := XQ.out; omega
    have B7 : Hid (W7.heap[n]? = some (.cells #[.int .u64 r.iso, .int .i64 r.cnt, .slice (some ⟨jb, jo, none⟩) (r.items.length + 1) (fc ()), kidsVal r.kids L.cb] 172 (0, 0))) := by
      exact blk_keep (blk_drew B6.out) hk7.out fun o e => hjn e.1.symm
    have X7 : Hid (W7.heap[q]? = some (.cells (E.enc x).toArray 161 (0, 0))) := by exact blk_keep (blk_drew X6.out) hk7.out fun o e => by have := e.1; omega
    have Y7 : Hid (W7.heap[q + 1]? = some (.cells #[.pointer (some ⟨n, 0, none⟩)] 164 (0, 0))) := by exact blk_keep (blk_drew Y6.out) hk7.out fun o e => by have := e.1; omega
    have Z7 : Hid (W7.heap[q + 1]? = some (.cells #[.pointer (some ⟨n, 0, none⟩)] 164 (0, 0))) := by exact blk_keep (blk_drew Z6.out) hk7.out fun o e => by have := e.1; omega
    have hxl : Hid ((E.all r.items ++ E.enc hr.emp).length = (r.items.length + 1) * 2) := by exact hxs.out
    clear K6 B6 X6 Y6 Z6 R6 R6d hxs
    obtain ⟨c0, c1, c2, c3, fz⟩ := blk4 B7.out
    have zc := (blk1 Z7.out).1
    have xc : W7.cell? ⟨q, 0, none⟩ = some (.int .i64 x.2) := by have := X7.out; simp only [World.cell?, this]; rfl
    have xc1 : W7.cell? ⟨q, 1, none⟩ = some (.string (ky x)) := by have := X7.out; simp only [World.cell?, this]; rfl
    have fz2 := hrow7.out.frozen
    obtain ⟨ov, hov⟩ := hrow7.out.there (i := i * 2) (by have := hcap'; omega)
    obtain ⟨ov1, hov1⟩ := hrow7.out.there (i := i * 2 + 1) (by have := hcap'; omega)
    rw [← Nat.add_assoc] at hov1
    clear c0 c1 c3
    go_wp2_with fail
    rw [HQ_normal]
    go_wp2_with fail
    refine wp_calm (by kernel_rfl) (by kernel_rfl) rfl ?_
    simp only [List.flatMap_cons, List.flatMap_nil, checks, chk, nilLit, List.cons_append, List.nil_append, List.append_nil]
    go_wp2_with fail
    rw [HQ_normal]
    go_upto_region 13 with (fail)
    refine wp_world ?_
    intro W8 hW8
    have R8 : Hid (Row W8 TT.pair TT.s (some ⟨jb, jo, none⟩) (fc ()) (E.all (r.items.take i ++ x :: r.items.drop i))) := by
      have h1 := hrow7.out.setCells (E.enc x) (k := i * 2) (by
        have := hxl.out
        rw [E.len]
        simp only [List.length_append, List.length_take, List.length_drop, E.len, E.all_len] at *
        simp only [E] at *
        omega)
      have h2 := ins_cells E r.items x (E.enc hr.emp) hil (E.len _)
      simp only [show E.s = 2 from rfl] at h2
      rw [← h2]
      subst hW8
      exact h1.keep (Keep.drew Nothing _) fun _ _ _ h => h
    have K8 : Hid (Keep (fp TT n r L) w W8) := by
      have hS : ∀ o, jo + i * 2 ≤ o → o < jo + (i + 1) * 2 → jb < w.heap.size → fp TT n r L jb o := fun o h1 h2 hlt => by
        rcases GR.out.fp jb o ⟨jb, jo, rfl, rfl, by omega, by have := hcap'; simp only [TT, E] at *; omega⟩ with h | ⟨h, _⟩
        · exact .inr (.inl h)
        · have := XQ.out; omega
      subst hW8
      exact ((K7.out.set _ _ _ (hS _ (by omega) (by omega))).set _ _ _ (hS _ (by omega) (by omega))).dr
    have B8 : Hid (W8.heap[n]? = some (.cells #[.int .u64 r.iso, .int .i64 r.cnt, .slice (some ⟨jb, jo, none⟩) (r.items.length + 1) (fc ()), kidsVal r.kids L.cb] 172 (0, 0))) := by
      subst hW8; exact blk_drew (blk_far _ (blk_far _ B7.out hjn.symm) hjn.symm)
    have Y8 : Hid (W8.heap[q + 1]? = some (.cells #[.pointer (some ⟨n, 0, none⟩)] 164 (0, 0))) := by
      subst hW8; exact blk_drew (blk_far _ (blk_far _ Y7.out (by omega)) (by omega))
    have Z8 : Hid (W8.heap[q + 1]? = some (.cells #[.pointer (some ⟨n, 0, none⟩)] 164 (0, 0))) := by
      subst hW8; exact blk_drew (blk_far _ (blk_far _ Z7.out (by omega)) (by omega))
    clear hW8 K7 B7 Y7 Z7 X7 hrow7 hk7 zc c2 fz xc fz2 hov xc1 hov1
    obtain ⟨c0, c1, c2, c3, fz⟩ := blk4 B8.out
    have zc := (blk1 Z8.out).1
    have hb1 : -9223372036854775808 ≤ r.cnt + 1 ∧ r.cnt + 1 ≤ 9223372036854775807 := by omega
    clear c0 c2 c3
    go_upto_region 14 with (fail)
    refine wp_world ?_
    intro W9 hW9
    have hlen9 : (r.items.take i ++ x :: r.items.drop i).length = r.items.length + 1 := by simp; omega
    have B9 : Hid (W9.heap[n]? = some (.cells #[.int .u64 r.iso, .int .i64 (r.cnt + 1), .slice (some ⟨jb, jo, none⟩) (r.items.length + 1) (fc ()), kidsVal r.kids L.cb] 172 (0, 0))) := by
      subst hW9; exact blk_set _ B8.out
    have K9 : Hid (Keep (fp TT n r L) w W9) := by subst hW9; exact K8.out.set _ _ _ fun _ => .inl rfl
    have Y9 : Hid (W9.heap[q + 1]? = some (.cells #[.pointer (some ⟨n, 0, none⟩)] 164 (0, 0))) := by subst hW9; exact blk_far _ Y8.out (by omega)
    have R9 : Hid (Row W9 TT.pair TT.s (some ⟨jb, jo, none⟩) (fc ()) (E.all (r.items.take i ++ x :: r.items.drop i))) := by
      subst hW9
      refine R8.out.keep' (S := fun y o => y = n ∧ o = 1) ((Keep.refl _ _).set _ _ _ fun _ => ⟨rfl, rfl⟩) fun y o hf h => ?_
      exact hjn ((rowFp_some hf).1.symm.trans h.1)
    clear hW9 B8 K8 Y8 Z8 R8 zc c1 fz
    have H9 : Hid (Hdr W9 b hr) := by exact blk_keep HH.out K9.out fun o hf => hdr_apart HH.out HN.out hf
    have he := (hdr_emp H9.out).1
    go_wp2_with fail
    go_ret3
    refine ⟨rfl, K9.out, ⟨some ⟨jb, jo, none⟩, fc (), L.cb, none, 0⟩, ⟨?_, R9.out, ?_, ?_⟩, ?_⟩
    · simp only [hlen9]; exact B9.out
    · simp only [hlen9]; have := hcap'; omega
    · intro ks hks; rw [hlf] at hks; cases hks
    · rintro y o hy (rfl | hf | ⟨hk, _⟩)
      · exact .inl rfl
      · rcases GR.out.fp y o hf with h | ⟨h, _⟩
        · exact .inr (.inl h)
        · have := XQ.out; omega
      · simp only [hlf] at hk; cases hk
end Go.Proofs.Ytckplcmieelmpaa.W

namespace Go.Proofs.Ytckplcmieelmpaa.W
open Go.RowKit Go.Wb

/-- What a call below leaves, where it doesn't ask for a split. -/
def DownPost (w W : World) (n : Nat) (r : NRec It) (L : Lay) (G : It → Bool → World → World → Prop) (e : Ending) (W' : World) : Prop :=
  ∃ y rep, e = .returned (.tuple #[vv y, .bool rep, .bool false]) ∧ Keep (fun b _ => b < w.heap.size) W W' ∧ NodeAt TT E W' n r L ∧ G y rep W W'
def GoPost (w : World) (n : Nat) (r : NRec It) (L : Lay) (G : It → Bool → World → World → Prop) (e : Ending) (w' : World) : Prop :=
  ∃ W W' y rep, Keep Nothing w W ∧ G y rep W W' ∧ e = .returned (.tuple #[vv y, .bool rep, .bool false]) ∧ Keep (fun b _ => b < w.heap.size) W W' ∧
    Keep (fun b o => (b = n ∧ o = 1) ∨ (w.heap.size ≤ b ∧ b < W.heap.size)) W' w' ∧ NodeAt TT E w' n { r with cnt := if rep then r.cnt else r.cnt + 1 } L

set_option maxRecDepth 100000 in
set_option maxHeartbeats 4000000 in
theorem set_inner_go {w : World} {b pb po n : Nat} {hr : HRec} {r : NRec It} {L : Lay} (hh : Hdr w b hr) (hp : w.cell? ⟨pb, po, none⟩ = some (ptr n)) (hn : NodeAt TT E w n r L) (hi : r.iso = hr.iso)
    (hlen : r.items.length ≤ 1000000000000) (hs : Sorted ilt r.items) {x : It} {i : Nat} (hloc : Loc r.items (ky x) i false) (hc0 : 0 ≤ r.cnt) (hc1 : r.cnt ≤ 4000000000000000000)
    {ks : List Nat} (hks : r.kids = some ks) {kb ko : Nat} (hka : L.ka = some ⟨kb, ko, none⟩) (hik : i < ks.length) (G : It → Bool → World → World → Prop)
    (hcall : ∀ W, Keep Nothing w W → Calls Try.prog 124 #[ptr b, .pointer (some ⟨kb, ko + i, none⟩), pv x] W (DownPost w W n r L G)) :
    Calls Try.prog 124 #[ptr b, .pointer (some ⟨pb, po, none⟩), pv x] w (GoPost w n r L G) := by
  have HKS := Lib.hid hks
  have HKA := Lib.hid hka
  have HCALL := Lib.hid hcall
  clear hks hka hcall
  have HN := Lib.hid hn
  have HH := Lib.hid hh
  have HP := Lib.hid hp
  have HLOC := Lib.hid hloc
  have HS := Lib.hid hs
  have HI := Lib.hid hi
  have hnw := lt_of_heap hn.1
  have hpw := lt_of_cell hp
  have hbw := lt_of_heap hh
  clear hh hn hp hs hloc hi
  unfold ptr pv kv at *
  go_enter Try.func124, Try.ntmps124
  go_upto_region 1 with (fail)
  refine wp_world ?_
  intro W1 hW1
  generalize hq : w.heap.size = q at *
  have XQ := Lib.hid hq
  have K1 : Hid (Keep Nothing w W1) := by subst hW1; exact (Keep.refl _ _).al _
  have X1 : Hid (W1.heap[q]? = some (.cells (E.enc x).toArray 161 (0, 0))) := by subst hW1; subst hq; exact heap_alloc_new w _
  have S1 : W1.heap.size = q + 1 := by subst hW1; rw [World.size_alloc, hq]
  clear hW1 hq
  have HN1 : Hid (NodeAt TT E W1 n r L) := by exact HN.out.keep K1.out fun _ _ _ h => h
  have HH1 : Hid (Hdr W1 b hr) := by exact blk_keep HH.out K1.out fun _ h => h
  have hiso := isoLoad_own HH1.out (K1.out.cell' HP.out fun h => h) HN1.out HI.out true
  unfold ptr at hiso
  go_wp2_with fail
  refine hiso.mono ?_
  rintro e w1 ⟨rfl, kd, rfl⟩
  clear hiso
  have K1d : Hid (Keep Nothing w (W1.drewN kd)) := by exact K1.out.drN kd
  have S1d : (W1.drewN kd).heap.size = q + 1 := S1
  have X1d : Hid ((W1.drewN kd).heap[q]? = some (.cells (E.enc x).toArray 161 (0, 0))) := by exact X1.out
  clear HN1 HH1 K1 S1 X1
  generalize W1.drewN kd = W1 at *
  unfold ptr
  go_upto_region 2 with (fail)
  refine wp_world ?_
  intro W2 hW2
  have K2 : Hid (Keep Nothing w W2) := by subst hW2; exact K1d.out.al _
  have X2 : Hid (W2.heap[q]? = some (.cells (E.enc x).toArray 161 (0, 0))) := by subst hW2; exact blk_alloc _ X1d.out
  have Z2 : Hid (W2.heap[q + 1]? = some (.cells #[.pointer (some ⟨n, 0, none⟩)] 164 (0, 0))) := by subst hW2; rw [← S1d]; exact heap_alloc_new W1 _
  have Y2 := Lib.hid Z2.out
  have S2 : W2.heap.size = q + 2 := by subst hW2; rw [World.size_alloc, S1d]
  clear hW2 K1d X1d S1d
  have HN2 : Hid (NodeAt TT E W2 n r L) := by exact HN.out.keep K2.out fun _ _ _ h => h
  have hse := search_loc (tr := ptr b) HN2.out hlen HS.out HLOC.out
  have kc : W2.cell? ⟨q, 1, none⟩ = some (.string (ky x)) := by have := X2.out; simp only [World.cell?, this]; rfl
  have zc := (blk1 Z2.out).1
  unfold ptr kv at hse
  go_wp2_with fail
  refine hse.mono ?_
  rintro e w1 ⟨rfl, kd, rfl⟩
  clear hse kc zc HN2
  have K2d : Hid (Keep Nothing w (W2.drewN kd)) := by exact K2.out.drN kd
  have S2d : (W2.drewN kd).heap.size = q + 2 := S2
  have X2d : Hid ((W2.drewN kd).heap[q]? = some (.cells (E.enc x).toArray 161 (0, 0))) := by exact X2.out
  have Y2d : Hid ((W2.drewN kd).heap[q + 1]? = some (.cells #[.pointer (some ⟨n, 0, none⟩)] 164 (0, 0))) := by exact Y2.out
  have Z2d : Hid ((W2.drewN kd).heap[q + 1]? = some (.cells #[.pointer (some ⟨n, 0, none⟩)] 164 (0, 0))) := by exact Z2.out
  clear K2 S2 X2 Y2 Z2
  generalize W2.drewN kd = W at *
  have HNd : Hid (NodeAt TT E W n r L) := by exact HN.out.keep K2d.out fun _ _ _ h => h
  have HHd : Hid (Hdr W b hr) := by exact blk_keep HH.out K2d.out fun _ h => h
  have hlv := leaf_any HNd.out
  rw [HKS.out] at hlv
  simp only [Option.isNone_some] at hlv
  obtain ⟨c0, c1, c2, c3, fz⟩ := blk4 HNd.out.1
  rw [HKS.out] at c3
  obtain ⟨g1, g2, g3⟩ := HNd.out.2.2.2 ks HKS.out
  rw [HKA.out] at g1
  obtain ⟨g4, fz3⟩ := blk1 g1
  have zc := (blk1 Z2d.out).1
  have xc : W.drew.cell? ⟨q, 0, none⟩ = some (.int .i64 x.2) := by have : W.drew.heap[q]? = _ := X2d.out; simp only [World.cell?, this]; rfl
  have xc1 : W.drew.cell? ⟨q, 1, none⟩ = some (.string (ky x)) := by have : W.drew.heap[q]? = _ := X2d.out; simp only [World.cell?, this]; rfl
  have hcl := HCALL.out W.drew K2d.out.dr
  unfold ptr at hlv
  simp only [kidsVal, ptr] at c3
  replace hcl := Lib.hid hcl
  clear c0 c1 c2 g1 g2
  go_wp2_with fail
  refine hlv.mono ?_
  rintro e w1 ⟨rfl, rfl⟩
  clear hlv
  go_wp2_with fail
  refine wp_calm (by kernel_rfl) (by kernel_rfl) rfl ?_
  simp only [List.flatMap_cons, List.flatMap_nil, checks, chk, nilLit, List.cons_append, List.nil_append, List.append_nil]
  go_wp2_with fail
  refine hcl.out.mono ?_
  rintro e W3 ⟨y, rep, rfl, hK3, hN3, hG3⟩
  have HN3 := Lib.hid hN3
  have HG3 := Lib.hid hG3
  have HK3 := Lib.hid hK3
  have Y3 : Hid (W3.heap[q + 1]? = some (.cells #[.pointer (some ⟨n, 0, none⟩)] 164 (0, 0))) := by exact blk_keep (blk_drew Y2d.out) hK3 fun o h => by have := XQ.out; omega
  have Z3 : Hid (W3.heap[q + 1]? = some (.cells #[.pointer (some ⟨n, 0, none⟩)] 164 (0, 0))) := by exact blk_keep (blk_drew Z2d.out) hK3 fun o h => by have := XQ.out; omega
  have S3 : q + 2 ≤ W3.heap.size := by have := hK3.size; have h2 : W.drew.heap.size = q + 2 := S2d; omega
  clear hN3 hG3 hK3 c3 fz g4 fz3 zc xc hcl
  obtain ⟨c0, c1, c2, c3, fz⟩ := blk4 HN3.out.1
  have zc := (blk1 Z3.out).1
  have hb1 : -9223372036854775808 ≤ r.cnt + 1 ∧ r.cnt + 1 ≤ 9223372036854775807 := by omega
  clear c0 c2 c3
  unfold vv
  go_wp2_with fail
  rw [HQ_normal]
  cases rep with
  | true =>
    go_wp2_with fail
    refine wp_world2 ?_
    intro W4 hW4
    have K4 : Keep (fun b o => (b = n ∧ o = 1) ∨ (w.heap.size ≤ b ∧ b < W.drew.heap.size)) W3 W4 := by
      subst hW4; exact Keep.refl _ _
    have Y4 : W4.heap[q + 1]? = some (.cells #[.pointer (some ⟨n, 0, none⟩)] 164 (0, 0)) := by
      subst hW4; exact Y3.out
    go_ret3
    refine ⟨W.drew, W3, y, true, K2d.out.dr, HG3.out, rfl, HK3.out, K4, ?_⟩
    subst hW4; exact HN3.out
  | false =>
    go_wp2_with fail
    refine wp_world2 ?_
    intro W4 hW4
    have K4 : Keep (fun b o => (b = n ∧ o = 1) ∨ (w.heap.size ≤ b ∧ b < W.drew.heap.size)) W3 W4 := by
      subst hW4; refine (Keep.refl _ _).set _ _ _ ?_; exact fun _ => .inl ⟨rfl, rfl⟩
    have Y4 : W4.heap[q + 1]? = some (.cells #[.pointer (some ⟨n, 0, none⟩)] 164 (0, 0)) := by
      subst hW4; exact blk_far _ Y3.out (by omega)
    go_ret3
    refine ⟨W.drew, W3, y, false, K2d.out.dr, HG3.out, rfl, HK3.out, K4, ?_⟩
    subst hW4
    refine HN3.out.reset ty_ok ?_ (blk_set _ HN3.out.1)
    refine (Keep.refl _ _).set _ _ _ ?_; exact fun _ => rfl
end Go.Proofs.Ytckplcmieelmpaa.W

namespace Go.Proofs.Ytckplcmieelmpaa.W
open Go.RowKit Go.Wb

/-- A call below has asked for a split. -/
def AskPost (W : World) (ep : It) (e : Ending) (W' : World) : Prop := e = .returned (.tuple #[vv ep, .bool false, .bool true]) ∧ Keep Nothing W W'

set_option maxRecDepth 100000 in
set_option maxHeartbeats 4000000 in
theorem set_inner_full {w : World} {b pb po n : Nat} {hr : HRec} {r : NRec It} {L : Lay} (hh : Hdr w b hr) (hp : w.cell? ⟨pb, po, none⟩ = some (ptr n)) (hn : NodeAt TT E w n r L) (hi : r.iso = hr.iso)
    (hlen : r.items.length ≤ 1000000000000) (hs : Sorted ilt r.items) {x : It} {i : Nat} (hloc : Loc r.items (ky x) i false) (hfull : hr.mx = r.items.length)
    {ks : List Nat} (hks : r.kids = some ks) {kb ko : Nat} (hka : L.ka = some ⟨kb, ko, none⟩) (hik : i < ks.length)
    (hcall : ∀ W, Keep Nothing w W → Calls Try.prog 124 #[ptr b, .pointer (some ⟨kb, ko + i, none⟩), pv x] W (AskPost W hr.emp)) :
    Calls Try.prog 124 #[ptr b, .pointer (some ⟨pb, po, none⟩), pv x] w (AskPost w hr.emp) := by
  have HKS := Lib.hid hks
  have HKA := Lib.hid hka
  have HCALL := Lib.hid hcall
  have HF := Lib.hid hfull
  clear hks hka hcall hfull
  have HN := Lib.hid hn
  have HH := Lib.hid hh
  have HP := Lib.hid hp
  have HLOC := Lib.hid hloc
  have HS := Lib.hid hs
  have HI := Lib.hid hi
  have hnw := lt_of_heap hn.1
  have hpw := lt_of_cell hp
  have hbw := lt_of_heap hh
  clear hh hn hp hs hloc hi
  unfold ptr pv kv at *
  go_enter Try.func124, Try.ntmps124
  go_upto_region 1 with (fail)
  refine wp_world ?_
  intro W1 hW1
  generalize hq : w.heap.size = q at *
  have XQ := Lib.hid hq
  have K1 : Hid (Keep Nothing w W1) := by subst hW1; exact (Keep.refl _ _).al _
  have X1 : Hid (W1.heap[q]? = some (.cells (E.enc x).toArray 161 (0, 0))) := by subst hW1; subst hq; exact heap_alloc_new w _
  have S1 : W1.heap.size = q + 1 := by subst hW1; rw [World.size_alloc, hq]
  clear hW1 hq
  have HN1 : Hid (NodeAt TT E W1 n r L) := by exact HN.out.keep K1.out fun _ _ _ h => h
  have HH1 : Hid (Hdr W1 b hr) := by exact blk_keep HH.out K1.out fun _ h => h
  have hiso := isoLoad_own HH1.out (K1.out.cell' HP.out fun h => h) HN1.out HI.out true
  unfold ptr at hiso
  go_wp2_with fail
  refine hiso.mono ?_
  rintro e w1 ⟨rfl, kd, rfl⟩
  clear hiso
  have K1d : Hid (Keep Nothing w (W1.drewN kd)) := by exact K1.out.drN kd
  have S1d : (W1.drewN kd).heap.size = q + 1 := S1
  have X1d : Hid ((W1.drewN kd).heap[q]? = some (.cells (E.enc x).toArray 161 (0, 0))) := by exact X1.out
  clear HN1 HH1 K1 S1 X1
  generalize W1.drewN kd = W1 at *
  unfold ptr
  go_upto_region 2 with (fail)
  refine wp_world ?_
  intro W2 hW2
  have K2 : Hid (Keep Nothing w W2) := by subst hW2; exact K1d.out.al _
  have X2 : Hid (W2.heap[q]? = some (.cells (E.enc x).toArray 161 (0, 0))) := by subst hW2; exact blk_alloc _ X1d.out
  have Z2 : Hid (W2.heap[q + 1]? = some (.cells #[.pointer (some ⟨n, 0, none⟩)] 164 (0, 0))) := by subst hW2; rw [← S1d]; exact heap_alloc_new W1 _
  have Y2 := Lib.hid Z2.out
  have S2 : W2.heap.size = q + 2 := by subst hW2; rw [World.size_alloc, S1d]
  clear hW2 K1d X1d S1d
  have HN2 : Hid (NodeAt TT E W2 n r L) := by exact HN.out.keep K2.out fun _ _ _ h => h
  have hse := search_loc (tr := ptr b) HN2.out hlen HS.out HLOC.out
  have kc : W2.cell? ⟨q, 1, none⟩ = some (.string (ky x)) := by have := X2.out; simp only [World.cell?, this]; rfl
  have zc := (blk1 Z2.out).1
  unfold ptr kv at hse
  go_wp2_with fail
  refine hse.mono ?_
  rintro e w1 ⟨rfl, kd, rfl⟩
  clear hse kc zc HN2
  have K2d : Hid (Keep Nothing w (W2.drewN kd)) := by exact K2.out.drN kd
  have S2d : (W2.drewN kd).heap.size = q + 2 := S2
  have X2d : Hid ((W2.drewN kd).heap[q]? = some (.cells (E.enc x).toArray 161 (0, 0))) := by exact X2.out
  have Y2d : Hid ((W2.drewN kd).heap[q + 1]? = some (.cells #[.pointer (some ⟨n, 0, none⟩)] 164 (0, 0))) := by exact Y2.out
  have Z2d : Hid ((W2.drewN kd).heap[q + 1]? = some (.cells #[.pointer (some ⟨n, 0, none⟩)] 164 (0, 0))) := by exact Z2.out
  clear K2 S2 X2 Y2 Z2
  generalize W2.drewN kd = W at *
  have HNd : Hid (NodeAt TT E W n r L) := by exact HN.out.keep K2d.out fun _ _ _ h => h
  have HHd : Hid (Hdr W b hr) := by exact blk_keep HH.out K2d.out fun _ h => h
  have hlv := leaf_any HNd.out
  rw [HKS.out] at hlv
  simp only [Option.isNone_some] at hlv
  obtain ⟨c0, c1, c2, c3, fz⟩ := blk4 HNd.out.1
  rw [HKS.out] at c3
  obtain ⟨g1, g2, g3⟩ := HNd.out.2.2.2 ks HKS.out
  rw [HKA.out] at g1
  obtain ⟨g4, fz3⟩ := blk1 g1
  have zc := (blk1 Z2d.out).1
  have xc : W.drew.cell? ⟨q, 0, none⟩ = some (.int .i64 x.2) := by have : W.drew.heap[q]? = _ := X2d.out; simp only [World.cell?, this]; rfl
  have xc1 : W.drew.cell? ⟨q, 1, none⟩ = some (.string (ky x)) := by have : W.drew.heap[q]? = _ := X2d.out; simp only [World.cell?, this]; rfl
  have hcl := HCALL.out W.drew K2d.out.dr
  unfold ptr at hlv
  simp only [kidsVal, ptr] at c3
  replace hcl := Lib.hid hcl
  clear c0 c1 c2 g1 g2
  go_wp2_with fail
  refine hlv.mono ?_
  rintro e w1 ⟨rfl, rfl⟩
  clear hlv
  go_wp2_with fail
  refine wp_calm (by kernel_rfl) (by kernel_rfl) rfl ?_
  simp only [List.flatMap_cons, List.flatMap_nil, checks, chk, nilLit, List.cons_append, List.nil_append, List.append_nil]
  go_wp2_with fail
  refine hcl.out.mono ?_
  rintro e W3 ⟨rfl, hK3⟩
  have K3 : Hid (Keep Nothing w W3) := by exact K2d.out.dr.trans hK3 fun _ _ _ h => h
  have Y3 : Hid (W3.heap[q + 1]? = some (.cells #[.pointer (some ⟨n, 0, none⟩)] 164 (0, 0))) := by exact blk_keep (blk_drew Y2d.out) hK3 fun o h => h
  have Z3 : Hid (W3.heap[q + 1]? = some (.cells #[.pointer (some ⟨n, 0, none⟩)] 164 (0, 0))) := by exact blk_keep (blk_drew Z2d.out) hK3 fun o h => h
  have HN3 : Hid (NodeAt TT E W3 n r L) := by exact HN.out.keep K3.out fun _ _ _ h => h
  have HH3 : Hid (Hdr W3 b hr) := by exact blk_keep HH.out K3.out fun _ h => h
  clear hK3 c3 fz g4 fz3 zc xc hcl
  obtain ⟨c0, c1, c2, c3, fz⟩ := blk4 HN3.out.1
  have zc := (blk1 Z3.out).1
  have x6 := hdr_mx HH3.out
  rw [HF.out] at x6
  have hev := (hdr_emp HH3.out).1
  clear c0 c1 c3
  unfold vv
  go_wp2_with fail
  rw [HQ_normal]
  go_wp2_with fail
  refine wp_calm (by kernel_rfl) (by kernel_rfl) rfl ?_
  simp only [List.flatMap_cons, List.flatMap_nil, checks, chk, nilLit, List.cons_append, List.nil_append, List.append_nil, Try.underlying3]
  go_wp2_with fail
  rw [HQ_normal]
  go_wp2_with fail
  refine wp_world2 ?_
  intro W4 hW4
  have K4 : Keep Nothing w W4 := by
    subst hW4; exact K3.out.dr
  have Y4 : W4.heap[q + 1]? = some (.cells #[.pointer (some ⟨n, 0, none⟩)] 164 (0, 0)) := by
    subst hW4; exact blk_drew Y3.out
  go_ret3
  exact ⟨rfl, K4⟩
end Go.Proofs.Ytckplcmieelmpaa.W

namespace Go.Proofs.Ytckplcmieelmpaa.W
open Go.RowKit Go.Wb

/-- A node into which the right half of child i and the item between were put. -/
def grown (r : NRec It) (ks : List Nat) (i m : Nat) (med : It) : NRec It := { r with items := r.items.take i ++ med :: r.items.drop i, kids := some (ks.take (i + 1) ++ m :: ks.drop (i + 1)) }

/-- The walk's own blocks. -/
def Lcl (W : World) (q p n : Nat) (x med : It) : Prop := W.heap[q]? = some (.cells (E.enc x).toArray 161 (0, 0)) ∧ W.heap[q + 1]? = some (.cells #[.pointer (some ⟨n, 0, none⟩)] 164 (0, 0)) ∧
  W.heap[q + 1]? = some (.cells #[.pointer (some ⟨n, 0, none⟩)] 164 (0, 0)) ∧ W.heap[p]? = some (.cells (E.enc med).toArray 161 (0, 0))
theorem Lcl.keep {S : Nat → Nat → Prop} {W W' : World} {q p n : Nat} {x med : It} (h : Lcl W q p n x med) (hk : Keep S W W') (hS : ∀ b o, S b o → b < q ∨ p < b) (hp : q + 1 < p) : Lcl W' q p n x med := by
  obtain ⟨h1, h2, h3, h4⟩ := h
  refine ⟨blk_keep h1 hk fun o e => ?_, blk_keep h2 hk fun o e => ?_, blk_keep h3 hk fun o e => ?_, blk_keep h4 hk fun o e => ?_⟩ <;> (have := hS _ _ e; omega)

def HalfPost (w W : World) (b n : Nat) (hr : HRec) (r : NRec It) (L : Lay) (G : Nat → It → World → World → Prop) (e : Ending) (W' : World) : Prop :=
  ∃ m med, e = .returned (.tuple #[ptr m, pv med]) ∧ Keep (fun b _ => b < w.heap.size) W W' ∧ NodeAt TT E W' n r L ∧ Hdr W' b hr ∧ G m med W W'

/-- Between the split and the second call. -/
structure Mid (W' W2 : World) (n : Nat) (r : NRec It) (L : Lay) (ks : List Nat) (i m : Nat) (med : It) (L2 : Lay) : Prop where
  keep : Keep (fp TT n r L) W' W2
  node : NodeAt TT E W2 n (grown r ks i m med) L2
  fp : ∀ b o, b < W'.heap.size → fp TT n (grown r ks i m med) L2 b o → fp TT n r L b o

def AgainPost (w W W2 : World) (R : Ending → World → Prop) (e : Ending) (W3 : World) : Prop :=
  R e W3 ∧ (∃ y rep sp, e = .returned (.tuple #[vv y, .bool rep, .bool sp])) ∧ Keep (fun b _ => b < w.heap.size ∨ W.heap.size ≤ b) W2 W3

def RetryPost (w : World) (n : Nat) (r : NRec It) (L : Lay) (ks : List Nat) (i : Nat) (G : Nat → It → World → World → Prop) (R : Nat → It → World → World → World → Lay → Ending → World → Prop) (e : Ending) (w' : World) : Prop :=
  ∃ W m med W' W2 L2 W3, Keep Nothing w W ∧ G m med W W' ∧ Mid W' W2 n r L ks i m med L2 ∧ R m med W W' W2 L2 e W3 ∧ Keep (fun b _ => w.heap.size ≤ b ∧ b < W.heap.size) W3 w'

set_option maxRecDepth 100000 in
set_option maxHeartbeats 8000000 in
theorem set_inner_retry {w : World} {b pb po n : Nat} {hr : HRec} {r : NRec It} {L : Lay} (hh : Hdr w b hr) (hp : w.cell? ⟨pb, po, none⟩ = some (ptr n)) (hn : NodeAt TT E w n r L) (hi : r.iso = hr.iso)
    (hlen : r.items.length ≤ 1000000000000) (hs : Sorted ilt r.items) {x : It} {i : Nat} (hloc : Loc r.items (ky x) i false) (hfull : hr.mx ≠ r.items.length)
    {ks : List Nat} (hks : r.kids = some ks) {kb ko c : Nat} (hka : L.ka = some ⟨kb, ko, none⟩) (hik : ks[i]? = some c) (hkl : ks.length ≤ 1000000000001) (G : Nat → It → World → World → Prop) (R : Nat → It → World → World → World → Lay → Ending → World → Prop)
    (hcall : ∀ W, Keep Nothing w W → Calls Try.prog 124 #[ptr b, .pointer (some ⟨kb, ko + i, none⟩), pv x] W (AskPost W hr.emp))
    (hsplit : ∀ W, Keep Nothing w W → Calls Try.prog 125 #[ptr b, ptr c] W (HalfPost w W b n hr r L G))
    (hagain : ∀ W m med W' W2 L2 pq, Keep Nothing w W → G m med W W' → Mid W' W2 n r L ks i m med L2 → w.heap.size ≤ pq → W2.cell? ⟨pq, 0, none⟩ = some (ptr n) → Hdr W2 b hr →
      Calls Try.prog 124 #[ptr b, ptr pq, pv x] W2 (AgainPost w W W2 (R m med W W' W2 L2))) :
    Calls Try.prog 124 #[ptr b, .pointer (some ⟨pb, po, none⟩), pv x] w (RetryPost w n r L ks i G R) := by
  have HKS := Lib.hid hks
  have HKA := Lib.hid hka
  have HCALL := Lib.hid hcall
  have HF := Lib.hid hfull
  have HIK := Lib.hid hik
  have HSP := Lib.hid hsplit
  have HAG := Lib.hid hagain
  have hikl : i < ks.length := (List.getElem?_eq_some_iff.1 hik).1
  clear hks hka hcall hfull hik hsplit hagain
  have HN := Lib.hid hn
  have HH := Lib.hid hh
  have HP := Lib.hid hp
  have HLOC := Lib.hid hloc
  have HS := Lib.hid hs
  have HI := Lib.hid hi
  have hnw := lt_of_heap hn.1
  have hpw := lt_of_cell hp
  have hbw := lt_of_heap hh
  clear hh hn hp hs hloc hi
  unfold ptr pv kv at *
  go_enter Try.func124, Try.ntmps124
  go_upto_region 1 with (fail)
  refine wp_world ?_
  intro W1 hW1
  generalize hq : w.heap.size = q at *
  have XQ := Lib.hid hq
  have K1 : Hid (Keep Nothing w W1) := by subst hW1; exact (Keep.refl _ _).al _
  have X1 : Hid (W1.heap[q]? = some (.cells (E.enc x).toArray 161 (0, 0))) := by subst hW1; subst hq; exact heap_alloc_new w _
  have S1 : W1.heap.size = q + 1 := by subst hW1; rw [World.size_alloc, hq]
  clear hW1 hq
  have HN1 : Hid (NodeAt TT E W1 n r L) := by exact HN.out.keep K1.out fun _ _ _ h => h
  have HH1 : Hid (Hdr W1 b hr) := by exact blk_keep HH.out K1.out fun _ h => h
  have hiso := isoLoad_own HH1.out (K1.out.cell' HP.out fun h => h) HN1.out HI.out true
  unfold ptr at hiso
  go_wp2_with fail
  refine hiso.mono ?_
  rintro e w1 ⟨rfl, kd, rfl⟩
  clear hiso
  have K1d : Hid (Keep Nothing w (W1.drewN kd)) := by exact K1.out.drN kd
  have S1d : (W1.drewN kd).heap.size = q + 1 := S1
  have X1d : Hid ((W1.drewN kd).heap[q]? = some (.cells (E.enc x).toArray 161 (0, 0))) := by exact X1.out
  clear HN1 HH1 K1 S1 X1
  generalize W1.drewN kd = W1 at *
  unfold ptr
  go_upto_region 2 with (fail)
  refine wp_world ?_
  intro W2 hW2
  have K2 : Hid (Keep Nothing w W2) := by subst hW2; exact K1d.out.al _
  have X2 : Hid (W2.heap[q]? = some (.cells (E.enc x).toArray 161 (0, 0))) := by subst hW2; exact blk_alloc _ X1d.out
  have Z2 : Hid (W2.heap[q + 1]? = some (.cells #[.pointer (some ⟨n, 0, none⟩)] 164 (0, 0))) := by subst hW2; rw [← S1d]; exact heap_alloc_new W1 _
  have Y2 := Lib.hid Z2.out
  have S2 : W2.heap.size = q + 2 := by subst hW2; rw [World.size_alloc, S1d]
  clear hW2 K1d X1d S1d
  have HN2 : Hid (NodeAt TT E W2 n r L) := by exact HN.out.keep K2.out fun _ _ _ h => h
  have hse := search_loc (tr := ptr b) HN2.out hlen HS.out HLOC.out
  have kc : W2.cell? ⟨q, 1, none⟩ = some (.string (ky x)) := by have := X2.out; simp only [World.cell?, this]; rfl
  have zc := (blk1 Z2.out).1
  unfold ptr kv at hse
  go_wp2_with fail
  refine hse.mono ?_
  rintro e w1 ⟨rfl, kd, rfl⟩
  clear hse kc zc HN2
  have K2d : Hid (Keep Nothing w (W2.drewN kd)) := by exact K2.out.drN kd
  have S2d : (W2.drewN kd).heap.size = q + 2 := S2
  have X2d : Hid ((W2.drewN kd).heap[q]? = some (.cells (E.enc x).toArray 161 (0, 0))) := by exact X2.out
  have Y2d : Hid ((W2.drewN kd).heap[q + 1]? = some (.cells #[.pointer (some ⟨n, 0, none⟩)] 164 (0, 0))) := by exact Y2.out
  have Z2d : Hid ((W2.drewN kd).heap[q + 1]? = some (.cells #[.pointer (some ⟨n, 0, none⟩)] 164 (0, 0))) := by exact Z2.out
  clear K2 S2 X2 Y2 Z2
  generalize W2.drewN kd = W at *
  have HNd : Hid (NodeAt TT E W n r L) := by exact HN.out.keep K2d.out fun _ _ _ h => h
  have HHd : Hid (Hdr W b hr) := by exact blk_keep HH.out K2d.out fun _ h => h
  have hlv := leaf_any HNd.out
  rw [HKS.out] at hlv
  simp only [Option.isNone_some] at hlv
  obtain ⟨c0, c1, c2, c3, fz⟩ := blk4 HNd.out.1
  rw [HKS.out] at c3
  obtain ⟨g1, g2, g3⟩ := HNd.out.2.2.2 ks HKS.out
  rw [HKA.out] at g1
  obtain ⟨g4, fz3⟩ := blk1 g1
  have zc := (blk1 Z2d.out).1
  have xc : W.drew.cell? ⟨q, 0, none⟩ = some (.int .i64 x.2) := by have : W.drew.heap[q]? = _ := X2d.out; simp only [World.cell?, this]; rfl
  have xc1 : W.drew.cell? ⟨q, 1, none⟩ = some (.string (ky x)) := by have : W.drew.heap[q]? = _ := X2d.out; simp only [World.cell?, this]; rfl
  have hcl := HCALL.out W.drew K2d.out.dr
  unfold ptr at hlv
  simp only [kidsVal, ptr] at c3
  replace hcl := Lib.hid hcl
  clear c0 c1 c2 g1 g2
  go_wp2_with fail
  refine hlv.mono ?_
  rintro e w1 ⟨rfl, rfl⟩
  clear hlv
  go_wp2_with fail
  refine wp_calm (by kernel_rfl) (by kernel_rfl) rfl ?_
  simp only [List.flatMap_cons, List.flatMap_nil, checks, chk, nilLit, List.cons_append, List.nil_append, List.append_nil]
  go_wp2_with fail
  refine hcl.out.mono ?_
  rintro e W3 ⟨rfl, hK3⟩
  have K3 : Hid (Keep Nothing w W3) := by exact K2d.out.dr.trans hK3 fun _ _ _ h => h
  have X3 : Hid (W3.heap[q]? = some (.cells (E.enc x).toArray 161 (0, 0))) := by exact blk_keep (blk_drew X2d.out) hK3 fun o h => h
  have Y3 : Hid (W3.heap[q + 1]? = some (.cells #[.pointer (some ⟨n, 0, none⟩)] 164 (0, 0))) := by exact blk_keep (blk_drew Y2d.out) hK3 fun o h => h
  have Z3 : Hid (W3.heap[q + 1]? = some (.cells #[.pointer (some ⟨n, 0, none⟩)] 164 (0, 0))) := by exact blk_keep (blk_drew Z2d.out) hK3 fun o h => h
  have S3 : q + 2 ≤ W3.heap.size := by have h2 : W.drew.heap.size = q + 2 := S2d; have := hK3.size; omega
  have HN3 : Hid (NodeAt TT E W3 n r L) := by exact HN.out.keep K3.out fun _ _ _ h => h
  have HH3 : Hid (Hdr W3 b hr) := by exact blk_keep HH.out K3.out fun _ h => h
  clear hK3 c3 fz g4 fz3 zc xc hcl K2d X2d Y2d Z2d HNd HHd S2d
  obtain ⟨c0, c1, c2, c3, fz⟩ := blk4 HN3.out.1
  have zc := (blk1 Z3.out).1
  have x6 := hdr_mx HH3.out
  have hne : ((r.items.length : Int) == hr.mx) = false := by simpa using fun h => HF.out h.symm
  clear c0 c1 c3
  go_wp2_with fail
  rw [HQ_normal]
  go_wp2_with fail
  refine wp_calm (by kernel_rfl) (by kernel_rfl) rfl ?_
  simp only [List.flatMap_cons, List.flatMap_nil, checks, chk, nilLit, List.cons_append, List.nil_append, List.append_nil, Try.underlying3]
  go_wp2_with fail
  rw [HQ_normal]
  go_upto_region 19 with (fail)
  refine wp_world ?_
  intro W4 hW4
  have K4 : Hid (Keep Nothing w W4) := by subst hW4; exact K3.out.dr
  have X4 : Hid (W4.heap[q]? = some (.cells (E.enc x).toArray 161 (0, 0))) := by subst hW4; exact X3.out
  have Y4 : Hid (W4.heap[q + 1]? = some (.cells #[.pointer (some ⟨n, 0, none⟩)] 164 (0, 0))) := by subst hW4; exact Y3.out
  have Z4 : Hid (W4.heap[q + 1]? = some (.cells #[.pointer (some ⟨n, 0, none⟩)] 164 (0, 0))) := by subst hW4; exact Z3.out
  have S4 : q + 2 ≤ W4.heap.size := by subst hW4; exact S3
  clear hW4 c2 fz zc x6 hne K3 X3 Y3 Z3 S3 HN3 HH3
  have HN4 : Hid (NodeAt TT E W4 n r L) := by exact HN.out.keep K4.out fun _ _ _ h => h
  have HSC := Lib.hid (HSP.out W4 K4.out)
  obtain ⟨c0, c1, c2, c3, fz⟩ := blk4 HN4.out.1
  rw [HKS.out] at c3
  obtain ⟨g1, g2, g3⟩ := HN4.out.2.2.2 ks HKS.out
  rw [HKA.out] at g1 g2
  obtain ⟨g4, fz3⟩ := blk1 g1
  have zc := (blk1 Z4.out).1
  have kc := g2.cell (i := i) (v := ptr c) (by simp [HIK.out])
  unfold ptr at kc
  simp only [kidsVal, ptr] at c3
  clear c0 c1 c2 g1 g2
  go_wp2_with fail
  unfold ptr at HSC
  refine HSC.out.mono ?_
  rintro e W5 ⟨m, med, rfl, hK5, hN5, hH5, hG5⟩
  have HK5 := Lib.hid hK5
  have HG5 := Lib.hid hG5
  have HN5 := Lib.hid hN5
  have HH5 := Lib.hid hH5
  have X5 : Hid (W5.heap[q]? = some (.cells (E.enc x).toArray 161 (0, 0))) := by exact blk_keep X4.out hK5 fun o h => by have := XQ.out; omega
  have Y5 : Hid (W5.heap[q + 1]? = some (.cells #[.pointer (some ⟨n, 0, none⟩)] 164 (0, 0))) := by exact blk_keep Y4.out hK5 fun o h => by have := XQ.out; omega
  have Z5 : Hid (W5.heap[q + 1]? = some (.cells #[.pointer (some ⟨n, 0, none⟩)] 164 (0, 0))) := by exact blk_keep Z4.out hK5 fun o h => by have := XQ.out; omega
  have S5 : q + 2 ≤ W5.heap.size := by have := hK5.size; omega
  clear hK5 hG5 hN5 hH5 HSC c3 fz g4 fz3 zc kc X4 Y4 Z4 HN4
  unfold ptr pv kv
  go_upto_region 20 with (fail)
  refine wp_world ?_
  intro W6 hW6
  generalize hp : W5.heap.size = p at *
  have K6 : Hid (Keep Nothing W5 W6) := by
    subst hW6; exact (Keep.refl _ _).al _
  have M6 : Hid (W6.heap[p]? = some (.cells (E.enc med).toArray 161 (0, 0))) := by
    subst hW6; subst hp; exact heap_alloc_new W5 _
  have S6 : W6.heap.size = p + 1 := by
    subst hW6; rw [World.size_alloc, hp]
  clear hW6
  have X6 : Hid (W6.heap[q]? = some (.cells (E.enc x).toArray 161 (0, 0))) := by exact blk_keep X5.out K6.out fun o h => h
  have Y6 : Hid (W6.heap[q + 1]? = some (.cells #[.pointer (some ⟨n, 0, none⟩)] 164 (0, 0))) := by exact blk_keep Y5.out K6.out fun o h => h
  have Z6 : Hid (W6.heap[q + 1]? = some (.cells #[.pointer (some ⟨n, 0, none⟩)] 164 (0, 0))) := by exact blk_keep Z5.out K6.out fun o h => h
  have HN6 : Hid (NodeAt TT E W6 n r L) := by exact HN5.out.keep K6.out fun _ _ _ h => h
  clear X5 Y5 Z5
  have HPp := Lib.hid hp
  clear hp
  obtain ⟨c0, c1, c2, c3, fz⟩ := blk4 HN6.out.1
  rw [HKS.out] at c3
  obtain ⟨g1, g2, g3⟩ := HN6.out.2.2.2 ks HKS.out
  rw [HKA.out] at g1 g2
  obtain ⟨g4, fz3⟩ := blk1 g1
  have zc := (blk1 Z6.out).1
  simp only [kidsVal, ptr] at c3
  clear c0 c1 c2 g1 g2
  refine wp_held (fun w' => w'.cell? ⟨q + 1, 0, none⟩ = some (.pointer (some ⟨n, 0, none⟩)) ∧ w'.cell? ⟨n, 3, none⟩ = some (.pointer (some ⟨L.cb, 0, none⟩)) ∧ w'.cell? ⟨L.cb, 0, none⟩ = some (.slice (some ⟨kb, ko, none⟩) ks.length L.kcap)) [0, 3, 4, 7, 9] (by kernel_rfl) (by kernel_rfl) (by kernel_rfl) rfl ⟨zc, c3, g4⟩ ?_
  simp only [segs, readsB, silentB, lenB, checks, List.nil_append]
  go_wp2_with fail
  refine held_world ?_
  intro W7 hW7
  have hqp : q + 1 < p := by have := HPp.out; omega
  have hkbq : kb < q ∧ L.cb < q := by
    obtain ⟨h1, h2, _⟩ := HN.out.2.2.2 ks HKS.out
    rw [HKA.out] at h2
    have h3 := lt_of_heap h2.blk.choose_spec
    have h4 := lt_of_heap h1
    rw [XQ.out] at h3 h4
    exact ⟨h3, h4⟩
  have LC7 : Hid (Lcl W7 q p n x med) := by
    have h6 : Lcl W6 q p n x med := ⟨X6.out, Y6.out, Z6.out, M6.out⟩
    subst hW7
    exact h6.keep (S := Nothing) ((Keep.refl _ _).al _).dr (fun _ _ h => h.elim) hqp
  have K7 : Hid (Keep Nothing W5 W7) := by subst hW7; exact (K6.out.al _).dr
  have HN7 : Hid (NodeAt TT E W7 n r L) := by exact HN5.out.keep K7.out fun _ _ _ h => h
  have N7 : Hid (W7.heap[p + 1]? = some (.cells [Value.pointer none].toArray 164 (0, 0))) := by subst hW7; rw [← S6]; exact heap_alloc_new W6 _
  have S7 : W7.heap.size = p + 2 := by subst hW7; show (W6.alloc _).heap.size = _; rw [World.size_alloc, S6]
  clear hW7 K6 X6 Y6 Z6 M6 HN6 c3 fz g4 fz3 zc
  obtain ⟨c0, c1, c2, c3, fz⟩ := blk4 HN7.out.1
  rw [HKS.out] at c3
  obtain ⟨g1, g2, g3⟩ := HN7.out.2.2.2 ks HKS.out
  rw [HKA.out] at g1 g2
  obtain ⟨g4, fz3⟩ := blk1 g1
  have zc := (blk1 LC7.out.2.2.1).1
  simp only [kidsVal, ptr] at c3
  replace g2 := Lib.hid g2
  clear c0 c1 c2 g1
  refine held_next ⟨zc, c3, g4⟩ ?_
  refine wpList_append_any rfl _ _ _ rfl 164 1 8 Try.underlying173 ⟨by kernel_rfl, by kernel_rfl, by kernel_rfl⟩ (some ⟨kb, ko, none⟩) ks.length L.kcap (ks.map ptr) rfl g2.out (by simp) ⟨p + 1, 0, none⟩ 1 1 [.pointer none] ?_ rfl ?_ (by simp; rfl) (by omega) g3 (by simp only [maxLen]; omega) (by omega) ?_
  · rfl
  · exact new_cells N7.out
  intro ak' kc' W8 hG8
  have GR8 := Lib.hid hG8
  obtain ⟨jb, jo, hja, _⟩ := hG8.row.form (by simp)
  subst hja
  have hjb : jb = kb ∨ jb = p + 2 := by
    rcases hG8.fp jb jo ⟨jb, jo, rfl, rfl, Nat.le_refl _, by have := hG8.cap; omega⟩ with h | ⟨h, _⟩
    · exact .inl (rowFp_some h).1
    · exact .inr (by omega)
  have KG8 : Hid (Keep (fun y _ => y = kb) W7 W8) := by exact hG8.keep.mono fun y o _ ⟨a, b, h, hy, _⟩ => by cases h; exact hy
  obtain ⟨arr7, harr7⟩ := g2.out.blk
  have hkbn : kb ≠ n := (blk_ne HN7.out.1 harr7 ty_ok.b).symm
  have hkbcb : kb ≠ L.cb := blk_ne harr7 (HN7.out.2.2.2 ks HKS.out).1 ty_ok.e
  have B8 : Hid (W8.heap[n]? = some (.cells #[.int .u64 r.iso, .int .i64 r.cnt, .slice L.ia r.items.length L.icap, .pointer (some ⟨L.cb, 0, none⟩)] 172 (0, 0))) := by
    have h1 := HN7.out.1
    rw [HKS.out] at h1
    exact blk_keep h1 KG8.out fun o e => hkbn e.symm
  have C8 : Hid (W8.heap[L.cb]? = some (.cells #[.slice (some ⟨kb, ko, none⟩) ks.length L.kcap] 173 (0, 0))) := by
    have h1 := (HN7.out.2.2.2 ks HKS.out).1
    rw [HKA.out] at h1
    exact blk_keep h1 KG8.out fun o e => hkbcb e.symm
  have LC8 : Hid (Lcl W8 q p n x med) := by exact LC7.out.keep KG8.out (fun y o e => by omega) hqp
  have RI8 : Hid (Row W8 TT.pair TT.s L.ia L.icap (E.all r.items)) := by exact HN7.out.2.1.off KG8.out harr7 ty_ok.f.symm
  clear hG8 c3 fz g4 fz3 zc harr7 arr7
  obtain ⟨c0, c1, c2, c3, fz⟩ := blk4 B8.out
  obtain ⟨g4, fz3⟩ := blk1 C8.out
  have zc := (blk1 LC8.out.2.2.1).1
  clear c0 c1 c2
  refine held_next ⟨zc, c3, g4⟩ ?_
  simp only [Act.put]
  go_wp2_with fail
  refine held_world ?_
  intro W9 hW9
  refine held_end ?_ ?_
  · refine ⟨?_, ?_, ?_, ?_, ?_, trivial⟩
    · exact ⟨.pointer (some ⟨n, 0, none⟩), fun w' hS => by simp [execOp, hS.1, go_sem]⟩
    · exact ⟨.pointer (some ⟨L.cb, 0, none⟩), fun w' hS => by simp [execOp, hS.2.1, go_sem]⟩
    · exact ⟨.pointer (some ⟨n, 0, none⟩), fun w' hS => by simp [execOp, hS.1, go_sem]⟩
    · exact ⟨.pointer (some ⟨L.cb, 0, none⟩), fun w' hS => by simp [execOp, hS.2.1, go_sem]⟩
    · exact ⟨.slice (some ⟨kb, ko, none⟩) ks.length L.kcap, fun w' hS => by simp [execOp, hS.2.2, go_sem]⟩
  have hkc' : ks.length + 1 ≤ kc' := GR8.out.cap
  obtain ⟨arr8, harr8⟩ := GR8.out.row.blk
  have hjn : jb ≠ n := (blk_ne B8.out harr8 ty_ok.b).symm
  have hjcb : jb ≠ L.cb := blk_ne harr8 C8.out ty_ok.e
  have hncb : n ≠ L.cb := blk_ne B8.out C8.out ty_ok.c
  have K9 : Hid (Keep (fp TT n r L) W5 W9) := by
    subst hW9
    refine Keep.set ?_ _ _ _ fun _ => .inr (.inr ⟨by simp [HKS.out], .inl rfl⟩)
    refine (K7.out.mono fun _ _ _ h => h.elim).trans GR8.out.keep fun y o _ h => ?_
    have h2 := grow_row g3 h
    rw [Nat.mul_one] at h2
    exact .inr (.inr ⟨by simp [HKS.out], .inr (by rw [HKA.out]; exact h2)⟩)
  have B9 : Hid (W9.heap[n]? = some (.cells #[.int .u64 r.iso, .int .i64 r.cnt, .slice L.ia r.items.length L.icap, .pointer (some ⟨L.cb, 0, none⟩)] 172 (0, 0))) := by
    subst hW9; exact blk_far _ B8.out hncb
  have C9 : Hid (W9.heap[L.cb]? = some (.cells #[.slice (some ⟨jb, jo, none⟩) (ks.length + 1) kc'] 173 (0, 0))) := by
    subst hW9; exact blk_set _ C8.out
  have KW9 : Hid (Keep (fun y _ => y = L.cb) W8 W9) := by subst hW9; refine (Keep.refl _ _).set _ _ _ ?_; exact fun _ => rfl
  have LC9 : Hid (Lcl W9 q p n x med) := by exact LC8.out.keep KW9.out (fun y o e => by omega) hqp
  have R9 : Hid (Row W9.drew 164 1 (some ⟨jb, jo, none⟩) kc' (ks.map ptr ++ [.pointer none])) := by
    have h1 := GR8.out.row.keep' KW9.out fun y o hf e => hjcb ((rowFp_some hf).1.symm.trans e)
    exact h1.keep (Keep.drew Nothing _) fun _ _ _ h => h
  have hjq : Hid (jb < q ∨ p < jb) := by have := hkbq; unfold Hid; omega
  replace hjb := Lib.hid hjb
  have hfj : Hid (∀ y o, y < W5.heap.size → rowFp (some ⟨jb, jo, none⟩) (kc' * 1) y o → rowFp L.ka L.kcap y o) := by
    intro y o hy hf
    rcases GR8.out.fp y o hf with h | ⟨h, _⟩
    · rw [HKA.out]; rw [Nat.mul_one] at h; exact h
    · have := HPp.out; omega
  have RI9 : Hid (Row W9 TT.pair TT.s L.ia L.icap (E.all r.items)) := by exact RI8.out.off KW9.out C8.out ty_ok.d.symm
  clear RI8
  clear hW9 LC8 C8 B8 c3 fz g4 fz3 zc N7 KW9 K7 KG8 HN7 LC7 g2 harr8 arr8
  obtain ⟨c0, c1, c2, c3, fz⟩ := blk4 B9.out
  obtain ⟨g4, fz3⟩ := blk1 C9.out
  have zc := (blk1 LC9.out.2.2.1).1
  have hcn : ¬ kc' = i := by omega
  have hcn2 : ¬ kc' = i + 1 := by omega
  have hone : Hid (∀ v ∈ ks.map ptr ++ [Value.pointer none], v.oneCell' = true) := by
    intro v hv
    rcases List.mem_append.1 hv with h | h
    · obtain ⟨k, _, rfl⟩ := List.mem_map.1 h; rfl
    · obtain rfl := List.mem_singleton.1 h; rfl
  obtain ⟨rv, W10, hr10, hk10, hrow10⟩ := run_copyRoom (P := Try.prog) W9.drew 173 3 164 1 Try.underlying173 (by kernel_rfl) R9.out (by simp) (Nat.le_of_lt hikl) (some ⟨jb, jo + (i + 1), none⟩) (some ⟨jb, jo + i, none⟩) (fun _ => by simp) (fun _ => by simp) (kc' - (i + 1)) (kc' - i) hone.out
  have HR10 := Lib.hid hr10
  replace hk10 := Lib.hid hk10
  replace hrow10 := Lib.hid hrow10
  clear c0 c1 c2 hr10
  go_wp2_with fail
  refine wp_calm (by kernel_rfl) (by kernel_rfl) rfl ?_
  simp only [List.flatMap_cons, List.flatMap_nil, checks, chk, nilLit, List.cons_append, List.nil_append, List.append_nil, Try.underlying3]
  go_wp2_with fail
  have hr10 := HR10.out
  simp only [Nat.add_sub_add_right] at hr10
  rw [hr10]
  simp only [Result.andThen_ok]
  clear c3 fz g4 fz3 zc hr10 HR10
  have KJ10 : Hid (Keep (fun y _ => y = jb) W9 W10) := by exact ((Keep.refl _ _).dr).trans (hk10.out.mono fun y o _ e => e.1 : Keep (fun y _ => y = jb) W9.drew W10) fun _ _ _ h => h
  have K10 : Hid (Keep (fp TT n r L) W5 W10) := by
    refine K9.out.dr.trans hk10.out fun y o hy e => ?_
    exact .inr (.inr ⟨by simp [HKS.out], .inr (hfj.out y o hy ⟨jb, jo, rfl, e.1, by have := e.2; omega, by have := e.2; omega⟩)⟩)
  have B10 : Hid (W10.heap[n]? = some (.cells #[.int .u64 r.iso, .int .i64 r.cnt, .slice L.ia r.items.length L.icap, .pointer (some ⟨L.cb, 0, none⟩)] 172 (0, 0))) := by exact blk_keep B9.out KJ10.out fun o e => hjn e.symm
  have C10 : Hid (W10.heap[L.cb]? = some (.cells #[.slice (some ⟨jb, jo, none⟩) (ks.length + 1) kc'] 173 (0, 0))) := by exact blk_keep C9.out KJ10.out fun o e => hjcb e.symm
  have LC10 : Hid (Lcl W10 q p n x med) := by exact LC9.out.keep KJ10.out (fun y o e => e ▸ hjq.out) hqp
  have RI10 : Hid (Row W10 TT.pair TT.s L.ia L.icap (E.all r.items)) := by
    obtain ⟨ar, ha⟩ := R9.out.blk
    exact RI9.out.off KJ10.out (show W9.heap[jb]? = _ from ha) ty_ok.f.symm
  clear RI9
  clear K9 B9 C9 LC9 R9 KJ10 hk10 hone
  obtain ⟨c0, c1, c2, c3, fz⟩ := blk4 B10.out
  obtain ⟨g4, fz3⟩ := blk1 C10.out
  have zc := (blk1 LC10.out.2.2.1).1
  have fz5 := hrow10.out.frozen
  obtain ⟨ov, hov⟩ := hrow10.out.there (i := i + 1) (by omega)
  clear c0 c1 c2
  go_wp2_with fail
  rw [HQ_normal]
  go_upto_region 23 with (fail)
  refine wp_world ?_
  intro W11 hW11
  have KJ11 : Hid (Keep (fun y _ => y = jb) W10 W11) := by subst hW11; refine (Keep.refl _ _).set _ _ _ ?_; exact fun _ => rfl
  have K11 : Hid (Keep (fp TT n r L) W5 W11) := by
    subst hW11
    refine K10.out.set _ _ _ fun hy => ?_
    exact .inr (.inr ⟨by simp [HKS.out], .inr (hfj.out jb (jo + (i + 1)) hy ⟨jb, jo, rfl, rfl, by omega, by omega⟩)⟩)
  have R11 : Hid (Row W11 164 1 (some ⟨jb, jo, none⟩) kc' ((ks.take (i + 1) ++ m :: ks.drop (i + 1)).map ptr)) := by
    rw [← ins_kids ks m (.pointer none) hikl]
    subst hW11
    exact hrow10.out.setCell (ptr m) (by simp; omega)
  have B11 : Hid (W11.heap[n]? = some (.cells #[.int .u64 r.iso, .int .i64 r.cnt, .slice L.ia r.items.length L.icap, .pointer (some ⟨L.cb, 0, none⟩)] 172 (0, 0))) := by exact blk_keep B10.out KJ11.out fun o e => hjn e.symm
  have C11 : Hid (W11.heap[L.cb]? = some (.cells #[.slice (some ⟨jb, jo, none⟩) (ks.length + 1) kc'] 173 (0, 0))) := by exact blk_keep C10.out KJ11.out fun o e => hjcb e.symm
  have LC11 : Hid (Lcl W11 q p n x med) := by exact LC10.out.keep KJ11.out (fun y o e => e ▸ hjq.out) hqp
  have RI11 : Hid (Row W11 TT.pair TT.s L.ia L.icap (E.all r.items)) := by
    obtain ⟨ar, ha⟩ := hrow10.out.blk
    exact RI10.out.off KJ11.out ha ty_ok.f.symm
  clear RI10
  clear hW11 K10 B10 C10 LC10 KJ11 hrow10 c3 fz g4 fz3 zc fz5 hov
  have H11 : Hid (Hdr W11 b hr) := by exact blk_keep HH5.out K11.out fun o hf => hdr_apart HH5.out HN5.out hf
  have he := hdr_emp H11.out
  have zc := (blk1 LC11.out.2.2.1).1
  obtain ⟨c0, c1, c2, c3, fz⟩ := blk4 B11.out
  clear c0 c1 c3
  unfold kv at he
  refine wp_held (fun w' => w'.cell? ⟨q + 1, 0, none⟩ = some (.pointer (some ⟨n, 0, none⟩)) ∧ w'.cell? ⟨n, 2, none⟩ = some (.slice L.ia r.items.length L.icap)) [0, 1, 4] (by kernel_rfl) (by kernel_rfl) (by kernel_rfl) rfl ⟨zc, c2⟩ ?_
  simp only [segs, readsB, silentB, lenB, checks, List.nil_append]
  go_wp2_with fail
  refine held_world ?_
  intro W12 hW12
  generalize he0 : W11.heap.size = e0 at *
  have hpe : p < e0 := by rw [← he0]; exact lt_of_heap LC11.out.2.2.2
  have hicap := HN.out.2.2.1
  have KA : Hid (Keep Nothing W11 W12) := by subst hW12; exact ((Keep.refl _ _).al _).dr
  have N12 : Hid (W12.heap[e0]? = some (.cells (E.enc hr.emp).toArray 161 (0, 0))) := by subst hW12; subst he0; exact heap_alloc_new W11 _
  have S12 : W12.heap.size = e0 + 1 := by subst hW12; show (W11.alloc _).heap.size = _; rw [World.size_alloc, he0]
  have B12 : Hid (W12.heap[n]? = some (.cells #[.int .u64 r.iso, .int .i64 r.cnt, .slice L.ia r.items.length L.icap, .pointer (some ⟨L.cb, 0, none⟩)] 172 (0, 0))) := by exact blk_keep B11.out KA.out fun _ h => h
  have C12 : Hid (W12.heap[L.cb]? = some (.cells #[.slice (some ⟨jb, jo, none⟩) (ks.length + 1) kc'] 173 (0, 0))) := by exact blk_keep C11.out KA.out fun _ h => h
  have R12 : Hid (Row W12 164 1 (some ⟨jb, jo, none⟩) kc' ((ks.take (i + 1) ++ m :: ks.drop (i + 1)).map ptr)) := by exact R11.out.keep KA.out fun _ _ _ h => h
  have RI12 : Hid (Row W12 TT.pair TT.s L.ia L.icap (E.all r.items)) := by exact RI11.out.keep KA.out fun _ _ _ h => h
  have LC12 : Hid (Lcl W12 q p n x med) := by exact LC11.out.keep KA.out (fun _ _ h => h.elim) hqp
  have K12 : Hid (Keep (fp TT n r L) W5 W12) := by exact K11.out.trans KA.out fun _ _ _ h => h.elim
  clear hW12 KA B11 C11 R11 RI11 LC11 K11 H11 he zc c2 fz
  have zc := (blk1 LC12.out.2.2.1).1
  obtain ⟨c0, c1, c2, c3, fz⟩ := blk4 B12.out
  clear c0 c1 c3
  refine held_next ⟨zc, c2⟩ ?_
  refine wpList_append_any rfl _ _ _ rfl 161 2 24 Try.underlying169 ⟨by kernel_rfl, by kernel_rfl, by kernel_rfl⟩ L.ia r.items.length L.icap (E.all r.items) rfl RI12.out (E.all_len _) ⟨e0, 0, none⟩ 1 1 (E.enc hr.emp) ?_ (E.len _) ?_ (E.one _) (by omega) hicap (by simp only [maxLen]; omega) (by omega) ?_
  · rfl
  · exact new_cells N12.out
  intro ai' ic' W13 hG
  have GR := Lib.hid hG
  obtain ⟨ib, io, hia, _⟩ := hG.row.form (by rw [List.length_append, E.len]; have := E.pos; omega)
  subst hia
  obtain ⟨fc, hfc⟩ : ∃ f : Unit → Nat, f () = ic' := ⟨fun _ => ic', rfl⟩
  subst hfc
  have hic' : r.items.length + 1 ≤ fc () := hG.cap
  have hrow13 := Lib.hid hG.row
  have KG := Lib.hid hG.keep
  have hRW : Hid (∀ y o, rowFp L.ia (L.icap * TT.s) y o → y < q ∧ y ≠ n ∧ y ≠ L.cb ∧ y ≠ jb) := by
    intro y o hf
    refine ⟨XQ.out ▸ rowFp_lt HN.out.2.1 hf, fun e => ?_, fun e => ?_, fun e => ?_⟩
    · obtain ⟨arr, ha⟩ := RI12.out.block ⟨_, hf⟩
      exact blk_ne B12.out ha ty_ok.a e.symm
    · obtain ⟨arr, ha⟩ := RI12.out.block ⟨_, hf⟩
      exact blk_ne C12.out ha ty_ok.d.symm e.symm
    · obtain ⟨arr, ha⟩ := RI12.out.block ⟨_, hf⟩
      obtain ⟨arr2, ha2⟩ := R12.out.blk
      exact blk_ne ha2 ha ty_ok.f.symm e.symm
  have hGq : Hid (∀ y o, (∃ x z, L.ia = some ⟨x, z, none⟩ ∧ y = x ∧ z + r.items.length * 2 ≤ o ∧ o < z + L.icap * 2) → y < q ∧ y ≠ n ∧ y ≠ L.cb ∧ y ≠ jb) := by
    exact fun y o h => hRW.out y o (grow_row hicap h)
  have hibq : Hid (ib < q ∨ ib = e0 + 1) := by
    rcases hG.fp ib io ⟨ib, io, rfl, rfl, Nat.le_refl _, by omega⟩ with h | ⟨h, _⟩
    · exact .inl (hRW.out ib io h).1
    · exact .inr (by omega)
  have hfi : Hid (∀ y o, y < W5.heap.size → rowFp (some ⟨ib, io, none⟩) (fc () * TT.s) y o → rowFp L.ia (L.icap * TT.s) y o) := by
    intro y o hy hf
    rcases hG.fp y o hf with h | ⟨h, _⟩
    · exact h
    · have := HPp.out; omega
  have B13 : Hid (W13.heap[n]? = some (.cells #[.int .u64 r.iso, .int .i64 r.cnt, .slice L.ia r.items.length L.icap, .pointer (some ⟨L.cb, 0, none⟩)] 172 (0, 0))) := by exact blk_keep B12.out KG.out fun o e => (hGq.out n o e).2.1 rfl
  have C13 : Hid (W13.heap[L.cb]? = some (.cells #[.slice (some ⟨jb, jo, none⟩) (ks.length + 1) kc'] 173 (0, 0))) := by exact blk_keep C12.out KG.out fun o e => (hGq.out _ o e).2.2.1 rfl
  have R13 : Hid (Row W13 164 1 (some ⟨jb, jo, none⟩) kc' ((ks.take (i + 1) ++ m :: ks.drop (i + 1)).map ptr)) := by
    exact R12.out.keep' KG.out fun y o hf e => (hGq.out y o e).2.2.2 (rowFp_some hf).1
  have LC13 : Hid (Lcl W13 q p n x med) := by exact LC12.out.keep KG.out (fun y o e => .inl (hGq.out y o e).1) hqp
  have K13 : Hid (Keep (fp TT n r L) W5 W13) := by exact K12.out.trans KG.out fun y o _ h => .inr (.inl (grow_row hicap h))
  clear hG N12 B12 C12 R12 RI12 LC12 K12 zc c2 fz KG
  have zc := (blk1 LC13.out.2.2.1).1
  obtain ⟨c0, c1, c2, c3, fz⟩ := blk4 B13.out
  clear c0 c1 c3
  refine held_next ⟨zc, c2⟩ ?_
  simp only [Act.put]
  go_wp2_with fail
  refine held_world ?_
  intro W14 hW14
  refine held_end ?_ ?_
  · refine ⟨?_, ?_, ?_, trivial⟩
    · exact ⟨.pointer (some ⟨n, 0, none⟩), fun w' hS => by simp [execOp, hS.1, go_sem]⟩
    · exact ⟨.pointer (some ⟨n, 0, none⟩), fun w' hS => by simp [execOp, hS.1, go_sem]⟩
    · exact ⟨.slice L.ia r.items.length L.icap, fun w' hS => by simp [execOp, hS.2, go_sem]⟩
  obtain ⟨arr13, harr13⟩ := hrow13.out.blk
  have hin : ib ≠ n := (blk_ne B13.out harr13 ty_ok.a).symm
  have hicb : ib ≠ L.cb := blk_ne harr13 C13.out ty_ok.d
  have hij : ib ≠ jb := by
    obtain ⟨ar, ha⟩ := R13.out.blk
    exact blk_ne harr13 ha ty_ok.f
  have KW14 : Hid (Keep (fun y _ => y = n) W13 W14) := by subst hW14; refine (Keep.refl _ _).set _ _ _ ?_; exact fun _ => rfl
  have B14 : Hid (W14.heap[n]? = some (.cells #[.int .u64 r.iso, .int .i64 r.cnt, .slice (some ⟨ib, io, none⟩) (r.items.length + 1) (fc ()), .pointer (some ⟨L.cb, 0, none⟩)] 172 (0, 0))) := by
    subst hW14; exact blk_set _ B13.out
  have C14 : Hid (W14.heap[L.cb]? = some (.cells #[.slice (some ⟨jb, jo, none⟩) (ks.length + 1) kc'] 173 (0, 0))) := by exact blk_keep C13.out KW14.out fun o e => hncb e.symm
  have R14 : Hid (Row W14 164 1 (some ⟨jb, jo, none⟩) kc' ((ks.take (i + 1) ++ m :: ks.drop (i + 1)).map ptr)) := by exact R13.out.keep' KW14.out fun y o hf e => hjn ((rowFp_some hf).1.symm.trans e)
  have LC14 : Hid (Lcl W14 q p n x med) := by exact LC13.out.keep KW14.out (fun y o e => .inl (e ▸ hnw)) hqp
  have K14 : Hid (Keep (fp TT n r L) W5 W14) := by exact K13.out.trans KW14.out fun y o _ h => .inl h
  have RI14 : Hid (Row W14 TT.pair TT.s (some ⟨ib, io, none⟩) (fc ()) (E.all r.items ++ E.enc hr.emp)) := by
    exact hrow13.out.keep' KW14.out fun y o hf e => hin ((rowFp_some hf).1.symm.trans e)
  clear hW14 KW14 B13 C13 R13 LC13 K13 hrow13 harr13 arr13 zc c2 fz
  have hil : i ≤ r.items.length := HLOC.out.1
  obtain ⟨c0, c1, c2, c3, fz⟩ := blk4 B14.out
  have zc := (blk1 LC14.out.2.2.1).1
  have hcn3 : ¬ (fc ()) = i := by omega
  have hxs : Hid ((E.all r.items ++ E.enc hr.emp).length = (r.items.length + 1) * 2) := by
    have : (E.all r.items ++ E.enc hr.emp).length = (r.items.length + 1) * 2 := by rw [List.length_append, E.all_len, E.len, Nat.add_mul, Nat.one_mul]; rfl
    exact this
  have hone : Hid (∀ v ∈ E.all r.items ++ E.enc hr.emp, v.oneCell' = true) := by
    intro v hv
    rcases List.mem_append.1 hv with h | h
    · unfold Enc.all at h
      obtain ⟨y, _, hy⟩ := List.mem_flatMap.1 h
      exact E.one y v hy
    · exact E.one _ v h
  have R14d : Hid (Row W14.drew 161 2 (some ⟨ib, io, none⟩) (fc ()) (E.all r.items ++ E.enc hr.emp)) := by exact RI14.out.keep (Keep.drew Nothing _) fun _ _ _ h => h
  clear c0 c1 c3
  go_wp2_with fail
  refine wp_calm (by kernel_rfl) (by kernel_rfl) rfl ?_
  simp only [List.flatMap_cons, List.flatMap_nil, checks, chk, nilLit, List.cons_append, List.nil_append, List.append_nil, Try.underlying3]
  go_wp2_with fail
  case' inl =>
    obtain ⟨rv, W15, hr7, hk7, hrow7⟩ := run_copyRoom (P := Try.prog) W14.drew 169 3 161 2 Try.underlying169 (by kernel_rfl) R14d.out hxs.out hil (some ⟨ib, io, none⟩) (some ⟨ib, io + i * 2, none⟩) (fun h => absurd h (by omega)) (fun h => absurd h (by omega)) 0 1 hone.out
    simp only [Nat.add_sub_add_right] at hr7
    rw [hr7]
  case' inr =>
    obtain ⟨rv, W15, hr7, hk7, hrow7⟩ := run_copyRoom (P := Try.prog) W14.drew 169 3 161 2 Try.underlying169 (by kernel_rfl) R14d.out hxs.out hil (some ⟨ib, io + (i + 1) * 2, none⟩) (some ⟨ib, io + i * 2, none⟩) (fun _ => by simp) (fun _ => by simp) (fc () - (i + 1)) (fc () - i) hone.out
    simp only [Nat.add_sub_add_right] at hr7
    rw [hr7]
  all_goals
    simp only [Result.andThen_ok]
    replace hrow7 := Lib.hid hrow7
    have KJ15 : Hid (Keep (fun y _ => y = ib) W14 W15) := by exact ((Keep.refl _ _).dr).trans (hk7.mono fun y o _ e => e.1 : Keep (fun y _ => y = ib) W14.drew W15) fun _ _ _ h => h
    have K15 : Hid (Keep (fp TT n r L) W5 W15) := by
      refine K14.out.dr.trans hk7 ?_
      rintro y o hy ⟨rfl, h1, h2⟩
      exact .inr (.inl (hfi.out y o hy ⟨y, io, rfl, rfl, by omega, by simp only [TT, E] at *; omega⟩))
    clear hr7 zc c2 fz hk7
    have B15 : Hid (W15.heap[n]? = some (.cells #[.int .u64 r.iso, .int .i64 r.cnt, .slice (some ⟨ib, io, none⟩) (r.items.length + 1) (fc ()), .pointer (some ⟨L.cb, 0, none⟩)] 172 (0, 0))) := by exact blk_keep B14.out KJ15.out fun o e => hin e.symm
    have C15 : Hid (W15.heap[L.cb]? = some (.cells #[.slice (some ⟨jb, jo, none⟩) (ks.length + 1) kc'] 173 (0, 0))) := by exact blk_keep C14.out KJ15.out fun o e => hicb e.symm
    have R15 : Hid (Row W15 164 1 (some ⟨jb, jo, none⟩) kc' ((ks.take (i + 1) ++ m :: ks.drop (i + 1)).map ptr)) := by exact R14.out.keep' KJ15.out fun y o hf e => hij (e.symm.trans (rowFp_some hf).1)
    have LC15 : Hid (Lcl W15 q p n x med) := by exact LC14.out.keep KJ15.out (fun y o e => by have := hibq.out; omega) hqp
    have hxl : Hid ((E.all r.items ++ E.enc hr.emp).length = (r.items.length + 1) * 2) := by exact hxs.out
    clear K14 B14 C14 R14 LC14 RI14 R14d hxs KJ15
    obtain ⟨c0, c1, c2, c3, fz⟩ := blk4 B15.out
    have zc := (blk1 LC15.out.2.2.1).1
    have xc : W15.cell? ⟨p, 0, none⟩ = some (.int .i64 med.2) := by have := LC15.out.2.2.2; simp only [World.cell?, this]; rfl
    have xc1 : W15.cell? ⟨p, 1, none⟩ = some (.string (ky med)) := by have := LC15.out.2.2.2; simp only [World.cell?, this]; rfl
    have fz2 := hrow7.out.frozen
    obtain ⟨ov, hov⟩ := hrow7.out.there (i := i * 2) (by omega)
    obtain ⟨ov1, hov1⟩ := hrow7.out.there (i := i * 2 + 1) (by omega)
    rw [← Nat.add_assoc] at hov1
    clear c0 c1 c3
    go_wp2_with fail
    rw [HQ_normal]
    go_wp2_with fail
    refine wp_calm (by kernel_rfl) (by kernel_rfl) rfl ?_
    simp only [List.flatMap_cons, List.flatMap_nil, checks, chk, nilLit, List.cons_append, List.nil_append, List.append_nil]
    go_wp2_with fail
    rw [HQ_normal]
    go_upto_region 26 with (fail)
    refine wp_world ?_
    intro W16 hW16
    have RI16 : Hid (Row W16 TT.pair TT.s (some ⟨ib, io, none⟩) (fc ()) (E.all (r.items.take i ++ med :: r.items.drop i))) := by
      have h1 := hrow7.out.setCells (E.enc med) (k := i * 2) (by
        have := hxl.out
        rw [E.len]
        simp only [List.length_append, List.length_take, List.length_drop, E.len, E.all_len] at *
        simp only [E] at *
        omega)
      have h2 := ins_cells E r.items med (E.enc hr.emp) hil (E.len _)
      simp only [show E.s = 2 from rfl] at h2
      rw [← h2]
      subst hW16
      exact h1.keep (Keep.drew Nothing _) fun _ _ _ h => h
    have KJ16 : Hid (Keep (fun y _ => y = ib) W15 W16) := by
      subst hW16; refine (((Keep.refl _ _).set _ _ _ ?_).set _ _ _ ?_).dr <;> exact fun _ => rfl
    have K16 : Hid (Keep (fp TT n r L) W5 W16) := by
      have hS : ∀ o, io + i * 2 ≤ o → o < io + (i + 1) * 2 → ib < W5.heap.size → fp TT n r L ib o := fun o h1 h2 hy => .inr (.inl (hfi.out ib o hy ⟨ib, io, rfl, rfl, by omega, by simp only [TT, E] at *; omega⟩))
      subst hW16
      exact ((K15.out.set _ _ _ (hS _ (by omega) (by omega))).set _ _ _ (hS _ (by omega) (by omega))).dr
    have B16 : Hid (W16.heap[n]? = some (.cells #[.int .u64 r.iso, .int .i64 r.cnt, .slice (some ⟨ib, io, none⟩) (r.items.length + 1) (fc ()), .pointer (some ⟨L.cb, 0, none⟩)] 172 (0, 0))) := by exact blk_keep B15.out KJ16.out fun o e => hin e.symm
    have C16 : Hid (W16.heap[L.cb]? = some (.cells #[.slice (some ⟨jb, jo, none⟩) (ks.length + 1) kc'] 173 (0, 0))) := by exact blk_keep C15.out KJ16.out fun o e => hicb e.symm
    have R16 : Hid (Row W16 164 1 (some ⟨jb, jo, none⟩) kc' ((ks.take (i + 1) ++ m :: ks.drop (i + 1)).map ptr)) := by exact R15.out.keep' KJ16.out fun y o hf e => hij (e.symm.trans (rowFp_some hf).1)
    have LC16 : Hid (Lcl W16 q p n x med) := by exact LC15.out.keep KJ16.out (fun y o e => by have := hibq.out; omega) hqp
    clear hW16 KJ16 K15 B15 C15 R15 LC15 hrow7 zc c2 fz xc fz2 hov xc1 hov1
    have H16 : Hid (Hdr W16 b hr) := by exact blk_keep HH5.out K16.out fun o hf => hdr_apart HH5.out HN5.out hf
    have hlk : (ks.take (i + 1) ++ m :: ks.drop (i + 1)).length = ks.length + 1 := by simp; omega
    have hli : (r.items.take i ++ med :: r.items.drop i).length = r.items.length + 1 := by simp; omega
    have MID : Hid (Mid W5 W16 n r L ks i m med ⟨some ⟨ib, io, none⟩, fc (), L.cb, some ⟨jb, jo, none⟩, kc'⟩) := by
      refine ⟨K16.out, ⟨?_, RI16.out, ?_, ?_⟩, ?_⟩
      · simp only [grown, hli]; exact B16.out
      · simp only [grown, hli]; omega
      · intro ks2 hk2
        cases hk2
        simp only [hlk]
        exact ⟨C16.out, R16.out, by omega⟩
      · rintro y o hy (hf | hf | ⟨_, hf | hf⟩)
        · exact .inl hf
        · exact .inr (.inl (hfi.out y o hy hf))
        · exact .inr (.inr ⟨by simp [HKS.out], .inl hf⟩)
        · exact .inr (.inr ⟨by simp [HKS.out], .inr (hfj.out y o hy (by rw [Nat.mul_one]; exact hf))⟩)
    have zc := (blk1 LC16.out.2.2.1).1
    have xc : W16.cell? ⟨q, 0, none⟩ = some (.int .i64 x.2) := by have := LC16.out.1; simp only [World.cell?, this]; rfl
    have xc1 : W16.cell? ⟨q, 1, none⟩ = some (.string (ky x)) := by have := LC16.out.1; simp only [World.cell?, this]; rfl
    have hag := HAG.out W4 m med W5 W16 _ (q + 1) K4.out HG5.out MID.out (by omega) zc H16.out
    clear B16 C16 R16 RI16
    go_wp2_with fail
    refine hag.mono ?_
    rintro e W17 ⟨hR, ⟨y, rep, sp, rfl⟩, hK17⟩
    have Y17 : Hid (W17.heap[q + 1]? = some (.cells #[.pointer (some ⟨n, 0, none⟩)] 164 (0, 0))) := by exact blk_keep LC16.out.2.1 hK17 fun o e => by have := XQ.out; omega
    replace hR := Lib.hid hR
    clear hag hK17 zc xc xc1
    unfold vv
    go_wp2_with fail
    go_ret3
    exact ⟨W4, m, med, W5, W16, _, W17, K4.out, HG5.out, MID.out, hR.out, Keep.refl _ _⟩
end Go.Proofs.Ytckplcmieelmpaa.W

namespace Go.Wb
open Go Go.RowKit
variable {α : Type} {T : Ty} {E : Enc α}

theorem Mem.keepS {w W : World} {H : Store α} {L : Nat → Lay} {S : Nat → Nat → Prop} (hm : Mem T E w H L) (hk : Keep S w W) (hS : ∀ n r b o, H n = some r → fp T n r (L n) b o → ¬ S b o) : Mem T E W H L :=
  ⟨fun n r hr => (hm.at_ n r hr).keep hk fun b o hf => hS n r b o hr hf, hm.sep⟩

theorem Step.pre {w W w' : World} {H H' : Store α} {L L' : Nat → Lay} {F F' : List Nat} (hk : Keep (fun _ _ => False) w W) (h : Step T E W H L F w' H' L' F') : Step T E w H L F w' H' L' F' :=
  ⟨h.mem, hk.mono (fun _ _ _ h => h.elim) |>.trans h.keep fun _ _ _ h => h, h.out, fun m hm => (h.new m hm).imp id fun h1 => Nat.le_trans hk.size h1, fun b o hb hf => h.fp b o (Nat.lt_of_lt_of_le hb hk.size) hf, h.only⟩

/-- Behind a step one of its nodes is laid anew; blocks X that are no nodes' and weren't there at the begin may turn, too. -/
theorem Step.then {w W' w' : World} {H H' : Store α} {L L' : Nat → Lay} {F F1 : List Nat} (hm0 : Mem T E w H L) (h : Step T E w H L F W' H' L' F1) {n : Nat} {r r' : NRec α} {l' : Lay} (hn : n ∈ F1) (hr : H' n = some r) {X : Nat → Nat → Prop}
    (hk : Keep (fun b o => Wb.fp T n r (L' n) b o ∨ X b o) W' w') (hX : ∀ b o, X b o → w.heap.size ≤ b) (hXd : ∀ m q, H' m = some q → ∀ b o, Wb.fp T m q (L' m) b o → ¬ X b o)
    (hat : NodeAt T E w' n r' l') (hfp : ∀ b o, b < W'.heap.size → Wb.fp T n r' l' b o → Wb.fp T n r (L' n) b o) : Step T E w H L F w' (upd H' n (some r')) (upd L' n l') F1 := by
  have far : ∀ m q, m ≠ n → H' m = some q → ∀ b o, Wb.fp T n r' l' b o → Wb.fp T m q (L' m) b o → False := fun m q hne hq b o hf1 hf2 => by
    have hb := (h.mem.at_ m q hq).lt hf2
    exact h.mem.sep n m r q (fun e => hne e.symm) hr hq b o (hfp b o hb hf1) hf2
  refine ⟨⟨fun m q hq => ?_, fun a b p q hne ha hb x o hf1 hf2 => ?_⟩, ?_, fun m hmF q hq => ?_, h.new, fun b o hb hf => ?_, fun m q hq => ?_⟩
  · by_cases e : m = n
    · subst e
      rw [upd_same] at hq ⊢
      cases hq
      exact hat
    · rw [upd_ne _ _ e] at hq ⊢
      refine (h.mem.at_ m q hq).keep hk fun b o hf hS => ?_
      rcases hS with hS | hS
      · exact h.mem.sep n m r q (fun e' => e e'.symm) hr hq b o hS hf
      · exact hXd m q hq b o hf hS
  · by_cases ea : a = n <;> by_cases eb : b = n
    · exact hne (ea.trans eb.symm)
    · subst ea
      rw [upd_same] at ha hf1
      rw [upd_ne _ _ eb] at hb hf2
      cases ha
      exact far b q eb hb x o hf1 hf2
    · subst eb
      rw [upd_same] at hb hf2
      rw [upd_ne _ _ ea] at ha hf1
      cases hb
      exact far a p ea ha x o hf2 hf1
    · rw [upd_ne _ _ ea] at ha hf1
      rw [upd_ne _ _ eb] at hb hf2
      exact h.mem.sep a b p q hne ha hb x o hf1 hf2
  · refine h.keep.trans hk fun b o hb hS => ?_
    rcases hS with hS | hS
    · exact h.fp b o hb ⟨n, r, hn, hr, hS⟩
    · have := hX b o hS; omega
  · obtain ⟨h1, h2⟩ := h.out m hmF q hq
    have e : m ≠ n := by
      rintro rfl
      rcases h.new m hn with h3 | h3
      · exact hmF h3
      · have := hm0.lt hq; omega
    exact ⟨by rw [upd_ne _ _ e]; exact h1, by rw [upd_ne _ _ e]; exact h2⟩
  · obtain ⟨m, q, hmF, hq, hf⟩ := hf
    have hbW : b < W'.heap.size := Nat.lt_of_lt_of_le hb h.keep.size
    by_cases e : m = n
    · subst e
      rw [upd_same] at hq hf
      cases hq
      exact h.fp b o hb ⟨m, r, hn, hr, hfp b o hbW hf⟩
    · rw [upd_ne _ _ e] at hq hf
      exact h.fp b o hb ⟨m, q, hmF, hq, hf⟩
  · by_cases e : m = n
    · exact .inl (e ▸ hn)
    · rw [upd_ne _ _ e] at hq ⊢
      exact h.only m q hq

/-- What a step's nodes take is old or new: none of what came before the step began. -/
theorem Step.clear {w W w' : World} {H H' : Store α} {L L' : Nat → Lay} {F F' : List Nat} (hm0 : Mem T E w H L) (_hk : Keep (fun _ _ => False) w W) (h : Step T E W H L F w' H' L' F') :
    ∀ m q, H' m = some q → ∀ b o, Wb.fp T m q (L' m) b o → ¬ (w.heap.size ≤ b ∧ b < W.heap.size) := fun m q hq b o hf ⟨h1, h2⟩ => by
  rcases h.only m q hq with hF | ⟨_, h4, h5⟩
  · obtain ⟨k, p, _, hp, hfp⟩ := h.fp b o h2 ⟨m, q, hF, hq, hf⟩
    have := (hm0.at_ k p hp).lt hfp
    omega
  · rw [h5] at hf
    have := (hm0.at_ m q h4).lt hf
    omega

/-- A node becomes two. -/
theorem Step.two {w w' : World} {H : Store α} {L : Nat → Lay} (hm : Mem T E w H L) {n m : Nat} {r r1 r2 : NRec α} {l1 l2 : Lay} (hn : H n = some r) (hmw : w.heap.size ≤ m)
    (hk : Keep (Wb.fp T n r (L n)) w w') (h1 : NodeAt T E w' n r1 l1) (h2 : NodeAt T E w' m r2 l2)
    (f1 : ∀ b o, Wb.fp T n r1 l1 b o → Wb.fp T n r (L n) b o) (f2 : ∀ b o, Wb.fp T m r2 l2 b o → Wb.fp T n r (L n) b o ∨ w.heap.size ≤ b) (f3 : ∀ b o, Wb.fp T n r1 l1 b o → Wb.fp T m r2 l2 b o → False) :
    Step T E w H L [n] w' (upd (upd H n (some r1)) m (some r2)) (upd (upd L n l1) m l2) [n, m] := by
  have hnw := hm.lt hn
  have hne : n ≠ m := by omega
  have hmn : H m = none := by
    cases h : H m with
    | none => rfl
    | some q => have := hm.lt h; omega
  have en : upd (upd H n (some r1)) m (some r2) n = some r1 := by rw [upd_ne _ _ hne, upd_same]
  have el : upd (upd L n l1) m l2 n = l1 := by rw [upd_ne _ _ hne, upd_same]
  refine Step.mk' hm (hk.mono fun b o _ hf => ⟨n, r, by simp, hn, hf⟩) (fun k e1 e2 => ?_) (fun k e1 e2 => ?_) (fun k e1 e2 => ?_) (fun k e => ?_) (fun k q e hq => ?_) (fun k q b o e hq hb hf => ?_) (fun a b p q ea eb hab hp hq x o g1 g2 => ?_)
  · simp at e1 e2
    exact ⟨by rw [upd_ne _ _ e2.2, upd_ne _ _ e1], by rw [upd_ne _ _ e2.2, upd_ne _ _ e1]⟩
  · simp at e1 e2
    rcases e1 with rfl | rfl
    · exact absurd rfl e2
    · exact hmn
  · simp at e1 e2
    exact absurd e1 e2.1
  · simp at e
    rcases e with rfl | rfl
    · exact .inl (by simp)
    · exact .inr hmw
  · simp at e
    rcases e with rfl | rfl
    · rw [en] at hq; cases hq; rw [el]; exact h1
    · rw [upd_same] at hq ⊢; cases hq; exact h2
  · simp at e
    rcases e with rfl | rfl
    · rw [en] at hq; cases hq; rw [el] at hf; exact ⟨k, r, by simp, hn, f1 b o hf⟩
    · rw [upd_same] at hq hf
      cases hq
      rcases f2 b o hf with h | h
      · exact ⟨n, r, by simp, hn, h⟩
      · omega
  · simp at ea eb
    rcases ea with rfl | rfl <;> rcases eb with rfl | rfl
    · exact hab rfl
    · rw [en] at hp; rw [upd_same] at hq g2; rw [el] at g1; cases hp; cases hq; exact f3 x o g1 g2
    · rw [en] at hq; rw [upd_same] at hp g1; rw [el] at g2; cases hp; cases hq; exact f3 x o g2 g1
    · exact hab rfl
end Go.Wb

namespace Go.Proofs.Ytckplcmieelmpaa.W
open Go.RowKit Go.Wb

/-- What is given where an item is set below a node. -/
structure SetPre (w : World) (b : Nat) (hr : HRec) (pb po n : Nat) (H : Store It) (L : Nat → Lay) (h : Nat) (t : Tr It) (F : List Nat) (mn mx : Nat) : Prop where
  hdr : Hdr w b hr
  cell : w.cell? ⟨pb, po, none⟩ = some (ptr n)
  mem : Mem TT E w H L
  rep : Rep H hr.iso h n t F
  nd : F.Nodup
  wf : wfr 0 mn mx h t
  srt : Sorted ilt (flat h t)
  hmx : hr.mx = (mx : Int)
  h3 : 3 ≤ mx
  hb : mx ≤ 1000000000000
  hmn : mn ≤ mx / 2 ∧ mn + mx / 2 + 1 ≤ mx
  big : (flat h t).length ≤ 3000000000000000000

/-- Setting asks for a split. -/
def Asks (mx : Nat) : Nat → Tr It → Ky → Prop
  | 0, t, k => t.its.length = mx ∧ ∃ i, Loc t.its k i false
  | h + 1, t, k => t.its.length = mx ∧ ∃ i c, Loc t.its k i false ∧ t.ks[i]? = some c ∧ Asks mx h c k
theorem Asks.full {mx h : Nat} {t : Tr It} {k : Ky} (a : Asks mx h t k) : t.its.length = mx := by
  cases h with
  | zero => exact a.1
  | succ h => exact a.1
theorem Asks.loc {mx h : Nat} {t : Tr It} {k : Ky} (a : Asks mx h t k) : ∃ i, Loc t.its k i false := by
  cases h with
  | zero => exact a.2
  | succ h => obtain ⟨_, i, c, h1, _⟩ := a; exact ⟨i, h1⟩

/-- What setting leaves. -/
def SetPost (w : World) (H : Store It) (L : Nat → Lay) (F : List Nat) (iso : Int) (mn mx h n : Nat) (t : Tr It) (x ep : It) (e : Ending) (w' : World) : Prop :=
  (Asks mx h t (ky x) ∧ AskPost w ep e w') ∨
  ¬ Asks mx h t (ky x) ∧ ∃ p t' F' H' L', e = .returned (.tuple #[vv (Option.getD p ep), .bool p.isSome, .bool false]) ∧ Step TT E w H L F w' H' L' F' ∧ Rep H' iso h n t' F' ∧ F'.Nodup ∧ wfr t.its.length mn mx h t' ∧ Put ilt (flat h t) x (flat h t') p

theorem loc_found {its : List It} {k : Ky} {i : Nat} (hs : Sorted ilt its) (h : Loc its k i true) : ∃ A y B, its = A ++ y :: B ∧ A.length = i ∧ its[i]? = some y ∧ klt (ky y) k = false ∧ klt k (ky y) = false ∧
    (∀ a ∈ A, klt (ky a) k = true) ∧ ∀ b ∈ B, klt k (ky b) = true := by
  obtain ⟨_, y, hy, h1, h2⟩ := h
  obtain ⟨hil, _⟩ := List.getElem?_eq_some_iff.1 hy
  obtain ⟨A, y', B, rfl, rfl, hy'⟩ := split_at its i hil
  obtain rfl : y = y' := by rw [hy] at hy'; exact Option.some.inj hy'
  obtain ⟨_, hB, hAB⟩ := Sorted.of_append hs
  refine ⟨A, y, B, rfl, rfl, hy, h2, h1, fun a ha => ?_, fun b hb => ?_⟩
  · exact klt_of_eq h2 h1 (hAB a ha y (by simp))
  · exact klt_of_eq' h2 h1 ((List.pairwise_cons.1 hB).1 b hb)

theorem loc_none {its : List It} {k : Ky} {i : Nat} (h : Loc its k i false) : (∀ a ∈ its.take i, klt (ky a) k = true) ∧ ∀ b ∈ its.drop i, klt k (ky b) = true := by
  obtain ⟨hi, h1, h2⟩ := h
  refine ⟨fun a ha => ?_, fun b hb => ?_⟩
  · obtain ⟨j, hj⟩ := List.mem_iff_getElem?.1 ha
    rw [List.getElem?_take] at hj
    split at hj
    · exact h1 j a ‹_› hj
    · cases hj
  · obtain ⟨j, hj⟩ := List.mem_iff_getElem?.1 hb
    rw [List.getElem?_drop] at hj
    exact h2 (i + j) b (by omega) hj

/-- Setting in a leaf. -/
theorem set_zero {w : World} {b : Nat} {hr : HRec} {pb po n : Nat} {H : Store It} {L : Nat → Lay} {t : Tr It} {F : List Nat} {mn mx : Nat} (P : SetPre w b hr pb po n H L 0 t F mn mx) (x : It) :
    Calls Try.prog 124 #[ptr b, .pointer (some ⟨pb, po, none⟩), pv x] w (SetPost w H L F hr.iso mn mx 0 n t x hr.emp) := by
  obtain ⟨hdr, cell, mem, rep, nd, wf, srt, hmx, h3, hb, hmn, big⟩ := P
  obtain ⟨r, hr1, hiso, hits, hks0, hkn, hcnt, rfl⟩ := rep
  have hat := mem.at_ n r hr1
  have hwl := wf.2.1
  obtain ⟨i, f, hloc⟩ := Loc.ex (ky x) t.its srt
  rw [← hits] at hloc
  have hs : Sorted ilt r.items := by rw [hits]; exact srt
  have hlen : r.items.length ≤ 1000000000000 := by rw [hits]; omega
  obtain ⟨its, ks⟩ := t
  simp only [Tr.its, Tr.ks] at *
  subst hits
  subst hks0
  cases f with
  | true =>
    obtain ⟨A, y, B, hits2, hA, hy, h1, h2, hlA, hlB⟩ := loc_found hs hloc
    refine (set_found hdr cell hat hiso hlen hs hloc hy).mono ?_
    rintro e w' ⟨rfl, hk, hat'⟩
    have hset : r.items.set i x = A ++ x :: B := by rw [hits2, ← hA]; simp
    have st := Step.one mem hr1 hk hat' fun c o _ hf => hf
    refine .inr ⟨fun a => (by obtain ⟨j, hj⟩ := a.loc; cases (Loc.uniq hs hloc hj).2), some y, .node (r.items.set i x) [], [n], _, _, rfl, st, ⟨_, upd_same _ _ _, hiso, rfl, rfl, hkn, ?_, rfl⟩, by simp, ⟨by simp [Tr.its], by simp [Tr.its]; omega, rfl⟩, ?_⟩
    · simp only [flat, Tr.its, List.length_set] at hcnt ⊢; exact hcnt
    · exact ⟨A, B, hits2, hset, h1, h2, hlA, hlB⟩
  | false =>
    obtain ⟨hA, hB⟩ := loc_none hloc
    by_cases hfull : hr.mx = r.items.length
    · refine (set_full hdr cell hat hiso hlen hs hloc hkn hfull).mono ?_
      rintro e w' ⟨rfl, hk⟩
      exact .inl ⟨⟨by simp only [Tr.its]; omega, i, hloc⟩, ⟨rfl, hk⟩⟩
    · simp only [flat, Tr.its] at hcnt big
      refine (set_leaf hdr cell hat hiso hlen hs hloc hkn hfull (by omega) (by omega)).mono ?_
      rintro e w' ⟨rfl, hk, L', hat', hfp⟩
      have st := Step.one mem hr1 hk hat' hfp
      have hil := hloc.1
      refine .inr ⟨fun a => hfull (by have := a.full; simp only [Tr.its] at this; omega), none, .node (r.items.take i ++ x :: r.items.drop i) [], [n], _, _, rfl, st, ⟨_, upd_same _ _ _, hiso, rfl, rfl, hkn, ?_, rfl⟩, by simp, ⟨?_, ?_, rfl⟩, ?_⟩
      · simp only [flat, Tr.its, List.length_append, List.length_cons, List.length_take, List.length_drop]; omega
      · simp only [Tr.its, List.length_append, List.length_cons, List.length_take, List.length_drop]; omega
      · simp only [Tr.its, List.length_append, List.length_cons, List.length_take, List.length_drop]; omega
      · exact ⟨r.items.take i, r.items.drop i, by simp [flat, Tr.its], rfl, hA, hB⟩
end Go.Proofs.Ytckplcmieelmpaa.W

namespace Go.Wb
variable {α : Type}

/-- One item of an inner node: what is around it. -/
theorem flat_item {h : Nat} {A B : List α} {y : α} {ks : List (Tr α)} (hk : ks.length = (A ++ y :: B).length + 1) : ∃ C D, ∀ z, flat (h + 1) (.node (A ++ z :: B) ks) = C ++ z :: D := by
  simp only [List.length_append, List.length_cons] at hk
  obtain ⟨K1, k, K2, rfl, hK1, _⟩ := split_at ks A.length (by omega)
  simp only [List.length_append, List.length_cons] at hk
  cases K2 with
  | nil => simp at hk; omega
  | cons k' K2 =>
    refine ⟨wl (K1.map (flat h)) A ++ flat h k, flat h k' ++ wr B (K2.map (flat h)), fun z => ?_⟩
    simp only [flat, Tr.its, Tr.ks, List.map_append, List.map_cons]
    rw [wl_wr _ _ _ _ _ (by simpa using hK1)]
    simp [wr]

/-- A child's length is at most that of the whole. -/
theorem flat_child_le {h : Nat} {I1 I2 : List α} {K1 K2 : List (Tr α)} {k : Tr α} (h1 : K1.length = I1.length) : (flat h k).length ≤ (flat (h + 1) (.node (I1 ++ I2) (K1 ++ k :: K2))).length := by
  simp only [flat, Tr.its, Tr.ks, List.map_append, List.map_cons]
  rw [wl_wr _ _ _ _ _ (by simpa using h1)]
  simp only [List.length_append]
  omega

/-- The whole's length by that of the children. -/
theorem wr_len (its : List α) (ks : List (List α)) (h : ks.length = its.length) : (wr its ks).length = its.length + (ks.map List.length).sum := by
  induction its generalizing ks with
  | nil => cases ks with
    | nil => rfl
    | cons _ _ => simp at h
  | cons x its ih =>
    cases ks with
    | nil => simp at h
    | cons k ks =>
      simp only [wr, List.cons_append, List.length_cons, List.length_append, List.map_cons, List.sum_cons]
      rw [ih ks (by simpa using h)]
      omega
theorem weave_len (its : List α) (ks : List (List α)) (h : ks.length = its.length + 1) : (weave ks its).length = its.length + (ks.map List.length).sum := by
  cases ks with
  | nil => simp at h
  | cons k ks =>
    simp only [weave, List.length_append, List.map_cons, List.sum_cons]
    rw [wr_len its ks (by simpa using h)]
    omega
theorem flat_len {h : Nat} {its : List α} {ks : List (Tr α)} (hk : ks.length = its.length + 1) : (flat (h + 1) (.node its ks)).length = its.length + (ks.map fun k => (flat h k).length).sum := by
  simp only [flat, Tr.its, Tr.ks]
  rw [weave_len _ _ (by simpa using hk), List.map_map]
  rfl

theorem Put.sorted {lt : α → α → Bool} {l l' : List α} {x : α} {p : Option α} (h : Put lt l x l' p) (hs : Sorted lt l) : Sorted lt l' := by
  cases p with
  | none =>
    obtain ⟨A, B, rfl, rfl, hA, hB⟩ := h
    obtain ⟨s1, s2, s3⟩ := Sorted.of_append hs
    refine List.pairwise_append.2 ⟨s1, List.pairwise_cons.2 ⟨hB, s2⟩, fun a ha b hb => ?_⟩
    rcases List.mem_cons.1 hb with rfl | hb
    · exact hA a ha
    · exact s3 a ha b hb
  | some p =>
    obtain ⟨A, B, rfl, rfl, h1, h2, hA, hB⟩ := h
    obtain ⟨s1, s2, s3⟩ := Sorted.of_append hs
    refine List.pairwise_append.2 ⟨s1, List.pairwise_cons.2 ⟨hB, (List.pairwise_cons.1 s2).2⟩, fun a ha b hb => ?_⟩
    rcases List.mem_cons.1 hb with rfl | hb
    · exact hA a ha
    · exact s3 a ha b (by simp [hb])
end Go.Wb

namespace Go.Proofs.Ytckplcmieelmpaa.W
open Go.RowKit Go.Wb

theorem rep_outside {H : Store It} {c : Int} {h n : Nat} {ns : List Nat} {ks : List (Tr It)} {F : List Nat} {r : NRec It} (hr : RepL (Rep H c h) ns ks F) (hn : n ∉ F) : RepL (Rep (upd H n (some r)) c h) ns ks F :=
  hr.imp fun _ _ _ hG hR => hR.congr fun m hm => upd_ne _ _ fun e => hn (e ▸ hG m hm)

/-- Setting an item that an inner node has. -/
theorem set_succ_found {w : World} {b : Nat} {hr : HRec} {pb po n : Nat} {H : Store It} {L : Nat → Lay} {h : Nat} {t : Tr It} {F : List Nat} {mn mx : Nat} (P : SetPre w b hr pb po n H L (h + 1) t F mn mx) (x : It) {i : Nat} (hloc : Loc t.its (ky x) i true) :
    Calls Try.prog 124 #[ptr b, .pointer (some ⟨pb, po, none⟩), pv x] w (SetPost w H L F hr.iso mn mx (h + 1) n t x hr.emp) := by
  obtain ⟨hdr, cell, mem, rep, nd, wf, srt, hmx, h3, hb, hmn, big⟩ := P
  obtain ⟨r, ns, F', hr1, hiso, hits, hkn, hcnt, hrl, rfl⟩ := rep
  have hat := mem.at_ n r hr1
  obtain ⟨w1, w2, w3, w4⟩ := id wf
  have hs : Sorted ilt r.items := by rw [hits]; exact own_sorted wf srt
  have hlen : r.items.length ≤ 1000000000000 := by rw [hits]; omega
  obtain ⟨its, ks⟩ := t
  simp only [Tr.its, Tr.ks] at *
  subst hits
  obtain ⟨A, y, B, hits2, hA, hy, h1, h2, hlA, hlB⟩ := loc_found hs hloc
  refine (set_found hdr cell hat hiso hlen hs hloc hy).mono ?_
  rintro e w' ⟨rfl, hk, hat'⟩
  have hset : r.items.set i x = A ++ x :: B := by rw [hits2, ← hA]; simp
  have st := Step.one mem hr1 hk hat' fun c o _ hf => hf
  have hnF : n ∉ F' := (List.nodup_cons.1 nd).1
  have st2 := st.frame [] F' (fun m hm => by
    simp only [List.nil_append] at hm
    exact ⟨by simp; exact fun e => hnF (e ▸ hm), RepL.dom (fun _ _ _ h => Rep.dom h) hrl m hm⟩)
  obtain ⟨C, D, hCD⟩ := flat_item (h := h) (A := A) (B := B) (y := y) (ks := ks) (by rw [← hits2]; exact w3)
  have hf0 : flat (h + 1) (.node r.items ks) = C ++ y :: D := by rw [hits2]; exact hCD y
  have hf1 : flat (h + 1) (.node (r.items.set i x) ks) = C ++ x :: D := by rw [hset]; exact hCD x
  rw [hf0] at srt
  obtain ⟨_, sD, sCD⟩ := Sorted.of_append srt
  refine .inr ⟨fun a => (by obtain ⟨j, hj⟩ := a.loc; cases (Loc.uniq hs hloc hj).2), some y, .node (r.items.set i x) ks, n :: F', _, _, rfl, st2, ⟨_, ns, F', upd_same _ _ _, hiso, rfl, hkn, ?_, rep_outside hrl hnF, rfl⟩, nd, ⟨by simp [Tr.its], by simp [Tr.its]; omega, by simp [Tr.its, Tr.ks]; omega, w4⟩, ?_⟩
  · rw [hf1]; rw [hf0] at hcnt; simpa using hcnt
  · refine ⟨C, D, hf0, hf1, h1, h2, fun a ha => ?_, fun d hd => ?_⟩
    · exact klt_of_eq h1 h2 (sCD a ha y (by simp))
    · exact klt_of_eq' h1 h2 ((List.pairwise_cons.1 sD).1 d hd)
end Go.Proofs.Ytckplcmieelmpaa.W

namespace Go.Proofs.Ytckplcmieelmpaa.W
open Go.RowKit Go.Wb

theorem SetPre.bnd {w : World} {b : Nat} {hr : HRec} {pb po n : Nat} {H : Store It} {L : Nat → Lay} {h : Nat} {t : Tr It} {F : List Nat} {mn mx : Nat} (P : SetPre w b hr pb po n H L h t F mn mx) : ∀ m, m ∈ F → m < w.heap.size := fun m hm => by
  obtain ⟨r, hr⟩ := P.rep.dom m hm
  exact P.mem.lt hr

/-- What is given for the child to which a key belongs. -/
theorem SetPre.child {w : World} {b : Nat} {hr : HRec} {pb po n : Nat} {H : Store It} {L : Nat → Lay} {h : Nat} {t : Tr It} {F : List Nat} {mn mx : Nat} (P : SetPre w b hr pb po n H L (h + 1) t F mn mx) {r : NRec It} (hr1 : H n = some r) {ns : List Nat} (hkn : r.kids = some ns)
    {kb ko : Nat} (hka : (L n).ka = some ⟨kb, ko, none⟩) {i c : Nat} (hc : ns[i]? = some c) {k : Tr It} {Fk : List Nat} (hrep : Rep H hr.iso h c k Fk) (nd : Fk.Nodup) (wf : wfr mn mn mx h k) (srt : Sorted ilt (flat h k)) (big : (flat h k).length ≤ 3000000000000000000)
    {W : World} (hk : Keep Nothing w W) : SetPre W b hr kb (ko + i) c H L h k Fk mn mx := by
  have hat := (P.mem.at_ n r hr1).keep hk fun _ _ _ h => h
  obtain ⟨_, g2, _⟩ := hat.2.2.2 ns hkn
  rw [hka] at g2
  exact ⟨blk_keep P.hdr hk fun _ h => h, g2.cell (by simp [hc]), P.mem.keepS hk fun _ _ _ _ _ _ h => h, hrep, nd, wf.weaken (Nat.zero_le _), srt, P.hmx, P.h3, P.hb, P.hmn, big⟩

/-- A call below that does not ask. -/
def GoG (H : Store It) (L : Nat → Lay) (Fk : List Nat) (iso : Int) (mn mx h c : Nat) (k : Tr It) (x ep : It) (y : It) (rep : Bool) (W W' : World) : Prop :=
  ∃ p k' F' H' L', y = Option.getD p ep ∧ rep = p.isSome ∧ Step TT E W H L Fk W' H' L' F' ∧ Rep H' iso h c k' F' ∧ F'.Nodup ∧ wfr k.its.length mn mx h k' ∧ Put ilt (flat h k) x (flat h k') p

theorem put_len {l l' : List It} {x : It} {p : Option It} (h : Put ilt l x l' p) : l'.length = l.length + if p.isSome then 0 else 1 := by
  cases p with
  | none => obtain ⟨A, B, rfl, rfl, _⟩ := h; simp; omega
  | some p => obtain ⟨A, B, rfl, rfl, _⟩ := h; simp

/-- Setting below: the child doesn't ask for a split. -/
theorem set_succ_go {w : World} {b : Nat} {hr : HRec} {pb po n : Nat} {H : Store It} {L : Nat → Lay} {h : Nat} {t : Tr It} {F : List Nat} {mn mx : Nat} (P : SetPre w b hr pb po n H L (h + 1) t F mn mx) (x : It) {i : Nat} (hloc : Loc t.its (ky x) i false)
    {k : Tr It} (hk : t.ks[i]? = some k) (hna : ¬ Asks mx h k (ky x))
    (IH : ∀ (w : World) (pb po n : Nat) (H : Store It) (L : Nat → Lay) (F : List Nat), SetPre w b hr pb po n H L h k F mn mx → Calls Try.prog 124 #[ptr b, .pointer (some ⟨pb, po, none⟩), pv x] w (SetPost w H L F hr.iso mn mx h n k x hr.emp)) :
    Calls Try.prog 124 #[ptr b, .pointer (some ⟨pb, po, none⟩), pv x] w (SetPost w H L F hr.iso mn mx (h + 1) n t x hr.emp) := by
  have P' := P
  obtain ⟨hdr, cell, mem, rep, nd, wf, srt, hmx, h3, hb, hmn, big⟩ := P
  obtain ⟨r, ns, F', hr1, hiso, hits, hkn, hcnt, hrl, rfl⟩ := rep
  have hat := mem.at_ n r hr1
  obtain ⟨w1, w2, w3, w4⟩ := id wf
  have hs : Sorted ilt r.items := by rw [hits]; exact own_sorted wf srt
  have hlen : r.items.length ≤ 1000000000000 := by rw [hits]; omega
  obtain ⟨its, ks⟩ := t
  simp only [Tr.its, Tr.ks] at *
  subst hits
  obtain ⟨hil, _⟩ := List.getElem?_eq_some_iff.1 hk
  obtain ⟨K1, k0, K2, hks, hK1, hk0⟩ := split_at ks i hil
  obtain rfl : k = k0 := by rw [hk] at hk0; exact Option.some.inj hk0
  subst hks
  obtain ⟨N1, c, N2, F1, Fk, F2, rfl, e1, e2, R1, Rk, R2, rfl⟩ := hrl.split
  have hc : (N1 ++ c :: N2)[i]? = some c := by rw [← hK1, ← e1]; simp
  have hnF := List.nodup_cons.1 nd
  have nd2 := List.nodup_append.1 hnF.2
  have nd1 := List.nodup_append.1 nd2.1
  obtain ⟨kb, ko, hka, _⟩ := ((hat.2.2.2 _ hkn).2.1).form (by simp; omega)
  have wfk := w4 k (by simp)
  have hI : r.items.take i ++ r.items.drop i = r.items := List.take_append_drop _ _
  have hIl : (r.items.take i).length = i := by rw [List.length_take]; have := hloc.1; omega
  have hIr : (r.items.drop i).length = K2.length := by rw [List.length_drop]; simp at w3; omega
  obtain ⟨lA, lB⟩ := loc_none hloc
  obtain ⟨C, D, hCD, hC, hD⟩ := flat_around (lt := ilt) (x := x) ⟨fun a => kord.irr _, fun a b c => kord.tr _ _ _, fun a b c => kord.co _ _ _⟩ (h := h) (I1 := r.items.take i) (I2 := r.items.drop i) (K1 := K1) (K2 := K2) (k := k) (by omega) (by omega) (by rw [hI]; exact srt) lA lB
  rw [hI] at hCD
  have srtk : Sorted ilt (flat h k) := by rw [hCD] at srt; exact srt.mid
  have bigk : (flat h k).length ≤ 3000000000000000000 := by rw [hCD] at big; simp at big; omega
  refine (set_inner_go hdr cell hat hiso hlen hs hloc (by omega) (by omega) hkn hka (List.getElem?_eq_some_iff.1 hc).1 (GoG H L Fk hr.iso mn mx h c k x hr.emp) fun W hK => ?_).mono ?_
  · refine (IH W kb (ko + i) c H L Fk (P'.child hr1 hkn hka hc Rk nd1.2.1 wfk srtk bigk hK)).mono ?_
    rintro e W' (⟨ha, _⟩ | ⟨_, p, k', G, H', L', rfl, st, rep', nd', wf', put⟩)
    · exact absurd ha hna
    · obtain ⟨o1, o2⟩ := st.out n (fun hn => hnF.1 (by simp [hn])) r hr1
      refine ⟨Option.getD p hr.emp, p.isSome, rfl, st.keep.mono fun x o _ ⟨m, q, _, hq, hf⟩ => (mem.at_ m q hq).lt hf, ?_, p, k', G, H', L', rfl, rfl, st, rep', nd', wf', put⟩
      have := st.mem.at_ n r o1
      rwa [o2] at this
  · rintro e w' ⟨W, W', y, rp, hK, ⟨p, k', G, H', L', rfl, rfl, st, rep', nd', wf', put⟩, rfl, hK2, hK3, hat'⟩
    have st1 := Step.pre hK st
    have dom : ∀ m, m ∈ (n :: F1) ++ F2 → m ∉ Fk ∧ ∃ q, H m = some q := fun m hm => by
      refine ⟨fun hf => ?_, P'.rep.dom m ?_⟩
      · rcases List.mem_append.1 hm with hm | hm
        · rcases List.mem_cons.1 hm with rfl | hm
          · exact hnF.1 (by simp [hf])
          · exact nd1.2.2 m hm m hf rfl
        · exact nd2.2.2 m (by simp [hf]) m hm rfl
      · simp at hm ⊢
        rcases hm with h | h | h <;> simp [h]
    have st2 := st1.frame (n :: F1) F2 dom
    obtain ⟨o1, o2⟩ := st.out n (fun hn => hnF.1 (by simp [hn])) r hr1
    have hcl := Step.clear mem hK st
    have st3 := Step.then mem st2 (n := n) (r := r) (r' := { r with cnt := if p.isSome then r.cnt else r.cnt + 1 }) (l' := L n) (X := fun b o => w.heap.size ≤ b ∧ b < W.heap.size) (by simp) o1 (hK3.mono fun x o _ hx => by
        rcases hx with ⟨rfl, _⟩ | hx
        · exact .inl (.inl rfl)
        · exact .inr hx) (fun _ _ h => h.1) (fun m q hq x o hf => hcl m q hq x o hf) hat' (fun x o _ hf => by rw [o2]; exact hf)
    have nF' : ∀ m, m ∈ G → m ∈ Fk ∨ w.heap.size ≤ m := fun m hm => st1.new m hm
    have old : ∀ m, m ∈ n :: (F1 ++ Fk ++ F2) → m < w.heap.size := P'.bnd
    have hnG : n ∉ G := fun hn => by
      rcases nF' n hn with h | h
      · exact hnF.1 (by simp [h])
      · have := old n (by simp); omega
    have nin : n ∉ F1 ++ G ++ F2 := fun hn => by
      simp only [List.mem_append] at hn
      rcases hn with (hn | hn) | hn
      · exact hnF.1 (by simp [hn])
      · exact hnG hn
      · exact hnF.1 (by simp [hn])
    have ndG : (n :: (F1 ++ G ++ F2)).Nodup := by
      refine List.nodup_cons.2 ⟨nin, List.nodup_append.2 ⟨List.nodup_append.2 ⟨nd1.1, nd', ?_⟩, nd2.2.1, ?_⟩⟩
      · rintro a ha _ hb rfl
        rcases nF' a hb with h | h
        · exact nd1.2.2 a ha a h rfl
        · have := old a (by simp [ha]); omega
      · rintro a ha _ hb rfl
        rcases List.mem_append.1 ha with ha | ha
        · exact nd2.2.2 a (by simp [ha]) a hb rfl
        · rcases nF' a ha with h | h
          · exact nd2.2.2 a (by simp [h]) a hb rfl
          · have := old a (by simp [hb]); omega
    have hlen' := put_len put
    have flat' : flat (h + 1) (.node r.items (K1 ++ k' :: K2)) = C ++ flat h k' ++ D := hCD k'
    refine .inr ⟨fun a => ?_, p, .node r.items (K1 ++ k' :: K2), n :: (F1 ++ G ++ F2), upd H' n (some { r with cnt := if p.isSome then r.cnt else r.cnt + 1 }), upd L' n (L n), rfl, ?_, ⟨{ r with cnt := if p.isSome then r.cnt else r.cnt + 1 }, N1 ++ c :: N2, F1 ++ G ++ F2, upd_same _ _ _, hiso, rfl, hkn, ?_, ?_, rfl⟩, ndG, ⟨by simp [Tr.its], by simp [Tr.its]; omega, by simp [Tr.its, Tr.ks] at w3 ⊢; omega, ?_⟩, ?_⟩
    · obtain ⟨_, j, c', h1, h2, h3⟩ := a
      obtain rfl := (Loc.uniq hs hloc h1).1
      simp only [Tr.ks] at h2
      rw [hk] at h2
      obtain rfl := Option.some.inj h2
      exact hna h3
    · exact st3
    · rw [flat']
      rw [hCD k] at hcnt
      simp only [List.length_append] at hcnt ⊢
      cases p <;> simp at hlen' ⊢ <;> omega
    · have out' : ∀ m, m ∈ F1 ++ F2 → upd H' n (some { r with cnt := if p.isSome then r.cnt else r.cnt + 1 }) m = H m := fun m hm => by
        have hmn : m ≠ n := fun e => hnF.1 (by subst e; simp only [List.mem_append] at hm ⊢; rcases hm with h | h <;> simp [h])
        rw [upd_ne _ _ hmn]
        obtain ⟨q, hq⟩ := (dom m (by simp only [List.mem_append, List.mem_cons] at hm ⊢; rcases hm with h | h <;> simp [h])).2
        rw [hq]
        exact (st.out m (dom m (by simp only [List.mem_append, List.mem_cons] at hm ⊢; rcases hm with h | h <;> simp [h])).1 q hq).1
      have A1 : RepL (Rep (upd H' n (some { r with cnt := if p.isSome then r.cnt else r.cnt + 1 })) hr.iso h) N1 K1 F1 := R1.imp fun a t G hG hR => hR.congr fun m hm => out' m (by simp [hG m hm])
      have A2 : RepL (Rep (upd H' n (some { r with cnt := if p.isSome then r.cnt else r.cnt + 1 })) hr.iso h) N2 K2 F2 := R2.imp fun a t G hG hR => hR.congr fun m hm => out' m (by simp [hG m hm])
      have Ak : Rep (upd H' n (some { r with cnt := if p.isSome then r.cnt else r.cnt + 1 })) hr.iso h c k' G := rep'.congr fun m hm => upd_ne _ _ fun e => hnG (e ▸ hm)
      rw [List.append_assoc]
      exact RepL.join (R := Rep (upd H' n (some { r with cnt := if p.isSome then r.cnt else r.cnt + 1 })) hr.iso h) (N2 := c :: N2) (K2 := k' :: K2) ⟨G, F2, Ak, A2, rfl⟩ A1
    · intro k2 hk2
      simp only [Tr.ks, List.mem_append, List.mem_cons] at hk2
      rcases hk2 with hk2 | rfl | hk2
      · exact w4 k2 (by simp [hk2])
      · exact wf'.weaken (Nat.le_trans wfk.own_le.1 wf'.own_le.1)
      · exact w4 k2 (by simp [hk2])
    · rw [hCD k, flat']
      exact put.frame C D hC hD
end Go.Proofs.Ytckplcmieelmpaa.W

namespace Go.Wb
open Go Go.RowKit
variable {α : Type} {T : Ty} {E : Enc α}

/-- A step counts its nodes, not their order. -/
theorem Step.same {w w' : World} {H H' : Store α} {L L' : Nat → Lay} {F F' G' : List Nat} (h : Step T E w H L F w' H' L' F') (e : ∀ m, m ∈ G' ↔ m ∈ F') : Step T E w H L F w' H' L' G' :=
  ⟨h.mem, h.keep, h.out, fun m hm => h.new m ((e m).1 hm), fun b o hb ⟨n, r, hn, hr, hf⟩ => h.fp b o hb ⟨n, r, (e n).1 hn, hr, hf⟩, fun m r hr => (h.only m r hr).imp (e m).2 id⟩

/-- Behind a step only cells turn that are no node's and weren't there at the begin. -/
theorem Step.post {w W' w' : World} {H H' : Store α} {L L' : Nat → Lay} {F F1 : List Nat} (h : Step T E w H L F W' H' L' F1) {X : Nat → Nat → Prop}
    (hk : Keep X W' w') (hX : ∀ b o, X b o → w.heap.size ≤ b) (hXd : ∀ m q, H' m = some q → ∀ b o, Wb.fp T m q (L' m) b o → ¬ X b o) : Step T E w H L F w' H' L' F1 :=
  ⟨h.mem.keepS hk fun n r b o hr hf => hXd n r hr b o hf, h.keep.trans hk fun b o hb hx => by have := hX b o hx; omega, h.out, h.new, h.fp, h.only⟩

theorem RepL.cut {R : Nat → Tr α → List Nat → Prop} : ∀ {ns : List Nat} {ts : List (Tr α)} {F : List Nat}, RepL R ns ts F → ∀ j, ∃ F1 F2, RepL R (ns.take j) (ts.take j) F1 ∧ RepL R (ns.drop j) (ts.drop j) F2 ∧ F = F1 ++ F2
  | [], [], F, h, j => ⟨[], F, by simp [RepL], by simpa using h, by simp⟩
  | n :: ns, t :: ts, F, h, 0 => ⟨[], F, by simp [RepL], by simpa using h, by simp⟩
  | n :: ns, t :: ts, F, h, j + 1 => by
    obtain ⟨F1, F2, h1, h2, rfl⟩ := h
    obtain ⟨G1, G2, g1, g2, rfl⟩ := RepL.cut h2 j
    exact ⟨F1 ++ G1, G2, ⟨F1, G1, h1, g1, rfl⟩, g2, by simp⟩
  | [], _ :: _, _, h, _ => h.elim
  | _ :: _, [], _, h, _ => h.elim

/-- A node's count. -/
def cntOf (H : Store α) (m : Nat) : Int := match H m with | some q => q.cnt | none => 0

theorem RepL.counts {H : Store α} {c : Int} {h : Nat} : ∀ {ns : List Nat} {ts : List (Tr α)} {F : List Nat}, RepL (Rep H c h) ns ts F → ns.map (cntOf H) = ts.map fun k => ((flat h k).length : Int)
  | [], [], _, _ => rfl
  | n :: ns, t :: ts, F, hr => by
    obtain ⟨F1, F2, h1, h2, rfl⟩ := hr
    obtain ⟨_, r, e1, _, _, e2⟩ := h1.root
    simp only [List.map_cons, RepL.counts h2]
    congr 1
    simp [cntOf, e1, e2]
  | [], _ :: _, _, h => h.elim
  | _ :: _, [], _, h => h.elim

theorem sum_cast (l : List (Tr α)) (h : Nat) : (l.map fun k => ((flat h k).length : Int)).sum = ((l.map fun k => (flat h k).length).sum : Nat) := by
  induction l with
  | nil => rfl
  | cons x l ih => simp only [List.map_cons, List.sum_cons, ih]; omega

theorem count_flat {H : Store α} {c : Int} {h : Nat} {its : List α} {ns : List Nat} {ts : List (Tr α)} {F : List Nat} (hr : RepL (Rep H c h) ns ts F) (hl : ts.length = its.length + 1) : (its.length : Int) + kidSum (cntOf H) (some ns) = ((flat (h + 1) (.node its ts)).length : Int) := by
  rw [flat_len hl, kidSum, hr.counts, sum_cast]; omega

/-- The records of a node's halves. -/
def halfL (H : Store α) (iso : Int) (r : NRec α) (i : Nat) : NRec α := ⟨iso, (r.items.take i).length + kidSum (cntOf H) (r.kids.map (List.take (i + 1))), r.items.take i, r.kids.map (List.take (i + 1))⟩
def halfR (H : Store α) (iso : Int) (r : NRec α) (i : Nat) : NRec α := ⟨iso, (r.items.drop (i + 1)).length + kidSum (cntOf H) (r.kids.map (List.drop (i + 1))), r.items.drop (i + 1), r.kids.map (List.drop (i + 1))⟩

theorem Rep.halves {H : Store α} {c : Int} {h n : Nat} {t : Tr α} {F : List Nat} {l mn mx : Nat} (hr : Rep H c h n t F) (wf : wfr l mn mx h t) (nd : F.Nodup) {r : NRec α} (hn : H n = some r) {m : Nat} (hm : H m = none) {i : Nat} (hi : i < t.its.length) :
    ∃ F1 F2, F = n :: (F1 ++ F2) ∧ Rep (upd (upd H n (some (halfL H c r i))) m (some (halfR H c r i))) c h n (cutL i t) (n :: F1) ∧ Rep (upd (upd H n (some (halfL H c r i))) m (some (halfR H c r i))) c h m (cutR i t) (m :: F2) := by
  have hnm : n ≠ m := fun e => by subst e; rw [hm] at hn; cases hn
  obtain ⟨its, ks⟩ := t
  simp only [Tr.its] at hi
  cases h with
  | zero =>
    obtain ⟨q, h1, h2, h3, h4, h5, h6, rfl⟩ := hr
    rw [hn] at h1
    cases h1
    simp only [Tr.its, Tr.ks] at *
    subst h3
    subst h4
    refine ⟨[], [], rfl, ⟨halfL H c r i, by rw [upd_ne _ _ hnm, upd_same], rfl, rfl, by simp [cutL, Tr.ks], by simp [halfL, h5], ?_, rfl⟩, ⟨halfR H c r i, upd_same _ _ _, rfl, rfl, by simp [cutR, Tr.ks], by simp [halfR, h5], ?_, rfl⟩⟩
    · simp [halfL, h5, kidSum, flat, cutL, Tr.its]
    · simp [halfR, h5, kidSum, flat, cutR, Tr.its]
  | succ h =>
    obtain ⟨q, ns, F', h1, h2, h3, h4, h5, h6, rfl⟩ := hr
    rw [hn] at h1
    cases h1
    obtain ⟨w1, w2, w3, w4⟩ := wf
    simp only [Tr.its, Tr.ks] at *
    subst h3
    obtain ⟨F1, F2, c1, c2, rfl⟩ := h6.cut (i + 1)
    have hnF := (List.nodup_cons.1 nd).1
    have out : ∀ k, k ∈ F1 ++ F2 → upd (upd H n (some (halfL H c r i))) m (some (halfR H c r i)) k = H k := fun k hk => by
      have e1 : k ≠ n := fun e => hnF (e ▸ hk)
      have e2 : k ≠ m := fun e => by
        subst e
        obtain ⟨q, hq⟩ := RepL.dom (fun _ _ _ h => Rep.dom h) h6 k hk
        rw [hm] at hq
        cases hq
      rw [upd_ne _ _ e2, upd_ne _ _ e1]
    have C1 := c1.imp fun a t G hG (hR : Rep H c h a t G) => hR.congr fun k hk => out k (by simp [hG k hk])
    have C2 := c2.imp fun a t G hG (hR : Rep H c h a t G) => hR.congr fun k hk => out k (by simp [hG k hk])
    refine ⟨F1, F2, rfl, ⟨halfL H c r i, ns.take (i + 1), F1, by rw [upd_ne _ _ hnm, upd_same], rfl, rfl, by simp [halfL, h4], ?_, C1, rfl⟩, ⟨halfR H c r i, ns.drop (i + 1), F2, upd_same _ _ _, rfl, rfl, by simp [halfR, h4], ?_, C2, rfl⟩⟩
    · have := count_flat (its := r.items.take i) c1 (by simp; omega)
      simp only [halfL, h4, Option.map_some]
      exact this
    · have := count_flat (its := r.items.drop (i + 1)) c2 (by simp; omega)
      simp only [halfR, h4, Option.map_some]
      exact this
/-- What the pieces of a tree around a child are. -/
structure Around (H : Store α) (iso : Int) (mn mx h n : Nat) (t : Tr α) (F : List Nat) (r : NRec α) (i : Nat) (k : Tr α) (N1 N2 : List Nat) (c : Nat) (K1 K2 : List (Tr α)) (F1 Fk F2 : List Nat) : Prop where
  tq : t = .node r.items (K1 ++ k :: K2)
  Fq : F = n :: (F1 ++ Fk ++ F2)
  rec_ : H n = some r
  isoq : r.iso = iso
  kids : r.kids = some (N1 ++ c :: N2)
  cnt : r.cnt = ((flat (h + 1) t).length : Int)
  lk : K1.length = i
  ln : N1.length = i
  ln2 : N2.length = K2.length
  lr : r.items.length = i + K2.length
  r1 : RepL (Rep H iso h) N1 K1 F1
  rk : Rep H iso h c k Fk
  r2 : RepL (Rep H iso h) N2 K2 F2
  wk : wfr mn mn mx h k
  wo : ∀ k', k' ∈ K1 ++ K2 → wfr mn mn mx h k'
  le : r.items.length ≤ mx

theorem around_of {H : Store α} {iso : Int} {mn mx h n l : Nat} {t : Tr α} {F : List Nat} (rep : Rep H iso (h + 1) n t F) (wf : wfr l mn mx (h + 1) t) {i : Nat} {k : Tr α} (hk : t.ks[i]? = some k) :
    ∃ r N1 N2 c K1 K2 F1 Fk F2, Around H iso mn mx h n t F r i k N1 N2 c K1 K2 F1 Fk F2 := by
  obtain ⟨r, ns, F', hr1, hiso, hits, hkn, hcnt, hrl, rfl⟩ := rep
  obtain ⟨w1, w2, w3, w4⟩ := wf
  obtain ⟨its, ks⟩ := t
  simp only [Tr.its, Tr.ks] at *
  subst hits
  obtain ⟨hil, _⟩ := List.getElem?_eq_some_iff.1 hk
  obtain ⟨K1, k0, K2, hks, hK1, hk0⟩ := split_at ks i hil
  obtain rfl : k = k0 := by rw [hk] at hk0; exact Option.some.inj hk0
  subst hks
  obtain ⟨N1, c, N2, F1, Fk, F2, rfl, e1, e2, R1, Rk, R2, rfl⟩ := hrl.split
  refine ⟨r, N1, N2, c, K1, K2, F1, Fk, F2, rfl, rfl, hr1, hiso, hkn, hcnt, hK1, by omega, e2, by simp at w3; omega, R1, Rk, R2, w4 k (by simp), fun k' hk' => w4 k' ?_, w2⟩
  simp only [List.mem_append, List.mem_cons] at hk' ⊢
  rcases hk' with h | h <;> simp [h]

theorem RepL.mem {R : Nat → Tr α → List Nat → Prop} : ∀ {ns : List Nat} {ts : List (Tr α)} {F : List Nat}, RepL R ns ts F → ∀ k, k ∈ ns → ∃ t G, R k t G ∧ ∀ m, m ∈ G → m ∈ F
  | [], _, _, _, k, hk => by cases hk
  | n :: ns, t :: ts, F, h, k, hk => by
    obtain ⟨F1, F2, h1, h2, rfl⟩ := h
    rcases List.mem_cons.1 hk with rfl | hk
    · exact ⟨t, F1, h1, fun m hm => by simp [hm]⟩
    · obtain ⟨t', G, g1, g2⟩ := RepL.mem h2 k hk
      exact ⟨t', G, g1, fun m hm => by simp [g2 m hm]⟩
  | _ :: _, [], _, h, _, _ => h.elim

theorem Rep.kids_ok {H : Store α} {c : Int} {h n : Nat} {t : Tr α} {F : List Nat} {l mn mx : Nat} (hr : Rep H c h n t F) (wf : wfr l mn mx h t) (nd : F.Nodup) {r : NRec α} (hn : H n = some r) {ks : List Nat} (hk : r.kids = some ks) :
    ks.length = t.its.length + 1 ∧ (ks.map (cntOf H)).sum ≤ (flat h t).length ∧ ∀ k ∈ ks, k ≠ n ∧ 0 ≤ cntOf H k ∧ ∃ q, H k = some q ∧ q.cnt = cntOf H k := by
  cases h with
  | zero =>
    obtain ⟨q, h1, h2, h3, h4, h5, h6, rfl⟩ := hr
    rw [hn] at h1
    cases h1
    rw [h5] at hk
    cases hk
  | succ h =>
    obtain ⟨q, ns, F', h1, h2, h3, h4, h5, h6, rfl⟩ := hr
    rw [hn] at h1
    cases h1
    rw [h4] at hk
    cases hk
    obtain ⟨w1, w2, w3, w4⟩ := wf
    refine ⟨by rw [h6.len, w3], ?_, fun k hk => ?_⟩
    · have := count_flat (its := t.its) h6 w3
      obtain ⟨its, ks⟩ := t
      simp only [kidSum, Tr.its, Tr.ks] at this ⊢
      omega
    · obtain ⟨t', G, g1, g2⟩ := h6.mem k hk
      obtain ⟨g3, q, g4, _, _, g5⟩ := g1.root
      refine ⟨fun e => (List.nodup_cons.1 nd).1 (e ▸ g2 k g3), ?_, q, g4, by simp [cntOf, g4]⟩
      simp only [cntOf, g4, g5]
      omega

theorem RepL.get {R : Nat → Tr α → List Nat → Prop} : ∀ {ns : List Nat} {ts : List (Tr α)} {F : List Nat}, RepL R ns ts F → ∀ {i m : Nat} {k : Tr α}, ns[i]? = some m → ts[i]? = some k → ∃ G, R m k G
  | [], _, _, _, i, m, k, h, _ => by simp at h
  | n :: ns, t :: ts, F, h, 0, m, k, hn, hk => by
    obtain ⟨F1, F2, h1, _, _⟩ := h
    simp at hn hk
    subst hn
    subst hk
    exact ⟨F1, h1⟩
  | n :: ns, t :: ts, F, h, i + 1, m, k, hn, hk => by
    obtain ⟨F1, F2, _, h2, _⟩ := h
    exact RepL.get h2 (by simpa using hn) (by simpa using hk)
  | _ :: _, [], _, h, _, _, _, _, _ => h.elim
end Go.Wb

namespace Go.Proofs.Ytckplcmieelmpaa.W
open Go.RowKit Go.Wb

theorem iord : Ord ilt := ⟨fun _ => kord.irr _, fun _ _ _ => kord.tr _ _ _, fun _ _ _ => kord.co _ _ _⟩

/-- Setting below: child and node are full. -/
theorem set_succ_full {w : World} {b : Nat} {hr : HRec} {pb po n : Nat} {H : Store It} {L : Nat → Lay} {h : Nat} {t : Tr It} {F : List Nat} {mn mx : Nat} (P : SetPre w b hr pb po n H L (h + 1) t F mn mx) (x : It) {i : Nat} (hloc : Loc t.its (ky x) i false)
    {k : Tr It} (hk : t.ks[i]? = some k) (hfull : t.its.length = mx) (ha : Asks mx h k (ky x))
    (IH : ∀ (w : World) (pb po n : Nat) (H : Store It) (L : Nat → Lay) (F : List Nat), SetPre w b hr pb po n H L h k F mn mx → Calls Try.prog 124 #[ptr b, .pointer (some ⟨pb, po, none⟩), pv x] w (SetPost w H L F hr.iso mn mx h n k x hr.emp)) :
    Calls Try.prog 124 #[ptr b, .pointer (some ⟨pb, po, none⟩), pv x] w (SetPost w H L F hr.iso mn mx (h + 1) n t x hr.emp) := by
  obtain ⟨r, N1, N2, c, K1, K2, F1, Fk, F2, A⟩ := around_of P.rep P.wf hk
  have hat := P.mem.at_ n r A.rec_
  have ht := A.tq
  have hits : t.its = r.items := by rw [ht]; rfl
  have hs : Sorted ilt r.items := by rw [← hits]; exact own_sorted P.wf P.srt
  have hlen : r.items.length ≤ 1000000000000 := by have := P.hb; have := A.le; omega
  obtain ⟨kb, ko, hka, _⟩ := ((hat.2.2.2 _ A.kids).2.1).form (by simp; omega)
  have hc : (N1 ++ c :: N2)[i]? = some c := by rw [← A.ln]; simp
  obtain ⟨lA, lB⟩ := loc_none hloc
  have hfl : ∃ C D, flat (h + 1) t = C ++ flat h k ++ D := by
    have e : t = .node (t.its.take i ++ t.its.drop i) (K1 ++ k :: K2) := by rw [List.take_append_drop, hits]; exact ht
    have := P.srt
    rw [e] at this ⊢
    obtain ⟨C, D, hCD, _⟩ := flat_around (lt := ilt) (x := x) iord (h := h) (I1 := t.its.take i) (I2 := t.its.drop i) (K1 := K1) (K2 := K2) (k := k) (by rw [List.length_take, hits, A.lr, A.lk]; omega) (by rw [List.length_drop, hits, A.lr]; omega) this lA lB
    exact ⟨C, D, hCD k⟩
  obtain ⟨C, D, hCD⟩ := hfl
  have srt := P.srt
  have big := P.big
  have nd := P.nd
  rw [hCD] at srt big
  rw [A.Fq] at nd
  have nd2 := List.nodup_append.1 (List.nodup_cons.1 nd).2
  have ndk := (List.nodup_append.1 nd2.1).2.1
  rw [hits] at hloc hfull
  refine (set_inner_full P.hdr P.cell hat A.isoq hlen hs hloc (by rw [P.hmx, hfull]) A.kids hka (List.getElem?_eq_some_iff.1 hc).1 fun W hK => ?_).mono ?_
  · refine (IH W kb (ko + i) c H L Fk (P.child A.rec_ A.kids hka hc A.rk ndk A.wk srt.mid (by simp at big; omega) hK)).mono ?_
    rintro e W' (⟨_, h2⟩ | ⟨h1, _⟩)
    · exact h2
    · exact absurd ha h1
  · intro e w' h1
    exact .inl ⟨⟨by rw [hits]; exact hfull, i, k, by rw [hits]; exact hloc, hk, ha⟩, h1⟩
end Go.Proofs.Ytckplcmieelmpaa.W

namespace Go.Proofs.Ytckplcmieelmpaa.W
open Go.RowKit Go.Wb

/-- What the split of a child leaves. -/
def Halves (H : Store It) (L : Nat → Lay) (c : Nat) (rc : NRec It) (iso : Int) (i : Nat) (m : Nat) (med : It) (W W' : World) : Prop :=
  rc.items[i]? = some med ∧ W.heap.size ≤ m ∧ ∃ L', Step TT E W H L [c] W' (upd (upd H c (some (halfL H iso rc i))) m (some (halfR H iso rc i))) L' [c, m]

theorem split_step {w : World} {b c : Nat} {hr : HRec} {H : Store It} {L : Nat → Lay} {h : Nat} {k : Tr It} {Fk : List Nat} {mn mx : Nat} (hdr : Hdr w b hr) (mem : Mem TT E w H L) (hmx : hr.mx = (mx : Int)) (h3 : 3 ≤ mx) (hb : mx ≤ 1000000000000)
    {l : Nat} (rk : Rep H hr.iso h c k Fk) (wk : wfr l mn mx h k) (ndk : Fk.Nodup) (hl : k.its.length = mx) (big : (flat h k).length ≤ 3000000000000000000) {rc : NRec It} (hrc : H c = some rc) :
    Calls Try.prog 125 #[ptr b, ptr c] w fun e W' => ∃ m med, e = .returned (.tuple #[ptr m, pv med]) ∧ Keep (fp TT c rc (L c)) w W' ∧ Halves H L c rc hr.iso (mx / 2) m med w W' := by
  obtain ⟨_, q, e1, hci, hits, _⟩ := rk.root
  rw [hrc] at e1
  cases e1
  refine (split_any (i := mx / 2) hdr (mem.at_ c rc hrc) hmx (by rw [hits]; exact hl) h3 hb rfl (cntOf H) fun ks hks => ?_).mono ?_
  · obtain ⟨o1, o2, o3⟩ := rk.kids_ok wk ndk hrc hks
    refine ⟨by omega, by omega, fun a ha => ?_⟩
    obtain ⟨p1, p2, q, p3, p4⟩ := o3 a ha
    exact ⟨p1, p2, q, _, mem.at_ a q p3, p4⟩
  · intro e W' hp
    unfold SplitPost at hp
    rw [hci] at hp
    obtain ⟨m, L1, L2, med, h1, rfl, h2, h4, h5, h6, h7, h8, h9⟩ := hp
    exact ⟨m, med, rfl, h4, h1, h2, _, Step.two mem hrc h2 h4 h5 h6 h7 h8 h9⟩

/-- What the second call leaves. -/
def RetryR (H : Store It) (L : Nat → Lay) (F : List Nat) (iso : Int) (mn mx h n : Nat) (t : Tr It) (x ep : It) (_m : Nat) (_med : It) (W _W' _W2 : World) (_L2 : Lay) (e : Ending) (W3 : World) : Prop :=
  ∃ p t' F' H' L', e = .returned (.tuple #[vv (Option.getD p ep), .bool p.isSome, .bool false]) ∧ Step TT E W H L F W3 H' L' F' ∧ Rep H' iso h n t' F' ∧ F'.Nodup ∧ wfr t.its.length mn mx h t' ∧ Put ilt (flat h t) x (flat h t') p

/-- Where a key belongs behind a split. -/
theorem loc_split {its : List It} {k : Ky} {i : Nat} (hloc : Loc its k i false) {med : It} (hs : Sorted ilt (its.take i ++ med :: its.drop i)) {j : Nat} (h : Loc (its.take i ++ med :: its.drop i) k j false) : j = i ∨ j = i + 1 := by
  obtain ⟨lA, lB⟩ := loc_none hloc
  have hil := hloc.1
  have hA : (its.take i).length = i := by simp; omega
  have mk : ∀ (A B : List It) (l : List It), A ++ B = l → (∀ a ∈ A, klt (ky a) k = true) → (∀ b ∈ B, klt k (ky b) = true) → Loc l k A.length false := by
    rintro A B l rfl h1 h2
    refine ⟨by simp, fun j y hj hy => ?_, fun j y hj hy => ?_⟩
    · rw [List.getElem?_append_left hj] at hy
      exact h1 y (List.mem_of_getElem? hy)
    · rw [List.getElem?_append_right hj] at hy
      exact h2 y (List.mem_of_getElem? hy)
  cases h1 : klt k (ky med) with
  | true =>
    have := mk (its.take i) (med :: its.drop i) _ rfl lA (fun b hb => by
      rcases List.mem_cons.1 hb with rfl | hb
      · exact h1
      · exact lB b hb)
    rw [hA] at this
    exact .inl (Loc.uniq hs h this).1
  | false =>
    cases h2 : klt (ky med) k with
    | true =>
      have := mk (its.take i ++ [med]) (its.drop i) (its.take i ++ med :: its.drop i) (by simp) (fun a ha => by
        rcases List.mem_append.1 ha with ha | ha
        · exact lA a ha
        · obtain rfl := List.mem_singleton.1 ha; exact h2) lB
      rw [List.length_append, hA] at this
      exact .inr (Loc.uniq hs h this).1
    | false =>
      have : Loc (its.take i ++ med :: its.drop i) k i true := ⟨by simp; omega, med, by rw [List.getElem?_append_right (by omega), hA]; simp, h1, h2⟩
      have := (Loc.uniq hs h this).2
      cases this

/-- Setting below: the child is full, the node is not. -/
theorem set_succ_retry {w : World} {b : Nat} {hr : HRec} {pb po n : Nat} {H : Store It} {L : Nat → Lay} {h : Nat} {t : Tr It} {F : List Nat} {mn mx : Nat} (P : SetPre w b hr pb po n H L (h + 1) t F mn mx) (x : It) {i : Nat} (hloc : Loc t.its (ky x) i false)
    {k : Tr It} (hk : t.ks[i]? = some k) (hfull : t.its.length ≠ mx) (ha : Asks mx h k (ky x))
    (IH : ∀ (k : Tr It) (w : World) (pb po n : Nat) (H : Store It) (L : Nat → Lay) (F : List Nat), SetPre w b hr pb po n H L h k F mn mx → Calls Try.prog 124 #[ptr b, .pointer (some ⟨pb, po, none⟩), pv x] w (SetPost w H L F hr.iso mn mx h n k x hr.emp)) :
    Calls Try.prog 124 #[ptr b, .pointer (some ⟨pb, po, none⟩), pv x] w (SetPost w H L F hr.iso mn mx (h + 1) n t x hr.emp) := by
  obtain ⟨r, N1, N2, c, K1, K2, F1, Fk, F2, A⟩ := around_of P.rep P.wf hk
  have hat := P.mem.at_ n r A.rec_
  have ht := A.tq
  have hits : t.its = r.items := by rw [ht]; rfl
  have hs : Sorted ilt r.items := by rw [← hits]; exact own_sorted P.wf P.srt
  have hlen : r.items.length ≤ 1000000000000 := by have := P.hb; have := A.le; omega
  obtain ⟨kb, ko, hka, _⟩ := ((hat.2.2.2 _ A.kids).2.1).form (by simp; omega)
  have hc : (N1 ++ c :: N2)[i]? = some c := by rw [← A.ln]; simp
  have lr := A.lr
  have lk := A.lk
  have ln := A.ln
  have ln2 := A.ln2
  have h3 := P.h3
  have hb := P.hb
  have hmn := P.hmn
  rw [hits] at hloc hfull
  obtain ⟨lA, lB⟩ := loc_none hloc
  have hI : r.items.take i ++ r.items.drop i = r.items := List.take_append_drop _ _
  have hIl : (r.items.take i).length = i := by rw [List.length_take]; omega
  have hIr : (r.items.drop i).length = K2.length := by rw [List.length_drop]; omega
  have et : t = .node (r.items.take i ++ r.items.drop i) (K1 ++ k :: K2) := by rw [hI]; exact ht
  obtain ⟨C, D, hCD, _, _⟩ := flat_around (lt := ilt) (x := x) iord (h := h) (I1 := r.items.take i) (I2 := r.items.drop i) (K1 := K1) (K2 := K2) (k := k) (by omega) (by omega) (by rw [← et]; exact P.srt) lA lB
  have srt := P.srt
  have big := P.big
  have nd := P.nd
  rw [et, hCD] at srt big
  rw [A.Fq] at nd
  have hnF := List.nodup_cons.1 nd
  have nd2 := List.nodup_append.1 hnF.2
  have nd1 := List.nodup_append.1 nd2.1
  have old : ∀ m, m ∈ n :: (F1 ++ Fk ++ F2) → m < w.heap.size := fun m hm => P.bnd m (by rw [A.Fq]; exact hm)
  obtain ⟨hcF, rc, hrc, hci, hcits, _⟩ := A.rk.root
  have hkfull := ha.full
  have hi2 : mx / 2 < k.its.length := by omega
  refine (set_inner_retry P.hdr P.cell hat A.isoq hlen hs hloc (by rw [P.hmx]; exact fun e => hfull (by omega)) A.kids hka hc (by simp; omega) (Halves H L c rc hr.iso (mx / 2)) (RetryR H L F hr.iso mn mx (h + 1) n t x hr.emp) (fun W hK => ?_) (fun W hK => ?_) (fun W m med W' W2 Ln pq hK hG hMid hpq hcell hHdr => ?_)).mono ?_
  · refine (IH k W kb (ko + i) c H L Fk (P.child A.rec_ A.kids hka hc A.rk nd1.2.1 A.wk srt.mid (by simp at big; omega) hK)).mono ?_
    rintro e W' (⟨_, h2⟩ | ⟨h1, _⟩)
    · exact h2
    · exact absurd ha h1
  · have memW := P.mem.keepS hK (fun _ _ _ _ _ _ h => h)
    have hdrW := blk_keep P.hdr hK fun _ h => h
    refine (split_step hdrW memW P.hmx P.h3 P.hb A.rk A.wk nd1.2.1 hkfull (by simp at big; omega) hrc).mono ?_
    rintro e W' ⟨m, med, rfl, h4, hH⟩
    refine ⟨m, med, rfl, h4.mono fun a o _ hf => (P.mem.at_ c rc hrc).lt hf, ?_, ?_, hH⟩
    · exact (memW.at_ n r A.rec_).keep h4 fun a o hf hg => P.mem.sep n c r rc (fun e => hnF.1 (by rw [e]; simp [hcF])) A.rec_ hrc a o hf hg
    · exact blk_keep hdrW h4 fun o hf => hdr_apart hdrW (memW.at_ c rc hrc) hf
  · obtain ⟨hmed, hmW, L', st⟩ := hG
    have hws : w.heap.size ≤ W.heap.size := hK.size
    have hmn0 : H m = none := by
      cases hq : H m with
      | none => rfl
      | some q => have := P.mem.lt hq; omega
    have memW := P.mem.keepS hK (fun _ _ _ _ _ _ h => h)
    obtain ⟨Fc1, Fc2, rfl, RL, RR⟩ := A.rk.halves A.wk nd1.2.1 hrc hmn0 hi2
    have hcn : c ≠ n := fun e => hnF.1 (by rw [← e]; simp)
    have hmne : ∀ a, a ∈ n :: (F1 ++ c :: (Fc1 ++ Fc2) ++ F2) → a ≠ m := fun a ha e => by have := old a ha; omega
    have ndc := List.nodup_cons.1 nd1.2.1
    have dom : ∀ a, a ∈ (n :: F1) ++ (Fc1 ++ Fc2 ++ F2) → a ∉ [c] ∧ ∃ q, H a = some q := fun a ha => by
      refine ⟨fun hf => ?_, P.rep.dom a ?_⟩
      · obtain rfl := List.mem_singleton.1 hf
        simp only [List.mem_append, List.mem_cons] at ha
        rcases ha with (rfl | ha) | (ha | ha) | ha
        · exact hcn rfl
        · exact nd1.2.2 a ha a (by simp) rfl
        · exact ndc.1 (by simp [ha])
        · exact ndc.1 (by simp [ha])
        · exact nd2.2.2 a (by simp) a ha rfl
      · rw [A.Fq]
        simp only [List.mem_append, List.mem_cons] at ha ⊢
        rcases ha with (ha | ha) | (ha | ha) | ha <;> simp [ha]
    have st1 := st.frame (n :: F1) (Fc1 ++ Fc2 ++ F2) dom
    obtain ⟨o1, o2⟩ := st.out n (by simpa using fun e => hcn e.symm) r A.rec_
    have st2 := Step.then memW st1 (n := n) (r := r) (r' := grown r (N1 ++ c :: N2) i m med) (l' := Ln) (X := fun _ _ => False) (by simp) o1 (hMid.keep.mono fun a o _ hf => .inl (by rw [o2]; exact hf)) (fun _ _ h => h.elim) (fun _ _ _ _ _ _ h => h) hMid.node (fun a o hb2 hf => by rw [o2]; exact hMid.fp a o hb2 hf)
    have st3 := st2.same (G' := n :: (F1 ++ c :: Fc1 ++ (m :: Fc2 ++ F2))) (fun a => by
      simp only [List.mem_append, List.mem_cons, List.not_mem_nil, or_false]
      grind)
    have eF : (n :: F1) ++ [c] ++ (Fc1 ++ Fc2 ++ F2) = F := by rw [A.Fq]; simp
    rw [eF] at st3
    clear st2 st1
    generalize hH2 : upd (upd (upd H c (some (halfL H hr.iso rc (mx / 2)))) m (some (halfR H hr.iso rc (mx / 2)))) n (some (grown r (N1 ++ c :: N2) i m med)) = H2 at st3
    generalize upd L' n Ln = LL2 at st3
    have hkm : k.its[mx / 2]? = some med := by rw [← hcits]; exact hmed
    have hfc := flat_cut A.wk hkm
    have hfl : flat (h + 1) (.node (r.items.take i ++ med :: r.items.drop i) (K1 ++ cutL (mx / 2) k :: cutR (mx / 2) k :: K2)) = flat (h + 1) t := by
      rw [et]
      exact flat_split (by omega) hfc
    have hks : (N1 ++ c :: N2).take (i + 1) ++ m :: (N1 ++ c :: N2).drop (i + 1) = N1 ++ c :: m :: N2 := by
      rw [← ln, List.take_length_add_append, List.drop_length_add_append]; simp
    have out2 : ∀ a, a ∈ F1 ++ F2 → H2 a = H a := fun a ha => by
      have e1 : a ≠ n := fun e => hnF.1 (by subst e; simp only [List.mem_append] at ha ⊢; rcases ha with h | h <;> simp [h])
      have e2 : a ≠ m := hmne a (by simp only [List.mem_append, List.mem_cons] at ha ⊢; rcases ha with h | h <;> simp [h])
      have e3 : a ≠ c := fun e => by
        subst e
        rcases List.mem_append.1 ha with h | h
        · exact nd1.2.2 a h a (by simp) rfl
        · exact nd2.2.2 a (by simp) a h rfl
      rw [← hH2, upd_ne _ _ e1, upd_ne _ _ e2, upd_ne _ _ e3]
    have outc : ∀ a, a ∈ c :: Fc1 ++ m :: Fc2 → H2 a = upd (upd H c (some (halfL H hr.iso rc (mx / 2)))) m (some (halfR H hr.iso rc (mx / 2))) a := fun a ha => by
      rw [← hH2]
      refine upd_ne _ _ fun e => ?_
      subst e
      simp only [List.mem_append, List.mem_cons] at ha
      rcases ha with (h | h) | (h | h)
      · exact hcn h.symm
      · exact hnF.1 (by simp [h])
      · exact hmne a (by simp) h
      · exact hnF.1 (by simp [h])
    have A1 : RepL (Rep H2 hr.iso h) N1 K1 F1 := A.r1.imp fun a t G hG hR => hR.congr fun a ha => out2 a (by simp [hG a ha])
    have A2 : RepL (Rep H2 hr.iso h) N2 K2 F2 := A.r2.imp fun a t G hG hR => hR.congr fun a ha => out2 a (by simp [hG a ha])
    have AL : Rep H2 hr.iso h c (cutL (mx / 2) k) (c :: Fc1) := RL.congr fun a ha => outc a (by simp only [List.mem_append]; exact .inl ha)
    have AR : Rep H2 hr.iso h m (cutR (mx / 2) k) (m :: Fc2) := RR.congr fun a ha => outc a (by simp only [List.mem_append]; exact .inr ha)
    have hcw := cut_wf A.wk (l1 := mn) (l2 := mn) hi2 (by omega) (by omega)
    have rep2 : Rep H2 hr.iso (h + 1) n (.node (r.items.take i ++ med :: r.items.drop i) (K1 ++ cutL (mx / 2) k :: cutR (mx / 2) k :: K2)) (n :: (F1 ++ c :: Fc1 ++ (m :: Fc2 ++ F2))) := by
      refine ⟨grown r (N1 ++ c :: N2) i m med, N1 ++ c :: m :: N2, _, by rw [← hH2, upd_same], A.isoq, rfl, by simp only [grown, hks], ?_, ?_, rfl⟩
      · rw [hfl]; exact A.cnt
      · rw [List.append_assoc]
        exact RepL.join (R := Rep H2 hr.iso h) (N2 := c :: m :: N2) (K2 := cutL (mx / 2) k :: cutR (mx / 2) k :: K2) ⟨c :: Fc1, m :: Fc2 ++ F2, AL, ⟨m :: Fc2, F2, AR, A2, rfl⟩, rfl⟩ A1
    have nd3 : (n :: (F1 ++ c :: Fc1 ++ (m :: Fc2 ++ F2))).Nodup := by
      have hp : (n :: (F1 ++ c :: Fc1 ++ (m :: Fc2 ++ F2))).Perm (m :: (n :: (F1 ++ c :: (Fc1 ++ Fc2) ++ F2))) := by
        have h1 : (n :: (F1 ++ c :: Fc1) ++ m :: (Fc2 ++ F2)).Perm (m :: (n :: (F1 ++ c :: Fc1) ++ (Fc2 ++ F2))) := List.perm_middle
        simpa using h1
      rw [hp.nodup_iff]
      exact List.nodup_cons.2 ⟨fun h => hmne m h rfl, nd⟩
    have wf2 : wfr 0 mn mx (h + 1) (.node (r.items.take i ++ med :: r.items.drop i) (K1 ++ cutL (mx / 2) k :: cutR (mx / 2) k :: K2)) := by
      have := A.le
      refine ⟨Nat.zero_le _, by simp only [Tr.its, List.length_append, List.length_cons]; omega, by simp only [Tr.its, Tr.ks, List.length_append, List.length_cons]; omega, fun k' hk' => ?_⟩
      simp only [Tr.ks, List.mem_append, List.mem_cons] at hk'
      rcases hk' with hk' | rfl | rfl | hk'
      · exact A.wo k' (by simp [hk'])
      · exact hcw.1
      · exact hcw.2
      · exact A.wo k' (by simp [hk'])
    have P2 : SetPre W2 b hr pq 0 n H2 LL2 (h + 1) (.node (r.items.take i ++ med :: r.items.drop i) (K1 ++ cutL (mx / 2) k :: cutR (mx / 2) k :: K2)) (n :: (F1 ++ c :: Fc1 ++ (m :: Fc2 ++ F2))) mn mx :=
      ⟨hHdr, hcell, st3.mem, rep2, nd3, wf2, by rw [hfl]; exact P.srt, P.hmx, P.h3, P.hb, P.hmn, by rw [hfl]; exact P.big⟩
    have srt2 : Sorted ilt (r.items.take i ++ med :: r.items.drop i) := own_sorted wf2 P2.srt
    have hcL : (cutL (mx / 2) k).its.length = mx / 2 := by show (k.its.take (mx / 2)).length = _; rw [List.length_take]; omega
    have hcR : (cutR (mx / 2) k).its.length = mx - (mx / 2 + 1) := by show (k.its.drop (mx / 2 + 1)).length = _; rw [List.length_drop]; omega
    have kid : ∀ j k', Loc (r.items.take i ++ med :: r.items.drop i) (ky x) j false → (K1 ++ cutL (mx / 2) k :: cutR (mx / 2) k :: K2)[j]? = some k' → k'.its.length ≠ mx := fun j k' hj hk' => by
      rcases loc_split hloc srt2 hj with rfl | rfl
      · rw [List.getElem?_append_right (by omega)] at hk'
        simp [lk] at hk'
        subst hk'
        omega
      · rw [List.getElem?_append_right (by omega)] at hk'
        simp [lk] at hk'
        subst hk'
        omega
    have hnA : ¬ Asks mx (h + 1) (.node (r.items.take i ++ med :: r.items.drop i) (K1 ++ cutL (mx / 2) k :: cutR (mx / 2) k :: K2)) (ky x) := by
      rintro ⟨_, j, c', h1, h2, h5⟩
      exact kid j c' h1 h2 h5.full
    have call : Calls Try.prog 124 #[ptr b, .pointer (some ⟨pq, 0, none⟩), pv x] W2 (SetPost W2 H2 LL2 (n :: (F1 ++ c :: Fc1 ++ (m :: Fc2 ++ F2))) hr.iso mn mx (h + 1) n (.node (r.items.take i ++ med :: r.items.drop i) (K1 ++ cutL (mx / 2) k :: cutR (mx / 2) k :: K2)) x hr.emp) := by
      obtain ⟨j, f, hj⟩ := Loc.ex (ky x) (r.items.take i ++ med :: r.items.drop i) srt2
      cases f with
      | true => exact set_succ_found P2 x hj
      | false =>
        have hjl : j < (K1 ++ cutL (mx / 2) k :: cutR (mx / 2) k :: K2).length := by have := hj.1; simp at this ⊢; omega
        have hk' : (K1 ++ cutL (mx / 2) k :: cutR (mx / 2) k :: K2)[j]? = some ((K1 ++ cutL (mx / 2) k :: cutR (mx / 2) k :: K2)[j]) := List.getElem?_eq_getElem hjl
        exact set_succ_go P2 x hj hk' (fun h => kid j _ hj hk' h.full) (fun w pb po n H L F => IH _ w pb po n H L F)
    refine call.mono ?_
    rintro e W3 (⟨h1, _⟩ | ⟨_, p, t', F', H', L3, rfl, st4, rep', nd', wf', put⟩)
    · exact absurd h1 hnA
    · have st5 := st3.trans st4 (fun a q ha hq => by
        rw [← eF]
        simp only [List.mem_append, List.mem_cons] at ha
        rcases ha with ha | (ha | ha | ha) | ((ha | ha) | ha)
        · simp [ha]
        · simp [ha]
        · simp [ha]
        · simp [ha]
        · subst ha; rw [hmn0] at hq; cases hq
        · simp [ha]
        · simp [ha])
      refine ⟨⟨p, t', F', H', L3, rfl, st5, rep', nd', ?_, ?_⟩, ⟨_, _, _, rfl⟩, ?_⟩
      · refine wf'.weaken ?_
        have := wf'.own_le.1
        have e : (Tr.node (r.items.take i ++ med :: r.items.drop i) (K1 ++ cutL (mx / 2) k :: cutR (mx / 2) k :: K2)).its.length = r.items.length + 1 := by show (r.items.take i ++ med :: r.items.drop i).length = _; simp; omega
        rw [hits]
        omega
      · rw [hfl] at put; exact put
      · refine st4.keep.mono fun a o _ ⟨m', q, _, hq, hf⟩ => ?_
        have := Step.clear P.mem hK st3 m' q hq a o hf
        omega
  · rintro e w' ⟨W, m, med, W', W2, L2, W3, hK, _, _, ⟨p, t', F', H', L3, rfl, st, rep', nd', wf', put⟩, hK3⟩
    refine .inr ⟨fun h => hfull (by rw [← hits]; exact h.full), p, t', F', H', L3, rfl, (Step.pre hK st).post hK3 (fun _ _ h => h.1) (Step.clear P.mem hK st), rep', nd', wf', put⟩

/-- SETTING BELOW A NODE: what it leaves. -/
theorem set_any {b : Nat} {hr : HRec} {mn mx : Nat} (x : It) : ∀ (h : Nat) (t : Tr It) (w : World) (pb po n : Nat) (H : Store It) (L : Nat → Lay) (F : List Nat), SetPre w b hr pb po n H L h t F mn mx →
    Calls Try.prog 124 #[ptr b, .pointer (some ⟨pb, po, none⟩), pv x] w (SetPost w H L F hr.iso mn mx h n t x hr.emp)
  | 0, t, w, pb, po, n, H, L, F, P => set_zero P x
  | h + 1, t, w, pb, po, n, H, L, F, P => by
    obtain ⟨i, f, hloc⟩ := Loc.ex (ky x) t.its (own_sorted P.wf P.srt)
    cases f with
    | true => exact set_succ_found P x hloc
    | false =>
      have hil : i < t.ks.length := by have := hloc.1; have := P.wf.2.2.1; omega
      have hk : t.ks[i]? = some t.ks[i] := List.getElem?_eq_getElem hil
      by_cases ha : Asks mx h t.ks[i] (ky x)
      · by_cases hfull : t.its.length = mx
        · exact set_succ_full P x hloc hk hfull ha (set_any x h _)
        · exact set_succ_retry P x hloc hk hfull ha (set_any x h)
      · exact set_succ_go P x hloc hk ha (set_any x h _)
end Go.Proofs.Ytckplcmieelmpaa.W

namespace Go.Wb
open Go Go.RowKit
variable {α : Type} {T : Ty} {E : Enc α}

/-! ### a node turns -/
/-- Node n's record turns, in its own cells and new ones. -/
structure NTurn (T : Ty) (E : Enc α) (w : World) (n : Nat) (r : NRec α) (L : Lay) (w' : World) (r' : NRec α) (L' : Lay) : Prop where
  at_ : NodeAt T E w' n r' L'
  keep : Keep (fp T n r L) w w'
  fp : ∀ b o, b < w.heap.size → fp T n r' L' b o → fp T n r L b o

theorem NTurn.refl {w : World} {n : Nat} {r : NRec α} {L : Lay} (h : NodeAt T E w n r L) : NTurn T E w n r L w r L := ⟨h, Keep.refl _ _, fun _ _ _ h => h⟩
theorem NTurn.trans {w w1 w2 : World} {n : Nat} {r r1 r2 : NRec α} {L L1 L2 : Lay} (h : NTurn T E w n r L w1 r1 L1) (k : NTurn T E w1 n r1 L1 w2 r2 L2) : NTurn T E w n r L w2 r2 L2 :=
  ⟨k.at_, h.keep.trans k.keep fun b o hb hf => h.fp b o hb hf, fun b o hb hf => h.fp b o hb (k.fp b o (Nat.lt_of_lt_of_le hb h.keep.size) hf)⟩
theorem NTurn.ahead {w w1 w2 : World} {n : Nat} {r r2 : NRec α} {L L2 : Lay} (hk : Keep (fun _ _ => False) w w1) (k : NTurn T E w1 n r L w2 r2 L2) : NTurn T E w n r L w2 r2 L2 :=
  ⟨k.at_, (hk.mono fun _ _ _ h => h.elim).trans k.keep fun _ _ _ h => h, fun b o hb hf => k.fp b o (Nat.lt_of_lt_of_le hb hk.size) hf⟩
theorem NTurn.behind {w w1 w2 : World} {n : Nat} {r r1 : NRec α} {L L1 : Lay} (k : NTurn T E w n r L w1 r1 L1) (hk : Keep (fun _ _ => False) w1 w2) : NTurn T E w n r L w2 r1 L1 :=
  ⟨k.at_.keep hk fun _ _ _ h => h, k.keep.trans (hk.mono fun _ _ _ h => h.elim : Keep (Wb.fp T n r L) w1 w2) fun _ _ _ h => h, k.fp⟩
theorem NTurn.dr {w w1 : World} {n : Nat} {r r1 : NRec α} {L L1 : Lay} (k : NTurn T E w n r L w1 r1 L1) : NTurn T E w n r L w1.drew r1 L1 := k.behind (Keep.drew _ _)

/-- The node's own block. -/
theorem NodeAt.own {w : World} {n : Nat} {r : NRec α} {L : Lay} (h : NodeAt T E w n r L) : w.cell? ⟨n, 0, none⟩ = some (.int .u64 r.iso) ∧ w.cell? ⟨n, 1, none⟩ = some (.int .i64 r.cnt) ∧ w.cell? ⟨n, 2, none⟩ = some (.slice L.ia r.items.length L.icap) ∧
    w.cell? ⟨n, 3, none⟩ = some (kidsVal r.kids L.cb) ∧ ∀ o, w.frozen? ⟨n, o, none⟩ = false := by
  have := h.1
  simp [World.cell?, World.frozen?, this]
/-- The block of a node's children. -/
theorem NodeAt.kids {w : World} {n : Nat} {r : NRec α} {L : Lay} (h : NodeAt T E w n r L) {ks : List Nat} (hk : r.kids = some ks) : w.cell? ⟨n, 3, none⟩ = some (ptr L.cb) ∧ w.cell? ⟨L.cb, 0, none⟩ = some (.slice L.ka ks.length L.kcap) ∧
    (∀ o, w.frozen? ⟨L.cb, o, none⟩ = false) ∧ Row w T.nodeP 1 L.ka L.kcap (ks.map ptr) ∧ ks.length ≤ L.kcap := by
  have h1 := h.own
  obtain ⟨h5, h6, h7⟩ := h.2.2.2 ks hk
  refine ⟨by rw [h1.2.2.2.1, hk]; rfl, ?_, ?_, h6, h7⟩
  · simp [World.cell?, h5]
  · simp [World.frozen?, h5]

section ops
variable {w : World} {n : Nat} {r : NRec α} {L : Lay}

theorem nt_head (ok : TyOk T) (h : NodeAt T E w n r L) {w' : World} {iso cnt : Int} (hk : Keep (fun b _ => b = n) w w') (hb : w'.heap[n]? = some (.cells #[.int .u64 iso, .int .i64 cnt, .slice L.ia r.items.length L.icap, kidsVal r.kids L.cb] T.node (0, 0))) :
    NTurn T E w n r L w' { r with iso := iso, cnt := cnt } L :=
  ⟨h.reset ok hk hb, hk.mono fun _ _ _ h => .inl h, fun _ _ _ h => h⟩
/-- n.count = c -/
theorem nt_cnt (ok : TyOk T) (h : NodeAt T E w n r L) (c : Int) : NTurn T E w n r L (w.setCell ⟨n, 1, none⟩ (.int .i64 c)) { r with cnt := c } L :=
  nt_head ok h ((Keep.refl _ _).set _ _ _ fun _ => rfl) (by rw [blk_set _ h.1]; rfl)
theorem nt_iso (ok : TyOk T) (h : NodeAt T E w n r L) (c : Int) : NTurn T E w n r L (w.setCell ⟨n, 0, none⟩ (.int .u64 c)) { r with iso := c } L :=
  nt_head ok h ((Keep.refl _ _).set _ _ _ fun _ => rfl) (by rw [blk_set _ h.1]; rfl)

/-- The row of the items is another one, or has turned: n.items = .. -/
theorem nt_items (ok : TyOk T) (h : NodeAt T E w n r L) {w1 : World} {its : List α} {a : Option Addr} {cap : Nat} (hk : Keep (rowFp L.ia (L.icap * T.s)) w w1) (hrow : Row w1 T.pair T.s a cap (E.all its)) (hle : its.length ≤ cap)
    (hfp : ∀ b o, b < w.heap.size → rowFp a (cap * T.s) b o → rowFp L.ia (L.icap * T.s) b o) :
    NTurn T E w n r L (w1.setCell ⟨n, 2, none⟩ (.slice a its.length cap)) { r with items := its } { L with ia := a, icap := cap } := by
  have hnp : ∀ b o, rowFp L.ia (L.icap * T.s) b o → b ≠ n := fun b o hf e => by
    obtain ⟨arr, ha⟩ := h.2.1.block ⟨_, hf⟩
    subst e
    exact blk_ne h.1 ha ok.a rfl
  have hb1 : w1.heap[n]? = some (.cells #[.int .u64 r.iso, .int .i64 r.cnt, .slice L.ia r.items.length L.icap, kidsVal r.kids L.cb] T.node (0, 0)) := blk_keep h.1 hk fun o hf => hnp _ _ hf rfl
  have hk2 : Keep (fun b o => b = n ∧ o = 2) w1 (w1.setCell ⟨n, 2, none⟩ (.slice a its.length cap)) := (Keep.refl _ _).set _ _ _ fun _ => ⟨rfl, rfl⟩
  refine ⟨⟨by rw [blk_set _ hb1]; rfl, ?_, hle, fun ks hks => ?_⟩, ?_, ?_⟩
  · refine hrow.keep' hk2 fun b o hf e => ?_
    obtain ⟨arr, ha⟩ := hrow.block ⟨_, hf⟩
    rw [e.1] at ha
    exact blk_ne hb1 ha ok.a rfl
  · obtain ⟨h5, h6, h7⟩ := h.2.2.2 ks hks
    have h5' : w1.heap[L.cb]? = _ := blk_keep h5 hk fun o hf => by
      obtain ⟨arr, ha⟩ := h.2.1.block ⟨_, hf⟩
      exact blk_ne ha h5 ok.d rfl
    have h6' : Row w1 T.nodeP 1 L.ka L.kcap (ks.map ptr) := h6.keep' hk fun b o hf hg => by
      obtain ⟨arr, ha⟩ := h.2.1.block ⟨_, hg⟩
      obtain ⟨arr', ha'⟩ := h6.block ⟨_, hf⟩
      exact blk_ne ha ha' ok.f rfl
    refine ⟨blk_keep h5' hk2 fun o e => ?_, h6'.keep' hk2 fun b o hf e => ?_, h7⟩
    · exact blk_ne hb1 h5' ok.c e.1.symm
    · obtain ⟨arr', ha'⟩ := h6'.block ⟨_, hf⟩
      rw [e.1] at ha'
      exact blk_ne hb1 ha' ok.b rfl
  · exact (hk.mono fun b o _ hf => .inr (.inl hf) : Keep (Wb.fp T n r L) w w1).trans hk2 fun b o _ e => .inl e.1
  · rintro b o hb (e | hf | hf)
    · exact .inl e
    · exact .inr (.inl (hfp b o hb hf))
    · exact .inr (.inr hf)

/-- append to the items -/
theorem nt_append (ok : TyOk T) (h : NodeAt T E w n r L) {w0 w1 : World} {its : List α} {news : List Value} {a' : Option Addr} {m cap' : Nat} (hk0 : Keep (fun _ _ => False) w w0) (hg : Grew w0 w1 T.pair T.s L.ia a' r.items.length m L.icap cap' (E.all r.items ++ news)) (hn : E.all r.items ++ news = E.all its) (hl : its.length = r.items.length + m) :
    NTurn T E w n r L (w1.setCell ⟨n, 2, none⟩ (.slice a' (r.items.length + m) cap')) { r with items := its } { L with ia := a', icap := cap' } := by
  have h0 := h.keep hk0 fun _ _ _ h => h
  rw [← hl]
  refine NTurn.ahead hk0 (nt_items ok h0 (hg.keep.mono fun b o _ hf => ?_) (hn ▸ hg.row) (by rw [hl]; exact hg.cap) fun b o hb hf => ?_)
  · obtain ⟨x, y, e1, e2, e3, e4⟩ := hf
    exact ⟨x, y, e1, e2, by omega, e4⟩
  · rcases hg.fp b o hf with h | ⟨h, _⟩
    · exact h
    · omega
theorem nt_append1 (ok : TyOk T) (h : NodeAt T E w n r L) {w0 w1 : World} {x : α} {a' : Option Addr} {cap' : Nat} (hk0 : Keep (fun _ _ => False) w w0) (hg : Grew w0 w1 T.pair T.s L.ia a' r.items.length 1 L.icap cap' (E.all r.items ++ E.enc x)) :
    NTurn T E w n r L (w1.setCell ⟨n, 2, none⟩ (.slice a' (r.items.length + 1) cap')) { r with items := r.items ++ [x] } { L with ia := a', icap := cap' } :=
  nt_append ok h hk0 hg (by simp [Enc.all]) (by simp)

/-- Cells of the items turn in place. -/
theorem nt_row (ok : TyOk T) (h : NodeAt T E w n r L) {w1 : World} {its : List α} (hk : Keep (rowFp L.ia (L.icap * T.s)) w w1) (hrow : Row w1 T.pair T.s L.ia L.icap (E.all its)) (hl : its.length = r.items.length) :
    NTurn T E w n r L w1 { r with items := its } L := by
  have hb1 : w1.heap[n]? = some (.cells #[.int .u64 r.iso, .int .i64 r.cnt, .slice L.ia its.length L.icap, kidsVal r.kids L.cb] T.node (0, 0)) := by
    rw [hl]
    exact blk_keep h.1 hk fun o hf => by
      obtain ⟨arr, ha⟩ := h.2.1.block ⟨_, hf⟩
      exact blk_ne h.1 ha ok.a rfl
  refine ⟨⟨hb1, hrow, by rw [hl]; exact h.2.2.1, fun ks hks => ?_⟩, hk.mono fun b o _ hf => .inr (.inl hf), fun _ _ _ h => h⟩
  obtain ⟨h5, h6, h7⟩ := h.2.2.2 ks hks
  refine ⟨blk_keep h5 hk fun o hf => ?_, h6.keep' hk fun b o hf hg => ?_, h7⟩
  · obtain ⟨arr, ha⟩ := h.2.1.block ⟨_, hf⟩
    exact blk_ne ha h5 ok.d rfl
  · obtain ⟨arr, ha⟩ := h.2.1.block ⟨_, hg⟩
    obtain ⟨arr', ha'⟩ := h6.block ⟨_, hf⟩
    exact blk_ne ha ha' ok.f rfl

theorem all_set' (l : List α) {i : Nat} (hi : i < l.length) (x : α) : E.all (l.set i x) = (E.all l).take (i * E.s) ++ E.enc x ++ (E.all l).drop (i * E.s + (E.enc x).length) := by
  rw [List.set_eq_take_append_cons_drop, if_pos hi, E.all_append, E.all_cons, E.all_take, E.all_drop, E.len, show (i + 1) * E.s = i * E.s + E.s by rw [Nat.add_mul]; omega, List.append_assoc]

/-- n.items[i] = x -/
theorem nt_set (ok : TyOk T) (hs : T.s = E.s) (h : NodeAt T E w n r L) {i : Nat} (hi : i < r.items.length) {ib io : Nat} (hia : L.ia = some ⟨ib, io, none⟩) (x : α) :
    NTurn T E w n r L (w.setCells ib (io + i * T.s) (E.enc x)) { r with items := r.items.set i x } L := by
  have hrow := h.2.1
  have hle := h.2.2.1
  have e1 : i * T.s + T.s ≤ r.items.length * T.s := by rw [← Nat.add_one_mul]; exact Nat.mul_le_mul_right _ hi
  have e2 : r.items.length * T.s ≤ L.icap * T.s := Nat.mul_le_mul_right _ hle
  rw [hia] at hrow
  refine nt_row ok h (Keep.setCells _ _ _ _ fun j hj => ⟨_, _, hia, rfl, by omega, ?_⟩) ?_ (by simp)
  · rw [E.len, ← hs] at hj; omega
  · rw [hia]
    have := hrow.setCells (E.enc x) (k := i * T.s) (by rw [E.len, E.all_len, ← hs]; omega)
    rw [all_set' _ hi, ← hs]
    exact this

/-- n.items = n.items[:k] -/
theorem nt_cut (ok : TyOk T) (h : NodeAt T E w n r L) {k : Nat} (hk : k ≤ r.items.length) : NTurn T E w n r L (w.setCell ⟨n, 2, none⟩ (.slice L.ia k L.icap)) { r with items := r.items.take k } L := by
  have hl : (r.items.take k).length = k := by simp; omega
  have hrow := h.2.1.take (k * E.s)
  rw [← E.all_take] at hrow
  have := nt_items ok h (its := r.items.take k) (Keep.refl _ _) hrow (by have := h.2.2.1; omega) (fun _ _ _ h => h)
  rwa [hl] at this

/-- a new slice of children, or the old one turned: *n.children = .. -/
theorem nt_kids (ok : TyOk T) (h : NodeAt T E w n r L) {ks : List Nat} (hks : r.kids = some ks) {w1 : World} {ks' : List Nat} {a : Option Addr} {cap : Nat} (hk : Keep (rowFp L.ka L.kcap) w w1) (hrow : Row w1 T.nodeP 1 a cap (ks'.map ptr)) (hle : ks'.length ≤ cap)
    (hfp : ∀ b o, b < w.heap.size → rowFp a cap b o → rowFp L.ka L.kcap b o) :
    NTurn T E w n r L (w1.setCell ⟨L.cb, 0, none⟩ (.slice a ks'.length cap)) { r with kids := some ks' } { L with ka := a, kcap := cap } := by
  obtain ⟨h5, h6, h7⟩ := h.2.2.2 ks hks
  have off : ∀ b o c t, rowFp L.ka L.kcap b o → T.nodeP ≠ t → w.heap[b]? = some (.cells c t (0, 0)) → False := fun b o c t hf ht hb => by
    obtain ⟨arr, ha⟩ := h6.block ⟨_, hf⟩
    exact blk_ne ha hb ht rfl
  have hb1 := blk_keep h.1 hk fun o hf => off _ _ _ _ hf ok.b.symm h.1
  have hc1 := blk_keep h5 hk fun o hf => off _ _ _ _ hf ok.e h5
  have hr1 : Row w1 T.pair T.s L.ia L.icap (E.all r.items) := h.2.1.keep' hk fun b o hf hg => by
    obtain ⟨arr, ha⟩ := h.2.1.block ⟨_, hf⟩
    exact off b o _ _ hg ok.f.symm ha
  have hk2 : Keep (fun b o => b = L.cb ∧ o = 0) w1 (w1.setCell ⟨L.cb, 0, none⟩ (.slice a ks'.length cap)) := (Keep.refl _ _).set _ _ _ fun _ => ⟨rfl, rfl⟩
  have hkv : kidsVal r.kids L.cb = kidsVal (some ks') L.cb := by rw [hks]; rfl
  rw [hkv] at hb1
  refine ⟨⟨blk_keep hb1 hk2 fun o e => ?_, hr1.keep' hk2 fun b o hf e => ?_, h.2.2.1, fun ks2 hks2 => ?_⟩, ?_, ?_⟩
  · exact blk_ne hb1 hc1 ok.c e.1
  · obtain ⟨arr, ha⟩ := hr1.block ⟨_, hf⟩
    rw [e.1] at ha
    exact blk_ne ha hc1 ok.d rfl
  · obtain rfl : ks' = ks2 := Option.some.inj hks2
    refine ⟨by show (w1.setCell ⟨L.cb, 0, none⟩ _).heap[L.cb]? = _; rw [blk_set _ hc1]; rfl, ?_, hle⟩
    refine hrow.keep' hk2 fun b o hf e => ?_
    obtain ⟨arr, ha⟩ := hrow.block ⟨_, hf⟩
    rw [e.1] at ha
    exact blk_ne ha hc1 ok.e rfl
  · exact (hk.mono fun b o _ hf => .inr (.inr ⟨by simp [hks], .inr hf⟩) : Keep (Wb.fp T n r L) w w1).trans hk2 fun b o _ e => .inr (.inr ⟨by simp [hks], .inl e.1⟩)
  · rintro b o hb (e | hf | ⟨_, hf | hf⟩)
    · exact .inl e
    · exact .inr (.inl hf)
    · exact .inr (.inr ⟨by simp [hks], .inl hf⟩)
    · exact .inr (.inr ⟨by simp [hks], .inr (hfp b o hb hf)⟩)

theorem nk_append (ok : TyOk T) (h : NodeAt T E w n r L) {ks : List Nat} (hks : r.kids = some ks) {w0 w1 : World} {new : List Nat} {a' : Option Addr} {m cap' : Nat} (hk0 : Keep (fun _ _ => False) w w0) (hg : Grew w0 w1 T.nodeP 1 L.ka a' ks.length m L.kcap cap' (ks.map ptr ++ new.map ptr)) (hm : new.length = m) :
    NTurn T E w n r L (w1.setCell ⟨L.cb, 0, none⟩ (.slice a' (ks.length + m) cap')) { r with kids := some (ks ++ new) } { L with ka := a', kcap := cap' } := by
  have h0 := h.keep hk0 fun _ _ _ h => h
  have hl : (ks ++ new).length = ks.length + m := by simp [hm]
  rw [← hl]
  refine NTurn.ahead hk0 (nt_kids ok h0 hks (hg.keep.mono fun b o _ hf => ?_) (by rw [List.map_append]; exact hg.row) (by rw [hl]; exact hg.cap) fun b o hb hf => ?_)
  · obtain ⟨x, y, e1, e2, e3, e4⟩ := hf
    exact ⟨x, y, e1, e2, by omega, by simpa using e4⟩
  · rcases hg.fp b o (by simpa using hf) with h | ⟨h, _⟩
    · simpa using h
    · omega

/-- cells of the children turn in place -/
theorem nk_row (ok : TyOk T) (h : NodeAt T E w n r L) {ks : List Nat} (hks : r.kids = some ks) {w1 : World} {ks' : List Nat} (hk : Keep (rowFp L.ka L.kcap) w w1) (hrow : Row w1 T.nodeP 1 L.ka L.kcap (ks'.map ptr)) (hl : ks'.length = ks.length) :
    NTurn T E w n r L w1 { r with kids := some ks' } L := by
  obtain ⟨h5, h6, h7⟩ := h.2.2.2 ks hks
  have off : ∀ b o c t, rowFp L.ka L.kcap b o → T.nodeP ≠ t → w.heap[b]? = some (.cells c t (0, 0)) → False := fun b o c t hf ht hb => by
    obtain ⟨arr, ha⟩ := h6.block ⟨_, hf⟩
    exact blk_ne ha hb ht rfl
  have hb1 := blk_keep h.1 hk fun o hf => off _ _ _ _ hf ok.b.symm h.1
  have hkv : kidsVal r.kids L.cb = kidsVal (some ks') L.cb := by rw [hks]; rfl
  rw [hkv] at hb1
  refine ⟨⟨hb1, h.2.1.keep' hk fun b o hf hg => ?_, h.2.2.1, fun ks2 hks2 => ?_⟩, hk.mono fun b o _ hf => .inr (.inr ⟨by simp [hks], .inr hf⟩), ?_⟩
  · obtain ⟨arr, ha⟩ := h.2.1.block ⟨_, hf⟩
    exact off b o _ _ hg ok.f.symm ha
  · obtain rfl : ks' = ks2 := Option.some.inj hks2
    refine ⟨?_, hrow, by rw [hl]; exact h7⟩
    rw [hl]
    exact blk_keep h5 hk fun o hf => off _ _ _ _ hf ok.e h5
  · rintro b o hb (e | hf | ⟨_, hf⟩)
    · exact .inl e
    · exact .inr (.inl hf)
    · exact .inr (.inr ⟨by simp [hks], hf⟩)

/-- (*n.children)[i] = m -/
theorem nk_set (ok : TyOk T) (h : NodeAt T E w n r L) {ks : List Nat} (hks : r.kids = some ks) {i : Nat} (hi : i < ks.length) {kb ko : Nat} (hka : L.ka = some ⟨kb, ko, none⟩) (m : Nat) :
    NTurn T E w n r L (w.setCell ⟨kb, ko + i, none⟩ (ptr m)) { r with kids := some (ks.set i m) } L := by
  obtain ⟨h5, h6, h7⟩ := h.2.2.2 ks hks
  refine nk_row ok h hks ((Keep.refl _ _).set _ _ _ fun _ => ⟨_, _, hka, rfl, by omega, by omega⟩) ?_ (by simp)
  rw [hka] at h6 ⊢
  rw [List.map_set]
  exact h6.setCell (ptr m) (by simpa using hi)

/-- *n.children = (*n.children)[:k] -/
theorem nk_cut (ok : TyOk T) (h : NodeAt T E w n r L) {ks : List Nat} (hks : r.kids = some ks) {k : Nat} (hk : k ≤ ks.length) : NTurn T E w n r L (w.setCell ⟨L.cb, 0, none⟩ (.slice L.ka k L.kcap)) { r with kids := some (ks.take k) } L := by
  obtain ⟨h5, h6, h7⟩ := h.2.2.2 ks hks
  have hl : (ks.take k).length = k := by simp; omega
  have := nt_kids ok h hks (ks' := ks.take k) (Keep.refl _ _) (by rw [List.map_take]; exact h6.take k) (by omega) (fun _ _ _ h => h)
  rwa [hl] at this
end ops

/-! ### the builtin copy -/
/-- Into a row, from wherever. -/
theorem run_copyCells {P : Program} (w : World) (t ty e s : Nat) (hu : P.underlying t = some (.slice e)) (hs : (P.info? e).map (·.size) = some s) {b o cap n i m ld ls : Nat} {xs cs : List Value}
    (hrow : Row w e s (some ⟨b, o, none⟩) cap xs) (hn : xs.length = n * s) (hm : Nat.min ls ld = m) (hi : i + m ≤ n) (hcs : cs.length = m * s) (d a : Option Addr) (hd : 0 < m → d = some ⟨b, o + i * s, none⟩)
    (ha : 0 < m → ∃ x, a = some x ∧ ∀ j v, cs[j]? = some v → w.cell? (x.add j) = some v) (c1 c2 : Nat) (one : ∀ v ∈ cs, v.oneCell' = true) :
    ∃ w', (Builtin.copy_ #[t, t] ty #[.slice d ld c1, .slice a ls c2]).run P w = .ok (goInt (m : Nat)) w' ∧
      Keep (fun x y => x = b ∧ o + i * s ≤ y ∧ y < o + (i + m) * s) w w' ∧ Row w' e s (some ⟨b, o, none⟩) cap (xs.take (i * s) ++ cs ++ xs.drop (i * s + cs.length)) := by
  cases hq : P.info? e with
  | none => simp [hq] at hs
  | some inf =>
    have hz : inf.size = s := by simpa [hq] using hs
    have hle : i * s + m * s ≤ n * s := by rw [← Nat.add_mul]; exact Nat.mul_le_mul_right _ hi
    by_cases hlt : 0 < m
    · obtain ⟨x, rfl, hsrc⟩ := ha hlt
      rw [hd hlt]
      obtain ⟨arr, h2, h3, h4, h5⟩ := hrow.getElem
      have hl := run_loadCells_list (P := P) w x cs hsrc
      have hst := run_storeCells_cells (P := P) b (o + i * s) cs 0 w (fun j hj => by
          have : o + i * s + 0 + j < arr.size := by omega
          simp [World.cell?, h2]; omega) (fun j hj => by simp [World.frozen?, h2]) one
      refine ⟨w.setCells b (o + i * s) cs, ?_, ?_, ?_⟩
      · rw [hcs] at hl
        simp [Builtin.copy_, run_underlying hu, Builtin.lenOf, Builtin.firstCells, sizeOf, typeInfo, hq, hz, hm, hl, hst]
      · exact Keep.setCells b cs _ w fun j hj => ⟨rfl, by omega, by rw [Nat.add_mul]; omega⟩
      · exact hrow.setCells cs (k := i * s) (by omega)
    · obtain rfl : m = 0 := by omega
      refine ⟨w, ?_, Keep.refl _ _, ?_⟩
      · have hl : ∀ (x : Addr), (loadCells x 0).run P w = .ok #[] w := fun x => by simpa using run_loadCells_list (P := P) w x [] (by simp)
        cases d <;> cases a <;> simp [Builtin.copy_, run_underlying hu, Builtin.lenOf, Builtin.firstCells, sizeOf, typeInfo, hq, hm, storeCells, hl]
      · obtain rfl : cs = [] := List.eq_nil_of_length_eq_zero (by simpa using hcs)
        simpa using hrow

theorem add_cell (b o j : Nat) : (⟨b, o, none⟩ : Addr).add j = ⟨b, o + j, none⟩ := by unfold Addr.add; split <;> simp_all

/-- Within one row. -/
theorem run_copyRow {P : Program} (w : World) (t ty e s : Nat) (hu : P.underlying t = some (.slice e)) (hs : (P.info? e).map (·.size) = some s) {b o cap n i j m ld ls : Nat} {xs : List Value}
    (hrow : Row w e s (some ⟨b, o, none⟩) cap xs) (hn : xs.length = n * s) (hm : Nat.min ls ld = m) (hi : i + m ≤ n) (hj : j + m ≤ n) (d a : Option Addr) (hd : 0 < m → d = some ⟨b, o + i * s, none⟩) (ha : 0 < m → a = some ⟨b, o + j * s, none⟩) (c1 c2 : Nat) (one : ∀ v ∈ xs, v.oneCell' = true) :
    ∃ w', (Builtin.copy_ #[t, t] ty #[.slice d ld c1, .slice a ls c2]).run P w = .ok (goInt (m : Nat)) w' ∧
      Keep (fun x y => x = b ∧ o + i * s ≤ y ∧ y < o + (i + m) * s) w w' ∧ Row w' e s (some ⟨b, o, none⟩) cap (xs.take (i * s) ++ (xs.drop (j * s)).take (m * s) ++ xs.drop ((i + m) * s)) := by
  have hle : j * s + m * s ≤ n * s := by rw [← Nat.add_mul]; exact Nat.mul_le_mul_right _ hj
  have hcl : ((xs.drop (j * s)).take (m * s)).length = m * s := by simp; omega
  obtain ⟨w', h1, h2, h3⟩ := run_copyCells (P := P) w t ty e s hu hs hrow hn hm hi hcl d a hd (fun h => ⟨_, ha h, fun k v hk => by
      rw [add_cell, Nat.add_assoc]
      refine hrow.cell ?_
      rw [List.getElem?_take] at hk
      split at hk
      · rwa [List.getElem?_drop] at hk
      · cases hk⟩) c1 c2 (fun v hv => one v (List.mem_of_mem_drop (List.mem_of_mem_take hv)))
  refine ⟨w', h1, h2, ?_⟩
  rw [hcl, ← Nat.add_mul] at h3
  exact h3

section ops2
variable {w : World} {n : Nat} {r : NRec α} {L : Lay}
/-- copy(n.items[i:], n.items[j:]), m items -/
theorem nt_copy (ok : TyOk T) (hs : T.s = E.s) (h : NodeAt T E w n r L) {ib io : Nat} (hia : L.ia = some ⟨ib, io, none⟩) {i j m : Nat} (hi : i + m ≤ r.items.length) (hj : j + m ≤ r.items.length) {w' : World}
    (hk : Keep (fun x y => x = ib ∧ io + i * T.s ≤ y ∧ y < io + (i + m) * T.s) w w') (hrow : Row w' T.pair T.s (some ⟨ib, io, none⟩) L.icap ((E.all r.items).take (i * T.s) ++ ((E.all r.items).drop (j * T.s)).take (m * T.s) ++ (E.all r.items).drop ((i + m) * T.s))) :
    NTurn T E w n r L w' { r with items := r.items.take i ++ (r.items.drop j).take m ++ r.items.drop (i + m) } L := by
  have hle := h.2.2.1
  have e2 : (i + m) * T.s ≤ L.icap * T.s := Nat.mul_le_mul_right _ (by omega)
  refine nt_row ok h (hk.mono fun x y _ ⟨e, h1, h2⟩ => ⟨ib, io, hia, e, by omega, by omega⟩) ?_ (by simp; omega)
  rw [E.all_append, E.all_append, E.all_take, E.all_take, E.all_drop, E.all_drop, hia, ← hs]
  exact hrow
/-- copy((*n.children)[i:], (*n.children)[j:]), m children -/
theorem nk_copy (ok : TyOk T) (h : NodeAt T E w n r L) {ks : List Nat} (hks : r.kids = some ks) {kb ko : Nat} (hka : L.ka = some ⟨kb, ko, none⟩) {i j m : Nat} (hi : i + m ≤ ks.length) (hj : j + m ≤ ks.length) {w' : World}
    (hk : Keep (fun x y => x = kb ∧ ko + i * 1 ≤ y ∧ y < ko + (i + m) * 1) w w') (hrow : Row w' T.nodeP 1 (some ⟨kb, ko, none⟩) L.kcap ((ks.map ptr).take (i * 1) ++ ((ks.map ptr).drop (j * 1)).take (m * 1) ++ (ks.map ptr).drop ((i + m) * 1))) :
    NTurn T E w n r L w' { r with kids := some (ks.take i ++ (ks.drop j).take m ++ ks.drop (i + m)) } L := by
  obtain ⟨h5, h6, h7⟩ := h.2.2.2 ks hks
  refine nk_row ok h hks (hk.mono fun x y _ ⟨e, h1, h2⟩ => ⟨kb, ko, hka, e, by omega, by omega⟩) ?_ (by simp; omega)
  rw [hka]
  simp only [Nat.mul_one] at hrow
  simp only [List.map_append, List.map_take, List.map_drop]
  exact hrow
end ops2

/-! ### what a walk owns -/
inductive Res (α : Type) where
  | node (n : Nat) (r : NRec α) (L : Lay)
  | blk (b : Nat) (cs : Array Value) (ty : TypeId)
def Res.ok (T : Ty) (E : Enc α) (w : World) : Res α → Prop
  | .node n r L => NodeAt T E w n r L
  | .blk b cs ty => w.heap[b]? = some (.cells cs ty (0, 0))
def Res.fp (T : Ty) : Res α → Nat → Nat → Prop
  | .node n r L => Wb.fp T n r L
  | .blk b _ _ => fun x _ => x = b
theorem Res.lt {w : World} {r : Res α} (h : r.ok T E w) {b o : Nat} (hf : r.fp T b o) : b < w.heap.size := by
  cases r with
  | node n r L => exact NodeAt.lt h hf
  | blk c cs ty => obtain rfl : b = c := hf; exact lt_of_heap h
theorem Res.keep {S : Nat → Nat → Prop} {w w' : World} {r : Res α} (h : r.ok T E w) (hk : Keep S w w') (hS : ∀ b o, r.fp T b o → ¬ S b o) : r.ok T E w' := by
  cases r with
  | node n r L => exact NodeAt.keep h hk hS
  | blk c cs ty => exact blk_keep h hk fun o => hS c o rfl

structure Own (T : Ty) (E : Enc α) (S : Nat → Nat → Prop) (w0 w : World) (l : List (Res α)) : Prop where
  ok : ∀ (i : Nat) (r : Res α), l[i]? = some r → r.ok T E w
  apart : ∀ (i j : Nat) (r q : Res α), i ≠ j → l[i]? = some r → l[j]? = some q → ∀ b o, r.fp T b o → q.fp T b o → False
  keep : Keep S w0 w
  old : ∀ (i : Nat) (r : Res α), l[i]? = some r → ∀ b o, b < w0.heap.size → r.fp T b o → S b o

variable {S : Nat → Nat → Prop} {w0 w w' : World} {l : List (Res α)}

theorem Own.nil (S : Nat → Nat → Prop) (w : World) : Own T E S w w [] := ⟨fun i r h => by simp at h, fun i j r q _ h => by simp at h, Keep.refl _ _, fun i r h => by simp at h⟩

theorem Own.turn (h : Own T E S w0 w l) (i : Nat) {r r' : Res α} (hi : l[i]? = some r) (hk : Keep (r.fp T) w w') (hok : r'.ok T E w') (hfp : ∀ b o, b < w.heap.size → r'.fp T b o → r.fp T b o) : Own T E S w0 w' (l.set i r') := by
  have get : ∀ j q, (l.set i r')[j]? = some q → (j = i ∧ q = r') ∨ (j ≠ i ∧ l[j]? = some q) := fun j q hj => by
    rw [List.getElem?_set] at hj
    split at hj
    · rename_i e
      split at hj
      · exact .inl ⟨e.symm, (Option.some.inj hj).symm⟩
      · cases hj
    · rename_i e
      exact .inr ⟨fun e' => e e'.symm, hj⟩
  refine ⟨fun j q hj => ?_, fun j k p q hjk hj hk' b o hf hg => ?_, h.keep.trans hk fun x o hx hf => h.old i r hi x o hx hf, fun j q hj b o hb hf => ?_⟩
  · rcases get j q hj with ⟨rfl, rfl⟩ | ⟨e, hq⟩
    · exact hok
    · exact Res.keep (h.ok j q hq) hk fun b o hf hg => h.apart j i q r e hq hi b o hf hg
  · rcases get j p hj with ⟨rfl, rfl⟩ | ⟨e, hp⟩ <;> rcases get k q hk' with ⟨rfl, rfl⟩ | ⟨e', hq⟩
    · exact hjk rfl
    · exact h.apart j k r q hjk hi hq b o (hfp b o (Res.lt (h.ok k q hq) hg) hf) hg
    · exact h.apart j k p r hjk hp hi b o hf (hfp b o (Res.lt (h.ok j p hp) hf) hg)
    · exact h.apart j k p q hjk hp hq b o hf hg
  · rcases get j q hj with ⟨rfl, rfl⟩ | ⟨e, hq⟩
    · exact h.old j r hi b o hb (hfp b o (Nat.lt_of_lt_of_le hb h.keep.size) hf)
    · exact h.old j q hq b o hb hf

theorem Own.nt (h : Own T E S w0 w l) (i : Nat) {n : Nat} {r r' : NRec α} {L L' : Lay} (hi : l[i]? = some (.node n r L)) (t : NTurn T E w n r L w' r' L') : Own T E S w0 w' (l.set i (.node n r' L')) :=
  h.turn i hi t.keep t.at_ t.fp

theorem Own.calm (h : Own T E S w0 w l) (hk : Keep (fun _ _ => False) w w') : Own T E S w0 w' l :=
  ⟨fun i r hi => Res.keep (h.ok i r hi) hk fun _ _ _ h => h, h.apart, h.keep.trans hk fun _ _ _ h => h.elim, h.old⟩
theorem Own.dr (h : Own T E S w0 w l) : Own T E S w0 w.drew l := h.calm (Keep.drew _ _)
theorem Own.drN (h : Own T E S w0 w l) (k : Nat) : Own T E S w0 (w.drewN k) l := h.calm (Keep.drewN _ _ _)

/-- Something new. -/
theorem Own.add (h : Own T E S w0 w l) (hk : Keep (fun _ _ => False) w w') {r : Res α} (hr : r.ok T E w') (hnew : ∀ b o, r.fp T b o → w.heap.size ≤ b) : Own T E S w0 w' (l ++ [r]) := by
  have get : ∀ j q, (l ++ [r])[j]? = some q → (j < l.length ∧ l[j]? = some q) ∨ (j = l.length ∧ q = r) := fun j q hj => by
    rw [List.getElem?_append] at hj
    split at hj
    · rename_i e; exact .inl ⟨e, hj⟩
    · rename_i e
      have : j - l.length = 0 := by
        cases e2 : j - l.length with
        | zero => rfl
        | succ k => rw [e2] at hj; simp at hj
      rw [this] at hj
      exact .inr ⟨by omega, (Option.some.inj hj).symm⟩
  refine ⟨fun j q hj => ?_, fun j k p q hjk hj hk' b o hf hg => ?_, h.keep.trans hk fun _ _ _ h => h.elim, fun j q hj b o hb hf => ?_⟩
  · rcases get j q hj with ⟨_, hq⟩ | ⟨_, rfl⟩
    · exact Res.keep (h.ok j q hq) hk fun _ _ _ h => h
    · exact hr
  · rcases get j p hj with ⟨_, hp⟩ | ⟨e, rfl⟩ <;> rcases get k q hk' with ⟨_, hq⟩ | ⟨e', rfl⟩
    · exact h.apart j k p q hjk hp hq b o hf hg
    · have := hnew b o hg; have := Res.lt (h.ok j p hp) hf; omega
    · have := hnew b o hf; have := Res.lt (h.ok k q hq) hg; omega
    · omega
  · rcases get j q hj with ⟨_, hq⟩ | ⟨_, rfl⟩
    · exact h.old j q hq b o hb hf
    · have := hnew b o hf; have := h.keep.size; omega

theorem Own.alloc (h : Own T E S w0 w l) (cs : Array Value) (ty : TypeId) : Own T E S w0 (w.alloc (.cells cs ty)) (l ++ [.blk w.heap.size cs ty]) :=
  h.add (Keep.alloc _ _ _) (heap_alloc_new w _) (by rintro b o rfl; exact Nat.le_refl _)

theorem Own.set (h : Own T E S w0 w l) (i : Nat) {b : Nat} {cs : Array Value} {ty : TypeId} (hi : l[i]? = some (.blk b cs ty)) (o : Nat) (v : Value) : Own T E S w0 (w.setCell ⟨b, o, none⟩ v) (l.set i (.blk b (cs.setIfInBounds o v) ty)) :=
  h.turn i hi ((Keep.refl _ _).set _ _ _ fun _ => rfl) (blk_set v (h.ok i _ hi)) fun _ _ _ h => h

/-- Some of what is owned. -/
theorem Own.sub (h : Own T E S w0 w l) {l' : List (Res α)} (f : Nat → Nat) (hf : ∀ i r, l'[i]? = some r → l[f i]? = some r) (inj : ∀ i j, f i = f j → i = j) : Own T E S w0 w l' :=
  ⟨fun i r hi => h.ok _ r (hf i r hi), fun i j r q hij hi hj => h.apart _ _ r q (fun e => hij (inj i j e)) (hf i r hi) (hf j q hj), h.keep, fun i r hi => h.old _ r (hf i r hi)⟩

theorem Own.blk_ (h : Own T E S w0 w l) (i : Nat) {b : Nat} {cs : Array Value} {ty : TypeId} (hi : l[i]? = some (.blk b cs ty)) : w.heap[b]? = some (.cells cs ty (0, 0)) := h.ok i _ hi
theorem Own.node_ (h : Own T E S w0 w l) (i : Nat) {n : Nat} {r : NRec α} {L : Lay} (hi : l[i]? = some (.node n r L)) : NodeAt T E w n r L := h.ok i _ hi

/-- The nodes ps. -/
def nodesOf (L : Nat → Lay) (ps : List (Nat × NRec α)) : List (Res α) := ps.map fun p => .node p.1 p.2 (L p.1)
theorem Own.of_mem {H : Store α} {L : Nat → Lay} (hm : Mem T E w H L) (ps : List (Nat × NRec α)) (hp : ∀ p ∈ ps, H p.1 = some p.2) (nd : (ps.map (·.1)).Nodup) : Own T E (FP T H L (ps.map (·.1))) w w (nodesOf L ps) := by
  have get : ∀ (i : Nat) (r : Res α), (nodesOf L ps)[i]? = some r → ∃ p, ps[i]? = some p ∧ r = .node p.1 p.2 (L p.1) := fun i r hi => by
    simp only [nodesOf, List.getElem?_map, Option.map_eq_some_iff] at hi
    obtain ⟨p, h1, rfl⟩ := hi
    exact ⟨p, h1, rfl⟩
  refine ⟨fun i r hi => ?_, fun i j r q hij hi hj b o hf hg => ?_, Keep.refl _ _, fun i r hi b o _ hf => ?_⟩
  · obtain ⟨p, h1, rfl⟩ := get i r hi
    exact hm.at_ _ _ (hp p (List.mem_of_getElem? h1))
  · obtain ⟨p, h1, rfl⟩ := get i r hi
    obtain ⟨q', h2, rfl⟩ := get j q hj
    refine hm.sep p.1 q'.1 p.2 q'.2 (fun e => hij ?_) (hp p (List.mem_of_getElem? h1)) (hp q' (List.mem_of_getElem? h2)) b o hf hg
    have e1 : (ps.map (·.1))[i]? = some p.1 := by simp [h1]
    have e2 : (ps.map (·.1))[j]? = some p.1 := by simp [h2, e]
    obtain ⟨l1, g1⟩ := List.getElem?_eq_some_iff.1 e1
    obtain ⟨l2, g2⟩ := List.getElem?_eq_some_iff.1 e2
    rcases Nat.lt_trichotomy i j with h | h | h
    · exact absurd (g1.trans g2.symm) (List.pairwise_iff_getElem.1 nd i j l1 l2 h)
    · exact h
    · exact absurd (g2.trans g1.symm) (List.pairwise_iff_getElem.1 nd j i l2 l1 h)
  · obtain ⟨p, h1, rfl⟩ := get i r hi
    exact ⟨p.1, p.2, List.mem_map.2 ⟨p, List.mem_of_getElem? h1, rfl⟩, hp p (List.mem_of_getElem? h1), hf⟩

/-- THE STEP that a walk has made: the nodes of F have become those of F', which it owns. -/
theorem Own.step {H H' : Store α} {L L' : Nat → Lay} {F F' : List Nat} (hm : Mem T E w0 H L) (h : Own T E (FP T H L F) w0 w l)
    (hout : ∀ m, m ∉ F → m ∉ F' → H' m = H m ∧ L' m = L m)
    (hold : ∀ m, m ∈ F' → m ∉ F → w0.heap.size ≤ m)
    (hgone : ∀ m, m ∈ F → m ∉ F' → H' m = none)
    (hin : ∀ m r, m ∈ F' → H' m = some r → ∃ i : Nat, l[i]? = some (Res.node m r (L' m))) : Step T E w0 H L F w H' L' F' := by
  refine Step.mk' hm h.keep hout (fun m h1 h2 => ?_) hgone (fun m h1 => ?_) (fun m r h1 h2 => ?_) (fun m r b o h1 h2 hb hf => ?_) (fun a b p q ha hb hab hp hq x o hf hg => ?_)
  · cases hq : H m with
    | none => rfl
    | some q => have := hm.lt hq; have := hold m h1 h2; omega
  · by_cases h2 : m ∈ F
    · exact .inl h2
    · exact .inr (hold m h1 h2)
  · obtain ⟨i, hi⟩ := hin m r h1 h2
    exact h.ok i _ hi
  · obtain ⟨i, hi⟩ := hin m r h1 h2
    exact h.old i _ hi b o hb hf
  · obtain ⟨i, hi⟩ := hin a p ha hp
    obtain ⟨j, hj⟩ := hin b q hb hq
    refine h.apart i j _ _ (fun e => ?_) hi hj x o hf hg
    subst e
    rw [hi] at hj
    exact hab (Res.node.inj (Option.some.inj hj)).1
end Go.Wb

namespace Go.Wb
open Go Go.RowKit
variable {α : Type} {T : Ty} {E : Enc α}

/-- A step of nodes beside which cells X turn, too. -/
structure TStep (T : Ty) (E : Enc α) (X : Nat → Nat → Prop) (w : World) (H : Store α) (L : Nat → Lay) (F : List Nat) (w' : World) (H' : Store α) (L' : Nat → Lay) (F' : List Nat) : Prop where
  mem : Mem T E w' H' L'
  keep : Keep (fun b o => FP T H L F b o ∨ X b o) w w'
  out : ∀ m, m ∉ F → ∀ r, H m = some r → H' m = some r ∧ L' m = L m
  new : ∀ m, m ∈ F' → m ∈ F ∨ w.heap.size ≤ m
  fp : ∀ b o, b < w.heap.size → FP T H' L' F' b o → FP T H L F b o
  only : ∀ m r, H' m = some r → m ∈ F' ∨ (m ∉ F ∧ H m = some r ∧ L' m = L m)

variable {X : Nat → Nat → Prop} {w w1 w2 : World} {H H1 H2 : Store α} {L L1 L2 : Nat → Lay} {F F1 F2 : List Nat}

theorem Step.t (h : Step T E w H L F w1 H1 L1 F1) (X : Nat → Nat → Prop) : TStep T E X w H L F w1 H1 L1 F1 :=
  ⟨h.mem, h.keep.mono fun _ _ _ h => .inl h, h.out, h.new, h.fp, h.only⟩
theorem TStep.refl (h : Mem T E w H L) (X : Nat → Nat → Prop) (F : List Nat) : TStep T E X w H L F w H L F := (Step.refl h F).t X

theorem TStep.trans (h : TStep T E X w H L F w1 H1 L1 F1) (k : TStep T E X w1 H1 L1 F1 w2 H2 L2 F2) (hin : ∀ m r, m ∈ F1 → H m = some r → m ∈ F) : TStep T E X w H L F w2 H2 L2 F2 := by
  refine ⟨k.mem, h.keep.trans k.keep fun b o hb hf => hf.imp (h.fp b o hb) id, fun m hm r hr => ?_, fun m hm => ?_, fun b o hb hf => ?_, fun m r hr => ?_⟩
  · obtain ⟨h1, h2⟩ := h.out m hm r hr
    obtain ⟨h3, h4⟩ := k.out m (fun hm1 => hm (hin m r hm1 hr)) r h1
    exact ⟨h3, h4.trans h2⟩
  · rcases k.new m hm with h1 | h1
    · exact h.new m h1
    · exact .inr (Nat.le_trans h.keep.size h1)
  · exact h.fp b o hb (k.fp b o (Nat.lt_of_lt_of_le hb h.keep.size) hf)
  · rcases k.only m r hr with h1 | ⟨h1, h2, h3⟩
    · exact .inl h1
    · rcases h.only m r h2 with h4 | ⟨h4, h5, h6⟩
      · exact absurd h4 h1
      · exact .inr ⟨h4, h5, h3.trans h6⟩

/-- What is new in F1 isn't a node of H. -/
theorem TStep.hin (hm : Mem T E w H L) (h : TStep T E X w H L F w1 H1 L1 F1) : ∀ m r, m ∈ F1 → H m = some r → m ∈ F := fun m r h1 h2 => by
  rcases h.new m h1 with h3 | h3
  · exact h3
  · have := hm.lt h2; omega
theorem TStep.then (hm : Mem T E w H L) (h : TStep T E X w H L F w1 H1 L1 F1) (k : TStep T E X w1 H1 L1 F1 w2 H2 L2 F2) : TStep T E X w H L F w2 H2 L2 F2 := h.trans k (h.hin hm)

/-- Behind it only cells Y turn, which are no node's. -/
theorem TStep.post (h : TStep T E X w H L F w1 H1 L1 F1) {Y : Nat → Nat → Prop} (hk : Keep Y w1 w2) (hY : ∀ b o, b < w.heap.size → Y b o → X b o) (hd : ∀ m q, H1 m = some q → ∀ b o, Wb.fp T m q (L1 m) b o → ¬ Y b o) : TStep T E X w H L F w2 H1 L1 F1 :=
  ⟨h.mem.keepS hk fun n r b o hr hf => hd n r hr b o hf, h.keep.trans hk fun b o hb hx => .inr (hY b o hb hx), h.out, h.new, h.fp, h.only⟩
theorem TStep.pre {w0 : World} (hk : Keep (fun _ _ => False) w0 w) (h : TStep T E X w H L F w1 H1 L1 F1) : TStep T E X w0 H L F w1 H1 L1 F1 :=
  ⟨h.mem, (hk.mono fun _ _ _ h => h.elim).trans h.keep fun _ _ _ h => h, h.out, fun m hm => (h.new m hm).imp id fun h1 => Nat.le_trans hk.size h1, fun b o hb hf => h.fp b o (Nat.lt_of_lt_of_le hb hk.size) hf, h.only⟩
/-- What came between w0 and w is no node's. -/
theorem TStep.clear {w0 : World} (hm0 : Mem T E w0 H L) (_hk : Keep (fun _ _ => False) w0 w) (h : TStep T E X w H L F w1 H1 L1 F1) : ∀ m q, H1 m = some q → ∀ b o, Wb.fp T m q (L1 m) b o → ¬ (w0.heap.size ≤ b ∧ b < w.heap.size) := fun m q hq b o hf ⟨h1, h2⟩ => by
  rcases h.only m q hq with hF | ⟨_, h4, h5⟩
  · obtain ⟨k, p, _, hp, hfp⟩ := h.fp b o h2 ⟨m, q, hF, hq, hf⟩
    have := (hm0.at_ k p hp).lt hfp
    omega
  · rw [h5] at hf
    have := (hm0.at_ m q h4).lt hf
    omega
theorem TStep.widen (h : TStep T E X w H L F w1 H1 L1 F1) {Y : Nat → Nat → Prop} (hY : ∀ b o, b < w.heap.size → X b o → Y b o) : TStep T E Y w H L F w1 H1 L1 F1 :=
  ⟨h.mem, h.keep.mono fun b o hb hx => hx.imp id (hY b o hb), h.out, h.new, h.fp, h.only⟩
/-- A block that is there and no node's is kept. -/
theorem TStep.blk (h : TStep T E X w H L F w1 H1 L1 F1) (_hm : Mem T E w H L) {b : Nat} {ob : Obj} (hb : w.heap[b]? = some ob) (hX : ∀ o, ¬ X b o) (hn : ∀ m q o, H m = some q → ¬ Wb.fp T m q (L m) b o) : w1.heap[b]? = some ob :=
  blk_keep hb h.keep fun o hf => hf.elim (fun ⟨m, q, _, hq, hf⟩ => hn m q o hq hf) (hX o)
end Go.Wb

namespace Go.Proofs.Ytckplcmieelmpaa.W
open Go.RowKit Go.Wb

/-- A tree's shape: none, or a root of some height. -/
abbrev Sh := Option (Nat × Tr It)
def its : Sh → List It
  | none => []
  | some (h, t) => flat h t
def RootAt (H : Store It) (iso : Int) (root : Option Nat) (F : List Nat) (mn mx : Nat) : Sh → Prop
  | none => root = none ∧ F = []
  | some (h, t) => ∃ n, root = some n ∧ Rep H iso h n t F ∧ wfr 1 mn mx h t
/-- The sizes of nodes. -/
structure ParOk (hr : HRec) (mn mx : Nat) : Prop where
  cv : hr.cv = false
  icv : hr.icv = false
  one : (hr.mn = (mn : Int) ∧ hr.mx = (mx : Int)) ∨ (hr.mn = 0 ∧ hr.root = none ∧ mn = 31 ∧ mx = 63)
  odd : mx = 2 * mn + 1
  pos : 1 ≤ mn
  hb : mx ≤ 1000000000000

/-- A tree lies in w: its head at block b, its nodes F. -/
structure TreeAt (w : World) (b : Nat) (hr : HRec) (H : Store It) (L : Nat → Lay) (F : List Nat) (mn mx : Nat) (s : Sh) : Prop where
  hdr : Hdr w b hr
  mem : Mem TT E w H L
  nd : F.Nodup
  root : RootAt H hr.iso hr.root F mn mx s
  cnt : hr.cnt = ((its s).length : Int)
  srt : Sorted ilt (its s)
  par : ParOk hr mn mx

theorem TreeAt.keep {w w' : World} {b : Nat} {hr : HRec} {H : Store It} {L : Nat → Lay} {F : List Nat} {mn mx : Nat} {s : Sh} (h : TreeAt w b hr H L F mn mx s) (hk : Keep Nothing w w') : TreeAt w' b hr H L F mn mx s :=
  ⟨blk_keep h.hdr hk fun _ h => h, h.mem.keepS hk fun _ _ _ _ _ _ h => h, h.nd, h.root, h.cnt, h.srt, h.par⟩

/-- What setting leaves of a tree. -/
def SetT (w : World) (b : Nat) (hr : HRec) (H : Store It) (L : Nat → Lay) (F : List Nat) (mn mx : Nat) (s : Sh) (x : It) (e : Ending) (w' : World) : Prop :=
  ∃ hr' H' L' F' s' p, e = .returned (.tuple #[vv (Option.getD p hr.emp), .bool p.isSome]) ∧ TStep TT E (fun c _ => c = b) w H L F w' H' L' F' ∧ TreeAt w' b hr' H' L' F' mn mx s' ∧ Put ilt (its s) x (its s') p ∧
    hr'.iso = hr.iso ∧ hr'.ctr = hr.ctr ∧ hr'.emp = hr.emp ∧ hr'.root.isSome = true

theorem hdr_root {w : World} {b : Nat} {h : HRec} (hh : Hdr w b h) : w.cell? ⟨b, 2, none⟩ = some (rootV h.root) := (hdr_cells hh).2.2.1
theorem hdr_cnt {w : World} {b : Nat} {h : HRec} (hh : Hdr w b h) : w.cell? ⟨b, 3, none⟩ = some (.int .i64 h.cnt) := (hdr_cells hh).2.2.2.1
theorem hdr_fz {w : World} {b : Nat} {h : HRec} (hh : Hdr w b h) : ∀ o, w.frozen? ⟨b, o, none⟩ = false := (hdr_cells hh).2.2.2.2.2.2.2.2.2.2.1
theorem hdr_set_cnt {w : World} {b : Nat} {h : HRec} (hh : Hdr w b h) (c : Int) : Hdr (w.setCell ⟨b, 3, none⟩ (.int .i64 c)) b { h with cnt := c } := by
  unfold Hdr at hh ⊢; rw [blk_set _ hh]; rfl
theorem hdr_set_root {w : World} {b : Nat} {h : HRec} (hh : Hdr w b h) (r : Option Nat) : Hdr (w.setCell ⟨b, 2, none⟩ (rootV r)) b { h with root := r } := by
  unfold Hdr at hh ⊢; rw [blk_set _ hh]; rfl
theorem fold0 (f : Array Value → (Value × Nat) → Array Value) (i : Array Value) : Array.foldl f i ((#[] : Array Value).zipIdx) 0 0 = i := rfl
end Go.Proofs.Ytckplcmieelmpaa.W

namespace Go.Proofs.Ytckplcmieelmpaa.W
open Go.RowKit Go.Wb

theorem root_pre {w : World} {b : Nat} {hr : HRec} {H : Store It} {L : Nat → Lay} {F : List Nat} {mn mx h : Nat} {t : Tr It} (T : TreeAt w b hr H L F mn mx (some (h, t))) (big : (flat h t).length ≤ 3000000000000000000) :
    ∃ n, hr.root = some n ∧ ∀ W, Keep Nothing w W → SetPre W b hr b 2 n H L h t F mn mx := by
  obtain ⟨n, hroot, rep, wf⟩ := T.root
  refine ⟨n, hroot, fun W hK => ?_⟩
  have T' := T.keep hK
  have odd := T.par.odd
  have pos := T.par.pos
  have hmx : hr.mx = (mx : Int) := by
    rcases T.par.one with h | ⟨_, h, _⟩
    · exact h.2
    · rw [hroot] at h; cases h
  have hc := hdr_root T'.hdr
  rw [hroot] at hc
  exact ⟨T'.hdr, hc, T'.mem, rep, T.nd, wf.weaken (Nat.zero_le _), T.srt, hmx, by omega, T.par.hb, by omega, big⟩

/-- Behind the setting below the root. -/
def PlainRel (w : World) (H : Store It) (L : Nat → Lay) (F : List Nat) (iso : Int) (mn mx h n : Nat) (t : Tr It) (x _ep : It) (s9 s10 s11 : Value) (wx : World) : Prop :=
  ∃ W W' g p t' F' H' L', Keep Nothing w W ∧ Step TT E W H L F W' H' L' F' ∧ Rep H' iso h n t' F' ∧ F'.Nodup ∧ wfr t.its.length mn mx h t' ∧ Put ilt (flat h t) x (flat h t') p ∧ Keep Nothing W' wx ∧
    g = 0 ∧ s9 = vv (Option.getD p _ep) ∧ s10 = .bool p.isSome ∧ s11 = .bool false

set_option maxRecDepth 100000 in
set_option maxHeartbeats 4000000 in
theorem set_plain {w : World} {b : Nat} {hr : HRec} {H : Store It} {L : Nat → Lay} {F : List Nat} {mn mx h : Nat} {t : Tr It} (T : TreeAt w b hr H L F mn mx (some (h, t))) (big : (flat h t).length ≤ 3000000000000000000) (x : It) (hna : ¬ Asks mx h t (ky x)) :
    Calls Try.prog 74 #[ptr b, kv (ky x), vv x] w (SetT w b hr H L F mn mx (some (h, t)) x) := by
  obtain ⟨n, hroot, hpre⟩ := root_pre T big
  have hcall : ∀ W, Keep Nothing w W → Calls Try.prog 124 #[ptr b, .pointer (some ⟨b, 2, none⟩), pv x] W (SetPost W H L F hr.iso mn mx h n t x hr.emp) := fun W hK => set_any x h t W b 2 n H L F (hpre W hK)
  have HT := Lib.hid T
  have HC := Lib.hid hcall
  have HR := Lib.hid hroot
  have HNA := Lib.hid hna
  have HBIG := Lib.hid big
  clear T hcall hroot hpre hna big
  unfold ptr pv kv vv at *
  go_enter Try.func74, Try.ntmps74
  go_upto_region 2 with (fail)
  refine wp_world ?_
  intro W1 hW1
  generalize hq : w.heap.size = q at *
  have K1 : Hid (Keep Nothing w W1) := by
    subst hW1; exact (Keep.refl _ _).al _
  have X1 : Hid (W1.heap[q]? = some (.cells (E.enc x).toArray 161 (0, 0))) := by
    subst hW1; subst hq; exact heap_alloc_new w _
  have XQ := Lib.hid hq
  clear hW1 hq
  have H1 : Hid (Hdr W1 b hr) := by exact blk_keep HT.out.hdr K1.out fun _ h => h
  have c2 := hdr_root H1.out
  rw [HR.out] at c2
  simp only [rootV, Option.map_some] at c2
  have fz := hdr_fz H1.out
  go_upto_region 9 with (fail)
  clear c2 fz
  have hfp : Hid (∀ c o, q ≤ c → ¬ FP TT H L F c o) := by
    rintro c o hc ⟨m, r, _, hr, hf⟩
    have := (HT.out.mem.at_ m r hr).lt hf
    have := XQ.out
    omega
  go_cut [9, 10, 11] (fun s9 s10 s11 wx => PlainRel w H L F hr.iso mn mx h n t x hr.emp s9 s10 s11 wx ∧ True)
  case first =>
    have kx0 : W1.cell? ⟨q, 0, none⟩ = some (.int .i64 x.2) := by have := X1.out; simp only [World.cell?, this]; rfl
    have kx1 : W1.cell? ⟨q, 1, none⟩ = some (.string (ky x)) := by have := X1.out; simp only [World.cell?, this]; rfl
    have hcl := Lib.hid (HC.out W1.drew K1.out.dr)
    go_wp2_with fail
    refine wp_calm (by kernel_rfl) (by kernel_rfl) rfl ?_
    simp only [List.flatMap_cons, List.flatMap_nil, checks, chk, nilLit, List.cons_append, List.nil_append, List.append_nil]
    go_wp2_with fail
    refine hcl.out.mono ?_
    rintro e w' (⟨h1, _⟩ | ⟨_, p, t', F', H', L', rfl, st, h2⟩)
    · exact absurd h1 HNA.out
    have ST := Lib.hid st
    have H2 := Lib.hid h2
    clear st h2 hcl kx0 kx1
    go_wp2_with fail
    rw [HQ_normal]
    go_wp2_with fail
    go_meet
    obtain ⟨r1, r2, r3, r4⟩ := H2.out
    exact ⟨⟨_, _, 0, p, t', F', H', L', K1.out.dr, ST.out, r1, r2, r3, r4, Keep.refl _ _, rfl, rfl, rfl, rfl⟩, trivial⟩
  case rest =>
    obtain ⟨⟨W, W', g, p, t', F', H', L', hKW, st, r1, r2, r3, r4, hK9, rfl, rfl, rfl, rfl⟩, _⟩ := hcut
    have T := HT.out
    have hapW : ∀ m r o, H m = some r → ¬ fp TT m r (L m) b o := fun m r o hr hf => hdr_apart T.hdr (T.mem.at_ m r hr) hf
    have HW' : Hdr W' b hr := blk_keep (blk_keep T.hdr hKW fun _ h => h) st.keep fun o ⟨m, r, _, hr, hf⟩ => hapW m r o hr hf
    have H9 := Lib.hid (blk_keep HW' hK9 fun _ h => h : Hdr wc b hr)
    have hap' : Hid (∀ m r, H' m = some r → ∀ c o, fp TT m r (L' m) c o → c ≠ b) := by exact fun m r hr c o hf e => hdr_apart HW' (st.mem.at_ m r hr) (e ▸ hf)
    have ST := Lib.hid st
    have R1 := Lib.hid r1
    have R2 := Lib.hid r2
    have R3 := Lib.hid (r3.weaken (Nat.le_trans T.root.choose_spec.2.2.own_le.1 r3.own_le.1) : wfr 1 mn mx h t')
    have R4 := Lib.hid r4
    have K9 := Lib.hid hK9
    have KW := Lib.hid hKW
    have HB := Lib.hid T.cnt
    clear hKW st r1 r2 r3 r4 hK9 HW' hapW T
    have hcb : -9223372036854775808 ≤ hr.cnt + 1 ∧ hr.cnt + 1 ≤ 9223372036854775807 := by
      have := HB.out
      have := HBIG.out
      simp only [its] at *
      omega
    cases p with
    | some y =>
      go_wp2_with fail
      go_ret2
      have T := HT.out
      have put := R4.out
      have hpl := put_len put
      refine ⟨hr, H', L', F', some (h, t'), some y, rfl, ((ST.out.t _).pre KW.out).post (K9.out.mono fun _ _ _ h => h.elim : Keep (fun c _ => c = b) _ _) (fun _ _ _ h => h) (fun m r hr c o hf => hap'.out m r hr c o hf), ?_, put, rfl, rfl, rfl, by rw [HR.out]; rfl⟩
      refine ⟨H9.out, ST.out.mem.keepS K9.out fun _ _ _ _ _ _ h => h, R2.out, ⟨n, HR.out, R1.out, R3.out⟩, ?_, put.sorted T.srt, T.par⟩
      have := T.cnt
      simp only [its] at *
      simp at hpl
      omega
    | none =>
      have c3 := hdr_cnt H9.out
      have fz := hdr_fz H9.out
      go_upto_region 22 with (fail)
      refine wp_world ?_
      intro W5 hW5
      have H5 : Hid (Hdr W5 b { hr with cnt := hr.cnt + 1 }) := by subst hW5; exact hdr_set_cnt H9.out _
      have K5 : Hid (Keep (fun c _ => c = b) wc W5) := by subst hW5; exact (Keep.refl _ _).set _ _ _ fun _ => rfl
      clear hW5 c3 fz
      have hev := (hdr_emp H5.out).1
      go_wp2_with fail
      go_ret2
      have T := HT.out
      have put := R4.out
      have hpl := put_len put
      have KA : Keep (fun c _ => c = b) W' W5 := (K9.out.mono fun _ _ _ h => h.elim : Keep (fun c _ => c = b) W' wc).trans K5.out fun _ _ _ h => h
      refine ⟨{ hr with cnt := hr.cnt + 1 }, H', L', F', some (h, t'), none, rfl, ((ST.out.t _).pre KW.out).post KA (fun _ _ _ h => h) (fun m r hr c o hf => hap'.out m r hr c o hf), ?_, put, rfl, rfl, rfl, by show hr.root.isSome = true; rw [HR.out]; rfl⟩
      refine ⟨H5.out, ST.out.mem.keepS KA fun m r c o hr hf => hap'.out m r hr c o hf, R2.out, ⟨n, HR.out, R1.out, R3.out⟩, ?_, put.sorted T.srt, T.par.cv, T.par.icv, ?_, T.par.odd, T.par.pos, T.par.hb⟩
      · have := T.cnt
        simp only [its] at *
        simp at hpl
        omega
      · exact T.par.one
end Go.Proofs.Ytckplcmieelmpaa.W

namespace Go.Wb
open Go Go.RowKit
variable {α : Type} {T : Ty} {E : Enc α}

theorem Own.one {S : Nat → Nat → Prop} {w : World} {r : Res α} (h : r.ok T E w) (hS : ∀ b o, r.fp T b o → S b o) : Own T E S w w [r] := by
  have get : ∀ (i : Nat) (q : Res α), ([r] : List (Res α))[i]? = some q → i = 0 ∧ q = r := fun i q hi => by
    cases i with
    | zero => exact ⟨rfl, (Option.some.inj hi).symm⟩
    | succ i => simp at hi
  exact ⟨fun i q hi => (get i q hi).2 ▸ h, fun i j p q hij hi hj => absurd ((get i p hi).1.trans (get j q hj).1.symm) hij, Keep.refl _ _, fun i q hi b o _ hf => hS b o ((get i q hi).2 ▸ hf)⟩

/-- The step that a walk has made, beside cells X. -/
theorem Own.tstep {X : Nat → Nat → Prop} {w0 w : World} {l : List (Res α)} {H H' : Store α} {L L' : Nat → Lay} {F F' : List Nat} (hm : Mem T E w0 H L) (h : Own T E (fun b o => FP T H L F b o ∨ X b o) w0 w l)
    (hX : ∀ m r b o, H m = some r → Wb.fp T m r (L m) b o → ¬ X b o)
    (hX' : ∀ m r b o, m ∈ F' → H' m = some r → Wb.fp T m r (L' m) b o → ¬ X b o)
    (hout : ∀ m, m ∉ F → m ∉ F' → H' m = H m ∧ L' m = L m)
    (hold : ∀ m, m ∈ F' → m ∉ F → w0.heap.size ≤ m)
    (hgone : ∀ m, m ∈ F → m ∉ F' → H' m = none)
    (hin : ∀ m r, m ∈ F' → H' m = some r → ∃ i : Nat, l[i]? = some (Res.node m r (L' m))) : TStep T E X w0 H L F w H' L' F' := by
  have old : ∀ m r, m ∉ F' → H' m = some r → m ∉ F ∧ H m = some r ∧ L' m = L m := fun m r hmF hr => by
    have h1 : m ∉ F := fun h => by rw [hgone m h hmF] at hr; cases hr
    obtain ⟨h2, h3⟩ := hout m h1 hmF
    exact ⟨h1, h2 ▸ hr, h3⟩
  have own : ∀ m r b o, m ∈ F' → H' m = some r → b < w0.heap.size → Wb.fp T m r (L' m) b o → FP T H L F b o := fun m r b o h1 h2 hb hf => by
    obtain ⟨i, hi⟩ := hin m r h1 h2
    exact (h.old i _ hi b o hb hf).resolve_right (hX' m r b o h1 h2 hf)
  have cross : ∀ n m r q, n ∈ F' → m ∉ F' → H' n = some r → H' m = some q → ∀ b o, Wb.fp T n r (L' n) b o → Wb.fp T m q (L' m) b o → False := fun n m r q hn hmF hr hq b o hf1 hf2 => by
    obtain ⟨h1, h2, h3⟩ := old m q hmF hq
    rw [h3] at hf2
    obtain ⟨k, x, hkF, hx, hfx⟩ := own n r b o hn hr ((hm.at_ m q h2).lt hf2) hf1
    exact hm.sep k m x q (fun e => h1 (e ▸ hkF)) hx h2 b o hfx hf2
  refine ⟨⟨fun n r hr => ?_, fun n m r q hne hr hq b o hf1 hf2 => ?_⟩, h.keep, fun m hmF r hr => ?_, fun m h1 => (Classical.em (m ∈ F)).imp id (hold m h1), fun b o hb ⟨n, r, hn, hr, hf⟩ => own n r b o hn hr hb hf, fun m r hr => (Classical.em (m ∈ F')).imp id fun h => old m r h hr⟩
  · by_cases hn : n ∈ F'
    · obtain ⟨i, hi⟩ := hin n r hn hr
      exact h.ok i _ hi
    · obtain ⟨h1, h2, h3⟩ := old n r hn hr
      rw [h3]
      refine (hm.at_ n r h2).keep h.keep fun b o hf hs => ?_
      rcases hs with ⟨k, x, hkF, hx, hfx⟩ | hx
      · exact hm.sep k n x r (fun e => h1 (e ▸ hkF)) hx h2 b o hfx hf
      · exact hX n r b o h2 hf hx
  · by_cases hn : n ∈ F' <;> by_cases hmF : m ∈ F'
    · obtain ⟨i, hi⟩ := hin n r hn hr
      obtain ⟨j, hj⟩ := hin m q hmF hq
      refine h.apart i j _ _ (fun e => ?_) hi hj b o hf1 hf2
      subst e
      rw [hi] at hj
      exact hne (Res.node.inj (Option.some.inj hj)).1
    · exact cross n m r q hn hmF hr hq b o hf1 hf2
    · exact cross m n q r hmF hn hq hr b o hf2 hf1
    · obtain ⟨h1, h2, h3⟩ := old n r hn hr
      obtain ⟨h4, h5, h6⟩ := old m q hmF hq
      rw [h3] at hf1
      rw [h6] at hf2
      exact hm.sep n m r q hne h2 h5 b o hf1 hf2
  · by_cases h1 : m ∈ F'
    · have := hold m h1 hmF; have := hm.lt hr; omega
    · obtain ⟨h2, h3⟩ := hout m hmF h1
      exact ⟨h2.trans hr, h3⟩

theorem TStep.frame {X : Nat → Nat → Prop} {w w' : World} {H H' : Store α} {L L' : Nat → Lay} {F F' : List Nat}
    (h : TStep T E X w H L F w' H' L' F') (A B : List Nat) (hA : ∀ m, m ∈ A ++ B → m ∉ F ∧ ∃ r, H m = some r) : TStep T E X w H L (A ++ F ++ B) w' H' L' (A ++ F' ++ B) := by
  refine ⟨h.mem, h.keep.mono fun b o _ hf => hf.imp (fun ⟨n, r, hn, hr, hf⟩ => ⟨n, r, by simp [hn], hr, hf⟩) id, fun m hm r hr => h.out m (fun hf => hm (by simp [hf])) r hr, fun m hm => ?_, fun b o hb hf => ?_, fun m r hr => ?_⟩
  · simp only [List.mem_append] at hm ⊢
    rcases hm with (hm | hm) | hm
    · exact .inl (.inl (.inl hm))
    · rcases h.new m hm with h1 | h1
      · exact .inl (.inl (.inr h1))
      · exact .inr h1
    · exact .inl (.inr hm)
  · obtain ⟨n, r, hn, hr, hf⟩ := hf
    by_cases hAB : n ∈ A ++ B
    · obtain ⟨h1, q, hq⟩ := hA n hAB
      obtain ⟨h2, h3⟩ := h.out n h1 q hq
      rw [h2] at hr
      cases hr
      rw [h3] at hf
      exact ⟨n, r, by simp only [List.mem_append] at hAB ⊢; rcases hAB with h | h <;> simp [h], hq, hf⟩
    · have : n ∈ F' := by
        simp only [List.mem_append] at hn hAB
        rcases hn with (hn | hn) | hn
        · exact absurd (.inl hn) hAB
        · exact hn
        · exact absurd (.inr hn) hAB
      obtain ⟨m, q, hm, hq, hfm⟩ := h.fp b o hb ⟨n, r, this, hr, hf⟩
      exact ⟨m, q, by simp [hm], hq, hfm⟩
  · rcases h.only m r hr with h1 | ⟨h1, h2, h3⟩
    · exact .inl (by simp [h1])
    · by_cases hAB : m ∈ A ++ B
      · exact .inl (by simp only [List.mem_append] at hAB ⊢; rcases hAB with h | h <;> simp [h])
      · exact .inr ⟨by simp only [List.mem_append, not_or] at hAB ⊢; exact ⟨⟨hAB.1, h1⟩, hAB.2⟩, h2, h3⟩
theorem TStep.same {X : Nat → Nat → Prop} {w w' : World} {H H' : Store α} {L L' : Nat → Lay} {F F' G' : List Nat} (h : TStep T E X w H L F w' H' L' F') (e : ∀ m, m ∈ G' ↔ m ∈ F') : TStep T E X w H L F w' H' L' G' :=
  ⟨h.mem, h.keep, h.out, fun m hm => h.new m ((e m).1 hm), fun b o hb ⟨n, r, hn, hr, hf⟩ => h.fp b o hb ⟨n, r, (e n).1 hn, hr, hf⟩, fun m r hr => (h.only m r hr).imp (e m).2 id⟩
/-- What F is where it begins, no order. -/
theorem TStep.same0 {X : Nat → Nat → Prop} {w w' : World} {H H' : Store α} {L L' : Nat → Lay} {F F' G : List Nat} (h : TStep T E X w H L F w' H' L' F') (e : ∀ m, m ∈ G ↔ m ∈ F) : TStep T E X w H L G w' H' L' F' :=
  ⟨h.mem, h.keep.mono fun b o _ hf => hf.imp (fun ⟨n, r, hn, hr, hf⟩ => ⟨n, r, (e n).2 hn, hr, hf⟩) id, fun m hm => h.out m fun h => hm ((e m).2 h), fun m hm => (h.new m hm).imp (e m).2 id, fun b o hb hf => by
    obtain ⟨n, r, hn, hr, hf⟩ := h.fp b o hb hf
    exact ⟨n, r, (e n).2 hn, hr, hf⟩, fun m r hr => (h.only m r hr).imp id fun ⟨h1, h2⟩ => ⟨fun h => h1 ((e m).1 h), h2⟩⟩

/-- What is owned is apart from what turns. -/
theorem Own.away {S K : Nat → Nat → Prop} {w0 w w' : World} {l : List (Res α)} (h : Own T E S w0 w l) (hk : Keep K w w') (hK : ∀ (i : Nat) (r : Res α), l[i]? = some r → ∀ b o, r.fp T b o → ¬ K b o) (hS : ∀ b o, b < w0.heap.size → K b o → S b o) : Own T E S w0 w' l :=
  ⟨fun i r hi => Res.keep (h.ok i r hi) hk (hK i r hi), h.apart, h.keep.trans hk hS, h.old⟩

/-- An empty slice in a block of its own. -/
theorem Row.empty {w : World} {ty s k : Nat} (h : w.heap[k]? = some (.cells #[] ty (0, 0))) : Row w ty s (some ⟨k, 0, none⟩) 0 [] :=
  .inr ⟨k, 0, #[], rfl, h, by simp, by simp, by simp⟩
/-- A row that is a whole block. -/
theorem Row.whole {w : World} {ty s k n : Nat} {cs : Array Value} (h : w.heap[k]? = some (.cells cs ty (0, 0))) (hn : cs.size = n * s) {l : List Value} (hl : cs.toList = l) : Row w ty s (some ⟨k, 0, none⟩) n l := by
  subst hl
  refine .inr ⟨k, 0, cs, rfl, h, by simp [hn], by simp [hn], fun i v hi => ?_⟩
  simpa using hi
theorem blk_two {w : World} {k : Nat} {o : Obj} (p : Obj) (h : w.heap.size = k) : ((w.alloc o).alloc p).heap[k]? = some o := by
  subst h; exact blk_alloc p (heap_alloc_new w o)

/-- n.items = append([]T{}, x..): whatever the items were. -/
theorem nt_fresh (ok : TyOk T) {w w0 w1 : World} {n : Nat} {r : NRec α} {L : Lay} (h : NodeAt T E w n r L) {its : List α} {a : Option Addr} {cap : Nat} (hk : Keep (fun _ _ => False) w w0) (hk1 : Keep (fun b _ => w.heap.size ≤ b) w0 w1) (hrow : Row w1 T.pair T.s a cap (E.all its)) (hle : its.length ≤ cap)
    (hfp : ∀ b o, rowFp a (cap * T.s) b o → w.heap.size ≤ b) :
    NTurn T E w n r L (w1.setCell ⟨n, 2, none⟩ (.slice a its.length cap)) { r with items := its } { L with ia := a, icap := cap } :=
  nt_items ok h ((hk.mono fun _ _ _ h => h.elim : Keep _ w w0).trans hk1 fun b o hb hf => absurd hf (by omega)) hrow hle fun b o hb hf => absurd (hfp b o hf) (by omega)
theorem nk_fresh (ok : TyOk T) {w w0 w1 : World} {n : Nat} {r : NRec α} {L : Lay} (h : NodeAt T E w n r L) {ks : List Nat} (hks : r.kids = some ks) {new : List Nat} {a : Option Addr} {cap : Nat} (hk : Keep (fun _ _ => False) w w0) (hk1 : Keep (fun b _ => w.heap.size ≤ b) w0 w1) (hrow : Row w1 T.nodeP 1 a cap (new.map ptr)) (hle : new.length ≤ cap)
    (hfp : ∀ b o, rowFp a cap b o → w.heap.size ≤ b) :
    NTurn T E w n r L (w1.setCell ⟨L.cb, 0, none⟩ (.slice a new.length cap)) { r with kids := some new } { L with ka := a, kcap := cap } :=
  nt_kids ok h hks ((hk.mono fun _ _ _ h => h.elim : Keep _ w w0).trans hk1 fun b o hb hf => absurd hf (by omega)) hrow hle fun b o hb hf => absurd (hfp b o hf) (by omega)
/-- What an append to an empty slice of a new block leaves. -/
theorem Grew.new {w w' : World} {ty s k m cap' : Nat} {a' : Option Addr} {cs : List Value} (h : Grew w w' ty s (some ⟨k, 0, none⟩) a' 0 m 0 cap' cs) {B : Nat} (hk : B ≤ w.heap.size) : Keep (fun b _ => B ≤ b) w w' ∧ ∀ b o, rowFp a' (cap' * s) b o → B ≤ b := by
  refine ⟨h.keep.mono fun b o _ ⟨x, y, e1, e2, e3, e4⟩ => ?_, fun b o hf => ?_⟩
  · omega
  · rcases h.fp b o hf with ⟨x, y, e1, e2, e3, e4⟩ | ⟨e, _⟩
    · omega
    · omega
theorem Grew.calm {w w' : World} {ty s m cap' : Nat} {a a' : Option Addr} {cs : List Value} (h : Grew w w' ty s a a' 0 m 0 cap' cs) : Keep (fun _ _ => False) w w' :=
  h.keep.mono fun b o _ ⟨x, y, e1, e2, e3, e4⟩ => by omega
/-- An append to an empty slice, some calm operations behind w. -/
theorem Grew.fresh {w w0 w' : World} {ty s m cap' : Nat} {a a' : Option Addr} {cs : List Value} (h : Grew w0 w' ty s a a' 0 m 0 cap' cs) (hk : Keep (fun _ _ => False) w w0) : Keep (fun b _ => w.heap.size ≤ b) w w' ∧ ∀ b o, rowFp a' (cap' * s) b o → w.heap.size ≤ b := by
  refine ⟨(hk.trans h.calm fun _ _ _ h => h).mono fun _ _ _ h => h.elim, fun b o hf => ?_⟩
  rcases h.fp b o hf with ⟨x, y, e1, e2, e3, e4⟩ | ⟨e, _⟩
  · omega
  · have := hk.size; omega
theorem cell_al {w : World} {b o : Nat} {v : Value} (ob : Obj) (h : w.cell? ⟨b, o, none⟩ = some v) : (w.alloc ob).cell? ⟨b, o, none⟩ = some v := (Keep.alloc (fun _ _ => False) w ob).cell' h fun h => h
theorem cell_grew {w w' : World} {ty s m cap' : Nat} {a a' : Option Addr} {cs : List Value} (hg : Grew w w' ty s a a' 0 m 0 cap' cs) {b o : Nat} {v : Value} (h : w.cell? ⟨b, o, none⟩ = some v) : w'.cell? ⟨b, o, none⟩ = some v := hg.calm.cell' h fun h => h
theorem fz_al {w : World} {b o : Nat} (ob : Obj) (hb : b < w.heap.size) (h : w.frozen? ⟨b, o, none⟩ = false) : b < (w.alloc ob).heap.size ∧ (w.alloc ob).frozen? ⟨b, o, none⟩ = false := ⟨by simp; omega, by rw [← h]; exact (Keep.alloc (fun _ _ => False) w ob).frozen hb⟩
theorem fz_grew {w w' : World} {ty s m cap' : Nat} {a a' : Option Addr} {cs : List Value} (hg : Grew w w' ty s a a' 0 m 0 cap' cs) {b o : Nat} (hb : b < w.heap.size) (h : w.frozen? ⟨b, o, none⟩ = false) : b < w'.heap.size ∧ w'.frozen? ⟨b, o, none⟩ = false := ⟨Nat.lt_of_lt_of_le hb hg.calm.size, by rw [← h]; exact hg.calm.frozen hb⟩
/-- A block that is there, cell o of which is v. -/
def Cell (w : World) (b o : Nat) (v : Value) : Prop := w.cell? ⟨b, o, none⟩ = some v ∧ b < w.heap.size ∧ w.frozen? ⟨b, o, none⟩ = false
theorem cell_set {w : World} {b o b' o' : Nat} {v u : Value} (hb : b ≠ b') (h : w.cell? ⟨b, o, none⟩ = some v) : (w.setCell ⟨b', o', none⟩ u).cell? ⟨b, o, none⟩ = some v :=
  (Keep.setCell (S := fun x _ => x = b') w b' o' u fun _ => rfl).cell' h hb
theorem blk_last {w : World} {k : Nat} {o p : Obj} (h : (w.alloc o).heap.size = k) : ((w.alloc o).alloc p).heap[k]? = some p := by
  subst h; exact heap_alloc_new _ p
/-- make([]T, l, c) -/
theorem run_make0 {P : Program} (t e s b : Nat) (ht : P.underlying t = some (.slice e)) (he : Elem P e s b) (l c : Nat) (hlc : l ≤ c) (hb : b * c ≤ 281474976710656) (h63 : c ≤ 9223372036854775807) :
    ∃ cs : Array Value, cs.size = c * s ∧ ∀ w, (Instr.makeSlice t (.int .i64 (l : Int)) (.int .i64 (c : Int))).run P w = .ok (.slice (some ⟨w.heap.size, 0, none⟩) l c) (w.alloc (.cells cs e)) := by
  obtain ⟨h2, h3, h4⟩ := he
  cases hi : P.info? e with
  | none => rw [hi] at h2; cases h2
  | some i =>
    rw [hi] at h2 h3 h4
    simp only [Option.map_some, Option.some.injEq, Option.bind_some] at h2 h3 h4
    subst h2
    subst h3
    cases hz : i.zero with
    | none => rw [hz] at h4; cases h4
    | some z =>
      refine ⟨madeCells z.cells (c * i.size), size_madeCells _ _, fun w => ?_⟩
      have := run_make (P := P) w t e i z ht hi hz .i64 .i64 l c (by omega) (by omega) (by
        have h : ((i.bytes * c : Nat) : Int) ≤ 281474976710656 := by omega
        rwa [Int.natCast_mul] at h) (by omega)
      simpa using this
end Go.Wb

namespace Go.Proofs.Ytckplcmieelmpaa.W
open Go.RowKit Go.Wb

theorem hdr_mn {w : World} {b : Nat} {h : HRec} (hh : Hdr w b h) : 
    w.cell? ⟨b, 6, none⟩ = some (.int .i64 h.mn) := (hdr_cells hh).2.2.2.2.2.2.1

set_option maxHeartbeats 400000 in
theorem init_old {w : World} {b : Nat} {h : HRec} (hh : Hdr w b h) (d : Value) (h0 : (h.mn != 0) = true) :
    Calls Try.prog 122 #[ptr b, d] w fun e w' => e = .returned (.tuple #[]) ∧ w = w' := by
  have c := hdr_mn hh
  clear hh
  unfold ptr
  go_enter Try.func122, Try.ntmps122
  go_wp2
  refine bodyPost_ret (v := .tuple #[]) (by simp [results, Try.results122, go_sem]) rfl ⟨rfl, rfl⟩

/-- init(0) of an empty tree. -/
theorem init_par {w : World} {b : Nat} {hr : HRec} {mn mx : Nat} (hh : Hdr w b hr) (hp : ParOk hr mn mx) :
    Calls Try.prog 122 #[ptr b, .int .i64 0] w fun e w' => e = .returned (.tuple #[]) ∧ Hdr w' b { hr with mn := mn, mx := mx } ∧ Keep (fun x _ => x = b) w w' := by
  obtain ⟨iso, ctr, root, cnt, emp, hmn, hmx, cv, icv⟩ := hr
  obtain ⟨h1, h2, h3, h4, h5, h6⟩ := hp
  simp only at h1 h2 h3
  subst h1
  subst h2
  rcases h3 with ⟨rfl, rfl⟩ | ⟨rfl, _, rfl, rfl⟩
  · refine (init_old hh _ (by simp; omega)).mono ?_
    rintro e w' ⟨rfl, rfl⟩
    exact ⟨rfl, hh, Keep.refl _ _⟩
  · refine (init_new hh 0 (by omega) (by omega) rfl).mono ?_
    rintro e w' ⟨rfl, h7, h8⟩
    exact ⟨rfl, h7, h8⟩

set_option maxRecDepth 100000 in
set_option maxHeartbeats 4000000 in
theorem set_nil {w : World} {b : Nat} {hr : HRec} {H : Store It} {L : Nat → Lay} {F : List Nat} {mn mx : Nat} (T : TreeAt w b hr H L F mn mx none) (x : It) :
    Calls Try.prog 74 #[ptr b, kv (ky x), vv x] w (SetT w b hr H L F mn mx none x) := by
  have HT := Lib.hid T
  have hroot : hr.root = none := T.root.1
  have HR := Lib.hid hroot
  have O0 := Lib.hid (Own.one (T := TT) (E := E) (S := fun c o => FP TT H L [] c o ∨ c = b) (w := w) (r := .blk b (hdrC hr) 166) T.hdr (fun _ _ h => .inr h))
  have hbw := lt_of_heap T.hdr
  clear T hroot
  unfold ptr kv vv
  go_enter Try.func74, Try.ntmps74
  go_upto_region 2 with (fail)
  refine wp_world ?_
  intro W1 hW1
  generalize hq : w.heap.size = q at *
  have O1 : Hid (Own TT E (fun c o => FP TT H L [] c o ∨ c = b) w W1 [.blk b (hdrC hr) 166, .blk q (E.enc x).toArray 161]) := by
    subst hW1; have := O0.out.alloc (E.enc x).toArray 161
    simp only [hq] at this; exact this
  clear hW1 O0
  have H1 : Hid (Hdr W1 b hr) := by exact O1.out.blk_ 0 rfl
  have c2 := hdr_root H1.out
  rw [HR.out] at c2
  simp only [rootV, Option.map_none] at c2
  have fz := hdr_fz H1.out
  have hin := Lib.hid (init_par H1.out HT.out.par)
  unfold ptr at hin
  go_wp2_with fail
  refine hin.out.mono ?_
  rintro e W2 ⟨rfl, h2, k2⟩
  have O2 := Lib.hid (O1.out.turn 0 rfl (r' := .blk b (hdrC { hr with mn := mn, mx := mx }) 166) k2 h2 (fun _ _ _ h => h))
  clear hin c2 fz H1 O1 h2 k2
  have hnn := Lib.hid (newNode_any (O2.out.blk_ 0 rfl : Hdr W2 b { hr with mn := mn, mx := mx }) true)
  unfold ptr at hnn
  go_wp2_with fail
  refine hnn.out.mono ?_
  rintro e W3 ⟨m, Lm, rfl, hmw, k3, hm, hfpm⟩
  have O3 := Lib.hid (O2.out.add k3 (r := .node m ⟨hr.iso, 0, [], none⟩ Lm) hm hfpm)
  clear hnn k3 hm hfpm O2
  simp only [List.set, List.cons_append, List.nil_append] at O3
  have fz := hdr_fz (O3.out.blk_ 0 rfl : Hdr W3 b { hr with mn := mn, mx := mx })
  have c2 := hdr_root (O3.out.blk_ 0 rfl : Hdr W3 b { hr with mn := mn, mx := mx })
  rw [show ({ hr with mn := (mn : Int), mx := (mx : Int) } : HRec).root = hr.root from rfl, HR.out] at c2
  simp only [rootV, Option.map_none] at c2
  unfold ptr
  go_upto_region 5 with (fail)
  refine wp_world ?_
  intro W4 hW4
  have O4 : Hid (Own TT E (fun c o => FP TT H L [] c o ∨ c = b) w W4 [.blk b (hdrC { hr with mn := mn, mx := mx, root := some m }) 166, .blk q (E.enc x).toArray 161, .node m ⟨hr.iso, 0, [], none⟩ Lm]) := by
    subst hW4; have := O3.out.set 0 rfl 2 (rootV (some m)); exact this
  clear hW4 O3 c2 fz
  have hm4 := Lib.hid (O4.out.node_ 2 rfl)
  go_cut [] (fun wx => ∃ L', NTurn TT E W4 m ⟨hr.iso, 0, [], none⟩ Lm wx ⟨hr.iso, 0, [x], none⟩ L')
  case first =>
    have c2 := hdr_root (O4.out.blk_ 0 rfl : Hdr W4 b { hr with mn := mn, mx := mx, root := some m })
    simp only [rootV, Option.map_some] at c2
    have cx0 : W4.cell? ⟨q, 0, none⟩ = some (.int .i64 x.2) := by have := O4.out.blk_ 1 rfl; simp only [World.cell?, this]; rfl
    have cx : W4.cell? ⟨q, 1, none⟩ = some (.string (ky x)) := by have := O4.out.blk_ 1 rfl; simp only [World.cell?, this]; rfl
    obtain ⟨d0, d1, cm, d3, fz⟩ := hm4.out.own
    clear d0 d1 d3
    have hmw4 := lt_of_cell cm
    have hbm : b ≠ m := fun e => O4.out.apart 0 2 _ _ (by omega) rfl rfl m 0 e.symm (.inl rfl)
    have hqm : q ≠ m := fun e => O4.out.apart 1 2 _ _ (by omega) rfl rfl m 0 e.symm (.inl rfl)
    have fzm := fz 2
    go_region_held3 (fun w' => w'.cell? ⟨b, 2, none⟩ = some (.pointer (some ⟨m, 0, none⟩)) ∧ w'.cell? ⟨q, 0, none⟩ = some (.int .i64 x.2) ∧ w'.cell? ⟨q, 1, none⟩ = some (.string (ky x))) ((go_split_ands; refine ⟨?_, ?_, ?_⟩ <;> first | assumption | (refine cell_al _ ?_; assumption) | (refine cell_grew hg ?_; assumption) | (refine cell_set ?_ ?_ <;> assumption)))
      ((refine step_append_any rfl (Operand.tmp 34) (Operand.tmp 36) 169 rfl 161 2 24 Try.underlying169 ⟨by kernel_rfl, by kernel_rfl, by kernel_rfl⟩ _ 0 0 [] (by rfl) (Row.empty (by first | exact blk_two _ rfl | exact blk_last (by simp))) rfl _ 1 1 (E.enc x) (by rfl) (E.len _) (fun j u hj => new_cells (cs := E.enc x) (by first | exact blk_two _ rfl | exact blk_last (by simp)) j u hj) (E.one _) (by omega) (by omega) (by simp [maxLen]) (by omega) ?_; intro a' cap' w1 hg; have cm1 := cell_grew hg (cell_al _ (cell_al _ cm)); have fz1 := (fz_grew hg (fz_al _ (fz_al _ hmw4 fzm).1 (fz_al _ hmw4 fzm).2).1 (fz_al _ (fz_al _ hmw4 fzm).1 (fz_al _ hmw4 fzm).2).2).2))
    all_goals
      go_wp2_with fail
      go_meet
      refine ⟨_, nt_fresh ty_ok hm4.out (its := [x]) (((Keep.refl _ _).al _).al _).dr (hg.new (B := W4.heap.size) ((((Keep.refl Nothing W4).al _).al _).dr).size).1 ?_ hg.cap (hg.new (B := W4.heap.size) ((((Keep.refl Nothing W4).al _).al _).dr).size).2⟩
      have := hg.row
      simp only [List.nil_append] at this
      simp only [Enc.all, List.flatMap_cons, List.flatMap_nil, List.append_nil]
      exact this
  case rest =>
    obtain ⟨L', nt⟩ := hcut
    have O5 := Lib.hid (O4.out.nt 2 rfl nt)
    clear nt O4 hm4
    simp only [List.set] at O5
    have c2 := hdr_root (O5.out.blk_ 0 rfl : Hdr wc b { hr with mn := mn, mx := mx, root := some m })
    simp only [rootV, Option.map_some] at c2
    obtain ⟨d0, cm, d2, d3, fz⟩ := (O5.out.node_ 2 rfl).own
    clear d0 d2 d3
    go_upto_region 7 with (fail)
    refine wp_world ?_
    intro W6 hW6
    have O6 : Hid (Own TT E (fun c o => FP TT H L [] c o ∨ c = b) w W6 [.blk b (hdrC { hr with mn := mn, mx := mx, root := some m }) 166, .blk q (E.enc x).toArray 161, .node m ⟨hr.iso, 1, [x], none⟩ L']) := by
      subst hW6; exact O5.out.nt 2 rfl (nt_cnt ty_ok (O5.out.node_ 2 rfl) 1)
    clear hW6 O5 c2 cm fz
    have c3 := hdr_cnt (O6.out.blk_ 0 rfl : Hdr W6 b { hr with mn := mn, mx := mx, root := some m })
    have fz := hdr_fz (O6.out.blk_ 0 rfl : Hdr W6 b { hr with mn := mn, mx := mx, root := some m })
    go_upto_region 8 with (fail)
    refine wp_world ?_
    intro W7 hW7
    have O7 : Hid (Own TT E (fun c o => FP TT H L [] c o ∨ c = b) w W7 [.blk b (hdrC { hr with mn := mn, mx := mx, root := some m, cnt := 1 }) 166, .blk q (E.enc x).toArray 161, .node m ⟨hr.iso, 1, [x], none⟩ L']) := by
      subst hW7; exact O6.out.set 0 rfl 3 (.int .i64 1)
    clear hW7 O6 c3 fz
    have he := (hdr_emp (O7.out.blk_ 0 rfl : Hdr W7 b { hr with mn := mn, mx := mx, root := some m, cnt := 1 })).1
    go_wp2_with fail
    go_ret2
    have T := HT.out
    have hmw' : w.heap.size ≤ m := by
      rcases Nat.lt_or_ge m w.heap.size with h | h
      · exfalso
        rcases O7.out.old 2 _ rfl m 0 h (.inl rfl) with ⟨_, _, h, _⟩ | h
        · cases h
        · exact O7.out.apart 0 2 _ _ (by omega) rfl rfl m 0 h (.inl rfl)
      · exact h
    have hst : TStep TT E (fun c _ => c = b) w H L F W7 (upd H m (some ⟨hr.iso, 1, [x], none⟩)) (upd L m L') [m] := by
      obtain ⟨_, rfl⟩ := T.root
      refine Own.tstep T.mem O7.out (fun a r c o ha hf e => ?_) (fun a r c o ha hr hf e => ?_) (fun a _ ha => ?_) (fun a ha _ => ?_) (fun a ha => by cases ha) (fun a r ha hr => ?_)
      · subst e; exact hdr_apart T.hdr (T.mem.at_ a r ha) hf
      · obtain rfl := List.mem_singleton.1 ha
        rw [upd_same] at hr hf
        cases hr
        exact O7.out.apart 0 2 _ _ (by omega) rfl rfl c o e hf
      · have : a ≠ m := by simpa using ha
        exact ⟨upd_ne _ _ this, upd_ne _ _ this⟩
      · obtain rfl := List.mem_singleton.1 ha; exact hmw'
      · obtain rfl := List.mem_singleton.1 ha
        rw [upd_same] at hr ⊢
        cases hr
        exact ⟨2, rfl⟩
    refine ⟨{ hr with mn := mn, mx := mx, root := some m, cnt := 1 }, upd H m (some ⟨hr.iso, 1, [x], none⟩), upd L m L', [m], some (0, .node [x] []), none, rfl, hst, ?_, ⟨[], [], rfl, rfl, by simp, by simp⟩, rfl, rfl, rfl, rfl⟩
    · obtain ⟨_, rfl⟩ := T.root
      refine ⟨O7.out.blk_ 0 rfl, ?_, by simp, ⟨m, rfl, ⟨_, upd_same _ _ _, rfl, rfl, rfl, rfl, by simp [flat, Tr.its], rfl⟩, by simp [Tr.its], by have := T.par.odd; have := T.par.pos; simp [Tr.its]; omega, rfl⟩, by simp [its, flat, Tr.its], by simp [its, flat, Tr.its, Sorted], T.par.cv, T.par.icv, .inl ⟨rfl, rfl⟩, T.par.odd, T.par.pos, T.par.hb⟩
      exact hst.mem
end Go.Proofs.Ytckplcmieelmpaa.W

namespace Go.Proofs.Ytckplcmieelmpaa.W
open Go.RowKit Go.Wb

/-- The root is in two halves, and nothing else has turned. -/
structure Halved (w wx : World) (b : Nat) (hr : HRec) (H : Store It) (L : Nat → Lay) (F : List Nat) (mn mx h n : Nat) (t : Tr It) (m : Nat) (med : It) (H' : Store It) (L' : Nat → Lay) (F1 F2 : List Nat) (K : Nat) : Prop where
  clr : ∀ a r c o, H' a = some r → fp TT a r (L' a) c o → ¬ (w.heap.size ≤ c ∧ c < K)
  clk : K ≤ wx.heap.size
  ts : TStep TT E (fun c _ => c = b) w H L F wx H' L' (n :: F1 ++ m :: F2)
  nd : (n :: F1 ++ m :: F2).Nodup
  hdr : Hdr wx b hr
  rl : Rep H' hr.iso h n (cutL (mx / 2) t) (n :: F1)
  rr : Rep H' hr.iso h m (cutR (mx / 2) t) (m :: F2)
  wl : wfr mn mn mx h (cutL (mx / 2) t)
  wr : wfr mn mn mx h (cutR (mx / 2) t)
  fl : flat h t = flat h (cutL (mx / 2) t) ++ med :: flat h (cutR (mx / 2) t)

theorem halved {w W W' : World} {b : Nat} {hr : HRec} {H : Store It} {L : Nat → Lay} {F : List Nat} {mn mx h : Nat} {t : Tr It} (T : TreeAt w b hr H L F mn mx (some (h, t))) {n : Nat} (hroot : hr.root = some n) (hfull : t.its.length = mx) {rc : NRec It} (hrc : H n = some rc)
    (hK : Keep Nothing w W) {m : Nat} {med : It} (hk : Keep (fp TT n rc (L n)) W W') (hh : Halves H L n rc hr.iso (mx / 2) m med W W') :
    ∃ H' L' F1 F2, Halved w W' b hr H L F mn mx h n t m med H' L' F1 F2 W.heap.size := by
  obtain ⟨n', e, rep, wf⟩ := T.root
  rw [hroot] at e
  cases e
  obtain ⟨hmed, hmW, L', st⟩ := hh
  have hws := hK.size
  have hm0 : H m = none := by
    cases hq : H m with
    | none => rfl
    | some q => have := T.mem.lt hq; omega
  obtain ⟨_, q, e1, hci, hits, _⟩ := rep.root
  rw [hrc] at e1
  cases e1
  have odd := T.par.odd
  have pos := T.par.pos
  have hi2 : mx / 2 < t.its.length := by omega
  obtain ⟨F1, F2, rfl, RL, RR⟩ := rep.halves wf T.nd hrc hm0 hi2
  have old : ∀ a, a ∈ n :: (F1 ++ F2) → a < w.heap.size := fun a ha => by
    obtain ⟨q, hq⟩ := rep.dom a ha
    exact T.mem.lt hq
  have ndn := List.nodup_cons.1 T.nd
  have dom : ∀ a, a ∈ [] ++ (F1 ++ F2) → a ∉ [n] ∧ ∃ q, H a = some q := fun a ha => by
    simp only [List.nil_append] at ha
    refine ⟨fun h => ndn.1 ?_, rep.dom a (by simp [List.mem_append.1 ha])⟩
    obtain rfl := List.mem_singleton.1 h
    exact ha
  have st1 := (Step.pre hK st).frame [] (F1 ++ F2) dom
  have hcw := cut_wf wf (l1 := mn) (l2 := mn) hi2 (by omega) (by omega)
  have hap : ∀ a r c o, H a = some r → fp TT a r (L a) c o → c ≠ b := fun a r c o hr hf e => by
    subst e
    exact hdr_apart T.hdr (T.mem.at_ a r hr) hf
  refine ⟨_, L', F1, F2, fun a r c o h1 h2 => Step.clear T.mem hK st a r h1 c o h2, hk.size, ((st1.t _).same (G' := n :: F1 ++ m :: F2) fun a => by simp; grind), ?_, ?_, RL, RR, hcw.1, hcw.2, flat_cut wf (by rw [← hits]; exact hmed)⟩
  · have hp : (n :: F1 ++ m :: F2).Perm (m :: (n :: (F1 ++ F2))) := by
      have h1 : (n :: F1 ++ m :: F2).Perm (m :: (n :: F1 ++ F2)) := List.perm_middle
      simpa using h1
    rw [hp.nodup_iff]
    exact List.nodup_cons.2 ⟨fun h => by have := old m h; omega, T.nd⟩
  · exact blk_keep (blk_keep T.hdr hK fun _ h => h) hk fun o hf => hap n rc b o hrc hf rfl

/-- What lies apart from a tree's nodes and its head, from w on. -/
theorem Halved.local {w wx : World} {b : Nat} {hr : HRec} {H : Store It} {L : Nat → Lay} {F : List Nat} {mn mx h n : Nat} {t : Tr It} {m : Nat} {med : It} {H' : Store It} {L' : Nat → Lay} {F1 F2 : List Nat} {K : Nat} (A : Halved w wx b hr H L F mn mx h n t m med H' L' F1 F2 K) :
    ∀ a r c o, H' a = some r → fp TT a r (L' a) c o → c ≠ b := fun a r c o hr hf e => by
  subst e
  exact hdr_apart A.hdr (A.ts.mem.at_ a r hr) hf

/-- The new root's tree. -/
theorem Halved.tree {w wx we : World} {b : Nat} {hr : HRec} {H : Store It} {L : Nat → Lay} {F : List Nat} {mn mx h n : Nat} {t : Tr It} {m : Nat} {med : It} {H' : Store It} {L' : Nat → Lay} {F1 F2 : List Nat} {K : Nat} (T : TreeAt w b hr H L F mn mx (some (h, t))) (A : Halved w wx b hr H L F mn mx h n t m med H' L' F1 F2 K)
    {wy : World} (hy : Keep Nothing wx wy) {nn : Nat} {Ln : Lay} (hroot : hr.root = some n)
    (O : Own TT E (fun c o => FP TT H' L' [] c o ∨ c = b) wy we [.blk b (hdrC { hr with root := some nn }) 166, .node nn ⟨hr.iso, ((flat h t).length : Int), [med], some [n, m]⟩ Ln]) (hnew : wy.heap.size ≤ nn) :
    ∃ H2 L2 F2', TStep TT E (fun c _ => c = b) w H L F we H2 L2 F2' ∧ TreeAt we b { hr with root := some nn } H2 L2 F2' mn mx (some (h + 1, .node [med] [cutL (mx / 2) t, cutR (mx / 2) t])) ∧
      flat (h + 1) (.node [med] [cutL (mx / 2) t, cutR (mx / 2) t]) = flat h t ∧ ∀ a r c o, H2 a = some r → fp TT a r (L2 a) c o → ¬ (w.heap.size ≤ c ∧ c < K) := by
  have hmy : Mem TT E wy H' L' := A.ts.mem.keepS hy fun _ _ _ _ _ _ h => h
  have dom : ∀ a, a ∈ n :: F1 ++ m :: F2 → ∃ q, H' a = some q := fun a ha => by
    rcases List.mem_append.1 ha with h | h
    · exact A.rl.dom a h
    · exact A.rr.dom a h
  have hnn : ∀ a, a ∈ n :: F1 ++ m :: F2 → a ≠ nn := fun a ha e => by
    obtain ⟨q, hq⟩ := dom a ha
    have := hmy.lt hq
    omega
  have ts2 : TStep TT E (fun c _ => c = b) wy H' L' [] we (upd H' nn (some ⟨hr.iso, ((flat h t).length : Int), [med], some [n, m]⟩)) (upd L' nn Ln) [nn] := by
    refine Own.tstep hmy O (fun a r c o ha hf e => A.local a r c o ha hf e) (fun a r c o ha hr' hf e => ?_) (fun a _ ha => ?_) (fun a ha _ => ?_) (fun a ha => by cases ha) (fun a r ha hr' => ?_)
    · obtain rfl := List.mem_singleton.1 ha
      rw [upd_same] at hr' hf
      cases hr'
      exact O.apart 0 1 _ _ (by omega) rfl rfl c o e hf
    · have : a ≠ nn := by simpa using ha
      exact ⟨upd_ne _ _ this, upd_ne _ _ this⟩
    · obtain rfl := List.mem_singleton.1 ha; exact hnew
    · obtain rfl := List.mem_singleton.1 ha
      rw [upd_same] at hr' ⊢
      cases hr'
      exact ⟨1, rfl⟩
  have ts3 := ts2.frame [] (n :: F1 ++ m :: F2) (fun a ha => ⟨by simp, dom a (by simpa using ha)⟩)
  simp only [List.nil_append] at ts3
  have ts4 := A.ts.then T.mem (ts3.pre hy)
  have out : ∀ a, a ∈ n :: F1 ++ m :: F2 → upd H' nn (some ⟨hr.iso, ((flat h t).length : Int), [med], some [n, m]⟩) a = H' a := fun a ha => upd_ne _ _ (hnn a ha)
  have fl : flat (h + 1) (.node [med] [cutL (mx / 2) t, cutR (mx / 2) t]) = flat h t := by
    rw [A.fl]
    show flat h (cutL (mx / 2) t) ++ (med :: flat h (cutR (mx / 2) t) ++ []) = _
    simp
  have hro := A.rl.root.1
  refine ⟨_, _, [nn] ++ (n :: F1 ++ m :: F2), ts4, ⟨O.blk_ 0 rfl, ts4.mem, ?_, ⟨nn, rfl, ⟨_, [n, m], _, upd_same _ _ _, rfl, rfl, rfl, by rw [fl], ⟨n :: F1, m :: F2, A.rl.congr fun a ha => out a (List.mem_append_left _ ha), ⟨m :: F2, [], A.rr.congr fun a ha => out a (List.mem_append_right _ ha), rfl, by simp⟩, rfl⟩, rfl⟩, ?_⟩, ?_, ?_, T.par.cv, T.par.icv, ?_, T.par.odd, T.par.pos, T.par.hb⟩, fl, fun a r c o ha hf hc => ?_⟩
  · rw [List.singleton_append]
    exact List.nodup_cons.2 ⟨fun h => hnn nn h rfl, A.nd⟩
  · have := T.par.odd; have := T.par.pos
    refine ⟨by simp [Tr.its], by simp [Tr.its]; omega, by simp [Tr.its, Tr.ks], fun k hk => ?_⟩
    simp only [Tr.ks, List.mem_cons, List.not_mem_nil, or_false] at hk
    rcases hk with rfl | rfl
    · exact A.wl
    · exact A.wr
  · simp only [its]; rw [fl]; exact T.cnt
  · simp only [its]; rw [fl]; exact T.srt
  · rcases T.par.one with h | ⟨_, h, _⟩
    · exact .inl h
    · rw [hroot] at h; cases h
  · have hky : K ≤ wy.heap.size := Nat.le_trans A.clk hy.size
    by_cases e : a = nn
    · subst e
      rw [upd_same] at ha hf
      cases ha
      rcases O.old 1 _ rfl c o (by omega) hf with ⟨_, _, h, _⟩ | h
      · cases h
      · exact O.apart 0 1 _ _ (by omega) rfl rfl c o h hf
    · rw [upd_ne _ _ e] at ha hf
      exact A.clr a r c o ha hf hc
end Go.Proofs.Ytckplcmieelmpaa.W

namespace Go.Proofs.Ytckplcmieelmpaa.W
open Go.RowKit Go.Wb

set_option maxRecDepth 100000 in
set_option maxHeartbeats 8000000 in
theorem set_split {w : World} {b : Nat} {hr : HRec} {H : Store It} {L : Nat → Lay} {F : List Nat} {mn mx h : Nat} {t : Tr It} (T : TreeAt w b hr H L F mn mx (some (h, t))) (big : (flat h t).length ≤ 3000000000000000000) (x : It) (ha : Asks mx h t (ky x)) :
    Calls Try.prog 74 #[ptr b, kv (ky x), vv x] w (SetT w b hr H L F mn mx (some (h, t)) x) := by
  obtain ⟨n, hroot, hpre⟩ := root_pre T big
  have hcall : ∀ W, Keep Nothing w W → Calls Try.prog 124 #[ptr b, .pointer (some ⟨b, 2, none⟩), pv x] W (SetPost W H L F hr.iso mn mx h n t x hr.emp) := fun W hK => set_any x h t W b 2 n H L F (hpre W hK)
  have HT := Lib.hid T
  have HC := Lib.hid hcall
  have HR := Lib.hid hroot
  have HA := Lib.hid ha
  have HP := Lib.hid (hpre w (Keep.refl _ _))
  have HBIG := Lib.hid big
  clear T hcall hroot hpre ha big
  unfold ptr pv kv vv at *
  go_enter Try.func74, Try.ntmps74
  go_upto_region 2 with (fail)
  refine wp_world ?_
  intro W1 hW1
  generalize hq : w.heap.size = q at *
  have K1 : Hid (Keep Nothing w W1) := by
    subst hW1; exact (Keep.refl _ _).al _
  have X1 : Hid (W1.heap[q]? = some (.cells (E.enc x).toArray 161 (0, 0))) := by
    subst hW1; subst hq; exact heap_alloc_new w _
  have XQ := Lib.hid hq
  clear hW1 hq
  have H1 : Hid (Hdr W1 b hr) := by exact blk_keep HT.out.hdr K1.out fun _ h => h
  have c2 := hdr_root H1.out
  rw [HR.out] at c2
  simp only [rootV, Option.map_some] at c2
  have fz := hdr_fz H1.out
  go_upto_region 9 with (fail)
  clear c2 fz
  go_cut [10, 11] (fun s10 s11 wx => s10 = .bool false ∧ s11 = .bool true ∧ Keep Nothing W1 wx)
  case first =>
    have kx0 : W1.cell? ⟨q, 0, none⟩ = some (.int .i64 x.2) := by have := X1.out; simp only [World.cell?, this]; rfl
    have kx1 : W1.cell? ⟨q, 1, none⟩ = some (.string (ky x)) := by have := X1.out; simp only [World.cell?, this]; rfl
    have hcl := Lib.hid (HC.out W1.drew K1.out.dr)
    go_wp2_with fail
    refine wp_calm (by kernel_rfl) (by kernel_rfl) rfl ?_
    simp only [List.flatMap_cons, List.flatMap_nil, checks, chk, nilLit, List.cons_append, List.nil_append, List.append_nil]
    go_wp2_with fail
    refine hcl.out.mono ?_
    rintro e w' (⟨_, rfl, hk⟩ | ⟨h1, _⟩)
    rotate_left
    · exact absurd HA.out h1
    have HK0 := Lib.hid hk
    clear hk hcl kx0 kx1
    unfold vv
    go_wp2_with fail
    rw [HQ_normal]
    go_wp2_with fail
    go_meet
    exact ⟨rfl, rfl, (Keep.refl _ _).dr.trans HK0.out fun _ _ _ h => h⟩
  case rest =>
    obtain ⟨rfl, rfl, hK⟩ := hcut
    have KC : Hid (Keep Nothing w wc) := by exact K1.out.trans hK fun _ _ _ h => h
    have X2 := Lib.hid (blk_keep X1.out hK fun _ h => h)
    clear hK K1 X1 H1
    have H2 : Hid (Hdr wc b hr) := by exact blk_keep HT.out.hdr KC.out fun _ h => h
    have hm2 : Hid (Mem TT E wc H L) := by exact HT.out.mem.keepS KC.out fun _ _ _ _ _ _ h => h
    obtain ⟨nF, rc, hrc, hci, hits, hcn⟩ := HP.out.rep.root
    have HRC := Lib.hid hrc
    have hsp := Lib.hid (split_step H2.out hm2.out HP.out.hmx HP.out.h3 HP.out.hb HP.out.rep HP.out.wf HP.out.nd HA.out.full HBIG.out hrc)
    clear nF hrc hci hits hcn
    have c2 := hdr_root H2.out
    rw [HR.out] at c2
    simp only [rootV, Option.map_some] at c2
    have fz := hdr_fz H2.out
    unfold ptr pv kv at hsp
    go_wp2_with fail
    refine hsp.out.mono ?_
    rintro e W3 ⟨m, med, rfl, hk, hh⟩
    obtain ⟨H', L', F1, F2, A⟩ := halved HT.out HR.out HA.out.full HRC.out KC.out hk hh
    have hloc : ∀ c, q ≤ c → c < wc.heap.size → W3.heap[c]? = wc.heap[c]? := fun c h1 h2 => hk.whole h2 fun o hf => by
      have := (HT.out.mem.at_ n rc HRC.out).lt hf
      have := XQ.out
      omega
    have X3 := Lib.hid ((hloc (q) (by omega) (lt_of_heap X2.out)).trans X2.out)
    have HA2 := Lib.hid A
    have hwq : q < wc.heap.size := lt_of_heap X2.out
    clear hloc A hk hh hsp c2 fz X2 H2 hm2 KC
    go_upto_region 13 with (fail)
    refine wp_world ?_
    intro WB hWB
    generalize hp : W3.heap.size = p at *
    have KB : Hid (Keep Nothing W3 WB) := by
      subst hWB; exact (Keep.refl _ _).al _
    have M0 : Hid (WB.heap[p]? = some (.cells (E.enc med).toArray 161 (0, 0))) := by
      subst hWB; subst hp; exact heap_alloc_new W3 _
    have SB : Hid (WB.heap.size = p + 1) := by
      subst hWB; rw [← hp]; exact World.size_alloc _ _
    have hpq : Hid (q < p) := by have := lt_of_heap X3.out; rw [hp] at this; exact this
    have X0 := Lib.hid (blk_keep X3.out KB.out fun _ h => h)
    have hbq : b < q := by have := lt_of_heap HT.out.hdr; rwa [XQ.out] at this
    have O0 := Lib.hid (Own.one (T := TT) (E := E) (S := fun c o => FP TT H' L' [] c o ∨ c = b) (w := WB) (r := .blk b (hdrC hr) 166) (blk_keep HA2.out.hdr KB.out fun _ h => h) (fun _ _ h => .inr h))
    have HL : Hid (∀ (W : World), Keep (fun c o => FP TT H' L' [] c o ∨ c = b) WB W → ∀ (c : Nat) (ob : Obj), c ≠ b → WB.heap[c]? = some ob → W.heap[c]? = some ob) := by
      exact fun W k c ob hc hb => blk_keep hb k fun o h => h.elim (fun ⟨_, _, h, _⟩ => by cases h) hc
    clear hWB hp X3
    have hnn := Lib.hid (newNode_any (O0.out.blk_ 0 rfl : Hdr WB b hr) false)
    unfold ptr at hnn
    go_wp2_with fail
    refine hnn.out.mono ?_
    rintro e WC ⟨nn, Ln, rfl, hnw, k3, hm, hfpm⟩
    have O1 := Lib.hid (O0.out.add k3 (r := .node nn ⟨hr.iso, 0, [], some []⟩ Ln) hm hfpm)
    have NW := Lib.hid hnw
    clear hnn k3 hm hfpm O0 hnw
    simp only [List.cons_append, List.nil_append] at O1
    have c2 := hdr_root (O1.out.blk_ 0 rfl : Hdr WC b hr)
    rw [HR.out] at c2
    simp only [rootV, Option.map_some] at c2
    have fz := hdr_fz (O1.out.blk_ 0 rfl : Hdr WC b hr)
    unfold ptr
    go_upto_region 14 with (fail)
    refine wp_world ?_
    intro WD hWD
    have O2 : Hid (Own TT E (fun c o => FP TT H' L' [] c o ∨ c = b) WB WD [.blk b (hdrC { hr with root := some nn }) 166, .node nn ⟨hr.iso, 0, [], some []⟩ Ln]) := by
      subst hWD; exact O1.out.set 0 rfl 2 (rootV (some nn))
    clear hWD O1 c2 fz
    go_cut [] (fun wx => ∃ L2, NTurn TT E WD nn ⟨hr.iso, 0, [], some []⟩ Ln wx ⟨hr.iso, 0, [], some []⟩ L2)
    case first =>
      have hn2 := Lib.hid (O2.out.node_ 1 rfl)
      have c2 := hdr_root (O2.out.blk_ 0 rfl : Hdr WD b { hr with root := some nn })
      simp only [rootV, Option.map_some] at c2
      have c6 := hdr_mx (O2.out.blk_ 0 rfl : Hdr WD b { hr with root := some nn })
      simp only at c6
      rw [HP.out.hmx] at c6
      obtain ⟨c3, g1, fz, _, _⟩ := hn2.out.kids rfl
      unfold ptr at c3
      have e1 := World.new_ne WD _ c2
      have e2 := World.new_ne WD _ c6
      have e3 := World.new_ne WD _ c3
      have e4 := World.new_ne WD _ g1
      have hcbw := lt_of_cell g1
      have cm1 : ∀ o, (WD.alloc o).cell? ⟨Ln.cb, 0, none⟩ = some (.slice Ln.ka 0 Ln.kcap) := fun o => cell_al o g1
      have cm2 : ∀ o, (WD.alloc o).frozen? ⟨Ln.cb, 0, none⟩ = false := fun o => (fz_al o hcbw (fz 0)).2
      have hcb1 : b ≠ Ln.cb := fun e => O2.out.apart 0 1 _ _ (by omega) rfl rfl Ln.cb 0 e.symm (.inr (.inr ⟨rfl, .inl rfl⟩))
      have hcb2 : nn ≠ Ln.cb := blk_ne hn2.out.1 (hn2.out.2.2.2 _ rfl).1 ty_ok.c
      have hmxb : (mx : Int) ≤ 1000000000000 := by have := HP.out.hb; omega
      obtain ⟨cs, hcs, hmk⟩ := run_make0 (P := Try.prog) 173 164 1 8 Try.underlying173 ⟨by kernel_rfl, by kernel_rfl, by kernel_rfl⟩ 0 (mx + 1) (by omega) (by omega) (by omega)
      have hwr : IntKind.i64.wrap ((mx : Int) + 1) = ((mx + 1 : Nat) : Int) := by rw [IntKind.wrap_i64]; omega
      have hmk' : ∀ w, (Instr.makeSlice 173 (.int .i64 0) (.int .i64 ((mx : Int) + 1))).run Try.prog w = .ok (.slice (some ⟨w.heap.size, 0, none⟩) 0 (mx + 1)) (w.alloc (.cells cs 164)) := fun w => hmk w
      have HCS := Lib.hid hcs
      clear hcs hmk
      go_region_held3 (fun w' => w'.cell? ⟨b, 2, none⟩ = some (.pointer (some ⟨nn, 0, none⟩)) ∧ w'.cell? ⟨b, 7, none⟩ = some (.int .i64 mx) ∧ w'.cell? ⟨nn, 3, none⟩ = some (.pointer (some ⟨Ln.cb, 0, none⟩))) ((go_split_ands; refine ⟨?_, ?_, ?_⟩ <;> first | assumption | (refine cell_al _ ?_; assumption) | (refine cell_al _ (cell_set ?_ ?_) <;> assumption))) (fail)
      all_goals
        go_wp2_with fail
        go_meet
        have hrw : Row (WD.alloc (.cells cs 164)) TT.nodeP 1 (some ⟨WD.heap.size, 0, none⟩) (mx + 1) (([] : List Nat).map ptr) := .inr ⟨_, 0, cs, rfl, heap_alloc_new WD _, by simp, by rw [HCS.out]; omega, by simp⟩
        have hk1 : Keep (fun b _ => WD.heap.size ≤ b) WD (WD.alloc (.cells cs 164)) := Keep.alloc _ _ _
        have hf1 : ∀ b o, rowFp (some ⟨WD.heap.size, 0, none⟩) (mx + 1) b o → WD.heap.size ≤ b := fun c o hf => Nat.le_of_eq (rowFp_some hf).1.symm
        have := nk_fresh ty_ok hn2.out rfl (Keep.refl _ WD) hk1 hrw (Nat.zero_le _) hf1
        rw [World.setCell_alloc_past _ _ _ _ hcbw] at this
        exact ⟨_, this.dr⟩
    case rest =>
      obtain ⟨L2, nt⟩ := hcut
      have O3 := Lib.hid (O2.out.nt 1 rfl nt)
      clear nt O2
      simp only [List.set] at O3
      go_upto_region 15 with (fail)
      have hn3 := Lib.hid (O3.out.node_ 1 rfl)
      go_cut [] (fun wx => ∃ L', NTurn TT E wc nn ⟨hr.iso, 0, [], some []⟩ L2 wx ⟨hr.iso, 0, [], some [n, m]⟩ L')
      case first =>
        have c2 := hdr_root (O3.out.blk_ 0 rfl : Hdr wc b { hr with root := some nn })
        simp only [rootV, Option.map_some] at c2
        obtain ⟨c3, g1, fz, _, _⟩ := hn3.out.kids rfl
        unfold ptr at c3
        have hcbw := lt_of_cell g1
        have fz0 := fz 0
        have hcb1 : b ≠ L2.cb := fun e => O3.out.apart 0 1 _ _ (by omega) rfl rfl L2.cb 0 e.symm (.inr (.inr ⟨rfl, .inl rfl⟩))
        have hcb2 : nn ≠ L2.cb := blk_ne hn3.out.1 (hn3.out.2.2.2 _ rfl).1 ty_ok.c
        go_region_held3 (fun w' => w'.cell? ⟨b, 2, none⟩ = some (.pointer (some ⟨nn, 0, none⟩)) ∧ w'.cell? ⟨nn, 3, none⟩ = some (.pointer (some ⟨L2.cb, 0, none⟩))) ((go_split_ands; refine ⟨?_, ?_⟩ <;> first | assumption | (refine cell_al _ ?_; assumption) | (refine cell_grew hg ?_; assumption) | (refine cell_set ?_ ?_ <;> assumption)))
          ((refine step_append_any rfl (Operand.tmp 101) (Operand.tmp 104) 173 rfl 164 1 8 Try.underlying173 ⟨by kernel_rfl, by kernel_rfl, by kernel_rfl⟩ _ 0 0 [] (by rfl) (Row.empty (by first | exact blk_two _ rfl | exact blk_last (by simp))) rfl _ 2 2 [ptr n, ptr m] (by rfl) rfl (fun j u hj => new_cells (cs := [ptr n, ptr m]) (by first | exact blk_two _ rfl | exact blk_last (by simp)) j u hj) (by intro u hu; simp at hu; rcases hu with rfl | rfl <;> rfl) (by omega) (by omega) (by simp [maxLen]) (by omega) ?_; intro a' cap' w1 hg; have cm1 := cell_grew hg (cell_al _ (cell_al _ g1)); have fz1 := (fz_grew hg (fz_al _ (fz_al _ hcbw fz0).1 (fz_al _ hcbw fz0).2).1 (fz_al _ (fz_al _ hcbw fz0).1 (fz_al _ hcbw fz0).2).2).2))
        all_goals
          go_wp2_with fail
          go_meet
          obtain ⟨hk1, hf1⟩ := hg.fresh (w := wc) ((((Keep.refl _ _).al _).al _).dr)
          simp only [Nat.mul_one] at hf1
          exact ⟨_, nk_fresh ty_ok hn3.out rfl (Keep.refl _ wc) hk1 (new := [n, m]) hg.row hg.cap hf1⟩
      case rest =>
        obtain ⟨L4, nt⟩ := hcut
        have O4 := Lib.hid (O3.out.nt 1 rfl nt)
        clear nt O3 hn3
        simp only [List.set] at O4
        go_upto_region 16 with (fail)
        have hn4 := Lib.hid (O4.out.node_ 1 rfl)
        go_cut [] (fun wx => ∃ L', NTurn TT E wc nn ⟨hr.iso, 0, [], some [n, m]⟩ L4 wx ⟨hr.iso, 0, [med], some [n, m]⟩ L')
        case first =>
          have c2 := hdr_root (O4.out.blk_ 0 rfl : Hdr wc b { hr with root := some nn })
          simp only [rootV, Option.map_some] at c2
          have M4 := HL.out wc O4.out.keep p _ (by have := hpq.out; omega) M0.out
          have cm0 : wc.cell? ⟨p, 0, none⟩ = some (.int .i64 med.2) := by simp only [World.cell?, M4]; rfl
          have cm : wc.cell? ⟨p, 1, none⟩ = some (kv (ky med)) := by simp only [World.cell?, M4]; rfl
          unfold kv at cm
          obtain ⟨d0, d1, g1, d3, fz⟩ := hn4.out.own
          clear d0 d1 d3 M4
          have hcbw := lt_of_cell g1
          have fz0 := fz 2
          have hb1 : b ≠ nn := fun e => O4.out.apart 0 1 _ _ (by omega) rfl rfl nn 0 e.symm (.inl rfl)
          have hb2 : p ≠ nn := by have := NW.out; have := SB.out; omega
          go_region_held3 (fun w' => w'.cell? ⟨b, 2, none⟩ = some (.pointer (some ⟨nn, 0, none⟩)) ∧ w'.cell? ⟨p, 0, none⟩ = some (.int .i64 med.2) ∧ w'.cell? ⟨p, 1, none⟩ = some (.string (ky med))) ((go_split_ands; refine ⟨?_, ?_, ?_⟩ <;> first | assumption | (refine cell_al _ ?_; assumption) | (refine cell_grew hg ?_; assumption) | (refine cell_set ?_ ?_ <;> assumption)))
            ((refine step_append_any rfl (Operand.tmp 111) (Operand.tmp 113) 169 rfl 161 2 24 Try.underlying169 ⟨by kernel_rfl, by kernel_rfl, by kernel_rfl⟩ _ 0 0 [] (by rfl) (Row.empty (by first | exact blk_two _ rfl | exact blk_last (by simp))) rfl _ 1 1 (E.enc med) (by rfl) (E.len _) (fun j u hj => new_cells (cs := E.enc med) (by first | exact blk_two _ rfl | exact blk_last (by simp)) j u hj) (E.one _) (by omega) (by omega) (by simp [maxLen]) (by omega) ?_; intro a' cap' w1 hg; have cm1 := cell_grew hg (cell_al _ (cell_al _ g1)); have fz1 := (fz_grew hg (fz_al _ (fz_al _ hcbw fz0).1 (fz_al _ hcbw fz0).2).1 (fz_al _ (fz_al _ hcbw fz0).1 (fz_al _ hcbw fz0).2).2).2))
          all_goals
            go_wp2_with fail
            go_meet
            obtain ⟨hk1, hf1⟩ := hg.fresh (w := wc) ((((Keep.refl _ _).al _).al _).dr)
            have hrw := hg.row
            simp only [List.nil_append] at hrw
            exact ⟨_, nt_fresh ty_ok hn4.out (Keep.refl _ wc) hk1 (its := [med]) (by simp only [Enc.all, List.flatMap_cons, List.flatMap_nil, List.append_nil]; exact hrw) hg.cap hf1⟩
        case rest =>
          obtain ⟨L5, nt⟩ := hcut
          have O5 := Lib.hid (O4.out.nt 1 rfl nt)
          clear nt O4 hn4
          simp only [List.set] at O5
          obtain ⟨_, rl, el, _, _, ecl⟩ := HA2.out.rl.root
          obtain ⟨_, rr, er, _, _, ecr⟩ := HA2.out.rr.root
          have hm5 : Mem TT E wc H' L' := (HA2.out.ts.mem.keepS KB.out fun _ _ _ _ _ _ h => h).keepS O5.out.keep fun a q c o hq hf hs => hs.elim (fun ⟨_, _, h, _⟩ => by cases h) (HA2.out.local a q c o hq hf)
          have hnl : n < WB.heap.size := (HA2.out.ts.mem.keepS KB.out fun _ _ _ _ _ _ h => h).lt el
          have hml : m < WB.heap.size := (HA2.out.ts.mem.keepS KB.out fun _ _ _ _ _ _ h => h).lt er
          have hfl : ((flat h t).length : Int) = rl.cnt + rr.cnt + 1 := by rw [HA2.out.fl, ecl, ecr]; simp; omega
          have hup := Lib.hid (updateCount_any (O5.out.node_ 1 rfl) (by simp) (cntOf H') (fun ks hks => by
            obtain rfl : [n, m] = ks := Option.some.inj hks
            have := HBIG.out
            refine ⟨by simp, by simp [cntOf, el, er]; omega, fun k hk => ?_⟩
            simp only [List.mem_cons, List.not_mem_nil, or_false] at hk
            have := NW.out
            rcases hk with rfl | rfl
            · exact ⟨by omega, by simp [cntOf, el]; omega, by rw [(hm5.at_ _ _ el).own.2.1]; simp [cntOf, el]⟩
            · exact ⟨by omega, by simp [cntOf, er]; omega, by rw [(hm5.at_ _ _ er).own.2.1]; simp [cntOf, er]⟩))
          have hcn : Hid ((1 : Int) + kidSum (cntOf H') (some [n, m]) = ((flat h t).length : Int)) := by
            show (1 : Int) + ([n, m].map (cntOf H')).sum = _
            simp [cntOf, el, er]; omega
          clear el er ecl ecr hm5 hnl hml hfl
          have c2 := hdr_root (O5.out.blk_ 0 rfl : Hdr wc b { hr with root := some nn })
          simp only [rootV, Option.map_some] at c2
          unfold ptr at hup
          go_wp2_with fail
          refine hup.out.mono ?_
          intro e we hpo
          have hat := upd_node (O5.out.node_ 1 rfl) hpo
          obtain ⟨rfl, hku, _⟩ := hpo
          have O6 := Lib.hid (O5.out.turn 1 rfl (r' := .node nn ⟨hr.iso, ((flat h t).length : Int), [med], some [n, m]⟩ L5) (hku.mono fun _ _ _ h => .inl h.1) (by have h2 := hcn.out; rw [← h2]; exact hat) (fun _ _ _ h => h))
          clear hat hku O5 hup c2 hcn
          simp only [List.set] at O6
          obtain ⟨H2, L6, F2', ts, T2, fl2, clr⟩ := HA2.out.tree HT.out KB.out HR.out O6.out NW.out
          have TS := Lib.hid ts
          have TT2 := Lib.hid T2
          have FL := Lib.hid fl2
          have CLR := Lib.hid clr
          have X6 := Lib.hid (HL.out we O6.out.keep (q) _ (by omega) X0.out)
          have hset := Lib.hid (set_plain TT2.out (by rw [FL.out]; exact HBIG.out) x (fun a => by have := a.full; have := HT.out.par.odd; have := HT.out.par.pos; simp [Tr.its] at *; omega))
          clear ts T2 fl2 clr O6 X0
          have kx0 : we.cell? ⟨q, 0, none⟩ = some (.int .i64 x.2) := by have := X6.out; simp only [World.cell?, this]; rfl
          have kx1 : we.cell? ⟨q, 1, none⟩ = some (.string (ky x)) := by have := X6.out; simp only [World.cell?, this]; rfl
          unfold ptr kv vv at hset
          go_wp2_with fail
          refine hset.out.mono ?_
          rintro e w' ⟨hr', H'', L'', F'', s', pp, rfl, ts5, T5, put, i1, i2, i3, i4⟩
          unfold vv
          simp only at i1 i2 i3
          go_wp2_with fail
          go_ret2
          simp only [its] at put
          rw [FL.out] at put
          exact ⟨hr', H'', L'', F'', s', pp, rfl, TS.out.then HT.out.mem ts5, T5, put, i1, i2, i3, i4⟩

/-- SETTING IN A TREE. -/
theorem set_tree {w : World} {b : Nat} {hr : HRec} {H : Store It} {L : Nat → Lay} {F : List Nat} {mn mx : Nat} {s : Sh} (T : TreeAt w b hr H L F mn mx s) (big : (its s).length ≤ 3000000000000000000) (x : It) :
    Calls Try.prog 74 #[ptr b, kv (ky x), vv x] w (SetT w b hr H L F mn mx s x) := by
  cases s with
  | none => exact set_nil T x
  | some p =>
    obtain ⟨h, t⟩ := p
    by_cases ha : Asks mx h t (ky x)
    · exact set_split T big x ha
    · exact set_plain T big x ha
end Go.Proofs.Ytckplcmieelmpaa.W
