/- Part 2 of the texts for the statement FnSetAlgebraSaid: the package's tree of maps and sets, its functions' contracts. -/
import Derived.Test.YtckplcmieelmpaaHA
import Derived.Deep.RegionHeld3
namespace Go.Wb
open Go Go.RowKit
variable {P : Program}

theorem Row.getElem {w : World} {ty s b o cap : Nat} {cs : List Value} (h : Row w ty s (some ⟨b, o, none⟩) cap cs) : ∃ arr, w.heap[b]? = some (.cells arr ty (0, 0)) ∧ cs.length ≤ cap * s ∧ o + cap * s ≤ arr.size ∧ ∀ i v, cs[i]? = some v → arr[o + i]? = some v := by
  rcases h with ⟨h, _⟩ | ⟨b', o', arr, h1, h2, h3, h4, h5⟩
  · cases h
  · obtain ⟨rfl, rfl⟩ : b = b' ∧ o = o' := by simpa using h1
    exact ⟨arr, h2, h3, h4, h5⟩

/-- A row isn't touched by what writes a block of another type. -/
theorem Row.off {w w' : World} {ty s t y cap : Nat} {a : Option Addr} {cs : List Value} {arr : Array Value} (h : Row w ty s a cap cs) (hk : Keep (fun x _ => x = y) w w') (hy : w.heap[y]? = some (.cells arr t (0, 0))) (ht : t ≠ ty) : Row w' ty s a cap cs := by
  refine h.keep' hk fun b o hf e => ?_
  obtain ⟨ar, ha⟩ := h.block ⟨_, hf⟩
  subst e
  exact blk_ne hy ha ht rfl

/-- Cells of a row are written. -/
theorem Row.setCells {ty s b o cap : Nat} : ∀ (vs : List Value) {w : World} {cs : List Value} (_ : Row w ty s (some ⟨b, o, none⟩) cap cs) {k : Nat} (_ : k + vs.length ≤ cs.length),
    Row (w.setCells b (o + k) vs) ty s (some ⟨b, o, none⟩) cap (cs.take k ++ vs ++ cs.drop (k + vs.length))
  | [], w, cs, h, k, hk => by simpa [World.setCells] using h
  | v :: r, w, cs, h, k, hk => by
    simp only [List.length_cons] at hk
    have h1 := h.setCell (j := k) v (by omega)
    have h2 := Row.setCells r h1 (k := k + 1) (by rw [List.length_set]; omega)
    rw [World.setCells, Nat.add_assoc]
    have e : (cs.set k v).take (k + 1) ++ r ++ (cs.set k v).drop (k + 1 + r.length) = cs.take k ++ v :: r ++ cs.drop (k + (v :: r).length) := by
      rw [List.take_set, List.drop_set_of_lt (by omega), List.length_cons, show k + 1 + r.length = k + (r.length + 1) by omega]
      congr 1
      rw [show v :: r = [v] ++ r from rfl, ← List.append_assoc]
      congr 1
      rw [List.take_succ_eq_append_getElem (by omega), List.set_append_right _ _ (by simp; omega), List.length_take, show k - min k cs.length = 0 by omega]
      simp
    rw [← e]
    exact h2

/-- The builtin copy that makes room in a row for one element ahead of element i. -/
theorem run_copyRoom (w : World) (t ty e s : Nat) (hu : P.underlying t = some (.slice e)) (hs : (P.info? e).map (·.size) = some s) {b o cap n i : Nat} {xs : List Value}
    (hrow : Row w e s (some ⟨b, o, none⟩) cap xs) (hn : xs.length = (n + 1) * s) (hi : i ≤ n) (d a : Option Addr) (hd : i < n → d = some ⟨b, o + (i + 1) * s, none⟩) (ha : i < n → a = some ⟨b, o + i * s, none⟩) (c1 c2 : Nat) (one : ∀ v ∈ xs, v.oneCell' = true) :
    ∃ r w', (Builtin.copy_ #[t, t] ty #[.slice d (n + 1 - (i + 1)) c1, .slice a (n + 1 - i) c2]).run P w = .ok r w' ∧
      Keep (fun x y => x = b ∧ o + (i + 1) * s ≤ y ∧ y < o + (n + 1) * s) w w' ∧ Row w' e s (some ⟨b, o, none⟩) cap (xs.take ((i + 1) * s) ++ (xs.drop (i * s)).take ((n - i) * s)) := by
  have hm : Nat.min (n + 1 - i) (n + 1 - (i + 1)) = n - i := by show min _ _ = _; omega
  cases hq : P.info? e with
  | none => simp [hq] at hs
  | some inf =>
    have hz : inf.size = s := by simpa [hq] using hs
    by_cases hlt : i < n
    · rw [hd hlt, ha hlt]
      obtain ⟨arr, h2, h3, h4, h5⟩ := hrow.getElem
      have e1 : (i + 1) * s = i * s + s := by rw [Nat.add_mul]; omega
      have e2 : (n + 1) * s = i * s + s + (n - i) * s := by rw [← e1, ← Nat.add_mul]; congr 1; omega
      generalize hcs : (xs.drop (i * s)).take ((n - i) * s) = cs
      have hcl : cs.length = (n - i) * s := by rw [← hcs]; simp; omega
      have hsrc : ∀ j v, cs[j]? = some v → w.cell? ((⟨b, o + i * s, none⟩ : Addr).add j) = some v := fun j v hj => by
        have hadd : (⟨b, o + i * s, none⟩ : Addr).add j = ⟨b, o + (i * s + j), none⟩ := by unfold Addr.add; split <;> simp_all [Nat.add_assoc]
        rw [hadd]
        refine hrow.cell ?_
        rw [← hcs, List.getElem?_take] at hj
        split at hj
        · rwa [List.getElem?_drop] at hj
        · cases hj
      have hl := run_loadCells_list (P := P) w ⟨b, o + i * s, none⟩ cs hsrc
      have hst := run_storeCells_cells (P := P) b (o + (i + 1) * s) cs 0 w (fun j hj => by
          have : o + (i + 1) * s + 0 + j < arr.size := by omega
          simp [World.cell?, h2]; omega) (fun j hj => by simp [World.frozen?, h2]) (fun v hv => one v (by
          rw [← hcs] at hv
          exact List.mem_of_mem_drop (List.mem_of_mem_take hv)))
      refine ⟨goInt (n - i : Nat), w.setCells b (o + (i + 1) * s) cs, ?_, ?_, ?_⟩
      · rw [hcl] at hl
        have hm2 : (n + 1 - i).min (n - i) = n - i := by show min _ _ = _; omega
        simp [Builtin.copy_, run_underlying hu, Builtin.lenOf, Builtin.firstCells, sizeOf, typeInfo, hq, hz, hm2, hl, hst]
      · exact Keep.setCells b cs _ w fun j hj => ⟨rfl, by omega, by omega⟩
      · have := hrow.setCells cs (k := (i + 1) * s) (by omega)
        have hdrop : xs.drop ((i + 1) * s + cs.length) = [] := List.drop_eq_nil_of_le (by omega)
        rw [hdrop, List.append_nil] at this
        exact this
    · obtain rfl : i = n := by omega
      refine ⟨goInt 0, w, ?_, Keep.refl _ _, ?_⟩
      · have hl : ∀ (x : Addr), (loadCells x 0).run P w = .ok #[] w := fun x => by simpa using run_loadCells_list (P := P) w x [] (by simp)
        rw [Nat.sub_self] at hm
        cases d <;> cases a <;> simp [Builtin.copy_, run_underlying hu, Builtin.lenOf, Builtin.firstCells, sizeOf, typeInfo, hq, storeCells, hl]
      · rw [Nat.sub_self, Nat.zero_mul, List.take_zero, List.append_nil, List.take_of_length_le (by omega)]
        exact hrow

theorem step_copyRoom {w : World} {ops : Array Oper} {o' : Oper} {a' : Act} {K : Act → World → Prop} {Q : Exit → Act → World → Prop} {E : Prop} (hgd : o'.guard = none) (x y : Operand) (t : TypeId)
    (ho : o'.op = .call { callee := .builtin .copy, args := #[x, y], argTypes := #[t, t] })
    (e s : Nat) (hu : P.underlying t = some (.slice e)) (hs : (P.info? e).map (·.size) = some s) {b o cap n i : Nat} {xs : List Value}
    (hrow : Row w e s (some ⟨b, o, none⟩) cap xs) (hn : xs.length = (n + 1) * s) (hi : i ≤ n) (d a : Option Addr) (c1 c2 : Nat)
    (hx : a'.eval x = .slice d (n + 1 - (i + 1)) c1) (hy : a'.eval y = .slice a (n + 1 - i) c2)
    (hd : i < n → d = some ⟨b, o + (i + 1) * s, none⟩) (ha : i < n → a = some ⟨b, o + i * s, none⟩) (one : ∀ v ∈ xs, v.oneCell' = true)
    (h : ∀ r w', Keep (fun x y => x = b ∧ o + (i + 1) * s ≤ y ∧ y < o + (n + 1) * s) w w' → Row w' e s (some ⟨b, o, none⟩) cap (xs.take ((i + 1) * s) ++ (xs.drop (i * s)).take ((n - i) * s)) → K (a'.put o'.dst r) w') :
    if Region.wanted o' (yielded ops a'.tmps) = true then Oper.wp P o' a' w K Q else E := by
  have hw : Region.wanted o' (yielded ops a'.tmps) = true := by simp [Region.wanted, hgd]
  rw [if_pos hw]
  obtain ⟨r, w', hr, h1, h2⟩ := run_copyRoom (P := P) w t o'.type e s hu hs hrow hn hi d a hd ha c1 c2 one
  unfold Oper.wp execOp
  simp only [ho, resolve, invoke, builtin, Sem.run_bind, Sem.run_pure, Result.andThen_ok, List.map_toArray, List.map_cons, List.map_nil, hx, hy, hr]
  exact h r w' h1 h2
/-- A row into which an element was put. -/
theorem ins_cells {α : Type} (E : Enc α) (its : List α) (x : α) (em : List Value) {i : Nat} (hi : i ≤ its.length) (hem : em.length = E.s) :
    ((E.all its ++ em).take ((i + 1) * E.s) ++ ((E.all its ++ em).drop (i * E.s)).take ((its.length - i) * E.s)).take (i * E.s) ++ E.enc x ++
      ((E.all its ++ em).take ((i + 1) * E.s) ++ ((E.all its ++ em).drop (i * E.s)).take ((its.length - i) * E.s)).drop (i * E.s + (E.enc x).length) = E.all (its.take i ++ x :: its.drop i) := by
  have hl := E.all_len its
  have e1 : (i + 1) * E.s = i * E.s + E.s := by rw [Nat.add_mul]; omega
  have e2 : i * E.s ≤ its.length * E.s := Nat.mul_le_mul_right _ hi
  have e3 : (its.length - i) * E.s = its.length * E.s - i * E.s := Nat.sub_mul _ _ _
  rw [E.all_append, E.all_cons, E.all_take, E.all_drop, E.len, ← e1]
  generalize E.all its = A at *
  generalize its.length * E.s = N at *
  rw [List.append_assoc]
  have ht : ((A ++ em).take ((i + 1) * E.s)).length = (i + 1) * E.s := by simp; omega
  congr 1
  · rw [List.take_append_of_le_length (by omega), List.take_take, List.take_append_of_le_length (by omega)]
    congr 1
    omega
  · congr 1
    rw [List.drop_left' ht, e3, List.drop_append_of_le_length (by omega), List.take_append_of_le_length (by simp; omega), List.take_of_length_le (by simp; omega)]
/-- A row of children into which one was put behind child i. -/
theorem ins_kids (ks : List Nat) (m : Nat) (v : Value) {i : Nat} (hi : i < ks.length) :
    (((ks.map ptr ++ [v]).take ((i + 1) * 1) ++ ((ks.map ptr ++ [v]).drop (i * 1)).take ((ks.length - i) * 1)).set (i + 1) (ptr m)) = (ks.take (i + 1) ++ m :: ks.drop (i + 1)).map ptr := by
  simp only [Nat.mul_one]
  rw [List.set_append_right _ _ (by simp; omega)]
  have h1 : ((ks.map ptr ++ [v]).take (i + 1)) = (ks.take (i + 1)).map ptr := by rw [List.take_append_of_le_length (by simp; omega), List.map_take]
  have h2 : ((ks.map ptr ++ [v]).drop i).take (ks.length - i) = (ks.drop i).map ptr := by rw [List.drop_append_of_le_length (by simp; omega), List.take_append_of_le_length (by simp), List.take_of_length_le (by simp), List.map_drop]
  rw [h1, h2, List.drop_eq_getElem_cons hi, List.map_append, List.map_cons, List.map_cons]
  congr 1
  rw [show i + 1 - ((ks.take (i + 1)).map ptr).length = 0 by simp; omega]
  rfl
end Go.Wb

namespace Go.Proofs.Ytckplcmieelmpaa.S
open Go.RowKit Go.Wb

/-- A head is no node's cell. -/
theorem hdr_apart {w : World} {b n o : Nat} {h : HRec} {r : NRec It} {L : Lay} (hh : Hdr w b h) (hn : NodeAt TT E w n r L) (hf : fp TT n r L b o) : False := by
  have t1 : (185 : Nat) ≠ 253 := by decide
  have t2 : (185 : Nat) ≠ 181 := by decide
  have t3 : (185 : Nat) ≠ 254 := by decide
  have t4 : (185 : Nat) ≠ 179 := by decide
  rcases hf with rfl | hf | ⟨hk, hf⟩
  · exact blk_ne hh hn.1 t1 rfl
  · obtain ⟨arr, ha⟩ := hn.2.1.block ⟨_, hf⟩
    exact blk_ne hh ha t2 rfl
  · obtain ⟨ks, hks⟩ := Option.isSome_iff_exists.1 hk
    obtain ⟨h5, h6, _⟩ := hn.2.2.2 ks hks
    rcases hf with rfl | hf
    · exact blk_ne hh h5 t3 rfl
    · obtain ⟨arr, ha⟩ := h6.block ⟨_, hf⟩
      exact blk_ne hh ha t4 rfl

def InsPost (w : World) (n : Nat) (r : NRec It) (L : Lay) (x ep : It) (i : Nat) (e : Ending) (w' : World) : Prop :=
  e = .returned (.tuple #[vv ep, .bool false, .bool false]) ∧ Keep (fp TT n r L) w w' ∧
    ∃ L', NodeAt TT E w' n { r with cnt := r.cnt + 1, items := r.items.take i ++ x :: r.items.drop i } L' ∧
      ∀ b o, b < w.heap.size → fp TT n ({ r with cnt := r.cnt + 1, items := r.items.take i ++ x :: r.items.drop i } : NRec It) L' b o → fp TT n r L b o

set_option maxRecDepth 100000 in
set_option maxHeartbeats 4000000 in
theorem set_leaf {w : World} {b pb po n : Nat} {hr : HRec} {r : NRec It} {L : Lay} (hh : Hdr w b hr) (hp : w.cell? ⟨pb, po, none⟩ = some (ptr n)) (hn : NodeAt TT E w n r L) (hi : r.iso = hr.iso)
    (hlen : r.items.length ≤ 1000000000000) (hs : Sorted ilt r.items) {x : It} {i : Nat} (hloc : Loc r.items (ky x) i false) (hlf : r.kids = none) (hfull : hr.mx ≠ r.items.length) (hc0 : 0 ≤ r.cnt) (hc1 : r.cnt ≤ 4000000000000000000) :
    Calls Try.prog 196 #[ptr b, .pointer (some ⟨pb, po, none⟩), pv x] w (InsPost w n r L x hr.emp i) := by
  have HN := Lib.hid hn
  have HH := Lib.hid hh
  have HP := Lib.hid hp
  have HLOC := Lib.hid hloc
  have HS := Lib.hid hs
  have HI := Lib.hid hi
  have hnw := lt_of_heap hn.1
  have hpw := lt_of_cell hp
  have hbw := lt_of_heap hh
  clear hh hn hp hs hloc hi
  unfold ptr pv kv at *
  go_enter Try.func196, Try.ntmps196
  go_upto_region 1 with (fail)
  refine wp_world ?_
  intro W1 hW1
  generalize hq : w.heap.size = q at *
  have K1 : Hid (Keep Nothing w W1) := by subst hW1; exact ((Keep.refl _ _).al _).al _
  have X1 : Hid (W1.heap[q]? = some (.cells (E.enc x).toArray 181 (0, 0))) := by subst hW1; subst hq; exact blk_alloc _ (heap_alloc_new w _)
  have XQ := Lib.hid hq
  have Y1 : Hid (W1.heap[q + 1]? = some (.cells #[] 124 (0, 0))) := by subst hW1; subst hq; have := heap_alloc_new (w.alloc (.cells (E.enc x).toArray 181)) (.cells #[] 124); rwa [World.size_alloc] at this
  have S1 : W1.heap.size = q + 2 := by subst hW1; rw [World.size_alloc, World.size_alloc, hq]
  clear hW1 hq
  have HN1 : Hid (NodeAt TT E W1 n r L) := by exact HN.out.keep K1.out fun _ _ _ h => h
  have HH1 : Hid (Hdr W1 b hr) := by exact blk_keep HH.out K1.out fun _ h => h
  have hiso := isoLoad_own HH1.out (K1.out.cell' HP.out fun h => h) HN1.out HI.out true
  unfold ptr at hiso
  go_wp2_with fail
  refine hiso.mono ?_
  rintro e w1 ⟨rfl, kd, rfl⟩
  clear hiso
  have K1d : Hid (Keep Nothing w (W1.drewN kd)) := by exact K1.out.drN kd
  have S1d : (W1.drewN kd).heap.size = q + 2 := S1
  have X1d : Hid ((W1.drewN kd).heap[q]? = some (.cells (E.enc x).toArray 181 (0, 0))) := by exact X1.out
  have Y1d : Hid ((W1.drewN kd).heap[q + 1]? = some (.cells #[] 124 (0, 0))) := by exact Y1.out
  clear HN1 HH1 K1 S1 X1 Y1
  generalize W1.drewN kd = W1 at *
  unfold ptr
  go_upto_region 2 with (fail)
  refine wp_world ?_
  intro W2 hW2
  have K2 : Hid (Keep Nothing w W2) := by subst hW2; exact K1d.out.al _
  have X2 : Hid (W2.heap[q]? = some (.cells (E.enc x).toArray 181 (0, 0))) := by subst hW2; exact blk_alloc _ X1d.out
  have Y2 : Hid (W2.heap[q + 1]? = some (.cells #[] 124 (0, 0))) := by subst hW2; exact blk_alloc _ Y1d.out
  have Z2 : Hid (W2.heap[q + 2]? = some (.cells #[.pointer (some ⟨n, 0, none⟩)] 179 (0, 0))) := by subst hW2; rw [← S1d]; exact heap_alloc_new W1 _
  have S2 : W2.heap.size = q + 3 := by subst hW2; rw [World.size_alloc, S1d]
  clear hW2 K1d X1d Y1d S1d
  have HN2 : Hid (NodeAt TT E W2 n r L) := by exact HN.out.keep K2.out fun _ _ _ h => h
  have hse := search_loc (tr := ptr b) HN2.out hlen HS.out HLOC.out
  have kc : W2.cell? ⟨q, 0, none⟩ = some (.int .i64 (ky x)) := by have := X2.out; simp only [World.cell?, this]; rfl
  have zc := (blk1 Z2.out).1
  unfold ptr kv at hse
  go_wp2_with fail
  refine hse.mono ?_
  rintro e w1 ⟨rfl, kd, rfl⟩
  clear hse kc zc HN2
  have K2d : Hid (Keep Nothing w (W2.drewN kd)) := by exact K2.out.drN kd
  have S2d : (W2.drewN kd).heap.size = q + 3 := S2
  have X2d : Hid ((W2.drewN kd).heap[q]? = some (.cells (E.enc x).toArray 181 (0, 0))) := by exact X2.out
  have Y2d : Hid ((W2.drewN kd).heap[q + 1]? = some (.cells #[] 124 (0, 0))) := by exact Y2.out
  have Z2d : Hid ((W2.drewN kd).heap[q + 2]? = some (.cells #[.pointer (some ⟨n, 0, none⟩)] 179 (0, 0))) := by exact Z2.out
  clear K2 S2 X2 Y2 Z2
  generalize W2.drewN kd = W at *
  have HNd : Hid (NodeAt TT E W n r L) := by exact HN.out.keep K2d.out fun _ _ _ h => h
  have HHd : Hid (Hdr W b hr) := by exact blk_keep HH.out K2d.out fun _ h => h
  have hlv := leaf_any HNd.out
  rw [hlf] at hlv
  simp only [Option.isNone_none] at hlv
  obtain ⟨c0, c1, c2, c3, fz⟩ := blk4 HNd.out.1
  have x6 := hdr_mx HHd.out
  have hne : ((r.items.length : Int) == hr.mx) = false := by simpa using fun h => hfull h.symm
  have zc := (blk1 Z2d.out).1
  unfold ptr at hlv
  replace hfull := Lib.hid hfull
  clear c0 c1 c3
  go_wp2_with fail
  refine hlv.mono ?_
  rintro e w1 ⟨rfl, rfl⟩
  clear hlv
  go_wp2_with fail
  refine wp_calm (by kernel_rfl) (by kernel_rfl) rfl ?_
  simp only [List.flatMap_cons, List.flatMap_nil, checks, chk, nilLit, List.cons_append, List.nil_append, List.append_nil, Try.underlying3]
  go_wp2_with fail
  rw [HQ_normal]
  go_upto_region 10 with (fail)
  refine wp_world ?_
  intro W3 hW3
  have K3 : Hid (Keep Nothing w W3) := by subst hW3; exact K2d.out.dr
  have S3 : W3.heap.size = q + 3 := by subst hW3; exact S2d
  have X3 : Hid (W3.heap[q]? = some (.cells (E.enc x).toArray 181 (0, 0))) := by subst hW3; exact X2d.out
  have Y3 : Hid (W3.heap[q + 1]? = some (.cells #[] 124 (0, 0))) := by subst hW3; exact Y2d.out
  have Z3 : Hid (W3.heap[q + 2]? = some (.cells #[.pointer (some ⟨n, 0, none⟩)] 179 (0, 0))) := by subst hW3; exact Z2d.out
  have HN3 : Hid (NodeAt TT E W3 n r L) := by exact HN.out.keep K3.out fun _ _ _ h => h
  have HH3 : Hid (Hdr W3 b hr) := by exact blk_keep HH.out K3.out fun _ h => h
  clear hW3 K2d S2d X2d Y2d Z2d HNd HHd c2 fz x6 hne zc
  have he := hdr_emp HH3.out
  have zc := (blk1 Z3.out).1
  obtain ⟨c0, c1, c2, c3, fz⟩ := blk4 HN3.out.1
  clear c0 c1 c3
  unfold kv at he
  refine wp_held (fun w' => w'.cell? ⟨q + 2, 0, none⟩ = some (.pointer (some ⟨n, 0, none⟩)) ∧ w'.cell? ⟨n, 2, none⟩ = some (.slice L.ia r.items.length L.icap)) [0, 1, 4] (by kernel_rfl) (by kernel_rfl) (by kernel_rfl) rfl ⟨zc, c2⟩ ?_
  simp only [segs, readsB, silentB, lenB, checks, List.nil_append]
  go_wp2_with fail
  refine held_world ?_
  intro W4 hW4
  have K4 : Hid (Keep Nothing w W4) := by subst hW4; exact (K3.out.al _).dr
  have N4 : Hid (W4.heap[q + 3]? = some (.cells (E.enc hr.emp).toArray 181 (0, 0))) := by subst hW4; rw [← S3]; exact heap_alloc_new W3 _
  have S4 : W4.heap.size = q + 4 := by subst hW4; show (W3.alloc _).heap.size = _; rw [World.size_alloc, S3]
  have X4 : Hid (W4.heap[q]? = some (.cells (E.enc x).toArray 181 (0, 0))) := by subst hW4; exact blk_alloc _ X3.out
  have Y4 : Hid (W4.heap[q + 1]? = some (.cells #[] 124 (0, 0))) := by subst hW4; exact blk_alloc _ Y3.out
  have Z4 : Hid (W4.heap[q + 2]? = some (.cells #[.pointer (some ⟨n, 0, none⟩)] 179 (0, 0))) := by subst hW4; exact blk_alloc _ Z3.out
  clear hW4 K3 X3 Y3 Z3 HN3 HH3 he zc c2 fz
  have HN4 : Hid (NodeAt TT E W4 n r L) := by exact HN.out.keep K4.out fun _ _ _ h => h
  have zc := (blk1 Z4.out).1
  obtain ⟨c0, c1, c2, c3, fz⟩ := blk4 HN4.out.1
  clear c0 c1 c3
  refine held_next ⟨zc, c2⟩ ?_
  refine wpList_append_any rfl _ _ _ rfl 181 1 8 Try.underlying250 ⟨by kernel_rfl, by kernel_rfl, by kernel_rfl⟩ L.ia r.items.length L.icap (E.all r.items) rfl HN4.out.2.1 (E.all_len _) ⟨q + 3, 0, none⟩ 1 1 (E.enc hr.emp) ?_ (E.len _) ?_ (E.one _) (by omega) HN4.out.2.2.1 (by simp only [maxLen]; omega) (by omega) ?_
  · rfl
  · exact new_cells N4.out
  intro a' cap' W5 hG
  have GR := Lib.hid hG
  have hRW : Hid (∀ y o, rowFp L.ia (L.icap * TT.s) y o → y < q ∧ y ≠ n) := by
    intro y o hf
    refine ⟨XQ.out ▸ rowFp_lt HN.out.2.1 hf, fun e => ?_⟩
    obtain ⟨arr, ha⟩ := HN.out.2.1.block ⟨_, hf⟩
    exact blk_ne HN.out.1 ha ty_ok.a e.symm
  have hGq : Hid (∀ y o, (∃ x z, L.ia = some ⟨x, z, none⟩ ∧ y = x ∧ z + r.items.length * 1 ≤ o ∧ o < z + L.icap * 1) → y < q ∧ y ≠ n) := by
    exact fun y o h => hRW.out y o (grow_row HN.out.2.2.1 h)
  have B4 := HN4.out.1
  have B5 : Hid (W5.heap[n]? = some (.cells #[.int .u64 r.iso, .int .i64 r.cnt, .slice L.ia r.items.length L.icap, kidsVal r.kids L.cb] 253 (0, 0))) := by
    exact blk_keep B4 hG.keep fun o h => (hGq.out n o h).2 rfl
  have X5 : Hid (W5.heap[q]? = some (.cells (E.enc x).toArray 181 (0, 0))) := by exact blk_keep X4.out hG.keep fun o h => by have := (hGq.out q o h).1; omega
  have Y5 : Hid (W5.heap[q + 1]? = some (.cells #[] 124 (0, 0))) := by exact blk_keep Y4.out hG.keep fun o h => by have := (hGq.out _ o h).1; omega
  have Z5 : Hid (W5.heap[q + 2]? = some (.cells #[.pointer (some ⟨n, 0, none⟩)] 179 (0, 0))) := by exact blk_keep Z4.out hG.keep fun o h => by have := (hGq.out _ o h).1; omega
  clear hG B4 zc c2 fz
  have zc := (blk1 Z5.out).1
  obtain ⟨c0, c1, c2, c3, fz⟩ := blk4 B5.out
  clear c0 c1 c3
  refine held_next ⟨zc, c2⟩ ?_
  simp only [Act.put]
  go_wp2_with fail
  refine held_world ?_
  intro W6 hW6
  refine held_end ?_ ?_
  · refine ⟨?_, ?_, ?_, trivial⟩
    · exact ⟨.pointer (some ⟨n, 0, none⟩), fun w' hS => by simp [execOp, hS.1, go_sem]⟩
    · exact ⟨.pointer (some ⟨n, 0, none⟩), fun w' hS => by simp [execOp, hS.1, go_sem]⟩
    · exact ⟨.slice L.ia r.items.length L.icap, fun w' hS => by simp [execOp, hS.2, go_sem]⟩
  have hform : ∃ jb jo, a' = some ⟨jb, jo, none⟩ := by
    obtain ⟨jb, jo, h1, _⟩ := GR.out.row.form (by rw [List.length_append, E.len]; have := E.pos; omega)
    exact ⟨jb, jo, h1⟩
  obtain ⟨jb, jo, hja⟩ := hform
  subst hja
  obtain ⟨fc, hfc⟩ : ∃ f : Unit → Nat, f () = cap' := ⟨fun _ => cap', rfl⟩
  subst hfc
  have hcap' := GR.out.cap
  have hjb : jb < q ∨ jb = q + 4 := by
    rcases GR.out.fp jb jo ⟨jb, jo, rfl, rfl, Nat.le_refl _, by omega⟩ with h | ⟨h, _⟩
    · exact .inl (hRW.out jb jo h).1
    · exact .inr (by omega)
  obtain ⟨arr5, harr5⟩ := GR.out.row.blk
  have hjn : jb ≠ n := (blk_ne B5.out harr5 ty_ok.a).symm
  have K6 : Hid (Keep (fp TT n r L) w W6) := by
    subst hW6
    refine Keep.set ?_ _ _ _ fun _ => .inl rfl
    exact (K4.out.mono fun _ _ _ h => h.elim).trans GR.out.keep fun y o _ h => .inr (.inl (grow_row HN.out.2.2.1 h))
  have B6 : Hid (W6.heap[n]? = some (.cells #[.int .u64 r.iso, .int .i64 r.cnt, .slice (some ⟨jb, jo, none⟩) (r.items.length + 1) (fc ()), kidsVal r.kids L.cb] 253 (0, 0))) := by
    subst hW6; exact blk_set _ B5.out
  have X6 : Hid (W6.heap[q]? = some (.cells (E.enc x).toArray 181 (0, 0))) := by subst hW6; exact blk_far _ X5.out (by omega)
  have Y6 : Hid (W6.heap[q + 1]? = some (.cells #[] 124 (0, 0))) := by subst hW6; exact blk_far _ Y5.out (by omega)
  have Z6 : Hid (W6.heap[q + 2]? = some (.cells #[.pointer (some ⟨n, 0, none⟩)] 179 (0, 0))) := by subst hW6; exact blk_far _ Z5.out (by omega)
  have R6 : Hid (Row W6 TT.pair TT.s (some ⟨jb, jo, none⟩) (fc ()) (E.all r.items ++ E.enc hr.emp)) := by
    have h1 := GR.out.row
    subst hW6
    refine h1.keep' (S := fun y o => y = n ∧ o = 2) ((Keep.refl _ _).set _ _ _ fun _ => ⟨rfl, rfl⟩) fun y o hf h => ?_
    exact hjn ((rowFp_some hf).1.symm.trans h.1)
  clear hW6 K4 N4 X4 Y4 Z4 HN4 X5 Y5 Z5 B5 zc c2 fz harr5 arr5
  have hil : i ≤ r.items.length := HLOC.out.1
  obtain ⟨c0, c1, c2, c3, fz⟩ := blk4 B6.out
  have zc := (blk1 Z6.out).1
  have hcn : ¬ (fc ()) = i := by omega
  clear c0 c1 c3
  have hxs : Hid ((E.all r.items ++ E.enc hr.emp).length = (r.items.length + 1) * 1) := by
    have : (E.all r.items ++ E.enc hr.emp).length = (r.items.length + 1) * 1 := by rw [List.length_append, E.all_len, E.len, Nat.add_mul, Nat.one_mul]; rfl
    exact this
  have hone : Hid (∀ v ∈ E.all r.items ++ E.enc hr.emp, v.oneCell' = true) := by
    intro v hv
    rcases List.mem_append.1 hv with h | h
    · unfold Enc.all at h
      obtain ⟨y, _, hy⟩ := List.mem_flatMap.1 h
      exact E.one y v hy
    · exact E.one _ v h
  have R6d : Hid (Row W6.drew 181 1 (some ⟨jb, jo, none⟩) (fc ()) (E.all r.items ++ E.enc hr.emp)) := by exact R6.out.keep (Keep.drew Nothing _) fun _ _ _ h => h
  go_wp2_with fail
  refine wp_calm (by kernel_rfl) (by kernel_rfl) rfl ?_
  simp only [List.flatMap_cons, List.flatMap_nil, checks, chk, nilLit, List.cons_append, List.nil_append, List.append_nil, Try.underlying3]
  go_wp2_with fail
  case' inl =>
    obtain ⟨rv, W7, hr7, hk7, hrow7⟩ := run_copyRoom (P := Try.prog) W6.drew 250 3 181 1 Try.underlying250 (by kernel_rfl) R6d.out hxs.out hil (some ⟨jb, jo, none⟩) (some ⟨jb, jo + i, none⟩) (fun h => absurd h (by omega)) (fun h => absurd h (by omega)) 0 1 hone.out
    simp only [Nat.add_sub_add_right] at hr7
    rw [hr7]
  case' inr =>
    obtain ⟨rv, W7, hr7, hk7, hrow7⟩ := run_copyRoom (P := Try.prog) W6.drew 250 3 181 1 Try.underlying250 (by kernel_rfl) R6d.out hxs.out hil (some ⟨jb, jo + (i + 1), none⟩) (some ⟨jb, jo + i, none⟩) (fun _ => by simp) (fun _ => by simp) (fc () - (i + 1)) (fc () - i) hone.out
    simp only [Nat.add_sub_add_right] at hr7
    rw [hr7]
  all_goals
    simp only [Result.andThen_ok]
    replace hrow7 := Lib.hid hrow7
    replace hk7 := Lib.hid hk7
    clear hr7 zc c2 fz
    have K7 : Hid (Keep (fp TT n r L) w W7) := by
      refine K6.out.dr.trans hk7.out ?_
      rintro y o hy ⟨rfl, h1, h2⟩
      rcases GR.out.fp y o ⟨y, jo, rfl, rfl, by omega, by have := hcap'; simp only [TT, E] at *; omega⟩ with h | ⟨h, _⟩
      · exact .inr (.inl h)
      · have := XQ.out; omega
    have B7 : Hid (W7.heap[n]? = some (.cells #[.int .u64 r.iso, .int .i64 r.cnt, .slice (some ⟨jb, jo, none⟩) (r.items.length + 1) (fc ()), kidsVal r.kids L.cb] 253 (0, 0))) := by
      exact blk_keep (blk_drew B6.out) hk7.out fun o e => hjn e.1.symm
    have X7 : Hid (W7.heap[q]? = some (.cells (E.enc x).toArray 181 (0, 0))) := by exact blk_keep (blk_drew X6.out) hk7.out fun o e => by have := e.1; omega
    have Y7 : Hid (W7.heap[q + 1]? = some (.cells #[] 124 (0, 0))) := by exact blk_keep (blk_drew Y6.out) hk7.out fun o e => by have := e.1; omega
    have Z7 : Hid (W7.heap[q + 2]? = some (.cells #[.pointer (some ⟨n, 0, none⟩)] 179 (0, 0))) := by exact blk_keep (blk_drew Z6.out) hk7.out fun o e => by have := e.1; omega
    have hxl : Hid ((E.all r.items ++ E.enc hr.emp).length = (r.items.length + 1) * 1) := by exact hxs.out
    clear K6 B6 X6 Y6 Z6 R6 R6d hxs
    obtain ⟨c0, c1, c2, c3, fz⟩ := blk4 B7.out
    have zc := (blk1 Z7.out).1
    have xc : W7.cell? ⟨q, 0, none⟩ = some (.int .i64 (ky x)) := by have := X7.out; simp only [World.cell?, this]; rfl
    have fz2 := hrow7.out.frozen
    obtain ⟨ov, hov⟩ := hrow7.out.there (i := i) (by have := hcap'; omega)
    clear c0 c1 c3
    go_wp2_with fail
    rw [HQ_normal]
    go_wp2_with fail
    refine wp_calm (by kernel_rfl) (by kernel_rfl) rfl ?_
    simp only [List.flatMap_cons, List.flatMap_nil, checks, chk, nilLit, List.cons_append, List.nil_append, List.append_nil]
    go_wp2_with fail
    rw [HQ_normal]
    go_upto_region 13 with (fail)
    refine wp_world ?_
    intro W8 hW8
    have R8 : Hid (Row W8 TT.pair TT.s (some ⟨jb, jo, none⟩) (fc ()) (E.all (r.items.take i ++ x :: r.items.drop i))) := by
      have h1 := hrow7.out.setCells (E.enc x) (k := i * 1) (by
        have := hxl.out
        rw [E.len]
        simp only [List.length_append, List.length_take, List.length_drop, E.len, E.all_len] at *
        simp only [E] at *
        omega)
      have h2 := ins_cells E r.items x (E.enc hr.emp) hil (E.len _)
      simp only [show E.s = 1 from rfl] at h2
      simp only [Nat.mul_one] at h1 h2
      rw [← h2]
      subst hW8
      exact h1.keep (Keep.drew Nothing _) fun _ _ _ h => h
    have K8 : Hid (Keep (fp TT n r L) w W8) := by
      have hS : ∀ o, jo + i ≤ o → o < jo + (i + 1) → jb < w.heap.size → fp TT n r L jb o := fun o h1 h2 hlt => by
        rcases GR.out.fp jb o ⟨jb, jo, rfl, rfl, by omega, by have := hcap'; simp only [TT, E] at *; omega⟩ with h | ⟨h, _⟩
        · exact .inr (.inl h)
        · have := XQ.out; omega
      subst hW8
      exact (K7.out.set _ _ _ (hS _ (by omega) (by omega))).dr
    have B8 : Hid (W8.heap[n]? = some (.cells #[.int .u64 r.iso, .int .i64 r.cnt, .slice (some ⟨jb, jo, none⟩) (r.items.length + 1) (fc ()), kidsVal r.kids L.cb] 253 (0, 0))) := by
      subst hW8; exact blk_drew (blk_far _ B7.out hjn.symm)
    have Y8 : Hid (W8.heap[q + 1]? = some (.cells #[] 124 (0, 0))) := by
      subst hW8; exact blk_drew (blk_far _ Y7.out (by omega))
    have Z8 : Hid (W8.heap[q + 2]? = some (.cells #[.pointer (some ⟨n, 0, none⟩)] 179 (0, 0))) := by
      subst hW8; exact blk_drew (blk_far _ Z7.out (by omega))
    clear hW8 K7 B7 Y7 Z7 X7 hrow7 hk7 zc c2 fz xc fz2 hov
    obtain ⟨c0, c1, c2, c3, fz⟩ := blk4 B8.out
    have zc := (blk1 Z8.out).1
    have hb1 : -9223372036854775808 ≤ r.cnt + 1 ∧ r.cnt + 1 ≤ 9223372036854775807 := by omega
    clear c0 c2 c3
    go_upto_region 14 with (fail)
    refine wp_world ?_
    intro W9 hW9
    have hlen9 : (r.items.take i ++ x :: r.items.drop i).length = r.items.length + 1 := by simp; omega
    have B9 : Hid (W9.heap[n]? = some (.cells #[.int .u64 r.iso, .int .i64 (r.cnt + 1), .slice (some ⟨jb, jo, none⟩) (r.items.length + 1) (fc ()), kidsVal r.kids L.cb] 253 (0, 0))) := by
      subst hW9; exact blk_set _ B8.out
    have K9 : Hid (Keep (fp TT n r L) w W9) := by subst hW9; exact K8.out.set _ _ _ fun _ => .inl rfl
    have Y9 : Hid (W9.heap[q + 1]? = some (.cells #[] 124 (0, 0))) := by subst hW9; exact blk_far _ Y8.out (by omega)
    have R9 : Hid (Row W9 TT.pair TT.s (some ⟨jb, jo, none⟩) (fc ()) (E.all (r.items.take i ++ x :: r.items.drop i))) := by
      subst hW9
      refine R8.out.keep' (S := fun y o => y = n ∧ o = 1) ((Keep.refl _ _).set _ _ _ fun _ => ⟨rfl, rfl⟩) fun y o hf h => ?_
      exact hjn ((rowFp_some hf).1.symm.trans h.1)
    clear hW9 B8 K8 Y8 Z8 R8 zc c1 fz
    have H9 : Hid (Hdr W9 b hr) := by exact blk_keep HH.out K9.out fun o hf => hdr_apart HH.out HN.out hf
    have he := hdr_emp H9.out
    have f0 := field0_hdr (w := W9) (b := b) (h := hr) H9.out
    unfold kv at he
    go_wp2_with fail
    refine bodyPost_ret (results_cell_tmp2_row rfl _ _ (q + 1) 124 #[] (0, 0) _ rfl Y9.out Try.underlying124 rfl (by kernel_rfl)) rfl ?_
    refine ⟨rfl, K9.out, ⟨some ⟨jb, jo, none⟩, fc (), L.cb, none, 0⟩, ⟨?_, R9.out, ?_, ?_⟩, ?_⟩
    · simp only [hlen9]; exact B9.out
    · simp only [hlen9]; have := hcap'; omega
    · intro ks hks; rw [hlf] at hks; cases hks
    · rintro y o hy (rfl | hf | ⟨hk, _⟩)
      · exact .inl rfl
      · rcases GR.out.fp y o hf with h | ⟨h, _⟩
        · exact .inr (.inl h)
        · have := XQ.out; omega
      · simp only [hlf] at hk; cases hk
end Go.Proofs.Ytckplcmieelmpaa.S

namespace Go.Wb
open Go Go.RowKit
variable {P : Program}

/-- The builtin copy that closes the gap of element i in a row. -/
theorem run_copyShut (w : World) (t ty e s : Nat) (hu : P.underlying t = some (.slice e)) (hs : (P.info? e).map (·.size) = some s) {b o cap n i : Nat} {xs : List Value}
    (hrow : Row w e s (some ⟨b, o, none⟩) cap xs) (hn : xs.length = (n + 1) * s) (hi : i ≤ n) (d a : Option Addr) (hd : i < n → d = some ⟨b, o + i * s, none⟩) (ha : i < n → a = some ⟨b, o + (i + 1) * s, none⟩) (c1 c2 : Nat) (one : ∀ v ∈ xs, v.oneCell' = true) :
    ∃ r w', (Builtin.copy_ #[t, t] ty #[.slice d (n + 1 - i) c1, .slice a (n + 1 - (i + 1)) c2]).run P w = .ok r w' ∧
      Keep (fun x y => x = b ∧ o + i * s ≤ y ∧ y < o + n * s) w w' ∧ Row w' e s (some ⟨b, o, none⟩) cap (xs.take (i * s) ++ xs.drop ((i + 1) * s) ++ xs.drop (n * s)) := by
  have hm : Nat.min (n + 1 - (i + 1)) (n + 1 - i) = n - i := by show min _ _ = _; omega
  cases hq : P.info? e with
  | none => simp [hq] at hs
  | some inf =>
    have hz : inf.size = s := by simpa [hq] using hs
    by_cases hlt : i < n
    · rw [hd hlt, ha hlt]
      obtain ⟨arr, h2, h3, h4, h5⟩ := hrow.getElem
      have e1 : (i + 1) * s = i * s + s := by rw [Nat.add_mul]; omega
      have e2 : (n + 1) * s = i * s + s + (n - i) * s := by rw [← e1, ← Nat.add_mul]; congr 1; omega
      have e3 : n * s = i * s + (n - i) * s := by rw [← Nat.add_mul]; congr 1; omega
      generalize hcs : xs.drop ((i + 1) * s) = cs
      have hcl : cs.length = (n - i) * s := by rw [← hcs]; simp; omega
      have hsrc : ∀ j v, cs[j]? = some v → w.cell? ((⟨b, o + (i + 1) * s, none⟩ : Addr).add j) = some v := fun j v hj => by
        have hadd : (⟨b, o + (i + 1) * s, none⟩ : Addr).add j = ⟨b, o + ((i + 1) * s + j), none⟩ := by unfold Addr.add; split <;> simp_all [Nat.add_assoc]
        rw [hadd]
        refine hrow.cell ?_
        rw [← hcs] at hj
        rwa [List.getElem?_drop] at hj
      have hl := run_loadCells_list (P := P) w ⟨b, o + (i + 1) * s, none⟩ cs hsrc
      have hst := run_storeCells_cells (P := P) b (o + i * s) cs 0 w (fun j hj => by
          have : o + i * s + 0 + j < arr.size := by omega
          simp [World.cell?, h2]; omega) (fun j hj => by simp [World.frozen?, h2]) (fun v hv => one v (by
          rw [← hcs] at hv
          exact List.mem_of_mem_drop hv))
      refine ⟨goInt (n - i : Nat), w.setCells b (o + i * s) cs, ?_, ?_, ?_⟩
      · rw [hcl] at hl
        have hm2 : (n - i).min (n + 1 - i) = n - i := by show min _ _ = _; omega
        have hm3 : n + 1 - (i + 1) = n - i := by omega
        simp [Builtin.copy_, run_underlying hu, Builtin.lenOf, Builtin.firstCells, sizeOf, typeInfo, hq, hz, hm2, hl, hst]
      · exact Keep.setCells b cs _ w fun j hj => ⟨rfl, by omega, by omega⟩
      · have := hrow.setCells cs (k := i * s) (by omega)
        rw [show i * s + cs.length = n * s by omega] at this
        exact this
    · obtain rfl : i = n := by omega
      refine ⟨goInt 0, w, ?_, Keep.refl _ _, ?_⟩
      · have hl : ∀ (x : Addr), (loadCells x 0).run P w = .ok #[] w := fun x => by simpa using run_loadCells_list (P := P) w x [] (by simp)
        rw [Nat.sub_self] at hm
        cases d <;> cases a <;> simp [Builtin.copy_, run_underlying hu, Builtin.lenOf, Builtin.firstCells, sizeOf, typeInfo, hq, storeCells, hl]
      · rw [show xs.drop ((i + 1) * s) = [] from List.drop_eq_nil_of_le (by omega), List.append_nil, List.take_append_drop]
        exact hrow

theorem step_copyShut {w : World} {ops : Array Oper} {o' : Oper} {a' : Act} {K : Act → World → Prop} {Q : Exit → Act → World → Prop} {E : Prop} (hgd : o'.guard = none) (x y : Operand) (t : TypeId)
    (ho : o'.op = .call { callee := .builtin .copy, args := #[x, y], argTypes := #[t, t] })
    (e s : Nat) (hu : P.underlying t = some (.slice e)) (hs : (P.info? e).map (·.size) = some s) {b o cap n i : Nat} {xs : List Value}
    (hrow : Row w e s (some ⟨b, o, none⟩) cap xs) (hn : xs.length = (n + 1) * s) (hi : i ≤ n) (d a : Option Addr) (c1 c2 : Nat)
    (hx : a'.eval x = .slice d (n + 1 - i) c1) (hy : a'.eval y = .slice a (n + 1 - (i + 1)) c2)
    (hd : i < n → d = some ⟨b, o + i * s, none⟩) (ha : i < n → a = some ⟨b, o + (i + 1) * s, none⟩) (one : ∀ v ∈ xs, v.oneCell' = true)
    (h : ∀ r w', Keep (fun x y => x = b ∧ o + i * s ≤ y ∧ y < o + n * s) w w' → Row w' e s (some ⟨b, o, none⟩) cap (xs.take (i * s) ++ xs.drop ((i + 1) * s) ++ xs.drop (n * s)) → K (a'.put o'.dst r) w') :
    if Region.wanted o' (yielded ops a'.tmps) = true then Oper.wp P o' a' w K Q else E := by
  have hw : Region.wanted o' (yielded ops a'.tmps) = true := by simp [Region.wanted, hgd]
  rw [if_pos hw]
  obtain ⟨r, w', hr, h1, h2⟩ := run_copyShut (P := P) w t o'.type e s hu hs hrow hn hi d a hd ha c1 c2 one
  unfold Oper.wp execOp
  simp only [ho, resolve, invoke, builtin, Sem.run_bind, Sem.run_pure, Result.andThen_ok, List.map_toArray, List.map_cons, List.map_nil, hx, hy, hr]
  exact h r w' h1 h2

/-- A row without element i, once its last place is given up. -/
theorem shut_cells {α : Type} (E : Enc α) (its : List α) {i n : Nat} (hn : its.length = n + 1) (hi : i ≤ n) (em : List Value) (hem : em.length = E.s) :
    (((E.all its).take (i * E.s) ++ (E.all its).drop ((i + 1) * E.s) ++ (E.all its).drop (n * E.s)).take (n * E.s) ++ em ++ ((E.all its).take (i * E.s) ++ (E.all its).drop ((i + 1) * E.s) ++ (E.all its).drop (n * E.s)).drop (n * E.s + em.length)).take (n * E.s)
      = E.all (its.take i ++ its.drop (i + 1)) := by
  have hl := E.all_len its
  have e1 : (i + 1) * E.s = i * E.s + E.s := by rw [Nat.add_mul]; omega
  have e2 : i * E.s ≤ n * E.s := Nat.mul_le_mul_right _ hi
  have e3 : its.length * E.s = n * E.s + E.s := by rw [hn, Nat.add_mul]; omega
  have hlen : ((E.all its).take (i * E.s) ++ (E.all its).drop ((i + 1) * E.s)).length = n * E.s := by simp; omega
  rw [E.all_append, E.all_take, E.all_drop]
  rw [List.append_assoc (List.take (n * E.s) _), List.take_append_of_le_length (by rw [List.length_take]; simp only [List.length_append, hlen]; simp), List.take_take, Nat.min_self, List.take_append_of_le_length (by omega), List.take_of_length_le (by omega)]
end Go.Wb

namespace Go.Proofs.Ytckplcmieelmpaa.S
open Go.RowKit Go.Wb

def CutPost (w : World) (n : Nat) (r : NRec It) (L : Lay) (y : It) (i : Nat) (e : Ending) (w' : World) : Prop :=
  e = .returned (.tuple #[pv y, .bool true]) ∧ Keep (fp TT n r L) w w' ∧ NodeAt TT E w' n { r with cnt := r.cnt - 1, items := r.items.take i ++ r.items.drop (i + 1) } L

set_option maxRecDepth 100000 in
set_option maxHeartbeats 4000000 in
theorem del_leaf {w : World} {b pb po n : Nat} {hr : HRec} {r : NRec It} {L : Lay} (hh : Hdr w b hr) (hp : w.cell? ⟨pb, po, none⟩ = some (ptr n)) (hn : NodeAt TT E w n r L) (hi : r.iso = hr.iso)
    (hlen : r.items.length ≤ 1000000000000) (hs : Sorted ilt r.items) {mb : Bool} {k : Ky} {y : It} {i : Nat} (hm : (mb = false ∧ Loc r.items k i true) ∨ (mb = true ∧ i + 1 = r.items.length)) (hy : r.items[i]? = some y) (hlf : r.kids = none) (hc0 : 0 ≤ r.cnt) (hc1 : r.cnt ≤ 4000000000000000000) :
    Calls Try.prog 173 #[ptr b, .pointer (some ⟨pb, po, none⟩), .bool mb, kv k] w (CutPost w n r L y i) := by
  have HN := Lib.hid hn
  have HH := Lib.hid hh
  have HP := Lib.hid hp
  have HS := Lib.hid hs
  have HI := Lib.hid hi
  have HM := Lib.hid hm
  have HY := Lib.hid hy
  have hib : i ≤ 1000000000000 := by
    obtain ⟨hil, _⟩ := List.getElem?_eq_some_iff.1 hy
    omega
  have hnw := lt_of_heap hn.1
  have hpw := lt_of_cell hp
  have hbw := lt_of_heap hh
  clear hh hn hp hs hi hm hy
  unfold ptr kv at *
  go_enter Try.func173, Try.ntmps173
  go_upto_region 1 with (fail)
  refine wp_world ?_
  intro W1 hW1
  generalize hq : w.heap.size = q at *
  have K1 : Hid (Keep Nothing w W1) := by subst hW1; exact (Keep.refl _ _).al _
  have XQ := Lib.hid hq
  have X1 : Hid (W1.heap[q]? = some (.cells (E.enc 0).toArray 181 (0, 0))) := by subst hW1; subst hq; exact heap_alloc_new w _
  have S1 : W1.heap.size = q + 1 := by subst hW1; rw [World.size_alloc, hq]
  clear hW1 hq
  have HN1 : Hid (NodeAt TT E W1 n r L) := by exact HN.out.keep K1.out fun _ _ _ h => h
  have HH1 : Hid (Hdr W1 b hr) := by exact blk_keep HH.out K1.out fun _ h => h
  have hiso := isoLoad_own HH1.out (K1.out.cell' HP.out fun h => h) HN1.out HI.out true
  unfold ptr at hiso
  go_wp2_with fail
  refine hiso.mono ?_
  rintro e w1 ⟨rfl, kd, rfl⟩
  clear hiso
  have K1d : Hid (Keep Nothing w (W1.drewN kd)) := by exact K1.out.drN kd
  have S1d : (W1.drewN kd).heap.size = q + 1 := S1
  have X1d : Hid ((W1.drewN kd).heap[q]? = some (.cells (E.enc 0).toArray 181 (0, 0))) := by exact X1.out
  clear HN1 HH1 K1 S1 X1
  generalize W1.drewN kd = W1 at *
  have HN2 : Hid (NodeAt TT E W1 n r L) := by exact HN.out.keep K1d.out fun _ _ _ h => h
  unfold ptr
  go_upto_region 4 with (fail)
  rcases HM.out with ⟨rfl, hloc⟩ | ⟨rfl, hil⟩
  case' inl =>
    have hse := search_loc (tr := ptr b) HN2.out hlen HS.out hloc
    unfold ptr kv at hse
    go_wp2_with fail
    refine hse.mono ?_
    rintro e w1 ⟨rfl, kd, rfl⟩
    clear hse hloc
    have K2d : Hid (Keep Nothing w (W1.drewN kd)) := by exact K1d.out.drN kd
    have S2d : (W1.drewN kd).heap.size = q + 1 := S1d
    have X2d : Hid ((W1.drewN kd).heap[q]? = some (.cells (E.enc 0).toArray 181 (0, 0))) := by exact X1d.out
    clear K1d S1d X1d HN2
    generalize W1.drewN kd = W at *
  case' inr =>
    have K2d := K1d
    have S2d := S1d
    have X2d := X1d
    clear K1d S1d X1d HN2
    generalize W1 = W at *
  all_goals
    have HNd : Hid (NodeAt TT E W n r L) := by exact HN.out.keep K2d.out fun _ _ _ h => h
    have HHd : Hid (Hdr W b hr) := by exact blk_keep HH.out K2d.out fun _ h => h
    have hlv := leaf_any HNd.out
    rw [hlf] at hlv
    simp only [Option.isNone_none] at hlv
    unfold ptr at hlv
  case' inr =>
    obtain ⟨c0, c1, c2, c3, fz⟩ := blk4 HNd.out.1
    rw [← hil] at c2
    clear c0 c1 c3 hil
    replace HM := Lib.hid True.intro
  all_goals
    go_wp2_with fail
    refine hlv.mono ?_
    rintro e w1 ⟨rfl, rfl⟩
    clear hlv
    try clear c2 fz
    obtain ⟨c0, c1, c2, c3, fz⟩ := blk4 HNd.out.1
    clear c0 c1 c3
    have hrow := HNd.out.2.1
    have hpos : 0 < (E.all r.items).length := by
      obtain ⟨hil, _⟩ := List.getElem?_eq_some_iff.1 HY.out
      rw [E.all_len]; exact Nat.mul_pos (by omega) E.pos
    obtain ⟨ib, io, hia, _⟩ := hrow.form hpos
    have HIA := Lib.hid hia
    rw [hia] at hrow c2
    have ck := key_cell hrow HY.out
    unfold kv at ck
    obtain ⟨hil, _⟩ := List.getElem?_eq_some_iff.1 HY.out
    go_upto_region 10 with (fail)
    refine wp_world ?_
    intro W3 hW3
    have K3 : Hid (Keep Nothing w W3) := by subst hW3; exact K2d.out.al _
    have S3 : W3.heap.size = q + 2 := by subst hW3; rw [World.size_alloc, S2d]
    have X3 : Hid (W3.heap[q]? = some (.cells (E.enc 0).toArray 181 (0, 0))) := by subst hW3; exact blk_alloc _ X2d.out
    have Y3 : Hid (W3.heap[q + 1]? = some (.cells (E.enc y).toArray 181 (0, 0))) := by subst hW3; rw [← S2d]; exact heap_alloc_new W _
    clear hW3 K2d S2d X2d HNd HHd c2 fz ck hrow
    have HN3 : Hid (NodeAt TT E W3 n r L) := by exact HN.out.keep K3.out fun _ _ _ h => h
    obtain ⟨c0, c1, c2, c3, fz⟩ := blk4 HN3.out.1
    clear c0 c1 c3
    have hrow := HN3.out.2.1
    rw [hia] at hrow c2
    have R3d : Hid (Row W3.drew 181 1 (some ⟨ib, io, none⟩) L.icap (E.all r.items)) := by exact hrow.keep (Keep.drew Nothing _) fun _ _ _ h => h
    have hicap := HN3.out.2.2.1
    have hcn : ¬ L.icap = i := by omega
    obtain ⟨m, hm⟩ : ∃ m, r.items.length = m + 1 := ⟨r.items.length - 1, by omega⟩
    have HMM := Lib.hid hm
    have him : i ≤ m := by omega
    have hxs : Hid ((E.all r.items).length = (m + 1) * 1) := by rw [E.all_len, hm]; exact Lib.hid rfl
    have hone : Hid (∀ v ∈ E.all r.items, v.oneCell' = true) := by
      intro v hv
      unfold Enc.all at hv
      obtain ⟨y, _, hy⟩ := List.mem_flatMap.1 hv
      exact E.one y v hy
    clear hrow hm hia
    go_wp2_with fail
    refine wp_calm (by kernel_rfl) (by kernel_rfl) rfl ?_
    simp only [List.flatMap_cons, List.flatMap_nil, checks, chk, nilLit, List.cons_append, List.nil_append, List.append_nil, Try.underlying3]
    go_wp2_with fail
  all_goals
    first
      | (obtain ⟨rv, W4, hr4, hk4, hrow4⟩ := run_copyShut (P := Try.prog) W3.drew 250 3 181 1 Try.underlying250 (by kernel_rfl) R3d.out hxs.out him (some ⟨ib, io + i, none⟩) (some ⟨ib, io, none⟩) (fun _ => by first | rfl | simp) (fun h => absurd h (by have := HMM.out; omega)) 1 0 hone.out
         rw [← HMM.out] at hr4
         rw [hr4]
         clear h)
      | (obtain ⟨rv, W4, hr4, hk4, hrow4⟩ := run_copyShut (P := Try.prog) W3.drew 250 3 181 1 Try.underlying250 (by kernel_rfl) R3d.out hxs.out him (some ⟨ib, io + i, none⟩) (some ⟨ib, io + (i + 1), none⟩) (fun _ => by first | rfl | simp) (fun _ => by first | rfl | simp) (L.icap - i) (L.icap - (i + 1)) hone.out
         rw [← HMM.out] at hr4
         rw [hr4])
    simp only [Result.andThen_ok]
    clear hr4 c2 fz
    have hcap4 : m + 1 ≤ L.icap := by have := HMM.out; omega
    have hmb : m ≤ 1000000000000 := by have := HMM.out; omega
    have hin : Hid (∀ o, io ≤ o → o < io + (m + 1) → ib < w.heap.size → fp TT n r L ib o) := by
      intro o h1 h2 _
      exact .inr (.inl ⟨ib, io, HIA.out, rfl, h1, by have := hcap4; simp only [TT, E]; omega⟩)
    have hibn : ib ≠ n := by
      obtain ⟨arr, harr⟩ := R3d.out.blk
      exact (blk_ne (blk_drew HN3.out.1) harr ty_ok.a).symm
    have hibw : ib < q := by
      have h1 := HN.out.2.1
      rw [HIA.out] at h1
      have := lt_of_heap h1.blk.choose_spec
      have := XQ.out
      omega
    have hwq := XQ.out
    have K4 : Hid (Keep (fp TT n r L) w W4) := by
      refine (K3.out.mono fun _ _ _ h => h.elim).dr.trans hk4 ?_
      rintro y o hy ⟨rfl, h1, h2⟩
      exact hin.out o (by omega) (by omega) (by omega)
    have B4 : Hid (W4.heap[n]? = some (.cells #[.int .u64 r.iso, .int .i64 r.cnt, .slice (some ⟨ib, io, none⟩) r.items.length L.icap, kidsVal r.kids L.cb] 253 (0, 0))) := by
      have h1 := HN3.out.1
      rw [HIA.out] at h1
      exact blk_keep (blk_drew h1) hk4 fun o e => hibn e.1.symm
    have X4 : Hid (W4.heap[q]? = some (.cells (E.enc 0).toArray 181 (0, 0))) := by exact blk_keep (blk_drew X3.out) hk4 fun o e => by have := e.1; omega
    have Y4 : Hid (W4.heap[q + 1]? = some (.cells (E.enc y).toArray 181 (0, 0))) := by exact blk_keep (blk_drew Y3.out) hk4 fun o e => by have := e.1; omega
    have R4 := Lib.hid hrow4
    clear hk4 hrow4 K3 X3 Y3 S3 HN3 R3d
    have HH4 : Hid (Hdr W4 b hr) := by exact blk_keep HH.out K4.out fun o hf => hdr_apart HH.out HN.out hf
    obtain ⟨c0, c1, c2, c3, fz⟩ := blk4 B4.out
    have he := hdr_emp HH4.out
    have fz2 := R4.out.frozen
    obtain ⟨ov, hov⟩ := R4.out.there (i := m) (by omega)
    unfold kv at he
    rw [HMM.out] at c2
    clear c0 c1 c3
    go_wp2_with fail
    rw [HQ_normal]
    go_wp2_with fail
    refine wp_calm (by kernel_rfl) (by kernel_rfl) rfl ?_
    simp only [List.flatMap_cons, List.flatMap_nil, checks, chk, nilLit, List.cons_append, List.nil_append, List.append_nil]
    go_wp2_with fail
    rw [HQ_normal]
    go_upto_region 12 with (fail)
    refine wp_world ?_
    intro W5 hW5
    have K5 : Hid (Keep (fp TT n r L) w W5) := by
      subst hW5; exact (K4.out.set _ _ _ (fun h => hin.out _ (by omega) (by omega) h)).dr
    have B5 : Hid (W5.heap[n]? = some (.cells #[.int .u64 r.iso, .int .i64 r.cnt, .slice (some ⟨ib, io, none⟩) r.items.length L.icap, kidsVal r.kids L.cb] 253 (0, 0))) := by
      subst hW5; exact blk_drew (blk_far _ B4.out hibn.symm)
    have X5 : Hid (W5.heap[q]? = some (.cells (E.enc 0).toArray 181 (0, 0))) := by
      subst hW5; exact blk_drew (blk_far _ X4.out (by omega))
    have Y5 : Hid (W5.heap[q + 1]? = some (.cells (E.enc y).toArray 181 (0, 0))) := by
      subst hW5; exact blk_drew (blk_far _ Y4.out (by omega))
    have R5 : Hid (Row W5 TT.pair TT.s (some ⟨ib, io, none⟩) L.icap (E.all (r.items.take i ++ r.items.drop (i + 1)))) := by
      have hxl := hxs.out
      have h1 := R4.out.setCells (E.enc hr.emp) (k := m) (by rw [E.len]; simp only [List.length_append, List.length_take, List.length_drop, E] at *; omega)
      have h2 := shut_cells E r.items HMM.out him (E.enc hr.emp) (E.len _)
      simp only [show E.s = 1 from rfl] at h2
      simp only [Nat.mul_one] at h1 h2
      rw [← h2]
      refine Row.take ?_ _
      subst hW5
      exact h1.keep (Keep.drew Nothing _) fun _ _ _ h => h
    clear hW5 K4 B4 X4 Y4 R4 HH4 he fz2 hov c2 fz
    obtain ⟨c0, c1, c2, c3, fz⟩ := blk4 B5.out
    rw [HMM.out] at c2
    clear c0 c1 c3
    go_wp2_with fail
    refine wp_calm (by kernel_rfl) (by kernel_rfl) rfl ?_
    simp only [List.flatMap_cons, List.flatMap_nil, checks, chk, nilLit, List.cons_append, List.nil_append, List.append_nil]
    go_wp2_with fail
    rw [HQ_normal]
    go_upto_region 13 with (fail)
    refine wp_world ?_
    intro W6 hW6
    have K6 : Hid (Keep (fp TT n r L) w W6) := by subst hW6; exact (K5.out.set _ _ _ fun _ => .inl rfl).dr
    have B6 : Hid (W6.heap[n]? = some (.cells #[.int .u64 r.iso, .int .i64 r.cnt, .slice (some ⟨ib, io, none⟩) m L.icap, kidsVal r.kids L.cb] 253 (0, 0))) := by subst hW6; exact blk_drew (blk_set _ B5.out)
    have X6 : Hid (W6.heap[q]? = some (.cells (E.enc 0).toArray 181 (0, 0))) := by subst hW6; exact blk_drew (blk_far _ X5.out (by omega))
    have Y6 : Hid (W6.heap[q + 1]? = some (.cells (E.enc y).toArray 181 (0, 0))) := by subst hW6; exact blk_drew (blk_far _ Y5.out (by omega))
    have R6 : Hid (Row W6 TT.pair TT.s (some ⟨ib, io, none⟩) L.icap (E.all (r.items.take i ++ r.items.drop (i + 1)))) := by
      subst hW6
      refine (R5.out.keep' (S := fun y o => y = n ∧ o = 2) ((Keep.refl _ _).set _ _ _ fun _ => ⟨rfl, rfl⟩) fun y o hf h => ?_).keep (Keep.drew Nothing _) fun _ _ _ h => h
      exact hibn ((rowFp_some hf).1.symm.trans h.1)
    clear hW6 K5 B5 X5 Y5 R5 c2 fz
    obtain ⟨c0, c1, c2, c3, fz⟩ := blk4 B6.out
    have hb1 : -9223372036854775808 ≤ r.cnt - 1 ∧ r.cnt - 1 ≤ 9223372036854775807 := by omega
    clear c0 c2 c3
    go_upto_region 14 with (fail)
    refine wp_world ?_
    intro W7 hW7
    have K7 : Hid (Keep (fp TT n r L) w W7) := by subst hW7; exact K6.out.set _ _ _ fun _ => .inl rfl
    have B7 : Hid (W7.heap[n]? = some (.cells #[.int .u64 r.iso, .int .i64 (r.cnt - 1), .slice (some ⟨ib, io, none⟩) m L.icap, kidsVal r.kids L.cb] 253 (0, 0))) := by subst hW7; exact blk_set _ B6.out
    have X7 : Hid (W7.heap[q]? = some (.cells (E.enc 0).toArray 181 (0, 0))) := by subst hW7; exact blk_far _ X6.out (by omega)
    have Y7 : Hid (W7.heap[q + 1]? = some (.cells (E.enc y).toArray 181 (0, 0))) := by subst hW7; exact blk_far _ Y6.out (by omega)
    have R7 : Hid (Row W7 TT.pair TT.s (some ⟨ib, io, none⟩) L.icap (E.all (r.items.take i ++ r.items.drop (i + 1)))) := by
      subst hW7
      refine R6.out.keep' (S := fun y o => y = n ∧ o = 1) ((Keep.refl _ _).set _ _ _ fun _ => ⟨rfl, rfl⟩) fun y o hf h => ?_
      exact hibn ((rowFp_some hf).1.symm.trans h.1)
    clear hW7 K6 B6 X6 Y6 R6 c1 fz
    obtain ⟨y0, yf⟩ := blk1 Y7.out
    obtain ⟨x0, xf⟩ := blk1 X7.out
    unfold kv at y0 x0
    have X8 : (W7.setCell ⟨q, 0, none⟩ (kv (ky y))).heap[q]? = some (.cells (E.enc y).toArray 181 (0, 0)) := blk_set _ X7.out
    have K8 : Keep (fp TT n r L) w (W7.setCell ⟨q, 0, none⟩ (kv (ky y))) := K7.out.set _ _ _ fun h => by omega
    have B8 : (W7.setCell ⟨q, 0, none⟩ (kv (ky y))).heap[n]? = some (.cells #[.int .u64 r.iso, .int .i64 (r.cnt - 1), .slice (some ⟨ib, io, none⟩) m L.icap, kidsVal r.kids L.cb] 253 (0, 0)) := blk_far _ B7.out (by omega)
    have R8 : Row (W7.setCell ⟨q, 0, none⟩ (kv (ky y))) TT.pair TT.s (some ⟨ib, io, none⟩) L.icap (E.all (r.items.take i ++ r.items.drop (i + 1))) := by
      refine R7.out.keep' (S := fun y _ => y = q) ((Keep.refl _ _).set _ _ _ fun _ => by rfl) fun y o hf h => ?_
      have := (rowFp_some hf).1
      omega
    replace X8 := Lib.hid X8
    replace K8 := Lib.hid K8
    replace B8 := Lib.hid B8
    replace R8 := Lib.hid R8
    go_wp2_with fail
    refine bodyPost_ret (results_cell_tmp_row rfl _ _ q 181 (E.enc y).toArray (0, 0) _ rfl X8.out Try.underlying181 rfl (by kernel_rfl)) rfl ?_
    have hlm : (r.items.take i ++ r.items.drop (i + 1)).length = m := by have := HMM.out; simp; omega
    refine ⟨rfl, K8.out, ?_, ?_, ?_, ?_⟩
    · simp only [hlm, HIA.out]; exact B8.out
    · simp only [HIA.out]; exact R8.out
    · simp only [hlm]; omega
    · intro ks hks; rw [hlf] at hks; cases hks
end Go.Proofs.Ytckplcmieelmpaa.S

namespace Go.Proofs.Ytckplcmieelmpaa.S
open Go.RowKit Go.Wb

def MissPost (w : World) (ep : It) (e : Ending) (w' : World) : Prop := e = .returned (.tuple #[pv ep, .bool false]) ∧ Keep Nothing w w'

set_option maxRecDepth 100000 in
set_option maxHeartbeats 4000000 in
theorem del_miss {w : World} {b pb po n : Nat} {hr : HRec} {r : NRec It} {L : Lay} (hh : Hdr w b hr) (hp : w.cell? ⟨pb, po, none⟩ = some (ptr n)) (hn : NodeAt TT E w n r L) (hi : r.iso = hr.iso)
    (hlen : r.items.length ≤ 1000000000000) (hs : Sorted ilt r.items) {k : Ky} {i : Nat} (hloc : Loc r.items k i false) (hlf : r.kids = none) :
    Calls Try.prog 173 #[ptr b, .pointer (some ⟨pb, po, none⟩), .bool false, kv k] w (MissPost w hr.emp) := by
  have HN := Lib.hid hn
  have HH := Lib.hid hh
  have HP := Lib.hid hp
  have HS := Lib.hid hs
  have HI := Lib.hid hi
  have HLOC := Lib.hid hloc
  have hnw := lt_of_heap hn.1
  have hpw := lt_of_cell hp
  have hbw := lt_of_heap hh
  clear hh hn hp hs hi hloc
  unfold ptr kv at *
  go_enter Try.func173, Try.ntmps173
  go_upto_region 1 with (fail)
  refine wp_world ?_
  intro W1 hW1
  generalize hq : w.heap.size = q at *
  have K1 : Hid (Keep Nothing w W1) := by subst hW1; exact (Keep.refl _ _).al _
  have XQ := Lib.hid hq
  have X1 : Hid (W1.heap[q]? = some (.cells (E.enc 0).toArray 181 (0, 0))) := by subst hW1; subst hq; exact heap_alloc_new w _
  clear hW1 hq
  have HN1 : Hid (NodeAt TT E W1 n r L) := by exact HN.out.keep K1.out fun _ _ _ h => h
  have HH1 : Hid (Hdr W1 b hr) := by exact blk_keep HH.out K1.out fun _ h => h
  have hiso := isoLoad_own HH1.out (K1.out.cell' HP.out fun h => h) HN1.out HI.out true
  unfold ptr at hiso
  go_wp2_with fail
  refine hiso.mono ?_
  rintro e w1 ⟨rfl, kd, rfl⟩
  clear hiso
  have K1d : Hid (Keep Nothing w (W1.drewN kd)) := by exact K1.out.drN kd
  have X1d : Hid ((W1.drewN kd).heap[q]? = some (.cells (E.enc 0).toArray 181 (0, 0))) := by exact X1.out
  clear HN1 HH1 K1 X1
  generalize W1.drewN kd = W1 at *
  have HN2 : Hid (NodeAt TT E W1 n r L) := by exact HN.out.keep K1d.out fun _ _ _ h => h
  have hse := search_loc (tr := ptr b) HN2.out hlen HS.out HLOC.out
  unfold ptr kv at *
  go_wp2_with fail
  refine hse.mono ?_
  rintro e w1 ⟨rfl, kd, rfl⟩
  clear hse
  have K2d : Hid (Keep Nothing w (W1.drewN kd)) := by exact K1d.out.drN kd
  have X2d : Hid ((W1.drewN kd).heap[q]? = some (.cells (E.enc 0).toArray 181 (0, 0))) := by exact X1d.out
  clear K1d X1d HN2
  generalize W1.drewN kd = W at *
  have HNd : Hid (NodeAt TT E W n r L) := by exact HN.out.keep K2d.out fun _ _ _ h => h
  have HHd : Hid (Hdr W b hr) := by exact blk_keep HH.out K2d.out fun _ h => h
  have hlv := leaf_any HNd.out
  rw [hlf] at hlv
  simp only [Option.isNone_none] at hlv
  unfold ptr at hlv
  go_wp2_with fail
  refine hlv.mono ?_
  rintro e w1 ⟨rfl, rfl⟩
  clear hlv
  have he := hdr_emp HHd.out
  unfold kv at he
  obtain ⟨x0, xf⟩ := blk1 X2d.out
  unfold kv at x0
  have hwq := XQ.out
  have X8 : (W.setCell ⟨q, 0, none⟩ (kv (ky hr.emp))).heap[q]? = some (.cells (E.enc hr.emp).toArray 181 (0, 0)) := blk_set _ X2d.out
  have K8 : Keep Nothing w (W.setCell ⟨q, 0, none⟩ (kv (ky hr.emp))) := K2d.out.set _ _ _ fun h => by omega
  replace X8 := Lib.hid X8
  replace K8 := Lib.hid K8
  go_wp2_with fail
  refine bodyPost_ret (results_cell_tmp_row rfl _ _ q 181 (E.enc hr.emp).toArray (0, 0) _ rfl X8.out Try.underlying181 rfl (by kernel_rfl)) rfl ?_
  exact ⟨rfl, K8.out⟩
end Go.Proofs.Ytckplcmieelmpaa.S

namespace Go.Proofs.Ytckplcmieelmpaa.S
open Go.RowKit Go.Wb

/-- What a call below leaves: what was taken out, and the child c behind it. -/
def DelDown (w W : World) (b : Nat) (hr : HRec) (n : Nat) (r : NRec It) (L : Lay) (c : Nat) (G : It → Bool → NRec It → World → World → Prop) (e : Ending) (W' : World) : Prop :=
  ∃ y del rc Lc, e = .returned (.tuple #[pv y, .bool del]) ∧ Keep (fun b _ => b < w.heap.size) W W' ∧ NodeAt TT E W' n r L ∧ NodeAt TT E W' c rc Lc ∧ c ≠ n ∧ rc.items.length ≤ 1000000000000 ∧ Hdr W' b hr ∧ (∀ x o, fp TT c rc Lc x o → x < w.heap.size ∨ W.heap.size ≤ x) ∧ (∀ x o, fp TT c rc Lc x o → fp TT n r L x o → False) ∧ G y del rc W W'
/-- What deleting below a node leaves. W: the call below, W': behind it, X: ahead of putting right, X': behind it. -/
def DelGo (w : World) (n : Nat) (r : NRec It) (L : Lay) (mn : Int) (ep : It) (G : It → Bool → NRec It → World → World → Prop) (RB : World → It → World → World → Prop) (e : Ending) (w' : World) : Prop :=
  ∃ W W' y del rc, Keep Nothing w W ∧ G y del rc W W' ∧ Keep (fun b _ => b < w.heap.size) W W' ∧
    match del with
    | false => e = .returned (.tuple #[pv ep, .bool false]) ∧ Keep (fun b _ => w.heap.size ≤ b ∧ b < W.heap.size) W' w' ∧ NodeAt TT E w' n r L
    | true => e = .returned (.tuple #[pv y, .bool true]) ∧ ∃ X X', Keep (fun b o => (b = n ∧ o = 1) ∨ (w.heap.size ≤ b ∧ b < W.heap.size)) W' X ∧ NodeAt TT E X n { r with cnt := r.cnt - 1 } L ∧
        ((mn ≤ rc.items.length ∧ X' = X) ∨ ((rc.items.length : Int) < mn ∧ RB W y X X')) ∧ Keep (fun b _ => w.heap.size ≤ b ∧ b < W.heap.size) X' w'

theorem hdr_min {w : World} {b : Nat} {h : HRec} (hh : Hdr w b h) : 
    w.cell? ⟨b, 5, none⟩ = some (.int .i64 h.mn) := (hdr_cells hh).2.2.2.2.2.1
/-- Two nodes' cells: a node's own block isn't another one's. -/
theorem node_apart {w : World} {n c o : Nat} {r rc : NRec It} {L Lc : Lay} (hn : NodeAt TT E w n r L) (hc : NodeAt TT E w c rc Lc) (hne : c ≠ n) (hf : fp TT c rc Lc n o) : False := by
  have t2 : (253 : Nat) ≠ 181 := by decide
  have t3 : (253 : Nat) ≠ 254 := by decide
  have t4 : (253 : Nat) ≠ 179 := by decide
  rcases hf with e | hf | ⟨hk, hf⟩
  · exact hne e.symm
  · obtain ⟨arr, ha⟩ := hc.2.1.block ⟨_, hf⟩
    exact blk_ne hn.1 ha t2 rfl
  · obtain ⟨ks, hks⟩ := Option.isSome_iff_exists.1 hk
    obtain ⟨h5, h6, _⟩ := hc.2.2.2 ks hks
    rcases hf with e | hf
    · subst e; exact blk_ne hn.1 h5 t3 rfl
    · obtain ⟨arr, ha⟩ := h6.block ⟨_, hf⟩
      exact blk_ne hn.1 ha t4 rfl

/-- A node's cells are where they were. -/
theorem rowsOld {w w' : World} {n : Nat} {r : NRec It} {L : Lay} (h : NodeAt TT E w n r L) (_ : NodeAt TT E w' n r L) {x o : Nat} (hf : fp TT n r L x o) : x < w.heap.size := h.lt hf

set_option maxRecDepth 100000 in
set_option maxHeartbeats 4000000 in
theorem del_inner_go {w : World} {b pb po n : Nat} {hr : HRec} {r : NRec It} {L : Lay} (hh : Hdr w b hr) (hp : w.cell? ⟨pb, po, none⟩ = some (ptr n)) (hn : NodeAt TT E w n r L) (hi : r.iso = hr.iso)
    (hlen : r.items.length ≤ 1000000000000) (hs : Sorted ilt r.items) {k : Ky} {i : Nat} (hloc : Loc r.items k i false) (hc0 : 0 ≤ r.cnt) (hc1 : r.cnt ≤ 4000000000000000000) (_ : 0 ≤ hr.mn) (_ : hr.mn ≤ 1000000000000)
    {ks : List Nat} (hks : r.kids = some ks) {kb ko c : Nat} (hka : L.ka = some ⟨kb, ko, none⟩) (hik : ks[i]? = some c) (G : It → Bool → NRec It → World → World → Prop) (RB : World → It → World → World → Prop)
    (hcall : ∀ W, Keep Nothing w W → Calls Try.prog 173 #[ptr b, .pointer (some ⟨kb, ko + i, none⟩), .bool false, kv k] W (DelDown w W b hr n r L c G))
    (hreb : ∀ W W' y rc X, Keep Nothing w W → G y true rc W W' → Keep (fun b _ => b < w.heap.size) W W' → Keep (fun b o => (b = n ∧ o = 1) ∨ (w.heap.size ≤ b ∧ b < W.heap.size)) W' X → NodeAt TT E X n { r with cnt := r.cnt - 1 } L → (rc.items.length : Int) < hr.mn →
      Calls Try.prog 201 #[ptr b, ptr n, .int .i64 i] X fun e X' => e = .returned (.tuple #[]) ∧ Keep (fun b _ => b < w.heap.size ∨ W.heap.size ≤ b) X X' ∧ RB W y X X') :
    Calls Try.prog 173 #[ptr b, .pointer (some ⟨pb, po, none⟩), .bool false, kv k] w (DelGo w n r L hr.mn hr.emp G RB) := by
  have HKS := Lib.hid hks
  have HKA := Lib.hid hka
  have HIK := Lib.hid hik
  have HCALL := Lib.hid hcall
  have HREB := Lib.hid hreb
  have HN := Lib.hid hn
  have HH := Lib.hid hh
  have HP := Lib.hid hp
  have HS := Lib.hid hs
  have HI := Lib.hid hi
  have HLOC := Lib.hid hloc
  have hnw := lt_of_heap hn.1
  have hpw := lt_of_cell hp
  have hbw := lt_of_heap hh
  clear hks hka hik hcall hreb hh hn hp hs hi hloc
  unfold ptr kv at *
  go_enter Try.func173, Try.ntmps173
  go_upto_region 1 with (fail)
  refine wp_world ?_
  intro W1 hW1
  generalize hq : w.heap.size = q at *
  have K1 : Hid (Keep Nothing w W1) := by subst hW1; exact (Keep.refl _ _).al _
  have XQ := Lib.hid hq
  have X1 : Hid (W1.heap[q]? = some (.cells (E.enc 0).toArray 181 (0, 0))) := by subst hW1; subst hq; exact heap_alloc_new w _
  have S1 : W1.heap.size = q + 1 := by subst hW1; rw [World.size_alloc, hq]
  clear hW1 hq
  have HN1 : Hid (NodeAt TT E W1 n r L) := by exact HN.out.keep K1.out fun _ _ _ h => h
  have HH1 : Hid (Hdr W1 b hr) := by exact blk_keep HH.out K1.out fun _ h => h
  have hiso := isoLoad_own HH1.out (K1.out.cell' HP.out fun h => h) HN1.out HI.out true
  unfold ptr at hiso
  go_wp2_with fail
  refine hiso.mono ?_
  rintro e w1 ⟨rfl, kd, rfl⟩
  clear hiso
  have K1d : Hid (Keep Nothing w (W1.drewN kd)) := by exact K1.out.drN kd
  have S1d : (W1.drewN kd).heap.size = q + 1 := S1
  have X1d : Hid ((W1.drewN kd).heap[q]? = some (.cells (E.enc 0).toArray 181 (0, 0))) := by exact X1.out
  clear HN1 HH1 K1 X1 S1
  generalize W1.drewN kd = W1 at *
  have HN2 : Hid (NodeAt TT E W1 n r L) := by exact HN.out.keep K1d.out fun _ _ _ h => h
  have hse := search_loc (tr := ptr b) HN2.out hlen HS.out HLOC.out
  unfold ptr kv at *
  go_wp2_with fail
  refine hse.mono ?_
  rintro e w1 ⟨rfl, kd, rfl⟩
  clear hse
  have K2d : Hid (Keep Nothing w (W1.drewN kd)) := by exact K1d.out.drN kd
  have S2d : (W1.drewN kd).heap.size = q + 1 := S1d
  have X2d : Hid ((W1.drewN kd).heap[q]? = some (.cells (E.enc 0).toArray 181 (0, 0))) := by exact X1d.out
  clear K1d X1d S1d HN2
  generalize W1.drewN kd = W at *
  have HNd : Hid (NodeAt TT E W n r L) := by exact HN.out.keep K2d.out fun _ _ _ h => h
  have hlv := leaf_any HNd.out
  rw [HKS.out] at hlv
  simp only [Option.isNone_some] at hlv
  unfold ptr at hlv
  go_wp2_with fail
  refine hlv.mono ?_
  rintro e w1 ⟨rfl, rfl⟩
  clear hlv
  go_upto_region 17 with (fail)
  refine wp_world ?_
  intro W2 hW2
  have K3 : Hid (Keep Nothing w W2) := by subst hW2; exact K2d.out.al _
  have S3 : W2.heap.size = q + 2 := by subst hW2; rw [World.size_alloc, S2d]
  have X3 : Hid (W2.heap[q]? = some (.cells (E.enc 0).toArray 181 (0, 0))) := by subst hW2; exact blk_alloc _ X2d.out
  have Y3 : Hid (W2.heap[q + 1]? = some (.cells (E.enc 0).toArray 181 (0, 0))) := by subst hW2; rw [← S2d]; exact heap_alloc_new W _
  clear hW2 K2d S2d X2d HNd
  have HN3 : Hid (NodeAt TT E W2 n r L) := by exact HN.out.keep K3.out fun _ _ _ h => h
  obtain ⟨c0, c1, c2, c3, fz⟩ := blk4 HN3.out.1
  rw [HKS.out] at c3
  obtain ⟨g1, g2, g3⟩ := HN3.out.2.2.2 ks HKS.out
  rw [HKA.out] at g1
  obtain ⟨g4, fz3⟩ := blk1 g1
  obtain ⟨hil, _⟩ := List.getElem?_eq_some_iff.1 HIK.out
  simp only [kidsVal, ptr] at c3
  have hcl := Lib.hid (HCALL.out W2 K3.out)
  clear c0 c1 c2 g1 g2
  go_wp2_with fail
  refine hcl.out.mono ?_
  rintro e W3 ⟨y, del, rc, Lc, rfl, hK3, hN3, hNc, hcn, hrl, hH3, hfc, _, hG3⟩
  have HN4 := Lib.hid hN3
  have HNC := Lib.hid hNc
  have HG3 := Lib.hid hG3
  have HH3 := Lib.hid hH3
  have HK3 := Lib.hid hK3
  have X4 : Hid (W3.heap[q]? = some (.cells (E.enc 0).toArray 181 (0, 0))) := by exact blk_keep X3.out hK3 fun o h => by have := XQ.out; omega
  have Y4 : Hid (W3.heap[q + 1]? = some (.cells (E.enc 0).toArray 181 (0, 0))) := by exact blk_keep Y3.out hK3 fun o h => by have := XQ.out; omega
  clear hN3 hNc hG3 hK3 hH3 c3 fz g4 g3 fz3 hcl
  obtain ⟨y0, yf⟩ := blk1 Y4.out
  unfold kv at y0
  unfold pv kv
  go_upto_region 27 with (fail)
  refine wp_world ?_
  intro W5 hW5
  have hwq := XQ.out
  have hw2 := S3
  have K5 : Hid (Keep (fun b _ => w.heap.size ≤ b ∧ b < W2.heap.size) W3 W5) := by
    subst hW5; refine (Keep.refl _ _).set _ _ _ ?_; exact fun _ => ⟨by omega, by omega⟩
  have X5 : Hid (W5.heap[q]? = some (.cells (E.enc 0).toArray 181 (0, 0))) := by
    subst hW5; exact blk_far _ X4.out (by omega)
  have Y5 : Hid (W5.heap[q + 1]? = some (.cells (E.enc y).toArray 181 (0, 0))) := by
    subst hW5; exact blk_set _ Y4.out
  clear hW5 X4 Y4
  have old : Hid (∀ {m : Nat} {q : NRec It} {l : Lay}, NodeAt TT E W3 m q l → (∀ x o, fp TT m q l x o → x < w.heap.size ∨ W2.heap.size ≤ x) → NodeAt TT E W5 m q l) := by
    intro m q l h1 h2
    exact h1.keep K5.out fun x o hf h => by rcases h2 x o hf with h3 | h3 <;> omega
  cases del with
  | false =>
    have HH5 : Hid (Hdr W5 b hr) := by exact blk_keep HH3.out K5.out fun o h => by omega
    have he := hdr_emp HH5.out
    unfold kv at he
    obtain ⟨x0, xf⟩ := blk1 X5.out
    unfold kv at x0
    have X8 : (W5.setCell ⟨q, 0, none⟩ (kv (ky hr.emp))).heap[q]? = some (.cells (E.enc hr.emp).toArray 181 (0, 0)) := blk_set _ X5.out
    have K8 : Keep (fun b _ => w.heap.size ≤ b ∧ b < W2.heap.size) W3 (W5.setCell ⟨q, 0, none⟩ (kv (ky hr.emp))) := K5.out.set _ _ _ fun h => ⟨by omega, by omega⟩
    replace X8 := Lib.hid X8
    replace K8 := Lib.hid K8
    go_wp2_with fail
    refine bodyPost_ret (results_cell_tmp_row rfl _ _ q 181 (E.enc hr.emp).toArray (0, 0) _ rfl X8.out Try.underlying181 rfl (by kernel_rfl)) rfl ?_
    refine ⟨W2, W3, y, false, rc, K3.out, HG3.out, HK3.out, rfl, K8.out, HN4.out.keep K8.out fun x o hf h => ?_⟩
    have := rowsOld HN.out HN4.out hf
    omega
  | true =>
    have HN5 : Hid (NodeAt TT E W5 n r L) := by exact old.out HN4.out fun x o hf => .inl (HN.out.lt hf)
    have HNC5 : Hid (NodeAt TT E W5 c rc Lc) := by exact old.out HNC.out hfc
    obtain ⟨c0, c1, c2, c3, fz⟩ := blk4 HN5.out.1
    have hb1 : -9223372036854775808 ≤ r.cnt - 1 ∧ r.cnt - 1 ≤ 9223372036854775807 := by omega
    clear c0 c2 c3 HN4 HNC old
    go_upto_region 30 with (fail)
    refine wp_world ?_
    intro W6 hW6
    have K6 : Hid (Keep (fun b o => (b = n ∧ o = 1) ∨ (w.heap.size ≤ b ∧ b < W2.heap.size)) W3 W6) := by
      subst hW6; refine (K5.out.mono fun _ _ _ h => .inr h).set _ _ _ ?_; exact fun _ => .inl ⟨rfl, rfl⟩
    have K56 : Hid (Keep (fun b o => b = n ∧ o = 1) W5 W6) := by
      subst hW6; refine (Keep.refl _ _).set _ _ _ ?_; exact fun _ => ⟨rfl, rfl⟩
    have N6 : Hid (NodeAt TT E W6 n { r with cnt := r.cnt - 1 } L) := by
      refine HN5.out.reset ty_ok (K56.out.mono fun _ _ _ h => h.1) ?_
      subst hW6; exact blk_set _ HN5.out.1
    have NC6 : Hid (NodeAt TT E W6 c rc Lc) := by exact HNC5.out.keep K56.out fun x o hf h => by rw [h.1] at hf; exact node_apart HN5.out HNC5.out hcn hf
    have X6 : Hid (W6.heap[q]? = some (.cells (E.enc 0).toArray 181 (0, 0))) := by exact blk_keep X5.out K56.out fun o h => by omega
    have Y6 : Hid (W6.heap[q + 1]? = some (.cells (E.enc y).toArray 181 (0, 0))) := by exact blk_keep Y5.out K56.out fun o h => by omega
    have hbn : b ≠ n := blk_ne HH.out HN.out.1 (by decide)
    have HH6 : Hid (Hdr W6 b hr) := by
      refine blk_keep HH3.out K6.out fun o h => ?_
      rcases h with ⟨h, _⟩ | h
      · exact hbn h
      · omega
    clear hW6 X5 Y5 HN5 HNC5 K56 c1 fz
    obtain ⟨c0, c1, c2, c3, fz⟩ := blk4 N6.out.1
    simp only [HKS.out] at c3
    obtain ⟨g1, g2, g3⟩ := N6.out.2.2.2 ks HKS.out
    rw [HKA.out] at g1 g2
    obtain ⟨g4, fz3⟩ := blk1 g1
    have g5 : W6.cell? ⟨kb, ko + i, none⟩ = some (ptr c) := g2.cell (by simp [HIK.out])
    obtain ⟨e0, e1, e2, e3, efz⟩ := blk4 NC6.out.1
    have hmnc := hdr_min HH6.out
    simp only [kidsVal, ptr] at c3 g5
    clear c0 c1 c2 g1 g2 e0 e1 e3
    go_wp2_with fail
    refine wp_calm (by kernel_rfl) (by kernel_rfl) rfl ?_
    simp only [List.flatMap_cons, List.flatMap_nil, checks, chk, nilLit, List.cons_append, List.nil_append, List.append_nil]
    go_wp2_with fail
    rw [HQ_normal]
    have N7 : Hid (NodeAt TT E W6.drew n { r with cnt := r.cnt - 1 } L) := by exact N6.out.keep (Keep.drew Nothing _) fun _ _ _ h => h
    have K7 : Hid (Keep (fun b o => (b = n ∧ o = 1) ∨ (w.heap.size ≤ b ∧ b < W2.heap.size)) W3 W6.drew) := by exact K6.out.dr
    have X7 : Hid (W6.drew.heap[q]? = some (.cells (E.enc 0).toArray 181 (0, 0))) := by exact X6.out
    have Y7 : Hid (W6.drew.heap[q + 1]? = some (.cells (E.enc y).toArray 181 (0, 0))) := by exact Y6.out
    clear N6 NC6 K6 X6 Y6 HH6 c3 fz g3 g4 fz3 g5 e2 efz hmnc
    generalize W6.drew = X at *
    by_cases hsm : (rc.items.length : Int) < hr.mn
    · have hrb := HREB.out
      rw [← hwq] at hrb
      have hre := Lib.hid (hrb W2 W3 y rc X K3.out HG3.out HK3.out K7.out N7.out hsm)
      clear hrb
      unfold ptr at hre
      go_wp2_with fail
      refine hre.out.mono ?_
      rintro e X' ⟨rfl, hKX, hRB⟩
      have X8 : Hid (X'.heap[q]? = some (.cells (E.enc 0).toArray 181 (0, 0))) := by exact blk_keep X7.out hKX fun o h => by omega
      have Y8 : Hid (X'.heap[q + 1]? = some (.cells (E.enc y).toArray 181 (0, 0))) := by exact blk_keep Y7.out hKX fun o h => by omega
      have HRB := Lib.hid hRB
      clear hre hKX hRB X7 Y7
      obtain ⟨y0, yf⟩ := blk1 Y8.out
      obtain ⟨x0, xf⟩ := blk1 X8.out
      unfold kv at y0 x0
      have X9 : Hid ((X'.setCell ⟨q, 0, none⟩ (kv (ky y))).heap[q]? = some (.cells (E.enc y).toArray 181 (0, 0))) := by exact blk_set _ X8.out
      have K9 : Hid (Keep (fun b _ => w.heap.size ≤ b ∧ b < W2.heap.size) X' (X'.setCell ⟨q, 0, none⟩ (kv (ky y)))) := by
        refine (Keep.refl _ _).set _ _ _ ?_ <;> exact fun _ => ⟨by omega, by omega⟩
      go_wp2_with fail
      refine bodyPost_ret (results_cell_tmp_row rfl _ _ q 181 (E.enc y).toArray (0, 0) _ rfl X9.out Try.underlying181 rfl (by kernel_rfl)) rfl ?_
      exact ⟨W2, W3, y, true, rc, K3.out, HG3.out, HK3.out, rfl, X, X', K7.out, N7.out, .inr ⟨hsm, HRB.out⟩, K9.out⟩
    · have hd : ¬ (rc.items.length : Int) < hr.mn := hsm
      obtain ⟨y0, yf⟩ := blk1 Y7.out
      obtain ⟨x0, xf⟩ := blk1 X7.out
      unfold kv at y0 x0
      have X9 : Hid ((X.setCell ⟨q, 0, none⟩ (kv (ky y))).heap[q]? = some (.cells (E.enc y).toArray 181 (0, 0))) := by exact blk_set _ X7.out
      have K9 : Hid (Keep (fun b _ => w.heap.size ≤ b ∧ b < W2.heap.size) X (X.setCell ⟨q, 0, none⟩ (kv (ky y)))) := by
        refine (Keep.refl _ _).set _ _ _ ?_ <;> exact fun _ => ⟨by omega, by omega⟩
      go_wp2_with fail
      refine bodyPost_ret (results_cell_tmp_row rfl _ _ q 181 (E.enc y).toArray (0, 0) _ rfl X9.out Try.underlying181 rfl (by kernel_rfl)) rfl ?_
      exact ⟨W2, W3, y, true, rc, K3.out, HG3.out, HK3.out, rfl, X, X, K7.out, N7.out, .inl ⟨by omega, rfl⟩, K9.out⟩
end Go.Proofs.Ytckplcmieelmpaa.S

namespace Go.Proofs.Ytckplcmieelmpaa.S
open Go.RowKit Go.Wb

set_option maxRecDepth 100000 in
set_option maxHeartbeats 4000000 in
theorem del_inner_max {w : World} {b pb po n : Nat} {hr : HRec} {r : NRec It} {L : Lay} (hh : Hdr w b hr) (hp : w.cell? ⟨pb, po, none⟩ = some (ptr n)) (hn : NodeAt TT E w n r L) (hi : r.iso = hr.iso)
    (hlen : r.items.length ≤ 1000000000000) (k : Ky) {i : Nat} (hii : r.items.length = i) (hi0 : 0 < i) (hc0 : 0 ≤ r.cnt) (hc1 : r.cnt ≤ 4000000000000000000) (_ : 0 ≤ hr.mn) (_ : hr.mn ≤ 1000000000000)
    {ks : List Nat} (hks : r.kids = some ks) {kb ko c : Nat} (hka : L.ka = some ⟨kb, ko, none⟩) (hik : ks[i]? = some c) (G : It → Bool → NRec It → World → World → Prop) (RB : World → It → World → World → Prop)
    (hcall : ∀ W, Keep Nothing w W → Calls Try.prog 173 #[ptr b, .pointer (some ⟨kb, ko + i, none⟩), .bool true, kv (ky hr.emp)] W (DelDown w W b hr n r L c G))
    (hreb : ∀ W W' y rc X, Keep Nothing w W → G y true rc W W' → Keep (fun b _ => b < w.heap.size) W W' → Keep (fun b o => (b = n ∧ o = 1) ∨ (w.heap.size ≤ b ∧ b < W.heap.size)) W' X → NodeAt TT E X n { r with cnt := r.cnt - 1 } L → (rc.items.length : Int) < hr.mn →
      Calls Try.prog 201 #[ptr b, ptr n, .int .i64 i] X fun e X' => e = .returned (.tuple #[]) ∧ Keep (fun b _ => b < w.heap.size ∨ W.heap.size ≤ b) X X' ∧ RB W y X X') :
    Calls Try.prog 173 #[ptr b, .pointer (some ⟨pb, po, none⟩), .bool true, kv k] w (DelGo w n r L hr.mn hr.emp G RB) := by
  have HKS := Lib.hid hks
  have HKA := Lib.hid hka
  have HIK := Lib.hid hik
  have HCALL := Lib.hid hcall
  have HREB := Lib.hid hreb
  have HN := Lib.hid hn
  have HH := Lib.hid hh
  have HP := Lib.hid hp
  have HI := Lib.hid hi
  have HII := Lib.hid hii
  have hib : i ≤ 1000000000000 := by omega
  have hnw := lt_of_heap hn.1
  have hpw := lt_of_cell hp
  have hbw := lt_of_heap hh
  clear hks hka hik hcall hreb hh hn hp hi hii
  unfold ptr kv at *
  go_enter Try.func173, Try.ntmps173
  go_upto_region 1 with (fail)
  refine wp_world ?_
  intro W1 hW1
  generalize hq : w.heap.size = q at *
  have K1 : Hid (Keep Nothing w W1) := by subst hW1; exact (Keep.refl _ _).al _
  have XQ := Lib.hid hq
  have X1 : Hid (W1.heap[q]? = some (.cells (E.enc 0).toArray 181 (0, 0))) := by subst hW1; subst hq; exact heap_alloc_new w _
  have S1 : W1.heap.size = q + 1 := by subst hW1; rw [World.size_alloc, hq]
  clear hW1 hq
  have HN1 : Hid (NodeAt TT E W1 n r L) := by exact HN.out.keep K1.out fun _ _ _ h => h
  have HH1 : Hid (Hdr W1 b hr) := by exact blk_keep HH.out K1.out fun _ h => h
  have hiso := isoLoad_own HH1.out (K1.out.cell' HP.out fun h => h) HN1.out HI.out true
  unfold ptr at hiso
  go_wp2_with fail
  refine hiso.mono ?_
  rintro e w1 ⟨rfl, kd, rfl⟩
  clear hiso
  have K1d : Hid (Keep Nothing w (W1.drewN kd)) := by exact K1.out.drN kd
  have S1d : (W1.drewN kd).heap.size = q + 1 := S1
  have X1d : Hid ((W1.drewN kd).heap[q]? = some (.cells (E.enc 0).toArray 181 (0, 0))) := by exact X1.out
  clear HN1 HH1 K1 X1 S1
  generalize W1.drewN kd = W1 at *
  have HN2 : Hid (NodeAt TT E W1 n r L) := by exact HN.out.keep K1d.out fun _ _ _ h => h
  have K2d := K1d
  have S2d := S1d
  have X2d := X1d
  clear K1d X1d S1d HN2
  generalize W1 = W at *
  have HNd : Hid (NodeAt TT E W n r L) := by exact HN.out.keep K2d.out fun _ _ _ h => h
  have hlv := leaf_any HNd.out
  rw [HKS.out] at hlv
  simp only [Option.isNone_some] at hlv
  unfold ptr at *
  obtain ⟨c0, c1, c2, c3, fz⟩ := blk4 HNd.out.1
  rw [HII.out] at c2
  clear c0 c1 c3
  go_wp2_with fail
  refine hlv.mono ?_
  rintro e w1 ⟨rfl, rfl⟩
  clear hlv c2 fz
  go_upto_region 17 with (fail)
  refine wp_world ?_
  intro W2 hW2
  have K3 : Hid (Keep Nothing w W2) := by subst hW2; exact K2d.out.al _
  have S3 : W2.heap.size = q + 2 := by subst hW2; rw [World.size_alloc, S2d]
  have X3 : Hid (W2.heap[q]? = some (.cells (E.enc 0).toArray 181 (0, 0))) := by subst hW2; exact blk_alloc _ X2d.out
  have Y3 : Hid (W2.heap[q + 1]? = some (.cells (E.enc 0).toArray 181 (0, 0))) := by subst hW2; rw [← S2d]; exact heap_alloc_new W _
  clear hW2 K2d S2d X2d HNd
  have HN3 : Hid (NodeAt TT E W2 n r L) := by exact HN.out.keep K3.out fun _ _ _ h => h
  obtain ⟨c0, c1, c2, c3, fz⟩ := blk4 HN3.out.1
  rw [HKS.out] at c3
  obtain ⟨g1, g2, g3⟩ := HN3.out.2.2.2 ks HKS.out
  rw [HKA.out] at g1
  obtain ⟨g4, fz3⟩ := blk1 g1
  obtain ⟨hil, _⟩ := List.getElem?_eq_some_iff.1 HIK.out
  simp only [kidsVal, ptr] at c3
  have hcl := Lib.hid (HCALL.out W2.drew K3.out.dr)
  have HHe : Hdr W2 b hr := blk_keep HH.out K3.out fun _ h => h
  have he : W2.cell? ⟨b, 4, none⟩ = some (kv (ky hr.emp)) := hdr_emp HHe
  unfold kv at he
  clear c0 c1 c2 g1 g2 HHe
  go_wp2_with fail
  refine wp_calm (by kernel_rfl) (by kernel_rfl) rfl ?_
  simp only [List.flatMap_cons, List.flatMap_nil, checks, chk, nilLit, List.cons_append, List.nil_append, List.append_nil]
  go_wp2_with fail
  have K3d : Hid (Keep Nothing w W2.drew) := by exact K3.out.dr
  have S3d : W2.drew.heap.size = q + 2 := S3
  have X3d : Hid (W2.drew.heap[q]? = some (.cells (E.enc 0).toArray 181 (0, 0))) := by exact X3.out
  have Y3d : Hid (W2.drew.heap[q + 1]? = some (.cells (E.enc 0).toArray 181 (0, 0))) := by exact Y3.out
  clear K3 S3 X3 Y3 HN3 c3 fz g4 g3 fz3 he
  generalize W2.drew = W2 at *
  have K3 := K3d
  have S3 := S3d
  have X3 := X3d
  have Y3 := Y3d
  clear K3d S3d X3d Y3d
  refine hcl.out.mono ?_
  rintro e W3 ⟨y, del, rc, Lc, rfl, hK3, hN3, hNc, hcn, hrl, hH3, hfc, _, hG3⟩
  have HN4 := Lib.hid hN3
  have HNC := Lib.hid hNc
  have HG3 := Lib.hid hG3
  have HH3 := Lib.hid hH3
  have HK3 := Lib.hid hK3
  have X4 : Hid (W3.heap[q]? = some (.cells (E.enc 0).toArray 181 (0, 0))) := by exact blk_keep X3.out hK3 fun o h => by have := XQ.out; omega
  have Y4 : Hid (W3.heap[q + 1]? = some (.cells (E.enc 0).toArray 181 (0, 0))) := by exact blk_keep Y3.out hK3 fun o h => by have := XQ.out; omega
  clear hN3 hNc hG3 hK3 hH3 hcl
  obtain ⟨y0, yf⟩ := blk1 Y4.out
  unfold kv at y0
  unfold pv kv
  go_wp2_with fail
  rw [HQ_normal]
  go_upto_region 27 with (fail)
  refine wp_world ?_
  intro W5 hW5
  have hwq := XQ.out
  have hw2 := S3
  have K5 : Hid (Keep (fun b _ => w.heap.size ≤ b ∧ b < W2.heap.size) W3 W5) := by
    subst hW5; refine (Keep.refl _ _).set _ _ _ ?_; exact fun _ => ⟨by omega, by omega⟩
  have X5 : Hid (W5.heap[q]? = some (.cells (E.enc 0).toArray 181 (0, 0))) := by
    subst hW5; exact blk_far _ X4.out (by omega)
  have Y5 : Hid (W5.heap[q + 1]? = some (.cells (E.enc y).toArray 181 (0, 0))) := by
    subst hW5; exact blk_set _ Y4.out
  clear hW5 X4 Y4
  have old : Hid (∀ {m : Nat} {q : NRec It} {l : Lay}, NodeAt TT E W3 m q l → (∀ x o, fp TT m q l x o → x < w.heap.size ∨ W2.heap.size ≤ x) → NodeAt TT E W5 m q l) := by
    intro m q l h1 h2
    exact h1.keep K5.out fun x o hf h => by rcases h2 x o hf with h3 | h3 <;> omega
  cases del with
  | false =>
    have HH5 : Hid (Hdr W5 b hr) := by exact blk_keep HH3.out K5.out fun o h => by omega
    have he := hdr_emp HH5.out
    unfold kv at he
    obtain ⟨x0, xf⟩ := blk1 X5.out
    unfold kv at x0
    have X8 : (W5.setCell ⟨q, 0, none⟩ (kv (ky hr.emp))).heap[q]? = some (.cells (E.enc hr.emp).toArray 181 (0, 0)) := blk_set _ X5.out
    have K8 : Keep (fun b _ => w.heap.size ≤ b ∧ b < W2.heap.size) W3 (W5.setCell ⟨q, 0, none⟩ (kv (ky hr.emp))) := K5.out.set _ _ _ fun h => ⟨by omega, by omega⟩
    replace X8 := Lib.hid X8
    replace K8 := Lib.hid K8
    go_wp2_with fail
    refine bodyPost_ret (results_cell_tmp_row rfl _ _ q 181 (E.enc hr.emp).toArray (0, 0) _ rfl X8.out Try.underlying181 rfl (by kernel_rfl)) rfl ?_
    refine ⟨W2, W3, y, false, rc, K3.out, HG3.out, HK3.out, rfl, K8.out, HN4.out.keep K8.out fun x o hf h => ?_⟩
    have := rowsOld HN.out HN4.out hf
    omega
  | true =>
    have HN5 : Hid (NodeAt TT E W5 n r L) := by exact old.out HN4.out fun x o hf => .inl (HN.out.lt hf)
    have HNC5 : Hid (NodeAt TT E W5 c rc Lc) := by exact old.out HNC.out hfc
    obtain ⟨c0, c1, c2, c3, fz⟩ := blk4 HN5.out.1
    have hb1 : -9223372036854775808 ≤ r.cnt - 1 ∧ r.cnt - 1 ≤ 9223372036854775807 := by omega
    clear c0 c2 c3 HN4 HNC old
    go_upto_region 30 with (fail)
    refine wp_world ?_
    intro W6 hW6
    have K6 : Hid (Keep (fun b o => (b = n ∧ o = 1) ∨ (w.heap.size ≤ b ∧ b < W2.heap.size)) W3 W6) := by
      subst hW6; refine (K5.out.mono fun _ _ _ h => .inr h).set _ _ _ ?_; exact fun _ => .inl ⟨rfl, rfl⟩
    have K56 : Hid (Keep (fun b o => b = n ∧ o = 1) W5 W6) := by
      subst hW6; refine (Keep.refl _ _).set _ _ _ ?_; exact fun _ => ⟨rfl, rfl⟩
    have N6 : Hid (NodeAt TT E W6 n { r with cnt := r.cnt - 1 } L) := by
      refine HN5.out.reset ty_ok (K56.out.mono fun _ _ _ h => h.1) ?_
      subst hW6; exact blk_set _ HN5.out.1
    have NC6 : Hid (NodeAt TT E W6 c rc Lc) := by exact HNC5.out.keep K56.out fun x o hf h => by rw [h.1] at hf; exact node_apart HN5.out HNC5.out hcn hf
    have X6 : Hid (W6.heap[q]? = some (.cells (E.enc 0).toArray 181 (0, 0))) := by exact blk_keep X5.out K56.out fun o h => by omega
    have Y6 : Hid (W6.heap[q + 1]? = some (.cells (E.enc y).toArray 181 (0, 0))) := by exact blk_keep Y5.out K56.out fun o h => by omega
    have hbn : b ≠ n := blk_ne HH.out HN.out.1 (by decide)
    have HH6 : Hid (Hdr W6 b hr) := by
      refine blk_keep HH3.out K6.out fun o h => ?_
      rcases h with ⟨h, _⟩ | h
      · exact hbn h
      · omega
    clear hW6 X5 Y5 HN5 HNC5 K56 c1 fz
    obtain ⟨c0, c1, c2, c3, fz⟩ := blk4 N6.out.1
    simp only [HKS.out] at c3
    obtain ⟨g1, g2, g3⟩ := N6.out.2.2.2 ks HKS.out
    rw [HKA.out] at g1 g2
    obtain ⟨g4, fz3⟩ := blk1 g1
    have g5 : W6.cell? ⟨kb, ko + i, none⟩ = some (ptr c) := g2.cell (by simp [HIK.out])
    obtain ⟨e0, e1, e2, e3, efz⟩ := blk4 NC6.out.1
    have hmnc := hdr_min HH6.out
    simp only [kidsVal, ptr] at c3 g5
    clear c0 c1 c2 g1 g2 e0 e1 e3
    go_wp2_with fail
    refine wp_calm (by kernel_rfl) (by kernel_rfl) rfl ?_
    simp only [List.flatMap_cons, List.flatMap_nil, checks, chk, nilLit, List.cons_append, List.nil_append, List.append_nil]
    go_wp2_with fail
    rw [HQ_normal]
    have N7 : Hid (NodeAt TT E W6.drew n { r with cnt := r.cnt - 1 } L) := by exact N6.out.keep (Keep.drew Nothing _) fun _ _ _ h => h
    have K7 : Hid (Keep (fun b o => (b = n ∧ o = 1) ∨ (w.heap.size ≤ b ∧ b < W2.heap.size)) W3 W6.drew) := by exact K6.out.dr
    have X7 : Hid (W6.drew.heap[q]? = some (.cells (E.enc 0).toArray 181 (0, 0))) := by exact X6.out
    have Y7 : Hid (W6.drew.heap[q + 1]? = some (.cells (E.enc y).toArray 181 (0, 0))) := by exact Y6.out
    clear N6 NC6 K6 X6 Y6 HH6 c3 fz g3 g4 fz3 g5 e2 efz hmnc
    generalize W6.drew = X at *
    by_cases hsm : (rc.items.length : Int) < hr.mn
    · have hrb := HREB.out
      rw [← hwq] at hrb
      have hre := Lib.hid (hrb W2 W3 y rc X K3.out HG3.out HK3.out K7.out N7.out hsm)
      clear hrb
      unfold ptr at hre
      go_wp2_with fail
      refine hre.out.mono ?_
      rintro e X' ⟨rfl, hKX, hRB⟩
      have X8 : Hid (X'.heap[q]? = some (.cells (E.enc 0).toArray 181 (0, 0))) := by exact blk_keep X7.out hKX fun o h => by omega
      have Y8 : Hid (X'.heap[q + 1]? = some (.cells (E.enc y).toArray 181 (0, 0))) := by exact blk_keep Y7.out hKX fun o h => by omega
      have HRB := Lib.hid hRB
      clear hre hKX hRB X7 Y7
      obtain ⟨y0, yf⟩ := blk1 Y8.out
      obtain ⟨x0, xf⟩ := blk1 X8.out
      unfold kv at y0 x0
      have X9 : Hid ((X'.setCell ⟨q, 0, none⟩ (kv (ky y))).heap[q]? = some (.cells (E.enc y).toArray 181 (0, 0))) := by exact blk_set _ X8.out
      have K9 : Hid (Keep (fun b _ => w.heap.size ≤ b ∧ b < W2.heap.size) X' (X'.setCell ⟨q, 0, none⟩ (kv (ky y)))) := by
        refine (Keep.refl _ _).set _ _ _ ?_ <;> exact fun _ => ⟨by omega, by omega⟩
      go_wp2_with fail
      refine bodyPost_ret (results_cell_tmp_row rfl _ _ q 181 (E.enc y).toArray (0, 0) _ rfl X9.out Try.underlying181 rfl (by kernel_rfl)) rfl ?_
      exact ⟨W2, W3, y, true, rc, K3.out, HG3.out, HK3.out, rfl, X, X', K7.out, N7.out, .inr ⟨hsm, HRB.out⟩, K9.out⟩
    · have hd : ¬ (rc.items.length : Int) < hr.mn := hsm
      obtain ⟨y0, yf⟩ := blk1 Y7.out
      obtain ⟨x0, xf⟩ := blk1 X7.out
      unfold kv at y0 x0
      have X9 : Hid ((X.setCell ⟨q, 0, none⟩ (kv (ky y))).heap[q]? = some (.cells (E.enc y).toArray 181 (0, 0))) := by exact blk_set _ X7.out
      have K9 : Hid (Keep (fun b _ => w.heap.size ≤ b ∧ b < W2.heap.size) X (X.setCell ⟨q, 0, none⟩ (kv (ky y)))) := by
        refine (Keep.refl _ _).set _ _ _ ?_ <;> exact fun _ => ⟨by omega, by omega⟩
      go_wp2_with fail
      refine bodyPost_ret (results_cell_tmp_row rfl _ _ q 181 (E.enc y).toArray (0, 0) _ rfl X9.out Try.underlying181 rfl (by kernel_rfl)) rfl ?_
      exact ⟨W2, W3, y, true, rc, K3.out, HG3.out, HK3.out, rfl, X, X, K7.out, N7.out, .inl ⟨by omega, rfl⟩, K9.out⟩
end Go.Proofs.Ytckplcmieelmpaa.S

namespace Go.Proofs.Ytckplcmieelmpaa.S
open Go.RowKit Go.Wb

theorem cell_set_far {w : World} {x y o p : Nat} (v : Value) (h : x ≠ y) : (w.setCell ⟨y, p, none⟩ v).cell? ⟨x, o, none⟩ = w.cell? ⟨x, o, none⟩ := by
  unfold World.cell?
  rw [Below.heap_setCell w _ v x h]
theorem kidsV {w : World} {n : Nat} {r : NRec It} {L : Lay} (h : NodeAt TT E w n r L) {ks : List Nat} (hk : r.kids = some ks) : w.cell? ⟨n, 3, none⟩ = some (.pointer (some ⟨L.cb, 0, none⟩)) := by
  obtain ⟨c0, c1, c2, c3, fz⟩ := blk4 h.1
  rw [hk] at c3
  exact c3
theorem kidsC {w : World} {n : Nat} {r : NRec It} {L : Lay} (h : NodeAt TT E w n r L) {ks : List Nat} (hk : r.kids = some ks) {kb ko : Nat} (ha : L.ka = some ⟨kb, ko, none⟩) : w.cell? ⟨L.cb, 0, none⟩ = some (.slice (some ⟨kb, ko, none⟩) ks.length L.kcap) := by
  obtain ⟨g1, g2, g3⟩ := h.2.2.2 ks hk
  rw [ha] at g1
  exact (blk1 g1).1
theorem empK {w : World} {b : Nat} {hr : HRec} (h : Hdr w b hr) : w.cell? ⟨b, 4, none⟩ = some (kv (ky hr.emp)) := hdr_emp h
/-- What deleting an item of an inner node leaves: the greatest one below takes its place. -/
def DelSwap (w : World) (n : Nat) (r : NRec It) (L : Lay) (i : Nat) (z : It) (mn : Int) (G : It → Bool → NRec It → World → World → Prop) (RB : World → It → World → World → Prop) (e : Ending) (w' : World) : Prop :=
  ∃ W W' y del rc, Keep Nothing w W ∧ G y del rc W W' ∧ Keep (fun b _ => b < w.heap.size) W W' ∧ e = .returned (.tuple #[pv z, .bool true]) ∧
    ∃ X X', Keep (fun b o => fp TT n r L b o ∨ (w.heap.size ≤ b ∧ b < W.heap.size)) W' X ∧ NodeAt TT E X n { r with cnt := r.cnt - 1, items := r.items.set i y } L ∧
        ((mn ≤ rc.items.length ∧ X' = X) ∨ ((rc.items.length : Int) < mn ∧ RB W y X X')) ∧ Keep (fun b _ => w.heap.size ≤ b ∧ b < W.heap.size) X' w'

set_option maxRecDepth 100000 in
set_option maxHeartbeats 4000000 in
theorem del_inner_found {w : World} {b pb po n : Nat} {hr : HRec} {r : NRec It} {L : Lay} (hh : Hdr w b hr) (hp : w.cell? ⟨pb, po, none⟩ = some (ptr n)) (hn : NodeAt TT E w n r L) (hi : r.iso = hr.iso)
    (hlen : r.items.length ≤ 1000000000000) (hs : Sorted ilt r.items) {k : Ky} {i : Nat} (hloc : Loc r.items k i true) {z : It} (hy : r.items[i]? = some z) (hc0 : 0 ≤ r.cnt) (hc1 : r.cnt ≤ 4000000000000000000) (_ : 0 ≤ hr.mn) (_ : hr.mn ≤ 1000000000000)
    {ks : List Nat} (hks : r.kids = some ks) {kb ko c : Nat} (hka : L.ka = some ⟨kb, ko, none⟩) (hik : ks[i]? = some c) (G : It → Bool → NRec It → World → World → Prop) (RB : World → It → World → World → Prop)
    (hcall : ∀ W, Keep Nothing w W → Calls Try.prog 173 #[ptr b, .pointer (some ⟨kb, ko + i, none⟩), .bool true, kv (ky hr.emp)] W (DelDown w W b hr n r L c G))
    (hreb : ∀ W W' y del rc X, Keep Nothing w W → G y del rc W W' → Keep (fun b _ => b < w.heap.size) W W' → Keep (fun b o => fp TT n r L b o ∨ (w.heap.size ≤ b ∧ b < W.heap.size)) W' X → NodeAt TT E X n { r with cnt := r.cnt - 1, items := r.items.set i y } L → (rc.items.length : Int) < hr.mn →
      Calls Try.prog 201 #[ptr b, ptr n, .int .i64 i] X fun e X' => e = .returned (.tuple #[]) ∧ Keep (fun b _ => b < w.heap.size ∨ W.heap.size ≤ b) X X' ∧ RB W y X X') :
    Calls Try.prog 173 #[ptr b, .pointer (some ⟨pb, po, none⟩), .bool false, kv k] w (DelSwap w n r L i z hr.mn G RB) := by
  have HKS := Lib.hid hks
  have HKA := Lib.hid hka
  have HIK := Lib.hid hik
  have HCALL := Lib.hid hcall
  have HREB := Lib.hid hreb
  have HN := Lib.hid hn
  have HH := Lib.hid hh
  have HP := Lib.hid hp
  have HI := Lib.hid hi
  have HS := Lib.hid hs
  have HLOC := Lib.hid hloc
  have HY := Lib.hid hy
  have hib : i ≤ 1000000000000 := by
    obtain ⟨hil, _⟩ := List.getElem?_eq_some_iff.1 hy
    omega
  have hnw := lt_of_heap hn.1
  have hpw := lt_of_cell hp
  have hbw := lt_of_heap hh
  clear hks hka hik hcall hreb hh hn hp hs hi hloc hy
  unfold ptr kv at *
  go_enter Try.func173, Try.ntmps173
  go_upto_region 1 with (fail)
  refine wp_world ?_
  intro W1 hW1
  generalize hq : w.heap.size = q at *
  have K1 : Hid (Keep Nothing w W1) := by subst hW1; exact (Keep.refl _ _).al _
  have XQ := Lib.hid hq
  have X1 : Hid (W1.heap[q]? = some (.cells (E.enc 0).toArray 181 (0, 0))) := by subst hW1; subst hq; exact heap_alloc_new w _
  have S1 : W1.heap.size = q + 1 := by subst hW1; rw [World.size_alloc, hq]
  clear hW1 hq
  have HN1 : Hid (NodeAt TT E W1 n r L) := by exact HN.out.keep K1.out fun _ _ _ h => h
  have HH1 : Hid (Hdr W1 b hr) := by exact blk_keep HH.out K1.out fun _ h => h
  have hiso := isoLoad_own HH1.out (K1.out.cell' HP.out fun h => h) HN1.out HI.out true
  unfold ptr at hiso
  go_wp2_with fail
  refine hiso.mono ?_
  rintro e w1 ⟨rfl, kd, rfl⟩
  clear hiso
  have K1d : Hid (Keep Nothing w (W1.drewN kd)) := by exact K1.out.drN kd
  have S1d : (W1.drewN kd).heap.size = q + 1 := S1
  have X1d : Hid ((W1.drewN kd).heap[q]? = some (.cells (E.enc 0).toArray 181 (0, 0))) := by exact X1.out
  clear HN1 HH1 K1 X1 S1
  generalize W1.drewN kd = W1 at *
  have HN2 : Hid (NodeAt TT E W1 n r L) := by exact HN.out.keep K1d.out fun _ _ _ h => h
  have hse := search_loc (tr := ptr b) HN2.out hlen HS.out HLOC.out
  unfold ptr kv at *
  go_wp2_with fail
  refine hse.mono ?_
  rintro e w1 ⟨rfl, kd, rfl⟩
  clear hse
  have K2d : Hid (Keep Nothing w (W1.drewN kd)) := by exact K1d.out.drN kd
  have S2d : (W1.drewN kd).heap.size = q + 1 := S1d
  have X2d : Hid ((W1.drewN kd).heap[q]? = some (.cells (E.enc 0).toArray 181 (0, 0))) := by exact X1d.out
  clear K1d X1d S1d HN2
  generalize W1.drewN kd = W at *
  have HNd : Hid (NodeAt TT E W n r L) := by exact HN.out.keep K2d.out fun _ _ _ h => h
  have hlv := leaf_any HNd.out
  rw [HKS.out] at hlv
  simp only [Option.isNone_some] at hlv
  unfold ptr at *
  go_wp2_with fail
  refine hlv.mono ?_
  rintro e w1 ⟨rfl, rfl⟩
  clear hlv
  go_upto_region 17 with (fail)
  refine wp_world ?_
  intro W2 hW2
  have K3 : Hid (Keep Nothing w W2) := by subst hW2; exact K2d.out.al _
  have S3 : W2.heap.size = q + 2 := by subst hW2; rw [World.size_alloc, S2d]
  have X3 : Hid (W2.heap[q]? = some (.cells (E.enc 0).toArray 181 (0, 0))) := by subst hW2; exact blk_alloc _ X2d.out
  have Y3 : Hid (W2.heap[q + 1]? = some (.cells (E.enc 0).toArray 181 (0, 0))) := by subst hW2; rw [← S2d]; exact heap_alloc_new W _
  clear hW2 K2d S2d X2d HNd
  have HN3 : Hid (NodeAt TT E W2 n r L) := by exact HN.out.keep K3.out fun _ _ _ h => h
  have hrow := HN3.out.2.1
  have hpos : 0 < (E.all r.items).length := by
    obtain ⟨hil, _⟩ := List.getElem?_eq_some_iff.1 HY.out
    rw [E.all_len]; exact Nat.mul_pos (by omega) E.pos
  obtain ⟨ib, io, hia, _⟩ := hrow.form hpos
  have HIA := Lib.hid hia
  obtain ⟨c0, c1, c2, c3, fz⟩ := blk4 HN3.out.1
  rw [hia] at hrow c2
  have ck := key_cell hrow HY.out
  unfold kv at ck
  obtain ⟨hil2, _⟩ := List.getElem?_eq_some_iff.1 HY.out
  obtain ⟨y0, yf⟩ := blk1 Y3.out
  unfold kv at y0
  clear c0 c1 c3 hia hrow
  go_upto_region 23 with (fail)
  refine wp_world ?_
  intro W4 hW4
  have K4 : Hid (Keep Nothing w W4) := by
    have hwq := XQ.out
    subst hW4; refine K3.out.set _ _ _ ?_ <;> exact fun h => by omega
  have S4 : W4.heap.size = q + 2 := by subst hW4; simpa using S3
  have X4 : Hid (W4.heap[q]? = some (.cells (E.enc 0).toArray 181 (0, 0))) := by subst hW4; exact blk_far _ X3.out (by omega)
  have Y4 : Hid (W4.heap[q + 1]? = some (.cells (E.enc z).toArray 181 (0, 0))) := by subst hW4; exact blk_set _ Y3.out
  clear hW4 K3 S3 X3 Y3 HN3 c2 fz ck
  have HN4 : Hid (NodeAt TT E W4 n r L) := by exact HN.out.keep K4.out fun _ _ _ h => h
  obtain ⟨c0, c1, c2, c3, fz⟩ := blk4 HN4.out.1
  rw [HKS.out] at c3
  obtain ⟨g1, g2, g3⟩ := HN4.out.2.2.2 ks HKS.out
  rw [HKA.out] at g1
  obtain ⟨g4, fz3⟩ := blk1 g1
  obtain ⟨hil, _⟩ := List.getElem?_eq_some_iff.1 HIK.out
  simp only [kidsVal, ptr] at c3
  have hcl := Lib.hid (HCALL.out W4.drew K4.out.dr)
  have HHe : Hdr W4 b hr := blk_keep HH.out K4.out fun _ h => h
  have he : W4.cell? ⟨b, 4, none⟩ = some (kv (ky hr.emp)) := hdr_emp HHe
  unfold kv at he
  clear c0 c1 c2 g1 g2 HHe hcl
  have hcq : Hid (∀ W, Keep Nothing w W → Calls Try.prog 173 #[.pointer (some ⟨b, 0, none⟩), .pointer (some ⟨kb, ko + i, none⟩), .bool true, .int .i64 (ky hr.emp)] W (DelDown w W b hr n r L c G)) := by exact HCALL.out
  have zz : Hid (∀ (cs : Array Value), (W4.drew.alloc (.cells cs 181)).heap[q + 2]? = some (.cells cs 181 (0, 0))) := by
    have e : W4.drew.heap.size = q + 2 := S4
    exact Lib.hid fun cs => e ▸ heap_alloc_new W4.drew _
  have hcbq : L.cb < q := by
    have h1 := lt_of_heap (HN.out.2.2.2 ks HKS.out).1
    have := XQ.out
    omega
  have nq1 : n ≠ q + 2 := by omega
  have nq2 : L.cb ≠ q + 2 := by omega
  have nq3 : b ≠ q + 2 := by omega
  have nq4 : q + 2 ≠ n := by omega
  have nq5 : q + 2 ≠ L.cb := by omega
  have nq6 : q + 2 ≠ b := by omega
  go_wp2_with fail
  go_region_held3 (fun w' => w'.cell? ⟨n, 3, none⟩ = some (.pointer (some ⟨L.cb, 0, none⟩)) ∧ w'.cell? ⟨L.cb, 0, none⟩ = some (.slice (some ⟨kb, ko, none⟩) ks.length L.kcap) ∧ w'.cell? ⟨b, 4, none⟩ = some (.int .i64 (ky hr.emp))) (first | exact ⟨c3b, g4b, heb⟩ | go_keep | (refine ⟨(cell_set_far _ nq1).trans c3b, (cell_set_far _ nq2).trans g4b, (cell_set_far _ nq3).trans heb⟩))
    ((go_at_call 173; refine (hcq.out _ ?_).mono ?_; (first | exact K4.out.dr | exact K4.out.dr.al _ | exact (K4.out.al _).dr); rintro e W3 ⟨y, del, rc, Lc, rfl, hK3, hN3, hNc, hcn, hrl, hH3, hfc, hsp, hG3⟩; have HN4 := Lib.hid hN3; have HNC := Lib.hid hNc; have HG3 := Lib.hid hG3; have HH3 := Lib.hid hH3; have HK3 := Lib.hid hK3; have HSP := Lib.hid hsp; have HFC := Lib.hid hfc; (try (have z16 := blk_keep (zz.out _) HK3.out fun o h => (by have := XQ.out; omega); obtain ⟨z0, zf⟩ := blk1 z16)); have c3b := kidsV HN4.out HKS.out; have g4b := kidsC HN4.out HKS.out HKA.out; have heb := empK HH3.out; unfold kv at heb; have nn1 := World.new_ne W3 _ c3b; have nn2 := World.new_ne W3 _ g4b; have nn3 := World.new_ne W3 _ heb; clear hN3 hNc hG3 hK3 hH3 hsp hfc; unfold pv kv))
  all_goals
    have hwq := XQ.out
    have hw2 : W4.drew.heap.size = q + 2 := S4
    have hw3 : q + 2 ≤ W3.heap.size := by have := HK3.out.size; simp at this; omega
    go_upto_region 25 with (fail)
    refine wp_world ?_
    intro W5 hW5
    first
      | (have Y16 : Hid (W5.heap[q + 2]? = some (.cells (E.enc y).toArray 181 (0, 0))) := by subst hW5; exact blk_set _ z16
         have K5 : Hid (Keep (fun b _ => b = q + 2) W3 W5) := by
           subst hW5; refine (Keep.refl _ _).set _ _ _ ?_ <;> exact fun _ => rfl
         have HNC5 : Hid (NodeAt TT E W5 c rc Lc) := by exact HNC.out.keep K5.out fun x o hf h => by have := HFC.out x o hf; simp at this; omega
         obtain ⟨M, hM⟩ : ∃ M, M = (W4.drew.alloc (.cells (E.enc 0).toArray 181)).heap.size := ⟨_, rfl⟩
         replace hM := Lib.hid hM
         have KP : Hid (Keep (fun b _ => w.heap.size ≤ b ∧ b < M) W3 W5) := by rw [hM.out]; exact K5.out.mono fun _ _ _ h => ⟨by omega, by rw [World.size_alloc]; omega⟩
         have KC : Hid (Keep Nothing w (W4.drew.alloc (.cells (E.enc 0).toArray 181))) := by exact K4.out.dr.al _)
      | (have Y16 : Hid (W5.heap[W3.heap.size]? = some (.cells (E.enc y).toArray 181 (0, 0))) := by subst hW5; exact heap_alloc_new W3 _
         have K5 : Hid (Keep (fun b _ => b = q + 2) W3 W5) := by subst hW5; exact (Keep.refl _ _).al _
         have HNC5 : Hid (NodeAt TT E W5 c rc Lc) := by subst hW5; exact HNC.out.keep ((Keep.refl Nothing _).al _) fun _ _ _ h => h
         obtain ⟨M, hM⟩ : ∃ M, M = W4.drew.heap.size := ⟨_, rfl⟩
         replace hM := Lib.hid hM
         have KP : Hid (Keep (fun b _ => w.heap.size ≤ b ∧ b < M) W3 W5) := by subst hW5; exact ((Keep.refl Nothing _).al _).mono fun _ _ _ h => h.elim
         have KC : Hid (Keep Nothing w W4.drew) := by exact K4.out.dr)
    have X4 : Hid (W3.heap[q]? = some (.cells (E.enc 0).toArray 181 (0, 0))) := by
      refine Lib.hid (blk_keep (S := fun b _ => b < w.heap.size) ?_ HK3.out fun o h => by omega)
      first | exact X4.out | exact blk_alloc _ X4.out
    have Y4 : Hid (W3.heap[q + 1]? = some (.cells (E.enc z).toArray 181 (0, 0))) := by
      refine Lib.hid (blk_keep (S := fun b _ => b < w.heap.size) ?_ HK3.out fun o h => by omega)
      first | exact Y4.out | exact blk_alloc _ Y4.out
    have X5 : Hid (W5.heap[q]? = some (.cells (E.enc 0).toArray 181 (0, 0))) := by exact blk_keep X4.out K5.out fun o h => by omega
    have Y5 : Hid (W5.heap[q + 1]? = some (.cells (E.enc z).toArray 181 (0, 0))) := by exact blk_keep Y4.out K5.out fun o h => by omega
    have HN5 : Hid (NodeAt TT E W5 n r L) := by exact HN4.out.keep K5.out fun x o hf h => by have := HN.out.lt hf; omega
    have HH5 : Hid (Hdr W5 b hr) := by exact blk_keep HH3.out K5.out fun o h => by omega
    clear hW5 X4 Y4
    obtain ⟨c0, c1, c2, c3, fz⟩ := blk4 HN5.out.1
    have hrow := HN5.out.2.1
    rw [HIA.out] at hrow c2
    have ck := key_cell hrow HY.out
    have fz2 := hrow.frozen
    obtain ⟨u0, uf⟩ := blk1 Y16.out
    unfold kv at u0
    unfold kv at ck
    clear c0 c1 c3 hrow
    go_wp2_with fail
    refine wp_calm (by kernel_rfl) (by kernel_rfl) rfl ?_
    simp only [List.flatMap_cons, List.flatMap_nil, checks, chk, nilLit, List.cons_append, List.nil_append, List.append_nil]
    go_wp2_with fail
    rw [HQ_normal]
    go_upto_region 29 with (fail)
    refine wp_world ?_
    intro W6 hW6
    have hfp : Hid (∀ o, io + i ≤ o → o < io + (i + 1) → fp TT n r L ib o) := by
      intro o h1 h2
      have h3 := HN.out.2.2.1
      obtain ⟨h4, _⟩ := List.getElem?_eq_some_iff.1 HY.out
      exact .inr (.inl ⟨ib, io, HIA.out, rfl, by omega, by simp only [TT, E]; omega⟩)
    have hib2 : ib < w.heap.size := HN.out.lt (hfp.out (io + i) (Nat.le_refl _) (by omega))
    have hrow := HN5.out.2.1
    rw [HIA.out] at hrow
    have hibn : ib ≠ n := by
      obtain ⟨arr, harr⟩ := hrow.blk
      exact (blk_ne HN5.out.1 harr ty_ok.a).symm
    have K6 : Hid (Keep (fun x o => x = ib ∧ io + i ≤ o ∧ o < io + (i + 1)) W5 W6) := by
      subst hW6; refine ((Keep.refl _ _).set _ _ _ ?_).dr <;> exact fun _ => ⟨rfl, by omega, by omega⟩
    have B6 : W6.heap[n]? = some (.cells #[.int .u64 r.iso, .int .i64 r.cnt, .slice L.ia (r.items.set i y).length L.icap, kidsVal r.kids L.cb] 253 (0, 0)) := by
      have h1 := HN5.out.1
      rw [List.length_set]
      exact blk_keep h1 K6.out fun o h => hibn h.1.symm
    have N6 : Hid (NodeAt TT E W6 n { r with items := r.items.set i y } L) := by
      refine ⟨B6, ?_, by simpa using HN5.out.2.2.1, fun ks hks => ?_⟩
      · subst hW6
        have hl2 : (E.all r.items).length = r.items.length := by rw [E.all_len]; exact Nat.mul_one _
        obtain ⟨hil, _⟩ := List.getElem?_eq_some_iff.1 HY.out
        have := hrow.setCell (j := i) (kv (ky y)) (by omega)
        rw [HIA.out]
        simp only
        rw [all_set]
        exact this.keep (Keep.drew Nothing _) fun _ _ _ h => h
      · obtain ⟨h5, h6, h7⟩ := HN5.out.2.2.2 ks hks
        obtain ⟨arr, harr⟩ := hrow.blk
        refine ⟨blk_keep h5 K6.out fun o h => ?_, h6.keep' K6.out fun x o hf h => ?_, h7⟩
        · exact blk_ne harr h5 ty_ok.d h.1.symm
        · obtain ⟨arr2, harr2⟩ := h6.block ⟨_, hf⟩
          exact blk_ne harr harr2 ty_ok.f h.1.symm
    have NC6 : Hid (NodeAt TT E W6 c rc Lc) := by exact HNC5.out.keep K6.out fun x o hf h => HSP.out x o hf (by rw [h.1]; exact hfp.out o h.2.1 h.2.2)
    have X6 : Hid (W6.heap[q]? = some (.cells (E.enc 0).toArray 181 (0, 0))) := by exact blk_keep X5.out K6.out fun o h => by have := h.1; omega
    have Y6 : Hid (W6.heap[q + 1]? = some (.cells (E.enc z).toArray 181 (0, 0))) := by exact blk_keep Y5.out K6.out fun o h => by have := h.1; omega
    have HH6 : Hid (Hdr W6 b hr) := by exact blk_keep HH5.out K6.out fun o h => hdr_apart HH.out HN.out (o := o) (by rw [h.1]; exact hfp.out o h.2.1 h.2.2)
    clear hW6 B6 hrow X5 Y5 Y16 HN5 HNC5 HH5 c2 fz ck fz2
    have K7 : Hid (Keep (fun b o => fp TT n r L b o ∨ (w.heap.size ≤ b ∧ b < M)) W3 W6) := by exact (KP.out.mono fun _ _ _ h => .inr h).trans K6.out fun x o hx h => .inl (by rw [h.1]; exact hfp.out o h.2.1 h.2.2)
    obtain ⟨c0, c1, c2, c3, fz⟩ := blk4 N6.out.1
    have hb1 : -9223372036854775808 ≤ r.cnt - 1 ∧ r.cnt - 1 ≤ 9223372036854775807 := by omega
    clear c0 c2 c3 hib2
    go_upto_region 30 with (fail)
    refine wp_world ?_
    intro W7 hW7
    have K8 : Hid (Keep (fun b o => fp TT n r L b o ∨ (w.heap.size ≤ b ∧ b < M)) W3 W7) := by
      subst hW7; exact K7.out.set _ _ _ fun _ => .inl (.inl rfl)
    have K78 : Hid (Keep (fun b o => b = n ∧ o = 1) W6 W7) := by
      subst hW7; refine (Keep.refl _ _).set _ _ _ ?_; exact fun _ => ⟨rfl, rfl⟩
    have N8 : Hid (NodeAt TT E W7 n { r with cnt := r.cnt - 1, items := r.items.set i y } L) := by
      refine N6.out.reset ty_ok (K78.out.mono fun _ _ _ h => h.1) ?_
      subst hW7; exact blk_set _ N6.out.1
    have NC8 : Hid (NodeAt TT E W7 c rc Lc) := by exact NC6.out.keep K78.out fun x o hf h => by rw [h.1] at hf; exact node_apart N6.out NC6.out hcn hf
    have X8 : Hid (W7.heap[q]? = some (.cells (E.enc 0).toArray 181 (0, 0))) := by exact blk_keep X6.out K78.out fun o h => by omega
    have Y8 : Hid (W7.heap[q + 1]? = some (.cells (E.enc z).toArray 181 (0, 0))) := by exact blk_keep Y6.out K78.out fun o h => by omega
    have HH8 : Hid (Hdr W7 b hr) := by exact blk_keep HH6.out K78.out fun o h => hdr_apart HH.out HN.out (o := o) (by rw [h.1]; exact .inl rfl)
    clear hW7 X6 Y6 N6 NC6 K78 K6 K7 HH6 c1 fz
    obtain ⟨c0, c1, c2, c3, fz⟩ := blk4 N8.out.1
    simp only [HKS.out] at c3
    obtain ⟨g1, g2, g3⟩ := N8.out.2.2.2 ks HKS.out
    rw [HKA.out] at g1 g2
    obtain ⟨g4, fz3⟩ := blk1 g1
    have g5 : W7.cell? ⟨kb, ko + i, none⟩ = some (ptr c) := g2.cell (by simp [HIK.out])
    obtain ⟨e0, e1, e2, e3, efz⟩ := blk4 NC8.out.1
    have hmnc := hdr_min HH8.out
    simp only [kidsVal, ptr] at c3 g5
    clear c0 c1 c2 g1 g2 e0 e1 e3
    go_wp2_with fail
    refine wp_calm (by kernel_rfl) (by kernel_rfl) rfl ?_
    simp only [List.flatMap_cons, List.flatMap_nil, checks, chk, nilLit, List.cons_append, List.nil_append, List.append_nil]
    go_wp2_with fail
    rw [HQ_normal]
    have hMq : q + 2 ≤ M := by
      have := hM.out
      first | (rw [World.size_alloc] at this; omega) | omega
    have N7 : Hid (NodeAt TT E W7.drew n { r with cnt := r.cnt - 1, items := r.items.set i y } L) := by exact N8.out.keep (Keep.drew Nothing _) fun _ _ _ h => h
    have K7 : Hid (Keep (fun b o => fp TT n r L b o ∨ (w.heap.size ≤ b ∧ b < M)) W3 W7.drew) := by exact K8.out.dr
    have X7 : Hid (W7.drew.heap[q]? = some (.cells (E.enc 0).toArray 181 (0, 0))) := by exact X8.out
    have Y7 : Hid (W7.drew.heap[q + 1]? = some (.cells (E.enc z).toArray 181 (0, 0))) := by exact Y8.out
    clear N8 NC8 K8 X8 Y8 HH8 c3 fz g3 g4 fz3 g5 e2 efz hmnc
    generalize W7.drew = X at *
    have KX := K7
    rw [hM.out] at KX
    by_cases hsm : (rc.items.length : Int) < hr.mn
    · have hrb := HREB.out
      rw [← hwq] at hrb
      have hre := Lib.hid (hrb _ W3 y del rc X KC.out HG3.out HK3.out KX.out N7.out hsm)
      clear hrb
      unfold ptr at hre
      go_wp2_with fail
      refine hre.out.mono ?_
      rintro e X' ⟨rfl, hKX, hRB⟩
      have X8 : Hid (X'.heap[q]? = some (.cells (E.enc 0).toArray 181 (0, 0))) := by exact blk_keep X7.out hKX fun o h => by (try rw [World.size_alloc] at h); omega
      have Y8 : Hid (X'.heap[q + 1]? = some (.cells (E.enc z).toArray 181 (0, 0))) := by exact blk_keep Y7.out hKX fun o h => by (try rw [World.size_alloc] at h); omega
      have HRB := Lib.hid hRB
      clear hre hKX hRB X7 Y7
      obtain ⟨y0, yf⟩ := blk1 Y8.out
      obtain ⟨x0, xf⟩ := blk1 X8.out
      unfold kv at y0 x0
      have X9 : Hid ((X'.setCell ⟨q, 0, none⟩ (kv (ky z))).heap[q]? = some (.cells (E.enc z).toArray 181 (0, 0))) := by exact blk_set _ X8.out
      have K9 : Hid (Keep (fun b _ => w.heap.size ≤ b ∧ b < M) X' (X'.setCell ⟨q, 0, none⟩ (kv (ky z)))) := by
        refine (Keep.refl _ _).set _ _ _ ?_ <;> exact fun _ => ⟨by omega, by omega⟩
      go_wp2_with fail
      refine bodyPost_ret (results_cell_tmp_row rfl _ _ q 181 (E.enc z).toArray (0, 0) _ rfl X9.out Try.underlying181 rfl (by kernel_rfl)) rfl ?_
      exact ⟨_, W3, y, del, rc, KC.out, HG3.out, HK3.out, rfl, X, X', KX.out, N7.out, .inr ⟨hsm, HRB.out⟩, (by rw [hM.out] at K9; exact K9.out)⟩
    · have hd : ¬ (rc.items.length : Int) < hr.mn := hsm
      obtain ⟨y0, yf⟩ := blk1 Y7.out
      obtain ⟨x0, xf⟩ := blk1 X7.out
      unfold kv at y0 x0
      have X9 : Hid ((X.setCell ⟨q, 0, none⟩ (kv (ky z))).heap[q]? = some (.cells (E.enc z).toArray 181 (0, 0))) := by exact blk_set _ X7.out
      have K9 : Hid (Keep (fun b _ => w.heap.size ≤ b ∧ b < M) X (X.setCell ⟨q, 0, none⟩ (kv (ky z)))) := by
        refine (Keep.refl _ _).set _ _ _ ?_ <;> exact fun _ => ⟨by omega, by omega⟩
      go_wp2_with fail
      refine bodyPost_ret (results_cell_tmp_row rfl _ _ q 181 (E.enc z).toArray (0, 0) _ rfl X9.out Try.underlying181 rfl (by kernel_rfl)) rfl ?_
      exact ⟨_, W3, y, del, rc, KC.out, HG3.out, HK3.out, rfl, X, X, KX.out, N7.out, .inl ⟨by omega, rfl⟩, (by rw [hM.out] at K9; exact K9.out)⟩
end Go.Proofs.Ytckplcmieelmpaa.S

namespace Go.Proofs.Ytckplcmieelmpaa.S
open Go.RowKit Go.Wb

/-- What a call below leaves, where it doesn't ask for a split. -/
def DownPost (w W : World) (n : Nat) (r : NRec It) (L : Lay) (G : It → Bool → World → World → Prop) (e : Ending) (W' : World) : Prop :=
  ∃ y rep, e = .returned (.tuple #[vv y, .bool rep, .bool false]) ∧ Keep (fun b _ => b < w.heap.size) W W' ∧ NodeAt TT E W' n r L ∧ G y rep W W'
def GoPost (w : World) (n : Nat) (r : NRec It) (L : Lay) (G : It → Bool → World → World → Prop) (e : Ending) (w' : World) : Prop :=
  ∃ W W' y rep, Keep Nothing w W ∧ G y rep W W' ∧ e = .returned (.tuple #[vv y, .bool rep, .bool false]) ∧ Keep (fun b _ => b < w.heap.size) W W' ∧
    Keep (fun b o => (b = n ∧ o = 1) ∨ (w.heap.size ≤ b ∧ b < W.heap.size)) W' w' ∧ NodeAt TT E w' n { r with cnt := if rep then r.cnt else r.cnt + 1 } L

set_option maxRecDepth 100000 in
set_option maxHeartbeats 4000000 in
theorem set_inner_go {w : World} {b pb po n : Nat} {hr : HRec} {r : NRec It} {L : Lay} (hh : Hdr w b hr) (hp : w.cell? ⟨pb, po, none⟩ = some (ptr n)) (hn : NodeAt TT E w n r L) (hi : r.iso = hr.iso)
    (hlen : r.items.length ≤ 1000000000000) (hs : Sorted ilt r.items) {x : It} {i : Nat} (hloc : Loc r.items (ky x) i false) (hc0 : 0 ≤ r.cnt) (hc1 : r.cnt ≤ 4000000000000000000)
    {ks : List Nat} (hks : r.kids = some ks) {kb ko : Nat} (hka : L.ka = some ⟨kb, ko, none⟩) (hik : i < ks.length) (G : It → Bool → World → World → Prop)
    (hcall : ∀ W, Keep Nothing w W → Calls Try.prog 196 #[ptr b, .pointer (some ⟨kb, ko + i, none⟩), pv x] W (DownPost w W n r L G)) :
    Calls Try.prog 196 #[ptr b, .pointer (some ⟨pb, po, none⟩), pv x] w (GoPost w n r L G) := by
  have HKS := Lib.hid hks
  have HKA := Lib.hid hka
  have HCALL := Lib.hid hcall
  clear hks hka hcall
  have HN := Lib.hid hn
  have HH := Lib.hid hh
  have HP := Lib.hid hp
  have HLOC := Lib.hid hloc
  have HS := Lib.hid hs
  have HI := Lib.hid hi
  have hnw := lt_of_heap hn.1
  have hpw := lt_of_cell hp
  have hbw := lt_of_heap hh
  clear hh hn hp hs hloc hi
  unfold ptr pv kv at *
  go_enter Try.func196, Try.ntmps196
  go_upto_region 1 with (fail)
  refine wp_world ?_
  intro W1 hW1
  generalize hq : w.heap.size = q at *
  have K1 : Hid (Keep Nothing w W1) := by subst hW1; exact ((Keep.refl _ _).al _).al _
  have X1 : Hid (W1.heap[q]? = some (.cells (E.enc x).toArray 181 (0, 0))) := by subst hW1; subst hq; exact blk_alloc _ (heap_alloc_new w _)
  have XQ := Lib.hid hq
  have Y1 : Hid (W1.heap[q + 1]? = some (.cells #[] 124 (0, 0))) := by subst hW1; subst hq; have := heap_alloc_new (w.alloc (.cells (E.enc x).toArray 181)) (.cells #[] 124); rwa [World.size_alloc] at this
  have S1 : W1.heap.size = q + 2 := by subst hW1; rw [World.size_alloc, World.size_alloc, hq]
  clear hW1 hq
  have HN1 : Hid (NodeAt TT E W1 n r L) := by exact HN.out.keep K1.out fun _ _ _ h => h
  have HH1 : Hid (Hdr W1 b hr) := by exact blk_keep HH.out K1.out fun _ h => h
  have hiso := isoLoad_own HH1.out (K1.out.cell' HP.out fun h => h) HN1.out HI.out true
  unfold ptr at hiso
  go_wp2_with fail
  refine hiso.mono ?_
  rintro e w1 ⟨rfl, kd, rfl⟩
  clear hiso
  have K1d : Hid (Keep Nothing w (W1.drewN kd)) := by exact K1.out.drN kd
  have S1d : (W1.drewN kd).heap.size = q + 2 := S1
  have X1d : Hid ((W1.drewN kd).heap[q]? = some (.cells (E.enc x).toArray 181 (0, 0))) := by exact X1.out
  have Y1d : Hid ((W1.drewN kd).heap[q + 1]? = some (.cells #[] 124 (0, 0))) := by exact Y1.out
  clear HN1 HH1 K1 S1 X1 Y1
  generalize W1.drewN kd = W1 at *
  unfold ptr
  go_upto_region 2 with (fail)
  refine wp_world ?_
  intro W2 hW2
  have K2 : Hid (Keep Nothing w W2) := by subst hW2; exact K1d.out.al _
  have X2 : Hid (W2.heap[q]? = some (.cells (E.enc x).toArray 181 (0, 0))) := by subst hW2; exact blk_alloc _ X1d.out
  have Y2 : Hid (W2.heap[q + 1]? = some (.cells #[] 124 (0, 0))) := by subst hW2; exact blk_alloc _ Y1d.out
  have Z2 : Hid (W2.heap[q + 2]? = some (.cells #[.pointer (some ⟨n, 0, none⟩)] 179 (0, 0))) := by subst hW2; rw [← S1d]; exact heap_alloc_new W1 _
  have S2 : W2.heap.size = q + 3 := by subst hW2; rw [World.size_alloc, S1d]
  clear hW2 K1d X1d Y1d S1d
  have HN2 : Hid (NodeAt TT E W2 n r L) := by exact HN.out.keep K2.out fun _ _ _ h => h
  have hse := search_loc (tr := ptr b) HN2.out hlen HS.out HLOC.out
  have kc : W2.cell? ⟨q, 0, none⟩ = some (.int .i64 (ky x)) := by have := X2.out; simp only [World.cell?, this]; rfl
  have zc := (blk1 Z2.out).1
  unfold ptr kv at hse
  go_wp2_with fail
  refine hse.mono ?_
  rintro e w1 ⟨rfl, kd, rfl⟩
  clear hse kc zc HN2
  have K2d : Hid (Keep Nothing w (W2.drewN kd)) := by exact K2.out.drN kd
  have S2d : (W2.drewN kd).heap.size = q + 3 := S2
  have X2d : Hid ((W2.drewN kd).heap[q]? = some (.cells (E.enc x).toArray 181 (0, 0))) := by exact X2.out
  have Y2d : Hid ((W2.drewN kd).heap[q + 1]? = some (.cells #[] 124 (0, 0))) := by exact Y2.out
  have Z2d : Hid ((W2.drewN kd).heap[q + 2]? = some (.cells #[.pointer (some ⟨n, 0, none⟩)] 179 (0, 0))) := by exact Z2.out
  clear K2 S2 X2 Y2 Z2
  generalize W2.drewN kd = W at *
  have HNd : Hid (NodeAt TT E W n r L) := by exact HN.out.keep K2d.out fun _ _ _ h => h
  have HHd : Hid (Hdr W b hr) := by exact blk_keep HH.out K2d.out fun _ h => h
  have hlv := leaf_any HNd.out
  rw [HKS.out] at hlv
  simp only [Option.isNone_some] at hlv
  obtain ⟨c0, c1, c2, c3, fz⟩ := blk4 HNd.out.1
  rw [HKS.out] at c3
  obtain ⟨g1, g2, g3⟩ := HNd.out.2.2.2 ks HKS.out
  rw [HKA.out] at g1
  obtain ⟨g4, fz3⟩ := blk1 g1
  have zc := (blk1 Z2d.out).1
  have xc : W.drew.cell? ⟨q, 0, none⟩ = some (.int .i64 (ky x)) := by have : W.drew.heap[q]? = _ := X2d.out; simp only [World.cell?, this]; rfl
  have hcl := HCALL.out W.drew K2d.out.dr
  unfold ptr at hlv
  simp only [kidsVal, ptr] at c3
  replace hcl := Lib.hid hcl
  clear c0 c1 c2 g1 g2
  go_wp2_with fail
  refine hlv.mono ?_
  rintro e w1 ⟨rfl, rfl⟩
  clear hlv
  go_wp2_with fail
  refine wp_calm (by kernel_rfl) (by kernel_rfl) rfl ?_
  simp only [List.flatMap_cons, List.flatMap_nil, checks, chk, nilLit, List.cons_append, List.nil_append, List.append_nil]
  go_wp2_with fail
  refine hcl.out.mono ?_
  rintro e W3 ⟨y, rep, rfl, hK3, hN3, hG3⟩
  have HN3 := Lib.hid hN3
  have HG3 := Lib.hid hG3
  have HK3 := Lib.hid hK3
  have Y3 : Hid (W3.heap[q + 1]? = some (.cells #[] 124 (0, 0))) := by exact blk_keep (blk_drew Y2d.out) hK3 fun o h => by have := XQ.out; omega
  have Z3 : Hid (W3.heap[q + 2]? = some (.cells #[.pointer (some ⟨n, 0, none⟩)] 179 (0, 0))) := by exact blk_keep (blk_drew Z2d.out) hK3 fun o h => by have := XQ.out; omega
  have S3 : q + 3 ≤ W3.heap.size := by have := hK3.size; have h2 : W.drew.heap.size = q + 3 := S2d; omega
  clear hN3 hG3 hK3 c3 fz g4 fz3 zc xc hcl
  obtain ⟨c0, c1, c2, c3, fz⟩ := blk4 HN3.out.1
  have zc := (blk1 Z3.out).1
  have hb1 : -9223372036854775808 ≤ r.cnt + 1 ∧ r.cnt + 1 ≤ 9223372036854775807 := by omega
  clear c0 c2 c3
  unfold vv
  go_wp2_with fail
  rw [HQ_normal]
  cases rep with
  | true =>
    go_wp2_with fail
    refine wp_world2 ?_
    intro W4 hW4
    have K4 : Keep (fun b o => (b = n ∧ o = 1) ∨ (w.heap.size ≤ b ∧ b < W.drew.heap.size)) W3 W4 := by
      subst hW4; exact Keep.refl _ _
    have Y4 : W4.heap[q + 1]? = some (.cells #[] 124 (0, 0)) := by
      subst hW4; exact Y3.out
    refine bodyPost_ret (results_cell_tmp2_row rfl _ _ (q + 1) 124 #[] (0, 0) _ rfl Y4 Try.underlying124 rfl (by kernel_rfl)) rfl ?_
    refine ⟨W.drew, W3, y, true, K2d.out.dr, HG3.out, rfl, HK3.out, K4, ?_⟩
    subst hW4; exact HN3.out
  | false =>
    go_wp2_with fail
    refine wp_world2 ?_
    intro W4 hW4
    have K4 : Keep (fun b o => (b = n ∧ o = 1) ∨ (w.heap.size ≤ b ∧ b < W.drew.heap.size)) W3 W4 := by
      subst hW4; refine (Keep.refl _ _).set _ _ _ ?_; exact fun _ => .inl ⟨rfl, rfl⟩
    have Y4 : W4.heap[q + 1]? = some (.cells #[] 124 (0, 0)) := by
      subst hW4; exact blk_far _ Y3.out (by omega)
    refine bodyPost_ret (results_cell_tmp2_row rfl _ _ (q + 1) 124 #[] (0, 0) _ rfl Y4 Try.underlying124 rfl (by kernel_rfl)) rfl ?_
    refine ⟨W.drew, W3, y, false, K2d.out.dr, HG3.out, rfl, HK3.out, K4, ?_⟩
    subst hW4
    refine HN3.out.reset ty_ok ?_ (blk_set _ HN3.out.1)
    refine (Keep.refl _ _).set _ _ _ ?_; exact fun _ => rfl
end Go.Proofs.Ytckplcmieelmpaa.S

namespace Go.Proofs.Ytckplcmieelmpaa.S
open Go.RowKit Go.Wb

/-- A call below has asked for a split. -/
def AskPost (W : World) (ep : It) (e : Ending) (W' : World) : Prop := e = .returned (.tuple #[vv ep, .bool false, .bool true]) ∧ Keep Nothing W W'

set_option maxRecDepth 100000 in
set_option maxHeartbeats 4000000 in
theorem set_inner_full {w : World} {b pb po n : Nat} {hr : HRec} {r : NRec It} {L : Lay} (hh : Hdr w b hr) (hp : w.cell? ⟨pb, po, none⟩ = some (ptr n)) (hn : NodeAt TT E w n r L) (hi : r.iso = hr.iso)
    (hlen : r.items.length ≤ 1000000000000) (hs : Sorted ilt r.items) {x : It} {i : Nat} (hloc : Loc r.items (ky x) i false) (hfull : hr.mx = r.items.length)
    {ks : List Nat} (hks : r.kids = some ks) {kb ko : Nat} (hka : L.ka = some ⟨kb, ko, none⟩) (hik : i < ks.length)
    (hcall : ∀ W, Keep Nothing w W → Calls Try.prog 196 #[ptr b, .pointer (some ⟨kb, ko + i, none⟩), pv x] W (AskPost W hr.emp)) :
    Calls Try.prog 196 #[ptr b, .pointer (some ⟨pb, po, none⟩), pv x] w (AskPost w hr.emp) := by
  have HKS := Lib.hid hks
  have HKA := Lib.hid hka
  have HCALL := Lib.hid hcall
  have HF := Lib.hid hfull
  clear hks hka hcall hfull
  have HN := Lib.hid hn
  have HH := Lib.hid hh
  have HP := Lib.hid hp
  have HLOC := Lib.hid hloc
  have HS := Lib.hid hs
  have HI := Lib.hid hi
  have hnw := lt_of_heap hn.1
  have hpw := lt_of_cell hp
  have hbw := lt_of_heap hh
  clear hh hn hp hs hloc hi
  unfold ptr pv kv at *
  go_enter Try.func196, Try.ntmps196
  go_upto_region 1 with (fail)
  refine wp_world ?_
  intro W1 hW1
  generalize hq : w.heap.size = q at *
  have K1 : Hid (Keep Nothing w W1) := by subst hW1; exact ((Keep.refl _ _).al _).al _
  have X1 : Hid (W1.heap[q]? = some (.cells (E.enc x).toArray 181 (0, 0))) := by subst hW1; subst hq; exact blk_alloc _ (heap_alloc_new w _)
  have XQ := Lib.hid hq
  have Y1 : Hid (W1.heap[q + 1]? = some (.cells #[] 124 (0, 0))) := by subst hW1; subst hq; have := heap_alloc_new (w.alloc (.cells (E.enc x).toArray 181)) (.cells #[] 124); rwa [World.size_alloc] at this
  have S1 : W1.heap.size = q + 2 := by subst hW1; rw [World.size_alloc, World.size_alloc, hq]
  clear hW1 hq
  have HN1 : Hid (NodeAt TT E W1 n r L) := by exact HN.out.keep K1.out fun _ _ _ h => h
  have HH1 : Hid (Hdr W1 b hr) := by exact blk_keep HH.out K1.out fun _ h => h
  have hiso := isoLoad_own HH1.out (K1.out.cell' HP.out fun h => h) HN1.out HI.out true
  unfold ptr at hiso
  go_wp2_with fail
  refine hiso.mono ?_
  rintro e w1 ⟨rfl, kd, rfl⟩
  clear hiso
  have K1d : Hid (Keep Nothing w (W1.drewN kd)) := by exact K1.out.drN kd
  have S1d : (W1.drewN kd).heap.size = q + 2 := S1
  have X1d : Hid ((W1.drewN kd).heap[q]? = some (.cells (E.enc x).toArray 181 (0, 0))) := by exact X1.out
  have Y1d : Hid ((W1.drewN kd).heap[q + 1]? = some (.cells #[] 124 (0, 0))) := by exact Y1.out
  clear HN1 HH1 K1 S1 X1 Y1
  generalize W1.drewN kd = W1 at *
  unfold ptr
  go_upto_region 2 with (fail)
  refine wp_world ?_
  intro W2 hW2
  have K2 : Hid (Keep Nothing w W2) := by subst hW2; exact K1d.out.al _
  have X2 : Hid (W2.heap[q]? = some (.cells (E.enc x).toArray 181 (0, 0))) := by subst hW2; exact blk_alloc _ X1d.out
  have Y2 : Hid (W2.heap[q + 1]? = some (.cells #[] 124 (0, 0))) := by subst hW2; exact blk_alloc _ Y1d.out
  have Z2 : Hid (W2.heap[q + 2]? = some (.cells #[.pointer (some ⟨n, 0, none⟩)] 179 (0, 0))) := by subst hW2; rw [← S1d]; exact heap_alloc_new W1 _
  have S2 : W2.heap.size = q + 3 := by subst hW2; rw [World.size_alloc, S1d]
  clear hW2 K1d X1d Y1d S1d
  have HN2 : Hid (NodeAt TT E W2 n r L) := by exact HN.out.keep K2.out fun _ _ _ h => h
  have hse := search_loc (tr := ptr b) HN2.out hlen HS.out HLOC.out
  have kc : W2.cell? ⟨q, 0, none⟩ = some (.int .i64 (ky x)) := by have := X2.out; simp only [World.cell?, this]; rfl
  have zc := (blk1 Z2.out).1
  unfold ptr kv at hse
  go_wp2_with fail
  refine hse.mono ?_
  rintro e w1 ⟨rfl, kd, rfl⟩
  clear hse kc zc HN2
  have K2d : Hid (Keep Nothing w (W2.drewN kd)) := by exact K2.out.drN kd
  have S2d : (W2.drewN kd).heap.size = q + 3 := S2
  have X2d : Hid ((W2.drewN kd).heap[q]? = some (.cells (E.enc x).toArray 181 (0, 0))) := by exact X2.out
  have Y2d : Hid ((W2.drewN kd).heap[q + 1]? = some (.cells #[] 124 (0, 0))) := by exact Y2.out
  have Z2d : Hid ((W2.drewN kd).heap[q + 2]? = some (.cells #[.pointer (some ⟨n, 0, none⟩)] 179 (0, 0))) := by exact Z2.out
  clear K2 S2 X2 Y2 Z2
  generalize W2.drewN kd = W at *
  have HNd : Hid (NodeAt TT E W n r L) := by exact HN.out.keep K2d.out fun _ _ _ h => h
  have HHd : Hid (Hdr W b hr) := by exact blk_keep HH.out K2d.out fun _ h => h
  have hlv := leaf_any HNd.out
  rw [HKS.out] at hlv
  simp only [Option.isNone_some] at hlv
  obtain ⟨c0, c1, c2, c3, fz⟩ := blk4 HNd.out.1
  rw [HKS.out] at c3
  obtain ⟨g1, g2, g3⟩ := HNd.out.2.2.2 ks HKS.out
  rw [HKA.out] at g1
  obtain ⟨g4, fz3⟩ := blk1 g1
  have zc := (blk1 Z2d.out).1
  have xc : W.drew.cell? ⟨q, 0, none⟩ = some (.int .i64 (ky x)) := by have : W.drew.heap[q]? = _ := X2d.out; simp only [World.cell?, this]; rfl
  have hcl := HCALL.out W.drew K2d.out.dr
  unfold ptr at hlv
  simp only [kidsVal, ptr] at c3
  replace hcl := Lib.hid hcl
  clear c0 c1 c2 g1 g2
  go_wp2_with fail
  refine hlv.mono ?_
  rintro e w1 ⟨rfl, rfl⟩
  clear hlv
  go_wp2_with fail
  refine wp_calm (by kernel_rfl) (by kernel_rfl) rfl ?_
  simp only [List.flatMap_cons, List.flatMap_nil, checks, chk, nilLit, List.cons_append, List.nil_append, List.append_nil]
  go_wp2_with fail
  refine hcl.out.mono ?_
  rintro e W3 ⟨rfl, hK3⟩
  have K3 : Hid (Keep Nothing w W3) := by exact K2d.out.dr.trans hK3 fun _ _ _ h => h
  have Y3 : Hid (W3.heap[q + 1]? = some (.cells #[] 124 (0, 0))) := by exact blk_keep (blk_drew Y2d.out) hK3 fun o h => h
  have Z3 : Hid (W3.heap[q + 2]? = some (.cells #[.pointer (some ⟨n, 0, none⟩)] 179 (0, 0))) := by exact blk_keep (blk_drew Z2d.out) hK3 fun o h => h
  have HN3 : Hid (NodeAt TT E W3 n r L) := by exact HN.out.keep K3.out fun _ _ _ h => h
  have HH3 : Hid (Hdr W3 b hr) := by exact blk_keep HH.out K3.out fun _ h => h
  clear hK3 c3 fz g4 fz3 zc xc hcl
  obtain ⟨c0, c1, c2, c3, fz⟩ := blk4 HN3.out.1
  have zc := (blk1 Z3.out).1
  have x6 := hdr_mx HH3.out
  rw [HF.out] at x6
  have f0 := field0_hdr (w := W3.drew) (b := b) (h := hr) HH3.out
  clear c0 c1 c3
  unfold vv
  go_wp2_with fail
  rw [HQ_normal]
  go_wp2_with fail
  refine wp_calm (by kernel_rfl) (by kernel_rfl) rfl ?_
  simp only [List.flatMap_cons, List.flatMap_nil, checks, chk, nilLit, List.cons_append, List.nil_append, List.append_nil, Try.underlying3]
  go_wp2_with fail
  rw [HQ_normal]
  go_wp2_with fail
  refine wp_world2 ?_
  intro W4 hW4
  have K4 : Keep Nothing w W4 := by
    subst hW4; exact K3.out.dr
  have Y4 : W4.heap[q + 1]? = some (.cells #[] 124 (0, 0)) := by
    subst hW4; exact blk_drew Y3.out
  refine bodyPost_ret (results_cell_tmp2_row rfl _ _ (q + 1) 124 #[] (0, 0) _ rfl Y4 Try.underlying124 rfl (by kernel_rfl)) rfl ?_
  exact ⟨rfl, K4⟩
end Go.Proofs.Ytckplcmieelmpaa.S

namespace Go.Proofs.Ytckplcmieelmpaa.S
open Go.RowKit Go.Wb

/-- A node into which the right half of child i and the item between were put. -/
def grown (r : NRec It) (ks : List Nat) (i m : Nat) (med : It) : NRec It := { r with items := r.items.take i ++ med :: r.items.drop i, kids := some (ks.take (i + 1) ++ m :: ks.drop (i + 1)) }

/-- The walk's own blocks. -/
def Lcl (W : World) (q p n : Nat) (x med : It) : Prop := W.heap[q]? = some (.cells (E.enc x).toArray 181 (0, 0)) ∧ W.heap[q + 1]? = some (.cells #[] 124 (0, 0)) ∧
  W.heap[q + 2]? = some (.cells #[.pointer (some ⟨n, 0, none⟩)] 179 (0, 0)) ∧ W.heap[p]? = some (.cells (E.enc med).toArray 181 (0, 0))
theorem Lcl.keep {S : Nat → Nat → Prop} {W W' : World} {q p n : Nat} {x med : It} (h : Lcl W q p n x med) (hk : Keep S W W') (hS : ∀ b o, S b o → b < q ∨ p < b) (hp : q + 2 < p) : Lcl W' q p n x med := by
  obtain ⟨h1, h2, h3, h4⟩ := h
  refine ⟨blk_keep h1 hk fun o e => ?_, blk_keep h2 hk fun o e => ?_, blk_keep h3 hk fun o e => ?_, blk_keep h4 hk fun o e => ?_⟩ <;> (have := hS _ _ e; omega)

def HalfPost (w W : World) (b n : Nat) (hr : HRec) (r : NRec It) (L : Lay) (G : Nat → It → World → World → Prop) (e : Ending) (W' : World) : Prop :=
  ∃ m med, e = .returned (.tuple #[ptr m, pv med]) ∧ Keep (fun b _ => b < w.heap.size) W W' ∧ NodeAt TT E W' n r L ∧ Hdr W' b hr ∧ G m med W W'

/-- Between the split and the second call. -/
structure Mid (W' W2 : World) (n : Nat) (r : NRec It) (L : Lay) (ks : List Nat) (i m : Nat) (med : It) (L2 : Lay) : Prop where
  keep : Keep (fp TT n r L) W' W2
  node : NodeAt TT E W2 n (grown r ks i m med) L2
  fp : ∀ b o, b < W'.heap.size → fp TT n (grown r ks i m med) L2 b o → fp TT n r L b o

def AgainPost (w W W2 : World) (R : Ending → World → Prop) (e : Ending) (W3 : World) : Prop :=
  R e W3 ∧ (∃ y rep sp, e = .returned (.tuple #[vv y, .bool rep, .bool sp])) ∧ Keep (fun b _ => b < w.heap.size ∨ W.heap.size ≤ b) W2 W3

def RetryPost (w : World) (n : Nat) (r : NRec It) (L : Lay) (ks : List Nat) (i : Nat) (G : Nat → It → World → World → Prop) (R : Nat → It → World → World → World → Lay → Ending → World → Prop) (e : Ending) (w' : World) : Prop :=
  ∃ W m med W' W2 L2 W3, Keep Nothing w W ∧ G m med W W' ∧ Mid W' W2 n r L ks i m med L2 ∧ R m med W W' W2 L2 e W3 ∧ Keep (fun b _ => w.heap.size ≤ b ∧ b < W.heap.size) W3 w'

set_option maxRecDepth 100000 in
set_option maxHeartbeats 8000000 in
theorem set_inner_retry {w : World} {b pb po n : Nat} {hr : HRec} {r : NRec It} {L : Lay} (hh : Hdr w b hr) (hp : w.cell? ⟨pb, po, none⟩ = some (ptr n)) (hn : NodeAt TT E w n r L) (hi : r.iso = hr.iso)
    (hlen : r.items.length ≤ 1000000000000) (hs : Sorted ilt r.items) {x : It} {i : Nat} (hloc : Loc r.items (ky x) i false) (hfull : hr.mx ≠ r.items.length)
    {ks : List Nat} (hks : r.kids = some ks) {kb ko c : Nat} (hka : L.ka = some ⟨kb, ko, none⟩) (hik : ks[i]? = some c) (hkl : ks.length ≤ 1000000000001) (G : Nat → It → World → World → Prop) (R : Nat → It → World → World → World → Lay → Ending → World → Prop)
    (hcall : ∀ W, Keep Nothing w W → Calls Try.prog 196 #[ptr b, .pointer (some ⟨kb, ko + i, none⟩), pv x] W (AskPost W hr.emp))
    (hsplit : ∀ W, Keep Nothing w W → Calls Try.prog 197 #[ptr b, ptr c] W (HalfPost w W b n hr r L G))
    (hagain : ∀ W m med W' W2 L2 pq, Keep Nothing w W → G m med W W' → Mid W' W2 n r L ks i m med L2 → w.heap.size ≤ pq → W2.cell? ⟨pq, 0, none⟩ = some (ptr n) → Hdr W2 b hr →
      Calls Try.prog 196 #[ptr b, ptr pq, pv x] W2 (AgainPost w W W2 (R m med W W' W2 L2))) :
    Calls Try.prog 196 #[ptr b, .pointer (some ⟨pb, po, none⟩), pv x] w (RetryPost w n r L ks i G R) := by
  have HKS := Lib.hid hks
  have HKA := Lib.hid hka
  have HCALL := Lib.hid hcall
  have HF := Lib.hid hfull
  have HIK := Lib.hid hik
  have HSP := Lib.hid hsplit
  have HAG := Lib.hid hagain
  have hikl : i < ks.length := (List.getElem?_eq_some_iff.1 hik).1
  clear hks hka hcall hfull hik hsplit hagain
  have HN := Lib.hid hn
  have HH := Lib.hid hh
  have HP := Lib.hid hp
  have HLOC := Lib.hid hloc
  have HS := Lib.hid hs
  have HI := Lib.hid hi
  have hnw := lt_of_heap hn.1
  have hpw := lt_of_cell hp
  have hbw := lt_of_heap hh
  clear hh hn hp hs hloc hi
  unfold ptr pv kv at *
  go_enter Try.func196, Try.ntmps196
  go_upto_region 1 with (fail)
  refine wp_world ?_
  intro W1 hW1
  generalize hq : w.heap.size = q at *
  have K1 : Hid (Keep Nothing w W1) := by subst hW1; exact ((Keep.refl _ _).al _).al _
  have X1 : Hid (W1.heap[q]? = some (.cells (E.enc x).toArray 181 (0, 0))) := by subst hW1; subst hq; exact blk_alloc _ (heap_alloc_new w _)
  have XQ := Lib.hid hq
  have Y1 : Hid (W1.heap[q + 1]? = some (.cells #[] 124 (0, 0))) := by subst hW1; subst hq; have := heap_alloc_new (w.alloc (.cells (E.enc x).toArray 181)) (.cells #[] 124); rwa [World.size_alloc] at this
  have S1 : W1.heap.size = q + 2 := by subst hW1; rw [World.size_alloc, World.size_alloc, hq]
  clear hW1 hq
  have HN1 : Hid (NodeAt TT E W1 n r L) := by exact HN.out.keep K1.out fun _ _ _ h => h
  have HH1 : Hid (Hdr W1 b hr) := by exact blk_keep HH.out K1.out fun _ h => h
  have hiso := isoLoad_own HH1.out (K1.out.cell' HP.out fun h => h) HN1.out HI.out true
  unfold ptr at hiso
  go_wp2_with fail
  refine hiso.mono ?_
  rintro e w1 ⟨rfl, kd, rfl⟩
  clear hiso
  have K1d : Hid (Keep Nothing w (W1.drewN kd)) := by exact K1.out.drN kd
  have S1d : (W1.drewN kd).heap.size = q + 2 := S1
  have X1d : Hid ((W1.drewN kd).heap[q]? = some (.cells (E.enc x).toArray 181 (0, 0))) := by exact X1.out
  have Y1d : Hid ((W1.drewN kd).heap[q + 1]? = some (.cells #[] 124 (0, 0))) := by exact Y1.out
  clear HN1 HH1 K1 S1 X1 Y1
  generalize W1.drewN kd = W1 at *
  unfold ptr
  go_upto_region 2 with (fail)
  refine wp_world ?_
  intro W2 hW2
  have K2 : Hid (Keep Nothing w W2) := by subst hW2; exact K1d.out.al _
  have X2 : Hid (W2.heap[q]? = some (.cells (E.enc x).toArray 181 (0, 0))) := by subst hW2; exact blk_alloc _ X1d.out
  have Y2 : Hid (W2.heap[q + 1]? = some (.cells #[] 124 (0, 0))) := by subst hW2; exact blk_alloc _ Y1d.out
  have Z2 : Hid (W2.heap[q + 2]? = some (.cells #[.pointer (some ⟨n, 0, none⟩)] 179 (0, 0))) := by subst hW2; rw [← S1d]; exact heap_alloc_new W1 _
  have S2 : W2.heap.size = q + 3 := by subst hW2; rw [World.size_alloc, S1d]
  clear hW2 K1d X1d Y1d S1d
  have HN2 : Hid (NodeAt TT E W2 n r L) := by exact HN.out.keep K2.out fun _ _ _ h => h
  have hse := search_loc (tr := ptr b) HN2.out hlen HS.out HLOC.out
  have kc : W2.cell? ⟨q, 0, none⟩ = some (.int .i64 (ky x)) := by have := X2.out; simp only [World.cell?, this]; rfl
  have zc := (blk1 Z2.out).1
  unfold ptr kv at hse
  go_wp2_with fail
  refine hse.mono ?_
  rintro e w1 ⟨rfl, kd, rfl⟩
  clear hse kc zc HN2
  have K2d : Hid (Keep Nothing w (W2.drewN kd)) := by exact K2.out.drN kd
  have S2d : (W2.drewN kd).heap.size = q + 3 := S2
  have X2d : Hid ((W2.drewN kd).heap[q]? = some (.cells (E.enc x).toArray 181 (0, 0))) := by exact X2.out
  have Y2d : Hid ((W2.drewN kd).heap[q + 1]? = some (.cells #[] 124 (0, 0))) := by exact Y2.out
  have Z2d : Hid ((W2.drewN kd).heap[q + 2]? = some (.cells #[.pointer (some ⟨n, 0, none⟩)] 179 (0, 0))) := by exact Z2.out
  clear K2 S2 X2 Y2 Z2
  generalize W2.drewN kd = W at *
  have HNd : Hid (NodeAt TT E W n r L) := by exact HN.out.keep K2d.out fun _ _ _ h => h
  have HHd : Hid (Hdr W b hr) := by exact blk_keep HH.out K2d.out fun _ h => h
  have hlv := leaf_any HNd.out
  rw [HKS.out] at hlv
  simp only [Option.isNone_some] at hlv
  obtain ⟨c0, c1, c2, c3, fz⟩ := blk4 HNd.out.1
  rw [HKS.out] at c3
  obtain ⟨g1, g2, g3⟩ := HNd.out.2.2.2 ks HKS.out
  rw [HKA.out] at g1
  obtain ⟨g4, fz3⟩ := blk1 g1
  have zc := (blk1 Z2d.out).1
  have xc : W.drew.cell? ⟨q, 0, none⟩ = some (.int .i64 (ky x)) := by have : W.drew.heap[q]? = _ := X2d.out; simp only [World.cell?, this]; rfl
  have hcl := HCALL.out W.drew K2d.out.dr
  unfold ptr at hlv
  simp only [kidsVal, ptr] at c3
  replace hcl := Lib.hid hcl
  clear c0 c1 c2 g1 g2
  go_wp2_with fail
  refine hlv.mono ?_
  rintro e w1 ⟨rfl, rfl⟩
  clear hlv
  go_wp2_with fail
  refine wp_calm (by kernel_rfl) (by kernel_rfl) rfl ?_
  simp only [List.flatMap_cons, List.flatMap_nil, checks, chk, nilLit, List.cons_append, List.nil_append, List.append_nil]
  go_wp2_with fail
  refine hcl.out.mono ?_
  rintro e W3 ⟨rfl, hK3⟩
  have K3 : Hid (Keep Nothing w W3) := by exact K2d.out.dr.trans hK3 fun _ _ _ h => h
  have X3 : Hid (W3.heap[q]? = some (.cells (E.enc x).toArray 181 (0, 0))) := by exact blk_keep (blk_drew X2d.out) hK3 fun o h => h
  have Y3 : Hid (W3.heap[q + 1]? = some (.cells #[] 124 (0, 0))) := by exact blk_keep (blk_drew Y2d.out) hK3 fun o h => h
  have Z3 : Hid (W3.heap[q + 2]? = some (.cells #[.pointer (some ⟨n, 0, none⟩)] 179 (0, 0))) := by exact blk_keep (blk_drew Z2d.out) hK3 fun o h => h
  have S3 : q + 3 ≤ W3.heap.size := by have h2 : W.drew.heap.size = q + 3 := S2d; have := hK3.size; omega
  have HN3 : Hid (NodeAt TT E W3 n r L) := by exact HN.out.keep K3.out fun _ _ _ h => h
  have HH3 : Hid (Hdr W3 b hr) := by exact blk_keep HH.out K3.out fun _ h => h
  clear hK3 c3 fz g4 fz3 zc xc hcl K2d X2d Y2d Z2d HNd HHd S2d
  obtain ⟨c0, c1, c2, c3, fz⟩ := blk4 HN3.out.1
  have zc := (blk1 Z3.out).1
  have x6 := hdr_mx HH3.out
  have hne : ((r.items.length : Int) == hr.mx) = false := by simpa using fun h => HF.out h.symm
  clear c0 c1 c3
  unfold vv
  go_wp2_with fail
  rw [HQ_normal]
  go_wp2_with fail
  refine wp_calm (by kernel_rfl) (by kernel_rfl) rfl ?_
  simp only [List.flatMap_cons, List.flatMap_nil, checks, chk, nilLit, List.cons_append, List.nil_append, List.append_nil, Try.underlying3]
  go_wp2_with fail
  rw [HQ_normal]
  go_upto_region 19 with (fail)
  refine wp_world ?_
  intro W4 hW4
  have K4 : Hid (Keep Nothing w W4) := by subst hW4; exact K3.out.dr
  have X4 : Hid (W4.heap[q]? = some (.cells (E.enc x).toArray 181 (0, 0))) := by subst hW4; exact X3.out
  have Y4 : Hid (W4.heap[q + 1]? = some (.cells #[] 124 (0, 0))) := by subst hW4; exact Y3.out
  have Z4 : Hid (W4.heap[q + 2]? = some (.cells #[.pointer (some ⟨n, 0, none⟩)] 179 (0, 0))) := by subst hW4; exact Z3.out
  have S4 : q + 3 ≤ W4.heap.size := by subst hW4; exact S3
  clear hW4 c2 fz zc x6 hne K3 X3 Y3 Z3 S3 HN3 HH3
  have HN4 : Hid (NodeAt TT E W4 n r L) := by exact HN.out.keep K4.out fun _ _ _ h => h
  have HSC := Lib.hid (HSP.out W4 K4.out)
  obtain ⟨c0, c1, c2, c3, fz⟩ := blk4 HN4.out.1
  rw [HKS.out] at c3
  obtain ⟨g1, g2, g3⟩ := HN4.out.2.2.2 ks HKS.out
  rw [HKA.out] at g1 g2
  obtain ⟨g4, fz3⟩ := blk1 g1
  have zc := (blk1 Z4.out).1
  have kc := g2.cell (i := i) (v := ptr c) (by simp [HIK.out])
  unfold ptr at kc
  simp only [kidsVal, ptr] at c3
  clear c0 c1 c2 g1 g2
  go_wp2_with fail
  unfold ptr at HSC
  refine HSC.out.mono ?_
  rintro e W5 ⟨m, med, rfl, hK5, hN5, hH5, hG5⟩
  have HK5 := Lib.hid hK5
  have HG5 := Lib.hid hG5
  have HN5 := Lib.hid hN5
  have HH5 := Lib.hid hH5
  have X5 : Hid (W5.heap[q]? = some (.cells (E.enc x).toArray 181 (0, 0))) := by exact blk_keep X4.out hK5 fun o h => by have := XQ.out; omega
  have Y5 : Hid (W5.heap[q + 1]? = some (.cells #[] 124 (0, 0))) := by exact blk_keep Y4.out hK5 fun o h => by have := XQ.out; omega
  have Z5 : Hid (W5.heap[q + 2]? = some (.cells #[.pointer (some ⟨n, 0, none⟩)] 179 (0, 0))) := by exact blk_keep Z4.out hK5 fun o h => by have := XQ.out; omega
  have S5 : q + 3 ≤ W5.heap.size := by have := hK5.size; omega
  clear hK5 hG5 hN5 hH5 HSC c3 fz g4 fz3 zc kc X4 Y4 Z4 HN4
  unfold ptr pv kv
  go_upto_region 20 with (fail)
  refine wp_world ?_
  intro W6 hW6
  generalize hp : W5.heap.size = p at *
  have K6 : Hid (Keep Nothing W5 W6) := by
    subst hW6; exact (Keep.refl _ _).al _
  have M6 : Hid (W6.heap[p]? = some (.cells (E.enc med).toArray 181 (0, 0))) := by
    subst hW6; subst hp; exact heap_alloc_new W5 _
  have S6 : W6.heap.size = p + 1 := by
    subst hW6; rw [World.size_alloc, hp]
  clear hW6
  have X6 : Hid (W6.heap[q]? = some (.cells (E.enc x).toArray 181 (0, 0))) := by exact blk_keep X5.out K6.out fun o h => h
  have Y6 : Hid (W6.heap[q + 1]? = some (.cells #[] 124 (0, 0))) := by exact blk_keep Y5.out K6.out fun o h => h
  have Z6 : Hid (W6.heap[q + 2]? = some (.cells #[.pointer (some ⟨n, 0, none⟩)] 179 (0, 0))) := by exact blk_keep Z5.out K6.out fun o h => h
  have HN6 : Hid (NodeAt TT E W6 n r L) := by exact HN5.out.keep K6.out fun _ _ _ h => h
  clear X5 Y5 Z5
  have HPp := Lib.hid hp
  clear hp
  obtain ⟨c0, c1, c2, c3, fz⟩ := blk4 HN6.out.1
  rw [HKS.out] at c3
  obtain ⟨g1, g2, g3⟩ := HN6.out.2.2.2 ks HKS.out
  rw [HKA.out] at g1 g2
  obtain ⟨g4, fz3⟩ := blk1 g1
  have zc := (blk1 Z6.out).1
  simp only [kidsVal, ptr] at c3
  clear c0 c1 c2 g1 g2
  refine wp_held (fun w' => w'.cell? ⟨q + 2, 0, none⟩ = some (.pointer (some ⟨n, 0, none⟩)) ∧ w'.cell? ⟨n, 3, none⟩ = some (.pointer (some ⟨L.cb, 0, none⟩)) ∧ w'.cell? ⟨L.cb, 0, none⟩ = some (.slice (some ⟨kb, ko, none⟩) ks.length L.kcap)) [0, 3, 4, 7, 9] (by kernel_rfl) (by kernel_rfl) (by kernel_rfl) rfl ⟨zc, c3, g4⟩ ?_
  simp only [segs, readsB, silentB, lenB, checks, List.nil_append]
  go_wp2_with fail
  refine held_world ?_
  intro W7 hW7
  have hqp : q + 2 < p := by have := HPp.out; omega
  have hkbq : kb < q ∧ L.cb < q := by
    obtain ⟨h1, h2, _⟩ := HN.out.2.2.2 ks HKS.out
    rw [HKA.out] at h2
    have h3 := lt_of_heap h2.blk.choose_spec
    have h4 := lt_of_heap h1
    rw [XQ.out] at h3 h4
    exact ⟨h3, h4⟩
  have LC7 : Hid (Lcl W7 q p n x med) := by
    have h6 : Lcl W6 q p n x med := ⟨X6.out, Y6.out, Z6.out, M6.out⟩
    subst hW7
    exact h6.keep (S := Nothing) ((Keep.refl _ _).al _).dr (fun _ _ h => h.elim) hqp
  have K7 : Hid (Keep Nothing W5 W7) := by subst hW7; exact (K6.out.al _).dr
  have HN7 : Hid (NodeAt TT E W7 n r L) := by exact HN5.out.keep K7.out fun _ _ _ h => h
  have N7 : Hid (W7.heap[p + 1]? = some (.cells [Value.pointer none].toArray 179 (0, 0))) := by subst hW7; rw [← S6]; exact heap_alloc_new W6 _
  have S7 : W7.heap.size = p + 2 := by subst hW7; show (W6.alloc _).heap.size = _; rw [World.size_alloc, S6]
  clear hW7 K6 X6 Y6 Z6 M6 HN6 c3 fz g4 fz3 zc
  obtain ⟨c0, c1, c2, c3, fz⟩ := blk4 HN7.out.1
  rw [HKS.out] at c3
  obtain ⟨g1, g2, g3⟩ := HN7.out.2.2.2 ks HKS.out
  rw [HKA.out] at g1 g2
  obtain ⟨g4, fz3⟩ := blk1 g1
  have zc := (blk1 LC7.out.2.2.1).1
  simp only [kidsVal, ptr] at c3
  replace g2 := Lib.hid g2
  clear c0 c1 c2 g1
  refine held_next ⟨zc, c3, g4⟩ ?_
  refine wpList_append_any rfl _ _ _ rfl 179 1 8 Try.underlying254 ⟨by kernel_rfl, by kernel_rfl, by kernel_rfl⟩ (some ⟨kb, ko, none⟩) ks.length L.kcap (ks.map ptr) rfl g2.out (by simp) ⟨p + 1, 0, none⟩ 1 1 [.pointer none] ?_ rfl ?_ (by simp; rfl) (by omega) g3 (by simp only [maxLen]; omega) (by omega) ?_
  · rfl
  · exact new_cells N7.out
  intro ak' kc' W8 hG8
  have GR8 := Lib.hid hG8
  obtain ⟨jb, jo, hja, _⟩ := hG8.row.form (by simp)
  subst hja
  have hjb : jb = kb ∨ jb = p + 2 := by
    rcases hG8.fp jb jo ⟨jb, jo, rfl, rfl, Nat.le_refl _, by have := hG8.cap; omega⟩ with h | ⟨h, _⟩
    · exact .inl (rowFp_some h).1
    · exact .inr (by omega)
  have KG8 : Hid (Keep (fun y _ => y = kb) W7 W8) := by exact hG8.keep.mono fun y o _ ⟨a, b, h, hy, _⟩ => by cases h; exact hy
  obtain ⟨arr7, harr7⟩ := g2.out.blk
  have hkbn : kb ≠ n := (blk_ne HN7.out.1 harr7 ty_ok.b).symm
  have hkbcb : kb ≠ L.cb := blk_ne harr7 (HN7.out.2.2.2 ks HKS.out).1 ty_ok.e
  have B8 : Hid (W8.heap[n]? = some (.cells #[.int .u64 r.iso, .int .i64 r.cnt, .slice L.ia r.items.length L.icap, .pointer (some ⟨L.cb, 0, none⟩)] 253 (0, 0))) := by
    have h1 := HN7.out.1
    rw [HKS.out] at h1
    exact blk_keep h1 KG8.out fun o e => hkbn e.symm
  have C8 : Hid (W8.heap[L.cb]? = some (.cells #[.slice (some ⟨kb, ko, none⟩) ks.length L.kcap] 254 (0, 0))) := by
    have h1 := (HN7.out.2.2.2 ks HKS.out).1
    rw [HKA.out] at h1
    exact blk_keep h1 KG8.out fun o e => hkbcb e.symm
  have LC8 : Hid (Lcl W8 q p n x med) := by exact LC7.out.keep KG8.out (fun y o e => by omega) hqp
  have RI8 : Hid (Row W8 TT.pair TT.s L.ia L.icap (E.all r.items)) := by exact HN7.out.2.1.off KG8.out harr7 ty_ok.f.symm
  clear hG8 c3 fz g4 fz3 zc harr7 arr7
  obtain ⟨c0, c1, c2, c3, fz⟩ := blk4 B8.out
  obtain ⟨g4, fz3⟩ := blk1 C8.out
  have zc := (blk1 LC8.out.2.2.1).1
  clear c0 c1 c2
  refine held_next ⟨zc, c3, g4⟩ ?_
  simp only [Act.put]
  go_wp2_with fail
  refine held_world ?_
  intro W9 hW9
  refine held_end ?_ ?_
  · refine ⟨?_, ?_, ?_, ?_, ?_, trivial⟩
    · exact ⟨.pointer (some ⟨n, 0, none⟩), fun w' hS => by simp [execOp, hS.1, go_sem]⟩
    · exact ⟨.pointer (some ⟨L.cb, 0, none⟩), fun w' hS => by simp [execOp, hS.2.1, go_sem]⟩
    · exact ⟨.pointer (some ⟨n, 0, none⟩), fun w' hS => by simp [execOp, hS.1, go_sem]⟩
    · exact ⟨.pointer (some ⟨L.cb, 0, none⟩), fun w' hS => by simp [execOp, hS.2.1, go_sem]⟩
    · exact ⟨.slice (some ⟨kb, ko, none⟩) ks.length L.kcap, fun w' hS => by simp [execOp, hS.2.2, go_sem]⟩
  have hkc' : ks.length + 1 ≤ kc' := GR8.out.cap
  obtain ⟨arr8, harr8⟩ := GR8.out.row.blk
  have hjn : jb ≠ n := (blk_ne B8.out harr8 ty_ok.b).symm
  have hjcb : jb ≠ L.cb := blk_ne harr8 C8.out ty_ok.e
  have hncb : n ≠ L.cb := blk_ne B8.out C8.out ty_ok.c
  have K9 : Hid (Keep (fp TT n r L) W5 W9) := by
    subst hW9
    refine Keep.set ?_ _ _ _ fun _ => .inr (.inr ⟨by simp [HKS.out], .inl rfl⟩)
    refine (K7.out.mono fun _ _ _ h => h.elim).trans GR8.out.keep fun y o _ h => ?_
    have h2 := grow_row g3 h
    rw [Nat.mul_one] at h2
    exact .inr (.inr ⟨by simp [HKS.out], .inr (by rw [HKA.out]; exact h2)⟩)
  have B9 : Hid (W9.heap[n]? = some (.cells #[.int .u64 r.iso, .int .i64 r.cnt, .slice L.ia r.items.length L.icap, .pointer (some ⟨L.cb, 0, none⟩)] 253 (0, 0))) := by
    subst hW9; exact blk_far _ B8.out hncb
  have C9 : Hid (W9.heap[L.cb]? = some (.cells #[.slice (some ⟨jb, jo, none⟩) (ks.length + 1) kc'] 254 (0, 0))) := by
    subst hW9; exact blk_set _ C8.out
  have KW9 : Hid (Keep (fun y _ => y = L.cb) W8 W9) := by subst hW9; refine (Keep.refl _ _).set _ _ _ ?_; exact fun _ => rfl
  have LC9 : Hid (Lcl W9 q p n x med) := by exact LC8.out.keep KW9.out (fun y o e => by omega) hqp
  have R9 : Hid (Row W9.drew 179 1 (some ⟨jb, jo, none⟩) kc' (ks.map ptr ++ [.pointer none])) := by
    have h1 := GR8.out.row.keep' KW9.out fun y o hf e => hjcb ((rowFp_some hf).1.symm.trans e)
    exact h1.keep (Keep.drew Nothing _) fun _ _ _ h => h
  have hjq : Hid (jb < q ∨ p < jb) := by have := hkbq; unfold Hid; omega
  replace hjb := Lib.hid hjb
  have hfj : Hid (∀ y o, y < W5.heap.size → rowFp (some ⟨jb, jo, none⟩) (kc' * 1) y o → rowFp L.ka L.kcap y o) := by
    intro y o hy hf
    rcases GR8.out.fp y o hf with h | ⟨h, _⟩
    · rw [HKA.out]; rw [Nat.mul_one] at h; exact h
    · have := HPp.out; omega
  have RI9 : Hid (Row W9 TT.pair TT.s L.ia L.icap (E.all r.items)) := by exact RI8.out.off KW9.out C8.out ty_ok.d.symm
  clear RI8
  clear hW9 LC8 C8 B8 c3 fz g4 fz3 zc N7 KW9 K7 KG8 HN7 LC7 g2 harr8 arr8
  obtain ⟨c0, c1, c2, c3, fz⟩ := blk4 B9.out
  obtain ⟨g4, fz3⟩ := blk1 C9.out
  have zc := (blk1 LC9.out.2.2.1).1
  have hcn : ¬ kc' = i := by omega
  have hcn2 : ¬ kc' = i + 1 := by omega
  have hone : Hid (∀ v ∈ ks.map ptr ++ [Value.pointer none], v.oneCell' = true) := by
    intro v hv
    rcases List.mem_append.1 hv with h | h
    · obtain ⟨k, _, rfl⟩ := List.mem_map.1 h; rfl
    · obtain rfl := List.mem_singleton.1 h; rfl
  obtain ⟨rv, W10, hr10, hk10, hrow10⟩ := run_copyRoom (P := Try.prog) W9.drew 254 3 179 1 Try.underlying254 (by kernel_rfl) R9.out (by simp) (Nat.le_of_lt hikl) (some ⟨jb, jo + (i + 1), none⟩) (some ⟨jb, jo + i, none⟩) (fun _ => by simp) (fun _ => by simp) (kc' - (i + 1)) (kc' - i) hone.out
  have HR10 := Lib.hid hr10
  replace hk10 := Lib.hid hk10
  replace hrow10 := Lib.hid hrow10
  clear c0 c1 c2 hr10
  go_wp2_with fail
  refine wp_calm (by kernel_rfl) (by kernel_rfl) rfl ?_
  simp only [List.flatMap_cons, List.flatMap_nil, checks, chk, nilLit, List.cons_append, List.nil_append, List.append_nil, Try.underlying3]
  go_wp2_with fail
  have hr10 := HR10.out
  simp only [Nat.add_sub_add_right] at hr10
  rw [hr10]
  simp only [Result.andThen_ok]
  clear c3 fz g4 fz3 zc hr10 HR10
  have KJ10 : Hid (Keep (fun y _ => y = jb) W9 W10) := by exact ((Keep.refl _ _).dr).trans (hk10.out.mono fun y o _ e => e.1 : Keep (fun y _ => y = jb) W9.drew W10) fun _ _ _ h => h
  have K10 : Hid (Keep (fp TT n r L) W5 W10) := by
    refine K9.out.dr.trans hk10.out fun y o hy e => ?_
    exact .inr (.inr ⟨by simp [HKS.out], .inr (hfj.out y o hy ⟨jb, jo, rfl, e.1, by have := e.2; omega, by have := e.2; omega⟩)⟩)
  have B10 : Hid (W10.heap[n]? = some (.cells #[.int .u64 r.iso, .int .i64 r.cnt, .slice L.ia r.items.length L.icap, .pointer (some ⟨L.cb, 0, none⟩)] 253 (0, 0))) := by exact blk_keep B9.out KJ10.out fun o e => hjn e.symm
  have C10 : Hid (W10.heap[L.cb]? = some (.cells #[.slice (some ⟨jb, jo, none⟩) (ks.length + 1) kc'] 254 (0, 0))) := by exact blk_keep C9.out KJ10.out fun o e => hjcb e.symm
  have LC10 : Hid (Lcl W10 q p n x med) := by exact LC9.out.keep KJ10.out (fun y o e => e ▸ hjq.out) hqp
  have RI10 : Hid (Row W10 TT.pair TT.s L.ia L.icap (E.all r.items)) := by
    obtain ⟨ar, ha⟩ := R9.out.blk
    exact RI9.out.off KJ10.out (show W9.heap[jb]? = _ from ha) ty_ok.f.symm
  clear RI9
  clear K9 B9 C9 LC9 R9 KJ10 hk10 hone
  obtain ⟨c0, c1, c2, c3, fz⟩ := blk4 B10.out
  obtain ⟨g4, fz3⟩ := blk1 C10.out
  have zc := (blk1 LC10.out.2.2.1).1
  have fz5 := hrow10.out.frozen
  obtain ⟨ov, hov⟩ := hrow10.out.there (i := i + 1) (by omega)
  clear c0 c1 c2
  go_wp2_with fail
  rw [HQ_normal]
  go_upto_region 23 with (fail)
  refine wp_world ?_
  intro W11 hW11
  have KJ11 : Hid (Keep (fun y _ => y = jb) W10 W11) := by subst hW11; refine (Keep.refl _ _).set _ _ _ ?_; exact fun _ => rfl
  have K11 : Hid (Keep (fp TT n r L) W5 W11) := by
    subst hW11
    refine K10.out.set _ _ _ fun hy => ?_
    exact .inr (.inr ⟨by simp [HKS.out], .inr (hfj.out jb (jo + (i + 1)) hy ⟨jb, jo, rfl, rfl, by omega, by omega⟩)⟩)
  have R11 : Hid (Row W11 179 1 (some ⟨jb, jo, none⟩) kc' ((ks.take (i + 1) ++ m :: ks.drop (i + 1)).map ptr)) := by
    rw [← ins_kids ks m (.pointer none) hikl]
    subst hW11
    exact hrow10.out.setCell (ptr m) (by simp; omega)
  have B11 : Hid (W11.heap[n]? = some (.cells #[.int .u64 r.iso, .int .i64 r.cnt, .slice L.ia r.items.length L.icap, .pointer (some ⟨L.cb, 0, none⟩)] 253 (0, 0))) := by exact blk_keep B10.out KJ11.out fun o e => hjn e.symm
  have C11 : Hid (W11.heap[L.cb]? = some (.cells #[.slice (some ⟨jb, jo, none⟩) (ks.length + 1) kc'] 254 (0, 0))) := by exact blk_keep C10.out KJ11.out fun o e => hjcb e.symm
  have LC11 : Hid (Lcl W11 q p n x med) := by exact LC10.out.keep KJ11.out (fun y o e => e ▸ hjq.out) hqp
  have RI11 : Hid (Row W11 TT.pair TT.s L.ia L.icap (E.all r.items)) := by
    obtain ⟨ar, ha⟩ := hrow10.out.blk
    exact RI10.out.off KJ11.out ha ty_ok.f.symm
  clear RI10
  clear hW11 K10 B10 C10 LC10 KJ11 hrow10 c3 fz g4 fz3 zc fz5 hov
  have H11 : Hid (Hdr W11 b hr) := by exact blk_keep HH5.out K11.out fun o hf => hdr_apart HH5.out HN5.out hf
  have he := hdr_emp H11.out
  have zc := (blk1 LC11.out.2.2.1).1
  obtain ⟨c0, c1, c2, c3, fz⟩ := blk4 B11.out
  clear c0 c1 c3
  unfold kv at he
  refine wp_held (fun w' => w'.cell? ⟨q + 2, 0, none⟩ = some (.pointer (some ⟨n, 0, none⟩)) ∧ w'.cell? ⟨n, 2, none⟩ = some (.slice L.ia r.items.length L.icap)) [0, 1, 4] (by kernel_rfl) (by kernel_rfl) (by kernel_rfl) rfl ⟨zc, c2⟩ ?_
  simp only [segs, readsB, silentB, lenB, checks, List.nil_append]
  go_wp2_with fail
  refine held_world ?_
  intro W12 hW12
  generalize he0 : W11.heap.size = e0 at *
  have hpe : p < e0 := by rw [← he0]; exact lt_of_heap LC11.out.2.2.2
  have hicap := HN.out.2.2.1
  have KA : Hid (Keep Nothing W11 W12) := by subst hW12; exact ((Keep.refl _ _).al _).dr
  have N12 : Hid (W12.heap[e0]? = some (.cells (E.enc hr.emp).toArray 181 (0, 0))) := by subst hW12; subst he0; exact heap_alloc_new W11 _
  have S12 : W12.heap.size = e0 + 1 := by subst hW12; show (W11.alloc _).heap.size = _; rw [World.size_alloc, he0]
  have B12 : Hid (W12.heap[n]? = some (.cells #[.int .u64 r.iso, .int .i64 r.cnt, .slice L.ia r.items.length L.icap, .pointer (some ⟨L.cb, 0, none⟩)] 253 (0, 0))) := by exact blk_keep B11.out KA.out fun _ h => h
  have C12 : Hid (W12.heap[L.cb]? = some (.cells #[.slice (some ⟨jb, jo, none⟩) (ks.length + 1) kc'] 254 (0, 0))) := by exact blk_keep C11.out KA.out fun _ h => h
  have R12 : Hid (Row W12 179 1 (some ⟨jb, jo, none⟩) kc' ((ks.take (i + 1) ++ m :: ks.drop (i + 1)).map ptr)) := by exact R11.out.keep KA.out fun _ _ _ h => h
  have RI12 : Hid (Row W12 TT.pair TT.s L.ia L.icap (E.all r.items)) := by exact RI11.out.keep KA.out fun _ _ _ h => h
  have LC12 : Hid (Lcl W12 q p n x med) := by exact LC11.out.keep KA.out (fun _ _ h => h.elim) hqp
  have K12 : Hid (Keep (fp TT n r L) W5 W12) := by exact K11.out.trans KA.out fun _ _ _ h => h.elim
  clear hW12 KA B11 C11 R11 RI11 LC11 K11 H11 he zc c2 fz
  have zc := (blk1 LC12.out.2.2.1).1
  obtain ⟨c0, c1, c2, c3, fz⟩ := blk4 B12.out
  clear c0 c1 c3
  refine held_next ⟨zc, c2⟩ ?_
  refine wpList_append_any rfl _ _ _ rfl 181 1 8 Try.underlying250 ⟨by kernel_rfl, by kernel_rfl, by kernel_rfl⟩ L.ia r.items.length L.icap (E.all r.items) rfl RI12.out (E.all_len _) ⟨e0, 0, none⟩ 1 1 (E.enc hr.emp) ?_ (E.len _) ?_ (E.one _) (by omega) hicap (by simp only [maxLen]; omega) (by omega) ?_
  · rfl
  · exact new_cells N12.out
  intro ai' ic' W13 hG
  have GR := Lib.hid hG
  obtain ⟨ib, io, hia, _⟩ := hG.row.form (by rw [List.length_append, E.len]; have := E.pos; omega)
  subst hia
  obtain ⟨fc, hfc⟩ : ∃ f : Unit → Nat, f () = ic' := ⟨fun _ => ic', rfl⟩
  subst hfc
  have hic' : r.items.length + 1 ≤ fc () := hG.cap
  have hrow13 := Lib.hid hG.row
  have KG := Lib.hid hG.keep
  have hRW : Hid (∀ y o, rowFp L.ia (L.icap * TT.s) y o → y < q ∧ y ≠ n ∧ y ≠ L.cb ∧ y ≠ jb) := by
    intro y o hf
    refine ⟨XQ.out ▸ rowFp_lt HN.out.2.1 hf, fun e => ?_, fun e => ?_, fun e => ?_⟩
    · obtain ⟨arr, ha⟩ := RI12.out.block ⟨_, hf⟩
      exact blk_ne B12.out ha ty_ok.a e.symm
    · obtain ⟨arr, ha⟩ := RI12.out.block ⟨_, hf⟩
      exact blk_ne C12.out ha ty_ok.d.symm e.symm
    · obtain ⟨arr, ha⟩ := RI12.out.block ⟨_, hf⟩
      obtain ⟨arr2, ha2⟩ := R12.out.blk
      exact blk_ne ha2 ha ty_ok.f.symm e.symm
  have hGq : Hid (∀ y o, (∃ x z, L.ia = some ⟨x, z, none⟩ ∧ y = x ∧ z + r.items.length * 1 ≤ o ∧ o < z + L.icap * 1) → y < q ∧ y ≠ n ∧ y ≠ L.cb ∧ y ≠ jb) := by
    exact fun y o h => hRW.out y o (grow_row hicap h)
  have hibq : Hid (ib < q ∨ ib = e0 + 1) := by
    rcases hG.fp ib io ⟨ib, io, rfl, rfl, Nat.le_refl _, by omega⟩ with h | ⟨h, _⟩
    · exact .inl (hRW.out ib io h).1
    · exact .inr (by omega)
  have hfi : Hid (∀ y o, y < W5.heap.size → rowFp (some ⟨ib, io, none⟩) (fc () * TT.s) y o → rowFp L.ia (L.icap * TT.s) y o) := by
    intro y o hy hf
    rcases hG.fp y o hf with h | ⟨h, _⟩
    · exact h
    · have := HPp.out; omega
  have B13 : Hid (W13.heap[n]? = some (.cells #[.int .u64 r.iso, .int .i64 r.cnt, .slice L.ia r.items.length L.icap, .pointer (some ⟨L.cb, 0, none⟩)] 253 (0, 0))) := by exact blk_keep B12.out KG.out fun o e => (hGq.out n o e).2.1 rfl
  have C13 : Hid (W13.heap[L.cb]? = some (.cells #[.slice (some ⟨jb, jo, none⟩) (ks.length + 1) kc'] 254 (0, 0))) := by exact blk_keep C12.out KG.out fun o e => (hGq.out _ o e).2.2.1 rfl
  have R13 : Hid (Row W13 179 1 (some ⟨jb, jo, none⟩) kc' ((ks.take (i + 1) ++ m :: ks.drop (i + 1)).map ptr)) := by
    exact R12.out.keep' KG.out fun y o hf e => (hGq.out y o e).2.2.2 (rowFp_some hf).1
  have LC13 : Hid (Lcl W13 q p n x med) := by exact LC12.out.keep KG.out (fun y o e => .inl (hGq.out y o e).1) hqp
  have K13 : Hid (Keep (fp TT n r L) W5 W13) := by exact K12.out.trans KG.out fun y o _ h => .inr (.inl (grow_row hicap h))
  clear hG N12 B12 C12 R12 RI12 LC12 K12 zc c2 fz KG
  have zc := (blk1 LC13.out.2.2.1).1
  obtain ⟨c0, c1, c2, c3, fz⟩ := blk4 B13.out
  clear c0 c1 c3
  refine held_next ⟨zc, c2⟩ ?_
  simp only [Act.put]
  go_wp2_with fail
  refine held_world ?_
  intro W14 hW14
  refine held_end ?_ ?_
  · refine ⟨?_, ?_, ?_, trivial⟩
    · exact ⟨.pointer (some ⟨n, 0, none⟩), fun w' hS => by simp [execOp, hS.1, go_sem]⟩
    · exact ⟨.pointer (some ⟨n, 0, none⟩), fun w' hS => by simp [execOp, hS.1, go_sem]⟩
    · exact ⟨.slice L.ia r.items.length L.icap, fun w' hS => by simp [execOp, hS.2, go_sem]⟩
  obtain ⟨arr13, harr13⟩ := hrow13.out.blk
  have hin : ib ≠ n := (blk_ne B13.out harr13 ty_ok.a).symm
  have hicb : ib ≠ L.cb := blk_ne harr13 C13.out ty_ok.d
  have hij : ib ≠ jb := by
    obtain ⟨ar, ha⟩ := R13.out.blk
    exact blk_ne harr13 ha ty_ok.f
  have KW14 : Hid (Keep (fun y _ => y = n) W13 W14) := by subst hW14; refine (Keep.refl _ _).set _ _ _ ?_; exact fun _ => rfl
  have B14 : Hid (W14.heap[n]? = some (.cells #[.int .u64 r.iso, .int .i64 r.cnt, .slice (some ⟨ib, io, none⟩) (r.items.length + 1) (fc ()), .pointer (some ⟨L.cb, 0, none⟩)] 253 (0, 0))) := by
    subst hW14; exact blk_set _ B13.out
  have C14 : Hid (W14.heap[L.cb]? = some (.cells #[.slice (some ⟨jb, jo, none⟩) (ks.length + 1) kc'] 254 (0, 0))) := by exact blk_keep C13.out KW14.out fun o e => hncb e.symm
  have R14 : Hid (Row W14 179 1 (some ⟨jb, jo, none⟩) kc' ((ks.take (i + 1) ++ m :: ks.drop (i + 1)).map ptr)) := by exact R13.out.keep' KW14.out fun y o hf e => hjn ((rowFp_some hf).1.symm.trans e)
  have LC14 : Hid (Lcl W14 q p n x med) := by exact LC13.out.keep KW14.out (fun y o e => .inl (e ▸ hnw)) hqp
  have K14 : Hid (Keep (fp TT n r L) W5 W14) := by exact K13.out.trans KW14.out fun y o _ h => .inl h
  have RI14 : Hid (Row W14 TT.pair TT.s (some ⟨ib, io, none⟩) (fc ()) (E.all r.items ++ E.enc hr.emp)) := by
    exact hrow13.out.keep' KW14.out fun y o hf e => hin ((rowFp_some hf).1.symm.trans e)
  clear hW14 KW14 B13 C13 R13 LC13 K13 hrow13 harr13 arr13 zc c2 fz
  have hil : i ≤ r.items.length := HLOC.out.1
  obtain ⟨c0, c1, c2, c3, fz⟩ := blk4 B14.out
  have zc := (blk1 LC14.out.2.2.1).1
  have hcn3 : ¬ (fc ()) = i := by omega
  have hxs : Hid ((E.all r.items ++ E.enc hr.emp).length = (r.items.length + 1) * 1) := by
    have : (E.all r.items ++ E.enc hr.emp).length = (r.items.length + 1) * 1 := by rw [List.length_append, E.all_len, E.len, Nat.add_mul, Nat.one_mul]; rfl
    exact this
  have hone : Hid (∀ v ∈ E.all r.items ++ E.enc hr.emp, v.oneCell' = true) := by
    intro v hv
    rcases List.mem_append.1 hv with h | h
    · unfold Enc.all at h
      obtain ⟨y, _, hy⟩ := List.mem_flatMap.1 h
      exact E.one y v hy
    · exact E.one _ v h
  have R14d : Hid (Row W14.drew 181 1 (some ⟨ib, io, none⟩) (fc ()) (E.all r.items ++ E.enc hr.emp)) := by exact RI14.out.keep (Keep.drew Nothing _) fun _ _ _ h => h
  clear c0 c1 c3
  go_wp2_with fail
  refine wp_calm (by kernel_rfl) (by kernel_rfl) rfl ?_
  simp only [List.flatMap_cons, List.flatMap_nil, checks, chk, nilLit, List.cons_append, List.nil_append, List.append_nil, Try.underlying3]
  go_wp2_with fail
  case' inl =>
    obtain ⟨rv, W15, hr7, hk7, hrow7⟩ := run_copyRoom (P := Try.prog) W14.drew 250 3 181 1 Try.underlying250 (by kernel_rfl) R14d.out hxs.out hil (some ⟨ib, io, none⟩) (some ⟨ib, io + i, none⟩) (fun h => absurd h (by omega)) (fun h => absurd h (by omega)) 0 1 hone.out
    simp only [Nat.add_sub_add_right] at hr7
    rw [hr7]
  case' inr =>
    obtain ⟨rv, W15, hr7, hk7, hrow7⟩ := run_copyRoom (P := Try.prog) W14.drew 250 3 181 1 Try.underlying250 (by kernel_rfl) R14d.out hxs.out hil (some ⟨ib, io + (i + 1), none⟩) (some ⟨ib, io + i, none⟩) (fun _ => by simp) (fun _ => by simp) (fc () - (i + 1)) (fc () - i) hone.out
    simp only [Nat.add_sub_add_right] at hr7
    rw [hr7]
  all_goals
    simp only [Result.andThen_ok]
    replace hrow7 := Lib.hid hrow7
    have KJ15 : Hid (Keep (fun y _ => y = ib) W14 W15) := by exact ((Keep.refl _ _).dr).trans (hk7.mono fun y o _ e => e.1 : Keep (fun y _ => y = ib) W14.drew W15) fun _ _ _ h => h
    have K15 : Hid (Keep (fp TT n r L) W5 W15) := by
      refine K14.out.dr.trans hk7 ?_
      rintro y o hy ⟨rfl, h1, h2⟩
      exact .inr (.inl (hfi.out y o hy ⟨y, io, rfl, rfl, by omega, by simp only [TT, E] at *; omega⟩))
    clear hr7 zc c2 fz hk7
    have B15 : Hid (W15.heap[n]? = some (.cells #[.int .u64 r.iso, .int .i64 r.cnt, .slice (some ⟨ib, io, none⟩) (r.items.length + 1) (fc ()), .pointer (some ⟨L.cb, 0, none⟩)] 253 (0, 0))) := by exact blk_keep B14.out KJ15.out fun o e => hin e.symm
    have C15 : Hid (W15.heap[L.cb]? = some (.cells #[.slice (some ⟨jb, jo, none⟩) (ks.length + 1) kc'] 254 (0, 0))) := by exact blk_keep C14.out KJ15.out fun o e => hicb e.symm
    have R15 : Hid (Row W15 179 1 (some ⟨jb, jo, none⟩) kc' ((ks.take (i + 1) ++ m :: ks.drop (i + 1)).map ptr)) := by exact R14.out.keep' KJ15.out fun y o hf e => hij (e.symm.trans (rowFp_some hf).1)
    have LC15 : Hid (Lcl W15 q p n x med) := by exact LC14.out.keep KJ15.out (fun y o e => by have := hibq.out; omega) hqp
    have hxl : Hid ((E.all r.items ++ E.enc hr.emp).length = (r.items.length + 1) * 1) := by exact hxs.out
    clear K14 B14 C14 R14 LC14 RI14 R14d hxs KJ15
    obtain ⟨c0, c1, c2, c3, fz⟩ := blk4 B15.out
    have zc := (blk1 LC15.out.2.2.1).1
    have xc : W15.cell? ⟨p, 0, none⟩ = some (.int .i64 (ky med)) := by have := LC15.out.2.2.2; simp only [World.cell?, this]; rfl
    have fz2 := hrow7.out.frozen
    obtain ⟨ov, hov⟩ := hrow7.out.there (i := i) (by omega)
    clear c0 c1 c3
    go_wp2_with fail
    rw [HQ_normal]
    go_wp2_with fail
    refine wp_calm (by kernel_rfl) (by kernel_rfl) rfl ?_
    simp only [List.flatMap_cons, List.flatMap_nil, checks, chk, nilLit, List.cons_append, List.nil_append, List.append_nil]
    go_wp2_with fail
    rw [HQ_normal]
    go_upto_region 26 with (fail)
    refine wp_world ?_
    intro W16 hW16
    have RI16 : Hid (Row W16 TT.pair TT.s (some ⟨ib, io, none⟩) (fc ()) (E.all (r.items.take i ++ med :: r.items.drop i))) := by
      have h1 := hrow7.out.setCells (E.enc med) (k := i * 1) (by
        have := hxl.out
        rw [E.len]
        simp only [List.length_append, List.length_take, List.length_drop, E.len, E.all_len] at *
        simp only [E] at *
        omega)
      have h2 := ins_cells E r.items med (E.enc hr.emp) hil (E.len _)
      simp only [show E.s = 1 from rfl] at h2
      simp only [Nat.mul_one] at h1 h2
      rw [← h2]
      subst hW16
      exact h1.keep (Keep.drew Nothing _) fun _ _ _ h => h
    have KJ16 : Hid (Keep (fun y _ => y = ib) W15 W16) := by
      subst hW16; refine ((Keep.refl _ _).set _ _ _ ?_).dr; exact fun _ => rfl
    have K16 : Hid (Keep (fp TT n r L) W5 W16) := by
      have hS : ∀ o, io + i ≤ o → o < io + (i + 1) → ib < W5.heap.size → fp TT n r L ib o := fun o h1 h2 hy => .inr (.inl (hfi.out ib o hy ⟨ib, io, rfl, rfl, by omega, by simp only [TT, E] at *; omega⟩))
      subst hW16
      exact (K15.out.set _ _ _ (hS _ (by omega) (by omega))).dr
    have B16 : Hid (W16.heap[n]? = some (.cells #[.int .u64 r.iso, .int .i64 r.cnt, .slice (some ⟨ib, io, none⟩) (r.items.length + 1) (fc ()), .pointer (some ⟨L.cb, 0, none⟩)] 253 (0, 0))) := by exact blk_keep B15.out KJ16.out fun o e => hin e.symm
    have C16 : Hid (W16.heap[L.cb]? = some (.cells #[.slice (some ⟨jb, jo, none⟩) (ks.length + 1) kc'] 254 (0, 0))) := by exact blk_keep C15.out KJ16.out fun o e => hicb e.symm
    have R16 : Hid (Row W16 179 1 (some ⟨jb, jo, none⟩) kc' ((ks.take (i + 1) ++ m :: ks.drop (i + 1)).map ptr)) := by exact R15.out.keep' KJ16.out fun y o hf e => hij (e.symm.trans (rowFp_some hf).1)
    have LC16 : Hid (Lcl W16 q p n x med) := by exact LC15.out.keep KJ16.out (fun y o e => by have := hibq.out; omega) hqp
    clear hW16 KJ16 K15 B15 C15 R15 LC15 hrow7 zc c2 fz xc fz2 hov
    have H16 : Hid (Hdr W16 b hr) := by exact blk_keep HH5.out K16.out fun o hf => hdr_apart HH5.out HN5.out hf
    have hlk : (ks.take (i + 1) ++ m :: ks.drop (i + 1)).length = ks.length + 1 := by simp; omega
    have hli : (r.items.take i ++ med :: r.items.drop i).length = r.items.length + 1 := by simp; omega
    have MID : Hid (Mid W5 W16 n r L ks i m med ⟨some ⟨ib, io, none⟩, fc (), L.cb, some ⟨jb, jo, none⟩, kc'⟩) := by
      refine ⟨K16.out, ⟨?_, RI16.out, ?_, ?_⟩, ?_⟩
      · simp only [grown, hli]; exact B16.out
      · simp only [grown, hli]; omega
      · intro ks2 hk2
        cases hk2
        simp only [hlk]
        exact ⟨C16.out, R16.out, by omega⟩
      · rintro y o hy (hf | hf | ⟨_, hf | hf⟩)
        · exact .inl hf
        · exact .inr (.inl (hfi.out y o hy hf))
        · exact .inr (.inr ⟨by simp [HKS.out], .inl hf⟩)
        · exact .inr (.inr ⟨by simp [HKS.out], .inr (hfj.out y o hy (by rw [Nat.mul_one]; exact hf))⟩)
    have zc := (blk1 LC16.out.2.2.1).1
    have xc : W16.cell? ⟨q, 0, none⟩ = some (.int .i64 (ky x)) := by have := LC16.out.1; simp only [World.cell?, this]; rfl
    have hag := HAG.out W4 m med W5 W16 _ (q + 2) K4.out HG5.out MID.out (by omega) zc H16.out
    clear B16 C16 R16 RI16
    go_wp2_with fail
    refine hag.mono ?_
    rintro e W17 ⟨hR, ⟨y, rep, sp, rfl⟩, hK17⟩
    have Y17 : Hid (W17.heap[q + 1]? = some (.cells #[] 124 (0, 0))) := by exact blk_keep LC16.out.2.1 hK17 fun o e => by have := XQ.out; omega
    replace hR := Lib.hid hR
    clear hag hK17 zc xc
    unfold vv
    go_wp2_with fail
    refine bodyPost_ret (results_cell_tmp2_row rfl _ _ (q + 1) 124 #[] (0, 0) _ rfl Y17.out Try.underlying124 rfl (by kernel_rfl)) rfl ?_
    exact ⟨W4, m, med, W5, W16, _, W17, K4.out, HG5.out, MID.out, hR.out, Keep.refl _ _⟩
end Go.Proofs.Ytckplcmieelmpaa.S

namespace Go.Wb
open Go Go.RowKit
variable {α : Type} {T : Ty} {E : Enc α}

theorem Mem.keepS {w W : World} {H : Store α} {L : Nat → Lay} {S : Nat → Nat → Prop} (hm : Mem T E w H L) (hk : Keep S w W) (hS : ∀ n r b o, H n = some r → fp T n r (L n) b o → ¬ S b o) : Mem T E W H L :=
  ⟨fun n r hr => (hm.at_ n r hr).keep hk fun b o hf => hS n r b o hr hf, hm.sep⟩

theorem Step.pre {w W w' : World} {H H' : Store α} {L L' : Nat → Lay} {F F' : List Nat} (hk : Keep (fun _ _ => False) w W) (h : Step T E W H L F w' H' L' F') : Step T E w H L F w' H' L' F' :=
  ⟨h.mem, hk.mono (fun _ _ _ h => h.elim) |>.trans h.keep fun _ _ _ h => h, h.out, fun m hm => (h.new m hm).imp id fun h1 => Nat.le_trans hk.size h1, fun b o hb hf => h.fp b o (Nat.lt_of_lt_of_le hb hk.size) hf, h.only⟩

/-- Behind a step one of its nodes is laid anew; blocks X that are no nodes' and weren't there at the begin may turn, too. -/
theorem Step.then {w W' w' : World} {H H' : Store α} {L L' : Nat → Lay} {F F1 : List Nat} (hm0 : Mem T E w H L) (h : Step T E w H L F W' H' L' F1) {n : Nat} {r r' : NRec α} {l' : Lay} (hn : n ∈ F1) (hr : H' n = some r) {X : Nat → Nat → Prop}
    (hk : Keep (fun b o => Wb.fp T n r (L' n) b o ∨ X b o) W' w') (hX : ∀ b o, X b o → w.heap.size ≤ b) (hXd : ∀ m q, H' m = some q → ∀ b o, Wb.fp T m q (L' m) b o → ¬ X b o)
    (hat : NodeAt T E w' n r' l') (hfp : ∀ b o, b < W'.heap.size → Wb.fp T n r' l' b o → Wb.fp T n r (L' n) b o) : Step T E w H L F w' (upd H' n (some r')) (upd L' n l') F1 := by
  have far : ∀ m q, m ≠ n → H' m = some q → ∀ b o, Wb.fp T n r' l' b o → Wb.fp T m q (L' m) b o → False := fun m q hne hq b o hf1 hf2 => by
    have hb := (h.mem.at_ m q hq).lt hf2
    exact h.mem.sep n m r q (fun e => hne e.symm) hr hq b o (hfp b o hb hf1) hf2
  refine ⟨⟨fun m q hq => ?_, fun a b p q hne ha hb x o hf1 hf2 => ?_⟩, ?_, fun m hmF q hq => ?_, h.new, fun b o hb hf => ?_, fun m q hq => ?_⟩
  · by_cases e : m = n
    · subst e
      rw [upd_same] at hq ⊢
      cases hq
      exact hat
    · rw [upd_ne _ _ e] at hq ⊢
      refine (h.mem.at_ m q hq).keep hk fun b o hf hS => ?_
      rcases hS with hS | hS
      · exact h.mem.sep n m r q (fun e' => e e'.symm) hr hq b o hS hf
      · exact hXd m q hq b o hf hS
  · by_cases ea : a = n <;> by_cases eb : b = n
    · exact hne (ea.trans eb.symm)
    · subst ea
      rw [upd_same] at ha hf1
      rw [upd_ne _ _ eb] at hb hf2
      cases ha
      exact far b q eb hb x o hf1 hf2
    · subst eb
      rw [upd_same] at hb hf2
      rw [upd_ne _ _ ea] at ha hf1
      cases hb
      exact far a p ea ha x o hf2 hf1
    · rw [upd_ne _ _ ea] at ha hf1
      rw [upd_ne _ _ eb] at hb hf2
      exact h.mem.sep a b p q hne ha hb x o hf1 hf2
  · refine h.keep.trans hk fun b o hb hS => ?_
    rcases hS with hS | hS
    · exact h.fp b o hb ⟨n, r, hn, hr, hS⟩
    · have := hX b o hS; omega
  · obtain ⟨h1, h2⟩ := h.out m hmF q hq
    have e : m ≠ n := by
      rintro rfl
      rcases h.new m hn with h3 | h3
      · exact hmF h3
      · have := hm0.lt hq; omega
    exact ⟨by rw [upd_ne _ _ e]; exact h1, by rw [upd_ne _ _ e]; exact h2⟩
  · obtain ⟨m, q, hmF, hq, hf⟩ := hf
    have hbW : b < W'.heap.size := Nat.lt_of_lt_of_le hb h.keep.size
    by_cases e : m = n
    · subst e
      rw [upd_same] at hq hf
      cases hq
      exact h.fp b o hb ⟨m, r, hn, hr, hfp b o hbW hf⟩
    · rw [upd_ne _ _ e] at hq hf
      exact h.fp b o hb ⟨m, q, hmF, hq, hf⟩
  · by_cases e : m = n
    · exact .inl (e ▸ hn)
    · rw [upd_ne _ _ e] at hq ⊢
      exact h.only m q hq

/-- What a step's nodes take is old or new: none of what came before the step began. -/
theorem Step.clear {w W w' : World} {H H' : Store α} {L L' : Nat → Lay} {F F' : List Nat} (hm0 : Mem T E w H L) (_hk : Keep (fun _ _ => False) w W) (h : Step T E W H L F w' H' L' F') :
    ∀ m q, H' m = some q → ∀ b o, Wb.fp T m q (L' m) b o → ¬ (w.heap.size ≤ b ∧ b < W.heap.size) := fun m q hq b o hf ⟨h1, h2⟩ => by
  rcases h.only m q hq with hF | ⟨_, h4, h5⟩
  · obtain ⟨k, p, _, hp, hfp⟩ := h.fp b o h2 ⟨m, q, hF, hq, hf⟩
    have := (hm0.at_ k p hp).lt hfp
    omega
  · rw [h5] at hf
    have := (hm0.at_ m q h4).lt hf
    omega

/-- A node becomes two. -/
theorem Step.two {w w' : World} {H : Store α} {L : Nat → Lay} (hm : Mem T E w H L) {n m : Nat} {r r1 r2 : NRec α} {l1 l2 : Lay} (hn : H n = some r) (hmw : w.heap.size ≤ m)
    (hk : Keep (Wb.fp T n r (L n)) w w') (h1 : NodeAt T E w' n r1 l1) (h2 : NodeAt T E w' m r2 l2)
    (f1 : ∀ b o, Wb.fp T n r1 l1 b o → Wb.fp T n r (L n) b o) (f2 : ∀ b o, Wb.fp T m r2 l2 b o → Wb.fp T n r (L n) b o ∨ w.heap.size ≤ b) (f3 : ∀ b o, Wb.fp T n r1 l1 b o → Wb.fp T m r2 l2 b o → False) :
    Step T E w H L [n] w' (upd (upd H n (some r1)) m (some r2)) (upd (upd L n l1) m l2) [n, m] := by
  have hnw := hm.lt hn
  have hne : n ≠ m := by omega
  have hmn : H m = none := by
    cases h : H m with
    | none => rfl
    | some q => have := hm.lt h; omega
  have en : upd (upd H n (some r1)) m (some r2) n = some r1 := by rw [upd_ne _ _ hne, upd_same]
  have el : upd (upd L n l1) m l2 n = l1 := by rw [upd_ne _ _ hne, upd_same]
  refine Step.mk' hm (hk.mono fun b o _ hf => ⟨n, r, by simp, hn, hf⟩) (fun k e1 e2 => ?_) (fun k e1 e2 => ?_) (fun k e1 e2 => ?_) (fun k e => ?_) (fun k q e hq => ?_) (fun k q b o e hq hb hf => ?_) (fun a b p q ea eb hab hp hq x o g1 g2 => ?_)
  · simp at e1 e2
    exact ⟨by rw [upd_ne _ _ e2.2, upd_ne _ _ e1], by rw [upd_ne _ _ e2.2, upd_ne _ _ e1]⟩
  · simp at e1 e2
    rcases e1 with rfl | rfl
    · exact absurd rfl e2
    · exact hmn
  · simp at e1 e2
    exact absurd e1 e2.1
  · simp at e
    rcases e with rfl | rfl
    · exact .inl (by simp)
    · exact .inr hmw
  · simp at e
    rcases e with rfl | rfl
    · rw [en] at hq; cases hq; rw [el]; exact h1
    · rw [upd_same] at hq ⊢; cases hq; exact h2
  · simp at e
    rcases e with rfl | rfl
    · rw [en] at hq; cases hq; rw [el] at hf; exact ⟨k, r, by simp, hn, f1 b o hf⟩
    · rw [upd_same] at hq hf
      cases hq
      rcases f2 b o hf with h | h
      · exact ⟨n, r, by simp, hn, h⟩
      · omega
  · simp at ea eb
    rcases ea with rfl | rfl <;> rcases eb with rfl | rfl
    · exact hab rfl
    · rw [en] at hp; rw [upd_same] at hq g2; rw [el] at g1; cases hp; cases hq; exact f3 x o g1 g2
    · rw [en] at hq; rw [upd_same] at hp g1; rw [el] at g2; cases hp; cases hq; exact f3 x o g2 g1
    · exact hab rfl
end Go.Wb

namespace Go.Proofs.Ytckplcmieelmpaa.S
open Go.RowKit Go.Wb

/-- What is given where an item is set below a node. -/
structure SetPre (w : World) (b : Nat) (hr : HRec) (pb po n : Nat) (H : Store It) (L : Nat → Lay) (h : Nat) (t : Tr It) (F : List Nat) (mn mx : Nat) : Prop where
  hdr : Hdr w b hr
  cell : w.cell? ⟨pb, po, none⟩ = some (ptr n)
  mem : Mem TT E w H L
  rep : Rep H hr.iso h n t F
  nd : F.Nodup
  wf : wfr 0 mn mx h t
  srt : Sorted ilt (flat h t)
  hmx : hr.mx = (mx : Int)
  h3 : 3 ≤ mx
  hb : mx ≤ 1000000000000
  hmn : mn ≤ mx / 2 ∧ mn + mx / 2 + 1 ≤ mx
  big : (flat h t).length ≤ 3000000000000000000

/-- Setting asks for a split. -/
def Asks (mx : Nat) : Nat → Tr It → Ky → Prop
  | 0, t, k => t.its.length = mx ∧ ∃ i, Loc t.its k i false
  | h + 1, t, k => t.its.length = mx ∧ ∃ i c, Loc t.its k i false ∧ t.ks[i]? = some c ∧ Asks mx h c k
theorem Asks.full {mx h : Nat} {t : Tr It} {k : Ky} (a : Asks mx h t k) : t.its.length = mx := by
  cases h with
  | zero => exact a.1
  | succ h => exact a.1
theorem Asks.loc {mx h : Nat} {t : Tr It} {k : Ky} (a : Asks mx h t k) : ∃ i, Loc t.its k i false := by
  cases h with
  | zero => exact a.2
  | succ h => obtain ⟨_, i, c, h1, _⟩ := a; exact ⟨i, h1⟩

/-- What setting leaves. -/
def SetPost (w : World) (H : Store It) (L : Nat → Lay) (F : List Nat) (iso : Int) (mn mx h n : Nat) (t : Tr It) (x ep : It) (e : Ending) (w' : World) : Prop :=
  (Asks mx h t (ky x) ∧ AskPost w ep e w') ∨
  ¬ Asks mx h t (ky x) ∧ ∃ p t' F' H' L', e = .returned (.tuple #[vv (Option.getD p ep), .bool p.isSome, .bool false]) ∧ Step TT E w H L F w' H' L' F' ∧ Rep H' iso h n t' F' ∧ F'.Nodup ∧ wfr t.its.length mn mx h t' ∧ Put ilt (flat h t) x (flat h t') p

theorem loc_found {its : List It} {k : Ky} {i : Nat} (hs : Sorted ilt its) (h : Loc its k i true) : ∃ A y B, its = A ++ y :: B ∧ A.length = i ∧ its[i]? = some y ∧ klt (ky y) k = false ∧ klt k (ky y) = false ∧
    (∀ a ∈ A, klt (ky a) k = true) ∧ ∀ b ∈ B, klt k (ky b) = true := by
  obtain ⟨_, y, hy, h1, h2⟩ := h
  obtain ⟨hil, _⟩ := List.getElem?_eq_some_iff.1 hy
  obtain ⟨A, y', B, rfl, rfl, hy'⟩ := split_at its i hil
  obtain rfl : y = y' := by rw [hy] at hy'; exact Option.some.inj hy'
  obtain ⟨_, hB, hAB⟩ := Sorted.of_append hs
  refine ⟨A, y, B, rfl, rfl, hy, h2, h1, fun a ha => ?_, fun b hb => ?_⟩
  · exact klt_of_eq h2 h1 (hAB a ha y (by simp))
  · exact klt_of_eq' h2 h1 ((List.pairwise_cons.1 hB).1 b hb)

theorem loc_none {its : List It} {k : Ky} {i : Nat} (h : Loc its k i false) : (∀ a ∈ its.take i, klt (ky a) k = true) ∧ ∀ b ∈ its.drop i, klt k (ky b) = true := by
  obtain ⟨hi, h1, h2⟩ := h
  refine ⟨fun a ha => ?_, fun b hb => ?_⟩
  · obtain ⟨j, hj⟩ := List.mem_iff_getElem?.1 ha
    rw [List.getElem?_take] at hj
    split at hj
    · exact h1 j a ‹_› hj
    · cases hj
  · obtain ⟨j, hj⟩ := List.mem_iff_getElem?.1 hb
    rw [List.getElem?_drop] at hj
    exact h2 (i + j) b (by omega) hj

/-- Setting in a leaf. -/
theorem set_zero {w : World} {b : Nat} {hr : HRec} {pb po n : Nat} {H : Store It} {L : Nat → Lay} {t : Tr It} {F : List Nat} {mn mx : Nat} (P : SetPre w b hr pb po n H L 0 t F mn mx) (x : It) :
    Calls Try.prog 196 #[ptr b, .pointer (some ⟨pb, po, none⟩), pv x] w (SetPost w H L F hr.iso mn mx 0 n t x hr.emp) := by
  obtain ⟨hdr, cell, mem, rep, nd, wf, srt, hmx, h3, hb, hmn, big⟩ := P
  obtain ⟨r, hr1, hiso, hits, hks0, hkn, hcnt, rfl⟩ := rep
  have hat := mem.at_ n r hr1
  have hwl := wf.2.1
  obtain ⟨i, f, hloc⟩ := Loc.ex (ky x) t.its srt
  rw [← hits] at hloc
  have hs : Sorted ilt r.items := by rw [hits]; exact srt
  have hlen : r.items.length ≤ 1000000000000 := by rw [hits]; omega
  obtain ⟨its, ks⟩ := t
  simp only [Tr.its, Tr.ks] at *
  subst hits
  subst hks0
  cases f with
  | true =>
    obtain ⟨A, y, B, hits2, hA, hy, h1, h2, hlA, hlB⟩ := loc_found hs hloc
    refine (set_found hdr cell hat hiso hlen hs hloc hy).mono ?_
    rintro e w' ⟨rfl, hk, hat'⟩
    have hset : r.items.set i x = A ++ x :: B := by rw [hits2, ← hA]; simp
    have st := Step.one mem hr1 hk hat' fun c o _ hf => hf
    refine .inr ⟨fun a => (by obtain ⟨j, hj⟩ := a.loc; cases (Loc.uniq hs hloc hj).2), some y, .node (r.items.set i x) [], [n], _, _, rfl, st, ⟨_, upd_same _ _ _, hiso, rfl, rfl, hkn, ?_, rfl⟩, by simp, ⟨by simp [Tr.its], by simp [Tr.its]; omega, rfl⟩, ?_⟩
    · simp only [flat, Tr.its, List.length_set] at hcnt ⊢; exact hcnt
    · exact ⟨A, B, hits2, hset, h1, h2, hlA, hlB⟩
  | false =>
    obtain ⟨hA, hB⟩ := loc_none hloc
    by_cases hfull : hr.mx = r.items.length
    · refine (set_full hdr cell hat hiso hlen hs hloc hkn hfull).mono ?_
      rintro e w' ⟨rfl, hk⟩
      exact .inl ⟨⟨by simp only [Tr.its]; omega, i, hloc⟩, ⟨rfl, hk⟩⟩
    · simp only [flat, Tr.its] at hcnt big
      refine (set_leaf hdr cell hat hiso hlen hs hloc hkn hfull (by omega) (by omega)).mono ?_
      rintro e w' ⟨rfl, hk, L', hat', hfp⟩
      have st := Step.one mem hr1 hk hat' hfp
      have hil := hloc.1
      refine .inr ⟨fun a => hfull (by have := a.full; simp only [Tr.its] at this; omega), none, .node (r.items.take i ++ x :: r.items.drop i) [], [n], _, _, rfl, st, ⟨_, upd_same _ _ _, hiso, rfl, rfl, hkn, ?_, rfl⟩, by simp, ⟨?_, ?_, rfl⟩, ?_⟩
      · simp only [flat, Tr.its, List.length_append, List.length_cons, List.length_take, List.length_drop]; omega
      · simp only [Tr.its, List.length_append, List.length_cons, List.length_take, List.length_drop]; omega
      · simp only [Tr.its, List.length_append, List.length_cons, List.length_take, List.length_drop]; omega
      · exact ⟨r.items.take i, r.items.drop i, by simp [flat, Tr.its], rfl, hA, hB⟩
end Go.Proofs.Ytckplcmieelmpaa.S

namespace Go.Wb
variable {α : Type}

/-- One item of an inner node: what is around it. -/
theorem flat_item {h : Nat} {A B : List α} {y : α} {ks : List (Tr α)} (hk : ks.length = (A ++ y :: B).length + 1) : ∃ C D, ∀ z, flat (h + 1) (.node (A ++ z :: B) ks) = C ++ z :: D := by
  simp only [List.length_append, List.length_cons] at hk
  obtain ⟨K1, k, K2, rfl, hK1, _⟩ := split_at ks A.length (by omega)
  simp only [List.length_append, List.length_cons] at hk
  cases K2 with
  | nil => simp at hk; omega
  | cons k' K2 =>
    refine ⟨wl (K1.map (flat h)) A ++ flat h k, flat h k' ++ wr B (K2.map (flat h)), fun z => ?_⟩
    simp only [flat, Tr.its, Tr.ks, List.map_append, List.map_cons]
    rw [wl_wr _ _ _ _ _ (by simpa using hK1)]
    simp [wr]

/-- A child's length is at most that of the whole. -/
theorem flat_child_le {h : Nat} {I1 I2 : List α} {K1 K2 : List (Tr α)} {k : Tr α} (h1 : K1.length = I1.length) : (flat h k).length ≤ (flat (h + 1) (.node (I1 ++ I2) (K1 ++ k :: K2))).length := by
  simp only [flat, Tr.its, Tr.ks, List.map_append, List.map_cons]
  rw [wl_wr _ _ _ _ _ (by simpa using h1)]
  simp only [List.length_append]
  omega

/-- The whole's length by that of the children. -/
theorem wr_len (its : List α) (ks : List (List α)) (h : ks.length = its.length) : (wr its ks).length = its.length + (ks.map List.length).sum := by
  induction its generalizing ks with
  | nil => cases ks with
    | nil => rfl
    | cons _ _ => simp at h
  | cons x its ih =>
    cases ks with
    | nil => simp at h
    | cons k ks =>
      simp only [wr, List.cons_append, List.length_cons, List.length_append, List.map_cons, List.sum_cons]
      rw [ih ks (by simpa using h)]
      omega
theorem weave_len (its : List α) (ks : List (List α)) (h : ks.length = its.length + 1) : (weave ks its).length = its.length + (ks.map List.length).sum := by
  cases ks with
  | nil => simp at h
  | cons k ks =>
    simp only [weave, List.length_append, List.map_cons, List.sum_cons]
    rw [wr_len its ks (by simpa using h)]
    omega
theorem flat_len {h : Nat} {its : List α} {ks : List (Tr α)} (hk : ks.length = its.length + 1) : (flat (h + 1) (.node its ks)).length = its.length + (ks.map fun k => (flat h k).length).sum := by
  simp only [flat, Tr.its, Tr.ks]
  rw [weave_len _ _ (by simpa using hk), List.map_map]
  rfl

theorem Put.sorted {lt : α → α → Bool} {l l' : List α} {x : α} {p : Option α} (h : Put lt l x l' p) (hs : Sorted lt l) : Sorted lt l' := by
  cases p with
  | none =>
    obtain ⟨A, B, rfl, rfl, hA, hB⟩ := h
    obtain ⟨s1, s2, s3⟩ := Sorted.of_append hs
    refine List.pairwise_append.2 ⟨s1, List.pairwise_cons.2 ⟨hB, s2⟩, fun a ha b hb => ?_⟩
    rcases List.mem_cons.1 hb with rfl | hb
    · exact hA a ha
    · exact s3 a ha b hb
  | some p =>
    obtain ⟨A, B, rfl, rfl, h1, h2, hA, hB⟩ := h
    obtain ⟨s1, s2, s3⟩ := Sorted.of_append hs
    refine List.pairwise_append.2 ⟨s1, List.pairwise_cons.2 ⟨hB, (List.pairwise_cons.1 s2).2⟩, fun a ha b hb => ?_⟩
    rcases List.mem_cons.1 hb with rfl | hb
    · exact hA a ha
    · exact s3 a ha b (by simp [hb])
end Go.Wb

namespace Go.Proofs.Ytckplcmieelmpaa.S
open Go.RowKit Go.Wb

theorem rep_outside {H : Store It} {c : Int} {h n : Nat} {ns : List Nat} {ks : List (Tr It)} {F : List Nat} {r : NRec It} (hr : RepL (Rep H c h) ns ks F) (hn : n ∉ F) : RepL (Rep (upd H n (some r)) c h) ns ks F :=
  hr.imp fun _ _ _ hG hR => hR.congr fun m hm => upd_ne _ _ fun e => hn (e ▸ hG m hm)

/-- Setting an item that an inner node has. -/
theorem set_succ_found {w : World} {b : Nat} {hr : HRec} {pb po n : Nat} {H : Store It} {L : Nat → Lay} {h : Nat} {t : Tr It} {F : List Nat} {mn mx : Nat} (P : SetPre w b hr pb po n H L (h + 1) t F mn mx) (x : It) {i : Nat} (hloc : Loc t.its (ky x) i true) :
    Calls Try.prog 196 #[ptr b, .pointer (some ⟨pb, po, none⟩), pv x] w (SetPost w H L F hr.iso mn mx (h + 1) n t x hr.emp) := by
  obtain ⟨hdr, cell, mem, rep, nd, wf, srt, hmx, h3, hb, hmn, big⟩ := P
  obtain ⟨r, ns, F', hr1, hiso, hits, hkn, hcnt, hrl, rfl⟩ := rep
  have hat := mem.at_ n r hr1
  obtain ⟨w1, w2, w3, w4⟩ := id wf
  have hs : Sorted ilt r.items := by rw [hits]; exact own_sorted wf srt
  have hlen : r.items.length ≤ 1000000000000 := by rw [hits]; omega
  obtain ⟨its, ks⟩ := t
  simp only [Tr.its, Tr.ks] at *
  subst hits
  obtain ⟨A, y, B, hits2, hA, hy, h1, h2, hlA, hlB⟩ := loc_found hs hloc
  refine (set_found hdr cell hat hiso hlen hs hloc hy).mono ?_
  rintro e w' ⟨rfl, hk, hat'⟩
  have hset : r.items.set i x = A ++ x :: B := by rw [hits2, ← hA]; simp
  have st := Step.one mem hr1 hk hat' fun c o _ hf => hf
  have hnF : n ∉ F' := (List.nodup_cons.1 nd).1
  have st2 := st.frame [] F' (fun m hm => by
    simp only [List.nil_append] at hm
    exact ⟨by simp; exact fun e => hnF (e ▸ hm), RepL.dom (fun _ _ _ h => Rep.dom h) hrl m hm⟩)
  obtain ⟨C, D, hCD⟩ := flat_item (h := h) (A := A) (B := B) (y := y) (ks := ks) (by rw [← hits2]; exact w3)
  have hf0 : flat (h + 1) (.node r.items ks) = C ++ y :: D := by rw [hits2]; exact hCD y
  have hf1 : flat (h + 1) (.node (r.items.set i x) ks) = C ++ x :: D := by rw [hset]; exact hCD x
  rw [hf0] at srt
  obtain ⟨_, sD, sCD⟩ := Sorted.of_append srt
  refine .inr ⟨fun a => (by obtain ⟨j, hj⟩ := a.loc; cases (Loc.uniq hs hloc hj).2), some y, .node (r.items.set i x) ks, n :: F', _, _, rfl, st2, ⟨_, ns, F', upd_same _ _ _, hiso, rfl, hkn, ?_, rep_outside hrl hnF, rfl⟩, nd, ⟨by simp [Tr.its], by simp [Tr.its]; omega, by simp [Tr.its, Tr.ks]; omega, w4⟩, ?_⟩
  · rw [hf1]; rw [hf0] at hcnt; simpa using hcnt
  · refine ⟨C, D, hf0, hf1, h1, h2, fun a ha => ?_, fun d hd => ?_⟩
    · exact klt_of_eq h1 h2 (sCD a ha y (by simp))
    · exact klt_of_eq' h1 h2 ((List.pairwise_cons.1 sD).1 d hd)
end Go.Proofs.Ytckplcmieelmpaa.S

namespace Go.Proofs.Ytckplcmieelmpaa.S
open Go.RowKit Go.Wb

theorem SetPre.bnd {w : World} {b : Nat} {hr : HRec} {pb po n : Nat} {H : Store It} {L : Nat → Lay} {h : Nat} {t : Tr It} {F : List Nat} {mn mx : Nat} (P : SetPre w b hr pb po n H L h t F mn mx) : ∀ m, m ∈ F → m < w.heap.size := fun m hm => by
  obtain ⟨r, hr⟩ := P.rep.dom m hm
  exact P.mem.lt hr

/-- What is given for the child to which a key belongs. -/
theorem SetPre.child {w : World} {b : Nat} {hr : HRec} {pb po n : Nat} {H : Store It} {L : Nat → Lay} {h : Nat} {t : Tr It} {F : List Nat} {mn mx : Nat} (P : SetPre w b hr pb po n H L (h + 1) t F mn mx) {r : NRec It} (hr1 : H n = some r) {ns : List Nat} (hkn : r.kids = some ns)
    {kb ko : Nat} (hka : (L n).ka = some ⟨kb, ko, none⟩) {i c : Nat} (hc : ns[i]? = some c) {k : Tr It} {Fk : List Nat} (hrep : Rep H hr.iso h c k Fk) (nd : Fk.Nodup) (wf : wfr mn mn mx h k) (srt : Sorted ilt (flat h k)) (big : (flat h k).length ≤ 3000000000000000000)
    {W : World} (hk : Keep Nothing w W) : SetPre W b hr kb (ko + i) c H L h k Fk mn mx := by
  have hat := (P.mem.at_ n r hr1).keep hk fun _ _ _ h => h
  obtain ⟨_, g2, _⟩ := hat.2.2.2 ns hkn
  rw [hka] at g2
  exact ⟨blk_keep P.hdr hk fun _ h => h, g2.cell (by simp [hc]), P.mem.keepS hk fun _ _ _ _ _ _ h => h, hrep, nd, wf.weaken (Nat.zero_le _), srt, P.hmx, P.h3, P.hb, P.hmn, big⟩

/-- A call below that does not ask. -/
def GoG (H : Store It) (L : Nat → Lay) (Fk : List Nat) (iso : Int) (mn mx h c : Nat) (k : Tr It) (x ep : It) (y : It) (rep : Bool) (W W' : World) : Prop :=
  ∃ p k' F' H' L', y = Option.getD p ep ∧ rep = p.isSome ∧ Step TT E W H L Fk W' H' L' F' ∧ Rep H' iso h c k' F' ∧ F'.Nodup ∧ wfr k.its.length mn mx h k' ∧ Put ilt (flat h k) x (flat h k') p

theorem put_len {l l' : List It} {x : It} {p : Option It} (h : Put ilt l x l' p) : l'.length = l.length + if p.isSome then 0 else 1 := by
  cases p with
  | none => obtain ⟨A, B, rfl, rfl, _⟩ := h; simp; omega
  | some p => obtain ⟨A, B, rfl, rfl, _⟩ := h; simp

/-- Setting below: the child doesn't ask for a split. -/
theorem set_succ_go {w : World} {b : Nat} {hr : HRec} {pb po n : Nat} {H : Store It} {L : Nat → Lay} {h : Nat} {t : Tr It} {F : List Nat} {mn mx : Nat} (P : SetPre w b hr pb po n H L (h + 1) t F mn mx) (x : It) {i : Nat} (hloc : Loc t.its (ky x) i false)
    {k : Tr It} (hk : t.ks[i]? = some k) (hna : ¬ Asks mx h k (ky x))
    (IH : ∀ (w : World) (pb po n : Nat) (H : Store It) (L : Nat → Lay) (F : List Nat), SetPre w b hr pb po n H L h k F mn mx → Calls Try.prog 196 #[ptr b, .pointer (some ⟨pb, po, none⟩), pv x] w (SetPost w H L F hr.iso mn mx h n k x hr.emp)) :
    Calls Try.prog 196 #[ptr b, .pointer (some ⟨pb, po, none⟩), pv x] w (SetPost w H L F hr.iso mn mx (h + 1) n t x hr.emp) := by
  have P' := P
  obtain ⟨hdr, cell, mem, rep, nd, wf, srt, hmx, h3, hb, hmn, big⟩ := P
  obtain ⟨r, ns, F', hr1, hiso, hits, hkn, hcnt, hrl, rfl⟩ := rep
  have hat := mem.at_ n r hr1
  obtain ⟨w1, w2, w3, w4⟩ := id wf
  have hs : Sorted ilt r.items := by rw [hits]; exact own_sorted wf srt
  have hlen : r.items.length ≤ 1000000000000 := by rw [hits]; omega
  obtain ⟨its, ks⟩ := t
  simp only [Tr.its, Tr.ks] at *
  subst hits
  obtain ⟨hil, _⟩ := List.getElem?_eq_some_iff.1 hk
  obtain ⟨K1, k0, K2, hks, hK1, hk0⟩ := split_at ks i hil
  obtain rfl : k = k0 := by rw [hk] at hk0; exact Option.some.inj hk0
  subst hks
  obtain ⟨N1, c, N2, F1, Fk, F2, rfl, e1, e2, R1, Rk, R2, rfl⟩ := hrl.split
  have hc : (N1 ++ c :: N2)[i]? = some c := by rw [← hK1, ← e1]; simp
  have hnF := List.nodup_cons.1 nd
  have nd2 := List.nodup_append.1 hnF.2
  have nd1 := List.nodup_append.1 nd2.1
  obtain ⟨kb, ko, hka, _⟩ := ((hat.2.2.2 _ hkn).2.1).form (by simp; omega)
  have wfk := w4 k (by simp)
  have hI : r.items.take i ++ r.items.drop i = r.items := List.take_append_drop _ _
  have hIl : (r.items.take i).length = i := by rw [List.length_take]; have := hloc.1; omega
  have hIr : (r.items.drop i).length = K2.length := by rw [List.length_drop]; simp at w3; omega
  obtain ⟨lA, lB⟩ := loc_none hloc
  obtain ⟨C, D, hCD, hC, hD⟩ := flat_around (lt := ilt) (x := x) ⟨fun a => kord.irr _, fun a b c => kord.tr _ _ _, fun a b c => kord.co _ _ _⟩ (h := h) (I1 := r.items.take i) (I2 := r.items.drop i) (K1 := K1) (K2 := K2) (k := k) (by omega) (by omega) (by rw [hI]; exact srt) lA lB
  rw [hI] at hCD
  have srtk : Sorted ilt (flat h k) := by rw [hCD] at srt; exact srt.mid
  have bigk : (flat h k).length ≤ 3000000000000000000 := by rw [hCD] at big; simp at big; omega
  refine (set_inner_go hdr cell hat hiso hlen hs hloc (by omega) (by omega) hkn hka (List.getElem?_eq_some_iff.1 hc).1 (GoG H L Fk hr.iso mn mx h c k x hr.emp) fun W hK => ?_).mono ?_
  · refine (IH W kb (ko + i) c H L Fk (P'.child hr1 hkn hka hc Rk nd1.2.1 wfk srtk bigk hK)).mono ?_
    rintro e W' (⟨ha, _⟩ | ⟨_, p, k', G, H', L', rfl, st, rep', nd', wf', put⟩)
    · exact absurd ha hna
    · obtain ⟨o1, o2⟩ := st.out n (fun hn => hnF.1 (by simp [hn])) r hr1
      refine ⟨Option.getD p hr.emp, p.isSome, rfl, st.keep.mono fun x o _ ⟨m, q, _, hq, hf⟩ => (mem.at_ m q hq).lt hf, ?_, p, k', G, H', L', rfl, rfl, st, rep', nd', wf', put⟩
      have := st.mem.at_ n r o1
      rwa [o2] at this
  · rintro e w' ⟨W, W', y, rp, hK, ⟨p, k', G, H', L', rfl, rfl, st, rep', nd', wf', put⟩, rfl, hK2, hK3, hat'⟩
    have st1 := Step.pre hK st
    have dom : ∀ m, m ∈ (n :: F1) ++ F2 → m ∉ Fk ∧ ∃ q, H m = some q := fun m hm => by
      refine ⟨fun hf => ?_, P'.rep.dom m ?_⟩
      · rcases List.mem_append.1 hm with hm | hm
        · rcases List.mem_cons.1 hm with rfl | hm
          · exact hnF.1 (by simp [hf])
          · exact nd1.2.2 m hm m hf rfl
        · exact nd2.2.2 m (by simp [hf]) m hm rfl
      · simp at hm ⊢
        rcases hm with h | h | h <;> simp [h]
    have st2 := st1.frame (n :: F1) F2 dom
    obtain ⟨o1, o2⟩ := st.out n (fun hn => hnF.1 (by simp [hn])) r hr1
    have hcl := Step.clear mem hK st
    have st3 := Step.then mem st2 (n := n) (r := r) (r' := { r with cnt := if p.isSome then r.cnt else r.cnt + 1 }) (l' := L n) (X := fun b o => w.heap.size ≤ b ∧ b < W.heap.size) (by simp) o1 (hK3.mono fun x o _ hx => by
        rcases hx with ⟨rfl, _⟩ | hx
        · exact .inl (.inl rfl)
        · exact .inr hx) (fun _ _ h => h.1) (fun m q hq x o hf => hcl m q hq x o hf) hat' (fun x o _ hf => by rw [o2]; exact hf)
    have nF' : ∀ m, m ∈ G → m ∈ Fk ∨ w.heap.size ≤ m := fun m hm => st1.new m hm
    have old : ∀ m, m ∈ n :: (F1 ++ Fk ++ F2) → m < w.heap.size := P'.bnd
    have hnG : n ∉ G := fun hn => by
      rcases nF' n hn with h | h
      · exact hnF.1 (by simp [h])
      · have := old n (by simp); omega
    have nin : n ∉ F1 ++ G ++ F2 := fun hn => by
      simp only [List.mem_append] at hn
      rcases hn with (hn | hn) | hn
      · exact hnF.1 (by simp [hn])
      · exact hnG hn
      · exact hnF.1 (by simp [hn])
    have ndG : (n :: (F1 ++ G ++ F2)).Nodup := by
      refine List.nodup_cons.2 ⟨nin, List.nodup_append.2 ⟨List.nodup_append.2 ⟨nd1.1, nd', ?_⟩, nd2.2.1, ?_⟩⟩
      · rintro a ha _ hb rfl
        rcases nF' a hb with h | h
        · exact nd1.2.2 a ha a h rfl
        · have := old a (by simp [ha]); omega
      · rintro a ha _ hb rfl
        rcases List.mem_append.1 ha with ha | ha
        · exact nd2.2.2 a (by simp [ha]) a hb rfl
        · rcases nF' a ha with h | h
          · exact nd2.2.2 a (by simp [h]) a hb rfl
          · have := old a (by simp [hb]); omega
    have hlen' := put_len put
    have flat' : flat (h + 1) (.node r.items (K1 ++ k' :: K2)) = C ++ flat h k' ++ D := hCD k'
    refine .inr ⟨fun a => ?_, p, .node r.items (K1 ++ k' :: K2), n :: (F1 ++ G ++ F2), upd H' n (some { r with cnt := if p.isSome then r.cnt else r.cnt + 1 }), upd L' n (L n), rfl, ?_, ⟨{ r with cnt := if p.isSome then r.cnt else r.cnt + 1 }, N1 ++ c :: N2, F1 ++ G ++ F2, upd_same _ _ _, hiso, rfl, hkn, ?_, ?_, rfl⟩, ndG, ⟨by simp [Tr.its], by simp [Tr.its]; omega, by simp [Tr.its, Tr.ks] at w3 ⊢; omega, ?_⟩, ?_⟩
    · obtain ⟨_, j, c', h1, h2, h3⟩ := a
      obtain rfl := (Loc.uniq hs hloc h1).1
      simp only [Tr.ks] at h2
      rw [hk] at h2
      obtain rfl := Option.some.inj h2
      exact hna h3
    · exact st3
    · rw [flat']
      rw [hCD k] at hcnt
      simp only [List.length_append] at hcnt ⊢
      cases p <;> simp at hlen' ⊢ <;> omega
    · have out' : ∀ m, m ∈ F1 ++ F2 → upd H' n (some { r with cnt := if p.isSome then r.cnt else r.cnt + 1 }) m = H m := fun m hm => by
        have hmn : m ≠ n := fun e => hnF.1 (by subst e; simp only [List.mem_append] at hm ⊢; rcases hm with h | h <;> simp [h])
        rw [upd_ne _ _ hmn]
        obtain ⟨q, hq⟩ := (dom m (by simp only [List.mem_append, List.mem_cons] at hm ⊢; rcases hm with h | h <;> simp [h])).2
        rw [hq]
        exact (st.out m (dom m (by simp only [List.mem_append, List.mem_cons] at hm ⊢; rcases hm with h | h <;> simp [h])).1 q hq).1
      have A1 : RepL (Rep (upd H' n (some { r with cnt := if p.isSome then r.cnt else r.cnt + 1 })) hr.iso h) N1 K1 F1 := R1.imp fun a t G hG hR => hR.congr fun m hm => out' m (by simp [hG m hm])
      have A2 : RepL (Rep (upd H' n (some { r with cnt := if p.isSome then r.cnt else r.cnt + 1 })) hr.iso h) N2 K2 F2 := R2.imp fun a t G hG hR => hR.congr fun m hm => out' m (by simp [hG m hm])
      have Ak : Rep (upd H' n (some { r with cnt := if p.isSome then r.cnt else r.cnt + 1 })) hr.iso h c k' G := rep'.congr fun m hm => upd_ne _ _ fun e => hnG (e ▸ hm)
      rw [List.append_assoc]
      exact RepL.join (R := Rep (upd H' n (some { r with cnt := if p.isSome then r.cnt else r.cnt + 1 })) hr.iso h) (N2 := c :: N2) (K2 := k' :: K2) ⟨G, F2, Ak, A2, rfl⟩ A1
    · intro k2 hk2
      simp only [Tr.ks, List.mem_append, List.mem_cons] at hk2
      rcases hk2 with hk2 | rfl | hk2
      · exact w4 k2 (by simp [hk2])
      · exact wf'.weaken (Nat.le_trans wfk.own_le.1 wf'.own_le.1)
      · exact w4 k2 (by simp [hk2])
    · rw [hCD k, flat']
      exact put.frame C D hC hD
end Go.Proofs.Ytckplcmieelmpaa.S

namespace Go.Wb
open Go Go.RowKit
variable {α : Type} {T : Ty} {E : Enc α}

/-- A step counts its nodes, not their order. -/
theorem Step.same {w w' : World} {H H' : Store α} {L L' : Nat → Lay} {F F' G' : List Nat} (h : Step T E w H L F w' H' L' F') (e : ∀ m, m ∈ G' ↔ m ∈ F') : Step T E w H L F w' H' L' G' :=
  ⟨h.mem, h.keep, h.out, fun m hm => h.new m ((e m).1 hm), fun b o hb ⟨n, r, hn, hr, hf⟩ => h.fp b o hb ⟨n, r, (e n).1 hn, hr, hf⟩, fun m r hr => (h.only m r hr).imp (e m).2 id⟩

/-- Behind a step only cells turn that are no node's and weren't there at the begin. -/
theorem Step.post {w W' w' : World} {H H' : Store α} {L L' : Nat → Lay} {F F1 : List Nat} (h : Step T E w H L F W' H' L' F1) {X : Nat → Nat → Prop}
    (hk : Keep X W' w') (hX : ∀ b o, X b o → w.heap.size ≤ b) (hXd : ∀ m q, H' m = some q → ∀ b o, Wb.fp T m q (L' m) b o → ¬ X b o) : Step T E w H L F w' H' L' F1 :=
  ⟨h.mem.keepS hk fun n r b o hr hf => hXd n r hr b o hf, h.keep.trans hk fun b o hb hx => by have := hX b o hx; omega, h.out, h.new, h.fp, h.only⟩

theorem RepL.cut {R : Nat → Tr α → List Nat → Prop} : ∀ {ns : List Nat} {ts : List (Tr α)} {F : List Nat}, RepL R ns ts F → ∀ j, ∃ F1 F2, RepL R (ns.take j) (ts.take j) F1 ∧ RepL R (ns.drop j) (ts.drop j) F2 ∧ F = F1 ++ F2
  | [], [], F, h, j => ⟨[], F, by simp [RepL], by simpa using h, by simp⟩
  | n :: ns, t :: ts, F, h, 0 => ⟨[], F, by simp [RepL], by simpa using h, by simp⟩
  | n :: ns, t :: ts, F, h, j + 1 => by
    obtain ⟨F1, F2, h1, h2, rfl⟩ := h
    obtain ⟨G1, G2, g1, g2, rfl⟩ := RepL.cut h2 j
    exact ⟨F1 ++ G1, G2, ⟨F1, G1, h1, g1, rfl⟩, g2, by simp⟩
  | [], _ :: _, _, h, _ => h.elim
  | _ :: _, [], _, h, _ => h.elim

/-- A node's count. -/
def cntOf (H : Store α) (m : Nat) : Int := match H m with | some q => q.cnt | none => 0

theorem RepL.counts {H : Store α} {c : Int} {h : Nat} : ∀ {ns : List Nat} {ts : List (Tr α)} {F : List Nat}, RepL (Rep H c h) ns ts F → ns.map (cntOf H) = ts.map fun k => ((flat h k).length : Int)
  | [], [], _, _ => rfl
  | n :: ns, t :: ts, F, hr => by
    obtain ⟨F1, F2, h1, h2, rfl⟩ := hr
    obtain ⟨_, r, e1, _, _, e2⟩ := h1.root
    simp only [List.map_cons, RepL.counts h2]
    congr 1
    simp [cntOf, e1, e2]
  | [], _ :: _, _, h => h.elim
  | _ :: _, [], _, h => h.elim

theorem sum_cast (l : List (Tr α)) (h : Nat) : (l.map fun k => ((flat h k).length : Int)).sum = ((l.map fun k => (flat h k).length).sum : Nat) := by
  induction l with
  | nil => rfl
  | cons x l ih => simp only [List.map_cons, List.sum_cons, ih]; omega

theorem count_flat {H : Store α} {c : Int} {h : Nat} {its : List α} {ns : List Nat} {ts : List (Tr α)} {F : List Nat} (hr : RepL (Rep H c h) ns ts F) (hl : ts.length = its.length + 1) : (its.length : Int) + kidSum (cntOf H) (some ns) = ((flat (h + 1) (.node its ts)).length : Int) := by
  rw [flat_len hl, kidSum, hr.counts, sum_cast]; omega

/-- The records of a node's halves. -/
def halfL (H : Store α) (iso : Int) (r : NRec α) (i : Nat) : NRec α := ⟨iso, (r.items.take i).length + kidSum (cntOf H) (r.kids.map (List.take (i + 1))), r.items.take i, r.kids.map (List.take (i + 1))⟩
def halfR (H : Store α) (iso : Int) (r : NRec α) (i : Nat) : NRec α := ⟨iso, (r.items.drop (i + 1)).length + kidSum (cntOf H) (r.kids.map (List.drop (i + 1))), r.items.drop (i + 1), r.kids.map (List.drop (i + 1))⟩

theorem Rep.halves {H : Store α} {c : Int} {h n : Nat} {t : Tr α} {F : List Nat} {l mn mx : Nat} (hr : Rep H c h n t F) (wf : wfr l mn mx h t) (nd : F.Nodup) {r : NRec α} (hn : H n = some r) {m : Nat} (hm : H m = none) {i : Nat} (hi : i < t.its.length) :
    ∃ F1 F2, F = n :: (F1 ++ F2) ∧ Rep (upd (upd H n (some (halfL H c r i))) m (some (halfR H c r i))) c h n (cutL i t) (n :: F1) ∧ Rep (upd (upd H n (some (halfL H c r i))) m (some (halfR H c r i))) c h m (cutR i t) (m :: F2) := by
  have hnm : n ≠ m := fun e => by subst e; rw [hm] at hn; cases hn
  obtain ⟨its, ks⟩ := t
  simp only [Tr.its] at hi
  cases h with
  | zero =>
    obtain ⟨q, h1, h2, h3, h4, h5, h6, rfl⟩ := hr
    rw [hn] at h1
    cases h1
    simp only [Tr.its, Tr.ks] at *
    subst h3
    subst h4
    refine ⟨[], [], rfl, ⟨halfL H c r i, by rw [upd_ne _ _ hnm, upd_same], rfl, rfl, by simp [cutL, Tr.ks], by simp [halfL, h5], ?_, rfl⟩, ⟨halfR H c r i, upd_same _ _ _, rfl, rfl, by simp [cutR, Tr.ks], by simp [halfR, h5], ?_, rfl⟩⟩
    · simp [halfL, h5, kidSum, flat, cutL, Tr.its]
    · simp [halfR, h5, kidSum, flat, cutR, Tr.its]
  | succ h =>
    obtain ⟨q, ns, F', h1, h2, h3, h4, h5, h6, rfl⟩ := hr
    rw [hn] at h1
    cases h1
    obtain ⟨w1, w2, w3, w4⟩ := wf
    simp only [Tr.its, Tr.ks] at *
    subst h3
    obtain ⟨F1, F2, c1, c2, rfl⟩ := h6.cut (i + 1)
    have hnF := (List.nodup_cons.1 nd).1
    have out : ∀ k, k ∈ F1 ++ F2 → upd (upd H n (some (halfL H c r i))) m (some (halfR H c r i)) k = H k := fun k hk => by
      have e1 : k ≠ n := fun e => hnF (e ▸ hk)
      have e2 : k ≠ m := fun e => by
        subst e
        obtain ⟨q, hq⟩ := RepL.dom (fun _ _ _ h => Rep.dom h) h6 k hk
        rw [hm] at hq
        cases hq
      rw [upd_ne _ _ e2, upd_ne _ _ e1]
    have C1 := c1.imp fun a t G hG (hR : Rep H c h a t G) => hR.congr fun k hk => out k (by simp [hG k hk])
    have C2 := c2.imp fun a t G hG (hR : Rep H c h a t G) => hR.congr fun k hk => out k (by simp [hG k hk])
    refine ⟨F1, F2, rfl, ⟨halfL H c r i, ns.take (i + 1), F1, by rw [upd_ne _ _ hnm, upd_same], rfl, rfl, by simp [halfL, h4], ?_, C1, rfl⟩, ⟨halfR H c r i, ns.drop (i + 1), F2, upd_same _ _ _, rfl, rfl, by simp [halfR, h4], ?_, C2, rfl⟩⟩
    · have := count_flat (its := r.items.take i) c1 (by simp; omega)
      simp only [halfL, h4, Option.map_some]
      exact this
    · have := count_flat (its := r.items.drop (i + 1)) c2 (by simp; omega)
      simp only [halfR, h4, Option.map_some]
      exact this
/-- What the pieces of a tree around a child are. -/
structure Around (H : Store α) (iso : Int) (mn mx h n : Nat) (t : Tr α) (F : List Nat) (r : NRec α) (i : Nat) (k : Tr α) (N1 N2 : List Nat) (c : Nat) (K1 K2 : List (Tr α)) (F1 Fk F2 : List Nat) : Prop where
  tq : t = .node r.items (K1 ++ k :: K2)
  Fq : F = n :: (F1 ++ Fk ++ F2)
  rec_ : H n = some r
  isoq : r.iso = iso
  kids : r.kids = some (N1 ++ c :: N2)
  cnt : r.cnt = ((flat (h + 1) t).length : Int)
  lk : K1.length = i
  ln : N1.length = i
  ln2 : N2.length = K2.length
  lr : r.items.length = i + K2.length
  r1 : RepL (Rep H iso h) N1 K1 F1
  rk : Rep H iso h c k Fk
  r2 : RepL (Rep H iso h) N2 K2 F2
  wk : wfr mn mn mx h k
  wo : ∀ k', k' ∈ K1 ++ K2 → wfr mn mn mx h k'
  le : r.items.length ≤ mx

theorem around_of {H : Store α} {iso : Int} {mn mx h n l : Nat} {t : Tr α} {F : List Nat} (rep : Rep H iso (h + 1) n t F) (wf : wfr l mn mx (h + 1) t) {i : Nat} {k : Tr α} (hk : t.ks[i]? = some k) :
    ∃ r N1 N2 c K1 K2 F1 Fk F2, Around H iso mn mx h n t F r i k N1 N2 c K1 K2 F1 Fk F2 := by
  obtain ⟨r, ns, F', hr1, hiso, hits, hkn, hcnt, hrl, rfl⟩ := rep
  obtain ⟨w1, w2, w3, w4⟩ := wf
  obtain ⟨its, ks⟩ := t
  simp only [Tr.its, Tr.ks] at *
  subst hits
  obtain ⟨hil, _⟩ := List.getElem?_eq_some_iff.1 hk
  obtain ⟨K1, k0, K2, hks, hK1, hk0⟩ := split_at ks i hil
  obtain rfl : k = k0 := by rw [hk] at hk0; exact Option.some.inj hk0
  subst hks
  obtain ⟨N1, c, N2, F1, Fk, F2, rfl, e1, e2, R1, Rk, R2, rfl⟩ := hrl.split
  refine ⟨r, N1, N2, c, K1, K2, F1, Fk, F2, rfl, rfl, hr1, hiso, hkn, hcnt, hK1, by omega, e2, by simp at w3; omega, R1, Rk, R2, w4 k (by simp), fun k' hk' => w4 k' ?_, w2⟩
  simp only [List.mem_append, List.mem_cons] at hk' ⊢
  rcases hk' with h | h <;> simp [h]

theorem RepL.mem {R : Nat → Tr α → List Nat → Prop} : ∀ {ns : List Nat} {ts : List (Tr α)} {F : List Nat}, RepL R ns ts F → ∀ k, k ∈ ns → ∃ t G, R k t G ∧ ∀ m, m ∈ G → m ∈ F
  | [], _, _, _, k, hk => by cases hk
  | n :: ns, t :: ts, F, h, k, hk => by
    obtain ⟨F1, F2, h1, h2, rfl⟩ := h
    rcases List.mem_cons.1 hk with rfl | hk
    · exact ⟨t, F1, h1, fun m hm => by simp [hm]⟩
    · obtain ⟨t', G, g1, g2⟩ := RepL.mem h2 k hk
      exact ⟨t', G, g1, fun m hm => by simp [g2 m hm]⟩
  | _ :: _, [], _, h, _, _ => h.elim

theorem Rep.kids_ok {H : Store α} {c : Int} {h n : Nat} {t : Tr α} {F : List Nat} {l mn mx : Nat} (hr : Rep H c h n t F) (wf : wfr l mn mx h t) (nd : F.Nodup) {r : NRec α} (hn : H n = some r) {ks : List Nat} (hk : r.kids = some ks) :
    ks.length = t.its.length + 1 ∧ (ks.map (cntOf H)).sum ≤ (flat h t).length ∧ ∀ k ∈ ks, k ≠ n ∧ 0 ≤ cntOf H k ∧ ∃ q, H k = some q ∧ q.cnt = cntOf H k := by
  cases h with
  | zero =>
    obtain ⟨q, h1, h2, h3, h4, h5, h6, rfl⟩ := hr
    rw [hn] at h1
    cases h1
    rw [h5] at hk
    cases hk
  | succ h =>
    obtain ⟨q, ns, F', h1, h2, h3, h4, h5, h6, rfl⟩ := hr
    rw [hn] at h1
    cases h1
    rw [h4] at hk
    cases hk
    obtain ⟨w1, w2, w3, w4⟩ := wf
    refine ⟨by rw [h6.len, w3], ?_, fun k hk => ?_⟩
    · have := count_flat (its := t.its) h6 w3
      obtain ⟨its, ks⟩ := t
      simp only [kidSum, Tr.its, Tr.ks] at this ⊢
      omega
    · obtain ⟨t', G, g1, g2⟩ := h6.mem k hk
      obtain ⟨g3, q, g4, _, _, g5⟩ := g1.root
      refine ⟨fun e => (List.nodup_cons.1 nd).1 (e ▸ g2 k g3), ?_, q, g4, by simp [cntOf, g4]⟩
      simp only [cntOf, g4, g5]
      omega

theorem RepL.get {R : Nat → Tr α → List Nat → Prop} : ∀ {ns : List Nat} {ts : List (Tr α)} {F : List Nat}, RepL R ns ts F → ∀ {i m : Nat} {k : Tr α}, ns[i]? = some m → ts[i]? = some k → ∃ G, R m k G
  | [], _, _, _, i, m, k, h, _ => by simp at h
  | n :: ns, t :: ts, F, h, 0, m, k, hn, hk => by
    obtain ⟨F1, F2, h1, _, _⟩ := h
    simp at hn hk
    subst hn
    subst hk
    exact ⟨F1, h1⟩
  | n :: ns, t :: ts, F, h, i + 1, m, k, hn, hk => by
    obtain ⟨F1, F2, _, h2, _⟩ := h
    exact RepL.get h2 (by simpa using hn) (by simpa using hk)
  | _ :: _, [], _, h, _, _, _, _, _ => h.elim
end Go.Wb

namespace Go.Proofs.Ytckplcmieelmpaa.S
open Go.RowKit Go.Wb

theorem iord : Ord ilt := ⟨fun _ => kord.irr _, fun _ _ _ => kord.tr _ _ _, fun _ _ _ => kord.co _ _ _⟩

/-- Setting below: child and node are full. -/
theorem set_succ_full {w : World} {b : Nat} {hr : HRec} {pb po n : Nat} {H : Store It} {L : Nat → Lay} {h : Nat} {t : Tr It} {F : List Nat} {mn mx : Nat} (P : SetPre w b hr pb po n H L (h + 1) t F mn mx) (x : It) {i : Nat} (hloc : Loc t.its (ky x) i false)
    {k : Tr It} (hk : t.ks[i]? = some k) (hfull : t.its.length = mx) (ha : Asks mx h k (ky x))
    (IH : ∀ (w : World) (pb po n : Nat) (H : Store It) (L : Nat → Lay) (F : List Nat), SetPre w b hr pb po n H L h k F mn mx → Calls Try.prog 196 #[ptr b, .pointer (some ⟨pb, po, none⟩), pv x] w (SetPost w H L F hr.iso mn mx h n k x hr.emp)) :
    Calls Try.prog 196 #[ptr b, .pointer (some ⟨pb, po, none⟩), pv x] w (SetPost w H L F hr.iso mn mx (h + 1) n t x hr.emp) := by
  obtain ⟨r, N1, N2, c, K1, K2, F1, Fk, F2, A⟩ := around_of P.rep P.wf hk
  have hat := P.mem.at_ n r A.rec_
  have ht := A.tq
  have hits : t.its = r.items := by rw [ht]; rfl
  have hs : Sorted ilt r.items := by rw [← hits]; exact own_sorted P.wf P.srt
  have hlen : r.items.length ≤ 1000000000000 := by have := P.hb; have := A.le; omega
  obtain ⟨kb, ko, hka, _⟩ := ((hat.2.2.2 _ A.kids).2.1).form (by simp; omega)
  have hc : (N1 ++ c :: N2)[i]? = some c := by rw [← A.ln]; simp
  obtain ⟨lA, lB⟩ := loc_none hloc
  have hfl : ∃ C D, flat (h + 1) t = C ++ flat h k ++ D := by
    have e : t = .node (t.its.take i ++ t.its.drop i) (K1 ++ k :: K2) := by rw [List.take_append_drop, hits]; exact ht
    have := P.srt
    rw [e] at this ⊢
    obtain ⟨C, D, hCD, _⟩ := flat_around (lt := ilt) (x := x) iord (h := h) (I1 := t.its.take i) (I2 := t.its.drop i) (K1 := K1) (K2 := K2) (k := k) (by rw [List.length_take, hits, A.lr, A.lk]; omega) (by rw [List.length_drop, hits, A.lr]; omega) this lA lB
    exact ⟨C, D, hCD k⟩
  obtain ⟨C, D, hCD⟩ := hfl
  have srt := P.srt
  have big := P.big
  have nd := P.nd
  rw [hCD] at srt big
  rw [A.Fq] at nd
  have nd2 := List.nodup_append.1 (List.nodup_cons.1 nd).2
  have ndk := (List.nodup_append.1 nd2.1).2.1
  rw [hits] at hloc hfull
  refine (set_inner_full P.hdr P.cell hat A.isoq hlen hs hloc (by rw [P.hmx, hfull]) A.kids hka (List.getElem?_eq_some_iff.1 hc).1 fun W hK => ?_).mono ?_
  · refine (IH W kb (ko + i) c H L Fk (P.child A.rec_ A.kids hka hc A.rk ndk A.wk srt.mid (by simp at big; omega) hK)).mono ?_
    rintro e W' (⟨_, h2⟩ | ⟨h1, _⟩)
    · exact h2
    · exact absurd ha h1
  · intro e w' h1
    exact .inl ⟨⟨by rw [hits]; exact hfull, i, k, by rw [hits]; exact hloc, hk, ha⟩, h1⟩
end Go.Proofs.Ytckplcmieelmpaa.S

namespace Go.Wb
variable {α : Type} {lt : α → α → Bool}

/-- x is taken out of a sorted list, if it is there. -/
def Del (lt : α → α → Bool) (l : List α) (x : α) (l' : List α) : Option α → Prop
  | none => l' = l ∧ ∃ A B, l = A ++ B ∧ (∀ a ∈ A, lt a x = true) ∧ ∀ b ∈ B, lt x b = true
  | some p => ∃ A B, l = A ++ p :: B ∧ l' = A ++ B ∧ lt p x = false ∧ lt x p = false ∧ (∀ a ∈ A, lt a x = true) ∧ ∀ b ∈ B, lt x b = true

theorem Del.frame {l l' : List α} {x : α} {p : Option α} (h : Del lt l x l' p) (C D : List α) (hC : ∀ a ∈ C, lt a x = true) (hD : ∀ b ∈ D, lt x b = true) : Del lt (C ++ l ++ D) x (C ++ l' ++ D) p := by
  cases p with
  | none =>
    obtain ⟨rfl, A, B, rfl, hA, hB⟩ := h
    refine ⟨rfl, C ++ A, B ++ D, by simp, ?_, ?_⟩
    · intro a ha; exact (List.mem_append.1 ha).elim (hC a) (hA a)
    · intro b hb; exact (List.mem_append.1 hb).elim (hB b) (hD b)
  | some p =>
    obtain ⟨A, B, rfl, rfl, h1, h2, hA, hB⟩ := h
    refine ⟨C ++ A, B ++ D, by simp, by simp, h1, h2, ?_, ?_⟩
    · intro a ha; exact (List.mem_append.1 ha).elim (hC a) (hA a)
    · intro b hb; exact (List.mem_append.1 hb).elim (hB b) (hD b)
theorem Del.len {l l' : List α} {x : α} {p : Option α} (h : Del lt l x l' p) : l.length = l'.length + if p.isSome then 1 else 0 := by
  cases p with
  | none => obtain ⟨rfl, _⟩ := h; simp
  | some p => obtain ⟨A, B, rfl, rfl, _⟩ := h; simp; omega
theorem Del.sorted {l l' : List α} {x : α} {p : Option α} (h : Del lt l x l' p) (hs : Sorted lt l) : Sorted lt l' := by
  cases p with
  | none => obtain ⟨rfl, _⟩ := h; exact hs
  | some p => obtain ⟨A, B, rfl, rfl, _⟩ := h; exact List.Pairwise.sublist (List.Sublist.append_left (List.sublist_cons_self _ _) _) hs

/-- As wfr, without the sizes of the node itself. -/
def body (mn mx : Nat) : Nat → Tr α → Prop
  | 0, t => t.ks = []
  | h + 1, t => t.ks.length = t.its.length + 1 ∧ ∀ k ∈ t.ks, wfr mn mn mx h k
theorem wfr.body {l mn mx h : Nat} {t : Tr α} (hw : wfr l mn mx h t) : body mn mx h t := by
  cases h with
  | zero => exact hw.2.2
  | succ h => exact hw.2.2
theorem body.wfr {l mn mx h : Nat} {t : Tr α} (hb : Wb.body mn mx h t) (h1 : l ≤ t.its.length) (h2 : t.its.length ≤ mx) : wfr l mn mx h t := by
  cases h with
  | zero => exact ⟨h1, h2, hb⟩
  | succ h => exact ⟨h1, h2, hb⟩

/-- Two nodes and the item between them as one node. -/
def mergeT (a : Tr α) (m : α) (b : Tr α) : Tr α := .node (a.its ++ m :: b.its) (a.ks ++ b.ks)
theorem merge_body {mn mx h : Nat} {a b : Tr α} {m : α} (ha : body mn mx h a) (hb : body mn mx h b) : body mn mx h (mergeT a m b) := by
  cases h with
  | zero =>
    have h1 : a.ks = [] := ha
    have h2 : b.ks = [] := hb
    simp [body, mergeT, Tr.ks]
    simp only [Tr.ks] at h1 h2
    exact ⟨h1, h2⟩
  | succ h =>
    obtain ⟨a1, a2⟩ := ha
    obtain ⟨b1, b2⟩ := hb
    obtain ⟨ai, ak⟩ := a
    obtain ⟨bi, bk⟩ := b
    simp only [Tr.its, Tr.ks] at a1 a2 b1 b2
    refine ⟨by simp only [mergeT, Tr.its, Tr.ks, List.length_append, List.length_cons]; omega, fun k hk => ?_⟩
    simp only [mergeT, Tr.ks, List.mem_append] at hk
    exact hk.elim (a2 k) (b2 k)
theorem merge_len (a : Tr α) (m : α) (b : Tr α) : (mergeT a m b).its.length = a.its.length + b.its.length + 1 := by simp [mergeT, Tr.its]; omega

theorem flat_cutB {mn mx h : Nat} {t : Tr α} (hw : body mn mx h t) {i : Nat} {m : α} (hi : t.its[i]? = some m) : flat h t = flat h (cutL i t) ++ m :: flat h (cutR i t) := by
  obtain ⟨its, ks⟩ := t
  simp only [Tr.its] at hi
  obtain ⟨hlt, rfl⟩ := List.getElem?_eq_some_iff.1 hi
  cases h with
  | zero =>
    simp [flat, cutL, cutR, Tr.its]
  | succ h =>
    have hk : ks.length = its.length + 1 := hw.1
    obtain ⟨A, b, B, e, hA, _⟩ := split_at its i hlt
    obtain ⟨K1, k, K2, e2, hK1, _⟩ := split_at ks i (by omega)
    have hK2 : K2.length = B.length + 1 := by rw [e, e2, List.length_append, List.length_append, List.length_cons, List.length_cons] at hk; omega
    cases K2 with
    | nil => simp at hK2
    | cons k' K2 =>
      subst e
      subst e2
      subst hA
      simp only [flat, cutL, cutR, Tr.its, Tr.ks, List.map_append, List.map_cons]
      have t1 : (A ++ b :: B).take A.length = A := by simp
      have t2 : (A ++ b :: B).drop (A.length + 1) = B := by simp
      have t3 : (K1 ++ k :: k' :: K2).take (A.length + 1) = K1 ++ [k] := by rw [← hK1, List.take_length_add_append]; rfl
      have t4 : (K1 ++ k :: k' :: K2).drop (A.length + 1) = k' :: K2 := by rw [← hK1, List.drop_length_add_append]; rfl
      rw [t1, t2, t3, t4, wl_wr _ _ _ _ _ (by simpa using hK1), List.map_append, List.map_cons, List.map_nil]
      have := wl_wr (K1.map (flat h)) A (flat h k) [] [] (by simpa using hK1)
      simp only [List.append_nil] at this
      rw [this]
      simp [wr, weave]

theorem merge_cut {mn mx h : Nat} {a b : Tr α} {m : α} (ha : body mn mx h a) (hb : body mn mx h b) : cutL a.its.length (mergeT a m b) = a ∧ cutR a.its.length (mergeT a m b) = b := by
  obtain ⟨ai, ak⟩ := a
  obtain ⟨bi, bk⟩ := b
  cases h with
  | zero =>
    have h1 : ak = [] := ha
    have h2 : bk = [] := hb
    subst h1 h2
    simp [cutL, cutR, mergeT, Tr.its, Tr.ks]
  | succ h =>
    have h1 : ak.length = ai.length + 1 := ha.1
    have t3 : (ak ++ bk).take (ai.length + 1) = ak := by rw [← h1]; simp
    have t4 : (ak ++ bk).drop (ai.length + 1) = bk := by rw [← h1]; simp
    simp [cutL, cutR, mergeT, Tr.its, Tr.ks, t3, t4]

theorem flat_merge {mn mx h : Nat} {a b : Tr α} {m : α} (ha : body mn mx h a) (hb : body mn mx h b) : flat h (mergeT a m b) = flat h a ++ m :: flat h b := by
  have hm : (mergeT a m b).its[a.its.length]? = some m := by simp [mergeT, Tr.its]
  rw [flat_cutB (merge_body ha hb) hm, (merge_cut ha hb).1, (merge_cut ha hb).2]

theorem cut_body {mn mx h : Nat} {t : Tr α} (hw : body mn mx h t) {i : Nat} (hi : i < t.its.length) : body mn mx h (cutL i t) ∧ body mn mx h (cutR i t) := by
  obtain ⟨its, ks⟩ := t
  simp only [Tr.its] at hi
  cases h with
  | zero =>
    have hk : ks = [] := hw
    subst hk
    simp [body, cutL, cutR, Tr.ks]
  | succ h =>
    obtain ⟨w3, w4⟩ := hw
    simp only [Tr.its, Tr.ks] at w3 w4
    simp only [body, cutL, cutR, Tr.its, Tr.ks, List.length_take, List.length_drop]
    exact ⟨⟨by omega, fun k hk => w4 k (List.mem_of_mem_take hk)⟩, by omega, fun k hk => w4 k (List.mem_of_mem_drop hk)⟩

/-- Two neighbours, one of which has too few items, are put right: as one node, or by an item that moves. -/
def Reb (mx : Nat) (I1 I2 : List α) (K1 K2 : List (Tr α)) (a : Tr α) (m : α) (b : Tr α) (t' : Tr α) : Prop :=
  (a.its.length + b.its.length < mx ∧ t' = .node (I1 ++ I2) (K1 ++ mergeT a m b :: K2)) ∨
  mx ≤ a.its.length + b.its.length ∧ ∃ j m', j = (if b.its.length < a.its.length then a.its.length - 1 else a.its.length + 1) ∧ (mergeT a m b).its[j]? = some m' ∧
    t' = .node (I1 ++ m' :: I2) (K1 ++ cutL j (mergeT a m b) :: cutR j (mergeT a m b) :: K2)

theorem Reb.flat {mn mx h : Nat} {I1 I2 : List α} {K1 K2 : List (Tr α)} {a b t' : Tr α} {m : α} (hr : Reb mx I1 I2 K1 K2 a m b t') (h1 : K1.length = I1.length) (ha : body mn mx h a) (hb : body mn mx h b) :
    flat (h + 1) t' = flat (h + 1) (.node (I1 ++ m :: I2) (K1 ++ a :: b :: K2)) := by
  have e := flat_split (I2 := I2) (K2 := K2) h1 (flat_merge (m := m) ha hb)
  rcases hr with ⟨_, rfl⟩ | ⟨_, j, m', _, hj, rfl⟩
  · exact e.symm
  · exact (flat_split h1 (flat_cutB (merge_body ha hb) hj)).trans e.symm

theorem Reb.wf {mn mx h : Nat} {I1 I2 : List α} {K1 K2 : List (Tr α)} {a b t' : Tr α} {m : α} (hr : Reb mx I1 I2 K1 K2 a m b t') (h1 : K1.length = I1.length) (h2 : K2.length = I2.length) (ha : body mn mx h a) (hb : body mn mx h b)
    (hmn : 2 * mn ≤ mx) (hab : (a.its.length + 1 = mn ∧ mn ≤ b.its.length ∧ b.its.length ≤ mx) ∨ (b.its.length + 1 = mn ∧ mn ≤ a.its.length ∧ a.its.length ≤ mx)) (hK : ∀ k ∈ K1 ++ K2, wfr mn mn mx h k) : body mn mx (h + 1) t' ∧ (t'.its.length = I1.length + I2.length ∨ t'.its.length = I1.length + I2.length + 1) := by
  have hM := merge_body (m := m) ha hb
  have hl := merge_len a m b
  rcases hr with ⟨h3, rfl⟩ | ⟨h3, j, m', hj, hm, rfl⟩
  · refine ⟨⟨by simp [Tr.its, Tr.ks]; omega, fun k hk => ?_⟩, .inl (by simp [Tr.its])⟩
    simp only [Tr.ks, List.mem_append, List.mem_cons] at hk
    rcases hk with hk | rfl | hk
    · exact hK k (by simp [hk])
    · exact hM.wfr (by omega) (by omega)
    · exact hK k (by simp [hk])
  · obtain ⟨hjl, _⟩ := List.getElem?_eq_some_iff.1 hm
    obtain ⟨c1, c2⟩ := cut_body hM hjl
    have l1 : (cutL j (mergeT a m b)).its.length = j := by simp only [cutL, Tr.its, List.length_take] at hjl ⊢; omega
    have l2 : (cutR j (mergeT a m b)).its.length = (mergeT a m b).its.length - (j + 1) := by simp only [cutR, Tr.its, List.length_drop]
    refine ⟨⟨by simp [Tr.its, Tr.ks]; omega, fun k hk => ?_⟩, .inr (by simp [Tr.its]; omega)⟩
    simp only [Tr.ks, List.mem_append, List.mem_cons] at hk
    rcases hk with hk | rfl | rfl | hk
    · exact hK k (by simp [hk])
    · refine c1.wfr ?_ ?_ <;> rw [l1, hj] <;> split <;> omega
    · refine c2.wfr ?_ ?_ <;> rw [l2, hj, hl] <;> split <;> omega
    · exact hK k (by simp [hk])
end Go.Wb

namespace Go.Proofs.Ytckplcmieelmpaa.S
open Go.RowKit Go.Wb

/-- An item of a key. -/
def mkIt (k : Ky) : It := k
theorem ky_mk (k : Ky) : ky (mkIt k) = k := rfl

/-- The key's item is taken out, or the last one. -/
def Dl (mb : Bool) (k : Ky) (l l' : List It) (p : Option It) : Prop :=
  match mb with
  | false => Del ilt l (mkIt k) l' p
  | true => ∃ y, p = some y ∧ l = l' ++ [y]

theorem Dl.len {mb : Bool} {k : Ky} {l l' : List It} {p : Option It} (h : Dl mb k l l' p) : l.length = l'.length + if p.isSome then 1 else 0 := by
  cases mb with
  | false => exact Del.len h
  | true => obtain ⟨y, rfl, rfl⟩ := h; simp
theorem Dl.frame {mb : Bool} {k : Ky} {l l' : List It} {p : Option It} (h : Dl mb k l l' p) (C D : List It) (hC : mb = false → (∀ a ∈ C, klt (ky a) k = true) ∧ ∀ b ∈ D, klt k (ky b) = true) (hD : mb = true → D = []) : Dl mb k (C ++ l ++ D) (C ++ l' ++ D) p := by
  cases mb with
  | false => exact Del.frame h C D (hC rfl).1 (hC rfl).2
  | true =>
    obtain ⟨y, rfl, rfl⟩ := h
    rw [hD rfl]
    exact ⟨y, rfl, by simp⟩
theorem Dl.sorted {mb : Bool} {k : Ky} {l l' : List It} {p : Option It} (h : Dl mb k l l' p) (hs : Sorted ilt l) : Sorted ilt l' := by
  cases mb with
  | false => exact Del.sorted h hs
  | true => obtain ⟨y, rfl, rfl⟩ := h; exact hs.of_append.1

/-- What is given where an item is deleted below a node. -/
structure DelPre (w : World) (b : Nat) (hr : HRec) (pb po n : Nat) (H : Store It) (L : Nat → Lay) (h : Nat) (t : Tr It) (F : List Nat) (mn mx : Nat) : Prop where
  pre : SetPre w b hr pb po n H L h t F mn mx
  hm : hr.mn = (mn : Int)
  pos : 1 ≤ mn
  ne : 1 ≤ t.its.length

/-- Sizes behind a deletion. -/
structure Less (mn mx h : Nat) (t t' : Tr It) (p : Option It) : Prop where
  body : Wb.body mn mx h t'
  le : t'.its.length ≤ t.its.length
  ge : t.its.length ≤ t'.its.length + 1
  non : p = none → t'.its.length = t.its.length

/-- What deleting leaves. -/
def DelPost (w : World) (H : Store It) (L : Nat → Lay) (F : List Nat) (iso : Int) (mn mx h n : Nat) (t : Tr It) (mb : Bool) (k : Ky) (ep : It) (e : Ending) (w' : World) : Prop :=
  ∃ p t' F' H' L', e = .returned (.tuple #[pv (Option.getD p ep), .bool p.isSome]) ∧ Step TT E w H L F w' H' L' F' ∧ Rep H' iso h n t' F' ∧ F'.Nodup ∧ Less mn mx h t t' p ∧ Dl mb k (flat h t) (flat h t') p

/-- Deleting in a leaf. -/
theorem del_zero {w : World} {b : Nat} {hr : HRec} {pb po n : Nat} {H : Store It} {L : Nat → Lay} {t : Tr It} {F : List Nat} {mn mx : Nat} (P : DelPre w b hr pb po n H L 0 t F mn mx) (mb : Bool) (k : Ky) :
    Calls Try.prog 173 #[ptr b, .pointer (some ⟨pb, po, none⟩), .bool mb, kv k] w (DelPost w H L F hr.iso mn mx 0 n t mb k hr.emp) := by
  have ne := P.ne
  obtain ⟨hdr, cell, mem, rep, nd, wf, srt, hmx, h3, hb, hmn, big⟩ := P.pre
  obtain ⟨r, hr1, hiso, hits, hks0, hkn, hcnt, rfl⟩ := rep
  have hat := mem.at_ n r hr1
  have hwl := wf.2.1
  have hs : Sorted ilt r.items := by rw [hits]; exact srt
  have hlen : r.items.length ≤ 1000000000000 := by rw [hits]; omega
  obtain ⟨its, ks⟩ := t
  simp only [Tr.its, Tr.ks] at *
  subst hits
  subst hks0
  simp only [flat, Tr.its] at hcnt big
  have cut : ∀ (i : Nat) (y : It), r.items[i]? = some y → Dl mb k r.items (r.items.take i ++ r.items.drop (i + 1)) (some y) → ∀ e w', CutPost w n r (L n) y i e w' → DelPost w H L [n] hr.iso mn mx 0 n (.node r.items []) mb k hr.emp e w' := by
    rintro i y hy hd e w' ⟨rfl, hk, hat'⟩
    obtain ⟨hil, _⟩ := List.getElem?_eq_some_iff.1 hy
    have st := Step.one mem hr1 hk hat' fun c o _ hf => hf
    have hl : (r.items.take i ++ r.items.drop (i + 1)).length + 1 = r.items.length := by simp; omega
    refine ⟨some y, .node (r.items.take i ++ r.items.drop (i + 1)) [], [n], _, _, rfl, st, ⟨_, upd_same _ _ _, hiso, rfl, rfl, hkn, ?_, rfl⟩, by simp, ⟨rfl, ?_, ?_, ?_⟩, hd⟩
    · simp only [flat, Tr.its]; omega
    · simp only [Tr.its]; omega
    · simp only [Tr.its]; omega
    · intro h; cases h
  cases mb with
  | true =>
    obtain ⟨i, hi⟩ : ∃ i, i + 1 = r.items.length := ⟨r.items.length - 1, by omega⟩
    have hy : r.items[i]? = some r.items[i] := List.getElem?_eq_getElem (by omega)
    refine (del_leaf hdr cell hat hiso hlen hs (k := k) (mb := true) (.inr ⟨rfl, hi⟩) hy hkn (by omega) (by omega)).mono (cut i _ hy ⟨_, rfl, ?_⟩)
    rw [hi, List.drop_length, List.append_nil]
    have := List.take_append_getElem (l := r.items) (i := i) (by omega)
    rw [this, hi, List.take_length]
  | false =>
    obtain ⟨i, f, hloc⟩ := Loc.ex k r.items hs
    cases f with
    | true =>
      obtain ⟨A, y, B, hits2, hA, hy, h1, h2, hlA, hlB⟩ := loc_found hs hloc
      refine (del_leaf hdr cell hat hiso hlen hs (k := k) (mb := false) (.inl ⟨rfl, hloc⟩) hy hkn (by omega) (by omega)).mono (cut i _ hy ?_)
      refine ⟨A, B, hits2, ?_, h1, h2, hlA, hlB⟩
      rw [hits2, ← hA]
      simp
    | false =>
      obtain ⟨hA, hB⟩ := loc_none hloc
      refine (del_miss hdr cell hat hiso hlen hs hloc hkn).mono ?_
      rintro e w' ⟨rfl, hk⟩
      have st := Step.refl mem [n]
      refine ⟨none, .node r.items [], [n], H, L, rfl, ⟨mem.keepS hk fun _ _ _ _ _ _ h => h, hk.mono fun _ _ _ h => h.elim, st.out, st.new, fun _ _ _ h => h, st.only⟩, ⟨r, hr1, hiso, rfl, rfl, hkn, ?_, rfl⟩, by simp, ⟨rfl, Nat.le_refl _, Nat.le_succ _, fun _ => rfl⟩, rfl, r.items.take i, r.items.drop i, ?_, hA, hB⟩
      · simp only [flat, Tr.its]; omega
      · simp [flat, Tr.its]
end Go.Proofs.Ytckplcmieelmpaa.S

namespace Go.Proofs.Ytckplcmieelmpaa.S
open Go.RowKit Go.Wb

/-- What came between w and W is no node's. -/
def Clr (w W : World) (H : Store It) (L : Nat → Lay) : Prop := ∀ m q, H m = some q → ∀ x o, fp TT m q (L m) x o → ¬ (w.heap.size ≤ x ∧ x < W.heap.size)
/-- A tree lies at node n of X; a tree of w has become it. -/
def Lies (w W X : World) (H : Store It) (L : Nat → Lay) (F : List Nat) (iso : Int) (h n : Nat) (t1 : Tr It) : Prop :=
  ∃ H1 L1 F1, Step TT E w H L F X H1 L1 F1 ∧ Rep H1 iso h n t1 F1 ∧ F1.Nodup ∧ Clr w W H1 L1
/-- What a call below has left. -/
def GoD (H : Store It) (L : Nat → Lay) (Fk : List Nat) (iso : Int) (mn mx h c : Nat) (kt : Tr It) (mb : Bool) (key : Ky) (ep : It) (y : It) (del : Bool) (rc : NRec It) (W W' : World) : Prop :=
  ∃ p k' F' H' L', y = Option.getD p ep ∧ del = p.isSome ∧ H' c = some rc ∧ Step TT E W H L Fk W' H' L' F' ∧ Rep H' iso h c k' F' ∧ F'.Nodup ∧ Less mn mx h kt k' p ∧ Dl mb key (flat h kt) (flat h k') p

theorem Lies.done {w W X w' : World} {H : Store It} {L : Nat → Lay} {F : List Nat} {iso : Int} {mn mx h n : Nat} {t t1 : Tr It} {mb : Bool} {k : Ky} {ep : It} {e : Ending} {p : Option It} (hl : Lies w W X H L F iso h n t1) (hk : Keep (fun b _ => w.heap.size ≤ b ∧ b < W.heap.size) X w')
    (he : e = .returned (.tuple #[pv (Option.getD p ep), .bool p.isSome])) (sz : Less mn mx h t t1 p) (hd : Dl mb k (flat h t) (flat h t1) p) : DelPost w H L F iso mn mx h n t mb k ep e w' := by
  obtain ⟨H1, L1, F1, st, rep, nd, cl⟩ := hl
  exact ⟨p, t1, F1, H1, L1, he, st.post hk (fun _ _ h => h.1) (fun m q hq b o hf => cl m q hq b o hf), rep, nd, sz, hd⟩

/-- What is given where the children of a node are put right at i. -/
structure RebPre (w : World) (b : Nat) (hr : HRec) (H : Store It) (L : Nat → Lay) (h n : Nat) (t : Tr It) (F : List Nat) (mn mx i : Nat) : Prop where
  hdr : Hdr w b hr
  mem : Mem TT E w H L
  rep : Rep H hr.iso (h + 1) n t F
  nd : F.Nodup
  hmx : hr.mx = (mx : Int)
  hb : mx ≤ 1000000000000
  h3 : 3 ≤ mx
  hmn : 2 * mn ≤ mx
  pos : 1 ≤ mn
  le : t.its.length ≤ mx
  ne : 1 ≤ t.its.length
  hks : t.ks.length = t.its.length + 1
  hi : i ≤ t.its.length
  kid : ∀ j k, t.ks[j]? = some k → body mn mx h k ∧ (j = i → k.its.length + 1 = mn) ∧ (j ≠ i → mn ≤ k.its.length ∧ k.its.length ≤ mx)
  big : (flat (h + 1) t).length ≤ 3000000000000000000
def RebPost (w : World) (H : Store It) (L : Nat → Lay) (F : List Nat) (iso : Int) (mn mx h n : Nat) (t : Tr It) (e : Ending) (w' : World) : Prop :=
  e = .returned (.tuple #[]) ∧ ∃ t' F' H' L', Step TT E w H L F w' H' L' F' ∧ Rep H' iso (h + 1) n t' F' ∧ F'.Nodup ∧ body mn mx (h + 1) t' ∧ t'.its.length ≤ t.its.length ∧ t.its.length ≤ t'.its.length + 1 ∧ flat (h + 1) t' = flat (h + 1) t
def RebOK : Prop := ∀ (w : World) (b : Nat) (hr : HRec) (H : Store It) (L : Nat → Lay) (h n : Nat) (t : Tr It) (F : List Nat) (mn mx i : Nat), RebPre w b hr H L h n t F mn mx i →
  Calls Try.prog 201 #[ptr b, ptr n, .int .i64 i] w (RebPost w H L F hr.iso mn mx h n t)

theorem lies_reb (R : RebOK) {w W X : World} {b : Nat} {hr : HRec} {pb po n : Nat} {H : Store It} {L : Nat → Lay} {h : Nat} {t : Tr It} {F : List Nat} {mn mx : Nat} (P : DelPre w b hr pb po n H L (h + 1) t F mn mx) {t1 : Tr It} (hl : Lies w W X H L F hr.iso (h + 1) n t1) (hWX : W.heap.size ≤ X.heap.size) {i : Nat}
    (hl1 : t1.its.length = t.its.length) (hks : t1.ks.length = t1.its.length + 1) (hi : i ≤ t1.its.length) (kid : ∀ j k, t1.ks[j]? = some k → body mn mx h k ∧ (j = i → k.its.length + 1 = mn) ∧ (j ≠ i → mn ≤ k.its.length ∧ k.its.length ≤ mx)) (big : (flat (h + 1) t1).length ≤ 3000000000000000000) :
    Calls Try.prog 201 #[ptr b, ptr n, .int .i64 i] X fun e X' => e = .returned (.tuple #[]) ∧ Keep (fun b _ => b < w.heap.size ∨ W.heap.size ≤ b) X X' ∧
      ∃ t', Lies w W X' H L F hr.iso (h + 1) n t' ∧ body mn mx (h + 1) t' ∧ t'.its.length ≤ t1.its.length ∧ t1.its.length ≤ t'.its.length + 1 ∧ flat (h + 1) t' = flat (h + 1) t1 := by
  obtain ⟨H1, L1, F1, st, rep, nd, cl⟩ := hl
  have hmem := P.pre.mem
  have hdrX : Hdr X b hr := blk_keep P.pre.hdr st.keep fun o ⟨m, q, _, hq, hf⟩ => hdr_apart P.pre.hdr (hmem.at_ m q hq) hf
  have hmn := P.pre.hmn
  refine (R X b hr H1 L1 h n t1 F1 mn mx i ⟨hdrX, st.mem, rep, nd, P.pre.hmx, P.pre.hb, P.pre.h3, by omega, P.pos, ?_, ?_, hks, hi, kid, big⟩).mono ?_
  · rw [hl1]; exact P.pre.wf.own_le.2
  · rw [hl1]; exact P.ne
  · rintro e X' ⟨rfl, t', F2, H2, L2, st2, rep2, nd2, hb, l1, l2, hf⟩
    refine ⟨rfl, st2.keep.mono fun x o _ ⟨m, q, _, hq, hf⟩ => ?_, t', ⟨H2, L2, F2, st.trans st2 ?_, rep2, nd2, ?_⟩, hb, l1, l2, hf⟩
    · have := cl m q hq x o hf; omega
    · intro m q hm hq
      rcases st.new m hm with h1 | h1
      · exact h1
      · have := hmem.lt hq; omega
    · rintro m q hq x o hf ⟨h1, h2⟩
      rcases st2.only m q hq with hF | ⟨_, h4, h5⟩
      · obtain ⟨a, p, _, hp, hfp⟩ := st2.fp x o (by omega) ⟨m, q, hF, hq, hf⟩
        exact cl a p hp x o hfp ⟨h1, h2⟩
      · rw [h5] at hf
        exact cl m q h4 x o hf ⟨h1, h2⟩

/-- Behind the call below, with the node's own record laid anew. -/
theorem lies_mid {w W W' X : World} {b : Nat} {hr : HRec} {pb po n : Nat} {H : Store It} {L : Nat → Lay} {h : Nat} {t : Tr It} {F : List Nat} {mn mx : Nat} (P : DelPre w b hr pb po n H L (h + 1) t F mn mx) {r : NRec It} {i c : Nat} {kt : Tr It} {N1 N2 : List Nat} {K1 K2 : List (Tr It)} {F1 Fk F2 : List Nat}
    (A : Around H hr.iso mn mx h n t F r i kt N1 N2 c K1 K2 F1 Fk F2) (hK : Keep Nothing w W) {k' : Tr It} {G : List Nat} {H' : Store It} {L' : Nat → Lay} (st : Step TT E W H L Fk W' H' L' G) (rep' : Rep H' hr.iso h c k' G) (nd' : G.Nodup) {cnt1 : Int} {its1 : List It}
    (hX : Keep (fun b o => fp TT n r (L n) b o ∨ (w.heap.size ≤ b ∧ b < W.heap.size)) W' X) (hat : NodeAt TT E X n { r with cnt := cnt1, items := its1 } (L n)) (hcnt : cnt1 = ((flat (h + 1) (.node its1 (K1 ++ k' :: K2))).length : Int)) : Lies w W X H L F hr.iso (h + 1) n (.node its1 (K1 ++ k' :: K2)) := by
  have mem := P.pre.mem
  have nd := P.pre.nd
  rw [A.Fq] at nd
  have hnF := List.nodup_cons.1 nd
  have nd2 := List.nodup_append.1 hnF.2
  have nd1 := List.nodup_append.1 nd2.1
  have st1 := Step.pre hK st
  have dom : ∀ m, m ∈ (n :: F1) ++ F2 → m ∉ Fk ∧ ∃ q, H m = some q := fun m hm => by
    refine ⟨fun hf => ?_, P.pre.rep.dom m ?_⟩
    · rcases List.mem_append.1 hm with hm | hm
      · rcases List.mem_cons.1 hm with rfl | hm
        · exact hnF.1 (by simp [hf])
        · exact nd1.2.2 m hm m hf rfl
      · exact nd2.2.2 m (by simp [hf]) m hm rfl
    · rw [A.Fq]
      simp at hm ⊢
      rcases hm with h | h | h <;> simp [h]
  have st2 := st1.frame (n :: F1) F2 dom
  have e2 : n :: F1 ++ Fk ++ F2 = F := by rw [A.Fq]; simp
  rw [e2] at st2
  obtain ⟨o1, o2⟩ := st.out n (fun hn => hnF.1 (by simp [hn])) r A.rec_
  have hcl := Step.clear mem hK st
  have st3 := Step.then mem st2 (n := n) (r := r) (r' := { r with cnt := cnt1, items := its1 }) (l' := L n) (X := fun b o => w.heap.size ≤ b ∧ b < W.heap.size) (by simp) o1 (hX.mono fun x o _ hx => by rw [o2]; exact hx) (fun _ _ h => h.1) (fun m q hq x o hf => hcl m q hq x o hf) hat (fun x o _ hf => by rw [o2]; exact hf)
  have nF' : ∀ m, m ∈ G → m ∈ Fk ∨ w.heap.size ≤ m := fun m hm => st1.new m hm
  have old : ∀ m, m ∈ n :: (F1 ++ Fk ++ F2) → m < w.heap.size := fun m hm => P.pre.bnd m (by rw [A.Fq]; exact hm)
  have hnG : n ∉ G := fun hn => by
    rcases nF' n hn with h | h
    · exact hnF.1 (by simp [h])
    · have := old n (by simp); omega
  have nin : n ∉ F1 ++ G ++ F2 := fun hn => by
    simp only [List.mem_append] at hn
    rcases hn with (hn | hn) | hn
    · exact hnF.1 (by simp [hn])
    · exact hnG hn
    · exact hnF.1 (by simp [hn])
  have ndG : (n :: (F1 ++ G ++ F2)).Nodup := by
    refine List.nodup_cons.2 ⟨nin, List.nodup_append.2 ⟨List.nodup_append.2 ⟨nd1.1, nd', ?_⟩, nd2.2.1, ?_⟩⟩
    · rintro a ha _ hb rfl
      rcases nF' a hb with h | h
      · exact nd1.2.2 a ha a h rfl
      · have := old a (by simp [ha]); omega
    · rintro a ha _ hb rfl
      rcases List.mem_append.1 ha with ha | ha
      · exact nd2.2.2 a (by simp [ha]) a hb rfl
      · rcases nF' a ha with h | h
        · exact nd2.2.2 a (by simp [h]) a hb rfl
        · have := old a (by simp [hb]); omega
  have out' : ∀ m, m ∈ F1 ++ F2 → upd H' n (some { r with cnt := cnt1, items := its1 }) m = H m := fun m hm => by
    have hmn : m ≠ n := fun e => hnF.1 (by subst e; simp only [List.mem_append] at hm ⊢; rcases hm with h | h <;> simp [h])
    rw [upd_ne _ _ hmn]
    obtain ⟨q, hq⟩ := (dom m (by simp only [List.mem_append, List.mem_cons] at hm ⊢; rcases hm with h | h <;> simp [h])).2
    rw [hq]
    exact (st.out m (dom m (by simp only [List.mem_append, List.mem_cons] at hm ⊢; rcases hm with h | h <;> simp [h])).1 q hq).1
  have A1 : RepL (Rep (upd H' n (some { r with cnt := cnt1, items := its1 })) hr.iso h) N1 K1 F1 := A.r1.imp fun a t G hG hR => hR.congr fun m hm => out' m (by simp [hG m hm])
  have A2 : RepL (Rep (upd H' n (some { r with cnt := cnt1, items := its1 })) hr.iso h) N2 K2 F2 := A.r2.imp fun a t G hG hR => hR.congr fun m hm => out' m (by simp [hG m hm])
  have Ak : Rep (upd H' n (some { r with cnt := cnt1, items := its1 })) hr.iso h c k' G := rep'.congr fun m hm => upd_ne _ _ fun e => hnG (e ▸ hm)
  refine ⟨_, _, n :: (F1 ++ G ++ F2), st3, ⟨{ r with cnt := cnt1, items := its1 }, N1 ++ c :: N2, F1 ++ G ++ F2, upd_same _ _ _, A.isoq, rfl, A.kids, hcnt, ?_, rfl⟩, ndG, fun m q hq x o hf => ?_⟩
  · rw [List.append_assoc]
    exact RepL.join (R := Rep (upd H' n (some { r with cnt := cnt1, items := its1 })) hr.iso h) (N2 := c :: N2) (K2 := k' :: K2) ⟨G, F2, Ak, A2, rfl⟩ A1
  · by_cases hm : m = n
    · subst hm
      rw [upd_same] at hq hf
      cases hq
      exact hcl m r o1 x o (by rw [o2]; exact hf)
    · rw [upd_ne _ _ hm] at hq hf
      exact hcl m q hq x o hf
end Go.Proofs.Ytckplcmieelmpaa.S
