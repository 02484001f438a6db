/- Part 3 of the texts for the statement FnWGetsSaid: the package's tree of maps and sets, its functions' contracts. -/
import Derived.Test.YtckplcmieelmpaaGB
import Derived.Deep.RegionHeld3
namespace Go.Proofs.Ytckplcmieelmpaa.W
open Go.RowKit Go.Wb

theorem cell_set_far {w : World} {x y o p : Nat} (v : Value) (h : x ≠ y) : (w.setCell ⟨y, p, none⟩ v).cell? ⟨x, o, none⟩ = w.cell? ⟨x, o, none⟩ := by
  unfold World.cell?
  rw [Below.heap_setCell w _ v x h]
theorem kidsV {w : World} {n : Nat} {r : NRec It} {L : Lay} (h : NodeAt TT E w n r L) {ks : List Nat} (hk : r.kids = some ks) : w.cell? ⟨n, 3, none⟩ = some (.pointer (some ⟨L.cb, 0, none⟩)) := by
  obtain ⟨c0, c1, c2, c3, fz⟩ := blk4 h.1
  rw [hk] at c3
  exact c3
theorem kidsC {w : World} {n : Nat} {r : NRec It} {L : Lay} (h : NodeAt TT E w n r L) {ks : List Nat} (hk : r.kids = some ks) {kb ko : Nat} (ha : L.ka = some ⟨kb, ko, none⟩) : w.cell? ⟨L.cb, 0, none⟩ = some (.slice (some ⟨kb, ko, none⟩) ks.length L.kcap) := by
  obtain ⟨g1, g2, g3⟩ := h.2.2.2 ks hk
  rw [ha] at g1
  exact (blk1 g1).1
theorem empK {w : World} {b : Nat} {hr : HRec} (h : Hdr w b hr) : w.cell? ⟨b, 5, none⟩ = some (kv (ky hr.emp)) := (hdr_emp h).2
/-- What deleting an item of an inner node leaves: the greatest one below takes its place. -/
def DelSwap (w : World) (n : Nat) (r : NRec It) (L : Lay) (i : Nat) (z : It) (mn : Int) (G : It → Bool → NRec It → World → World → Prop) (RB : World → It → World → World → Prop) (e : Ending) (w' : World) : Prop :=
  ∃ W W' y del rc, Keep Nothing w W ∧ G y del rc W W' ∧ Keep (fun b _ => b < w.heap.size) W W' ∧ e = .returned (.tuple #[pv z, .bool true]) ∧
    ∃ X X', Keep (fun b o => fp TT n r L b o ∨ (w.heap.size ≤ b ∧ b < W.heap.size)) W' X ∧ NodeAt TT E X n { r with cnt := r.cnt - 1, items := r.items.set i y } L ∧
        ((mn ≤ rc.items.length ∧ X' = X) ∨ ((rc.items.length : Int) < mn ∧ RB W y X X')) ∧ Keep (fun b _ => w.heap.size ≤ b ∧ b < W.heap.size) X' w'

set_option maxRecDepth 100000 in
set_option maxHeartbeats 4000000 in
theorem del_inner_found {w : World} {b pb po n : Nat} {hr : HRec} {r : NRec It} {L : Lay} (hh : Hdr w b hr) (hp : w.cell? ⟨pb, po, none⟩ = some (ptr n)) (hn : NodeAt TT E w n r L) (hi : r.iso = hr.iso)
    (hlen : r.items.length ≤ 1000000000000) (hs : Sorted ilt r.items) {k : Ky} {i : Nat} (hloc : Loc r.items k i true) {z : It} (hy : r.items[i]? = some z) (hc0 : 0 ≤ r.cnt) (hc1 : r.cnt ≤ 4000000000000000000) (_ : 0 ≤ hr.mn) (_ : hr.mn ≤ 1000000000000)
    {ks : List Nat} (hks : r.kids = some ks) {kb ko c : Nat} (hka : L.ka = some ⟨kb, ko, none⟩) (hik : ks[i]? = some c) (G : It → Bool → NRec It → World → World → Prop) (RB : World → It → World → World → Prop)
    (hcall : ∀ W, Keep Nothing w W → Calls Try.prog 132 #[ptr b, .pointer (some ⟨kb, ko + i, none⟩), .bool true, kv (ky hr.emp)] W (DelDown w W b hr n r L c G))
    (hreb : ∀ W W' y del rc X, Keep Nothing w W → G y del rc W W' → Keep (fun b _ => b < w.heap.size) W W' → Keep (fun b o => fp TT n r L b o ∨ (w.heap.size ≤ b ∧ b < W.heap.size)) W' X → NodeAt TT E X n { r with cnt := r.cnt - 1, items := r.items.set i y } L → (rc.items.length : Int) < hr.mn →
      Calls Try.prog 176 #[ptr b, ptr n, .int .i64 i] X fun e X' => e = .returned (.tuple #[]) ∧ Keep (fun b _ => b < w.heap.size ∨ W.heap.size ≤ b) X X' ∧ RB W y X X') :
    Calls Try.prog 132 #[ptr b, .pointer (some ⟨pb, po, none⟩), .bool false, kv k] w (DelSwap w n r L i z hr.mn G RB) := by
  have HKS := Lib.hid hks
  have HKA := Lib.hid hka
  have HIK := Lib.hid hik
  have HCALL := Lib.hid hcall
  have HREB := Lib.hid hreb
  have HN := Lib.hid hn
  have HH := Lib.hid hh
  have HP := Lib.hid hp
  have HI := Lib.hid hi
  have HS := Lib.hid hs
  have HLOC := Lib.hid hloc
  have HY := Lib.hid hy
  have hib : i ≤ 1000000000000 := by
    obtain ⟨hil, _⟩ := List.getElem?_eq_some_iff.1 hy
    omega
  have hnw := lt_of_heap hn.1
  have hpw := lt_of_cell hp
  have hbw := lt_of_heap hh
  clear hks hka hik hcall hreb hh hn hp hs hi hloc hy
  unfold ptr kv at *
  go_enter Try.func132, Try.ntmps132
  go_upto_region 1 with (fail)
  refine wp_world ?_
  intro W1 hW1
  generalize hq : w.heap.size = q at *
  have K1 : Hid (Keep Nothing w W1) := by subst hW1; exact (Keep.refl _ _).al _
  have XQ := Lib.hid hq
  have X1 : Hid (W1.heap[q]? = some (.cells (E.enc ((⟨#[]⟩ : ByteArray), 0)).toArray 161 (0, 0))) := by subst hW1; subst hq; exact heap_alloc_new w _
  have S1 : W1.heap.size = q + 1 := by subst hW1; rw [World.size_alloc, hq]
  clear hW1 hq
  have HN1 : Hid (NodeAt TT E W1 n r L) := by exact HN.out.keep K1.out fun _ _ _ h => h
  have HH1 : Hid (Hdr W1 b hr) := by exact blk_keep HH.out K1.out fun _ h => h
  have hiso := isoLoad_own HH1.out (K1.out.cell' HP.out fun h => h) HN1.out HI.out true
  unfold ptr at hiso
  go_wp2_with fail
  refine hiso.mono ?_
  rintro e w1 ⟨rfl, kd, rfl⟩
  clear hiso
  have K1d : Hid (Keep Nothing w (W1.drewN kd)) := by exact K1.out.drN kd
  have S1d : (W1.drewN kd).heap.size = q + 1 := S1
  have X1d : Hid ((W1.drewN kd).heap[q]? = some (.cells (E.enc ((⟨#[]⟩ : ByteArray), 0)).toArray 161 (0, 0))) := by exact X1.out
  clear HN1 HH1 K1 X1 S1
  generalize W1.drewN kd = W1 at *
  have HN2 : Hid (NodeAt TT E W1 n r L) := by exact HN.out.keep K1d.out fun _ _ _ h => h
  have hse := search_loc (tr := ptr b) HN2.out hlen HS.out HLOC.out
  unfold ptr kv at *
  go_wp2_with fail
  refine hse.mono ?_
  rintro e w1 ⟨rfl, kd, rfl⟩
  clear hse
  have K2d : Hid (Keep Nothing w (W1.drewN kd)) := by exact K1d.out.drN kd
  have S2d : (W1.drewN kd).heap.size = q + 1 := S1d
  have X2d : Hid ((W1.drewN kd).heap[q]? = some (.cells (E.enc ((⟨#[]⟩ : ByteArray), 0)).toArray 161 (0, 0))) := by exact X1d.out
  clear K1d X1d S1d HN2
  generalize W1.drewN kd = W at *
  have HNd : Hid (NodeAt TT E W n r L) := by exact HN.out.keep K2d.out fun _ _ _ h => h
  have hlv := leaf_any HNd.out
  rw [HKS.out] at hlv
  simp only [Option.isNone_some] at hlv
  unfold ptr at *
  go_wp2_with fail
  refine hlv.mono ?_
  rintro e w1 ⟨rfl, rfl⟩
  clear hlv
  go_upto_region 17 with (fail)
  refine wp_world ?_
  intro W2 hW2
  have K3 : Hid (Keep Nothing w W2) := by subst hW2; exact K2d.out.al _
  have S3 : W2.heap.size = q + 2 := by subst hW2; rw [World.size_alloc, S2d]
  have X3 : Hid (W2.heap[q]? = some (.cells (E.enc ((⟨#[]⟩ : ByteArray), 0)).toArray 161 (0, 0))) := by subst hW2; exact blk_alloc _ X2d.out
  have Y3 : Hid (W2.heap[q + 1]? = some (.cells (E.enc ((⟨#[]⟩ : ByteArray), 0)).toArray 161 (0, 0))) := by subst hW2; rw [← S2d]; exact heap_alloc_new W _
  clear hW2 K2d S2d X2d HNd
  have HN3 : Hid (NodeAt TT E W2 n r L) := by exact HN.out.keep K3.out fun _ _ _ h => h
  have hrow := HN3.out.2.1
  have hpos : 0 < (E.all r.items).length := by
    obtain ⟨hil, _⟩ := List.getElem?_eq_some_iff.1 HY.out
    rw [E.all_len]; exact Nat.mul_pos (by omega) E.pos
  obtain ⟨ib, io, hia, _⟩ := hrow.form hpos
  have HIA := Lib.hid hia
  obtain ⟨c0, c1, c2, c3, fz⟩ := blk4 HN3.out.1
  rw [hia] at hrow c2
  have ck := key_cell hrow HY.out
  have cv := val_cell hrow HY.out
  unfold kv at ck
  obtain ⟨hil2, _⟩ := List.getElem?_eq_some_iff.1 HY.out
  obtain ⟨y0, y1, yf⟩ := blk2 Y3.out
  unfold kv at y1
  clear c0 c1 c3 hia hrow
  go_upto_region 23 with (fail)
  refine wp_world ?_
  intro W4 hW4
  have K4 : Hid (Keep Nothing w W4) := by
    have hwq := XQ.out
    subst hW4; refine (K3.out.set _ _ _ ?_).set _ _ _ ?_ <;> exact fun h => by omega
  have S4 : W4.heap.size = q + 2 := by subst hW4; simpa using S3
  have X4 : Hid (W4.heap[q]? = some (.cells (E.enc ((⟨#[]⟩ : ByteArray), 0)).toArray 161 (0, 0))) := by subst hW4; exact blk_far _ (blk_far _ X3.out (by omega)) (by omega)
  have Y4 : Hid (W4.heap[q + 1]? = some (.cells (E.enc z).toArray 161 (0, 0))) := by subst hW4; exact blk_set _ (blk_set _ Y3.out)
  clear hW4 K3 S3 X3 Y3 HN3 c2 fz ck cv y0 y1 yf
  have HN4 : Hid (NodeAt TT E W4 n r L) := by exact HN.out.keep K4.out fun _ _ _ h => h
  obtain ⟨c0, c1, c2, c3, fz⟩ := blk4 HN4.out.1
  rw [HKS.out] at c3
  obtain ⟨g1, g2, g3⟩ := HN4.out.2.2.2 ks HKS.out
  rw [HKA.out] at g1
  obtain ⟨g4, fz3⟩ := blk1 g1
  obtain ⟨hil, _⟩ := List.getElem?_eq_some_iff.1 HIK.out
  simp only [kidsVal, ptr] at c3
  have hcl := Lib.hid (HCALL.out W4.drew K4.out.dr)
  have HHe : Hdr W4 b hr := blk_keep HH.out K4.out fun _ h => h
  have he : W4.cell? ⟨b, 5, none⟩ = some (kv (ky hr.emp)) := (hdr_emp HHe).2
  unfold kv at he
  clear c0 c1 c2 g1 g2 HHe hcl
  have hcq : Hid (∀ W, Keep Nothing w W → Calls Try.prog 132 #[.pointer (some ⟨b, 0, none⟩), .pointer (some ⟨kb, ko + i, none⟩), .bool true, .string (ky hr.emp)] W (DelDown w W b hr n r L c G)) := by exact HCALL.out
  have zz : Hid (∀ (cs : Array Value), (W4.drew.alloc (.cells cs 161)).heap[q + 2]? = some (.cells cs 161 (0, 0))) := by
    have e : W4.drew.heap.size = q + 2 := S4
    exact Lib.hid fun cs => e ▸ heap_alloc_new W4.drew _
  have hcbq : L.cb < q := by
    have h1 := lt_of_heap (HN.out.2.2.2 ks HKS.out).1
    have := XQ.out
    omega
  have nq1 : n ≠ q + 2 := by omega
  have nq2 : L.cb ≠ q + 2 := by omega
  have nq3 : b ≠ q + 2 := by omega
  have nq4 : q + 2 ≠ n := by omega
  have nq5 : q + 2 ≠ L.cb := by omega
  have nq6 : q + 2 ≠ b := by omega
  go_wp2_with fail
  go_region_held3 (fun w' => w'.cell? ⟨n, 3, none⟩ = some (.pointer (some ⟨L.cb, 0, none⟩)) ∧ w'.cell? ⟨L.cb, 0, none⟩ = some (.slice (some ⟨kb, ko, none⟩) ks.length L.kcap) ∧ w'.cell? ⟨b, 5, none⟩ = some (.string (ky hr.emp))) (first | exact ⟨c3b, g4b, heb⟩ | go_keep | (refine ⟨(cell_set_far _ nq1).trans ((cell_set_far _ nq1).trans c3b), (cell_set_far _ nq2).trans ((cell_set_far _ nq2).trans g4b), (cell_set_far _ nq3).trans ((cell_set_far _ nq3).trans heb)⟩))
    ((go_at_call 132; refine (hcq.out _ ?_).mono ?_; (first | exact K4.out.dr | exact K4.out.dr.al _ | exact (K4.out.al _).dr); rintro e W3 ⟨y, del, rc, Lc, rfl, hK3, hN3, hNc, hcn, hrl, hH3, hfc, hsp, hG3⟩; have HN4 := Lib.hid hN3; have HNC := Lib.hid hNc; have HG3 := Lib.hid hG3; have HH3 := Lib.hid hH3; have HK3 := Lib.hid hK3; have HSP := Lib.hid hsp; have HFC := Lib.hid hfc; (try (have z16 := blk_keep (zz.out _) HK3.out fun o h => (by have := XQ.out; omega); obtain ⟨z0, z1, zf⟩ := blk2 z16)); have c3b := kidsV HN4.out HKS.out; have g4b := kidsC HN4.out HKS.out HKA.out; have heb := empK HH3.out; unfold kv at heb; have nn1 := World.new_ne W3 _ c3b; have nn2 := World.new_ne W3 _ g4b; have nn3 := World.new_ne W3 _ heb; clear hN3 hNc hG3 hK3 hH3 hsp hfc; unfold pv kv))
  all_goals
    have hwq := XQ.out
    have hw2 : W4.drew.heap.size = q + 2 := S4
    have hw3 : q + 2 ≤ W3.heap.size := by have := HK3.out.size; simp at this; omega
    go_upto_region 25 with (fail)
    refine wp_world ?_
    intro W5 hW5
    first
      | (have Y16 : Hid (W5.heap[q + 2]? = some (.cells (E.enc y).toArray 161 (0, 0))) := by subst hW5; exact blk_set _ (blk_set _ z16)
         have K5 : Hid (Keep (fun b _ => b = q + 2) W3 W5) := by
           subst hW5; refine ((Keep.refl _ _).set _ _ _ ?_).set _ _ _ ?_ <;> exact fun _ => rfl
         have HNC5 : Hid (NodeAt TT E W5 c rc Lc) := by exact HNC.out.keep K5.out fun x o hf h => by have := HFC.out x o hf; simp at this; omega
         obtain ⟨M, hM⟩ : ∃ M, M = (W4.drew.alloc (.cells (E.enc ((⟨#[]⟩ : ByteArray), 0)).toArray 161)).heap.size := ⟨_, rfl⟩
         replace hM := Lib.hid hM
         have KP : Hid (Keep (fun b _ => w.heap.size ≤ b ∧ b < M) W3 W5) := by rw [hM.out]; exact K5.out.mono fun _ _ _ h => ⟨by omega, by rw [World.size_alloc]; omega⟩
         have KC : Hid (Keep Nothing w (W4.drew.alloc (.cells (E.enc ((⟨#[]⟩ : ByteArray), 0)).toArray 161))) := by exact K4.out.dr.al _)
      | (have Y16 : Hid (W5.heap[W3.heap.size]? = some (.cells (E.enc y).toArray 161 (0, 0))) := by subst hW5; exact heap_alloc_new W3 _
         have K5 : Hid (Keep (fun b _ => b = q + 2) W3 W5) := by subst hW5; exact (Keep.refl _ _).al _
         have HNC5 : Hid (NodeAt TT E W5 c rc Lc) := by subst hW5; exact HNC.out.keep ((Keep.refl Nothing _).al _) fun _ _ _ h => h
         obtain ⟨M, hM⟩ : ∃ M, M = W4.drew.heap.size := ⟨_, rfl⟩
         replace hM := Lib.hid hM
         have KP : Hid (Keep (fun b _ => w.heap.size ≤ b ∧ b < M) W3 W5) := by subst hW5; exact ((Keep.refl Nothing _).al _).mono fun _ _ _ h => h.elim
         have KC : Hid (Keep Nothing w W4.drew) := by exact K4.out.dr)
    have X4 : Hid (W3.heap[q]? = some (.cells (E.enc ((⟨#[]⟩ : ByteArray), 0)).toArray 161 (0, 0))) := by
      refine Lib.hid (blk_keep (S := fun b _ => b < w.heap.size) ?_ HK3.out fun o h => by omega)
      first | exact X4.out | exact blk_alloc _ X4.out
    have Y4 : Hid (W3.heap[q + 1]? = some (.cells (E.enc z).toArray 161 (0, 0))) := by
      refine Lib.hid (blk_keep (S := fun b _ => b < w.heap.size) ?_ HK3.out fun o h => by omega)
      first | exact Y4.out | exact blk_alloc _ Y4.out
    have X5 : Hid (W5.heap[q]? = some (.cells (E.enc ((⟨#[]⟩ : ByteArray), 0)).toArray 161 (0, 0))) := by exact blk_keep X4.out K5.out fun o h => by omega
    have Y5 : Hid (W5.heap[q + 1]? = some (.cells (E.enc z).toArray 161 (0, 0))) := by exact blk_keep Y4.out K5.out fun o h => by omega
    have HN5 : Hid (NodeAt TT E W5 n r L) := by exact HN4.out.keep K5.out fun x o hf h => by have := HN.out.lt hf; omega
    have HH5 : Hid (Hdr W5 b hr) := by exact blk_keep HH3.out K5.out fun o h => by omega
    clear hW5 X4 Y4
    obtain ⟨c0, c1, c2, c3, fz⟩ := blk4 HN5.out.1
    have hrow := HN5.out.2.1
    rw [HIA.out] at hrow c2
    have ck := key_cell hrow HY.out
    have cv := val_cell hrow HY.out
    have fz2 := hrow.frozen
    obtain ⟨u0, u1, uf⟩ := blk2 Y16.out
    unfold kv at u1
    unfold kv at ck
    clear c0 c1 c3 hrow
    go_wp2_with fail
    refine wp_calm (by kernel_rfl) (by kernel_rfl) rfl ?_
    simp only [List.flatMap_cons, List.flatMap_nil, checks, chk, nilLit, List.cons_append, List.nil_append, List.append_nil]
    go_wp2_with fail
    rw [HQ_normal]
    go_upto_region 29 with (fail)
    refine wp_world ?_
    intro W6 hW6
    have hfp : Hid (∀ o, io + i * 2 ≤ o → o < io + (i + 1) * 2 → fp TT n r L ib o) := by
      intro o h1 h2
      have h3 := HN.out.2.2.1
      obtain ⟨h4, _⟩ := List.getElem?_eq_some_iff.1 HY.out
      exact .inr (.inl ⟨ib, io, HIA.out, rfl, by omega, by simp only [TT, E]; omega⟩)
    have hib2 : ib < w.heap.size := HN.out.lt (hfp.out (io + i * 2) (Nat.le_refl _) (by omega))
    have hrow := HN5.out.2.1
    rw [HIA.out] at hrow
    have hibn : ib ≠ n := by
      obtain ⟨arr, harr⟩ := hrow.blk
      exact (blk_ne HN5.out.1 harr ty_ok.a).symm
    have K6 : Hid (Keep (fun x o => x = ib ∧ io + i * 2 ≤ o ∧ o < io + (i + 1) * 2) W5 W6) := by
      subst hW6; refine (((Keep.refl _ _).set _ _ _ ?_).set _ _ _ ?_).dr <;> exact fun _ => ⟨rfl, by omega, by omega⟩
    have B6 : W6.heap[n]? = some (.cells #[.int .u64 r.iso, .int .i64 r.cnt, .slice L.ia (r.items.set i y).length L.icap, kidsVal r.kids L.cb] 172 (0, 0)) := by
      have h1 := HN5.out.1
      rw [List.length_set]
      exact blk_keep h1 K6.out fun o h => hibn h.1.symm
    have N6 : Hid (NodeAt TT E W6 n { r with items := r.items.set i y } L) := by
      refine ⟨B6, ?_, by simpa using HN5.out.2.2.1, fun ks hks => ?_⟩
      · subst hW6
        have hl2 : (E.all r.items).length = r.items.length * 2 := E.all_len _
        obtain ⟨hil, _⟩ := List.getElem?_eq_some_iff.1 HY.out
        have := (hrow.setCell (j := i * 2) (.int .i64 y.2) (by omega)).setCell (j := i * 2 + 1) (kv (ky y)) (by rw [List.length_set]; omega)
        rw [← Nat.add_assoc] at this
        rw [HIA.out]
        simp only
        rw [all_set y hil]
        exact this.keep (Keep.drew Nothing _) fun _ _ _ h => h
      · obtain ⟨h5, h6, h7⟩ := HN5.out.2.2.2 ks hks
        obtain ⟨arr, harr⟩ := hrow.blk
        refine ⟨blk_keep h5 K6.out fun o h => ?_, h6.keep' K6.out fun x o hf h => ?_, h7⟩
        · exact blk_ne harr h5 ty_ok.d h.1.symm
        · obtain ⟨arr2, harr2⟩ := h6.block ⟨_, hf⟩
          exact blk_ne harr harr2 ty_ok.f h.1.symm
    have NC6 : Hid (NodeAt TT E W6 c rc Lc) := by exact HNC5.out.keep K6.out fun x o hf h => HSP.out x o hf (by rw [h.1]; exact hfp.out o h.2.1 h.2.2)
    have X6 : Hid (W6.heap[q]? = some (.cells (E.enc ((⟨#[]⟩ : ByteArray), 0)).toArray 161 (0, 0))) := by exact blk_keep X5.out K6.out fun o h => by have := h.1; omega
    have Y6 : Hid (W6.heap[q + 1]? = some (.cells (E.enc z).toArray 161 (0, 0))) := by exact blk_keep Y5.out K6.out fun o h => by have := h.1; omega
    have HH6 : Hid (Hdr W6 b hr) := by exact blk_keep HH5.out K6.out fun o h => hdr_apart HH.out HN.out (o := o) (by rw [h.1]; exact hfp.out o h.2.1 h.2.2)
    clear hW6 B6 hrow X5 Y5 Y16 HN5 HNC5 HH5 c2 fz ck fz2 cv u0 u1 uf
    have K7 : Hid (Keep (fun b o => fp TT n r L b o ∨ (w.heap.size ≤ b ∧ b < M)) W3 W6) := by exact (KP.out.mono fun _ _ _ h => .inr h).trans K6.out fun x o hx h => .inl (by rw [h.1]; exact hfp.out o h.2.1 h.2.2)
    obtain ⟨c0, c1, c2, c3, fz⟩ := blk4 N6.out.1
    have hb1 : -9223372036854775808 ≤ r.cnt - 1 ∧ r.cnt - 1 ≤ 9223372036854775807 := by omega
    clear c0 c2 c3 hib2
    go_upto_region 30 with (fail)
    refine wp_world ?_
    intro W7 hW7
    have K8 : Hid (Keep (fun b o => fp TT n r L b o ∨ (w.heap.size ≤ b ∧ b < M)) W3 W7) := by
      subst hW7; exact K7.out.set _ _ _ fun _ => .inl (.inl rfl)
    have K78 : Hid (Keep (fun b o => b = n ∧ o = 1) W6 W7) := by
      subst hW7; refine (Keep.refl _ _).set _ _ _ ?_; exact fun _ => ⟨rfl, rfl⟩
    have N8 : Hid (NodeAt TT E W7 n { r with cnt := r.cnt - 1, items := r.items.set i y } L) := by
      refine N6.out.reset ty_ok (K78.out.mono fun _ _ _ h => h.1) ?_
      subst hW7; exact blk_set _ N6.out.1
    have NC8 : Hid (NodeAt TT E W7 c rc Lc) := by exact NC6.out.keep K78.out fun x o hf h => by rw [h.1] at hf; exact node_apart N6.out NC6.out hcn hf
    have X8 : Hid (W7.heap[q]? = some (.cells (E.enc ((⟨#[]⟩ : ByteArray), 0)).toArray 161 (0, 0))) := by exact blk_keep X6.out K78.out fun o h => by omega
    have Y8 : Hid (W7.heap[q + 1]? = some (.cells (E.enc z).toArray 161 (0, 0))) := by exact blk_keep Y6.out K78.out fun o h => by omega
    have HH8 : Hid (Hdr W7 b hr) := by exact blk_keep HH6.out K78.out fun o h => hdr_apart HH.out HN.out (o := o) (by rw [h.1]; exact .inl rfl)
    clear hW7 X6 Y6 N6 NC6 K78 K6 K7 HH6 c1 fz
    obtain ⟨c0, c1, c2, c3, fz⟩ := blk4 N8.out.1
    simp only [HKS.out] at c3
    obtain ⟨g1, g2, g3⟩ := N8.out.2.2.2 ks HKS.out
    rw [HKA.out] at g1 g2
    obtain ⟨g4, fz3⟩ := blk1 g1
    have g5 : W7.cell? ⟨kb, ko + i, none⟩ = some (ptr c) := g2.cell (by simp [HIK.out])
    obtain ⟨e0, e1, e2, e3, efz⟩ := blk4 NC8.out.1
    have hmnc := hdr_min HH8.out
    simp only [kidsVal, ptr] at c3 g5
    clear c0 c1 c2 g1 g2 e0 e1 e3
    go_wp2_with fail
    refine wp_calm (by kernel_rfl) (by kernel_rfl) rfl ?_
    simp only [List.flatMap_cons, List.flatMap_nil, checks, chk, nilLit, List.cons_append, List.nil_append, List.append_nil]
    go_wp2_with fail
    rw [HQ_normal]
    have hMq : q + 2 ≤ M := by
      have := hM.out
      first | (rw [World.size_alloc] at this; omega) | omega
    have N7 : Hid (NodeAt TT E W7.drew n { r with cnt := r.cnt - 1, items := r.items.set i y } L) := by exact N8.out.keep (Keep.drew Nothing _) fun _ _ _ h => h
    have K7 : Hid (Keep (fun b o => fp TT n r L b o ∨ (w.heap.size ≤ b ∧ b < M)) W3 W7.drew) := by exact K8.out.dr
    have X7 : Hid (W7.drew.heap[q]? = some (.cells (E.enc ((⟨#[]⟩ : ByteArray), 0)).toArray 161 (0, 0))) := by exact X8.out
    have Y7 : Hid (W7.drew.heap[q + 1]? = some (.cells (E.enc z).toArray 161 (0, 0))) := by exact Y8.out
    clear N8 NC8 K8 X8 Y8 HH8 c3 fz g3 g4 fz3 g5 e2 efz hmnc
    generalize W7.drew = X at *
    have KX := K7
    rw [hM.out] at KX
    by_cases hsm : (rc.items.length : Int) < hr.mn
    · have hrb := HREB.out
      rw [← hwq] at hrb
      have hre := Lib.hid (hrb _ W3 y del rc X KC.out HG3.out HK3.out KX.out N7.out hsm)
      clear hrb
      unfold ptr at hre
      go_wp2_with fail
      refine hre.out.mono ?_
      rintro e X' ⟨rfl, hKX, hRB⟩
      have X8 : Hid (X'.heap[q]? = some (.cells (E.enc ((⟨#[]⟩ : ByteArray), 0)).toArray 161 (0, 0))) := by exact blk_keep X7.out hKX fun o h => by (try rw [World.size_alloc] at h); omega
      have Y8 : Hid (X'.heap[q + 1]? = some (.cells (E.enc z).toArray 161 (0, 0))) := by exact blk_keep Y7.out hKX fun o h => by (try rw [World.size_alloc] at h); omega
      have HRB := Lib.hid hRB
      clear hre hKX hRB X7 Y7
      obtain ⟨y0, y1, yf⟩ := blk2 Y8.out
      obtain ⟨x0, x1, xf⟩ := blk2 X8.out
      unfold kv at y1 x1
      have X9 : Hid (((X'.setCell ⟨q, 0, none⟩ (.int .i64 z.2)).setCell ⟨q, 1, none⟩ (kv (ky z))).heap[q]? = some (.cells (E.enc z).toArray 161 (0, 0))) := by exact blk_set _ (blk_set _ X8.out)
      have K9 : Hid (Keep (fun b _ => w.heap.size ≤ b ∧ b < M) X' ((X'.setCell ⟨q, 0, none⟩ (.int .i64 z.2)).setCell ⟨q, 1, none⟩ (kv (ky z)))) := by
        refine ((Keep.refl _ _).set _ _ _ ?_).set _ _ _ ?_ <;> exact fun _ => ⟨by omega, by omega⟩
      go_wp2_with fail
      refine bodyPost_ret (results_cell_tmp_row rfl _ _ q 161 (E.enc z).toArray (0, 0) _ rfl X9.out Try.underlying161 rfl (by kernel_rfl)) rfl ?_
      exact ⟨_, W3, y, del, rc, KC.out, HG3.out, HK3.out, rfl, X, X', KX.out, N7.out, .inr ⟨hsm, HRB.out⟩, (by rw [hM.out] at K9; exact K9.out)⟩
    · have hd : ¬ (rc.items.length : Int) < hr.mn := hsm
      obtain ⟨y0, y1, yf⟩ := blk2 Y7.out
      obtain ⟨x0, x1, xf⟩ := blk2 X7.out
      unfold kv at y1 x1
      have X9 : Hid (((X.setCell ⟨q, 0, none⟩ (.int .i64 z.2)).setCell ⟨q, 1, none⟩ (kv (ky z))).heap[q]? = some (.cells (E.enc z).toArray 161 (0, 0))) := by exact blk_set _ (blk_set _ X7.out)
      have K9 : Hid (Keep (fun b _ => w.heap.size ≤ b ∧ b < M) X ((X.setCell ⟨q, 0, none⟩ (.int .i64 z.2)).setCell ⟨q, 1, none⟩ (kv (ky z)))) := by
        refine ((Keep.refl _ _).set _ _ _ ?_).set _ _ _ ?_ <;> exact fun _ => ⟨by omega, by omega⟩
      go_wp2_with fail
      refine bodyPost_ret (results_cell_tmp_row rfl _ _ q 161 (E.enc z).toArray (0, 0) _ rfl X9.out Try.underlying161 rfl (by kernel_rfl)) rfl ?_
      exact ⟨_, W3, y, del, rc, KC.out, HG3.out, HK3.out, rfl, X, X, KX.out, N7.out, .inl ⟨by omega, rfl⟩, (by rw [hM.out] at K9; exact K9.out)⟩
end Go.Proofs.Ytckplcmieelmpaa.W

namespace Go.Wb
variable {α : Type} {lt : α → α → Bool}

/-- x is taken out of a sorted list, if it is there. -/
def Del (lt : α → α → Bool) (l : List α) (x : α) (l' : List α) : Option α → Prop
  | none => l' = l ∧ ∃ A B, l = A ++ B ∧ (∀ a ∈ A, lt a x = true) ∧ ∀ b ∈ B, lt x b = true
  | some p => ∃ A B, l = A ++ p :: B ∧ l' = A ++ B ∧ lt p x = false ∧ lt x p = false ∧ (∀ a ∈ A, lt a x = true) ∧ ∀ b ∈ B, lt x b = true

theorem Del.frame {l l' : List α} {x : α} {p : Option α} (h : Del lt l x l' p) (C D : List α) (hC : ∀ a ∈ C, lt a x = true) (hD : ∀ b ∈ D, lt x b = true) : Del lt (C ++ l ++ D) x (C ++ l' ++ D) p := by
  cases p with
  | none =>
    obtain ⟨rfl, A, B, rfl, hA, hB⟩ := h
    refine ⟨rfl, C ++ A, B ++ D, by simp, ?_, ?_⟩
    · intro a ha; exact (List.mem_append.1 ha).elim (hC a) (hA a)
    · intro b hb; exact (List.mem_append.1 hb).elim (hB b) (hD b)
  | some p =>
    obtain ⟨A, B, rfl, rfl, h1, h2, hA, hB⟩ := h
    refine ⟨C ++ A, B ++ D, by simp, by simp, h1, h2, ?_, ?_⟩
    · intro a ha; exact (List.mem_append.1 ha).elim (hC a) (hA a)
    · intro b hb; exact (List.mem_append.1 hb).elim (hB b) (hD b)
theorem Del.len {l l' : List α} {x : α} {p : Option α} (h : Del lt l x l' p) : l.length = l'.length + if p.isSome then 1 else 0 := by
  cases p with
  | none => obtain ⟨rfl, _⟩ := h; simp
  | some p => obtain ⟨A, B, rfl, rfl, _⟩ := h; simp; omega
theorem Del.sorted {l l' : List α} {x : α} {p : Option α} (h : Del lt l x l' p) (hs : Sorted lt l) : Sorted lt l' := by
  cases p with
  | none => obtain ⟨rfl, _⟩ := h; exact hs
  | some p => obtain ⟨A, B, rfl, rfl, _⟩ := h; exact List.Pairwise.sublist (List.Sublist.append_left (List.sublist_cons_self _ _) _) hs

/-- As wfr, without the sizes of the node itself. -/
def body (mn mx : Nat) : Nat → Tr α → Prop
  | 0, t => t.ks = []
  | h + 1, t => t.ks.length = t.its.length + 1 ∧ ∀ k ∈ t.ks, wfr mn mn mx h k
theorem wfr.body {l mn mx h : Nat} {t : Tr α} (hw : wfr l mn mx h t) : body mn mx h t := by
  cases h with
  | zero => exact hw.2.2
  | succ h => exact hw.2.2
theorem body.wfr {l mn mx h : Nat} {t : Tr α} (hb : Wb.body mn mx h t) (h1 : l ≤ t.its.length) (h2 : t.its.length ≤ mx) : wfr l mn mx h t := by
  cases h with
  | zero => exact ⟨h1, h2, hb⟩
  | succ h => exact ⟨h1, h2, hb⟩

/-- Two nodes and the item between them as one node. -/
def mergeT (a : Tr α) (m : α) (b : Tr α) : Tr α := .node (a.its ++ m :: b.its) (a.ks ++ b.ks)
theorem merge_body {mn mx h : Nat} {a b : Tr α} {m : α} (ha : body mn mx h a) (hb : body mn mx h b) : body mn mx h (mergeT a m b) := by
  cases h with
  | zero =>
    have h1 : a.ks = [] := ha
    have h2 : b.ks = [] := hb
    simp [body, mergeT, Tr.ks]
    simp only [Tr.ks] at h1 h2
    exact ⟨h1, h2⟩
  | succ h =>
    obtain ⟨a1, a2⟩ := ha
    obtain ⟨b1, b2⟩ := hb
    obtain ⟨ai, ak⟩ := a
    obtain ⟨bi, bk⟩ := b
    simp only [Tr.its, Tr.ks] at a1 a2 b1 b2
    refine ⟨by simp only [mergeT, Tr.its, Tr.ks, List.length_append, List.length_cons]; omega, fun k hk => ?_⟩
    simp only [mergeT, Tr.ks, List.mem_append] at hk
    exact hk.elim (a2 k) (b2 k)
theorem merge_len (a : Tr α) (m : α) (b : Tr α) : (mergeT a m b).its.length = a.its.length + b.its.length + 1 := by simp [mergeT, Tr.its]; omega

theorem flat_cutB {mn mx h : Nat} {t : Tr α} (hw : body mn mx h t) {i : Nat} {m : α} (hi : t.its[i]? = some m) : flat h t = flat h (cutL i t) ++ m :: flat h (cutR i t) := by
  obtain ⟨its, ks⟩ := t
  simp only [Tr.its] at hi
  obtain ⟨hlt, rfl⟩ := List.getElem?_eq_some_iff.1 hi
  cases h with
  | zero =>
    simp [flat, cutL, cutR, Tr.its]
  | succ h =>
    have hk : ks.length = its.length + 1 := hw.1
    obtain ⟨A, b, B, e, hA, _⟩ := split_at its i hlt
    obtain ⟨K1, k, K2, e2, hK1, _⟩ := split_at ks i (by omega)
    have hK2 : K2.length = B.length + 1 := by rw [e, e2, List.length_append, List.length_append, List.length_cons, List.length_cons] at hk; omega
    cases K2 with
    | nil => simp at hK2
    | cons k' K2 =>
      subst e
      subst e2
      subst hA
      simp only [flat, cutL, cutR, Tr.its, Tr.ks, List.map_append, List.map_cons]
      have t1 : (A ++ b :: B).take A.length = A := by simp
      have t2 : (A ++ b :: B).drop (A.length + 1) = B := by simp
      have t3 : (K1 ++ k :: k' :: K2).take (A.length + 1) = K1 ++ [k] := by rw [← hK1, List.take_length_add_append]; rfl
      have t4 : (K1 ++ k :: k' :: K2).drop (A.length + 1) = k' :: K2 := by rw [← hK1, List.drop_length_add_append]; rfl
      rw [t1, t2, t3, t4, wl_wr _ _ _ _ _ (by simpa using hK1), List.map_append, List.map_cons, List.map_nil]
      have := wl_wr (K1.map (flat h)) A (flat h k) [] [] (by simpa using hK1)
      simp only [List.append_nil] at this
      rw [this]
      simp [wr, weave]

theorem merge_cut {mn mx h : Nat} {a b : Tr α} {m : α} (ha : body mn mx h a) (hb : body mn mx h b) : cutL a.its.length (mergeT a m b) = a ∧ cutR a.its.length (mergeT a m b) = b := by
  obtain ⟨ai, ak⟩ := a
  obtain ⟨bi, bk⟩ := b
  cases h with
  | zero =>
    have h1 : ak = [] := ha
    have h2 : bk = [] := hb
    subst h1 h2
    simp [cutL, cutR, mergeT, Tr.its, Tr.ks]
  | succ h =>
    have h1 : ak.length = ai.length + 1 := ha.1
    have t3 : (ak ++ bk).take (ai.length + 1) = ak := by rw [← h1]; simp
    have t4 : (ak ++ bk).drop (ai.length + 1) = bk := by rw [← h1]; simp
    simp [cutL, cutR, mergeT, Tr.its, Tr.ks, t3, t4]

theorem flat_merge {mn mx h : Nat} {a b : Tr α} {m : α} (ha : body mn mx h a) (hb : body mn mx h b) : flat h (mergeT a m b) = flat h a ++ m :: flat h b := by
  have hm : (mergeT a m b).its[a.its.length]? = some m := by simp [mergeT, Tr.its]
  rw [flat_cutB (merge_body ha hb) hm, (merge_cut ha hb).1, (merge_cut ha hb).2]

theorem cut_body {mn mx h : Nat} {t : Tr α} (hw : body mn mx h t) {i : Nat} (hi : i < t.its.length) : body mn mx h (cutL i t) ∧ body mn mx h (cutR i t) := by
  obtain ⟨its, ks⟩ := t
  simp only [Tr.its] at hi
  cases h with
  | zero =>
    have hk : ks = [] := hw
    subst hk
    simp [body, cutL, cutR, Tr.ks]
  | succ h =>
    obtain ⟨w3, w4⟩ := hw
    simp only [Tr.its, Tr.ks] at w3 w4
    simp only [body, cutL, cutR, Tr.its, Tr.ks, List.length_take, List.length_drop]
    exact ⟨⟨by omega, fun k hk => w4 k (List.mem_of_mem_take hk)⟩, by omega, fun k hk => w4 k (List.mem_of_mem_drop hk)⟩

/-- Two neighbours, one of which has too few items, are put right: as one node, or by an item that moves. -/
def Reb (mx : Nat) (I1 I2 : List α) (K1 K2 : List (Tr α)) (a : Tr α) (m : α) (b : Tr α) (t' : Tr α) : Prop :=
  (a.its.length + b.its.length < mx ∧ t' = .node (I1 ++ I2) (K1 ++ mergeT a m b :: K2)) ∨
  mx ≤ a.its.length + b.its.length ∧ ∃ j m', j = (if b.its.length < a.its.length then a.its.length - 1 else a.its.length + 1) ∧ (mergeT a m b).its[j]? = some m' ∧
    t' = .node (I1 ++ m' :: I2) (K1 ++ cutL j (mergeT a m b) :: cutR j (mergeT a m b) :: K2)

theorem Reb.flat {mn mx h : Nat} {I1 I2 : List α} {K1 K2 : List (Tr α)} {a b t' : Tr α} {m : α} (hr : Reb mx I1 I2 K1 K2 a m b t') (h1 : K1.length = I1.length) (ha : body mn mx h a) (hb : body mn mx h b) :
    flat (h + 1) t' = flat (h + 1) (.node (I1 ++ m :: I2) (K1 ++ a :: b :: K2)) := by
  have e := flat_split (I2 := I2) (K2 := K2) h1 (flat_merge (m := m) ha hb)
  rcases hr with ⟨_, rfl⟩ | ⟨_, j, m', _, hj, rfl⟩
  · exact e.symm
  · exact (flat_split h1 (flat_cutB (merge_body ha hb) hj)).trans e.symm

theorem Reb.wf {mn mx h : Nat} {I1 I2 : List α} {K1 K2 : List (Tr α)} {a b t' : Tr α} {m : α} (hr : Reb mx I1 I2 K1 K2 a m b t') (h1 : K1.length = I1.length) (h2 : K2.length = I2.length) (ha : body mn mx h a) (hb : body mn mx h b)
    (hmn : 2 * mn ≤ mx) (hab : (a.its.length + 1 = mn ∧ mn ≤ b.its.length ∧ b.its.length ≤ mx) ∨ (b.its.length + 1 = mn ∧ mn ≤ a.its.length ∧ a.its.length ≤ mx)) (hK : ∀ k ∈ K1 ++ K2, wfr mn mn mx h k) : body mn mx (h + 1) t' ∧ (t'.its.length = I1.length + I2.length ∨ t'.its.length = I1.length + I2.length + 1) := by
  have hM := merge_body (m := m) ha hb
  have hl := merge_len a m b
  rcases hr with ⟨h3, rfl⟩ | ⟨h3, j, m', hj, hm, rfl⟩
  · refine ⟨⟨by simp [Tr.its, Tr.ks]; omega, fun k hk => ?_⟩, .inl (by simp [Tr.its])⟩
    simp only [Tr.ks, List.mem_append, List.mem_cons] at hk
    rcases hk with hk | rfl | hk
    · exact hK k (by simp [hk])
    · exact hM.wfr (by omega) (by omega)
    · exact hK k (by simp [hk])
  · obtain ⟨hjl, _⟩ := List.getElem?_eq_some_iff.1 hm
    obtain ⟨c1, c2⟩ := cut_body hM hjl
    have l1 : (cutL j (mergeT a m b)).its.length = j := by simp only [cutL, Tr.its, List.length_take] at hjl ⊢; omega
    have l2 : (cutR j (mergeT a m b)).its.length = (mergeT a m b).its.length - (j + 1) := by simp only [cutR, Tr.its, List.length_drop]
    refine ⟨⟨by simp [Tr.its, Tr.ks]; omega, fun k hk => ?_⟩, .inr (by simp [Tr.its]; omega)⟩
    simp only [Tr.ks, List.mem_append, List.mem_cons] at hk
    rcases hk with hk | rfl | rfl | hk
    · exact hK k (by simp [hk])
    · refine c1.wfr ?_ ?_ <;> rw [l1, hj] <;> split <;> omega
    · refine c2.wfr ?_ ?_ <;> rw [l2, hj, hl] <;> split <;> omega
    · exact hK k (by simp [hk])
end Go.Wb

namespace Go.Proofs.Ytckplcmieelmpaa.W
open Go.RowKit Go.Wb

/-- An item of a key. -/
def mkIt (k : Ky) : It := (k, 0)
theorem ky_mk (k : Ky) : ky (mkIt k) = k := rfl

/-- The key's item is taken out, or the last one. -/
def Dl (mb : Bool) (k : Ky) (l l' : List It) (p : Option It) : Prop :=
  match mb with
  | false => Del ilt l (mkIt k) l' p
  | true => ∃ y, p = some y ∧ l = l' ++ [y]

theorem Dl.len {mb : Bool} {k : Ky} {l l' : List It} {p : Option It} (h : Dl mb k l l' p) : l.length = l'.length + if p.isSome then 1 else 0 := by
  cases mb with
  | false => exact Del.len h
  | true => obtain ⟨y, rfl, rfl⟩ := h; simp
theorem Dl.frame {mb : Bool} {k : Ky} {l l' : List It} {p : Option It} (h : Dl mb k l l' p) (C D : List It) (hC : mb = false → (∀ a ∈ C, klt (ky a) k = true) ∧ ∀ b ∈ D, klt k (ky b) = true) (hD : mb = true → D = []) : Dl mb k (C ++ l ++ D) (C ++ l' ++ D) p := by
  cases mb with
  | false => exact Del.frame h C D (hC rfl).1 (hC rfl).2
  | true =>
    obtain ⟨y, rfl, rfl⟩ := h
    rw [hD rfl]
    exact ⟨y, rfl, by simp⟩
theorem Dl.sorted {mb : Bool} {k : Ky} {l l' : List It} {p : Option It} (h : Dl mb k l l' p) (hs : Sorted ilt l) : Sorted ilt l' := by
  cases mb with
  | false => exact Del.sorted h hs
  | true => obtain ⟨y, rfl, rfl⟩ := h; exact hs.of_append.1

/-- What is given where an item is deleted below a node. -/
structure DelPre (w : World) (b : Nat) (hr : HRec) (pb po n : Nat) (H : Store It) (L : Nat → Lay) (h : Nat) (t : Tr It) (F : List Nat) (mn mx : Nat) : Prop where
  pre : SetPre w b hr pb po n H L h t F mn mx
  hm : hr.mn = (mn : Int)
  pos : 1 ≤ mn
  ne : 1 ≤ t.its.length

/-- Sizes behind a deletion. -/
structure Less (mn mx h : Nat) (t t' : Tr It) (p : Option It) : Prop where
  body : Wb.body mn mx h t'
  le : t'.its.length ≤ t.its.length
  ge : t.its.length ≤ t'.its.length + 1
  non : p = none → t'.its.length = t.its.length

/-- What deleting leaves. -/
def DelPost (w : World) (H : Store It) (L : Nat → Lay) (F : List Nat) (iso : Int) (mn mx h n : Nat) (t : Tr It) (mb : Bool) (k : Ky) (ep : It) (e : Ending) (w' : World) : Prop :=
  ∃ p t' F' H' L', e = .returned (.tuple #[pv (Option.getD p ep), .bool p.isSome]) ∧ Step TT E w H L F w' H' L' F' ∧ Rep H' iso h n t' F' ∧ F'.Nodup ∧ Less mn mx h t t' p ∧ Dl mb k (flat h t) (flat h t') p

/-- Deleting in a leaf. -/
theorem del_zero {w : World} {b : Nat} {hr : HRec} {pb po n : Nat} {H : Store It} {L : Nat → Lay} {t : Tr It} {F : List Nat} {mn mx : Nat} (P : DelPre w b hr pb po n H L 0 t F mn mx) (mb : Bool) (k : Ky) :
    Calls Try.prog 132 #[ptr b, .pointer (some ⟨pb, po, none⟩), .bool mb, kv k] w (DelPost w H L F hr.iso mn mx 0 n t mb k hr.emp) := by
  have ne := P.ne
  obtain ⟨hdr, cell, mem, rep, nd, wf, srt, hmx, h3, hb, hmn, big⟩ := P.pre
  obtain ⟨r, hr1, hiso, hits, hks0, hkn, hcnt, rfl⟩ := rep
  have hat := mem.at_ n r hr1
  have hwl := wf.2.1
  have hs : Sorted ilt r.items := by rw [hits]; exact srt
  have hlen : r.items.length ≤ 1000000000000 := by rw [hits]; omega
  obtain ⟨its, ks⟩ := t
  simp only [Tr.its, Tr.ks] at *
  subst hits
  subst hks0
  simp only [flat, Tr.its] at hcnt big
  have cut : ∀ (i : Nat) (y : It), r.items[i]? = some y → Dl mb k r.items (r.items.take i ++ r.items.drop (i + 1)) (some y) → ∀ e w', CutPost w n r (L n) y i e w' → DelPost w H L [n] hr.iso mn mx 0 n (.node r.items []) mb k hr.emp e w' := by
    rintro i y hy hd e w' ⟨rfl, hk, hat'⟩
    obtain ⟨hil, _⟩ := List.getElem?_eq_some_iff.1 hy
    have st := Step.one mem hr1 hk hat' fun c o _ hf => hf
    have hl : (r.items.take i ++ r.items.drop (i + 1)).length + 1 = r.items.length := by simp; omega
    refine ⟨some y, .node (r.items.take i ++ r.items.drop (i + 1)) [], [n], _, _, rfl, st, ⟨_, upd_same _ _ _, hiso, rfl, rfl, hkn, ?_, rfl⟩, by simp, ⟨rfl, ?_, ?_, ?_⟩, hd⟩
    · simp only [flat, Tr.its]; omega
    · simp only [Tr.its]; omega
    · simp only [Tr.its]; omega
    · intro h; cases h
  cases mb with
  | true =>
    obtain ⟨i, hi⟩ : ∃ i, i + 1 = r.items.length := ⟨r.items.length - 1, by omega⟩
    have hy : r.items[i]? = some r.items[i] := List.getElem?_eq_getElem (by omega)
    refine (del_leaf hdr cell hat hiso hlen hs (k := k) (mb := true) (.inr ⟨rfl, hi⟩) hy hkn (by omega) (by omega)).mono (cut i _ hy ⟨_, rfl, ?_⟩)
    rw [hi, List.drop_length, List.append_nil]
    have := List.take_append_getElem (l := r.items) (i := i) (by omega)
    rw [this, hi, List.take_length]
  | false =>
    obtain ⟨i, f, hloc⟩ := Loc.ex k r.items hs
    cases f with
    | true =>
      obtain ⟨A, y, B, hits2, hA, hy, h1, h2, hlA, hlB⟩ := loc_found hs hloc
      refine (del_leaf hdr cell hat hiso hlen hs (k := k) (mb := false) (.inl ⟨rfl, hloc⟩) hy hkn (by omega) (by omega)).mono (cut i _ hy ?_)
      refine ⟨A, B, hits2, ?_, h1, h2, hlA, hlB⟩
      rw [hits2, ← hA]
      simp
    | false =>
      obtain ⟨hA, hB⟩ := loc_none hloc
      refine (del_miss hdr cell hat hiso hlen hs hloc hkn).mono ?_
      rintro e w' ⟨rfl, hk⟩
      have st := Step.refl mem [n]
      refine ⟨none, .node r.items [], [n], H, L, rfl, ⟨mem.keepS hk fun _ _ _ _ _ _ h => h, hk.mono fun _ _ _ h => h.elim, st.out, st.new, fun _ _ _ h => h, st.only⟩, ⟨r, hr1, hiso, rfl, rfl, hkn, ?_, rfl⟩, by simp, ⟨rfl, Nat.le_refl _, Nat.le_succ _, fun _ => rfl⟩, rfl, r.items.take i, r.items.drop i, ?_, hA, hB⟩
      · simp only [flat, Tr.its]; omega
      · simp [flat, Tr.its]
end Go.Proofs.Ytckplcmieelmpaa.W

namespace Go.Proofs.Ytckplcmieelmpaa.W
open Go.RowKit Go.Wb

/-- What came between w and W is no node's. -/
def Clr (w W : World) (H : Store It) (L : Nat → Lay) : Prop := ∀ m q, H m = some q → ∀ x o, fp TT m q (L m) x o → ¬ (w.heap.size ≤ x ∧ x < W.heap.size)
/-- A tree lies at node n of X; a tree of w has become it. -/
def Lies (w W X : World) (H : Store It) (L : Nat → Lay) (F : List Nat) (iso : Int) (h n : Nat) (t1 : Tr It) : Prop :=
  ∃ H1 L1 F1, Step TT E w H L F X H1 L1 F1 ∧ Rep H1 iso h n t1 F1 ∧ F1.Nodup ∧ Clr w W H1 L1
/-- What a call below has left. -/
def GoD (H : Store It) (L : Nat → Lay) (Fk : List Nat) (iso : Int) (mn mx h c : Nat) (kt : Tr It) (mb : Bool) (key : Ky) (ep : It) (y : It) (del : Bool) (rc : NRec It) (W W' : World) : Prop :=
  ∃ p k' F' H' L', y = Option.getD p ep ∧ del = p.isSome ∧ H' c = some rc ∧ Step TT E W H L Fk W' H' L' F' ∧ Rep H' iso h c k' F' ∧ F'.Nodup ∧ Less mn mx h kt k' p ∧ Dl mb key (flat h kt) (flat h k') p

theorem Lies.done {w W X w' : World} {H : Store It} {L : Nat → Lay} {F : List Nat} {iso : Int} {mn mx h n : Nat} {t t1 : Tr It} {mb : Bool} {k : Ky} {ep : It} {e : Ending} {p : Option It} (hl : Lies w W X H L F iso h n t1) (hk : Keep (fun b _ => w.heap.size ≤ b ∧ b < W.heap.size) X w')
    (he : e = .returned (.tuple #[pv (Option.getD p ep), .bool p.isSome])) (sz : Less mn mx h t t1 p) (hd : Dl mb k (flat h t) (flat h t1) p) : DelPost w H L F iso mn mx h n t mb k ep e w' := by
  obtain ⟨H1, L1, F1, st, rep, nd, cl⟩ := hl
  exact ⟨p, t1, F1, H1, L1, he, st.post hk (fun _ _ h => h.1) (fun m q hq b o hf => cl m q hq b o hf), rep, nd, sz, hd⟩

/-- What is given where the children of a node are put right at i. -/
structure RebPre (w : World) (b : Nat) (hr : HRec) (H : Store It) (L : Nat → Lay) (h n : Nat) (t : Tr It) (F : List Nat) (mn mx i : Nat) : Prop where
  hdr : Hdr w b hr
  mem : Mem TT E w H L
  rep : Rep H hr.iso (h + 1) n t F
  nd : F.Nodup
  hmx : hr.mx = (mx : Int)
  hb : mx ≤ 1000000000000
  h3 : 3 ≤ mx
  hmn : 2 * mn ≤ mx
  pos : 1 ≤ mn
  le : t.its.length ≤ mx
  ne : 1 ≤ t.its.length
  hks : t.ks.length = t.its.length + 1
  hi : i ≤ t.its.length
  kid : ∀ j k, t.ks[j]? = some k → body mn mx h k ∧ (j = i → k.its.length + 1 = mn) ∧ (j ≠ i → mn ≤ k.its.length ∧ k.its.length ≤ mx)
  big : (flat (h + 1) t).length ≤ 3000000000000000000
def RebPost (w : World) (H : Store It) (L : Nat → Lay) (F : List Nat) (iso : Int) (mn mx h n : Nat) (t : Tr It) (e : Ending) (w' : World) : Prop :=
  e = .returned (.tuple #[]) ∧ ∃ t' F' H' L', Step TT E w H L F w' H' L' F' ∧ Rep H' iso (h + 1) n t' F' ∧ F'.Nodup ∧ body mn mx (h + 1) t' ∧ t'.its.length ≤ t.its.length ∧ t.its.length ≤ t'.its.length + 1 ∧ flat (h + 1) t' = flat (h + 1) t
def RebOK : Prop := ∀ (w : World) (b : Nat) (hr : HRec) (H : Store It) (L : Nat → Lay) (h n : Nat) (t : Tr It) (F : List Nat) (mn mx i : Nat), RebPre w b hr H L h n t F mn mx i →
  Calls Try.prog 176 #[ptr b, ptr n, .int .i64 i] w (RebPost w H L F hr.iso mn mx h n t)

theorem lies_reb (R : RebOK) {w W X : World} {b : Nat} {hr : HRec} {pb po n : Nat} {H : Store It} {L : Nat → Lay} {h : Nat} {t : Tr It} {F : List Nat} {mn mx : Nat} (P : DelPre w b hr pb po n H L (h + 1) t F mn mx) {t1 : Tr It} (hl : Lies w W X H L F hr.iso (h + 1) n t1) (hWX : W.heap.size ≤ X.heap.size) {i : Nat}
    (hl1 : t1.its.length = t.its.length) (hks : t1.ks.length = t1.its.length + 1) (hi : i ≤ t1.its.length) (kid : ∀ j k, t1.ks[j]? = some k → body mn mx h k ∧ (j = i → k.its.length + 1 = mn) ∧ (j ≠ i → mn ≤ k.its.length ∧ k.its.length ≤ mx)) (big : (flat (h + 1) t1).length ≤ 3000000000000000000) :
    Calls Try.prog 176 #[ptr b, ptr n, .int .i64 i] X fun e X' => e = .returned (.tuple #[]) ∧ Keep (fun b _ => b < w.heap.size ∨ W.heap.size ≤ b) X X' ∧
      ∃ t', Lies w W X' H L F hr.iso (h + 1) n t' ∧ body mn mx (h + 1) t' ∧ t'.its.length ≤ t1.its.length ∧ t1.its.length ≤ t'.its.length + 1 ∧ flat (h + 1) t' = flat (h + 1) t1 := by
  obtain ⟨H1, L1, F1, st, rep, nd, cl⟩ := hl
  have hmem := P.pre.mem
  have hdrX : Hdr X b hr := blk_keep P.pre.hdr st.keep fun o ⟨m, q, _, hq, hf⟩ => hdr_apart P.pre.hdr (hmem.at_ m q hq) hf
  have hmn := P.pre.hmn
  refine (R X b hr H1 L1 h n t1 F1 mn mx i ⟨hdrX, st.mem, rep, nd, P.pre.hmx, P.pre.hb, P.pre.h3, by omega, P.pos, ?_, ?_, hks, hi, kid, big⟩).mono ?_
  · rw [hl1]; exact P.pre.wf.own_le.2
  · rw [hl1]; exact P.ne
  · rintro e X' ⟨rfl, t', F2, H2, L2, st2, rep2, nd2, hb, l1, l2, hf⟩
    refine ⟨rfl, st2.keep.mono fun x o _ ⟨m, q, _, hq, hf⟩ => ?_, t', ⟨H2, L2, F2, st.trans st2 ?_, rep2, nd2, ?_⟩, hb, l1, l2, hf⟩
    · have := cl m q hq x o hf; omega
    · intro m q hm hq
      rcases st.new m hm with h1 | h1
      · exact h1
      · have := hmem.lt hq; omega
    · rintro m q hq x o hf ⟨h1, h2⟩
      rcases st2.only m q hq with hF | ⟨_, h4, h5⟩
      · obtain ⟨a, p, _, hp, hfp⟩ := st2.fp x o (by omega) ⟨m, q, hF, hq, hf⟩
        exact cl a p hp x o hfp ⟨h1, h2⟩
      · rw [h5] at hf
        exact cl m q h4 x o hf ⟨h1, h2⟩

/-- Behind the call below, with the node's own record laid anew. -/
theorem lies_mid {w W W' X : World} {b : Nat} {hr : HRec} {pb po n : Nat} {H : Store It} {L : Nat → Lay} {h : Nat} {t : Tr It} {F : List Nat} {mn mx : Nat} (P : DelPre w b hr pb po n H L (h + 1) t F mn mx) {r : NRec It} {i c : Nat} {kt : Tr It} {N1 N2 : List Nat} {K1 K2 : List (Tr It)} {F1 Fk F2 : List Nat}
    (A : Around H hr.iso mn mx h n t F r i kt N1 N2 c K1 K2 F1 Fk F2) (hK : Keep Nothing w W) {k' : Tr It} {G : List Nat} {H' : Store It} {L' : Nat → Lay} (st : Step TT E W H L Fk W' H' L' G) (rep' : Rep H' hr.iso h c k' G) (nd' : G.Nodup) {cnt1 : Int} {its1 : List It}
    (hX : Keep (fun b o => fp TT n r (L n) b o ∨ (w.heap.size ≤ b ∧ b < W.heap.size)) W' X) (hat : NodeAt TT E X n { r with cnt := cnt1, items := its1 } (L n)) (hcnt : cnt1 = ((flat (h + 1) (.node its1 (K1 ++ k' :: K2))).length : Int)) : Lies w W X H L F hr.iso (h + 1) n (.node its1 (K1 ++ k' :: K2)) := by
  have mem := P.pre.mem
  have nd := P.pre.nd
  rw [A.Fq] at nd
  have hnF := List.nodup_cons.1 nd
  have nd2 := List.nodup_append.1 hnF.2
  have nd1 := List.nodup_append.1 nd2.1
  have st1 := Step.pre hK st
  have dom : ∀ m, m ∈ (n :: F1) ++ F2 → m ∉ Fk ∧ ∃ q, H m = some q := fun m hm => by
    refine ⟨fun hf => ?_, P.pre.rep.dom m ?_⟩
    · rcases List.mem_append.1 hm with hm | hm
      · rcases List.mem_cons.1 hm with rfl | hm
        · exact hnF.1 (by simp [hf])
        · exact nd1.2.2 m hm m hf rfl
      · exact nd2.2.2 m (by simp [hf]) m hm rfl
    · rw [A.Fq]
      simp at hm ⊢
      rcases hm with h | h | h <;> simp [h]
  have st2 := st1.frame (n :: F1) F2 dom
  have e2 : n :: F1 ++ Fk ++ F2 = F := by rw [A.Fq]; simp
  rw [e2] at st2
  obtain ⟨o1, o2⟩ := st.out n (fun hn => hnF.1 (by simp [hn])) r A.rec_
  have hcl := Step.clear mem hK st
  have st3 := Step.then mem st2 (n := n) (r := r) (r' := { r with cnt := cnt1, items := its1 }) (l' := L n) (X := fun b o => w.heap.size ≤ b ∧ b < W.heap.size) (by simp) o1 (hX.mono fun x o _ hx => by rw [o2]; exact hx) (fun _ _ h => h.1) (fun m q hq x o hf => hcl m q hq x o hf) hat (fun x o _ hf => by rw [o2]; exact hf)
  have nF' : ∀ m, m ∈ G → m ∈ Fk ∨ w.heap.size ≤ m := fun m hm => st1.new m hm
  have old : ∀ m, m ∈ n :: (F1 ++ Fk ++ F2) → m < w.heap.size := fun m hm => P.pre.bnd m (by rw [A.Fq]; exact hm)
  have hnG : n ∉ G := fun hn => by
    rcases nF' n hn with h | h
    · exact hnF.1 (by simp [h])
    · have := old n (by simp); omega
  have nin : n ∉ F1 ++ G ++ F2 := fun hn => by
    simp only [List.mem_append] at hn
    rcases hn with (hn | hn) | hn
    · exact hnF.1 (by simp [hn])
    · exact hnG hn
    · exact hnF.1 (by simp [hn])
  have ndG : (n :: (F1 ++ G ++ F2)).Nodup := by
    refine List.nodup_cons.2 ⟨nin, List.nodup_append.2 ⟨List.nodup_append.2 ⟨nd1.1, nd', ?_⟩, nd2.2.1, ?_⟩⟩
    · rintro a ha _ hb rfl
      rcases nF' a hb with h | h
      · exact nd1.2.2 a ha a h rfl
      · have := old a (by simp [ha]); omega
    · rintro a ha _ hb rfl
      rcases List.mem_append.1 ha with ha | ha
      · exact nd2.2.2 a (by simp [ha]) a hb rfl
      · rcases nF' a ha with h | h
        · exact nd2.2.2 a (by simp [h]) a hb rfl
        · have := old a (by simp [hb]); omega
  have out' : ∀ m, m ∈ F1 ++ F2 → upd H' n (some { r with cnt := cnt1, items := its1 }) m = H m := fun m hm => by
    have hmn : m ≠ n := fun e => hnF.1 (by subst e; simp only [List.mem_append] at hm ⊢; rcases hm with h | h <;> simp [h])
    rw [upd_ne _ _ hmn]
    obtain ⟨q, hq⟩ := (dom m (by simp only [List.mem_append, List.mem_cons] at hm ⊢; rcases hm with h | h <;> simp [h])).2
    rw [hq]
    exact (st.out m (dom m (by simp only [List.mem_append, List.mem_cons] at hm ⊢; rcases hm with h | h <;> simp [h])).1 q hq).1
  have A1 : RepL (Rep (upd H' n (some { r with cnt := cnt1, items := its1 })) hr.iso h) N1 K1 F1 := A.r1.imp fun a t G hG hR => hR.congr fun m hm => out' m (by simp [hG m hm])
  have A2 : RepL (Rep (upd H' n (some { r with cnt := cnt1, items := its1 })) hr.iso h) N2 K2 F2 := A.r2.imp fun a t G hG hR => hR.congr fun m hm => out' m (by simp [hG m hm])
  have Ak : Rep (upd H' n (some { r with cnt := cnt1, items := its1 })) hr.iso h c k' G := rep'.congr fun m hm => upd_ne _ _ fun e => hnG (e ▸ hm)
  refine ⟨_, _, n :: (F1 ++ G ++ F2), st3, ⟨{ r with cnt := cnt1, items := its1 }, N1 ++ c :: N2, F1 ++ G ++ F2, upd_same _ _ _, A.isoq, rfl, A.kids, hcnt, ?_, rfl⟩, ndG, fun m q hq x o hf => ?_⟩
  · rw [List.append_assoc]
    exact RepL.join (R := Rep (upd H' n (some { r with cnt := cnt1, items := its1 })) hr.iso h) (N2 := c :: N2) (K2 := k' :: K2) ⟨G, F2, Ak, A2, rfl⟩ A1
  · by_cases hm : m = n
    · subst hm
      rw [upd_same] at hq hf
      cases hq
      exact hcl m r o1 x o (by rw [o2]; exact hf)
    · rw [upd_ne _ _ hm] at hq hf
      exact hcl m q hq x o hf
end Go.Proofs.Ytckplcmieelmpaa.W

namespace Go.Wb
open Go Go.RowKit
variable {α : Type} {T : Ty} {E : Enc α}

theorem Step.same0 {w w' : World} {H H' : Store α} {L L' : Nat → Lay} {F F' G : List Nat} (h : Step T E w H L F w' H' L' F') (e : ∀ m, m ∈ G ↔ m ∈ F) : Step T E w H L G w' H' L' F' :=
  ⟨h.mem, h.keep.mono fun b o _ ⟨n, r, hn, hr, hf⟩ => ⟨n, r, (e n).2 hn, hr, hf⟩, fun m hm => h.out m fun h => hm ((e m).2 h), fun m hm => (h.new m hm).imp (e m).2 id, fun b o hb hf => by
    obtain ⟨n, r, hn, hr, hf⟩ := h.fp b o hb hf
    exact ⟨n, r, (e n).2 hn, hr, hf⟩, fun m r hr => (h.only m r hr).imp id fun ⟨h1, h2⟩ => ⟨fun h => h1 ((e m).1 h), h2⟩⟩

def mkids (x y : Option (List Nat)) : Option (List Nat) := x.map (· ++ y.getD [])
/-- The record of two nodes and the item between them. -/
def mrec (ra : NRec α) (m : α) (rb : NRec α) : NRec α := ⟨ra.iso, ra.cnt + rb.cnt + 1, ra.items ++ m :: rb.items, mkids ra.kids rb.kids⟩

theorem Rep.merge {H : Store α} {c : Int} {h a d : Nat} {ta tb : Tr α} {Fa Fb : List Nat} {mn mx : Nat} (ba : body mn mx h ta) (bb : body mn mx h tb) (Ra : Rep H c h a ta Fa) (Rb : Rep H c h d tb Fb) (nd : (Fa ++ Fb).Nodup) {ra rb : NRec α} (ha : H a = some ra) (hb : H d = some rb) (m : α) :
    ∃ Ga Gb, Fa = a :: Ga ∧ Fb = d :: Gb ∧ Rep (upd H a (some (mrec ra m rb))) c h a (mergeT ta m tb) (a :: (Ga ++ Gb)) := by
  have hfl := flat_merge (m := m) ba bb
  cases h with
  | zero =>
    obtain ⟨q, h1, h2, h3, h4, h5, h6, rfl⟩ := Ra
    obtain ⟨q', k1, k2, k3, k4, k5, k6, rfl⟩ := Rb
    rw [ha] at h1
    rw [hb] at k1
    cases h1
    cases k1
    refine ⟨[], [], rfl, rfl, mrec ra m rb, upd_same _ _ _, h2, by simp only [mrec, mergeT, Tr.its, h3, k3], by simp only [mergeT, Tr.ks] at *; simp [h4, k4], by simp [mrec, mkids, h5], ?_, rfl⟩
    rw [hfl]
    simp only [mrec, h6, k6, List.length_append, List.length_cons]
    omega
  | succ h =>
    obtain ⟨q, ns, Ga, h1, h2, h3, h4, h5, h6, rfl⟩ := Ra
    obtain ⟨q', ns', Gb, k1, k2, k3, k4, k5, k6, rfl⟩ := Rb
    rw [ha] at h1
    rw [hb] at k1
    cases h1
    cases k1
    have hn := List.nodup_cons.1 nd
    have o1 : ∀ k, k ∈ Ga → k ≠ a := fun k hk e => hn.1 (by subst e; simp [hk])
    have o2 : ∀ k, k ∈ Gb → k ≠ a := fun k hk e => hn.1 (by subst e; simp [hk])
    have C1 := h6.imp fun x t G hG (hR : Rep H c h x t G) => hR.congr fun k hk => upd_ne _ (some (mrec ra m rb)) (o1 k (hG k hk))
    have C2 := k6.imp fun x t G hG (hR : Rep H c h x t G) => hR.congr fun k hk => upd_ne _ (some (mrec ra m rb)) (o2 k (hG k hk))
    refine ⟨Ga, Gb, rfl, rfl, mrec ra m rb, ns ++ ns', Ga ++ Gb, upd_same _ _ _, h2, by simp only [mrec, mergeT, Tr.its, h3, k3], by simp [mrec, mkids, h4, k4], ?_, RepL.join C2 C1, rfl⟩
    rw [hfl]
    simp only [mrec, h5, k5, List.length_append, List.length_cons]
    omega

theorem Rep.halvesB {H : Store α} {c : Int} {h n : Nat} {t : Tr α} {F : List Nat} {mn mx : Nat} (hr : Rep H c h n t F) (wf : body mn mx h t) (nd : F.Nodup) {r : NRec α} (hn : H n = some r) {m : Nat} (hm : m ∉ F) {i : Nat} (hi : i < t.its.length) :
    ∃ F1 F2, F = n :: (F1 ++ F2) ∧ Rep (upd (upd H n (some (halfL H c r i))) m (some (halfR H c r i))) c h n (cutL i t) (n :: F1) ∧ Rep (upd (upd H n (some (halfL H c r i))) m (some (halfR H c r i))) c h m (cutR i t) (m :: F2) := by
  have hnm : n ≠ m := fun e => hm (e ▸ hr.root.1)
  obtain ⟨its, ks⟩ := t
  simp only [Tr.its] at hi
  cases h with
  | zero =>
    obtain ⟨q, h1, h2, h3, h4, h5, h6, rfl⟩ := hr
    rw [hn] at h1
    cases h1
    simp only [Tr.its, Tr.ks] at *
    subst h3
    subst h4
    refine ⟨[], [], rfl, ⟨halfL H c r i, by rw [upd_ne _ _ hnm, upd_same], rfl, rfl, by simp [cutL, Tr.ks], by simp [halfL, h5], ?_, rfl⟩, ⟨halfR H c r i, upd_same _ _ _, rfl, rfl, by simp [cutR, Tr.ks], by simp [halfR, h5], ?_, rfl⟩⟩
    · simp [halfL, h5, kidSum, flat, cutL, Tr.its]
    · simp [halfR, h5, kidSum, flat, cutR, Tr.its]
  | succ h =>
    obtain ⟨q, ns, F', h1, h2, h3, h4, h5, h6, rfl⟩ := hr
    rw [hn] at h1
    cases h1
    obtain ⟨w3, w4⟩ := wf
    simp only [Tr.its, Tr.ks] at *
    subst h3
    obtain ⟨F1, F2, c1, c2, rfl⟩ := h6.cut (i + 1)
    have hnF := (List.nodup_cons.1 nd).1
    have out : ∀ k, k ∈ F1 ++ F2 → upd (upd H n (some (halfL H c r i))) m (some (halfR H c r i)) k = H k := fun k hk => by
      have e1 : k ≠ n := fun e => hnF (e ▸ hk)
      have e2 : k ≠ m := fun e => hm (List.mem_cons_of_mem _ (e ▸ hk))
      rw [upd_ne _ _ e2, upd_ne _ _ e1]
    have C1 := c1.imp fun a t G hG (hR : Rep H c h a t G) => hR.congr fun k hk => out k (by simp [hG k hk])
    have C2 := c2.imp fun a t G hG (hR : Rep H c h a t G) => hR.congr fun k hk => out k (by simp [hG k hk])
    refine ⟨F1, F2, rfl, ⟨halfL H c r i, ns.take (i + 1), F1, by rw [upd_ne _ _ hnm, upd_same], rfl, rfl, by simp [halfL, h4], ?_, C1, rfl⟩, ⟨halfR H c r i, ns.drop (i + 1), F2, upd_same _ _ _, rfl, rfl, by simp [halfR, h4], ?_, C2, rfl⟩⟩
    · have := count_flat (its := r.items.take i) c1 (by simp; omega)
      simp only [halfL, h4, Option.map_some]
      exact this
    · have := count_flat (its := r.items.drop (i + 1)) c2 (by simp; omega)
      simp only [halfR, h4, Option.map_some]
      exact this

/-- How the records of a node and of two of its children turn, when they are put right. -/
def RebRec (mx i : Nat) (c : Nat → Int) (a : Nat) (N1 N2 : List Nat) (m : α) (r ra rb r' ra' rb' : NRec α) : Prop :=
  (ra.items.length + rb.items.length < mx ∧ r' = { r with items := r.items.take i ++ r.items.drop (i + 1), kids := some (N1 ++ a :: N2) } ∧ ra' = mrec ra m rb) ∨
  mx ≤ ra.items.length + rb.items.length ∧ ∃ j m', j = (if rb.items.length < ra.items.length then ra.items.length - 1 else ra.items.length + 1) ∧ (mrec ra m rb).items[j]? = some m' ∧ r' = { r with items := r.items.set i m' } ∧
    ra' = ⟨ra.iso, ((mrec ra m rb).items.take j).length + kidSum c ((mrec ra m rb).kids.map (List.take (j + 1))), (mrec ra m rb).items.take j, (mrec ra m rb).kids.map (List.take (j + 1))⟩ ∧
    rb' = ⟨rb.iso, ((mrec ra m rb).items.drop (j + 1)).length + kidSum c ((mrec ra m rb).kids.map (List.drop (j + 1))), (mrec ra m rb).items.drop (j + 1), (mrec ra m rb).kids.map (List.drop (j + 1))⟩
end Go.Wb

namespace Go.Proofs.Ytckplcmieelmpaa.W
open Go.RowKit Go.Wb

/-- What is given where two children of a node are put right. -/
structure RebIn (w : World) (b : Nat) (hr : HRec) (S : Nat → Nat → Prop) (n a d : Nat) (r ra rb : NRec It) (L La Lb : Lay) (N1 N2 : List Nat) (i : Nat) (m : It) (mx : Nat) (c : Nat → Int) : Prop where
  hdr : Hdr w b hr
  hmx : hr.mx = (mx : Int)
  hb : mx ≤ 1000000000000
  own : Own TT E S w w [.node n r L, .node a ra La, .node d rb Lb]
  hS : ∀ o, ¬ S b o
  kids : r.kids = some (N1 ++ a :: d :: N2)
  ln : N1.length = i
  item : r.items[i]? = some m
  lr : r.items.length = i + 1 + N2.length
  len : r.items.length ≤ mx
  la : ra.items.length ≤ mx
  lb : rb.items.length ≤ mx
  pos : 3 ≤ mx
  isoa : ra.iso = hr.iso
  isob : rb.iso = hr.iso
  same : (ra.kids = none ∧ rb.kids = none) ∨ ∃ x y, ra.kids = some x ∧ rb.kids = some y ∧ x.length = ra.items.length + 1 ∧ y.length = rb.items.length + 1 ∧
    ∀ k ∈ x ++ y, w.cell? ⟨k, 1, none⟩ = some (.int .i64 (c k)) ∧ (∀ o, ¬ S k o) ∧ 0 ≤ c k ∧ c k ≤ 3000000000000000000
  cnta : ra.cnt = ra.items.length + kidSum c ra.kids
  cntb : rb.cnt = rb.items.length + kidSum c rb.kids
  ca : 0 ≤ ra.cnt
  cb : 0 ≤ rb.cnt
  big : ra.cnt + rb.cnt ≤ 3000000000000000000
def RebW (w : World) (S : Nat → Nat → Prop) (mx i : Nat) (c : Nat → Int) (n a d : Nat) (N1 N2 : List Nat) (m : It) (r ra rb : NRec It) (e : Ending) (w' : World) : Prop :=
  e = .returned (.tuple #[]) ∧ ∃ r' L' ra' La' rb' Lb', RebRec mx i c a N1 N2 m r ra rb r' ra' rb' ∧ Own TT E S w w' [.node n r' L', .node a ra' La', .node d rb' Lb']
def RebRecOK : Prop := ∀ (w : World) (b : Nat) (hr : HRec) (S : Nat → Nat → Prop) (n a d : Nat) (r ra rb : NRec It) (L La Lb : Lay) (N1 N2 : List Nat) (i i0 : Nat) (m : It) (mx : Nat) (c : Nat → Int), RebIn w b hr S n a d r ra rb L La Lb N1 N2 i m mx c → (i0 = i ∨ (i0 = i + 1 ∧ i0 = r.items.length)) →
  Calls Try.prog 176 #[ptr b, ptr n, .int .i64 i0] w (RebW w S mx i c n a d N1 N2 m r ra rb)

theorem kids_body {mn mx h : Nat} {H : Store It} {c : Int} {n : Nat} {t : Tr It} {F : List Nat} (hr : Rep H c h n t F) (hb : body mn mx h t) (nd : F.Nodup) {r : NRec It} (hn : H n = some r) {ks : List Nat} (hk : r.kids = some ks) :
    ks.length = r.items.length + 1 ∧ (∀ k ∈ ks, k ∈ F ∧ k ≠ n ∧ 0 ≤ cntOf H k ∧ ∃ q, H k = some q ∧ q.cnt = cntOf H k) ∧ r.cnt = r.items.length + kidSum (cntOf H) r.kids := by
  cases h with
  | zero =>
    obtain ⟨q, h1, h2, h3, h4, h5, h6, rfl⟩ := hr
    rw [hn] at h1
    cases h1
    rw [h5] at hk
    cases hk
  | succ h =>
    obtain ⟨q, ns, F', h1, h2, h3, h4, h5, h6, rfl⟩ := hr
    rw [hn] at h1
    cases h1
    rw [h4] at hk
    cases hk
    obtain ⟨w3, w4⟩ := hb
    refine ⟨by rw [h6.len, w3, h3], fun k hk => ?_, ?_⟩
    · obtain ⟨t', G, g1, g2⟩ := h6.mem k hk
      obtain ⟨g3, q, g4, _, _, g5⟩ := g1.root
      have hkF := g2 k g3
      refine ⟨List.mem_cons_of_mem _ hkF, fun e => (List.nodup_cons.1 nd).1 (e ▸ hkF), ?_, q, g4, by simp [cntOf, g4]⟩
      simp only [cntOf, g4, g5]
      omega
    · have := count_flat (its := t.its) h6 w3
      obtain ⟨its, kk⟩ := t
      simp only [Tr.its, Tr.ks] at this h3 h5 ⊢
      rw [h5, h4, ← this, h3]
theorem leaf_cnt {H : Store It} {c : Int} {h n : Nat} {t : Tr It} {F : List Nat} (hr : Rep H c h n t F) {r : NRec It} (hn : H n = some r) (hk : r.kids = none) : r.cnt = r.items.length + kidSum (cntOf H) r.kids := by
  cases h with
  | zero =>
    obtain ⟨q, h1, h2, h3, h4, h5, h6, rfl⟩ := hr
    rw [hn] at h1
    cases h1
    simp only [flat] at h6
    rw [h6, h5, h3]
    simp [kidSum]
  | succ h =>
    obtain ⟨q, ns, F', h1, h2, h3, h4, h5, h6, rfl⟩ := hr
    rw [hn] at h1
    cases h1
    rw [hk] at h4
    cases h4
theorem rep_kids {H : Store It} {c : Int} {h n : Nat} {t : Tr It} {F : List Nat} (hr : Rep H c h n t F) {r : NRec It} (hn : H n = some r) : r.kids.isNone = decide (h = 0) := by
  cases h with
  | zero =>
    obtain ⟨q, h1, h2, h3, h4, h5, h6, rfl⟩ := hr
    rw [hn] at h1
    cases h1
    simp [h5]
  | succ h =>
    obtain ⟨q, ns, F', h1, h2, h3, h4, h5, h6, rfl⟩ := hr
    rw [hn] at h1
    cases h1
    simp [h4]

theorem kidSum_congr {c c' : Nat → Int} {ks : Option (List Nat)} (h : ∀ l, ks = some l → ∀ k ∈ l, c k = c' k) : kidSum c ks = kidSum c' ks := by
  cases ks with
  | none => rfl
  | some l =>
    simp only [kidSum]
    congr 1
    exact List.map_congr_left fun k hk => h l rfl k hk

theorem reb_of (RR : RebRecOK) : RebOK := by
  intro w b hr H L h n t F mn mx i0 P
  obtain ⟨hdr, mem, rep, nd, hmx, hb, h3, hmn, pos, le, ne, hks, hi0, kid, big⟩ := P
  obtain ⟨i, hi, hor⟩ : ∃ i, i < t.its.length ∧ (i0 = i ∨ (i0 = i + 1 ∧ i0 = t.its.length)) := by
    by_cases h : i0 = t.its.length
    · exact ⟨i0 - 1, by omega, .inr ⟨by omega, h⟩⟩
    · exact ⟨i0, by omega, .inl rfl⟩
  obtain ⟨r, ns, F', hr1, hiso, hits, hkn, hcnt, hrl, rfl⟩ := rep
  obtain ⟨its, ks⟩ := t
  simp only [Tr.its, Tr.ks] at hi hks hits hkn hrl le ne hi0 hor
  replace kid : ∀ j k, ks[j]? = some k → body mn mx h k ∧ (j = i0 → k.its.length + 1 = mn) ∧ (j ≠ i0 → mn ≤ k.its.length ∧ k.its.length ≤ mx) := kid
  subst hits
  obtain ⟨I1, m, I2, hI, hI1, hm⟩ := split_at r.items i hi
  obtain ⟨K1, ta, K2', rfl, hK1, hka⟩ := split_at ks i (by omega)
  cases K2' with
  | nil => simp at hks; omega
  | cons tb K2 =>
  obtain ⟨N1, a, N2', F1, Fa, F2', rfl, e1, e2, R1, Ra, R2', rfl⟩ := hrl.split
  cases N2' with
  | nil => simp at e2
  | cons d N2 =>
  obtain ⟨Fb, F2, Rb, R2, rfl⟩ := R2'
  have hlI : r.items.length = i + 1 + I2.length := by rw [hI]; simp; omega
  have hK2 : K2.length = I2.length := by simp at hks; omega
  have hN2 : N2.length = I2.length := by simp at e2; omega
  have k1 := kid i ta hka
  have k2 := kid (i + 1) tb (by rw [← hK1, List.getElem?_append_right (by omega)]; simp)
  have ba := k1.1
  have bb := k2.1
  have hnF := List.nodup_cons.1 nd
  obtain ⟨haF, ra, hra, hisoa, hitsa, hcnta⟩ := Ra.root
  obtain ⟨hdF, rb, hrb, hisob, hitsb, hcntb⟩ := Rb.root
  have nd2 := List.nodup_append.1 hnF.2
  have nd1 := List.nodup_append.1 nd2.1
  have nd3 := List.nodup_append.1 nd2.2.1
  have ndab : (Fa ++ Fb).Nodup := List.nodup_append.2 ⟨nd1.2.1, nd3.1, fun x hx y hy e => nd2.2.2 x (by simp [hx]) y (by simp [hy]) e⟩
  obtain ⟨Ga, Gb, rfl, rfl, RM⟩ := Rep.merge ba bb Ra Rb ndab hra hrb m
  have han : a ≠ n := fun e => hnF.1 (by rw [← e]; simp)
  have hdn : d ≠ n := fun e => hnF.1 (by rw [← e]; simp)
  have had : a ≠ d := fun e => (List.nodup_append.1 ndab).2.2 a (by simp) d (by simp) e
  have hfm : flat h (mergeT ta m tb) = flat h ta ++ m :: flat h tb := flat_merge ba bb
  have hml := merge_len ta m tb
  have et : (Tr.node r.items (K1 ++ ta :: tb :: K2)) = .node (I1 ++ m :: I2) (K1 ++ ta :: tb :: K2) := by rw [hI]
  have hflat : flat (h + 1) (.node (I1 ++ m :: I2) (K1 ++ ta :: tb :: K2)) = flat (h + 1) (.node (I1 ++ I2) (K1 ++ mergeT ta m tb :: K2)) := flat_split (by omega) hfm
  have hsub : (flat h (mergeT ta m tb)).length ≤ (flat (h + 1) (Tr.node r.items (K1 ++ ta :: tb :: K2))).length := by
    rw [et, hflat]
    exact flat_child_le (by omega)
  have hmlen : (flat h (mergeT ta m tb)).length = (flat h ta).length + (flat h tb).length + 1 := by rw [hfm]; simp; omega
  have la : ta.its.length ≤ mx := by
    by_cases e : i = i0
    · have := k1.2.1 e; omega
    · exact (k1.2.2 e).2
  have lb : tb.its.length ≤ mx := by
    by_cases e : i + 1 = i0
    · have := k2.2.1 e; omega
    · exact (k2.2.2 e).2
  have old : ∀ k, k ∈ n :: (F1 ++ a :: Ga ++ (d :: Gb ++ F2)) → ∃ q, H k = some q := Rep.dom (h := h + 1) (c := hr.iso) (t := .node r.items (K1 ++ ta :: tb :: K2)) ⟨r, N1 ++ a :: d :: N2, _, hr1, hiso, rfl, hkn, hcnt, hrl, rfl⟩
  have hown := Own.of_mem mem [(n, r), (a, ra), (d, rb)] (fun p hp => by
    simp only [List.mem_cons, List.not_mem_nil, or_false] at hp
    rcases hp with rfl | rfl | rfl
    · exact hr1
    · exact hra
    · exact hrb) (by simp [han.symm, hdn.symm, had])
  simp only [nodesOf, List.map_cons, List.map_nil] at hown
  have away : ∀ k q, H k = some q → k ∉ [n, a, d] → ∀ o, ¬ FP TT H L [n, a, d] k o := fun k q hq hk o ⟨x, p, hx, hp, hf⟩ =>
    mem.sep x k p q (fun e => hk (e ▸ hx)) hp hq k o hf (.inl rfl)
  have kidsOk : ∀ (x : Nat) (Gx : List Nat), (∀ k ∈ Gx, k ∈ Ga ++ Gb) → ∀ k ∈ Gx, (∃ q, H k = some q ∧ q.cnt = cntOf H k) → 0 ≤ cntOf H k → cntOf H k ≤ 3000000000000000000 → w.cell? ⟨k, 1, none⟩ = some (.int .i64 (cntOf H k)) ∧ (∀ o, ¬ FP TT H L [n, a, d] k o) ∧ 0 ≤ cntOf H k ∧ cntOf H k ≤ 3000000000000000000 := by
    rintro x Gx hG k hk ⟨q, hq, hqc⟩ h0 h3
    have hkG := hG k hk
    refine ⟨?_, away k q hq ?_, h0, h3⟩
    · have := (mem.at_ k q hq).own.2.1
      rw [hqc] at this
      exact this
    · intro hk3
      simp only [List.mem_cons, List.not_mem_nil, or_false] at hk3
      rcases hk3 with rfl | rfl | rfl
      · exact hnF.1 (by simp only [List.mem_append, List.mem_cons] at hkG ⊢; rcases hkG with h | h <;> simp [h])
      · rcases List.mem_append.1 hkG with h | h
        · exact (List.nodup_cons.1 nd1.2.1).1 h
        · exact (List.nodup_append.1 ndab).2.2 k (by simp) k (by simp [h]) rfl
      · rcases List.mem_append.1 hkG with h | h
        · exact (List.nodup_append.1 ndab).2.2 k (by simp [h]) k (by simp) rfl
        · exact (List.nodup_cons.1 nd3.1).1 h
  have le_sum : ∀ (l : List Nat), (∀ k ∈ l, 0 ≤ cntOf H k) → ∀ k ∈ l, cntOf H k ≤ (l.map (cntOf H)).sum := by
    intro l
    induction l with
    | nil => intro _ k hk; cases hk
    | cons x l ih =>
      intro h0 k hk
      have hs : 0 ≤ (l.map (cntOf H)).sum := sum_nonneg fun y hy => by
        obtain ⟨z, hz, rfl⟩ := List.mem_map.1 hy
        exact h0 z (by simp [hz])
      have hx := h0 x (by simp)
      rw [List.map_cons, List.sum_cons]
      rcases List.mem_cons.1 hk with rfl | hk
      · omega
      · have := ih (fun y hy => h0 y (by simp [hy])) k hk; omega
  have same : ((ra.kids = none ∧ rb.kids = none) ∨ ∃ x y, ra.kids = some x ∧ rb.kids = some y ∧ x.length = ra.items.length + 1 ∧ y.length = rb.items.length + 1 ∧
      ∀ k ∈ x ++ y, w.cell? ⟨k, 1, none⟩ = some (.int .i64 (cntOf H k)) ∧ (∀ o, ¬ FP TT H L [n, a, d] k o) ∧ 0 ≤ cntOf H k ∧ cntOf H k ≤ 3000000000000000000) ∧ ra.cnt = ra.items.length + kidSum (cntOf H) ra.kids ∧ rb.cnt = rb.items.length + kidSum (cntOf H) rb.kids ∧
      ∀ l, mkids ra.kids rb.kids = some l → ∀ k ∈ l, k ∈ Ga ++ Gb := by
    have na := rep_kids Ra hra
    have nb := rep_kids Rb hrb
    cases hx : ra.kids with
    | none =>
      rw [hx] at na
      have hy : rb.kids = none := by rw [← na] at nb; simpa using nb
      refine ⟨.inl ⟨rfl, hy⟩, ?_, leaf_cnt Rb hrb hy, fun l hl => by simp [mkids] at hl⟩
      have := leaf_cnt Ra hra hx
      rwa [hx] at this
    | some x =>
      rw [hx] at na
      obtain ⟨y, hy⟩ : ∃ y, rb.kids = some y := by
        cases hy : rb.kids with
        | none => rw [hy, ← na] at nb; simp at nb
        | some y => exact ⟨y, rfl⟩
      obtain ⟨x1, x2, x3⟩ := kids_body Ra ba nd1.2.1 hra hx
      obtain ⟨y1, y2, y3⟩ := kids_body Rb bb nd3.1 hrb hy
      rw [hx] at x3
      simp only [hy, kidSum] at y3 ⊢
      simp only [kidSum] at x3
      have xs := le_sum x fun k hk => (x2 k hk).2.2.1
      have ys := le_sum y fun k hk => (y2 k hk).2.2.1
      have gx : ∀ k ∈ x, k ∈ Ga := fun k hk => by
        have := x2 k hk
        rcases List.mem_cons.1 this.1 with h | h
        · exact absurd h this.2.1
        · exact h
      have gy : ∀ k ∈ y, k ∈ Gb := fun k hk => by
        have := y2 k hk
        rcases List.mem_cons.1 this.1 with h | h
        · exact absurd h this.2.1
        · exact h
      refine ⟨.inr ⟨x, y, rfl, rfl, x1, y1, fun k hk => ?_⟩, x3, y3, fun l hl k hk => ?_⟩
      · rcases List.mem_append.1 hk with hk | hk
        · exact kidsOk a x (fun k hk => by simp [gx k hk]) k hk (x2 k hk).2.2.2 (x2 k hk).2.2.1 (by have := xs k hk; omega)
        · exact kidsOk d y (fun k hk => by simp [gy k hk]) k hk (y2 k hk).2.2.2 (y2 k hk).2.2.1 (by have := ys k hk; omega)
      · simp [mkids] at hl
        subst hl
        rcases List.mem_append.1 hk with hk | hk
        · simp [gx k hk]
        · simp [gy k hk]
  obtain ⟨same, cnta, cntb, mk⟩ := same
  refine (RR w b hr (FP TT H L [n, a, d]) n a d r ra rb (L n) (L a) (L d) N1 N2 i i0 m mx (cntOf H) ⟨hdr, hmx, hb, hown, fun o ⟨x, p, hx, hp, hf⟩ => hdr_apart hdr (mem.at_ x p hp) hf, hkn, by omega, hm, by omega, le, (by rw [hitsa]; exact la), (by rw [hitsb]; exact lb), by omega, hisoa, hisob, same, cnta, cntb, by omega, by omega, by omega⟩ hor).mono ?_
  rintro e w' ⟨rfl, r', L', ra', La', rb', Lb', rec, O⟩
  refine ⟨rfl, ?_⟩
  have hiI : r.items.take i ++ r.items.drop (i + 1) = I1 ++ I2 := by rw [hI, ← hI1]; simp
  have hab : (ta.its.length + 1 = mn ∧ mn ≤ tb.its.length ∧ tb.its.length ≤ mx) ∨ (tb.its.length + 1 = mn ∧ mn ≤ ta.its.length ∧ ta.its.length ≤ mx) := by
    rcases hor with h | ⟨h, _⟩
    · exact .inl ⟨k1.2.1 h.symm, k2.2.2 (by omega)⟩
    · exact .inr ⟨k2.2.1 h.symm, k1.2.2 (by omega)⟩
  have hKo : ∀ k ∈ K1 ++ K2, wfr mn mn mx h k := fun k hk => by
    have fin : ∀ j, j ≠ i0 → (K1 ++ ta :: tb :: K2)[j]? = some k → wfr mn mn mx h k := fun j hj hk => by
      obtain ⟨h1, _, h2⟩ := kid j k hk
      exact h1.wfr (h2 hj).1 (h2 hj).2
    rcases List.mem_append.1 hk with hk | hk
    · obtain ⟨j, hj⟩ := List.mem_iff_getElem?.1 hk
      obtain ⟨hjl, _⟩ := List.getElem?_eq_some_iff.1 hj
      exact fin j (by omega) (by rw [List.getElem?_append_left hjl]; exact hj)
    · obtain ⟨j, hj⟩ := List.mem_iff_getElem?.1 hk
      refine fin (i + 2 + j) (by omega) ?_
      rw [List.getElem?_append_right (by omega), show i + 2 + j - K1.length = j + 1 + 1 by omega]
      simpa using hj
  have nF1 : ∀ k, k ∈ F1 ++ F2 → k ≠ n ∧ k ≠ a ∧ k ≠ d := fun k hk => by
    refine ⟨fun e => hnF.1 (by subst e; simp only [List.mem_append, List.mem_cons] at hk ⊢; rcases hk with h | h <;> simp [h]), fun e => ?_, fun e => ?_⟩
    · subst e
      rcases List.mem_append.1 hk with h | h
      · exact nd1.2.2 k h k (by simp) rfl
      · exact nd2.2.2 k (by simp) k (by simp [h]) rfl
    · subst e
      rcases List.mem_append.1 hk with h | h
      · exact nd2.2.2 k (by simp [h]) k (by simp) rfl
      · exact nd3.2.2 k (by simp) k h rfl
  have nG : ∀ k, k ∈ Ga ++ Gb → k ≠ n ∧ k ≠ a ∧ k ≠ d := fun k hk => by
    refine ⟨fun e => hnF.1 (by subst e; simp only [List.mem_append, List.mem_cons] at hk ⊢; rcases hk with h | h <;> simp [h]), fun e => ?_, fun e => ?_⟩
    · subst e
      rcases List.mem_append.1 hk with h | h
      · exact (List.nodup_cons.1 nd1.2.1).1 h
      · exact (List.nodup_append.1 ndab).2.2 k (by simp) k (by simp [h]) rfl
    · subst e
      rcases List.mem_append.1 hk with h | h
      · exact (List.nodup_append.1 ndab).2.2 k (by simp [h]) k (by simp) rfl
      · exact (List.nodup_cons.1 nd3.1).1 h
  have domR : ∀ k, k ∈ [] ++ (F1 ++ Ga ++ Gb ++ F2) → k ∉ [n, a, d] ∧ ∃ q, H k = some q := fun k hk => by
    simp only [List.nil_append, List.mem_append] at hk
    have hne : k ≠ n ∧ k ≠ a ∧ k ≠ d := by
      rcases hk with ((h | h) | h) | h
      · exact nF1 k (by simp [h])
      · exact nG k (by simp [h])
      · exact nG k (by simp [h])
      · exact nF1 k (by simp [h])
    refine ⟨by simp [hne], old k ?_⟩
    simp only [List.mem_append, List.mem_cons]
    rcases hk with ((h | h) | h) | h <;> simp [h]
  rcases rec with ⟨h1, rfl, rfl⟩ | ⟨h1, j, m', hj, hm', rfl, rfl, rfl⟩
  · have hR : Reb mx I1 I2 K1 K2 ta m tb (.node (I1 ++ I2) (K1 ++ mergeT ta m tb :: K2)) := .inl ⟨by rw [← hitsa, ← hitsb]; exact h1, rfl⟩
    obtain ⟨hbody, hlen⟩ := hR.wf (by omega) hK2 ba bb hmn hab hKo
    have hfl := hR.flat (by omega) ba bb
    rw [← et] at hfl
    generalize hH : upd (upd (upd H n (some { r with items := r.items.take i ++ r.items.drop (i + 1), kids := some (N1 ++ a :: N2) })) a (some (mrec ra m rb))) d none = H'
    generalize hL : upd (upd (upd L n L') a La') d Lb' = L2
    have en : H' n = some { r with items := r.items.take i ++ r.items.drop (i + 1), kids := some (N1 ++ a :: N2) } := by rw [← hH, upd_ne _ _ hdn.symm, upd_ne _ _ han.symm, upd_same]
    have ea : H' a = some (mrec ra m rb) := by rw [← hH, upd_ne _ _ had, upd_same]
    have ed : H' d = none := by rw [← hH, upd_same]
    have eo : ∀ k, k ≠ n → k ≠ a → k ≠ d → H' k = H k ∧ L2 k = L k := fun k k1 k2 k3 => by rw [← hH, ← hL, upd_ne _ _ k3, upd_ne _ _ k2, upd_ne _ _ k1, upd_ne _ _ k3, upd_ne _ _ k2, upd_ne _ _ k1]; exact ⟨rfl, rfl⟩
    have ln : L2 n = L' := by rw [← hL, upd_ne _ _ hdn.symm, upd_ne _ _ han.symm, upd_same]
    have lla : L2 a = La' := by rw [← hL, upd_ne _ _ had, upd_same]
    have st := O.step (H' := H') (L' := L2) (F' := [n, a]) mem (fun k k1 k2 => by
      simp only [List.mem_cons, List.not_mem_nil, or_false, not_or] at k1
      exact eo k k1.1 k1.2.1 k1.2.2) (fun k k1 k2 => absurd (by simp only [List.mem_cons, List.not_mem_nil, or_false] at k1 ⊢; rcases k1 with h | h <;> simp [h]) k2) (fun k k1 k2 => by
      simp only [List.mem_cons, List.not_mem_nil, or_false, not_or] at k1 k2
      rcases k1 with h | h | h
      · exact absurd h k2.1
      · exact absurd h k2.2
      · rw [h]; exact ed) (fun k q k1 hq => by
      simp only [List.mem_cons, List.not_mem_nil, or_false] at k1
      rcases k1 with rfl | rfl
      · rw [en] at hq; cases hq; exact ⟨0, by rw [ln]; rfl⟩
      · rw [ea] at hq; cases hq; exact ⟨1, by rw [lla]; rfl⟩)
    have st2 := ((st.frame [] (F1 ++ Ga ++ Gb ++ F2) domR).same0 (G := n :: (F1 ++ a :: Ga ++ (d :: Gb ++ F2))) (fun k => by simp only [List.mem_append, List.mem_cons, List.nil_append, List.not_mem_nil, or_false]; grind)).same (G' := n :: (F1 ++ a :: (Ga ++ Gb) ++ F2)) (fun k => by simp only [List.mem_append, List.mem_cons, List.nil_append, List.not_mem_nil, or_false]; grind)
    have A1 : RepL (Rep H' hr.iso h) N1 K1 F1 := R1.imp fun x t G hG hR => hR.congr fun k hk => (eo k (nF1 k (by simp [hG k hk])).1 (nF1 k (by simp [hG k hk])).2.1 (nF1 k (by simp [hG k hk])).2.2).1
    have A2 : RepL (Rep H' hr.iso h) N2 K2 F2 := R2.imp fun x t G hG hR => hR.congr fun k hk => (eo k (nF1 k (by simp [hG k hk])).1 (nF1 k (by simp [hG k hk])).2.1 (nF1 k (by simp [hG k hk])).2.2).1
    have Am : Rep H' hr.iso h a (mergeT ta m tb) (a :: (Ga ++ Gb)) := RM.congr fun k hk => by
      rcases List.mem_cons.1 hk with rfl | hk
      · rw [ea, upd_same]
      · have := nG k hk
        rw [(eo k this.1 this.2.1 this.2.2).1, upd_ne _ _ this.2.1]
    refine ⟨.node (I1 ++ I2) (K1 ++ mergeT ta m tb :: K2), n :: (F1 ++ a :: (Ga ++ Gb) ++ F2), H', L2, st2, ⟨_, N1 ++ a :: N2, F1 ++ (a :: (Ga ++ Gb) ++ F2), en, hiso, hiI, rfl, ?_, RepL.join (R := Rep H' hr.iso h) (N2 := a :: N2) (K2 := mergeT ta m tb :: K2) ⟨a :: (Ga ++ Gb), F2, Am, A2, rfl⟩ A1, by simp⟩, ?_, hbody, ?_, ?_, hfl⟩
    · rw [hfl]; exact hcnt
    · refine List.Nodup.sublist ?_ nd
      simp only [List.append_assoc, List.cons_append]
      exact List.Sublist.cons_cons _ (List.Sublist.append_left (List.Sublist.cons_cons _ (List.Sublist.append_left (List.sublist_cons_self _ _) _)) _)
    · simp only [Tr.its, List.length_append]; omega
    · simp only [Tr.its, List.length_append]; omega
  · have hmi : (mergeT ta m tb).its = (mrec ra m rb).items := by simp only [mrec, hitsa, hitsb]; rfl
    have hjm : (mergeT ta m tb).its[j]? = some m' := by rw [hmi]; exact hm'
    obtain ⟨hil, _⟩ := List.getElem?_eq_some_iff.1 hjm
    have hdG : d ∉ a :: (Ga ++ Gb) := fun h => by
      rcases List.mem_cons.1 h with h | h
      · exact had h.symm
      · exact (nG d h).2.2 rfl
    have ndM : (a :: (Ga ++ Gb)).Nodup := by
      refine List.Nodup.sublist ?_ ndab
      simp only [List.cons_append]
      exact List.Sublist.cons_cons _ (List.Sublist.append_left (List.sublist_cons_self _ _) _)
    obtain ⟨G1, G2, hG, RL, RRr⟩ := RM.halvesB (merge_body ba bb) ndM (upd_same _ _ _) hdG hil
    have hG' : Ga ++ Gb = G1 ++ G2 := (List.cons.inj hG).2
    have hcn : ∀ f : List Nat → List Nat, (∀ l k, k ∈ f l → k ∈ l) → kidSum (cntOf (upd H a (some (mrec ra m rb)))) ((mrec ra m rb).kids.map f) = kidSum (cntOf H) ((mrec ra m rb).kids.map f) := fun f hf => kidSum_congr fun l hl k hk => by
      obtain ⟨l0, hl0, rfl⟩ := Option.map_eq_some_iff.1 hl
      have := nG k (mk l0 hl0 k (hf l0 k hk))
      simp only [cntOf, upd_ne _ _ this.2.1]
    have hLe : halfL (upd H a (some (mrec ra m rb))) hr.iso (mrec ra m rb) j = ⟨ra.iso, ((mrec ra m rb).items.take j).length + kidSum (cntOf H) ((mrec ra m rb).kids.map (List.take (j + 1))), (mrec ra m rb).items.take j, (mrec ra m rb).kids.map (List.take (j + 1))⟩ := by
      simp only [halfL, hcn _ (fun l k h => List.mem_of_mem_take h), hisoa]
    have hRe : halfR (upd H a (some (mrec ra m rb))) hr.iso (mrec ra m rb) j = ⟨rb.iso, ((mrec ra m rb).items.drop (j + 1)).length + kidSum (cntOf H) ((mrec ra m rb).kids.map (List.drop (j + 1))), (mrec ra m rb).items.drop (j + 1), (mrec ra m rb).kids.map (List.drop (j + 1))⟩ := by
      simp only [halfR, hcn _ (fun l k h => List.mem_of_mem_drop h), hisob]
    rw [hLe, hRe] at RL RRr
    have hR : Reb mx I1 I2 K1 K2 ta m tb (.node (I1 ++ m' :: I2) (K1 ++ cutL j (mergeT ta m tb) :: cutR j (mergeT ta m tb) :: K2)) := .inr ⟨by rw [← hitsa, ← hitsb]; exact h1, j, m', by rw [← hitsa, ← hitsb]; exact hj, hjm, rfl⟩
    obtain ⟨hbody, hlen⟩ := hR.wf (by omega) hK2 ba bb hmn hab hKo
    have hfl := hR.flat (by omega) ba bb
    rw [← et] at hfl
    generalize (⟨ra.iso, ((mrec ra m rb).items.take j).length + kidSum (cntOf H) ((mrec ra m rb).kids.map (List.take (j + 1))), (mrec ra m rb).items.take j, (mrec ra m rb).kids.map (List.take (j + 1))⟩ : NRec It) = ra' at RL RRr O
    generalize (⟨rb.iso, ((mrec ra m rb).items.drop (j + 1)).length + kidSum (cntOf H) ((mrec ra m rb).kids.map (List.drop (j + 1))), (mrec ra m rb).items.drop (j + 1), (mrec ra m rb).kids.map (List.drop (j + 1))⟩ : NRec It) = rb' at RL RRr O
    generalize hH : upd (upd (upd H n (some { r with items := r.items.set i m' })) a (some ra')) d (some rb') = H'
    generalize hL : upd (upd (upd L n L') a La') d Lb' = L2
    have en : H' n = some { r with items := r.items.set i m' } := by rw [← hH, upd_ne _ _ hdn.symm, upd_ne _ _ han.symm, upd_same]
    have ea : H' a = some ra' := by rw [← hH, upd_ne _ _ had, upd_same]
    have ed : H' d = some rb' := by rw [← hH, upd_same]
    have eo : ∀ k, k ≠ n → k ≠ a → k ≠ d → H' k = H k ∧ L2 k = L k := fun k k1 k2 k3 => by rw [← hH, ← hL, upd_ne _ _ k3, upd_ne _ _ k2, upd_ne _ _ k1, upd_ne _ _ k3, upd_ne _ _ k2, upd_ne _ _ k1]; exact ⟨rfl, rfl⟩
    have ln : L2 n = L' := by rw [← hL, upd_ne _ _ hdn.symm, upd_ne _ _ han.symm, upd_same]
    have lla : L2 a = La' := by rw [← hL, upd_ne _ _ had, upd_same]
    have lld : L2 d = Lb' := by rw [← hL, upd_same]
    have st := O.step (H' := H') (L' := L2) (F' := [n, a, d]) mem (fun k k1 k2 => by
      simp only [List.mem_cons, List.not_mem_nil, or_false, not_or] at k1
      exact eo k k1.1 k1.2.1 k1.2.2) (fun k k1 k2 => absurd k1 k2) (fun k k1 k2 => absurd k1 k2) (fun k q k1 hq => by
      simp only [List.mem_cons, List.not_mem_nil, or_false] at k1
      rcases k1 with rfl | rfl | rfl
      · rw [en] at hq; cases hq; exact ⟨0, by rw [ln]; rfl⟩
      · rw [ea] at hq; cases hq; exact ⟨1, by rw [lla]; rfl⟩
      · rw [ed] at hq; cases hq; exact ⟨2, by rw [lld]; rfl⟩)
    have mG : ∀ k, (k ∈ G1 ∨ k ∈ G2) ↔ (k ∈ Ga ∨ k ∈ Gb) := fun k => by rw [← List.mem_append, ← List.mem_append, hG']
    have st2 := ((st.frame [] (F1 ++ Ga ++ Gb ++ F2) domR).same0 (G := n :: (F1 ++ a :: Ga ++ (d :: Gb ++ F2))) (fun k => by simp only [List.mem_append, List.mem_cons, List.nil_append, List.not_mem_nil, or_false]; grind)).same (G' := n :: (F1 ++ a :: G1 ++ (d :: G2 ++ F2))) (fun k => by have := mG k; simp only [List.mem_append, List.mem_cons, List.nil_append, List.not_mem_nil, or_false]; grind)
    have A1 : RepL (Rep H' hr.iso h) N1 K1 F1 := R1.imp fun x t G hG hR => hR.congr fun k hk => (eo k (nF1 k (by simp [hG k hk])).1 (nF1 k (by simp [hG k hk])).2.1 (nF1 k (by simp [hG k hk])).2.2).1
    have A2 : RepL (Rep H' hr.iso h) N2 K2 F2 := R2.imp fun x t G hG hR => hR.congr fun k hk => (eo k (nF1 k (by simp [hG k hk])).1 (nF1 k (by simp [hG k hk])).2.1 (nF1 k (by simp [hG k hk])).2.2).1
    have oth : ∀ k, k ∈ G1 ++ G2 → H' k = upd (upd (upd H a (some (mrec ra m rb))) a (some ra')) d (some rb') k := fun k hk => by
      have := nG k (by rw [hG']; exact hk)
      rw [(eo k this.1 this.2.1 this.2.2).1, upd_ne _ _ this.2.2, upd_ne _ _ this.2.1, upd_ne _ _ this.2.1]
    have Aa : Rep H' hr.iso h a (cutL j (mergeT ta m tb)) (a :: G1) := RL.congr fun k hk => by
      rcases List.mem_cons.1 hk with rfl | hk
      · rw [ea, upd_ne _ _ had, upd_same]
      · exact oth k (by simp [hk])
    have Ad : Rep H' hr.iso h d (cutR j (mergeT ta m tb)) (d :: G2) := RRr.congr fun k hk => by
      rcases List.mem_cons.1 hk with rfl | hk
      · rw [ed, upd_same]
      · exact oth k (by simp [hk])
    have hset : r.items.set i m' = I1 ++ m' :: I2 := by rw [hI, ← hI1]; simp
    refine ⟨.node (I1 ++ m' :: I2) (K1 ++ cutL j (mergeT ta m tb) :: cutR j (mergeT ta m tb) :: K2), n :: (F1 ++ a :: G1 ++ (d :: G2 ++ F2)), H', L2, st2, ⟨_, N1 ++ a :: d :: N2, F1 ++ (a :: G1 ++ (d :: G2 ++ F2)), en, hiso, hset, hkn, ?_, RepL.join (R := Rep H' hr.iso h) (N2 := a :: d :: N2) (K2 := cutL j (mergeT ta m tb) :: cutR j (mergeT ta m tb) :: K2) ⟨a :: G1, d :: G2 ++ F2, Aa, ⟨d :: G2, F2, Ad, A2, rfl⟩, rfl⟩ A1, by simp⟩, ?_, hbody, ?_, ?_, hfl⟩
    · rw [hfl]; exact hcnt
    · have p1 : (n :: (F1 ++ a :: Ga ++ (d :: Gb ++ F2))).Perm (d :: n :: (F1 ++ a :: (Ga ++ Gb) ++ F2)) := by
        have : (n :: (F1 ++ a :: Ga) ++ d :: (Gb ++ F2)).Perm (d :: (n :: (F1 ++ a :: Ga) ++ (Gb ++ F2))) := List.perm_middle
        simpa using this
      have p2 : (n :: (F1 ++ a :: G1 ++ (d :: G2 ++ F2))).Perm (d :: n :: (F1 ++ a :: (G1 ++ G2) ++ F2)) := by
        have : (n :: (F1 ++ a :: G1) ++ d :: (G2 ++ F2)).Perm (d :: (n :: (F1 ++ a :: G1) ++ (G2 ++ F2))) := List.perm_middle
        simpa using this
      rw [p2.nodup_iff, ← hG', ← p1.nodup_iff]
      exact nd
    · simp only [Tr.its, List.length_append, List.length_cons]; omega
    · simp only [Tr.its, List.length_append, List.length_cons]; omega
end Go.Proofs.Ytckplcmieelmpaa.W

namespace Go.Proofs.Ytckplcmieelmpaa.W
open Go.RowKit Go.Wb

theorem grew_keep {w w' : World} {ty s n m cap cap' : Nat} {a a' : Option Addr} {cs : List Value} (hg : Grew w w' ty s a a' n m cap cap' cs) : Keep (rowFp a (cap * s)) w w' := by
  refine hg.keep.mono fun x o _ h => ?_
  obtain ⟨x1, y1, e1, e2, e3, e4⟩ := h
  exact ⟨x1, y1, e1, e2, by omega, e4⟩
/-- A node's own block, where its items' row turns. -/
theorem node_row {w w' : World} {a : Nat} {r : NRec It} {L : Lay} (h : NodeAt TT E w a r L) (hk : Keep (rowFp L.ia (L.icap * TT.s)) w w') : w'.heap[a]? = some (.cells #[.int .u64 r.iso, .int .i64 r.cnt, .slice L.ia r.items.length L.icap, kidsVal r.kids L.cb] 172 (0, 0)) :=
  blk_keep h.1 hk fun o hf => by
    obtain ⟨arr, ha⟩ := h.2.1.block ⟨_, hf⟩
    exact blk_ne h.1 ha ty_ok.a rfl
theorem node_grew {w w' : World} {a : Nat} {r : NRec It} {L : Lay} (h : NodeAt TT E w a r L) {n m cap' : Nat} {a' : Option Addr} {cs : List Value} (hg : Grew w w' TT.pair TT.s L.ia a' n m L.icap cap' cs) : w'.cell? ⟨a, 2, none⟩ = some (.slice L.ia r.items.length L.icap) ∧ w'.frozen? ⟨a, 2, none⟩ = false := by
  obtain ⟨c0, c1, c2, c3, fz⟩ := blk4 (node_row h (grew_keep hg))
  exact ⟨c2, fz 2⟩
/-- The block of its children, where their row turns. -/
theorem kids_row {w w' : World} {a : Nat} {r : NRec It} {L : Lay} (h : NodeAt TT E w a r L) {ks : List Nat} (hk : r.kids = some ks) (hkk : Keep (rowFp L.ka L.kcap) w w') : w'.heap[L.cb]? = some (.cells #[.slice L.ka ks.length L.kcap] 173 (0, 0)) ∧
    w'.heap[a]? = some (.cells #[.int .u64 r.iso, .int .i64 r.cnt, .slice L.ia r.items.length L.icap, .pointer (some ⟨L.cb, 0, none⟩)] 172 (0, 0)) := by
  obtain ⟨h5, h6, h7⟩ := h.2.2.2 ks hk
  have h1 := h.1
  rw [hk] at h1
  refine ⟨blk_keep h5 hkk fun o hf => ?_, blk_keep h1 hkk fun o hf => ?_⟩
  · obtain ⟨arr, ha⟩ := h6.block ⟨_, hf⟩
    exact blk_ne ha h5 ty_ok.e rfl
  · obtain ⟨arr, ha⟩ := h6.block ⟨_, hf⟩
    exact blk_ne h1 ha ty_ok.b rfl
theorem kids_grew {w w' : World} {a : Nat} {r : NRec It} {L : Lay} (h : NodeAt TT E w a r L) {ks : List Nat} (hk : r.kids = some ks) {n m cap' : Nat} {a' : Option Addr} {cs : List Value} (hg : Grew w w' TT.nodeP 1 L.ka a' n m L.kcap cap' cs) :
    w'.cell? ⟨L.cb, 0, none⟩ = some (.slice L.ka ks.length L.kcap) ∧ w'.frozen? ⟨L.cb, 0, none⟩ = false ∧ w'.cell? ⟨a, 3, none⟩ = some (.pointer (some ⟨L.cb, 0, none⟩)) := by
  have hgk := grew_keep hg
  rw [Nat.mul_one] at hgk
  obtain ⟨h1, h2⟩ := kids_row h hk hgk
  obtain ⟨c0, c1, c2, c3, fz⟩ := blk4 h2
  obtain ⟨d0, fd⟩ := blk1 h1
  exact ⟨d0, fd 0, c3⟩
theorem all_one (l : List It) : ∀ v ∈ E.all l, v.oneCell' = true := by
  intro v hv
  unfold Enc.all at hv
  obtain ⟨y, _, hy⟩ := List.mem_flatMap.1 hv
  exact E.one y v hy
theorem ptr_one (l : List Nat) : ∀ v ∈ l.map ptr, v.oneCell' = true := by
  intro v hv
  obtain ⟨y, _, rfl⟩ := List.mem_map.1 hv
  rfl

theorem shut_list {β : Type} (I : List β) {i l : Nat} (hI : I.length = l + 1) (hi : i ≤ l) (x : β) : ((I.take i ++ (I.drop (i + 1)).take (l - i) ++ I.drop (i + (l - i))).set l x).take l = I.take i ++ I.drop (i + 1) := by
  have h1 : (I.drop (i + 1)).take (l - i) = I.drop (i + 1) := List.take_of_length_le (by simp; omega)
  rw [h1, List.take_set_of_le (Nat.le_refl l), List.take_append_of_le_length (by simp; omega)]
  exact List.take_of_length_le (by simp; omega)
theorem shut_kids {β : Type} (I : List β) {i l : Nat} (hI : I.length = l + 1) (hi : i ≤ l) : (I.take i ++ (I.drop (i + 1)).take (l - i) ++ I.drop (i + (l - i))).take l = I.take i ++ I.drop (i + 1) := by
  have h1 : (I.drop (i + 1)).take (l - i) = I.drop (i + 1) := List.take_of_length_le (by simp; omega)
  rw [h1, List.take_append_of_le_length (by simp; omega)]
  exact List.take_of_length_le (by simp; omega)

theorem copy_len {β : Type} (I : List β) {i j m : Nat} (h1 : i + m ≤ I.length) (h2 : j + m ≤ I.length) : (I.take i ++ (I.drop j).take m ++ I.drop (i + m)).length = I.length := by
  simp; omega
/-- The last child is given up: its place has turned to nil, then the slice is cut. -/
theorem nk_last2 {w w1 : World} {a : Nat} {r : NRec It} {L : Lay} (h : NodeAt TT E w a r L) {ks : List Nat} (hks : r.kids = some ks) {j : Nat} (hj : ks.length = j + 1) {kb ko : Nat} (hka : L.ka = some ⟨kb, ko, none⟩) (hk : Keep (fun x y => x = kb ∧ y = ko + j) w w1) :
    NTurn TT E w a r L (w1.setCell ⟨L.cb, 0, none⟩ (.slice (some ⟨kb, ko, none⟩) j L.kcap)) { r with kids := some (ks.take j) } L := by
  obtain ⟨h5, h6, h7⟩ := h.2.2.2 ks hks
  have hl : (ks.take j).length = j := by simp; omega
  have hk2 : Keep (rowFp L.ka L.kcap) w w1 := hk.mono fun x y _ ⟨e1, e2⟩ => ⟨kb, ko, hka, e1, by omega, by omega⟩
  have hr : Row w1 TT.nodeP 1 L.ka L.kcap ((ks.take j).map ptr) := by
    have h8 := h6.take j
    rw [← List.map_take] at h8
    refine h8.keep hk fun x o ⟨x1, y1, e1, e2, e3, e4⟩ ⟨f1, f2⟩ => ?_
    rw [hka] at e1
    cases e1
    rw [List.length_map, hl] at e4
    omega
  have := nt_kids ty_ok h hks (ks' := ks.take j) hk2 hr (by omega) (fun _ _ _ h => h)
  rw [hl] at this
  rw [← hka]
  exact this
/-- The last child is given up: its place is nil, and the slice is cut. -/
theorem nk_last {w : World} {a : Nat} {r : NRec It} {L : Lay} (h : NodeAt TT E w a r L) {ks : List Nat} (hks : r.kids = some ks) {j : Nat} (hj : ks.length = j + 1) {kb ko : Nat} (hka : L.ka = some ⟨kb, ko, none⟩) :
    NTurn TT E w a r L ((w.setCell ⟨kb, ko + j, none⟩ (.pointer none)).setCell ⟨L.cb, 0, none⟩ (.slice (some ⟨kb, ko, none⟩) j L.kcap)) { r with kids := some (ks.take j) } L := by
  obtain ⟨h5, h6, h7⟩ := h.2.2.2 ks hks
  have hl : (ks.take j).length = j := by simp; omega
  have hk : Keep (rowFp L.ka L.kcap) w (w.setCell ⟨kb, ko + j, none⟩ (.pointer none)) := (Keep.refl _ _).set _ _ _ fun _ => ⟨kb, ko, hka, rfl, by omega, by omega⟩
  have hr : Row (w.setCell ⟨kb, ko + j, none⟩ (.pointer none)) TT.nodeP 1 L.ka L.kcap ((ks.take j).map ptr) := by
    rw [hka] at h6 ⊢
    have h8 := (h6.setCell (j := j) (.pointer none) (by simp; omega)).take j
    have e : ((ks.map ptr).set j (.pointer none)).take j = (ks.take j).map ptr := by
      rw [List.map_take]
      exact List.take_set_of_le (Nat.le_refl j)
    rwa [e] at h8
  have := nt_kids ty_ok h hks (ks' := ks.take j) hk hr (by omega) (fun _ _ _ h => h)
  rw [hl] at this
  rw [← hka]
  exact this
end Go.Proofs.Ytckplcmieelmpaa.W

namespace Go.Wb
open Go Go.RowKit
variable {α : Type} {mx i : Nat} {c : Nat → Int} {a : Nat} {N1 N2 : List Nat} {m m' : α} {r ra rb : NRec α} {A B : List α}

theorem rebL_leaf (hge : mx ≤ ra.items.length + rb.items.length) (hlt : ¬ rb.items.length < ra.items.length) (hb : rb.items = m' :: B) (ka : ra.kids = none) (kb : rb.kids = none) (ca : ra.cnt = ra.items.length + kidSum c ra.kids) (cb : rb.cnt = rb.items.length + kidSum c rb.kids) :
    RebRec mx i c a N1 N2 m r ra rb { r with items := r.items.set i m' } ⟨ra.iso, ra.cnt + 1, ra.items ++ [m], none⟩ ⟨rb.iso, rb.cnt - 1, B, none⟩ := by
  have e1 : (mrec ra m rb).items.take (ra.items.length + 1) = ra.items ++ [m] := by simp only [mrec]; rw [List.take_length_add_append]; rfl
  have e2 : (mrec ra m rb).items.drop (ra.items.length + 1 + 1) = B := by simp only [mrec]; rw [Nat.add_assoc, List.drop_length_add_append, hb]; rfl
  have e3 : (mrec ra m rb).kids = none := by simp [mrec, mkids, ka]
  rw [ka] at ca
  rw [kb, hb] at cb
  simp only [kidSum] at ca cb
  refine .inr ⟨hge, ra.items.length + 1, m', (if_neg hlt).symm, ?_, rfl, ?_, ?_⟩
  · simp only [mrec]; rw [List.getElem?_append_right (by omega)]; simp [hb]
  · rw [e1, e3]; simp only [Option.map_none, kidSum, List.length_append, List.length_cons, List.length_nil, NRec.mk.injEq, true_and, and_true]; omega
  · rw [e2, e3]; simp only [Option.map_none, kidSum, NRec.mk.injEq, true_and, and_true]; simp only [List.length_cons] at cb; omega

theorem rebL_inner (hge : mx ≤ ra.items.length + rb.items.length) (hlt : ¬ rb.items.length < ra.items.length) (hb : rb.items = m' :: B) {x y : List Nat} {k : Nat} (ka : ra.kids = some x) (kb : rb.kids = some (k :: y)) (hx : x.length = ra.items.length + 1) (ca : ra.cnt = ra.items.length + kidSum c ra.kids) (cb : rb.cnt = rb.items.length + kidSum c rb.kids) :
    RebRec mx i c a N1 N2 m r ra rb { r with items := r.items.set i m' } ⟨ra.iso, ra.cnt + 1 + c k, ra.items ++ [m], some (x ++ [k])⟩ ⟨rb.iso, rb.cnt - 1 - c k, B, some y⟩ := by
  have e1 : (mrec ra m rb).items.take (ra.items.length + 1) = ra.items ++ [m] := by simp only [mrec]; rw [List.take_length_add_append]; rfl
  have e2 : (mrec ra m rb).items.drop (ra.items.length + 1 + 1) = B := by simp only [mrec]; rw [Nat.add_assoc, List.drop_length_add_append, hb]; rfl
  have e3 : (mrec ra m rb).kids = some (x ++ k :: y) := by simp [mrec, mkids, ka, kb]
  have e4 : (x ++ k :: y).take (ra.items.length + 1 + 1) = x ++ [k] := by rw [← hx, List.take_length_add_append]; rfl
  have e5 : (x ++ k :: y).drop (ra.items.length + 1 + 1) = y := by rw [← hx, List.drop_length_add_append]; rfl
  rw [ka] at ca
  rw [kb, hb] at cb
  simp only [kidSum, List.map_cons, List.sum_cons, List.length_cons] at ca cb
  refine .inr ⟨hge, ra.items.length + 1, m', (if_neg hlt).symm, ?_, rfl, ?_, ?_⟩
  · simp only [mrec]; rw [List.getElem?_append_right (by omega)]; simp [hb]
  · rw [e1, e3]; simp only [Option.map_some, e4, kidSum, List.length_append, List.length_cons, List.length_nil, List.map_append, List.map_cons, List.map_nil, List.sum_append, List.sum_cons, List.sum_nil, NRec.mk.injEq, true_and, and_true]; omega
  · rw [e2, e3]; simp only [Option.map_some, e5, kidSum, NRec.mk.injEq, true_and, and_true]; omega

theorem rebR_leaf (hge : mx ≤ ra.items.length + rb.items.length) (hlt : rb.items.length < ra.items.length) (ha : ra.items = A ++ [m']) (ka : ra.kids = none) (kb : rb.kids = none) (ca : ra.cnt = ra.items.length + kidSum c ra.kids) (cb : rb.cnt = rb.items.length + kidSum c rb.kids) :
    RebRec mx i c a N1 N2 m r ra rb { r with items := r.items.set i m' } ⟨ra.iso, ra.cnt - 1, A, none⟩ ⟨rb.iso, rb.cnt + 1, m :: rb.items, none⟩ := by
  have hl : ra.items.length = A.length + 1 := by rw [ha]; simp
  have e1 : (mrec ra m rb).items.take A.length = A := by simp only [mrec, ha, List.append_assoc]; simp
  have e2 : (mrec ra m rb).items.drop (A.length + 1) = m :: rb.items := by simp only [mrec]; rw [← hl]; simp
  have e3 : (mrec ra m rb).kids = none := by simp [mrec, mkids, ka]
  rw [ka] at ca
  rw [kb] at cb
  simp only [kidSum] at ca cb
  refine .inr ⟨hge, A.length, m', by rw [if_pos hlt]; omega, ?_, rfl, ?_, ?_⟩
  · simp only [mrec, ha, List.append_assoc]; simp
  · rw [e1, e3]; simp only [Option.map_none, kidSum, NRec.mk.injEq, true_and, and_true]; omega
  · rw [e2, e3]; simp only [Option.map_none, kidSum, List.length_cons, NRec.mk.injEq, true_and, and_true]; omega

theorem rebR_inner (hge : mx ≤ ra.items.length + rb.items.length) (hlt : rb.items.length < ra.items.length) (ha : ra.items = A ++ [m']) {x y : List Nat} {k : Nat} (ka : ra.kids = some (x ++ [k])) (kb : rb.kids = some y) (hx : x.length = ra.items.length) (ca : ra.cnt = ra.items.length + kidSum c ra.kids) (cb : rb.cnt = rb.items.length + kidSum c rb.kids) :
    RebRec mx i c a N1 N2 m r ra rb { r with items := r.items.set i m' } ⟨ra.iso, ra.cnt - 1 - c k, A, some x⟩ ⟨rb.iso, rb.cnt + 1 + c k, m :: rb.items, some (k :: y)⟩ := by
  have hl : ra.items.length = A.length + 1 := by rw [ha]; simp
  have e1 : (mrec ra m rb).items.take A.length = A := by simp only [mrec, ha, List.append_assoc]; simp
  have e2 : (mrec ra m rb).items.drop (A.length + 1) = m :: rb.items := by simp only [mrec]; rw [← hl]; simp
  have e3 : (mrec ra m rb).kids = some (x ++ k :: y) := by simp [mrec, mkids, ka, kb]
  have e4 : (x ++ k :: y).take (A.length + 1) = x := by rw [← hl, ← hx]; simp
  have e5 : (x ++ k :: y).drop (A.length + 1) = k :: y := by rw [← hl, ← hx]; simp
  rw [ka] at ca
  rw [kb] at cb
  simp only [kidSum, List.map_append, List.map_cons, List.map_nil, List.sum_append, List.sum_cons, List.sum_nil] at ca cb
  refine .inr ⟨hge, A.length, m', by rw [if_pos hlt]; omega, ?_, rfl, ?_, ?_⟩
  · simp only [mrec, ha, List.append_assoc]; simp
  · rw [e1, e3]; simp only [Option.map_some, e4, kidSum, NRec.mk.injEq, true_and, and_true]; omega
  · rw [e2, e3]; simp only [Option.map_some, e5, kidSum, List.length_cons, List.map_cons, List.sum_cons, NRec.mk.injEq, true_and, and_true]; omega
end Go.Wb

namespace Go.Proofs.Ytckplcmieelmpaa.W
open Go.RowKit Go.Wb

theorem front_list {β : Type} (B : List β) (e m : β) {l : Nat} (hB : B.length = l) : (((B ++ [e]).take 1 ++ ((B ++ [e]).drop 0).take l ++ (B ++ [e]).drop (1 + l)).set 0 m) = m :: B := by
  have h1 : ((B ++ [e]).drop 0).take l = B := by rw [List.drop_zero, ← hB]; simp
  have h2 : (B ++ [e]).drop (1 + l) = [] := List.drop_eq_nil_of_le (by simp; omega)
  rw [h1, h2, List.append_nil]
  cases B with
  | nil => rfl
  | cons z B => rfl

/-- A child is put ahead of all others: nil is appended, the row is moved on by one place, and its first place is set. -/
theorem nk_front {w w0 w1 wc w2 : World} {d : Nat} {r : NRec It} {L : Lay} (h : NodeAt TT E w d r L) {ks : List Nat} (hks : r.kids = some ks) {a' : Option Addr} {cap' : Nat} (hk0 : Keep Nothing w w0) (hg : Grew w0 w1 TT.nodeP 1 L.ka a' ks.length 1 L.kcap cap' (ks.map ptr ++ [.pointer none]))
    {kb ko : Nat} (ha : a' = some ⟨kb, ko, none⟩) (hc0 : Keep Nothing (w1.setCell ⟨L.cb, 0, none⟩ (.slice a' (ks.length + 1) cap')) wc) (hk : Keep (fun x y => x = kb ∧ ko ≤ y ∧ y < ko + cap') wc w2) {k : Nat} (hrow : Row w2 TT.nodeP 1 a' cap' ((k :: ks).map ptr)) :
    NTurn TT E w d r L w2 { r with kids := some (k :: ks) } { L with ka := a', kcap := cap' } := by
  have h0 : NodeAt TT E w0 d r L := h.keep hk0 fun _ _ _ h => h
  have hgk := grew_keep hg
  rw [Nat.mul_one] at hgk
  obtain ⟨e1, e2⟩ := kids_row h0 hks hgk
  have hrow1 := hg.row
  rw [ha] at hrow1
  obtain ⟨arr, harr⟩ := hrow1.blk
  have hkc : kb ≠ L.cb := blk_ne harr e1 ty_ok.e
  have hkd : kb ≠ d := (blk_ne e2 harr ty_ok.b).symm
  have hdc : d ≠ L.cb := blk_ne e2 e1 ty_ok.c
  have hr1 : Row w1 TT.pair TT.s L.ia L.icap (E.all r.items) := h0.2.1.keep' hgk fun b o hf hg2 => by
    obtain ⟨arr, ha⟩ := h0.2.1.block ⟨_, hf⟩
    obtain ⟨arr', ha'⟩ := (h0.2.2.2 ks hks).2.1.block ⟨_, hg2⟩
    exact blk_ne ha ha' ty_ok.f rfl
  have K1c : Keep (fun b o => b = L.cb ∧ o = 0) w1 wc := ((Keep.refl _ _).set _ _ _ fun _ => ⟨rfl, rfl⟩ : Keep (fun b o => b = L.cb ∧ o = 0) w1 (w1.setCell ⟨L.cb, 0, none⟩ (.slice a' (ks.length + 1) cap'))).trans hc0 fun _ _ _ h => h.elim
  have K12 : Keep (fun b o => (b = L.cb ∧ o = 0) ∨ (b = kb ∧ ko ≤ o ∧ o < ko + cap')) w1 w2 := (K1c.mono fun _ _ _ h => .inl h).trans hk fun _ _ _ h => .inr h
  have ec : w2.heap[L.cb]? = some (.cells #[.slice a' (ks.length + 1) cap'] 173 (0, 0)) := by
    refine blk_keep (blk_keep ?_ hc0 fun _ h => h) hk fun o h => hkc h.1.symm
    rw [blk_set _ e1]; rfl
  have hfp : ∀ b o, b < w.heap.size → rowFp a' cap' b o → rowFp L.ka L.kcap b o := fun b o hb hf => by
    have := hk0.size
    rcases hg.fp b o (by simpa using hf) with h | ⟨h, _⟩
    · simpa using h
    · omega
  refine ⟨⟨?_, ?_, h.2.2.1, fun ks2 hks2 => ?_⟩, ?_, ?_⟩
  · show w2.heap[d]? = some (.cells #[.int .u64 r.iso, .int .i64 r.cnt, .slice L.ia r.items.length L.icap, .pointer (some ⟨L.cb, 0, none⟩)] 172 (0, 0))
    exact blk_keep e2 K12 fun o h => h.elim (fun h => hdc h.1) fun h => hkd h.1.symm
  · refine hr1.keep' K12 fun b o hf h => ?_
    obtain ⟨arr2, ha2⟩ := hr1.block ⟨_, hf⟩
    rcases h with h | h
    · rw [h.1] at ha2; exact blk_ne ha2 e1 ty_ok.d rfl
    · rw [h.1] at ha2; exact blk_ne ha2 harr ty_ok.f rfl
  · obtain rfl : k :: ks = ks2 := Option.some.inj hks2
    exact ⟨ec, hrow, hg.cap⟩
  · refine ((hk0.mono fun _ _ _ h => h.elim : Keep (Wb.fp TT d r L) w w0).trans hgk fun b o hb hf => .inr (.inr ⟨by simp [hks], .inr hf⟩)).trans K12 fun b o hb h => ?_
    rcases h with h | h
    · exact .inr (.inr ⟨by simp [hks], .inl h.1⟩)
    · exact .inr (.inr ⟨by simp [hks], .inr (hfp b o hb ⟨kb, ko, ha, h.1, h.2.1, h.2.2⟩)⟩)
  · rintro b o hb (e | hf | ⟨_, hf | hf⟩)
    · exact .inl e
    · exact .inr (.inl hf)
    · exact .inr (.inr ⟨by simp [hks], .inl hf⟩)
    · exact .inr (.inr ⟨by simp [hks], .inr (hfp b o hb hf)⟩)

/-- Where nil is appended to a node's children. -/
theorem front_mid {w w0 w1 wc : World} {d : Nat} {r : NRec It} {L : Lay} (h : NodeAt TT E w d r L) {ks : List Nat} (hks : r.kids = some ks) {a' : Option Addr} {cap' : Nat} (hk0 : Keep Nothing w w0) (hg : Grew w0 w1 TT.nodeP 1 L.ka a' ks.length 1 L.kcap cap' (ks.map ptr ++ [.pointer none]))
    {kb ko : Nat} (ha : a' = some ⟨kb, ko, none⟩) (hc0 : Keep Nothing (w1.setCell ⟨L.cb, 0, none⟩ (.slice a' (ks.length + 1) cap')) wc) :
    wc.cell? ⟨d, 3, none⟩ = some (.pointer (some ⟨L.cb, 0, none⟩)) ∧ wc.cell? ⟨L.cb, 0, none⟩ = some (.slice a' (ks.length + 1) cap') ∧ Row wc TT.nodeP 1 a' cap' (ks.map ptr ++ [.pointer none]) ∧ Keep (fp TT d r L) w wc ∧ d ≠ kb ∧ L.cb ≠ kb := by
  have h0 : NodeAt TT E w0 d r L := h.keep hk0 fun _ _ _ h => h
  have hgk := grew_keep hg
  rw [Nat.mul_one] at hgk
  obtain ⟨e1, e2⟩ := kids_row h0 hks hgk
  have hrow1 := hg.row
  rw [ha] at hrow1
  obtain ⟨arr, harr⟩ := hrow1.blk
  have hkc : kb ≠ L.cb := blk_ne harr e1 ty_ok.e
  have hkd : kb ≠ d := (blk_ne e2 harr ty_ok.b).symm
  have hdc : d ≠ L.cb := blk_ne e2 e1 ty_ok.c
  have KS : Keep (fun b o => b = L.cb ∧ o = 0) w1 (w1.setCell ⟨L.cb, 0, none⟩ (.slice a' (ks.length + 1) cap')) := (Keep.refl _ _).set _ _ _ fun _ => ⟨rfl, rfl⟩
  have K1c : Keep (fun b o => b = L.cb ∧ o = 0) w1 wc := KS.trans hc0 fun _ _ _ h => h.elim
  have ec : wc.heap[L.cb]? = some (.cells #[.slice a' (ks.length + 1) cap'] 173 (0, 0)) := by
    refine blk_keep ?_ hc0 fun _ h => h
    rw [blk_set _ e1]; rfl
  have ed := blk_keep e2 K1c fun o h => hdc h.1
  refine ⟨(blk4 ed).2.2.2.1, (blk1 ec).1, ?_, ?_, hkd.symm, hkc.symm⟩
  · refine hg.row.keep' K1c fun b o hf h => ?_
    rw [ha] at hf
    exact hkc ((rowFp_some hf).1.symm.trans h.1)
  · refine ((hk0.mono fun _ _ _ h => h.elim : Keep (Wb.fp TT d r L) w w0).trans hgk fun b o hb hf => .inr (.inr ⟨by simp [hks], .inr hf⟩)).trans K1c fun b o hb h => ?_
    exact .inr (.inr ⟨by simp [hks], .inl h.1⟩)
theorem ptr_one2 (l : List Nat) : ∀ v ∈ l.map ptr ++ [Value.pointer none], v.oneCell' = true := by
  intro v hv
  rcases List.mem_append.1 hv with hv | hv
  · exact ptr_one l v hv
  · obtain rfl := List.mem_singleton.1 hv; rfl
end Go.Proofs.Ytckplcmieelmpaa.W
