/- Part 2 of the common texts: the package's tree of maps and sets, its functions' contracts. -/
import Derived.Test.YtfikahgofapobaaYA
import Derived.Deep.RegionHeld3
import Derived.Laws.EntriesVeiled
import Derived.Deep.QuietTactic
import Derived.BigQuiet
namespace Go.Proofs.Ytfikahgofapobaa.W
open Go.RowKit Go.Wb

/-- What is handed from a tree to a growing slice of keys. -/
def KeysPost (B : Nat) (w : World) (xs : List Ky) (e : Ending) (w' : World) : Prop := ∃ a cap, e = .returned (.slice a xs.length cap) ∧ Acc B w' 9 1 a xs.length cap (xs.map kv) ∧ Keep (fun b _ => B ≤ b) w w'

theorem wl_succ {α : Type} (K : List (List α)) (I : List α) (i : Nat) {k : List α} {x : α} (hk : K[i]? = some k) (hx : I[i]? = some x) : wl (K.take (i + 1)) (I.take (i + 1)) = wl (K.take i) (I.take i) ++ k ++ [x] := by
  induction i generalizing K I with
  | zero =>
    cases K with
    | nil => simp at hk
    | cons a K => cases I with
      | nil => simp at hx
      | cons b I => simp at hk hx; subst hk; subst hx; simp [wl]
  | succ i ih =>
    cases K with
    | nil => simp at hk
    | cons a K => cases I with
      | nil => simp at hx
      | cons b I =>
        simp only [List.take_succ_cons, wl, List.cons_append, List.append_assoc]
        rw [ih K I (by simpa using hk) (by simpa using hx)]
        simp
theorem wl_last {α : Type} {h : Nat} {its : List α} {ks : List (Tr α)} (hl : ks.length = its.length + 1) {k : Tr α} (hk : ks[its.length]? = some k) : flat (h + 1) (.node its ks) = wl ((ks.map (flat h)).take its.length) its ++ flat h k := by
  obtain ⟨hlt, rfl⟩ := List.getElem?_eq_some_iff.1 hk
  have e : ks = ks.take its.length ++ ks[its.length] :: [] := by
    have := List.take_append_drop its.length ks
    rw [List.drop_eq_getElem_cons hlt, List.drop_eq_nil_of_le (by omega)] at this
    exact this.symm
  have h1 := wl_wr ((ks.take its.length).map (flat h)) its (flat h ks[its.length]) [] [] (by simp; omega)
  simp only [List.append_nil, wr] at h1
  simp only [flat, Tr.its, Tr.ks]
  conv => lhs; rw [e]
  rw [List.map_append, List.map_cons, List.map_nil, h1, List.map_take]

theorem elemK : Elem Try.prog 9 1 16 := ⟨by kernel_rfl, by kernel_rfl, by kernel_rfl⟩

/-- The key's cell of an item of a node. -/
theorem node_key {w : World} {n : Nat} {r : NRec It} {L : Lay} (hn : NodeAt TT E w n r L) {i : Nat} {x : It} (hi : r.items[i]? = some x) : ∃ ib io, L.ia = some ⟨ib, io, none⟩ ∧
    w.cell? ⟨ib, io + i * 2 + 1, none⟩ = some (kv (ky x)) := by
  obtain ⟨hil, _⟩ := List.getElem?_eq_some_iff.1 hi
  have hrow := hn.2.1
  obtain ⟨ib, io, hia, _⟩ := hrow.form (by rw [E.all_len]; exact Nat.mul_pos (by omega) E.pos)
  rw [hia] at hrow
  exact ⟨ib, io, hia, key_cell hrow hi⟩

set_option maxRecDepth 100000 in
set_option maxHeartbeats 4000000 in
theorem keys_leaf {w0 : World} {n : Nat} {r : NRec It} {L : Lay} (hn : NodeAt TT E w0 n r L) (hlf : r.kids = none) (hlen : r.items.length ≤ 1000000000000) (B : Nat) (hB : B = w0.heap.size) {w : World} (hK : Keep (fun b _ => B ≤ b) w0 w) {a : Option Addr} {cap : Nat} {xs : List Ky}
    (hA : Acc B w 9 1 a xs.length cap (xs.map kv)) (hb : xs.length + r.items.length ≤ 4000000000000) :
    Calls Try.prog 136 #[ptr n, .slice a xs.length cap] w (KeysPost B w (xs ++ r.items.map ky)) := by
  have HN := Lib.hid hn
  have HB0 := Lib.hid hB
  have HK := Lib.hid hK
  have HA := Lib.hid hA
  have nodeat : Hid (∀ W, Keep (fun b _ => B ≤ b) w0 W → NodeAt TT E W n r L) := by
    exact fun W k => hn.keep k fun b o hf h => by have := hn.lt hf; omega
  have hlv := leaf_any (nodeat.out w hK)
  rw [hlf] at hlv
  simp only [Option.isNone_none] at hlv
  clear hn hlf hK hA hB
  unfold ptr at *
  go_enter Try.func136, Try.ntmps136
  go_wp2_with fail
  refine hlv.mono ?_
  rintro e w1 ⟨rfl, rfl⟩
  clear hlv
  go_wp2_with fail
  go_loopg [1, 5] (r.items.length + 1) (fun k v1 v5 wr => ∃ (i : Nat) (a' : Option Addr) (cap' : Nat), v5 = .int .i64 i ∧ v1 = .slice a' (xs.length + i) cap' ∧ i ≤ r.items.length ∧ i + k = r.items.length + 1 ∧ Keep (fun b _ => B ≤ b) w wr ∧ Acc B wr 9 1 a' (xs.length + i) cap' ((xs ++ (r.items.take i).map ky).map kv))
  case atStart => exact ⟨0, a, cap, rfl, rfl, by omega, by omega, Keep.refl _ _, by simpa using HA.out⟩
  case round =>
    obtain ⟨i, a1, cap1, rfl, rfl, hil, hik, hK1, hA1⟩ := hrel
    have HK1 := Lib.hid hK1
    have HA1 := Lib.hid hA1
    have N1 := Lib.hid (nodeat.out wr (HK.out.trans hK1 fun _ _ _ h => h))
    obtain ⟨d0, d1, c2, d3, fz⟩ := N1.out.own
    clear d0 d1 d3 hK1 hA1
    by_cases hlt : i < r.items.length
    · have hx : r.items[i]? = some r.items[i] := List.getElem?_eq_getElem hlt
      have HX := Lib.hid hx
      obtain ⟨ib, io, hia, ck⟩ := node_key N1.out hx
      rw [hia] at c2
      generalize r.items[i] = x at *
      have hBw : B ≤ wr.heap.size := by have := HB0.out; have := HK.out.size; have := HK1.out.size; omega
      clear hx hia
      unfold kv at ck
      go_wp2_with (at_builtin; refine wpList_append_any rfl _ _ _ rfl 9 1 16 Try.underlying22 elemK a1 (xs.length + i) cap1 _ rfl (HA1.out.quiet (Keep.alloc _ _ _)).row HA1.out.len ⟨wr.heap.size, 0, none⟩ 1 1 [kv (ky x)] rfl rfl (new_cells (heap_alloc_new wr _)) (by intro u hu; rw [List.mem_singleton.1 hu]; rfl) (by omega) HA1.out.le (by simp only [maxLen]; omega) (by omega) ?_; intro a2 cap2 w2 hg)
      obtain ⟨hA2, hK2⟩ := (HA1.out.quiet (Keep.alloc _ _ _)).grow (by simp; omega) hg rfl
      have HA2 := Lib.hid hA2
      have HK2 : Hid (Keep (fun b _ => B ≤ b) w w2) := by exact (HK1.out.al _).trans hK2 fun _ _ _ h => h
      clear hg hA2 hK2 ck c2 fz
      go_wp2_with fail
      go_roundg (r.items.length - i)
      case measure => omega
      case rel =>
        refine ⟨i + 1, a2, cap2, by go_num, by simp [Nat.add_assoc], by omega, by omega, HK2.out, ?_⟩
        have e : (xs ++ (r.items.take (i + 1)).map ky).map kv = (xs ++ (r.items.take i).map ky).map kv ++ [kv (ky x)] := by
          rw [List.take_add_one, HX.out]; simp
        rw [e]
        exact HA2.out
    · have hi : i = r.items.length := by omega
      subst hi
      go_wp2_with fail
      go_ret
      refine ⟨a1, cap1, by simp, ?_, HK1.out⟩
      have := HA1.out
      rw [List.take_of_length_le (Nat.le_refl _)] at this
      simpa using this

set_option maxRecDepth 100000 in
set_option maxHeartbeats 8000000 in
theorem keys_inner {w0 : World} {n h : Nat} {r : NRec It} {L : Lay} (hn : NodeAt TT E w0 n r L) {ns : List Nat} (hkd : r.kids = some ns) {ks : List (Tr It)} (hks : ks.length = r.items.length + 1) (hnl : ns.length = ks.length) (hlen : r.items.length ≤ 1000000000000) (B : Nat) (hB : B = w0.heap.size)
    (IH : ∀ (i m : Nat) (k : Tr It) (w : World) (a : Option Addr) (cap : Nat) (xs : List Ky), ns[i]? = some m → ks[i]? = some k → Keep (fun b _ => B ≤ b) w0 w → Acc B w 9 1 a xs.length cap (xs.map kv) → xs.length + (flat h k).length ≤ 4000000000000 →
      Calls Try.prog 136 #[ptr m, .slice a xs.length cap] w (KeysPost B w (xs ++ (flat h k).map ky)))
    {w : World} (hK : Keep (fun b _ => B ≤ b) w0 w) {a : Option Addr} {cap : Nat} {xs : List Ky}
    (hA : Acc B w 9 1 a xs.length cap (xs.map kv)) (hb : xs.length + (flat (h + 1) (.node r.items ks)).length ≤ 4000000000000) :
    Calls Try.prog 136 #[ptr n, .slice a xs.length cap] w (KeysPost B w (xs ++ (flat (h + 1) (.node r.items ks)).map ky)) := by
  have HN := Lib.hid hn
  have HB0 := Lib.hid hB
  have HK := Lib.hid hK
  have HA := Lib.hid hA
  have HI := Lib.hid IH
  have HKD := Lib.hid hkd
  have HKS := Lib.hid hks
  have HNL := Lib.hid hnl
  have nodeat : Hid (∀ W, Keep (fun b _ => B ≤ b) w0 W → NodeAt TT E W n r L) := by
    exact fun W k => hn.keep k fun b o hf h => by have := hn.lt hf; omega
  have hlv := leaf_any (nodeat.out w hK)
  rw [hkd] at hlv
  simp only [Option.isNone_some] at hlv
  have part : Hid (∀ i, i ≤ r.items.length → (wl ((ks.map (flat h)).take i) (r.items.take i)).length ≤ (flat (h + 1) (.node r.items ks)).length ∧ ∀ k, ks[i]? = some k → (wl ((ks.map (flat h)).take i) (r.items.take i)).length + (flat h k).length + (if i < r.items.length then 1 else 0) ≤ (flat (h + 1) (.node r.items ks)).length) := by
    intro i hi
    have hl := (flat_len (h := h) hks)
    have hw : ∀ i, i ≤ r.items.length → (wl ((ks.map (flat h)).take i) (r.items.take i)).length = i + (((ks.map fun k => (flat h k).length)).take i).sum := by
      intro i
      induction i with
      | zero => intro _; simp [wl]
      | succ i ih =>
        intro hi
        have hk : (ks.map (flat h))[i]? = some (flat h (ks[i]'(by omega))) := by rw [List.getElem?_map, List.getElem?_eq_getElem (by omega)]; rfl
        rw [wl_succ _ _ i hk (List.getElem?_eq_getElem (by omega)), List.length_append, List.length_append, ih (by omega), List.take_succ_eq_append_getElem (by simp; omega), List.sum_append]
        simp
        omega
    have hs : ∀ j, (((ks.map fun k => (flat h k).length)).take j).sum ≤ ((ks.map fun k => (flat h k).length)).sum := fun j => by
      have := List.sum_append (l₁ := (ks.map fun k => (flat h k).length).take j) (l₂ := (ks.map fun k => (flat h k).length).drop j)
      rw [List.take_append_drop] at this
      omega
    rw [hw i hi, hl]
    refine ⟨by have := hs i; omega, fun k hk => ?_⟩
    have h1 := hs (i + 1)
    obtain ⟨hkl, rfl⟩ := List.getElem?_eq_some_iff.1 hk
    rw [List.take_succ_eq_append_getElem (by simpa using hkl), List.sum_append] at h1
    simp at h1
    split <;> omega
  clear hn hkd hK hA hB IH hks hnl
  unfold ptr at *
  go_enter Try.func136, Try.ntmps136
  go_wp2_with fail
  refine hlv.mono ?_
  rintro e w1 ⟨rfl, rfl⟩
  clear hlv
  go_wp2_with fail
  go_loopg [1, 6] (r.items.length + 1) (fun k v1 v6 wr => ∃ (i : Nat) (a' : Option Addr) (cap' : Nat) (ys : List Ky), v6 = .int .i64 i ∧ v1 = .slice a' ys.length cap' ∧ i ≤ r.items.length ∧ i + k = r.items.length + 1 ∧ Keep (fun b _ => B ≤ b) w wr ∧ Acc B wr 9 1 a' ys.length cap' (ys.map kv) ∧
    ys = xs ++ (wl ((ks.map (flat h)).take i) (r.items.take i)).map ky)
  case atStart => exact ⟨0, a, cap, xs, rfl, rfl, by omega, by omega, Keep.refl _ _, HA.out, by simp [wl]⟩
  case round =>
    obtain ⟨i, a1, cap1, ys, rfl, rfl, hil, hik, hK1, hA1, hys⟩ := hrel
    have HYS := Lib.hid hys
    have HK1 := Lib.hid hK1
    have HA1 := Lib.hid hA1
    have N1 := Lib.hid (nodeat.out wr (HK.out.trans hK1 fun _ _ _ h => h))
    obtain ⟨d0, d1, c2, d3, fz⟩ := N1.out.own
    obtain ⟨c3, g1, fz2, _, _⟩ := N1.out.kids HKD.out
    unfold ptr at c3
    have hkl : ks[i]? = some (ks[i]'(by have := HKS.out; omega)) := List.getElem?_eq_getElem _
    have hnl : ns[i]? = some (ns[i]'(by have := HKS.out; have := HNL.out; omega)) := List.getElem?_eq_getElem _
    have hrow := (N1.out.2.2.2 ns HKD.out).2.1
    obtain ⟨kb, ko, hka, _⟩ := hrow.form (by simp; have := HKS.out; have := HNL.out; omega)
    rw [hka] at hrow g1
    have ck := hrow.cell (i := i) (v := ptr (ns[i]'(by have := HKS.out; have := HNL.out; omega))) (by simp [hnl])
    have hylen : ys.length = xs.length + (wl ((ks.map (flat h)).take i) (r.items.take i)).length := by rw [hys]; simp
    have HYL := Lib.hid hylen
    have hnsl : i < ns.length := (List.getElem?_eq_some_iff.1 hnl).1
    generalize ns[i]'(by have := HKS.out; have := HNL.out; omega) = m at *
    generalize ks[i]'(by have := HKS.out; omega) = k at *
    obtain ⟨p1, p2⟩ := part.out i hil
    have p3 := p2 k hkl
    have HKL := Lib.hid hkl
    have HMN := Lib.hid hnl
    unfold ptr at ck
    clear d0 d1 d3 hK1 hA1 hys hrow hka hkl hnl hylen p1 p2
    by_cases hlt : i < r.items.length
    · have hx : r.items[i]? = some r.items[i] := List.getElem?_eq_getElem hlt
      have HX := Lib.hid hx
      generalize r.items[i] = x at *
      rw [if_pos hlt] at p3
      have hcall := Lib.hid (HI.out i m k wr a1 cap1 ys HMN.out HKL.out (HK.out.trans HK1.out fun _ _ _ h => h) HA1.out (by have := HYL.out; omega))
      clear hx
      unfold ptr at hcall
      go_wp2_with fail
      refine hcall.out.mono ?_
      rintro e w2 ⟨a2, cap2, rfl, hA2, hK2⟩
      have HA2 := Lib.hid hA2
      have HK2 : Hid (Keep (fun b _ => B ≤ b) w w2) := by exact HK1.out.trans hK2 fun _ _ _ h => h
      have HL2 : Hid ((ys ++ (flat h k).map ky).length + 1 ≤ 4000000000000) := Lib.hid (by have := HYL.out; simp; omega)
      clear hA2 hK2 hcall N1 c2 fz c3 g1 fz2 ck
      generalize hz : ys ++ (flat h k).map ky = zs at *
      have HZ := Lib.hid hz
      have N2 := Lib.hid (nodeat.out w2 (HK.out.trans HK2.out fun _ _ _ h => h))
      obtain ⟨d0, d1, c2, d3, fz⟩ := N2.out.own
      obtain ⟨ib, io, hia, ck⟩ := node_key N2.out HX.out
      rw [hia] at c2
      have hBw : B ≤ w2.heap.size := by have := HB0.out; have := HK.out.size; have := HK2.out.size; omega
      unfold kv at ck
      have hl2 := HL2.out
      clear d0 d1 d3 hia hz
      go_wp2_with (at_builtin; refine wpList_append_any rfl _ _ _ rfl 9 1 16 Try.underlying22 elemK a2 zs.length cap2 _ rfl (HA2.out.quiet (Keep.alloc _ _ _)).row HA2.out.len ⟨w2.heap.size, 0, none⟩ 1 1 [kv (ky x)] rfl rfl (new_cells (heap_alloc_new w2 _)) (by intro u hu; rw [List.mem_singleton.1 hu]; rfl) (by omega) HA2.out.le (by simp only [maxLen]; omega) (by omega) ?_; intro a3 cap3 w3 hg)
      obtain ⟨hA3, hK3⟩ := (HA2.out.quiet (Keep.alloc _ _ _)).grow (by simp; omega) hg rfl
      have HA3 := Lib.hid hA3
      have HK3 : Hid (Keep (fun b _ => B ≤ b) w w3) := by exact (HK2.out.al _).trans hK3 fun _ _ _ h => h
      clear hg hA3 hK3 ck c2 fz
      go_wp2_with fail
      go_roundg (r.items.length - i)
      case measure => omega
      case rel =>
        refine ⟨i + 1, a3, cap3, zs ++ [ky x], by go_num, by simp, by omega, by omega, HK3.out, ?_, ?_⟩
        · simpa using HA3.out
        · rw [wl_succ _ _ i (k := flat h k) (by simp [HKL.out]) HX.out, ← HZ.out, HYS.out]
          simp
    · have hi : i = r.items.length := by omega
      subst hi
      have hcall := Lib.hid (HI.out _ m k wr.drew a1 cap1 ys HMN.out HKL.out ((HK.out.trans HK1.out fun _ _ _ h => h).dr) (HA1.out.quiet (Keep.drew _ _)) (by have := HYL.out; omega))
      unfold ptr at hcall
      rw [HNL.out, HKS.out] at g1
      go_wp2_with fail
      refine wp_calm (by kernel_rfl) (by kernel_rfl) rfl ?_
      simp only [List.flatMap_cons, List.flatMap_nil, checks, chk, nilLit, List.cons_append, List.nil_append, List.append_nil]
      go_wp2_with fail
      refine hcall.out.mono ?_
      rintro e w2 ⟨a2, cap2, rfl, hA2, hK2⟩
      have HA2 := Lib.hid hA2
      have HK2 : Hid (Keep (fun b _ => B ≤ b) w w2) := by exact HK1.out.dr.trans hK2 fun _ _ _ h => h
      clear hA2 hK2 hcall N1 c2 fz c3 g1 fz2 ck
      go_wp2_with fail
      rw [HQ_normal]
      go_wp2_with fail
      go_ret
      have e : ys ++ (flat h k).map ky = xs ++ (flat (h + 1) (.node r.items ks)).map ky := by
        rw [wl_last HKS.out HKL.out, HYS.out, List.take_of_length_le (Nat.le_refl _)]
        simp
      rw [← e]
      exact ⟨a2, cap2, by simp, HA2.out, HK2.out⟩

/-- THE KEYS below a node. -/
theorem keys_any {w0 : World} {H : Store It} {L : Nat → Lay} {c : Int} {mn mx : Nat} (hm : Mem TT E w0 H L) (hmx : mx ≤ 1000000000000) (B : Nat) (hB : B = w0.heap.size) : ∀ (h l n : Nat) (t : Tr It) (F : List Nat), Rep H c h n t F → wfr l mn mx h t → ∀ (w : World), Keep (fun b _ => B ≤ b) w0 w → ∀ (a : Option Addr) (cap : Nat) (xs : List Ky),
    Acc B w 9 1 a xs.length cap (xs.map kv) → xs.length + (flat h t).length ≤ 4000000000000 → Calls Try.prog 136 #[ptr n, .slice a xs.length cap] w (KeysPost B w (xs ++ (flat h t).map ky))
  | 0, l, n, t, F, hr, wf, w, hK, a, cap, xs, hA, hb => by
    obtain ⟨r, h1, h2, h3, h4, h5, h6, _⟩ := hr
    obtain ⟨its, ks⟩ := t
    simp only [Tr.its, flat] at *
    subst h3
    exact keys_leaf (hm.at_ n r h1) h5 (by have := wf.2.1; simp only [Tr.its] at this; omega) B hB hK hA hb
  | h + 1, l, n, t, F, hr, wf, w, hK, a, cap, xs, hA, hb => by
    obtain ⟨r, ns, F', h1, h2, h3, h4, h5, h6, _⟩ := hr
    obtain ⟨w1, w2, w3, w4⟩ := wf
    obtain ⟨its, ks⟩ := t
    simp only [Tr.its, Tr.ks] at *
    subst h3
    refine keys_inner (hm.at_ n r h1) h4 w3 h6.len (by omega) B hB (fun i m k w a cap xs hm1 hk hK hA hb => ?_) hK hA hb
    obtain ⟨G, hR⟩ := h6.get hm1 hk
    exact keys_any hm hmx B hB h mn m k G hR (w4 k (List.mem_of_getElem? hk)) w hK a cap xs hA hb
end Go.Proofs.Ytfikahgofapobaa.W

namespace Go.Proofs.Ytfikahgofapobaa.W
open Go.RowKit Go.Wb

/-- An item of a key. -/
def itOf (k : Ky) : It := (k, 0)
/-- The item of a key. -/
def findK (l : List It) (k : Ky) : Option It := l.find? fun x => !klt (ky x) k && !klt k (ky x)
theorem findK_less {l : List It} {k : Ky} (h : ∀ a ∈ l, klt (ky a) k = true) : findK l k = none := List.find?_eq_none.2 fun a ha => by simp [h a ha]
theorem findK_more {l : List It} {k : Ky} (h : ∀ a ∈ l, klt k (ky a) = true) : findK l k = none := List.find?_eq_none.2 fun a ha => by simp [h a ha]
theorem findK_append (l m : List It) (k : Ky) : findK (l ++ m) k = (findK l k).or (findK m k) := List.find?_append
theorem findK_mid {A B : List It} {k : Ky} {y : It} (hA : ∀ a ∈ A, klt (ky a) k = true) (h1 : klt (ky y) k = false) (h2 : klt k (ky y) = false) : findK (A ++ y :: B) k = some y := by
  rw [findK_append, findK_less hA]
  simp [findK, h1, h2]

theorem find_leaf {its : List It} {k : Ky} {i : Nat} (h : Loc its k i false) : findK its k = none := by
  obtain ⟨h1, h2⟩ := loc_none h
  rw [← List.take_append_drop i its, findK_append, findK_less h1, findK_more h2]
  rfl
theorem find_own {l mn mx h : Nat} {t : Tr It} (wf : wfr l mn mx h t) (hs : Sorted ilt (flat h t)) {k : Ky} {i : Nat} (hl : Loc t.its k i true) {y : It} (hy : t.its[i]? = some y) : findK (flat h t) k = some y := by
  obtain ⟨A, y', B, e, hA, hy', h1, h2, hlA, hlB⟩ := loc_found (own_sorted wf hs) hl
  rw [hy] at hy'
  cases hy'
  have key : ∃ C D, flat h t = C ++ y :: D := by
    cases h with
    | zero => exact ⟨A, B, e⟩
    | succ h =>
      obtain ⟨its, ks⟩ := t
      simp only [Tr.its] at e
      subst e
      obtain ⟨C, D, hCD⟩ := flat_item (h := h) (A := A) (B := B) (y := y) (ks := ks) wf.2.2.1
      exact ⟨C, D, hCD y⟩
  obtain ⟨C, D, e2⟩ := key
  rw [e2] at hs ⊢
  obtain ⟨_, _, hC⟩ := Sorted.of_append hs
  exact findK_mid (fun a ha => klt_of_eq h1 h2 (hC a ha y (by simp))) h1 h2
theorem find_child {l mn mx h : Nat} {t : Tr It} (wf : wfr l mn mx (h + 1) t) (hs : Sorted ilt (flat (h + 1) t)) {k : Ky} {i : Nat} (hl : Loc t.its k i false) {c : Tr It} (hc : t.ks[i]? = some c) :
    findK (flat (h + 1) t) k = findK (flat h c) k ∧ Sorted ilt (flat h c) ∧ wfr mn mn mx h c := by
  obtain ⟨w1, w2, w3, w4⟩ := wf
  obtain ⟨its, ks⟩ := t
  simp only [Tr.its, Tr.ks] at *
  obtain ⟨hil, _⟩ := List.getElem?_eq_some_iff.1 hc
  obtain ⟨K1, c', K2, rfl, hK1, hc'⟩ := split_at ks i hil
  rw [hc] at hc'
  cases hc'
  obtain ⟨lA, lB⟩ := loc_none hl
  have e : its.take i ++ its.drop i = its := List.take_append_drop _ _
  have hi := hl.1
  simp only [List.length_append, List.length_cons] at w3
  have this := flat_around (lt := ilt) (x := itOf k) iord (h := h) (I1 := its.take i) (I2 := its.drop i) (K1 := K1) (K2 := K2) (k := c) (by simp; omega) (by simp; omega) (by rw [e]; exact hs) lA lB
  rw [e] at this
  obtain ⟨C, D, e2, hC, hD⟩ := this
  rw [e2 c] at hs ⊢
  refine ⟨?_, hs.mid, w4 c (by simp)⟩
  have hC' : findK C k = none := findK_less hC
  have hD' : findK D k = none := findK_more hD
  rw [findK_append, findK_append, hC', hD']
  cases findK (flat h c) k <;> rfl

/-- The value's cell of an item. -/
def GetPost (w : World) (p : Option It) (ep : It) (e : Ending) (w' : World) : Prop := e = .returned (.tuple #[vv (p.getD ep), .bool p.isSome]) ∧ Keep Nothing w w'

set_option maxRecDepth 100000 in
set_option maxHeartbeats 4000000 in
theorem get_any {w : World} {b : Nat} {hr : HRec} {H : Store It} {L : Nat → Lay} {F : List Nat} {mn mx : Nat} {s : Sh} (T : TreeAt w b hr H L F mn mx s) (k : Ky) :
    Calls Try.prog 133 #[ptr b, kv k, .bool false] w (GetPost w (findK (its s) k) hr.emp) := by
  have HT := Lib.hid T
  have hbw := lt_of_heap T.hdr
  clear T
  unfold ptr kv at *
  cases s with
  | none =>
    obtain ⟨hroot, _⟩ := HT.out.root
    have HR := Lib.hid hroot
    clear hroot
    go_enter Try.func133, Try.ntmps133
    go_upto_region 1 with (fail)
    refine wp_world ?_
    intro W1 hW1
    have K1 : Hid (Keep Nothing w W1) := by
      subst hW1; exact Keep.refl _ _
    clear hW1
    have H1 : Hid (Hdr W1 b hr) := by exact blk_keep HT.out.hdr K1.out fun _ h => h
    have c2 := hdr_root H1.out
    rw [HR.out] at c2
    simp only [rootV, Option.map_none] at c2
    have fz := hdr_fz H1.out
    have he := hdr_emp H1.out
    go_wp2_with fail
    go_ret2
    exact ⟨rfl, K1.out⟩
  | some p =>
    obtain ⟨h0, t0⟩ := p
    obtain ⟨n0, hroot, rep, wf⟩ := HT.out.root
    obtain ⟨_, r0, e0, i0, _, _⟩ := rep.root
    have HR := Lib.hid hroot
    have HREP := Lib.hid rep
    have HWF := Lib.hid wf
    have hat0 : Hid (∀ W, Keep Nothing w W → NodeAt TT E W n0 r0 (L n0)) := by exact fun W hK => (HT.out.mem.at_ n0 r0 e0).keep hK fun _ _ _ h => h
    have HI0 := Lib.hid i0
    clear hroot rep wf e0 i0
    go_enter Try.func133, Try.ntmps133
    go_upto_region 1 with (fail)
    refine wp_world ?_
    intro W1 hW1
    generalize hq : w.heap.size = q at *
    have K1 : Hid (Keep Nothing w W1) := by
      subst hW1; exact Keep.refl _ _
    clear hW1 hq
    have H1 : Hid (Hdr W1 b hr) := by exact blk_keep HT.out.hdr K1.out fun _ h => h
    have c2 := hdr_root H1.out
    have hc2 := Lib.hid c2
    rw [HR.out] at c2 hc2
    simp only [rootV, Option.map_some] at c2 hc2
    have fz := hdr_fz H1.out
    have hiso := Lib.hid (isoLoad_own H1.out hc2.out (hat0.out W1 K1.out) HI0.out false)
    unfold ptr at hiso
    go_wp2_with fail
    refine hiso.out.mono ?_
    rintro e w2 ⟨rfl, kd, rfl⟩
    have K2 : Hid (Keep Nothing w (W1.drewN kd)) := by exact K1.out.drN kd
    clear hiso c2 hc2 fz H1 K1
    generalize W1.drewN kd = W2 at *
    unfold ptr
    go_wp2_with fail
    go_loopg [8] (h0 + 1) (fun m v8 wr => ∃ (h l n : Nat) (t : Tr It) (G : List Nat), v8 = .pointer (some ⟨n, 0, none⟩) ∧ h + 1 = m ∧ Keep Nothing w wr ∧ Rep H hr.iso h n t G ∧ wfr l mn mx h t ∧ Sorted ilt (flat h t) ∧ findK (flat h0 t0) k = findK (flat h t) k
      )
    case atStart => exact ⟨h0, 1, n0, t0, F, rfl, rfl, K2.out, HREP.out, HWF.out, HT.out.srt, rfl⟩
    case round =>
      obtain ⟨h, l, n, t, G, rfl, rfl, hKr, hrep, hwf, hsrt, hfd⟩ := hrel
      have HKr := Lib.hid hKr
      have HRr := Lib.hid hrep
      have HWr := Lib.hid hwf
      have HSr := Lib.hid hsrt
      have HFr := Lib.hid hfd
      clear hKr hrep hwf hsrt hfd
      obtain ⟨_, r, er, ir, itr, _⟩ := HRr.out.root
      have N1 := Lib.hid ((HT.out.mem.at_ n r er).keep HKr.out fun _ _ _ h => h)
      have hsr : Sorted ilt r.items := by rw [itr]; exact own_sorted HWr.out HSr.out
      have hlr : r.items.length ≤ 1000000000000 := by rw [itr]; have := HWr.out.own_le.2; have := HT.out.par.hb; omega
      obtain ⟨i, f, hloc⟩ := Loc.ex k r.items hsr
      have hse := Lib.hid (search_loc (tr := ptr b) N1.out hlr hsr hloc)
      have HER := Lib.hid er
      have HIT := Lib.hid itr
      have HIR := Lib.hid ir
      have HLOC := Lib.hid hloc
      clear er itr hsr ir hloc
      unfold ptr kv at hse
      go_wp2_with fail
      refine hse.out.mono ?_
      rintro e w3 ⟨rfl, kd3, rfl⟩
      have K3 : Hid (Keep Nothing w (wr.drewN kd3)) := by exact HKr.out.drN kd3
      clear hse N1 HKr
      generalize wr.drewN kd3 = W3 at *
      have N3 := Lib.hid ((HT.out.mem.at_ n r HER.out).keep K3.out fun _ _ _ h => h)
      obtain ⟨d0, d1, c2, d3, fz⟩ := N3.out.own
      clear d0 d1 d3
      cases f with
      | true =>
        obtain ⟨_, y, hy, _, _⟩ := id HLOC.out
        have HY := Lib.hid hy
        obtain ⟨hil, _⟩ := List.getElem?_eq_some_iff.1 hy
        have hrow := N3.out.2.1
        obtain ⟨ib, io, hia, _⟩ := hrow.form (by rw [E.all_len]; exact Nat.mul_pos (by omega) E.pos)
        rw [hia] at c2 hrow
        have cv := val_cell hrow hy
        have fz2 := hrow.frozen
        have hfind : findK (its (some (h0, t0))) k = some y := by
          show findK (flat h0 t0) k = some y
          rw [HFr.out]
          have hl2 := HLOC.out
          rw [HIT.out] at hl2
          exact find_own HWr.out HSr.out hl2 (by rw [← HIT.out]; exact HY.out)
        have HFI := Lib.hid hfind
        clear hy hrow hia hfind
        go_wp2_with fail
        go_ret2
        exact ⟨by rw [HFI.out]; rfl, K3.out⟩
      | false =>
        have hlv := Lib.hid (leaf_any N3.out)
        unfold ptr at hlv
        cases h with
        | zero =>
          obtain ⟨r', e1, _, _, _, hkn, _, _⟩ := HRr.out
          rw [HER.out] at e1
          cases e1
          rw [hkn] at hlv
          simp only [Option.isNone_none] at hlv
          have H3 : Hid (Hdr W3 b hr) := by exact blk_keep HT.out.hdr K3.out fun _ h => h
          have he := hdr_emp H3.out
          have fzh := hdr_fz H3.out
          have hfind : findK (its (some (h0, t0))) k = none := by
            show findK (flat h0 t0) k = none
            rw [HFr.out]
            show findK t.its k = none
            rw [← HIT.out]
            exact find_leaf HLOC.out
          have HFI := Lib.hid hfind
          clear hkn hfind
          go_wp2_with fail
          refine hlv.out.mono ?_
          rintro e w4 ⟨rfl, rfl⟩
          go_wp2_with fail
          go_ret2
          exact ⟨by rw [HFI.out]; rfl, K3.out⟩
        | succ h =>
          obtain ⟨r', ns, F', e1, _, _, hkn, _, hrl, _⟩ := HRr.out
          rw [HER.out] at e1
          cases e1
          rw [hkn] at hlv
          simp only [Option.isNone_some] at hlv
          obtain ⟨c3, g1, fz3, hrow, _⟩ := N3.out.kids hkn
          unfold ptr at c3
          have wl := HWr.out.2.2.1
          have hil : i < t.ks.length := by have := HLOC.out.1; rw [HIT.out] at this; omega
          have hck : t.ks[i]? = some t.ks[i] := List.getElem?_eq_getElem hil
          have hcn : ns[i]? = some (ns[i]'(by rw [hrl.len]; exact hil)) := List.getElem?_eq_getElem _
          obtain ⟨G', hR'⟩ := hrl.get hcn hck
          have hl2 := HLOC.out
          rw [HIT.out] at hl2
          obtain ⟨q1, q2, q3⟩ := find_child HWr.out HSr.out hl2 hck
          obtain ⟨kb, ko, hka, _⟩ := hrow.form (by simp; have := hrl.len; omega)
          rw [hka] at hrow g1
          have hnl : i < ns.length := by rw [hrl.len]; exact hil
          generalize ns[i]'(by rw [hrl.len]; exact hil) = m at *
          generalize t.ks[i] = c at *
          have ck := hrow.cell (i := i) (v := ptr m) (by simp [hcn])
          obtain ⟨_, rm, em, im, _, _⟩ := hR'.root
          have H3 : Hid (Hdr W3 b hr) := by exact blk_keep HT.out.hdr K3.out fun _ h => h
          have hiso2 := Lib.hid (isoLoad_own H3.out ck ((HT.out.mem.at_ m rm em).keep K3.out fun _ _ _ h => h) im false)
          have Q1 := Lib.hid q1
          have Q2 := Lib.hid q2
          have Q3 := Lib.hid q3
          have HR' := Lib.hid hR'
          unfold ptr at hiso2
          clear hkn hrl wl hck hcn hR' hl2 q1 q2 q3 hrow hka ck em im
          go_wp2_with fail
          refine hlv.out.mono ?_
          rintro e w4 ⟨rfl, rfl⟩
          go_wp2_with fail
          refine hiso2.out.mono ?_
          rintro e w5 ⟨rfl, kd5, rfl⟩
          unfold ptr
          go_wp2_with fail
          go_roundg (h + 1)
          case measure => omega
          case rel => exact ⟨h, mn, m, c, G', rfl, rfl, K3.out.drN kd5, HR'.out, Q3.out, Q2.out, HFr.out.trans Q1.out⟩

set_option maxHeartbeats 1000000 in
theorem mapGet_any {w : World} {b : Nat} {hr : HRec} {H : Store It} {L : Nat → Lay} {F : List Nat} {mn mx : Nat} {s : Sh} (T : TreeAt w b hr H L F mn mx s) (k : Ky) :
    Calls Try.prog 80 #[ptr b, kv k] w (GetPost w (findK (its s) k) hr.emp) := by
  have hg : ∀ W, Keep Nothing w W → Calls Try.prog 133 #[ptr b, kv k, .bool false] W (GetPost W (findK (its s) k) hr.emp) := fun W hK => get_any (T.keep hK) k
  have HG := Lib.hid hg
  clear hg T
  generalize findK (its s) k = p at *
  unfold ptr kv at *
  go_enter Try.func80, Try.ntmps80
  go_upto_region 1 with (fail)
  refine wp_world ?_
  intro W1 hW1
  have K1 : Hid (Keep Nothing w W1) := by
    subst hW1; exact Keep.refl _ _
  clear hW1
  go_wp2_with fail
  refine (HG.out W1 K1.out).mono ?_
  rintro e w2 ⟨rfl, hK2⟩
  have K2 : Hid (Keep Nothing w w2) := by exact K1.out.trans hK2 fun _ _ _ h => h
  clear hK2
  unfold vv
  go_wp2_with fail
  go_ret2
  exact ⟨rfl, K2.out⟩
end Go.Proofs.Ytfikahgofapobaa.W

namespace Go.Proofs.Ytfikahgofapobaa.W
open Go.RowKit Go.Wb

/-- A function value (function g, what it captured) to which items are handed: J tells what was handed on so far; all that turns lies in S. -/
structure Hands (g : FuncId) (caps : Array Value) (go : List It → Bool) (J : List It → World → Prop) (S : Nat → Nat → Prop) (w0 : World) (N : Nat) : Prop where
  call : ∀ acc x W, J acc W → acc.length < N → Calls Try.prog g (#[kv (ky x), vv x] ++ caps) W fun e W' => e = .returned (.bool (go (acc ++ [x]))) ∧ J (acc ++ [x]) W'
  enter : ∀ args w, (callFunc g args).run Try.prog w = .ok (.enter g args) w
  keep : ∀ acc W, J acc W → Keep S w0 W
  calm : ∀ acc W W', J acc W → Keep Nothing W W' → J acc W'

/-- What handing on leaves. -/
def HandPost (J : List It → World → Prop) (r : List It × Bool) (e : Ending) (w' : World) : Prop := e = .returned (.bool r.2) ∧ J r.1 w'

/-- A node that stays while S turns, the head, and the cell that leads to it. -/
structure Stays (w0 : World) (S : Nat → Nat → Prop) (b : Nat) (hr : HRec) (pb po n : Nat) (r : NRec It) (L : Lay) : Prop where
  hdr : ∀ W, Keep S w0 W → Hdr W b hr
  cell : ∀ W, Keep S w0 W → W.cell? ⟨pb, po, none⟩ = some (ptr n)
  node : ∀ W, Keep S w0 W → NodeAt TT E W n r L
  iso : r.iso = hr.iso
  len : r.items.length ≤ 1000000000000

/-- The cells of an item of a node. -/
theorem node_item {w : World} {n : Nat} {r : NRec It} {L : Lay} (hn : NodeAt TT E w n r L) {i : Nat} {x : It} (hi : r.items[i]? = some x) : ∃ ib io, L.ia = some ⟨ib, io, none⟩ ∧
    w.cell? ⟨ib, io + i * 2 + 1, none⟩ = some (kv (ky x)) ∧ w.cell? ⟨ib, io + i * 2, none⟩ = some (.int .i64 x.2) := by
  obtain ⟨hil, _⟩ := List.getElem?_eq_some_iff.1 hi
  have hrow := hn.2.1
  obtain ⟨ib, io, hia, _⟩ := hrow.form (by rw [E.all_len]; exact Nat.mul_pos (by omega) E.pos)
  rw [hia] at hrow
  exact ⟨ib, io, hia, key_cell hrow hi, val_cell hrow hi⟩

/-- The cells of a child of a node. -/
theorem node_child {w : World} {n : Nat} {r : NRec It} {L : Lay} (hn : NodeAt TT E w n r L) {ns : List Nat} (hk : r.kids = some ns) {i m : Nat} (hi : ns[i]? = some m) : ∃ kb ko, L.ka = some ⟨kb, ko, none⟩ ∧ w.cell? ⟨n, 3, none⟩ = some (ptr L.cb) ∧
    w.cell? ⟨L.cb, 0, none⟩ = some (.slice (some ⟨kb, ko, none⟩) ns.length L.kcap) ∧ w.cell? ⟨kb, ko + i, none⟩ = some (ptr m) := by
  obtain ⟨c3, g1, _, hrow, _⟩ := hn.kids hk
  obtain ⟨hil, _⟩ := List.getElem?_eq_some_iff.1 hi
  obtain ⟨kb, ko, hka, _⟩ := hrow.form (by simp; omega)
  rw [hka] at hrow g1
  exact ⟨kb, ko, hka, c3, g1, hrow.cell (i := i) (v := ptr m) (by simp [hi])⟩

/-- All nodes of a tree stay while S turns, which is none of theirs. -/
structure StayAll (w0 : World) (S : Nat → Nat → Prop) (b : Nat) (hr : HRec) (H : Store It) (L : Nat → Lay) : Prop where
  hdr : ∀ W, Keep S w0 W → Hdr W b hr
  node : ∀ W, Keep S w0 W → ∀ n r, H n = some r → NodeAt TT E W n r (L n)

theorem TreeAt.stay {w0 : World} {b : Nat} {hr : HRec} {H : Store It} {L : Nat → Lay} {F : List Nat} {mn mx : Nat} {s : Sh} (T : TreeAt w0 b hr H L F mn mx s) {S : Nat → Nat → Prop} (hb : ∀ o, ¬ S b o) (hS : ∀ n r c o, H n = some r → fp TT n r (L n) c o → ¬ S c o) : StayAll w0 S b hr H L :=
  ⟨fun _ hk => blk_keep T.hdr hk hb, fun _ hk n r hr => (T.mem.at_ n r hr).keep hk fun c o hf => hS n r c o hr hf⟩

def HandedPost (J : List It → World → Prop) (r : List It × Bool) (e : Ending) (w' : World) : Prop := e = .returned (.tuple #[]) ∧ J r.1 w'

/-- What is given where a tree's items are handed to a function. -/
structure HandPre (w0 w : World) (b : Nat) (hr : HRec) (H : Store It) (L : Nat → Lay) (F : List Nat) (mn mx : Nat) (s : Sh) (g : FuncId) (caps : Array Value) (go : List It → Bool) (J : List It → World → Prop) (S : Nat → Nat → Prop) (N : Nat) : Prop where
  tree : TreeAt w0 b hr H L F mn mx s
  hands : Hands g caps go J S w0 N
  hb : ∀ o, ¬ S b o
  hS : ∀ n r c o, H n = some r → fp TT n r (L n) c o → ¬ S c o
  len : (its s).length ≤ N
  start : J [] w
theorem HandPre.calm {w0 w w' : World} {b : Nat} {hr : HRec} {H : Store It} {L : Nat → Lay} {F : List Nat} {mn mx : Nat} {s : Sh} {g : FuncId} {caps : Array Value} {go : List It → Bool} {J : List It → World → Prop} {S : Nat → Nat → Prop} {N : Nat} (P : HandPre w0 w b hr H L F mn mx s g caps go J S N) (hk : Keep Nothing w w') : HandPre w0 w' b hr H L F mn mx s g caps go J S N :=
  ⟨P.tree, P.hands, P.hb, P.hS, P.len, P.hands.calm _ _ _ P.start hk⟩
end Go.Proofs.Ytfikahgofapobaa.W

namespace Go.Proofs.Ytfikahgofapobaa.W
open Go.RowKit Go.Wb

/-- What a list keeps of an item. -/
def OE : Enc It := ⟨fun x => [kv (ky x), .int .i64 x.2], 2, fun _ => rfl, fun x v hv => by rcases List.mem_cons.1 hv with rfl | hv <;> first | rfl | (obtain rfl := List.mem_singleton.1 hv; rfl), by omega⟩
theorem elemO : Elem Try.prog 34 2 24 := ⟨by kernel_rfl, by kernel_rfl, by kernel_rfl⟩
/-- The list at block ob, its row in blocks from B on. -/
def OutAt (B ob : Nat) (acc : List It) (W : World) : Prop := ∃ a cap, W.heap[ob]? = some (.cells #[.slice a acc.length cap] 29 (0, 0)) ∧ Acc B W 34 2 a acc.length cap (OE.all acc)
def OutJ (w0 : World) (ob : Nat) (acc : List It) (W : World) : Prop := Keep (fun c _ => c = ob) w0 W ∧ OutAt w0.heap.size ob acc W
theorem OutJ.calm {w0 : World} {ob : Nat} {acc : List It} {W W' : World} (h : OutJ w0 ob acc W) (hk : Keep Nothing W W') : OutJ w0 ob acc W' := by
  obtain ⟨h1, a, cap, h2, h3⟩ := h
  exact ⟨h1.trans hk fun _ _ _ h => h.elim, a, cap, blk_keep h2 hk fun _ h => h, h3.quiet hk⟩

def TakePost (w0 : World) (ob : Nat) (n : Int) (acc : List It) (e : Ending) (W' : World) : Prop := e = .returned (.bool (upTo n acc)) ∧ OutJ w0 ob acc W'

set_option maxRecDepth 100000 in
set_option maxHeartbeats 8000000 in
theorem take_any {w0 : World} {ob kt kn : Nat} {n : Int} (hkt : w0.heap[kt]? = some (.cells #[ptr ob] 100 (0, 0))) (hkn : w0.heap[kn]? = some (.cells #[.int .i64 n] 3 (0, 0))) (d1 : kt ≠ ob) (d2 : kn ≠ ob) (hob : ob < w0.heap.size)
    (_hn1 : -9223372036854775808 ≤ n) (_hn2 : n ≤ 9223372036854775807) {acc : List It} {x : It} {W : World} (hJ : OutJ w0 ob acc W) (hl : acc.length < 4000000000000) :
    Calls Try.prog 178 #[.agg #[kv (ky x), .int .i64 x.2], ptr kt, ptr kn] W (TakePost w0 ob n (acc ++ [x])) := by
  obtain ⟨hK, a, cap, hout, hA⟩ := hJ
  have HKT := Lib.hid hkt
  have HKL := Lib.hid (lt_of_heap hkt)
  have HKN := Lib.hid hkn
  have HK := Lib.hid hK
  have HOUT := Lib.hid hout
  have HA := Lib.hid hA
  have HD1 := Lib.hid d1
  have HD2 := Lib.hid d2
  have hsz := hK.size
  have hobW := Nat.lt_of_lt_of_le hob hsz
  clear hkt hkn hK hout hA d1 d2
  unfold ptr kv at *
  go_enter Try.func178, Try.ntmps178
  go_upto_region 1 with (fail)
  refine wp_world ?_
  intro W1 hW1
  have k1 : Keep Nothing W W1 := by subst hW1; exact (Keep.refl _ _).al _
  have X1 : W1.heap[W.heap.size]? = some (.cells #[.string (ky x), .int .i64 x.2] 34 (0, 0)) := by subst hW1; exact heap_alloc_new W _
  clear hW1
  have HK1 : Hid (Keep (fun c _ => c = ob) w0 W1) := by exact HK.out.trans k1 fun _ _ _ h => h.elim
  have HO1 := Lib.hid (blk_keep HOUT.out k1 fun _ h => h)
  have HA1 := Lib.hid (HA.out.quiet k1)
  have kt1 := (blk1 (blk_keep HKT.out HK1.out fun _ e => HD1.out e)).1
  have kn1 := (blk1 (blk_keep HKN.out HK1.out fun _ e => HD2.out e)).1
  obtain ⟨co, fz⟩ := blk1 HO1.out
  have HX := Lib.hid X1
  obtain ⟨x0, x1, _⟩ := blk2 X1
  have hsz1 := HK1.out.size
  clear HK HOUT HA k1
  clear X1
  generalize W.heap.size = q at *
  refine wp_held (fun w' => w'.cell? ⟨kt, 0, none⟩ = some (.pointer (some ⟨ob, 0, none⟩)) ∧ w'.cell? ⟨ob, 0, none⟩ = some (.slice a acc.length cap)) [0, 1, 3] (by kernel_rfl) (by kernel_rfl) (by kernel_rfl) rfl ⟨kt1, co⟩ ?_
  simp only [segs, readsB, silentB, lenB, checks, List.nil_append]
  go_wp2_with fail
  refine held_world ?_
  intro W2 hW2
  have k2 : Keep Nothing W1 W2 := by subst hW2; exact ((Keep.refl _ _).al _).dr
  have N2 : W2.heap[W1.heap.size]? = some (.cells (OE.enc x).toArray 34 (0, 0)) := by subst hW2; exact heap_alloc_new W1 _
  clear hW2
  have HK2 : Hid (Keep (fun c _ => c = ob) w0 W2) := by exact HK1.out.trans k2 fun _ _ _ h => h.elim
  have HO2 := Lib.hid (blk_keep HO1.out k2 fun _ h => h)
  have HA2 := Lib.hid (HA1.out.quiet k2)
  have kt2 := k2.cell' kt1 fun h => h
  have co2 := (blk1 HO2.out).1
  have hsz2 := HK2.out.size
  clear HK1 HO1 HA1 co fz kt1 k2 kn1
  clear x0 x1 HX
  refine held_next ⟨kt2, co2⟩ ?_
  refine wpList_append_any rfl _ _ _ rfl 34 2 24 Try.underlying29 elemO a acc.length cap (OE.all acc) rfl HA2.out.row HA2.out.len ⟨W1.heap.size, 0, none⟩ 1 1 (OE.enc x) ?_ (OE.len _) ?_ (OE.one _) (by omega) HA2.out.le (by simp only [maxLen]; omega) (by omega) ?_
  · rfl
  · exact new_cells N2
  intro a' cap' W3 hG
  obtain ⟨hA3, hK3⟩ := HA2.out.grow hsz2 hG (OE.len _)
  have HA3 := Lib.hid hA3
  have HK3 : Hid (Keep (fun c _ => c = ob) w0 W3) := by exact HK2.out.trans hK3 fun x o hx h => absurd h (by omega)
  have HO3 := Lib.hid (blk_keep HO2.out hK3 fun o (h : w0.heap.size ≤ ob) => by omega)
  have kt3 := hK3.cell' kt2 (fun (h : w0.heap.size ≤ kt) => by have := HKL.out; omega)
  obtain ⟨co3, fz3⟩ := blk1 HO3.out
  clear HK2 HO2 HA2 hA3 hK3 hG N2 kt2 co2
  refine held_next ⟨kt3, co3⟩ ?_
  simp only [Act.put]
  go_wp2_with fail
  refine held_world ?_
  intro W4 hW4
  refine held_end ?_ ?_
  · refine ⟨?_, ?_, ?_, trivial⟩
    · exact ⟨.pointer (some ⟨ob, 0, none⟩), fun w' hS => by simp [execOp, hS.1, go_sem]⟩
    · exact ⟨.pointer (some ⟨ob, 0, none⟩), fun w' hS => by simp [execOp, hS.1, go_sem]⟩
    · exact ⟨.slice a acc.length cap, fun w' hS => by simp [execOp, hS.2, go_sem]⟩
  have eall : OE.all acc ++ OE.enc x = OE.all (acc ++ [x]) := by rw [Enc.all_append]; simp [Enc.all]
  have HK4 : Hid (Keep (fun c _ => c = ob) w0 W4) := by subst hW4; exact HK3.out.set _ _ _ fun _ => rfl
  have HO4 : Hid (W4.heap[ob]? = some (.cells #[.slice a' (acc.length + 1) cap'] 29 (0, 0))) := by subst hW4; exact blk_set _ HO3.out
  have HA4 : Hid (Acc w0.heap.size W4 34 2 a' (acc.length + 1) cap' (OE.all (acc ++ [x]))) := by
    rw [← eall]
    subst hW4
    exact HA3.out.calm (S := fun c _ => c = ob) (Keep.set (Keep.refl _ _) _ _ _ fun _ => rfl) fun c o h1 h2 => by omega
  have HJ4 : Hid (OutJ w0 ob (acc ++ [x]) W4) := by
    refine ⟨HK4.out, a', cap', ?_, ?_⟩
    · rw [List.length_append]; exact HO4.out
    · rw [List.length_append]; exact HA4.out
  have kt4 := (HK4.out.cell' (blk1 HKT.out).1 (HD1.out))
  have kn4 := (HK4.out.cell' (blk1 HKN.out).1 (HD2.out))
  have co4 := (blk1 HO4.out).1
  clear hW4 eall HK4 HO4 HA4 HK3 HO3 HA3 co3 fz3 kt3
  by_cases h1 : n < 1
  · have hu : upTo n (acc ++ [x]) = true := by simp [upTo, h1]
    go_wp2_with fail
    refine wp_calm (by kernel_rfl) (by kernel_rfl) rfl ?_
    simp only [List.flatMap_cons, List.flatMap_nil, checks, chk, nilLit, List.cons_append, List.nil_append, List.append_nil, Try.underlying3]
    go_wp2_with fail
    rw [HQ_normal]
    go_wp2_with fail
    go_ret
    rw [TakePost, hu]
    exact ⟨by first | rfl | simp [h1, h2] | simp [h1], HJ4.out.calm (Keep.drew _ _)⟩
  · by_cases h2 : (acc.length : Int) + 1 < n
    · have hu : upTo n (acc ++ [x]) = true := by simp [upTo, h2]
      have HU := Lib.hid hu
      clear hu
      go_wp2_with fail
      refine wp_calm (by kernel_rfl) (by kernel_rfl) rfl ?_
      simp only [List.flatMap_cons, List.flatMap_nil, checks, chk, nilLit, List.cons_append, List.nil_append, List.append_nil, Try.underlying3]
      go_wp2_with fail
      rw [HQ_normal]
      go_wp2_with fail
      go_ret
      rw [TakePost, HU.out]
      exact ⟨by first | rfl | simp [h1, h2] | simp [h1], HJ4.out.calm (Keep.drew _ _)⟩
    · have hu : upTo n (acc ++ [x]) = false := by simp [upTo, h1, h2]
      have HU := Lib.hid hu
      clear hu
      go_wp2_with fail
      refine wp_calm (by kernel_rfl) (by kernel_rfl) rfl ?_
      simp only [List.flatMap_cons, List.flatMap_nil, checks, chk, nilLit, List.cons_append, List.nil_append, List.append_nil, Try.underlying3]
      go_wp2_with fail
      rw [HQ_normal]
      go_wp2_with fail
      go_ret
      rw [TakePost, HU.out]
      exact ⟨by first | rfl | simp [h1, h2] | simp [h1], HJ4.out.calm (Keep.drew _ _)⟩

/-- The function value that keeps what is handed to it. -/
structure Taker (w0 : World) (ob kt kn : Nat) (n : Int) : Prop where
  t : w0.heap[kt]? = some (.cells #[ptr ob] 100 (0, 0))
  n : w0.heap[kn]? = some (.cells #[.int .i64 n] 3 (0, 0))
  d1 : kt ≠ ob
  d2 : kn ≠ ob
  ob : ob < w0.heap.size
def TakerPost (w : World) (ob : Nat) (n : Int) (e : Ending) (w' : World) : Prop := ∃ kt kn, e = .returned (.func (.func 178) #[] #[ptr kt, ptr kn]) ∧ Keep Nothing w w' ∧ Taker w' ob kt kn n
set_option maxHeartbeats 1000000 in
theorem taker_any {w : World} {ob : Nat} (hob : ob < w.heap.size) (n : Int) : Calls Try.prog 130 #[ptr ob, .int .i64 n] w (TakerPost w ob n) := by
  unfold ptr
  have hmf : ∀ (fn : Fn) (first cap : Array Value) (w : World), (Instr.makeFunc fn first cap).run Try.prog w = .ok (.func fn first cap) w := fun _ _ _ _ => rfl
  go_enter Try.func130, Try.ntmps130
  go_wp2_with fail
  go_ret
  refine ⟨_, _, rfl, ((Keep.refl _ _).al _).al _, blk_alloc _ (heap_alloc_new w _), ?_, by omega, ?_, ?_⟩
  · have := heap_alloc_new (w.alloc (.cells #[.pointer (some ⟨ob, 0, none⟩)] 100)) (.cells #[.int .i64 n] 3)
    rw [World.size_alloc] at this
    exact this
  · omega
  · simp; omega
end Go.Proofs.Ytfikahgofapobaa.W

namespace Go.Proofs.Ytfikahgofapobaa.W
open Go.RowKit Go.Wb

/-- The function value that hands a pair on to the taker. -/
structure Hander (w0 : World) (ob kf kt kn : Nat) (n : Int) : Prop where
  tk : Taker w0 ob kt kn n
  f : w0.heap[kf]? = some (.cells #[.func (.func 178) #[] #[ptr kt, ptr kn]] 76 (0, 0))
  ne : kf ≠ ob

set_option maxHeartbeats 1000000 in
theorem hand1_any {w0 : World} {ob kf kt kn : Nat} {n : Int} (hh : Hander w0 ob kf kt kn n) (hn1 : -9223372036854775808 ≤ n) (hn2 : n ≤ 9223372036854775807) {acc : List It} {x : It} {W : World} (hJ : OutJ w0 ob acc W) (hl : acc.length < 4000000000000) :
    Calls Try.prog 131 #[kv (ky x), vv x, ptr kf] W (TakePost w0 ob n (acc ++ [x])) := by
  have ht := Lib.hid (take_any hh.tk.t hh.tk.n hh.tk.d1 hh.tk.d2 hh.tk.ob hn1 hn2 (x := x) hJ hl)
  have cf := (blk1 (blk_keep hh.f hJ.1 fun _ e => hh.ne e)).1
  clear hh hJ hl
  unfold ptr kv vv at *
  go_enter Try.func131, Try.ntmps131
  go_wp2_with fail
  refine ht.out.mono ?_
  rintro e w' ⟨rfl, hJ⟩
  have HJ := Lib.hid hJ
  clear hJ ht
  go_wp2_with fail
  go_ret
  exact ⟨rfl, HJ.out⟩

theorem hands_of {w0 : World} {ob kf kt kn : Nat} {n : Int} (hh : Hander w0 ob kf kt kn n) (hn1 : -9223372036854775808 ≤ n) (hn2 : n ≤ 9223372036854775807) : Hands 131 #[ptr kf] (upTo n) (OutJ w0 ob) (fun c _ => c = ob) w0 4000000000000 :=
  ⟨fun _ _ _ hJ hl => hand1_any hh hn1 hn2 hJ hl, fun args w => Try.call131 args w, fun _ _ hJ => hJ.1, fun _ _ _ hJ hk => hJ.calm hk⟩

def HanderPost (w : World) (ob : Nat) (n : Int) (e : Ending) (w' : World) : Prop := ∃ kf kt kn, e = .returned (.func (.func 131) #[] #[ptr kf]) ∧ Keep Nothing w w' ∧ Hander w' ob kf kt kn n
set_option maxHeartbeats 1000000 in
theorem hander_any {w : World} {ob : Nat} (hob : ob < w.heap.size) (n : Int) : Calls Try.prog 75 #[ptr ob, .int .i64 n] w (HanderPost w ob n) := by
  have ht := Lib.hid (taker_any hob n)
  have hmf : ∀ (fn : Fn) (first cap : Array Value) (w : World), (Instr.makeFunc fn first cap).run Try.prog w = .ok (.func fn first cap) w := fun _ _ _ _ => rfl
  unfold ptr at *
  go_enter Try.func75, Try.ntmps75
  go_wp2_with fail
  refine ht.out.mono ?_
  rintro e w1 ⟨kt, kn, rfl, hk, tk⟩
  have HK := Lib.hid hk
  have TK := Lib.hid tk
  clear hk tk ht
  unfold ptr
  go_wp2_with fail
  go_ret
  have ka : Keep Nothing w1 (w1.alloc (.cells #[.func (.func 178) #[] #[.pointer (some ⟨kt, 0, none⟩), .pointer (some ⟨kn, 0, none⟩)]] 76)) := Keep.alloc _ _ _
  have hsz := HK.out.size
  exact ⟨_, kt, kn, rfl, HK.out.trans ka fun _ _ _ h => h, ⟨blk_keep TK.out.t ka fun _ h => h, blk_keep TK.out.n ka fun _ h => h, TK.out.d1, TK.out.d2, by simp; omega⟩, heap_alloc_new w1 _, by omega⟩

/-- An empty list at block ob. -/
theorem outJ_start {w0 : World} {ob : Nat} (h : w0.heap[ob]? = some (.cells #[.slice none 0 0] 29 (0, 0))) : OutJ w0 ob [] w0 := ⟨Keep.refl _ _, none, 0, h, Acc.nil _ _ _ _⟩
end Go.Proofs.Ytfikahgofapobaa.W

namespace Go.Proofs.Ytfikahgofapobaa.W
open Go.RowKit Go.Wb

set_option maxRecDepth 100000 in
set_option maxHeartbeats 8000000 in
theorem scan_leaf {w0 w : World} {b : Nat} {hr : HRec} {pb po n : Nat} {g : FuncId} {caps : Array Value} {go : List It → Bool} {J : List It → World → Prop} {S : Nat → Nat → Prop} {N : Nat} {r : NRec It} {L : Lay}
    (HD : Hands g caps go J S w0 N) (A : Stays w0 S b hr pb po n r L) (hkn : r.kids = none) {acc : List It} (hJ : J acc w) (hN : acc.length + r.items.length ≤ N) :
    Calls Try.prog 205 #[ptr b, .pointer (some ⟨pb, po, none⟩), .func (.func g) #[] caps, .bool false] w (HandPost J (handOn go acc r.items)) := by
  have HH := Lib.hid HD
  have hcf := HD.enter
  have HA := Lib.hid A
  have HJ := Lib.hid hJ
  have hk0 := HD.keep _ _ hJ
  have hiso := Lib.hid (isoLoad_own (A.hdr w hk0) (A.cell w hk0) (A.node w hk0) A.iso false)
  have HKN := Lib.hid hkn
  have hlen := A.len
  clear HD A hJ hk0 hkn
  unfold ptr at *
  go_enter Try.func205, Try.ntmps205
  go_wp2_with fail
  refine hiso.out.mono ?_
  rintro e w1 ⟨rfl, kd, rfl⟩
  have HJ1 : Hid (J acc (w.drewN kd)) := by exact HH.out.calm _ _ _ HJ.out (Keep.drewN _ _ _)
  clear hiso HJ
  generalize w.drewN kd = w1 at *
  have hlv := leaf_any (HA.out.node w1 (HH.out.keep _ _ HJ1.out))
  rw [HKN.out] at hlv
  simp only [Option.isNone_none] at hlv
  unfold ptr at *
  go_wp2_with fail
  refine hlv.mono ?_
  rintro e w2 ⟨rfl, rfl⟩
  clear hlv
  go_wp2_with fail
  go_loopg [10] (r.items.length + 1) (fun k v10 wr => ∃ (i : Nat) (acc' : List It), v10 = .int .i64 i ∧ i ≤ r.items.length ∧ i + k = r.items.length + 1 ∧ J acc' wr ∧ handOn go acc r.items = handOn go acc' (r.items.drop i) ∧ acc'.length + (r.items.length - i) ≤ N)
  case atStart => exact ⟨0, acc, rfl, by omega, by omega, HJ1.out, by simp, by omega⟩
  case round =>
    obtain ⟨i, acc', rfl, hil, hik, hJr, heq, hNr⟩ := hrel
    have HJr := Lib.hid hJr
    have HEQ := Lib.hid heq
    have N1 := Lib.hid (HA.out.node wr (HH.out.keep _ _ hJr))
    obtain ⟨d0, d1, c2, d3, fz⟩ := N1.out.own
    clear d0 d1 d3 hJr heq
    by_cases hlt : i < r.items.length
    · have hx : r.items[i]? = some r.items[i] := List.getElem?_eq_getElem hlt
      have hd : r.items.drop i = r.items[i] :: r.items.drop (i + 1) := List.drop_eq_getElem_cons hlt
      generalize r.items[i] = x at *
      have HD := Lib.hid hd
      obtain ⟨ib, io, hia, ck⟩ := node_item N1.out hx
      rw [hia] at c2
      obtain ⟨ck, cv⟩ := ck
      have hcall := Lib.hid (HH.out.call acc' x wr.drew (HH.out.calm _ _ _ HJr.out (Keep.drew _ _)) (by omega))
      clear hd hx hia
      unfold kv vv at *
      go_wp2_with fail
      refine wp_calm (by kernel_rfl) (by kernel_rfl) rfl ?_
      simp only [List.flatMap_cons, List.flatMap_nil, checks, chk, nilLit, List.cons_append, List.nil_append, List.append_nil]
      go_wp2_with fail
      cases hg : go (acc' ++ [x]) with
      | true =>
        have HG := Lib.hid hg
        rw [hg] at hcall
        clear hg
        refine hcall.out.mono ?_
        rintro e w3 ⟨rfl, hJ3⟩
        have HJ3 := Lib.hid hJ3
        clear hJ3 hcall
        go_wp2_with fail
        rw [HQ_normal]
        go_wp2_with fail
        go_roundg (r.items.length - i)
        case measure => omega
        case rel => exact ⟨i + 1, acc' ++ [x], by go_num, by omega, by omega, HJ3.out, by rw [HEQ.out, HD.out, handOn_yes HG.out], by simp; omega⟩
      | false =>
        have HG := Lib.hid hg
        rw [hg] at hcall
        clear hg
        refine hcall.out.mono ?_
        rintro e w3 ⟨rfl, hJ3⟩
        have HJ3 := Lib.hid hJ3
        clear hJ3 hcall
        go_wp2_with fail
        rw [HQ_normal]
        go_wp2_with fail
        go_ret
        rw [HEQ.out, HD.out, handOn_no HG.out]
        exact ⟨rfl, HJ3.out⟩
    · have hi : i = r.items.length := by omega
      subst hi
      go_wp2_with fail
      go_ret
      rw [HEQ.out, List.drop_eq_nil_of_le (Nat.le_refl _)]
      exact ⟨rfl, HJr.out⟩

set_option maxRecDepth 100000 in
set_option maxHeartbeats 8000000 in
theorem scan_inner {w0 w : World} {b : Nat} {hr : HRec} {pb po n h : Nat} {g : FuncId} {caps : Array Value} {go : List It → Bool} {J : List It → World → Prop} {S : Nat → Nat → Prop} {N : Nat} {r : NRec It} {L : Lay}
    (HD : Hands g caps go J S w0 N) (A : Stays w0 S b hr pb po n r L) {ns : List Nat} (hkn : r.kids = some ns) {ks : List (Tr It)} (hks : ks.length = r.items.length + 1) (hnl : ns.length = ks.length)
    (IH : ∀ (i m : Nat) (k : Tr It) (kb ko : Nat) (acc : List It) (W : World), ns[i]? = some m → ks[i]? = some k → L.ka = some ⟨kb, ko, none⟩ → J acc W → acc.length + (flat h k).length ≤ N →
      Calls Try.prog 205 #[ptr b, .pointer (some ⟨kb, ko + i, none⟩), .func (.func g) #[] caps, .bool false] W (HandPost J (handOn go acc (flat h k))))
    {acc : List It} (hJ : J acc w) (hN : acc.length + (flat (h + 1) (.node r.items ks)).length ≤ N) :
    Calls Try.prog 205 #[ptr b, .pointer (some ⟨pb, po, none⟩), .func (.func g) #[] caps, .bool false] w (HandPost J (handOn go acc (flat (h + 1) (.node r.items ks)))) := by
  have HH := Lib.hid HD
  have hcf := HD.enter
  have HA := Lib.hid A
  have HJ := Lib.hid hJ
  have HI := Lib.hid IH
  have hk0 := HD.keep _ _ hJ
  have hiso := Lib.hid (isoLoad_own (A.hdr w hk0) (A.cell w hk0) (A.node w hk0) A.iso false)
  have HKN := Lib.hid hkn
  have HKS := Lib.hid hks
  have HNL := Lib.hid hnl
  have hlen := A.len
  clear HD A hJ hk0 hkn IH hks hnl
  unfold ptr at *
  go_enter Try.func205, Try.ntmps205
  go_wp2_with fail
  refine hiso.out.mono ?_
  rintro e w1 ⟨rfl, kd, rfl⟩
  have HJ1 : Hid (J acc (w.drewN kd)) := by exact HH.out.calm _ _ _ HJ.out (Keep.drewN _ _ _)
  clear hiso HJ
  generalize w.drewN kd = w1 at *
  have hlv := leaf_any (HA.out.node w1 (HH.out.keep _ _ HJ1.out))
  rw [HKN.out] at hlv
  simp only [Option.isNone_some] at hlv
  unfold ptr at *
  go_wp2_with fail
  refine hlv.mono ?_
  rintro e w2 ⟨rfl, rfl⟩
  clear hlv
  go_wp2_with fail
  go_loopg [11] (r.items.length + 1) (fun k v11 wr => ∃ (i : Nat) (acc' : List It), v11 = .int .i64 i ∧ i ≤ r.items.length ∧ i + k = r.items.length + 1 ∧ J acc' wr ∧ handOn go acc (flat (h + 1) (.node r.items ks)) = handOn go acc' (tl h r.items ks i) ∧ acc'.length + (tl h r.items ks i).length ≤ N)
  case atStart => exact ⟨0, acc, rfl, by omega, by omega, HJ1.out, by rw [tl_zero], by rw [← tl_zero]; exact hN⟩
  case round =>
    obtain ⟨i, acc', rfl, hil, hik, hJr, heq, hNr⟩ := hrel
    have HJr := Lib.hid hJr
    have HEQ := Lib.hid heq
    have N1 := Lib.hid (HA.out.node wr (HH.out.keep _ _ hJr))
    obtain ⟨d0, d1, c2, d3, fz⟩ := N1.out.own
    have hkl : ks[i]? = some (ks[i]'(by have := HKS.out; omega)) := List.getElem?_eq_getElem _
    have hnl : ns[i]? = some (ns[i]'(by have := HKS.out; have := HNL.out; omega)) := List.getElem?_eq_getElem _
    have hnsl : i < ns.length := (List.getElem?_eq_some_iff.1 hnl).1
    generalize ns[i]'(by have := HKS.out; have := HNL.out; omega) = m at *
    generalize ks[i]'(by have := HKS.out; omega) = k at *
    obtain ⟨kb, ko, hka, c3, g1, ck⟩ := node_child N1.out HKN.out hnl
    have HKL := Lib.hid hkl
    unfold ptr at *
    by_cases hlt : i < r.items.length
    · have hx : r.items[i]? = some r.items[i] := List.getElem?_eq_getElem hlt
      generalize r.items[i] = x at *
      have HTL := Lib.hid (tl_succ (h := h) hkl hx HKS.out)
      have hlen2 : Hid (acc'.length + (flat h k).length + 1 + (tl h r.items ks (i + 1)).length ≤ N) := by
        have := hNr; rw [HTL.out] at this; simp only [List.length_append, List.length_cons] at this; exact Lib.hid (by omega)
      have hcall := Lib.hid (HI.out i m k kb ko acc' wr hnl hkl hka HJr.out (by have := hlen2.out; omega))
      have HX := Lib.hid hx
      clear d0 d1 d3 hJr heq hkl hnl hka hx
      obtain ⟨⟨a1, yes⟩, hro⟩ : ∃ p, handOn go acc' (flat h k) = p := ⟨_, rfl⟩
      have HRO := Lib.hid hro
      rw [hro] at hcall
      clear hro
      go_wp2_with fail
      refine hcall.out.mono ?_
      rintro e w3 ⟨rfl, hJ3⟩
      have HJ3 := Lib.hid hJ3
      clear hJ3 hcall N1 c2 fz c3 g1 ck
      cases yes with
      | false =>
        go_wp2_with fail
        go_ret
        rw [HEQ.out, HTL.out, handOn_end HRO.out]
        exact ⟨rfl, HJ3.out⟩
      | true =>
        have N3 := Lib.hid (HA.out.node w3 (HH.out.keep _ _ HJ3.out))
        obtain ⟨d0, d1, c2, d3, fz⟩ := N3.out.own
        obtain ⟨ib, io, hia, ck⟩ := node_item N3.out HX.out
        rw [hia] at c2
        obtain ⟨ck, cv⟩ := ck
        have hcall := Lib.hid (HH.out.call a1 x w3.drew (HH.out.calm _ _ _ HJ3.out (Keep.drew _ _)) (by have := handOn_len HRO.out; have := hlen2.out; omega))
        clear d0 d1 d3 hia
        unfold kv vv at *
        simp only at HJ3 HRO
        go_wp2_with fail
        refine wp_calm (by kernel_rfl) (by kernel_rfl) rfl ?_
        simp only [List.flatMap_cons, List.flatMap_nil, checks, chk, nilLit, List.cons_append, List.nil_append, List.append_nil]
        go_wp2_with fail
        cases hg : go (a1 ++ [x]) with
        | true =>
          have HG := Lib.hid hg
          rw [hg] at hcall
          clear hg
          refine hcall.out.mono ?_
          rintro e w4 ⟨rfl, hJ4⟩
          have HJ4 := Lib.hid hJ4
          clear hJ4 hcall
          go_wp2_with fail
          rw [HQ_normal]
          go_wp2_with fail
          go_roundg (r.items.length - i)
          case measure => omega
          case rel => exact ⟨i + 1, a1 ++ [x], by go_num, by omega, by omega, HJ4.out, by rw [HEQ.out, HTL.out, handOn_on HRO.out, handOn_yes HG.out], by have := handOn_len HRO.out; have := hlen2.out; simp; omega⟩
        | false =>
          have HG := Lib.hid hg
          rw [hg] at hcall
          clear hg
          refine hcall.out.mono ?_
          rintro e w4 ⟨rfl, hJ4⟩
          have HJ4 := Lib.hid hJ4
          clear hJ4 hcall
          go_wp2_with fail
          rw [HQ_normal]
          go_wp2_with fail
          go_ret
          rw [HEQ.out, HTL.out, handOn_on HRO.out, handOn_no HG.out]
          exact ⟨rfl, HJ4.out⟩
    · have hi : i = r.items.length := by omega
      subst hi
      have hcall := Lib.hid (HI.out _ m k kb ko acc' wr.drew hnl hkl hka (HH.out.calm _ _ _ HJr.out (Keep.drew _ _)) (by have := hNr; rw [tl_last hkl HKS.out] at this; exact this))
      rw [HNL.out, HKS.out] at g1
      clear d0 d1 d3 hJr heq hkl hnl hka
      go_wp2_with fail
      refine wp_calm (by kernel_rfl) (by kernel_rfl) rfl ?_
      simp only [List.flatMap_cons, List.flatMap_nil, checks, chk, nilLit, List.cons_append, List.nil_append, List.append_nil]
      go_wp2_with fail
      refine hcall.out.mono ?_
      rintro e w3 ⟨rfl, hJ3⟩
      have HJ3 := Lib.hid hJ3
      clear hJ3 hcall
      go_wp2_with fail
      rw [HQ_normal]
      go_wp2_with fail
      go_ret
      rw [HEQ.out, tl_last HKL.out HKS.out]
      exact ⟨rfl, HJ3.out⟩

/-- THE SCAN below a node. -/
theorem scan_any {w0 : World} {b : Nat} {hr : HRec} {H : Store It} {L : Nat → Lay} {g : FuncId} {caps : Array Value} {go : List It → Bool} {J : List It → World → Prop} {S : Nat → Nat → Prop} {N : Nat} {mn mx : Nat}
    (HD : Hands g caps go J S w0 N) (A : StayAll w0 S b hr H L) (hmx : mx ≤ 1000000000000) : ∀ (h l n : Nat) (t : Tr It) (F : List Nat), Rep H hr.iso h n t F → wfr l mn mx h t → ∀ (pb po : Nat), (∀ W, Keep S w0 W → W.cell? ⟨pb, po, none⟩ = some (ptr n)) → ∀ (acc : List It) (w : World), J acc w → acc.length + (flat h t).length ≤ N →
    Calls Try.prog 205 #[ptr b, .pointer (some ⟨pb, po, none⟩), .func (.func g) #[] caps, .bool false] w (HandPost J (handOn go acc (flat h t)))
  | 0, l, n, t, F, hrp, wf, pb, po, hc, acc, w, hJ, hN => by
    obtain ⟨r, h1, h2, h3, h4, h5, h6, _⟩ := hrp
    obtain ⟨its, ks⟩ := t
    simp only [Tr.its, flat] at *
    subst h3
    exact scan_leaf HD ⟨A.hdr, hc, fun W k => A.node W k n r h1, h2, by have := wf.2.1; simp only [Tr.its] at this; omega⟩ h5 hJ hN
  | h + 1, l, n, t, F, hrp, wf, pb, po, hc, acc, w, hJ, hN => by
    obtain ⟨r, ns, F', h1, h2, h3, h4, h5, h6, _⟩ := hrp
    obtain ⟨w1, w2, w3, w4⟩ := wf
    obtain ⟨its, ks⟩ := t
    simp only [Tr.its, Tr.ks] at *
    subst h3
    refine scan_inner HD ⟨A.hdr, hc, fun W k => A.node W k n r h1, h2, by omega⟩ h4 w3 h6.len (fun i m k kb ko acc W hm1 hk hka hJ hN => ?_) hJ hN
    obtain ⟨G, hR⟩ := h6.get hm1 hk
    refine scan_any HD A hmx h mn m k G hR (w4 k (List.mem_of_getElem? hk)) kb (ko + i) (fun W' hk' => ?_) acc W hJ hN
    obtain ⟨kb', ko', hka', _, _, ck⟩ := node_child (A.node W' hk' n r h1) h4 hm1
    rw [hka] at hka'
    obtain ⟨rfl, rfl⟩ : kb = kb' ∧ ko = ko' := by simpa using hka'
    exact ck
end Go.Proofs.Ytfikahgofapobaa.W

namespace Go.Proofs.Ytfikahgofapobaa.W
open Go.RowKit Go.Wb

set_option maxHeartbeats 2000000 in
theorem lowScan_any {w0 w : World} {b : Nat} {hr : HRec} {H : Store It} {L : Nat → Lay} {F : List Nat} {mn mx : Nat} {s : Sh} {g : FuncId} {caps : Array Value} {go : List It → Bool} {J : List It → World → Prop} {S : Nat → Nat → Prop} {N : Nat} (P : HandPre w0 w b hr H L F mn mx s g caps go J S N) :
    Calls Try.prog 160 #[ptr b, .func (.func g) #[] caps, .bool false] w (HandedPost J (handOn go [] (its s))) := by
  have T := P.tree
  have A := T.stay P.hb P.hS
  have hk0 := P.hands.keep _ _ P.start
  have c2 := hdr_root (A.hdr w hk0)
  cases s with
  | none =>
    obtain ⟨hroot, _⟩ := T.root
    rw [hroot] at c2
    simp only [rootV, Option.map_none] at c2
    have HP := Lib.hid P
    clear P T A hk0 hroot
    unfold ptr at *
    go_enter Try.func160, Try.ntmps160
    go_wp2_with fail
    go_end0
    exact ⟨rfl, HP.out.start⟩
  | some q =>
    obtain ⟨h, t⟩ := q
    obtain ⟨n, hroot, rep, wf⟩ := T.root
    rw [hroot] at c2
    simp only [rootV, Option.map_some] at c2
    have hcall := Lib.hid (scan_any P.hands A T.par.hb h 1 n t F rep wf b 2 (fun W hK => by have := hdr_root (A.hdr W hK); rw [hroot] at this; exact this) [] w P.start (by have := P.len; simp only [its, List.length_nil, Nat.zero_add] at *; exact this))
    have HP := Lib.hid P
    clear P T A hk0 hroot rep wf
    unfold ptr at *
    go_enter Try.func160, Try.ntmps160
    go_wp2_with fail
    refine hcall.out.mono ?_
    rintro e w' ⟨rfl, hJ⟩
    have HJ := Lib.hid hJ
    clear hJ hcall
    go_wp2_with fail
    go_end0
    exact ⟨rfl, HJ.out⟩

set_option maxHeartbeats 1000000 in
theorem mapScan_any {w0 w : World} {b : Nat} {hr : HRec} {H : Store It} {L : Nat → Lay} {F : List Nat} {mn mx : Nat} {s : Sh} {g : FuncId} {caps : Array Value} {go : List It → Bool} {J : List It → World → Prop} {S : Nat → Nat → Prop} {N : Nat} (P : HandPre w0 w b hr H L F mn mx s g caps go J S N) :
    Calls Try.prog 107 #[ptr b, .func (.func g) #[] caps] w (HandedPost J (handOn go [] (its s))) := by
  have hcall := Lib.hid (lowScan_any P)
  clear P
  unfold ptr at *
  go_enter Try.func107, Try.ntmps107
  go_wp2_with fail
  refine hcall.out.mono ?_
  rintro e w' ⟨rfl, hJ⟩
  have HJ := Lib.hid hJ
  clear hJ hcall
  go_wp2_with fail
  go_end0
  exact ⟨rfl, HJ.out⟩
end Go.Proofs.Ytfikahgofapobaa.W

namespace Go.Proofs.Ytfikahgofapobaa.W
open Go.RowKit Go.Wb

/-- The cells of a word of a list that is read. -/
theorem word_cell {w : World} {a : Option Addr} {l : List It} (h : Given w a (OE.all l)) {i : Nat} {x : It} (hi : l[i]? = some x) : ∃ b o, a = some ⟨b, o, none⟩ ∧ w.cell? ⟨b, o + i * 2, none⟩ = some (kv (ky x)) ∧ w.cell? ⟨b, o + i * 2 + 1, none⟩ = some (.int .i64 x.2) := by
  have h0 := OE.all_get l i x hi 0 (kv (ky x)) rfl
  have h1 := OE.all_get l i x hi 1 (.int .i64 x.2) rfl
  simp only [show OE.s = 2 from rfl] at h0 h1
  rcases h with h | ⟨b, o, ha, hc⟩
  · rw [h] at h0; simp at h0
  · exact ⟨b, o, ha, hc _ _ h0, by have := hc _ _ h1; rwa [← Nat.add_assoc] at this⟩

theorem out_len (l : List It) : (OE.all l).length = l.length * 2 := OE.all_len l
theorem out_one {l : List It} : ∀ u ∈ OE.all l, u.oneCell' = true := fun u hu => by
  obtain ⟨x, _, hx⟩ := List.mem_flatMap.1 hu
  exact OE.one x u hx
theorem out_take (l : List It) (n : Nat) : OE.all (l.take n) = (OE.all l).take (n * 2) := by
  induction l generalizing n with
  | nil => simp [Enc.all]
  | cons x l ih =>
    cases n with
    | zero => simp [Enc.all]
    | succ n =>
      rw [List.take_succ_cons, Enc.all_cons, Enc.all_cons, ih n, show (n + 1) * 2 = (OE.enc x).length + n * 2 by rw [OE.len]; simp [OE]; omega, List.take_append, Nat.add_sub_cancel_left, List.take_of_length_le (l := OE.enc x) (by omega)]
theorem out_drop (l : List It) (n : Nat) : OE.all (l.drop n) = (OE.all l).drop (n * 2) := by
  induction l generalizing n with
  | nil => simp [Enc.all]
  | cons x l ih =>
    cases n with
    | zero => simp [Enc.all]
    | succ n =>
      rw [List.drop_succ_cons, Enc.all_cons, ih n, show (n + 1) * 2 = (OE.enc x).length + n * 2 by rw [OE.len]; simp [OE]; omega, ← List.drop_drop, List.drop_left]
/-- A new list of words. -/
def NewWords (w : World) (xs : List It) (e : Ending) (w' : World) : Prop := ∃ a cap, e = .returned (.slice a xs.length cap) ∧ Acc w.heap.size w' 34 2 a xs.length cap (OE.all xs) ∧ Keep Nothing w w'

-- equal lists
set_option maxRecDepth 100000 in
set_option maxHeartbeats 2000000 in
theorem equalW_any {w : World} {a c : Option Addr} {acap ccap : Nat} {l : List It} (h1 : Given w a (OE.all l)) (h2 : Given w c (OE.all l)) (hl : l.length ≤ 4000000000000) :
    Calls Try.prog 21 #[.slice a l.length acap, .slice c l.length ccap] w fun e w' => e = .returned (.bool true) ∧ Keep Nothing w w' := by
  have H1 := Lib.hid h1
  have H2 := Lib.hid h2
  clear h1 h2
  go_enter Try.func21, Try.ntmps21
  go_wp2_with fail
  go_loopg [13] (l.length + 1) (fun k v13 wr => ∃ i : Nat, v13 = .int .i64 i ∧ i ≤ l.length ∧ i + k = l.length + 1 ∧ Keep Nothing w wr)
  case atStart => exact ⟨0, rfl, by omega, by omega, Keep.refl _ _⟩
  case round =>
    obtain ⟨i, rfl, hil, hik, hK⟩ := hrel
    have HK := Lib.hid hK
    clear hK
    by_cases hlt : i < l.length
    · have hx : l[i]? = some l[i] := List.getElem?_eq_getElem hlt
      generalize l[i] = x at *
      obtain ⟨b1, o1, ha, x0, x1⟩ := word_cell (H1.out.keep HK.out) hx
      obtain ⟨b2, o2, hc, y0, y1⟩ := word_cell (H2.out.keep HK.out) hx
      subst ha
      subst hc
      clear hx
      unfold kv at *
      go_wp2_with fail
      go_quiet (fail)
      go_wp2_with fail
      go_roundg (l.length - i)
      case measure => omega
      case rel => exact ⟨i + 1, by go_num, by omega, by omega, HK.out.drN _⟩
    · have hi : i = l.length := by omega
      subst hi
      go_wp2_with fail
      go_ret
      exact ⟨rfl, HK.out⟩

-- spot
theorem loc_lt {l : List It} {k : Ky} {i j : Nat} {f : Bool} (hs : Sorted ilt l) (hl : Loc l k i f) (hj : j < i) {x : It} (hx : l[j]? = some x) : klt (ky x) k = true := by
  cases f with
  | false => exact hl.2.1 j x hj hx
  | true =>
    obtain ⟨A, y, B, rfl, rfl, _, _, _, hA, _⟩ := loc_found hs hl
    rw [List.getElem?_append_left hj] at hx
    exact hA x (List.mem_of_getElem? hx)
theorem loc_at {l : List It} {k : Ky} {i : Nat} {f : Bool} (hl : Loc l k i f) {x : It} (hx : l[i]? = some x) : klt (ky x) k = false ∧ ((ky x).toList == k.toList) = f := by
  cases f with
  | false =>
    have h := hl.2.2 i x (Nat.le_refl _) hx
    refine ⟨kord.asymm h, ?_⟩
    rw [beq_eq_false_iff_ne]
    intro e
    unfold klt at h
    rw [e, bytesLess_irr] at h
    cases h
  | true =>
    obtain ⟨_, y, hy, h1, h2⟩ := hl
    rw [hx] at hy
    cases hy
    exact ⟨h2, by rw [beq_iff_eq]; exact bytesLess_tri _ _ h2 h1⟩

set_option maxRecDepth 100000 in
set_option maxHeartbeats 4000000 in
theorem spot_any {w : World} {a : Option Addr} {cap : Nat} {l : List It} {k : Ky} {i : Nat} {f : Bool} (h1 : Given w a (OE.all l)) (hl : l.length ≤ 4000000000000) (hloc : Loc l k i f) (hs : Sorted ilt l) :
    Calls Try.prog 179 #[.slice a l.length cap, kv k] w fun e w' => e = .returned (.tuple #[.int .i64 i, .bool f]) ∧ Keep Nothing w w' := by
  have H1 := Lib.hid h1
  have HLO := Lib.hid hloc
  have HS := Lib.hid hs
  have hil0 := hloc.1
  clear h1 hloc hs
  unfold kv
  go_enter Try.func179, Try.ntmps179
  go_wp2_with fail
  go_loopg [6] (i + 1) (fun c v6 wr => ∃ j : Nat, v6 = .int .i64 j ∧ j ≤ i ∧ j + c = i + 1 ∧ w = wr)
  case atStart => exact ⟨0, rfl, by omega, by omega, rfl⟩
  case round =>
    obtain ⟨j, rfl, hji, hjc, rfl⟩ := hrel
    by_cases hlt : j < i
    · have hx : l[j]? = some (l[j]'(by omega)) := List.getElem?_eq_getElem (by omega)
      have hjl : j < l.length := by omega
      generalize l[j]'(by omega) = x at *
      have hb := loc_lt HS.out HLO.out hlt hx
      obtain ⟨b1, o1, ha, x0, x1⟩ := word_cell H1.out hx
      subst ha
      clear hx
      unfold kv klt at *
      go_wp2_with fail
      go_roundg (i - j)
      case measure => omega
      case rel => exact ⟨j + 1, by go_num, by omega, by omega, rfl⟩
    · obtain rfl : i = j := by omega
      clear hjc hji hlt
      by_cases hjl : i < l.length
      · have hx : l[i]? = some l[i] := List.getElem?_eq_getElem hjl
        generalize l[i] = x at *
        obtain ⟨hb, hq⟩ := loc_at HLO.out hx
        obtain ⟨b1, o1, ha, x0, x1⟩ := word_cell H1.out hx
        subst ha
        clear hx
        unfold kv klt at *
        go_wp2_with fail
        refine wp_calm (by kernel_rfl) (by kernel_rfl) rfl ?_
        simp only [List.flatMap_cons, List.flatMap_nil, checks, chk, nilLit, List.cons_append, List.nil_append, List.append_nil, Try.underlying3, Try.underlying9]
        go_wp2_with fail
        rw [HQ_normal]
        go_wp2_with fail
        go_ret2
        exact ⟨rfl, Keep.drew _ _⟩
      · have hi : i = l.length := by omega
        have hf : f = false := by
          cases f with
          | false => rfl
          | true => obtain ⟨_, y, hy, _⟩ := HLO.out; have := (List.getElem?_eq_some_iff.1 hy).1; omega
        subst hf
        subst hi
        go_wp2_with fail
        refine wp_calm (by kernel_rfl) (by kernel_rfl) rfl ?_
        simp only [List.flatMap_cons, List.flatMap_nil, checks, chk, nilLit, List.cons_append, List.nil_append, List.append_nil, Try.underlying3, Try.underlying9]
        go_wp2_with fail
        rw [HQ_normal]
        go_wp2_with fail
        go_ret2
        exact ⟨rfl, Keep.drew _ _⟩

/-- The items of what was set. -/
def sortK (l : List It) : List It := l.foldl (putF ilt) []
theorem sortK_sorted (l : List It) : Sorted ilt (sortK l) := foldl_put_sorted iord l (by simp [Sorted])
theorem sortK_len (l : List It) : (sortK l).length ≤ l.length := by have := foldl_put_len iord l []; unfold sortK; simpa using this
theorem sortK_snoc (l : List It) {i : Nat} {x : It} (hx : l[i]? = some x) : sortK (l.take (i + 1)) = putF ilt (sortK (l.take i)) x := by
  unfold sortK; rw [List.take_add_one, hx]; simp
theorem putF_none {l : List It} {x : It} {i : Nat} (h : Loc l (ky x) i false) : putF ilt l x = l.take i ++ x :: l.drop i := by
  obtain ⟨hA, hB⟩ := loc_none h
  exact ((show Put ilt l x (l.take i ++ x :: l.drop i) none from ⟨_, _, (List.take_append_drop i l).symm, rfl, hA, hB⟩).eq iord).1.symm
theorem putF_some {l : List It} {x : It} {i : Nat} (hs : Sorted ilt l) (h : Loc l (ky x) i true) : putF ilt l x = l.take i ++ x :: l.drop (i + 1) := by
  obtain ⟨A, y, B, rfl, rfl, _, h1, h2, hA, hB⟩ := loc_found hs h
  have := ((show Put ilt (A ++ y :: B) x (A ++ x :: B) (some y) from ⟨_, _, rfl, rfl, h1, h2, hA, hB⟩).eq iord).1.symm
  rw [this]
  simp
end Go.Proofs.Ytfikahgofapobaa.W

namespace Go.Proofs.Ytfikahgofapobaa.W
open Go.RowKit Go.Wb

theorem elemBool : Elem Try.prog 4 1 1 := ⟨by kernel_rfl, by kernel_rfl, by kernel_rfl⟩
def WSetPost (w : World) (l : List It) (e : Ending) (w' : World) : Prop :=
  ∃ v1 v2 a cap, e = .returned (.tuple #[v1, v2, .slice a (sortK l).length cap]) ∧ Acc w.heap.size w' 34 2 a (sortK l).length cap (OE.all (sortK l)) ∧ Keep Nothing w w'

/-- Where the loop of WSet stands. -/
structure WSetAt (w wr : World) (l its : List It) (i : Nat) (a5 a6 a7 : Option Addr) (c5 c6 c7 : Nat) (cs5 cs7 : List Value) : Prop where
  keep : Keep Nothing w wr
  rows : Accs w.heap.size wr [⟨34, 2, a5, i, c5, cs5⟩, ⟨34, 2, a6, its.length, c6, OE.all its⟩, ⟨4, 1, a7, i, c7, cs7⟩]
  its : its = sortK (l.take i)

/-- A part from start on. -/
theorem row_from {B : Nat} {w : World} {a : Option Addr} {n cap k : Nat} {its : List It} (h : Acc B w 34 2 a n cap (OE.all its)) (hk : k ≤ its.length) : (cap = k → its.drop k = []) ∧ (cap ≠ k → ∃ b o, a = some ⟨b, o, none⟩ ∧ Given w (some ⟨b, o + k * 2, none⟩) (OE.all (its.drop k))) := by
  have hl := h.row.len
  rw [out_len] at hl
  refine ⟨fun e => List.drop_eq_nil_of_le (by omega), fun hne => ?_⟩
  rcases h.row with ⟨_, h0, h1⟩ | ⟨b, o, arr, ha, _⟩
  · have := out_len its; rw [h1] at this; simp at this; omega
  · refine ⟨b, o, ha, ?_⟩
    rw [out_drop]
    exact (h.row.reads).drop (k * 2) ha

set_option maxRecDepth 100000 in
set_option maxHeartbeats 16000000 in
theorem wset_any {w : World} {a : Option Addr} {cap : Nat} {l : List It} (h1 : Given w a (OE.all l)) (hl : l.length ≤ 4000000000000) :
    Calls Try.prog 132 #[.slice a l.length cap] w (WSetPost w l) := by
  have H1 := Lib.hid h1
  have HLL := Lib.hid hl
  clear h1
  go_enter Try.func132, Try.ntmps132
  go_wp2_with fail
  go_loopg [5, 6, 7, 16] (l.length + 1) (fun k v5 v6 v7 v16 wr => ∃ (i : Nat) (its : List It) (a5 a6 a7 : Option Addr) (c5 c6 c7 : Nat) (cs5 cs7 : List Value), v5 = .slice a5 i c5 ∧ v6 = .slice a6 its.length c6 ∧ v7 = .slice a7 i c7 ∧ v16 = .int .i64 i ∧ i ≤ l.length ∧ i + k = l.length + 1 ∧ WSetAt w wr l its i a5 a6 a7 c5 c6 c7 cs5 cs7)
  case atStart =>
    refine ⟨0, [], none, none, none, 0, 0, 0, [], [], rfl, rfl, rfl, rfl, by omega, by omega, Keep.refl _ _, ?_, by simp [sortK]⟩
    exact (((Accs.nil w.heap.size w).addNil (Nat.le_refl _) 34 2).addNil (Nat.le_refl _) 34 2).addNil (Nat.le_refl _) 4 1
  case round =>
    obtain ⟨i, its, a5, a6, a7, c5, c6, c7, cs5, cs7, rfl, rfl, rfl, rfl, hil, hik, hA⟩ := hrel
    have HA := Lib.hid hA
    clear hA
    by_cases hlt : i < l.length
    · have hx : l[i]? = some l[i] := List.getElem?_eq_getElem hlt
      generalize l[i] = x at *
      have HX := Lib.hid hx
      obtain ⟨b0, o0, ha, x0, x1⟩ := word_cell (H1.out.keep HA.out.keep) hx
      subst ha
      have hsrt : Sorted ilt its := by rw [HA.out.its]; exact sortK_sorted _
      obtain ⟨j, f, hloc⟩ := Loc.ex (ky x) its hsrt
      have hlen : its.length ≤ i := by rw [HA.out.its]; have := sortK_len (l.take i); simp at this; omega
      have hj := hloc.1
      have hww := HA.out.keep.size
      have HS := Lib.hid hsrt
      have HLO := Lib.hid hloc
      have hllb := HLL.out
      clear hx hsrt hloc
      unfold kv at *
      go_upto_region 6 with (fail)
      refine wp_world ?_
      intro W1 hW1
      have k1 : Keep Nothing wr W1 := by subst hW1; exact (Keep.refl _ _).al _
      have A1 : Hid (Accs w.heap.size W1 [⟨34, 2, a5, i, c5, cs5⟩, ⟨34, 2, a6, its.length, c6, OE.all its⟩, ⟨4, 1, a7, i, c7, cs7⟩, ⟨34, 2, some ⟨wr.heap.size, 0, none⟩, 1, 1, OE.enc x⟩]) := by
        exact HA.out.rows.addBlk hww k1 (by subst hW1; exact heap_alloc_new wr _) (Nat.le_refl _) (OE.len _)
      have K1 : Hid (Keep Nothing w W1) := by exact HA.out.keep.trans k1 fun _ _ _ h => h
      have EI := Lib.hid HA.out.its
      generalize wr.heap.size = q at *
      clear hW1 k1 HA x0 x1 hww
      have hsp := Lib.hid (spot_any (cap := c6) (A1.out.acc 1 _ rfl).row.reads (by omega) HLO.out HS.out)
      have xk := (A1.out.acc 3 _ rfl).row.cell (i := 0) (v := kv (ky x)) rfl
      have xv := (A1.out.acc 3 _ rfl).row.cell (i := 1) (v := .int .i64 x.2) rfl
      simp only [Nat.add_zero] at xk xv
      unfold kv at hsp xk
      go_wp2_with fail
      refine hsp.out.mono ?_
      rintro e W2 ⟨rfl, k2⟩
      have K2 : Hid (Keep Nothing w W2) := by exact K1.out.trans k2 fun _ _ _ h => h
      have A2 := Lib.hid (A1.out.quiet k2)
      clear hsp k2 K1 A1 xk xv
      have xk := (A2.out.acc 3 _ rfl).row.cell (i := 0) (v := kv (ky x)) rfl
      simp only [Nat.add_zero] at xk
      have hw2 := K2.out.size
      unfold kv at xk
      go_upto_region 8 with (fail)
      refine wp_world ?_
      intro W3 hW3
      have k3 : Keep Nothing W2 W3 := by subst hW3; exact (Keep.refl _ _).al _
      have A3 : Hid (Accs w.heap.size W3 [⟨34, 2, a5, i, c5, cs5⟩, ⟨34, 2, a6, its.length, c6, OE.all its⟩, ⟨4, 1, a7, i, c7, cs7⟩, ⟨34, 2, some ⟨q, 0, none⟩, 1, 1, OE.enc x⟩, ⟨34, 2, some ⟨W2.heap.size, 0, none⟩, 1, 1, [.string (ky x), .int .i64 0]⟩]) := by
        exact A2.out.addBlk hw2 k3 (by subst hW3; exact heap_alloc_new W2 _) (Nat.le_refl _) rfl
      have K3 : Hid (Keep Nothing w W3) := by exact K2.out.trans k3 fun _ _ _ h => h
      generalize W2.heap.size = p at *
      have HPW := Lib.hid hw2
      clear hW3 k3 K2 A2 xk hw2
      have hc6 := (A3.out.acc 1 _ rfl).le
      simp only at hc6
      have hw3 := K3.out.size
      go_cut [13] (fun v13 wx => ∃ (a8 : Option Addr) (c8 : Nat), v13 = .slice a8 j c8 ∧ Keep Nothing w wx ∧ Accs w.heap.size wx [⟨34, 2, a5, i, c5, cs5⟩, ⟨34, 2, a6, its.length, c6, OE.all its⟩, ⟨4, 1, a7, i, c7, cs7⟩, ⟨34, 2, some ⟨q, 0, none⟩, 1, 1, OE.enc x⟩, ⟨34, 2, some ⟨p, 0, none⟩, 1, 1, [.string (ky x), .int .i64 0]⟩, ⟨34, 2, a8, j, c8, OE.all (its.take j)⟩])
      case first =>
        have fin : ∀ (a8 : Option Addr) (c8 : Nat) (W4 : World), Grew (W3.alloc (.cells #[] 34)) W4 34 2 (some ⟨W3.heap.size, 0, none⟩) a8 0 j 0 c8 ([] ++ OE.all (its.take j)) → Keep Nothing w W4 ∧ Accs w.heap.size W4 [⟨34, 2, a5, i, c5, cs5⟩, ⟨34, 2, a6, its.length, c6, OE.all its⟩, ⟨4, 1, a7, i, c7, cs7⟩, ⟨34, 2, some ⟨q, 0, none⟩, 1, 1, OE.enc x⟩, ⟨34, 2, some ⟨p, 0, none⟩, 1, 1, [.string (ky x), .int .i64 0]⟩, ⟨34, 2, a8, j, c8, OE.all (its.take j)⟩] := by
          intro a8 c8 W4 hg
          obtain ⟨k4, f4⟩ := hg.fresh (w := W3) ((Keep.refl _ _).al _)
          have k4' : Keep Nothing W3 W4 := ((Keep.refl Nothing W3).al _).trans hg.calm fun _ _ _ h => h
          refine ⟨K3.out.trans k4' fun _ _ _ h => h, ?_⟩
          exact A3.out.add hw3 k4' (r := ⟨34, 2, a8, j, c8, OE.all (its.take j)⟩) (by have := hg.row; simpa using this) (by simp only [out_len, List.length_take]; omega) (by have := hg.cap; simp only; omega) (fun b ⟨o, hf⟩ => f4 b o hf)
        have FIN := Lib.hid fin
        clear fin
        rcases (A3.out.acc 1 _ rfl).row with ⟨h6, h6c, h6n⟩ | ⟨b6, o6, _, h6, _⟩
        · simp only at h6 h6c h6n
          subst h6
          subst h6c
          have hits0 : its = [] := by have := out_len its; rw [h6n] at this; simp at this; exact List.eq_nil_of_length_eq_zero (by omega)
          subst hits0
          obtain rfl : j = 0 := by simpa using hj
          clear h6n
          go_wp2_with (at_builtin; refine wpList_append_src rfl _ _ _ rfl 34 2 24 Try.underlying29 elemO _ 0 0 [] (by rfl) (Row.empty (heap_alloc_new W3 _)) rfl none 0 0 (OE.all (([] : List It).take 0)) (by rfl) (by omega) (by simp [Enc.all]) (.inl (by simp [Enc.all])) out_one (by omega) (by simp only [maxLen]; omega) (by omega) ?_; intro a8 c8 W4 hg; have F := Lib.hid (FIN.out a8 c8 W4 hg); clear hg)
          obtain ⟨F1, F2⟩ := F.out
          go_meet
          exact ⟨a8, c8, rfl, F1, F2⟩
        · simp only at h6
          subst h6
          have HG6 : Hid (Given (W3.alloc (.cells #[] 34)) (some ⟨b6, o6, none⟩) (OE.all (its.take j))) := by
            rw [out_take]; exact (((A3.out.acc 1 _ rfl).row.reads).take _).keep (Keep.alloc _ _ _)
          go_wp2_with (at_builtin; refine wpList_append_src rfl _ _ _ rfl 34 2 24 Try.underlying29 elemO _ 0 0 [] (by rfl) (Row.empty (heap_alloc_new W3 _)) rfl (some ⟨b6, o6, none⟩) j c6 (OE.all (its.take j)) (by rfl) (by omega) (by rw [out_len, List.length_take]; omega) HG6.out out_one (by omega) (by simp only [maxLen]; omega) (by omega) ?_; intro a8 c8 W4 hg; have F := Lib.hid (FIN.out a8 c8 W4 hg); clear hg)
          obtain ⟨F1, F2⟩ := F.out
          go_meet
          exact ⟨a8, c8, by simp, F1, F2⟩
      case' rest =>
        obtain ⟨a8, c8, rfl, k4, g4⟩ := hcut
        have A4 := Lib.hid g4
        have K4 := Lib.hid k4
        clear k4 g4 A3 K3 hw3
      have xk := (A4.out.acc 3 _ rfl).row.cell (i := 0) (v := kv (ky x)) rfl
      have xv := (A4.out.acc 3 _ rfl).row.cell (i := 1) (v := .int .i64 x.2) rfl
      simp only [Nat.zero_add, Nat.add_zero] at xk xv
      have hw4 := K4.out.size
      have A4a : Hid (∀ o, Accs w.heap.size (wc.alloc o) [⟨34, 2, a5, i, c5, cs5⟩, ⟨34, 2, a6, its.length, c6, OE.all its⟩, ⟨4, 1, a7, i, c7, cs7⟩, ⟨34, 2, some ⟨q, 0, none⟩, 1, 1, OE.enc x⟩, ⟨34, 2, some ⟨p, 0, none⟩, 1, 1, [.string (ky x), .int .i64 0]⟩, ⟨34, 2, a8, j, c8, OE.all (its.take j)⟩]) := by exact fun o => A4.out.quiet (Keep.alloc _ _ _)
      have hc8 : Hid (j ≤ c8) := Lib.hid (A4.out.acc 5 _ rfl).le
      unfold kv at xk
      go_upto_region 10 with (at_builtin; refine wpList_append_src rfl _ _ _ rfl 34 2 24 Try.underlying29 elemO a8 j c8 (OE.all (its.take j)) (by rfl) ((A4a.out _).acc 5 _ rfl).row (by rw [out_len, List.length_take]; omega) (some ⟨wc.heap.size, 0, none⟩) 1 1 (OE.enc x) (by rfl) (by omega) rfl (new_given wc (OE.enc x) 34) (OE.one _) hc8.out (by simp only [maxLen]; omega) (by omega) ?_; intro a9 c9 W5 hg)
      obtain ⟨g5, k5⟩ := (A4a.out _).grow (by simp; omega) 5 rfl hg rfl
      have A5 := Lib.hid g5
      have K5 : Hid (Keep Nothing w W5) := by exact (K4.out.al _).trans k5 fun c o hc h => absurd h (by omega)
      clear hg g5 k5 A4 A4a K4 xk xv hw4 hc8
      simp only [List.set] at A5
      have HC9 : Hid (j + 1 ≤ c9) := Lib.hid (A5.out.acc 5 _ rfl).le
      obtain ⟨st, hst⟩ : ∃ st : Nat, st = if f then j + 1 else j := ⟨_, rfl⟩
      have hstl : st ≤ its.length := by
        cases f with
        | false => simp only [if_false, Bool.false_eq_true] at hst; omega
        | true => obtain ⟨_, y, hy, _⟩ := HLO.out; have := (List.getElem?_eq_some_iff.1 hy).1; simp only [if_true] at hst; omega
      have hjst : j ≤ st := by
        cases f with
        | false => simp only [if_false, Bool.false_eq_true] at hst; omega
        | true => simp only [if_true] at hst; omega
      have HPUT : Hid (putF ilt its x = its.take j ++ x :: its.drop st) := by
        cases f with
        | false => simp only [if_false, Bool.false_eq_true] at hst; subst hst; exact putF_none HLO.out
        | true => simp only [if_true] at hst; subst hst; exact putF_some HS.out HLO.out
      have HST := Lib.hid hst
      clear hst
      go_upto_if 39 with (fail)
      go_cut [10] (fun v10 wx => v10 = .int .i64 st ∧ Keep Nothing w wx ∧ ∃ bv : Int, Accs w.heap.size wx [⟨34, 2, a5, i, c5, cs5⟩, ⟨34, 2, a6, its.length, c6, OE.all its⟩, ⟨4, 1, a7, i, c7, cs7⟩, ⟨34, 2, some ⟨q, 0, none⟩, 1, 1, OE.enc x⟩, ⟨34, 2, some ⟨p, 0, none⟩, 1, 1, [.string (ky x), .int .i64 bv]⟩, ⟨34, 2, a9, j + 1, c9, OE.all (its.take j) ++ OE.enc x⟩])
      case first =>
        cases f with
        | false =>
          have hs1 := HST.out
          simp only [if_false, Bool.false_eq_true] at hs1
          subst hs1
          go_wp2_with fail
          go_meet
          exact ⟨rfl, K5.out, 0, A5.out⟩
        | true =>
          have hs1 := HST.out
          simp only [if_true] at hs1
          subst hs1
          obtain ⟨_, y, hy, _⟩ := id HLO.out
          obtain ⟨b6, o6, ha6, y0, y1⟩ := word_cell ((A5.out.acc 1 _ rfl).row.reads) hy
          subst ha6
          have p1 := (A5.out.acc 4 _ rfl).row.cell (i := 1) (v := .int .i64 0) rfl
          have fzp := (A5.out.acc 4 _ rfl).row.frozen
          simp only [Nat.zero_add] at p1
          have hjl : j < its.length := by omega
          clear hy y0
          go_wp2_with fail
          go_meet
          refine ⟨by go_num, K5.out.set _ _ _ (fun h => by have := HPW.out; omega), y.2, ?_⟩
          have := A5.out.set 4 rfl (j := 1) (by simp) (.int .i64 y.2)
          simpa [List.set] using this
      case rest =>
        obtain ⟨rfl, hK6, bv, hA6⟩ := hcut
        have K6 := Lib.hid hK6
        have A6 := Lib.hid hA6
        have hw6 := hK6.size
        obtain ⟨hf1, hf2⟩ := row_from (A6.out.acc 1 _ rfl) hstl
        have HF1 := Lib.hid hf1
        have HF2 := Lib.hid hf2
        have hc6l : its.length ≤ c6 := (A6.out.acc 1 _ rfl).le
        clear hK6 hA6 A5 K5 hf1 hf2
        have hml : (OE.all (its.drop st)).length = (its.length - st) * 2 := by rw [out_len, List.length_drop]
        have HML := Lib.hid hml
        clear hml
        have h9 := HC9.out
        have HFIN : Hid (∀ (a10 : Option Addr) (c10 : Nat) (W7 : World), Grew wc W7 34 2 a9 a10 (j + 1) (its.length - st) c9 c10 ((OE.all (its.take j) ++ OE.enc x) ++ OE.all (its.drop st)) → Keep Nothing w W7 ∧ Accs w.heap.size W7 [⟨34, 2, a5, i, c5, cs5⟩, ⟨34, 2, a6, its.length, c6, OE.all its⟩, ⟨4, 1, a7, i, c7, cs7⟩, ⟨34, 2, some ⟨q, 0, none⟩, 1, 1, OE.enc x⟩, ⟨34, 2, some ⟨p, 0, none⟩, 1, 1, [.string (ky x), .int .i64 bv]⟩, ⟨34, 2, a10, j + 1 + (its.length - st), c10, (OE.all (its.take j) ++ OE.enc x) ++ OE.all (its.drop st)⟩]) := by
          refine Lib.hid ?_
          intro a10 c10 W7 hg
          obtain ⟨g7, k7⟩ := A6.out.grow hw6 5 rfl hg HML.out
          exact ⟨K6.out.trans k7 fun c o hc h => absurd h (by omega), by simpa [List.set] using g7⟩
        go_upto_region 13 with (fail)
        go_cut [6] (fun v6 wx => ∃ (a10 : Option Addr) (c10 : Nat), v6 = .slice a10 (j + 1 + (its.length - st)) c10 ∧ Keep Nothing w wx ∧ Accs w.heap.size wx [⟨34, 2, a5, i, c5, cs5⟩, ⟨34, 2, a6, its.length, c6, OE.all its⟩, ⟨4, 1, a7, i, c7, cs7⟩, ⟨34, 2, some ⟨q, 0, none⟩, 1, 1, OE.enc x⟩, ⟨34, 2, some ⟨p, 0, none⟩, 1, 1, [.string (ky x), .int .i64 bv]⟩, ⟨34, 2, a10, j + 1 + (its.length - st), c10, (OE.all (its.take j) ++ OE.enc x) ++ OE.all (its.drop st)⟩])
        case first =>
          by_cases hc : c6 = st
          · have hnil := HF1.out hc
            have HN := Lib.hid hnil
            have hlst : its.length = st := by omega
            have hg0 : Hid (∀ sa, Given wc sa (OE.all (its.drop st))) := by exact fun sa => .inl (by rw [HN.out]; rfl)
            have HLST := Lib.hid hlst
            clear hnil hlst
            subst hc
            rcases (A6.out.acc 1 _ rfl).row with ⟨h6, h6c, h6n⟩ | ⟨b6, o6, _, h6, _⟩
            · simp only at h6 h6c h6n
              subst h6
              subst h6c
              obtain rfl : its = [] := List.eq_nil_of_length_eq_zero HLST.out
              clear h6n
              have hform := (A6.out.acc 5 _ rfl).row.form (by rw [List.length_append, OE.len]; have := OE.pos; omega)
              simp only at hform
              obtain ⟨b9, o9, h9a, _⟩ := hform
              subst h9a
              go_wp2_with fail
              go_meet
              exact ⟨_, c9, by first | rfl | simp, K6.out, by simpa [Enc.all] using A6.out⟩
            · simp only at h6
              subst h6
              have hform := (A6.out.acc 5 _ rfl).row.form (by rw [List.length_append, OE.len]; have := OE.pos; omega)
              simp only at hform
              obtain ⟨b9, o9, h9a, _⟩ := hform
              subst h9a
              go_wp2_with fail
              go_meet
              have h0 : its.length - c6 = 0 := by have := HLST.out; omega
              refine ⟨some ⟨b9, o9, none⟩, c9, by rw [h0], K6.out, ?_⟩
              rw [h0, HN.out]
              simpa [Enc.all] using A6.out
          · obtain ⟨b6, o6, ha6, hgv⟩ := HF2.out hc
            subst ha6
            have HGV := Lib.hid hgv
            clear hgv
            go_wp2_with (at_builtin; refine wpList_append_src rfl _ _ _ rfl 34 2 24 Try.underlying29 elemO a9 (j + 1) c9 (OE.all (its.take j) ++ OE.enc x) (by rfl) (A6.out.acc 5 _ rfl).row (A6.out.acc 5 _ rfl).len (some ⟨b6, o6 + st * 2, none⟩) (its.length - st) (c6 - st) (OE.all (its.drop st)) (by rfl) (by omega) HML.out HGV.out out_one h9 (by simp only [maxLen]; omega) (by omega) ?_; intro a10 c10 W7 hg; have F := Lib.hid (HFIN.out a10 c10 W7 hg); clear hg)
            obtain ⟨F1, F2⟩ := F.out
            go_meet
            exact ⟨a10, c10, rfl, F1, F2⟩
        case rest =>
          obtain ⟨a10, c10, rfl, k7, g7⟩ := hcut
          have K7 := Lib.hid k7
          have A7 := Lib.hid g7
          have hw7 := k7.size
          have pk := (g7.acc 4 _ rfl).row.cell (i := 0) (v := .string (ky x)) rfl
          have pv := (g7.acc 4 _ rfl).row.cell (i := 1) (v := .int .i64 bv) rfl
          simp only [Nat.zero_add, Nat.add_zero] at pk pv
          have A7a : Hid (∀ o, Accs w.heap.size (wc.alloc o) [⟨34, 2, a5, i, c5, cs5⟩, ⟨34, 2, a6, its.length, c6, OE.all its⟩, ⟨4, 1, a7, i, c7, cs7⟩, ⟨34, 2, some ⟨q, 0, none⟩, 1, 1, OE.enc x⟩, ⟨34, 2, some ⟨p, 0, none⟩, 1, 1, [.string (ky x), .int .i64 bv]⟩, ⟨34, 2, a10, j + 1 + (its.length - st), c10, (OE.all (its.take j) ++ OE.enc x) ++ OE.all (its.drop st)⟩]) := by exact fun o => A7.out.quiet (Keep.alloc _ _ _)
          have hc5 : Hid (i ≤ c5) := Lib.hid (g7.acc 0 _ rfl).le
          clear k7 g7 K6 A6 HFIN HF1 HF2 hc6l
          have h5 := hc5.out
          have hb1 : (i + 1) * 24 ≤ 140737488355328 := by omega
          have hone : ∀ u ∈ [Value.string (ky x), .int .i64 bv], u.oneCell' = true := by intro u hu; simp at hu; rcases hu with rfl | rfl <;> rfl
          have hnew := new_given wc [Value.string (ky x), .int .i64 bv] 34
          have hro := ((A7a.out (.cells [Value.string (ky x), .int .i64 bv].toArray 34)).acc 0 _ rfl).row
          have hln := ((A7a.out (.cells [Value.string (ky x), .int .i64 bv].toArray 34)).acc 0 _ rfl).len
          have HN8 : Hid (∀ (a11 : Option Addr) (c11 : Nat) (W8 : World), Grew (wc.alloc (.cells [Value.string (ky x), .int .i64 bv].toArray 34)) W8 34 2 a5 a11 i 1 c5 c11 (cs5 ++ [.string (ky x), .int .i64 bv]) → Keep Nothing w W8 ∧ Accs w.heap.size W8 [⟨34, 2, a11, i + 1, c11, cs5 ++ [.string (ky x), .int .i64 bv]⟩, ⟨34, 2, a6, its.length, c6, OE.all its⟩, ⟨4, 1, a7, i, c7, cs7⟩, ⟨34, 2, some ⟨q, 0, none⟩, 1, 1, OE.enc x⟩, ⟨34, 2, some ⟨p, 0, none⟩, 1, 1, [.string (ky x), .int .i64 bv]⟩, ⟨34, 2, a10, j + 1 + (its.length - st), c10, (OE.all (its.take j) ++ OE.enc x) ++ OE.all (its.drop st)⟩]) := by
            refine Lib.hid ?_
            intro a11 c11 W8 hg
            obtain ⟨g8, k8⟩ := (A7a.out _).grow (by simp; omega) 0 rfl hg rfl
            exact ⟨(K7.out.al _).trans k8 fun c o hc h => absurd h (by omega), by simpa [List.set] using g8⟩
          have HN9 : Hid (∀ (a11 a12 : Option Addr) (c11 c12 : Nat) (W8 W9 : World), Keep Nothing w W8 ∧ Accs w.heap.size W8 [⟨34, 2, a11, i + 1, c11, cs5 ++ [.string (ky x), .int .i64 bv]⟩, ⟨34, 2, a6, its.length, c6, OE.all its⟩, ⟨4, 1, a7, i, c7, cs7⟩, ⟨34, 2, some ⟨q, 0, none⟩, 1, 1, OE.enc x⟩, ⟨34, 2, some ⟨p, 0, none⟩, 1, 1, [.string (ky x), .int .i64 bv]⟩, ⟨34, 2, a10, j + 1 + (its.length - st), c10, (OE.all (its.take j) ++ OE.enc x) ++ OE.all (its.drop st)⟩] → Grew (W8.alloc (.cells [Value.bool f].toArray 4)) W9 4 1 a7 a12 i 1 c7 c12 (cs7 ++ [.bool f]) → Keep Nothing w W9 ∧ Accs w.heap.size W9 [⟨34, 2, a11, i + 1, c11, cs5 ++ [.string (ky x), .int .i64 bv]⟩, ⟨34, 2, a6, its.length, c6, OE.all its⟩, ⟨4, 1, a12, i + 1, c12, cs7 ++ [.bool f]⟩, ⟨34, 2, some ⟨q, 0, none⟩, 1, 1, OE.enc x⟩, ⟨34, 2, some ⟨p, 0, none⟩, 1, 1, [.string (ky x), .int .i64 bv]⟩, ⟨34, 2, a10, j + 1 + (its.length - st), c10, (OE.all (its.take j) ++ OE.enc x) ++ OE.all (its.drop st)⟩]) := by
            refine Lib.hid ?_
            intro a11 a12 c11 c12 W8 W9 ⟨k8, g8⟩ hg
            have := k8.size
            obtain ⟨g9, k9⟩ := (g8.quiet (Keep.alloc _ _ (.cells [Value.bool f].toArray 4))).grow (by simp; omega) 2 rfl hg rfl
            exact ⟨(k8.al _).trans k9 fun c o hc h => absurd h (by omega), by simpa [List.set] using g9⟩
          have hone2 : ∀ u ∈ [Value.bool f], u.oneCell' = true := by intro u hu; simp at hu; subst hu; rfl
          have h7 : i ≤ c7 := (A7.out.acc 2 _ rfl).le
          clear A7 A7a
          go_wp2_with (first
            | (at_builtin; refine wpList_append_src rfl _ _ _ rfl 34 2 24 Try.underlying29 elemO a5 i c5 cs5 (by rfl) hro hln (some ⟨wc.heap.size, 0, none⟩) 1 1 [.string (ky x), .int .i64 bv] (by rfl) (by omega) rfl hnew hone h5 (by simp only [maxLen]; omega) (by omega) ?_; intro a11 c11 W8 hg; have F8 := Lib.hid (HN8.out a11 c11 W8 hg); have hro8 := ((F8.out.2.quiet (Keep.alloc _ _ (.cells [Value.bool f].toArray 4))).acc 2 _ rfl).row; have hln8 := ((F8.out.2.quiet (Keep.alloc _ _ (.cells [Value.bool f].toArray 4))).acc 2 _ rfl).len; have hnew8 := new_given W8 [Value.bool f] 4; clear hg)
            | (at_builtin; refine wpList_append_src rfl _ _ _ rfl 4 1 1 Try.underlying24 elemBool a7 i c7 cs7 (by rfl) hro8 hln8 (some ⟨W8.heap.size, 0, none⟩) 1 1 [.bool f] (by rfl) (by omega) rfl hnew8 hone2 h7 (by simp only [maxLen]; omega) (by omega) ?_; intro a12 c12 W9 hg; have F9 := Lib.hid (HN9.out a11 a12 c11 c12 W8 W9 F8.out hg); clear hg))
          go_roundg (l.length - i)
          case measure => omega
          case rel =>
            have e : OE.all (its.take j ++ x :: its.drop st) = (OE.all (its.take j) ++ OE.enc x) ++ OE.all (its.drop st) := by rw [Enc.all_append, Enc.all_cons, List.append_assoc]
            have e2 : (its.take j ++ x :: its.drop st).length = j + 1 + (its.length - st) := by simp; omega
            refine ⟨i + 1, its.take j ++ x :: its.drop st, a11, a10, a12, c11, c10, c12, cs5 ++ [.string (ky x), .int .i64 bv], cs7 ++ [.bool f], rfl, by rw [e2], rfl, by go_num, by omega, by omega, F9.out.1, ?_, ?_⟩
            · rw [e, e2]
              refine F9.out.2.sub (fun k => if k = 1 then 5 else k) (fun k r hk => ?_) (fun a b ha hb hab => ?_)
              · match k, hk with
                | 0, hk => exact hk
                | 1, hk => exact hk
                | 2, hk => exact hk
              · simp only [List.length_cons, List.length_nil] at ha hb
                try simp only at hab
                split at hab <;> split at hab <;> omega
            · rw [sortK_snoc l HX.out, ← EI.out, HPUT.out]
    · have hi : i = l.length := by omega
      subst hi
      go_wp2_with fail
      go_ret3
      have hits := HA.out.its
      rw [List.take_of_length_le (Nat.le_refl _)] at hits
      subst hits
      exact ⟨_, _, a6, c6, rfl, HA.out.rows.acc 1 _ rfl, HA.out.keep⟩
end Go.Proofs.Ytfikahgofapobaa.W

namespace Go.Proofs.Ytfikahgofapobaa.W
open Go.RowKit Go.Wb

theorem len_any {w : World} {b : Nat} {hr : HRec} (hh : Hdr w b hr) : Calls Try.prog 135 #[ptr b] w fun e w' => e = .returned (.int .i64 hr.cnt) ∧ w = w' := by
  have c3 := hdr_cnt hh
  clear hh
  unfold ptr
  go_enter Try.func135, Try.ntmps135
  go_wp2
  go_ret
  exact ⟨rfl, rfl⟩

/-- What Keys returns: a slice of its own of the keys. -/
def NewKeys (w : World) (xs : List Ky) (e : Ending) (w' : World) : Prop := ∃ a cap, e = .returned (.slice a xs.length cap) ∧ Acc w.heap.size w' 9 1 a xs.length cap (xs.map kv) ∧ Keep Nothing w w'

set_option maxRecDepth 100000 in
set_option maxHeartbeats 4000000 in
theorem mapKeys_any {w : World} {b : Nat} {hr : HRec} {H : Store It} {L : Nat → Lay} {F : List Nat} {mn mx : Nat} {s : Sh} (T : TreeAt w b hr H L F mn mx s) (hb : (its s).length ≤ 4000000000000) :
    Calls Try.prog 82 #[ptr b] w (NewKeys w ((its s).map ky)) := by
  have HT := Lib.hid T
  have hln := len_any T.hdr
  rw [T.cnt] at hln
  obtain ⟨cs, hcs, hmk⟩ := run_make0 (P := Try.prog) 22 9 1 16 Try.underlying22 elemK 0 (its s).length (by omega) (by omega) (by omega)
  have hmk' : ∀ w, (Instr.makeSlice 22 (.int .i64 0) (.int .i64 ((its s).length : Int))).run Try.prog w = .ok (.slice (some ⟨w.heap.size, 0, none⟩) 0 (its s).length) (w.alloc (.cells cs 9)) := fun w => hmk w
  have HCS := Lib.hid hcs
  clear hmk hcs T
  unfold ptr at *
  go_enter Try.func82, Try.ntmps82
  go_wp2_with fail
  refine hln.mono ?_
  rintro e w1 ⟨rfl, rfl⟩
  go_upto_region 2 with (fail)
  refine wp_world ?_
  intro W1 hW1
  have K1 : Hid (Keep Nothing w W1) := by subst hW1; exact (Keep.refl _ _).al _
  have KB1 : Hid (Keep (fun b _ => w.heap.size ≤ b) w W1) := by exact K1.out.mono fun _ _ _ h => h.elim
  have A1 : Hid (Acc w.heap.size W1 9 1 (some ⟨w.heap.size, 0, none⟩) 0 (its s).length []) := by
    subst hW1
    exact ⟨.inr ⟨_, 0, cs, rfl, heap_alloc_new w _, by simp, by rw [HCS.out]; omega, by simp⟩, rfl, Nat.zero_le _, fun c o hf => Nat.le_of_eq (rowFp_some hf).1.symm⟩
  have H1 : Hid (Hdr W1 b hr) := by exact blk_keep HT.out.hdr K1.out fun _ h => h
  clear hW1 hmk' hln
  have c2 := hdr_root H1.out
  have fz := hdr_fz H1.out
  cases s with
  | none =>
    obtain ⟨hroot, _⟩ := HT.out.root
    rw [hroot] at c2
    simp only [rootV, Option.map_none] at c2
    clear hroot
    go_wp2_with fail
    go_ret
    exact ⟨_, _, rfl, A1.out, K1.out⟩
  | some p =>
    obtain ⟨h, t⟩ := p
    obtain ⟨n, hroot, rep, wf⟩ := HT.out.root
    rw [hroot] at c2
    simp only [rootV, Option.map_some] at c2
    have hcall := Lib.hid (keys_any HT.out.mem HT.out.par.hb w.heap.size rfl h 1 n t F rep wf W1 KB1.out _ _ [] A1.out (by simpa [its] using hb))
    clear hroot rep wf
    unfold ptr at hcall
    go_wp2_with fail
    refine hcall.out.mono ?_
    rintro e w2 ⟨a, cap, rfl, hA, hK⟩
    have HA := Lib.hid hA
    have HK := Lib.hid hK
    clear hA hK hcall c2 fz
    go_wp2_with fail
    go_ret
    exact ⟨a, cap, by simp [its], by simpa [its] using HA.out, (KB1.out.trans HK.out fun _ _ _ h => h).mono fun b o hb h => by omega⟩
end Go.Proofs.Ytfikahgofapobaa.W

namespace Go.Proofs.Ytfikahgofapobaa.W
open Go.RowKit Go.Wb

/-- A tree that was made since w. -/
structure NewTree (w w' : World) (b : Nat) (hr : HRec) (H : Store It) (L : Nat → Lay) (F : List Nat) (mn mx : Nat) (s : Sh) : Prop where
  tree : TreeAt w' b hr H L F mn mx s
  keep : Keep Nothing w w'
  head : w.heap.size ≤ b
  nodes : ∀ m r c o, H m = some r → fp TT m r (L m) c o → w.heap.size ≤ c

theorem NewTree.step {w wr w' : World} {b : Nat} {hr hr' : HRec} {H H' : Store It} {L L' : Nat → Lay} {F F' : List Nat} {mn mx : Nat} {s s' : Sh} (h : NewTree w wr b hr H L F mn mx s) (ts : TStep TT E (fun c _ => c = b) wr H L F w' H' L' F') (T : TreeAt w' b hr' H' L' F' mn mx s') : NewTree w w' b hr' H' L' F' mn mx s' := by
  refine ⟨T, h.keep.trans ts.keep fun c o hc hs => ?_, h.head, fun m r c o hr hf => ?_⟩
  · rcases hs with ⟨m, r, _, hr, hf⟩ | rfl
    · have := h.nodes m r c o hr hf; omega
    · have := h.head; omega
  · rcases ts.only m r hr with h1 | ⟨_, h2, h3⟩
    · rcases Nat.lt_or_ge c wr.heap.size with hc | hc
      · obtain ⟨k, q, _, hq, hfq⟩ := ts.fp c o hc ⟨m, r, h1, hr, hf⟩
        exact h.nodes k q c o hq hfq
      · exact Nat.le_trans h.keep.size hc
    · rw [h3] at hf
      exact h.nodes m r c o h2 hf

theorem NewTree.calm {w wr w' : World} {b : Nat} {hr : HRec} {H : Store It} {L : Nat → Lay} {F : List Nat} {mn mx : Nat} {s : Sh} (h : NewTree w wr b hr H L F mn mx s) (hk : Keep Nothing wr w') : NewTree w w' b hr H L F mn mx s :=
  ⟨h.tree.keep hk, h.keep.trans hk fun _ _ _ h => h, h.head, h.nodes⟩

def zeroHdr : HRec := ⟨0, none, none, 0, ((⟨#[]⟩ : ByteArray), 0), 0, 0, false, false⟩
theorem mem_empty (w : World) (L : Nat → Lay) : Mem TT E w (fun _ => none) L := ⟨fun n r h => (by cases h), fun n m r q _ h => (by cases h)⟩
/-- A zero tree. -/
theorem newTree_zero {w : World} {b : Nat} (hb : Hdr w b zeroHdr) {w0 : World} (hk : Keep Nothing w0 w) (h0 : w0.heap.size ≤ b) : NewTree w0 w b zeroHdr (fun _ => none) (fun _ => ⟨none, 0, 0, none, 0⟩) [] 31 63 none :=
  ⟨⟨hb, mem_empty _ _, by simp, ⟨rfl, rfl⟩, rfl, by simp [its, Sorted], ⟨rfl, rfl, .inr ⟨rfl, rfl, rfl, rfl⟩, by omega, by omega, by omega⟩⟩, hk, h0, fun m r c o h => by cases h⟩

end Go.Proofs.Ytfikahgofapobaa.W

namespace Go.Proofs.Ytfikahgofapobaa.W
open Go.RowKit Go.Wb

def NewMapPost (w : World) (d : Int) (e : Ending) (w' : World) : Prop := ∃ b hr, e = .returned (ptr b) ∧ NewTree w w' b hr (fun _ => none) (fun _ => ⟨none, 0, 0, none, 0⟩) [] (d - 1).toNat (2 * d - 1).toNat none ∧ hr.emp = zeroHdr.emp
set_option maxHeartbeats 1000000 in
theorem newMap_any (w : World) (d : Int) (h1 : 2 ≤ d) (h2 : d ≤ 128) : Calls Try.prog 128 #[.int .i64 d] w (NewMapPost w d) := by
  have hmx : mxOf d = d * 2 - 1 := by unfold mxOf; rw [if_neg (by omega), if_neg (by omega)]
  have hmn : mxOf d / 2 = d - 1 := by rw [hmx]; omega
  have HMX := Lib.hid hmx
  have HMN := Lib.hid hmn
  clear hmx hmn
  go_enter Try.func128, Try.ntmps128
  go_upto_region 2 with (fail)
  refine wp_world ?_
  intro W1 hW1
  have K1 : Hid (Keep Nothing w W1) := by subst hW1; exact (Keep.refl _ _).al _
  have hb : Hdr W1 w.heap.size zeroHdr := by subst hW1; have := heap_alloc_new w (.cells (hdrC zeroHdr) 177); exact this
  have hin := Lib.hid (init_new hb d (by omega) (by omega) rfl)
  have HQ : Hid (w.heap.size ≤ w.heap.size) := Lib.hid (Nat.le_refl _)
  generalize hq : w.heap.size = b at *
  clear hW1 hb
  unfold ptr at hin
  go_wp2_with fail
  refine hin.out.mono ?_
  rintro e W2 ⟨rfl, h7, k7⟩
  have H7 := Lib.hid h7
  have K7 := Lib.hid k7
  have HQ2 := Lib.hid hq
  clear hin h7 k7 hq
  go_wp2_with fail
  go_ret
  refine ⟨b, _, rfl, ⟨⟨H7.out, mem_empty _ _, by simp, ⟨rfl, rfl⟩, rfl, by simp [its, Sorted], ⟨rfl, rfl, .inl ⟨?_, ?_⟩, by omega, by omega, by omega⟩⟩, ?_, by rw [HQ2.out]; exact Nat.le_refl _, fun m r c o h => by cases h⟩, rfl⟩
  · show mxOf d / 2 = _; rw [HMN.out]; omega
  · show mxOf d = _; rw [HMX.out]; omega
  · exact K1.out.trans K7.out fun c o hc (h : c = b) => by have := HQ2.out; omega

/-- A map that was made of words. -/
def GrowPost (w : World) (d : Int) (l : List It) (e : Ending) (w' : World) : Prop := ∃ b hr H L F s, e = .returned (ptr b) ∧ NewTree w w' b hr H L F (d - 1).toNat (2 * d - 1).toNat s ∧ its s = sortK l ∧ hr.emp = zeroHdr.emp

set_option maxRecDepth 100000 in
set_option maxHeartbeats 4000000 in
theorem grow_any {w : World} {a : Option Addr} {cap : Nat} {l : List It} (hg : Given w a (OE.all l)) (hl : l.length ≤ 4000000000000) (d : Int) (h1 : 2 ≤ d) (h2 : d ≤ 128) :
    Calls Try.prog 73 #[.int .i64 d, .slice a l.length cap] w (GrowPost w d l) := by
  have HG := Lib.hid hg
  have HL := Lib.hid hl
  have hnm := Lib.hid (newMap_any w d h1 h2)
  clear hg hl
  go_enter Try.func73, Try.ntmps73
  go_wp2_with fail
  refine hnm.out.mono ?_
  rintro e W1 ⟨b, hr0, rfl, hN0, he0⟩
  have HN0 := Lib.hid hN0
  have HE0 := Lib.hid he0
  clear hnm hN0 he0
  unfold ptr
  go_wp2_with fail
  go_loopg [12] (l.length + 1) (fun k v12 wr => ∃ (i : Nat) (hr : HRec) (H : Store It) (L : Nat → Lay) (F : List Nat) (s : Sh), v12 = .int .i64 i ∧ i ≤ l.length ∧ i + k = l.length + 1 ∧ NewTree w wr b hr H L F (d - 1).toNat (2 * d - 1).toNat s ∧ its s = sortK (l.take i) ∧ hr.emp = zeroHdr.emp)
  case atStart => exact ⟨0, _, _, _, _, _, rfl, by omega, by omega, HN0.out, by simp [its, sortK], HE0.out⟩
  case round =>
    obtain ⟨i, hr, H, L, F, s, rfl, hil, hik, hN, hits, hemp⟩ := hrel
    have HN := Lib.hid hN
    have HI := Lib.hid hits
    have HEM := Lib.hid hemp
    clear hN hits hemp
    by_cases hlt : i < l.length
    · have hx : l[i]? = some l[i] := List.getElem?_eq_getElem hlt
      generalize l[i] = x at *
      have HX := Lib.hid hx
      obtain ⟨b0, o0, ha, x0, x1⟩ := word_cell (HG.out.keep HN.out.keep) hx
      subst ha
      have hll := HL.out
      have hlen : Hid ((its s).length ≤ 3000000000000000000) := Lib.hid (by rw [HI.out]; have := sortK_len (l.take i); simp at this; omega)
      clear hx
      unfold kv at *
      go_upto_region 5 with (fail)
      refine wp_world ?_
      intro W2 hW2
      have k2 : Keep Nothing wr W2 := by subst hW2; exact (Keep.refl _ _).al _
      have X2 : W2.heap[wr.heap.size]? = some (.cells (OE.enc x).toArray 34 (0, 0)) := by subst hW2; exact heap_alloc_new wr _
      have HN2 := Lib.hid (HN.out.calm k2)
      obtain ⟨xk, xv, _⟩ := blk2 X2
      have hset := Lib.hid (set_tree HN2.out.tree hlen.out x)
      generalize wr.heap.size = q at *
      clear hW2 k2 X2 HN x0 x1
      unfold kv ptr vv at *
      go_wp2_with fail
      refine hset.out.mono ?_
      rintro e W3 ⟨hr', H', L', F', s', p, rfl, t1, t2, t3, t4, t5, t6, _⟩
      have HN3 := Lib.hid (HN2.out.step t1 t2)
      have HP := Lib.hid t3
      have HEM3 := Lib.hid (t6.trans HEM.out)
      clear t1 t2 t3 t4 t5 t6 hset xk xv HN2 HEM
      unfold vv
      go_wp2_with fail
      go_roundg (l.length - i)
      case measure => omega
      case rel => exact ⟨i + 1, hr', H', L', F', s', by go_num, by omega, by omega, HN3.out, by rw [(HP.out.eq iord).1, HI.out, sortK_snoc l HX.out], HEM3.out⟩
    · have hi : i = l.length := by omega
      subst hi
      go_wp2_with fail
      go_ret
      refine ⟨b, hr, H, L, F, s, rfl, HN.out, ?_, HEM.out⟩
      rw [HI.out, List.take_of_length_le (Nat.le_refl _)]

theorem grow_len {l : List It} {s : Sh} (h : its s = sortK l) : (its s).length ≤ l.length := by rw [h]; exact sortK_len l
end Go.Proofs.Ytfikahgofapobaa.W

namespace Go.Proofs.Ytfikahgofapobaa.W
open Go.RowKit Go.Wb

/-- What is left behind the handing on, out of the list at block ob. -/
theorem out_words {w w0 w' : World} {ob : Nat} {xs : List It} (hk : Keep Nothing w w0) (hob : w.heap.size ≤ ob) (hJ : OutJ w0 ob xs w') : ∃ a cap, w'.heap[ob]? = some (.cells #[.slice a xs.length cap] 29 (0, 0)) ∧ Acc w.heap.size w' 34 2 a xs.length cap (OE.all xs) ∧ Keep Nothing w w' := by
  obtain ⟨h1, a, cap, h2, h3⟩ := hJ
  refine ⟨a, cap, h2, ⟨h3.row, h3.len, h3.le, fun b o hf => Nat.le_trans hk.size (h3.own b o hf)⟩, hk.trans h1 fun c o hc (h : c = ob) => ?_⟩
  omega

set_option maxHeartbeats 2000000 in
theorem all_any {w : World} {b : Nat} {hr : HRec} {H : Store It} {L : Nat → Lay} {F : List Nat} {mn mx : Nat} {s : Sh} (T : TreeAt w b hr H L F mn mx s) (hl : (its s).length ≤ 4000000000000) :
    Calls Try.prog 96 #[ptr b] w (NewWords w (its s)) := by
  have HT := Lib.hid T
  have HL := Lib.hid hl
  have hbw := lt_of_heap T.hdr
  clear T hl
  unfold ptr at *
  go_enter Try.func96, Try.ntmps96
  go_upto_region 2 with (fail)
  refine wp_world ?_
  intro W1 hW1
  have k1 : Hid (Keep Nothing w W1) := by subst hW1; exact (Keep.refl _ _).al _
  have O1 : Hid (W1.heap[w.heap.size]? = some (.cells #[.slice none 0 0] 29 (0, 0))) := by subst hW1; exact heap_alloc_new w _
  have HQ : Hid (w.heap.size ≤ w.heap.size) := Lib.hid (Nat.le_refl _)
  generalize hq : w.heap.size = ob at *
  have HQE := Lib.hid hq
  clear hW1 hq
  have hh := Lib.hid (hander_any (lt_of_heap O1.out) 0)
  unfold ptr at hh
  go_wp2_with fail
  refine hh.out.mono ?_
  rintro e W2 ⟨kf, kt, kn, rfl, k2, hd⟩
  have K2 : Hid (Keep Nothing w W2) := by exact k1.out.trans k2 fun _ _ _ h => h
  have O2 := Lib.hid (blk_keep O1.out k2 fun _ h => h)
  have hP : HandPre W2 W2 b hr H L F mn mx s 131 #[ptr kf] (upTo 0) (OutJ W2 ob) (fun c _ => c = ob) 4000000000000 :=
    ⟨HT.out.keep K2.out, hands_of hd (by omega) (by omega), fun _ h => by omega, fun n r c o hn hf h => by have := (HT.out.mem.at_ n r hn).lt hf; have := HQE.out; omega, HL.out, outJ_start O2.out⟩
  have hsc := Lib.hid (mapScan_any hP)
  clear hh k2 hd hP k1 O1
  unfold ptr at *
  go_wp2_with fail
  refine hsc.out.mono ?_
  rintro e W3 ⟨rfl, hJ⟩
  rw [handOn_first] at hJ
  obtain ⟨a, cap, h1, h2, h3⟩ := out_words K2.out (by have := HQE.out; omega) hJ
  have co := (blk1 h1).1
  have H2 := Lib.hid h2
  have H3 := Lib.hid h3
  clear hJ h1 h2 h3 hsc
  go_wp2_with fail
  go_ret
  exact ⟨a, cap, rfl, H2.out, H3.out⟩
end Go.Proofs.Ytfikahgofapobaa.W

namespace Go.Proofs.Ytfikahgofapobaa.W
open Go.RowKit Go.Wb

set_option maxHeartbeats 1000000 in
theorem words_any {w : World} {a : Option Addr} {cap : Nat} {l : List It} (h1 : Given w a (OE.all l)) (hl : l.length ≤ 4000000000000) : Calls Try.prog 78 #[.slice a l.length cap] w (NewWords w (sortK l)) := by
  have hw := Lib.hid (wset_any (cap := cap) h1 hl)
  clear h1
  go_enter Try.func78, Try.ntmps78
  go_wp2_with fail
  refine hw.out.mono ?_
  rintro e w' ⟨v1, v2, a6, c6, rfl, hA, hK⟩
  have HA := Lib.hid hA
  have HK := Lib.hid hK
  clear hA hK hw
  go_wp2_with fail
  go_ret
  exact ⟨a6, c6, rfl, HA.out, HK.out⟩

theorem firstN_len (n : Int) (l : List It) : (firstN n l).length ≤ l.length := by unfold firstN; split <;> simp <;> omega
theorem firstN_given {w : World} {a : Option Addr} {l : List It} (n : Int) (h : Given w a (OE.all l)) : Given w a (OE.all (firstN n l)) := by
  unfold firstN
  split
  · exact h
  · rw [out_take]; exact h.take _
def FirstPost (w : World) (a : Option Addr) (n : Int) (l : List It) (cap : Nat) (e : Ending) (w' : World) : Prop := e = .returned (.slice a (firstN n l).length cap) ∧ w = w'
set_option maxHeartbeats 1000000 in
theorem first_any {w : World} {a : Option Addr} {cap : Nat} {l : List It} (n : Int) (_hl : l.length ≤ 4000000000000) (hc : l.length ≤ cap) : Calls Try.prog 76 #[.slice a l.length cap, .int .i64 n] w (FirstPost w a n l cap) := by
  by_cases h1 : n < 1
  · have hf : firstN n l = l := by simp [firstN, h1]
    rw [show FirstPost w a n l cap = fun e w' => FirstPost w a n l cap e w' from rfl]
    have HF := Lib.hid hf
    clear hf
    go_enter Try.func76, Try.ntmps76
    go_wp2_with fail
    go_ret
    unfold FirstPost
    rw [HF.out]
    exact ⟨rfl, rfl⟩
  · by_cases h2 : (l.length : Int) < n
    · have hf : firstN n l = l := by simp only [firstN, h1, if_false]; exact List.take_of_length_le (by omega)
      have HF := Lib.hid hf
      clear hf
      go_enter Try.func76, Try.ntmps76
      go_wp2_with fail
      go_ret
      unfold FirstPost
      rw [HF.out]
      exact ⟨rfl, rfl⟩
    · obtain ⟨m, rfl⟩ : ∃ m : Nat, n = (m : Int) := ⟨n.toNat, by omega⟩
      have hf : (firstN (m : Int) l).length = m := by simp only [firstN, h1, if_false, List.length_take]; simp; omega
      have hml : m ≤ l.length := by omega
      have HF := Lib.hid hf
      clear hf
      go_enter Try.func76, Try.ntmps76
      go_wp2_with fail
      go_ret
      unfold FirstPost
      rw [HF.out]
      exact ⟨rfl, rfl⟩

theorem rev_take {α : Type} {l : List α} {j : Nat} {x : α} (h : l[j]? = some x) : (l.drop j).reverse = (l.drop (j + 1)).reverse ++ [x] := by
  obtain ⟨hj, rfl⟩ := List.getElem?_eq_some_iff.1 h
  rw [List.drop_eq_getElem_cons hj]; simp
set_option maxRecDepth 100000 in
set_option maxHeartbeats 4000000 in
theorem turned_any {w : World} {a : Option Addr} {cap : Nat} {l : List It} (h1 : Given w a (OE.all l)) (hl : l.length ≤ 4000000000000) : Calls Try.prog 77 #[.slice a l.length cap] w (NewWords w l.reverse) := by
  have H1 := Lib.hid h1
  clear h1
  go_enter Try.func77, Try.ntmps77
  go_wp2_with fail
  go_loopg [3, 4] (l.length + 1) (fun k v3 v4 wr => ∃ (i n : Nat) (z : Int) (a1 : Option Addr) (c1 : Nat), v4 = .int .i64 z ∧ z + 1 = i ∧ i ≤ l.length ∧ i < k ∧ n + i = l.length ∧ v3 = .slice a1 n c1 ∧ Keep Nothing w wr ∧ Acc w.heap.size wr 34 2 a1 n c1 (OE.all (l.drop i).reverse))
  case atStart => exact ⟨l.length, 0, _, none, 0, rfl, by omega, by omega, by omega, by omega, rfl, Keep.refl _ _, by rw [List.drop_eq_nil_of_le (Nat.le_refl _)]; exact Acc.nil _ _ _ _⟩
  case round =>
    obtain ⟨i, n, z, a1, c1, rfl, hzi, hil, hik, hni, rfl, hK, hA⟩ := hrel
    have HK := Lib.hid hK
    have HA := Lib.hid hA
    have HNI := Lib.hid hni
    clear hK hA hni
    cases i with
    | succ j =>
      obtain rfl : z = (j : Int) := by omega
      have hlt : j < l.length := by omega
      have hx : l[j]? = some l[j] := List.getElem?_eq_getElem hlt
      generalize l[j] = x at *
      have HX := Lib.hid hx
      obtain ⟨b0, o0, ha, x0, x1⟩ := word_cell (H1.out.keep HK.out) hx
      subst ha
      have hsz := HK.out.size
      have hnl : n ≤ 4000000000000 := by have := HNI.out; omega
      clear hx hzi
      unfold kv at *
      go_wp2_with (at_builtin; refine wpList_append_any rfl _ _ _ rfl 34 2 24 Try.underlying29 elemO a1 n c1 _ rfl (HA.out.quiet (Keep.alloc _ _ _)).row HA.out.len ⟨wr.heap.size, 0, none⟩ 1 1 (OE.enc x) rfl rfl (new_cells (heap_alloc_new wr _)) (OE.one _) (by omega) HA.out.le (by simp only [maxLen]; omega) (by omega) ?_; intro a2 c2 w2 hg)
      obtain ⟨hA2, hK2⟩ := (HA.out.quiet (Keep.alloc _ _ _)).grow (by simp; omega) hg rfl
      have HA2 := Lib.hid hA2
      have HK2 : Hid (Keep Nothing w w2) := by exact (HK.out.al _).trans hK2 fun c o hc h => absurd h (by omega)
      clear hg hA2 hK2 x0 x1
      go_wp2_with fail
      go_roundg (j + 1)
      case measure => omega
      case rel =>
        refine ⟨j, n + 1, _, a2, c2, rfl, by omega, by omega, by omega, by have := HNI.out; omega, rfl, HK2.out, ?_⟩
        have := HA2.out
        rw [rev_take HX.out, Enc.all_append]
        simpa [Enc.all] using this
    | zero =>
      obtain rfl : z = -1 := by omega
      go_wp2_with fail
      go_ret
      have := HNI.out
      have e : n = l.reverse.length := by simp; omega
      rw [e] at HA ⊢
      exact ⟨a1, c1, rfl, by have := HA.out; simpa using this, HK.out⟩

/-- A list that reads so, made since w. -/
def ReadWords (w : World) (xs : List It) (e : Ending) (w' : World) : Prop := ∃ a cap, e = .returned (.slice a xs.length cap) ∧ Given w' a (OE.all xs) ∧ Keep Nothing w w'
theorem NewWords.reads {w : World} {xs : List It} {e : Ending} {w' : World} (h : NewWords w xs e w') : ReadWords w xs e w' := by
  obtain ⟨a, cap, rfl, h1, h2⟩ := h
  exact ⟨a, cap, rfl, h1.row.reads, h2⟩
end Go.Proofs.Ytfikahgofapobaa.W

namespace Go.Proofs.Ytfikahgofapobaa.W
open Go.RowKit Go.Wb

abbrev most : Nat := 2147483647
def TruePost (w : World) (e : Ending) (w' : World) : Prop := e = .returned (.bool true) ∧ Keep Nothing w w'
def SayPost (w : World) (b : Bool) (e : Ending) (w' : World) : Prop := e = .returned (.bool b) ∧ Keep Nothing w w'
def fitsB (l : List It) : Bool := decide (l.length ≤ most) && l.all fun x => decide ((ky x).size ≤ most)
theorem fitsB_true {l : List It} : fitsB l = true ↔ l.length ≤ most ∧ ∀ (i : Nat) x, l[i]? = some x → (ky x).size ≤ most := by
  simp only [fitsB, Bool.and_eq_true, decide_eq_true_eq, List.all_eq_true]
  exact and_congr_right fun _ => ⟨fun h i s hi => h s (List.mem_of_getElem? hi), fun h s hs => by obtain ⟨i, hi⟩ := List.mem_iff_getElem?.1 hs; exact h i s hi⟩

set_option maxHeartbeats 1000000 in
theorem fits9_any (w : World) (x : It) (b : Bool) (hb : decide ((ky x).size ≤ most) = b) : Calls Try.prog 71 #[.agg #[kv (ky x), .int .i64 x.2]] w (SayPost w b) := by
  unfold kv
  by_cases h : (ky x).size ≤ 2147483647
  · obtain rfl : b = true := by rw [← hb]; simpa using h
    clear hb
    go_enter Try.func71, Try.ntmps71
    go_wp2_with fail
    go_ret
    exact ⟨rfl, (Keep.refl _ _).al _⟩
  · obtain rfl : b = false := by rw [← hb]; simpa using h
    clear hb
    go_enter Try.func71, Try.ntmps71
    go_wp2_with fail
    go_ret
    exact ⟨rfl, (Keep.refl _ _).al _⟩

set_option maxRecDepth 100000 in
set_option maxHeartbeats 2000000 in
theorem fits8_any {w : World} {a : Option Addr} {cap : Nat} {l : List It} (hg : Given w a (OE.all l)) (hl : l.length ≤ maxLen) :
    Calls Try.prog 19 #[.slice a l.length cap] w (SayPost w (fitsB l)) := by
  have HG := Lib.hid hg
  simp only [maxLen] at hl
  clear hg
  by_cases hbig : l.length ≤ 2147483647
  · go_enter Try.func19, Try.ntmps19
    go_wp2_with fail
    go_loopg [10] (l.length + 1) (fun k v10 wr => ∃ i : Nat, v10 = .int .i64 i ∧ i ≤ l.length ∧ i + k = l.length + 1 ∧ Keep Nothing w wr ∧ ∀ (j : Nat) (x : It), j < i → l[j]? = some x → (ky x).size ≤ most)
    case atStart => exact ⟨0, rfl, by omega, by omega, Keep.refl _ _, fun j s h => by omega⟩
    case round =>
      obtain ⟨i, rfl, hil, hik, hK, hall⟩ := hrel
      have HA := Lib.hid hall
      have HK := Lib.hid hK
      clear hall hK
      by_cases hlt : i < l.length
      · have hx : l[i]? = some l[i] := List.getElem?_eq_getElem hlt
        generalize l[i] = x at *
        have HX := Lib.hid hx
        obtain ⟨b0, o0, ha, x0, x1⟩ := word_cell (HG.out.keep HK.out) hx
        subst ha
        obtain ⟨b, hb⟩ : ∃ b, decide ((ky x).size ≤ most) = b := ⟨_, rfl⟩
        have HB := Lib.hid hb
        clear hx hb
        unfold kv at *
        go_upto_region 6 with (fail)
        refine wp_world ?_
        intro W1 hW1
        have k1 : Keep Nothing wr W1 := by subst hW1; exact (Keep.refl _ _).al _
        have X1 : W1.heap[wr.heap.size]? = some (.cells (OE.enc x).toArray 34 (0, 0)) := by subst hW1; exact heap_alloc_new wr _
        obtain ⟨xk, xv, _⟩ := blk2 X1
        have HK1 : Hid (Keep Nothing w W1) := by exact HK.out.trans k1 fun _ _ _ h => h
        generalize wr.heap.size = q at *
        have hf := Lib.hid (fits9_any W1 x b HB.out)
        clear hW1 k1 X1 HK x0 x1
        unfold kv at *
        cases b with
        | true =>
          go_wp2_with fail
          refine hf.out.mono ?_
          rintro e w2 ⟨rfl, hk2⟩
          have HK2 : Hid (Keep Nothing w w2) := by exact HK1.out.trans hk2 fun _ _ _ h => h
          clear hk2 hf xk xv
          go_wp2_with fail
          go_roundg (l.length - i)
          case measure => omega
          case rel =>
            refine ⟨i + 1, by go_num, by omega, by omega, HK2.out, fun j s' hj hs' => ?_⟩
            by_cases hji : j = i
            · subst hji
              have := HX.out
              rw [hs'] at this
              cases this
              exact of_decide_eq_true HB.out
            · exact HA.out j s' (by omega) hs'
        | false =>
          go_wp2_with fail
          refine hf.out.mono ?_
          rintro e w2 ⟨rfl, hk2⟩
          have HK2 : Hid (Keep Nothing w w2) := by exact HK1.out.trans hk2 fun _ _ _ h => h
          clear hk2 hf xk xv
          go_wp2_with fail
          go_ret
          have : fitsB l = false := by
            rw [← Bool.not_eq_true, fitsB_true]
            exact fun h => of_decide_eq_false HB.out (h.2 i x HX.out)
          rw [this]
          exact ⟨rfl, HK2.out⟩
      · have hi : i = l.length := by omega
        subst hi
        go_wp2_with fail
        go_ret
        have : fitsB l = true := fitsB_true.2 ⟨hbig, fun i s hs => HA.out i s (List.getElem?_eq_some_iff.1 hs).1 hs⟩
        rw [this]
        exact ⟨rfl, HK.out⟩
  · go_enter Try.func19, Try.ntmps19
    go_wp2
    go_ret
    have : fitsB l = false := by
      rw [← Bool.not_eq_true, fitsB_true]
      exact fun h => hbig h.1
    rw [this]
    exact ⟨rfl, Keep.refl _ _⟩

/-- The degrees of which the laws speak. -/
def fitD (d : Int) : Bool := decide (2 ≤ d) && decide (d ≤ 128)
set_option maxHeartbeats 1000000 in
theorem specFits_any (w : World) (d : Int) (h0 : 1 ≤ d) (b : Bool) (hb : fitD d = b) : Calls Try.prog 72 #[.int .i64 d] w fun e w' => e = .returned (.bool b) ∧ w = w' := by
  have hd : ((d : Int) == 0) = false := by simp; omega
  by_cases h1 : 2 ≤ d
  · by_cases h2 : d ≤ 128
    · obtain rfl : b = true := by rw [← hb]; simp [fitD, h1, h2]
      clear hb
      go_enter Try.func72, Try.ntmps72
      go_wp2_with fail
      go_ret
      exact ⟨by first | rfl | simp [h1, h2], rfl⟩
    · obtain rfl : b = false := by rw [← hb]; simp [fitD, h2]
      clear hb
      go_enter Try.func72, Try.ntmps72
      go_wp2_with fail
      go_ret
      exact ⟨by first | rfl | simp [h2], rfl⟩
  · obtain rfl : b = false := by rw [← hb]; simp [fitD, h1]
    clear hb
    go_enter Try.func72, Try.ntmps72
    go_wp2_with fail
    go_ret
    exact ⟨by first | rfl | simp [h1], rfl⟩
set_option maxHeartbeats 1000000 in
theorem fit_any (w : World) (d : Int) (b : Bool) (hb : fitD d = b) : Calls Try.prog 20 #[.int .i64 d] w fun e w' => e = .returned (.bool b) ∧ w = w' := by
  by_cases h0 : 1 ≤ d
  · have hf := Lib.hid (specFits_any w d h0 b hb)
    clear hb
    go_enter Try.func20, Try.ntmps20
    go_wp2_with fail
    refine hf.out.mono ?_
    rintro e w1 ⟨rfl, rfl⟩
    go_wp2_with fail
    go_ret
    exact ⟨by first | rfl | simp, rfl⟩
  · obtain rfl : b = false := by rw [← hb]; simp [fitD]; omega
    clear hb
    go_enter Try.func20, Try.ntmps20
    go_wp2_with fail
    go_ret
    exact ⟨by first | rfl | simp, rfl⟩

set_option maxHeartbeats 1000000 in
theorem wkeys_any {w : World} {a : Option Addr} {cap : Nat} {l : List It} (hg : Given w a (OE.all l)) (hl : l.length ≤ 4000000000000) (d : Int) (h1 : 2 ≤ d) (h2 : d ≤ 128) :
    Calls Try.prog 29 #[.int .i64 d, .slice a l.length cap] w (NewKeys w ((sortK l).map ky)) := by
  have hgr := Lib.hid (grow_any (cap := cap) hg hl d h1 h2)
  have HL := Lib.hid hl
  clear hg hl
  go_enter Try.func29, Try.ntmps29
  go_wp2_with fail
  refine hgr.out.mono ?_
  rintro e w1 ⟨b, hr, H, L, F, s, rfl, hN, hits, _⟩
  have hk := Lib.hid (mapKeys_any hN.tree (Nat.le_trans (grow_len hits) HL.out))
  have HN := Lib.hid hN
  have HI := Lib.hid hits
  clear hN hits hgr
  unfold ptr at *
  go_wp2_with fail
  refine hk.out.mono ?_
  rintro e w2 ⟨a', cap', rfl, h1, h2⟩
  go_wp2_with fail
  go_ret
  rw [HI.out] at h1 ⊢
  exact ⟨a', cap', by simp, ⟨h1.row, h1.len, h1.le, fun b o hf => Nat.le_trans HN.out.keep.size (h1.own b o hf)⟩, HN.out.keep.trans h2 fun _ _ _ h => h⟩
end Go.Proofs.Ytfikahgofapobaa.W

namespace Go.Proofs.Ytfikahgofapobaa.W
open Go.RowKit Go.Wb

def exL : List It := [(⟨#[98]⟩, 1), (⟨#[]⟩, 2), (⟨#[97, 98]⟩, 3), (⟨#[98]⟩, 4)]
def ExPost (w : World) (e : Ending) (w' : World) : Prop := ∃ b, e = .returned (.slice (some ⟨b, 0, none⟩) 4 4) ∧ Given w' (some ⟨b, 0, none⟩) (OE.all exL) ∧ Keep Nothing w w'
theorem exWords_any (w : World) : Calls Try.prog 79 #[] w (ExPost w) := by
  go_enter Try.func79, Try.ntmps79
  go_wp2_with fail
  go_ret
  exact ⟨w.heap.size, rfl, new_given w (OE.all exL) 34, (Keep.refl _ _).al _⟩

set_option maxRecDepth 100000 in
/-- aliveW: at a map of three words. -/
theorem aliveW_any (w : World) : Calls Try.prog 24 #[] w (TruePost w) := by
  have hK : ∀ W a cap, Given W a (OE.all (exL.take 3)) → Calls Try.prog 29 #[.int .i64 2, .slice a 3 cap] W (NewKeys W ((sortK (exL.take 3)).map ky)) := fun W a cap h1 => wkeys_any h1 (by decide) 2 (by omega) (by omega)
  have HK := Lib.hid hK
  have hE := Lib.hid (exWords_any w)
  clear hK
  go_enter Try.func24, Try.ntmps24
  go_wp2_with fail
  refine hE.out.mono ?_
  rintro e W1 ⟨b, rfl, hG, hk⟩
  have HG : Hid (Given W1 (some ⟨b, 0, none⟩) (OE.all (exL.take 3))) := by rw [out_take]; exact hG.take _
  have HK1 := Lib.hid hk
  have HC := Lib.hid (HK.out W1 _ 4 HG.out)
  clear hk hE hG
  go_wp2_with fail
  refine HC.out.mono ?_
  rintro e W2 ⟨a', cap', rfl, _, hk⟩
  have HK2 : Hid (Keep Nothing w W2) := by exact HK1.out.trans hk fun _ _ _ h => h
  have hlen : ((sortK (exL.take 3)).map ky).length = 3 := by kernel_rfl
  rw [hlen]
  clear hk HC hlen
  go_wp2_with fail
  go_ret
  exact ⟨rfl, HK2.out⟩
end Go.Proofs.Ytfikahgofapobaa.W

namespace Go.Proofs.Ytfikahgofapobaa.W
open Go.RowKit Go.Wb

theorem take_rev {α : Type} {l : List α} {j : Nat} {x : α} (h : l[j]? = some x) : (l.take (j + 1)).reverse = x :: (l.take j).reverse := by
  rw [List.take_add_one, h]; simp
theorem lo_rev {h j : Nat} {its : List It} {ks : List (Tr It)} {k : Tr It} {x : It} (hk : ks[j]? = some k) (hx : its[j]? = some x) : (lo h its ks (j + 1)).reverse = x :: ((flat h k).reverse ++ (lo h its ks j).reverse) := by
  rw [lo_succ hk hx]; simp

set_option maxRecDepth 100000 in
set_option maxHeartbeats 8000000 in
theorem reverse_leaf {w0 w : World} {b : Nat} {hr : HRec} {pb po n : Nat} {g : FuncId} {caps : Array Value} {go : List It → Bool} {J : List It → World → Prop} {S : Nat → Nat → Prop} {N : Nat} {r : NRec It} {L : Lay}
    (HD : Hands g caps go J S w0 N) (A : Stays w0 S b hr pb po n r L) (hkn : r.kids = none) {acc : List It} (hJ : J acc w) (hN : acc.length + r.items.length ≤ N) :
    Calls Try.prog 177 #[ptr b, .pointer (some ⟨pb, po, none⟩), .func (.func g) #[] caps, .bool false] w (HandPost J (handOn go acc r.items.reverse)) := by
  have HH := Lib.hid HD
  have hcf := HD.enter
  have HA := Lib.hid A
  have HJ := Lib.hid hJ
  have hk0 := HD.keep _ _ hJ
  have hiso := Lib.hid (isoLoad_own (A.hdr w hk0) (A.cell w hk0) (A.node w hk0) A.iso false)
  have HKN := Lib.hid hkn
  have hlen := A.len
  clear HD A hJ hk0 hkn
  unfold ptr at *
  go_enter Try.func177, Try.ntmps177
  go_wp2_with fail
  refine hiso.out.mono ?_
  rintro e w1 ⟨rfl, kd, rfl⟩
  have HJ1 : Hid (J acc (w.drewN kd)) := by exact HH.out.calm _ _ _ HJ.out (Keep.drewN _ _ _)
  clear hiso HJ
  generalize w.drewN kd = w1 at *
  have N0 := HA.out.node w1 (HH.out.keep _ _ HJ1.out)
  have hlv := leaf_any N0
  obtain ⟨d0, d1, c2, d3, fz⟩ := N0.own
  rw [HKN.out] at hlv
  simp only [Option.isNone_none] at hlv
  clear d0 d1 d3 N0
  unfold ptr at *
  go_wp2_with fail
  refine hlv.mono ?_
  rintro e w2 ⟨rfl, rfl⟩
  clear hlv
  go_wp2_with fail
  clear c2 fz
  go_loopg [10] (r.items.length + 1) (fun k v10 wr => ∃ (i : Nat) (z : Int) (acc' : List It), v10 = .int .i64 z ∧ z + 1 = i ∧ i ≤ r.items.length ∧ i < k ∧ J acc' wr ∧ handOn go acc r.items.reverse = handOn go acc' (r.items.take i).reverse ∧ acc'.length + i ≤ N)
  case atStart => exact ⟨r.items.length, _, acc, rfl, by omega, by omega, by omega, HJ1.out, by rw [List.take_of_length_le (Nat.le_refl _)], hN⟩
  case round =>
    obtain ⟨i, z, acc', rfl, hzi, hil, hik, hJr, heq, hNr⟩ := hrel
    have HJr := Lib.hid hJr
    have HEQ := Lib.hid heq
    have N1 := Lib.hid (HA.out.node wr (HH.out.keep _ _ hJr))
    obtain ⟨d0, d1, c2, d3, fz⟩ := N1.out.own
    clear d0 d1 d3 hJr heq
    cases i with
    | succ j =>
      obtain rfl : z = (j : Int) := by omega
      have hlt : j < r.items.length := by omega
      have hx : r.items[j]? = some r.items[j] := List.getElem?_eq_getElem hlt
      generalize r.items[j] = x at *
      have HD := Lib.hid (take_rev hx)
      obtain ⟨ib, io, hia, ck⟩ := node_item N1.out hx
      rw [hia] at c2
      obtain ⟨ck, cv⟩ := ck
      have hcall := Lib.hid (HH.out.call acc' x wr.drew (HH.out.calm _ _ _ HJr.out (Keep.drew _ _)) (by omega))
      clear hx hia hzi
      unfold kv vv at *
      go_wp2_with fail
      refine wp_calm (by kernel_rfl) (by kernel_rfl) rfl ?_
      simp only [List.flatMap_cons, List.flatMap_nil, checks, chk, nilLit, List.cons_append, List.nil_append, List.append_nil]
      go_wp2_with fail
      cases hg : go (acc' ++ [x]) with
      | true =>
        have HG := Lib.hid hg
        rw [hg] at hcall
        clear hg
        refine hcall.out.mono ?_
        rintro e w3 ⟨rfl, hJ3⟩
        have HJ3 := Lib.hid hJ3
        clear hJ3 hcall
        go_wp2_with fail
        rw [HQ_normal]
        go_wp2_with fail
        go_roundg (j + 1)
        case measure => omega
        case rel => exact ⟨j, _, acc' ++ [x], rfl, by omega, by omega, by omega, HJ3.out, by rw [HEQ.out, HD.out, handOn_yes HG.out], by simp; omega⟩
      | false =>
        have HG := Lib.hid hg
        rw [hg] at hcall
        clear hg
        refine hcall.out.mono ?_
        rintro e w3 ⟨rfl, hJ3⟩
        have HJ3 := Lib.hid hJ3
        clear hJ3 hcall
        go_wp2_with fail
        rw [HQ_normal]
        go_wp2_with fail
        go_ret
        rw [HEQ.out, HD.out, handOn_no HG.out]
        exact ⟨rfl, HJ3.out⟩
    | zero =>
      obtain rfl : z = -1 := by omega
      go_wp2_with fail
      go_ret
      rw [HEQ.out]
      exact ⟨rfl, HJr.out⟩

set_option maxRecDepth 100000 in
set_option maxHeartbeats 8000000 in
theorem reverse_inner {w0 w : World} {b : Nat} {hr : HRec} {pb po n h : Nat} {g : FuncId} {caps : Array Value} {go : List It → Bool} {J : List It → World → Prop} {S : Nat → Nat → Prop} {N : Nat} {r : NRec It} {L : Lay}
    (HD : Hands g caps go J S w0 N) (A : Stays w0 S b hr pb po n r L) {ns : List Nat} (hkn : r.kids = some ns) {ks : List (Tr It)} (hks : ks.length = r.items.length + 1) (hnl : ns.length = ks.length)
    (IH : ∀ (i m : Nat) (k : Tr It) (kb ko : Nat) (acc : List It) (W : World), ns[i]? = some m → ks[i]? = some k → L.ka = some ⟨kb, ko, none⟩ → J acc W → acc.length + (flat h k).length ≤ N →
      Calls Try.prog 177 #[ptr b, .pointer (some ⟨kb, ko + i, none⟩), .func (.func g) #[] caps, .bool false] W (HandPost J (handOn go acc (flat h k).reverse)))
    {acc : List It} (hJ : J acc w) (hN : acc.length + (flat (h + 1) (.node r.items ks)).length ≤ N) :
    Calls Try.prog 177 #[ptr b, .pointer (some ⟨pb, po, none⟩), .func (.func g) #[] caps, .bool false] w (HandPost J (handOn go acc (flat (h + 1) (.node r.items ks)).reverse)) := by
  have HH := Lib.hid HD
  have hcf := HD.enter
  have HA := Lib.hid A
  have HJ := Lib.hid hJ
  have HI := Lib.hid IH
  have hk0 := HD.keep _ _ hJ
  have hiso := Lib.hid (isoLoad_own (A.hdr w hk0) (A.cell w hk0) (A.node w hk0) A.iso false)
  have HKN := Lib.hid hkn
  have HKS := Lib.hid hks
  have HNL := Lib.hid hnl
  have hlen := A.len
  clear HD A hJ hk0 hkn IH hks hnl
  unfold ptr at *
  go_enter Try.func177, Try.ntmps177
  go_wp2_with fail
  refine hiso.out.mono ?_
  rintro e w1 ⟨rfl, kd, rfl⟩
  have HJ1 : Hid (J acc (w.drewN kd)) := by exact HH.out.calm _ _ _ HJ.out (Keep.drewN _ _ _)
  clear hiso HJ
  generalize w.drewN kd = w1 at *
  have N0 := Lib.hid (HA.out.node w1 (HH.out.keep _ _ HJ1.out))
  have hlv := leaf_any N0.out
  rw [HKN.out] at hlv
  simp only [Option.isNone_some] at hlv
  unfold ptr at *
  go_wp2_with fail
  refine hlv.mono ?_
  rintro e w2 ⟨rfl, rfl⟩
  clear hlv
  -- the last child
  obtain ⟨q, hq⟩ : ∃ q, r.items.length = q := ⟨_, rfl⟩
  have HQ := Lib.hid hq
  have hkl : ks[q]? = some (ks[q]'(by have := HKS.out; omega)) := List.getElem?_eq_getElem _
  have hnl : ns[q]? = some (ns[q]'(by have := HKS.out; have := HNL.out; omega)) := List.getElem?_eq_getElem _
  generalize ns[q]'(by have := HKS.out; have := HNL.out; omega) = m at *
  generalize ks[q]'(by have := HKS.out; omega) = k at *
  obtain ⟨kb, ko, hka, c3, g1, ck⟩ := node_child N0.out HKN.out hnl
  have HLAST : Hid (flat (h + 1) (.node r.items ks) = lo h r.items ks q ++ flat h k) := by subst hq; exact lo_last HKS.out hkl
  have HLL : Hid (acc.length + (lo h r.items ks q).length + (flat h k).length ≤ N) := by
    have := hN; rw [HLAST.out] at this; simp only [List.length_append] at this; exact Lib.hid (by omega)
  have hcall := Lib.hid (HI.out _ m k kb ko acc w1.drew hnl hkl hka (HH.out.calm _ _ _ HJ1.out (Keep.drew _ _)) (by have := HLL.out; omega))
  clear hN
  rw [HNL.out, HKS.out, HQ.out] at g1
  obtain ⟨⟨a1, yes⟩, hro⟩ : ∃ p, handOn go acc (flat h k).reverse = p := ⟨_, rfl⟩
  have HRO := Lib.hid hro
  rw [hro] at hcall
  have hlq : q ≤ 1000000000000 := by omega
  clear hro hkl hnl hka hq
  unfold ptr at *
  go_wp2_with fail
  refine wp_calm (by kernel_rfl) (by kernel_rfl) rfl ?_
  simp only [List.flatMap_cons, List.flatMap_nil, checks, chk, nilLit, List.cons_append, List.nil_append, List.append_nil]
  go_wp2_with fail
  refine hcall.out.mono ?_
  rintro e w3 ⟨rfl, hJ3⟩
  have HJ3 := Lib.hid hJ3
  clear hJ3 hcall c3 g1 ck N0 HJ1
  cases yes with
  | false =>
    go_wp2_with fail
    rw [HQ_normal]
    go_wp2_with fail
    go_ret
    rw [HLAST.out, List.reverse_append, handOn_end HRO.out]
    exact ⟨rfl, HJ3.out⟩
  | true =>
    simp only at HJ3 HRO
    have N3 := HA.out.node w3 (HH.out.keep _ _ HJ3.out)
    obtain ⟨d0, d1, c2, d3, fz⟩ := N3.own
    rw [HQ.out] at c2
    clear d0 d1 d3 N3
    go_wp2_with fail
    rw [HQ_normal]
    go_wp2_with fail
    clear c2 fz
    go_loopg [11] (q + 1) (fun c v11 wr => ∃ (i : Nat) (z : Int) (acc' : List It), v11 = .int .i64 z ∧ z + 1 = i ∧ i ≤ q ∧ i < c ∧ J acc' wr ∧ handOn go acc (flat (h + 1) (.node r.items ks)).reverse = handOn go acc' (lo h r.items ks i).reverse ∧ acc'.length + (lo h r.items ks i).length ≤ N)
    case atStart => exact ⟨q, _, a1, rfl, by omega, by omega, by omega, HJ3.out, by rw [HLAST.out, List.reverse_append, handOn_on HRO.out], by have := handOn_len HRO.out; have := HLL.out; simp at *; omega⟩
    case round =>
      obtain ⟨i, z, acc', rfl, hzi, hil, hik, hJr, heq, hNr⟩ := hrel
      have HJr := Lib.hid hJr
      have HEQ := Lib.hid heq
      have N1 := Lib.hid (HA.out.node wr (HH.out.keep _ _ hJr))
      obtain ⟨d0, d1, c2, d3, fz⟩ := N1.out.own
      rw [HQ.out] at c2
      clear d0 d1 d3 hJr heq
      cases i with
      | succ j =>
        obtain rfl : z = (j : Int) := by omega
        have hlt : j < r.items.length := by have := HQ.out; omega
        have hkl : ks[j]? = some (ks[j]'(by have := HKS.out; omega)) := List.getElem?_eq_getElem _
        have hnl : ns[j]? = some (ns[j]'(by have := HKS.out; have := HNL.out; omega)) := List.getElem?_eq_getElem _
        have hnsl : j < ns.length := (List.getElem?_eq_some_iff.1 hnl).1
        have hx : r.items[j]? = some r.items[j] := List.getElem?_eq_getElem hlt
        generalize ns[j]'(by have := HKS.out; have := HNL.out; omega) = m2 at *
        generalize ks[j]'(by have := HKS.out; omega) = k2 at *
        generalize r.items[j] = x at *
        have HD := Lib.hid (lo_rev (h := h) hkl hx)
        have HLR : Hid (acc'.length + 1 + (flat h k2).length + (lo h r.items ks j).length ≤ N) := by
          have := hNr; rw [lo_succ hkl hx] at this; simp only [List.length_append, List.length_cons, List.length_nil] at this; exact Lib.hid (by omega)
        clear hNr
        have HKL := Lib.hid hkl
        have HNN := Lib.hid hnl
        obtain ⟨ib, io, hia, ck⟩ := node_item N1.out hx
        rw [hia] at c2
        obtain ⟨ck, cv⟩ := ck
        have hcall := Lib.hid (HH.out.call acc' x wr.drew (HH.out.calm _ _ _ HJr.out (Keep.drew _ _)) (by have := HLR.out; omega))
        clear hx hia hzi hkl hnl hlt
        unfold kv vv at *
        go_wp2_with fail
        refine wp_calm (by kernel_rfl) (by kernel_rfl) rfl ?_
        simp only [List.flatMap_cons, List.flatMap_nil, checks, chk, nilLit, List.cons_append, List.nil_append, List.append_nil]
        go_wp2_with fail
        cases hg : go (acc' ++ [x]) with
        | false =>
          have HG := Lib.hid hg
          rw [hg] at hcall
          clear hg
          refine hcall.out.mono ?_
          rintro e w4 ⟨rfl, hJ4⟩
          have HJ4 := Lib.hid hJ4
          clear hJ4 hcall
          go_wp2_with fail
          rw [HQ_normal]
          go_wp2_with fail
          go_ret
          rw [HEQ.out, HD.out, handOn_no HG.out]
          exact ⟨rfl, HJ4.out⟩
        | true =>
          have HG := Lib.hid hg
          rw [hg] at hcall
          clear hg
          refine hcall.out.mono ?_
          rintro e w4 ⟨rfl, hJ4⟩
          have HJ4 := Lib.hid hJ4
          clear hJ4 hcall N1 c2 fz ck cv
          have N4 := Lib.hid (HA.out.node w4 (HH.out.keep _ _ HJ4.out))
          obtain ⟨kb, ko, hka, c3, g1, ck⟩ := node_child N4.out HKN.out HNN.out
          have hcall := Lib.hid (HI.out _ m2 k2 kb ko (acc' ++ [x]) w4 HNN.out HKL.out hka HJ4.out (by have := HLR.out; simp; omega))
          obtain ⟨⟨a3, yes⟩, hro⟩ : ∃ p, handOn go (acc' ++ [x]) (flat h k2).reverse = p := ⟨_, rfl⟩
          have HRO2 := Lib.hid hro
          rw [hro] at hcall
          clear hro hka
          unfold ptr at *
          go_wp2_with fail
          rw [HQ_normal]
          go_wp2_with fail
          refine hcall.out.mono ?_
          rintro e w5 ⟨rfl, hJ5⟩
          have HJ5 := Lib.hid hJ5
          clear hJ5 hcall c3 g1 ck
          cases yes with
          | false =>
            go_wp2_with fail
            go_ret
            rw [HEQ.out, HD.out, handOn_yes HG.out, handOn_end HRO2.out]
            exact ⟨rfl, HJ5.out⟩
          | true =>
            simp only at HJ5 HRO2
            go_wp2_with fail
            go_roundg (j + 1)
            case measure => omega
            case rel => exact ⟨j, _, a3, rfl, by omega, by omega, by omega, HJ5.out, by rw [HEQ.out, HD.out, handOn_yes HG.out, handOn_on HRO2.out], by have := handOn_len HRO2.out; have := HLR.out; simp at *; omega⟩
      | zero =>
        obtain rfl : z = -1 := by omega
        go_wp2_with fail
        go_ret
        rw [HEQ.out, lo_zero]
        exact ⟨rfl, HJr.out⟩

/-- IN REVERSE below a node. -/
theorem reverse_any {w0 : World} {b : Nat} {hr : HRec} {H : Store It} {L : Nat → Lay} {g : FuncId} {caps : Array Value} {go : List It → Bool} {J : List It → World → Prop} {S : Nat → Nat → Prop} {N : Nat} {mn mx : Nat}
    (HD : Hands g caps go J S w0 N) (A : StayAll w0 S b hr H L) (hmx : mx ≤ 1000000000000) : ∀ (h l n : Nat) (t : Tr It) (F : List Nat), Rep H hr.iso h n t F → wfr l mn mx h t → ∀ (pb po : Nat), (∀ W, Keep S w0 W → W.cell? ⟨pb, po, none⟩ = some (ptr n)) → ∀ (acc : List It) (w : World), J acc w → acc.length + (flat h t).length ≤ N →
    Calls Try.prog 177 #[ptr b, .pointer (some ⟨pb, po, none⟩), .func (.func g) #[] caps, .bool false] w (HandPost J (handOn go acc (flat h t).reverse))
  | 0, l, n, t, F, hrp, wf, pb, po, hc, acc, w, hJ, hN => by
    obtain ⟨r, h1, h2, h3, h4, h5, h6, _⟩ := hrp
    obtain ⟨its, ks⟩ := t
    simp only [Tr.its, flat] at *
    subst h3
    exact reverse_leaf HD ⟨A.hdr, hc, fun W k => A.node W k n r h1, h2, by have := wf.2.1; simp only [Tr.its] at this; omega⟩ h5 hJ hN
  | h + 1, l, n, t, F, hrp, wf, pb, po, hc, acc, w, hJ, hN => by
    obtain ⟨r, ns, F', h1, h2, h3, h4, h5, h6, _⟩ := hrp
    obtain ⟨w1, w2, w3, w4⟩ := wf
    obtain ⟨its, ks⟩ := t
    simp only [Tr.its, Tr.ks] at *
    subst h3
    refine reverse_inner HD ⟨A.hdr, hc, fun W k => A.node W k n r h1, h2, by omega⟩ h4 w3 h6.len (fun i m k kb ko acc W hm1 hk hka hJ hN => ?_) hJ hN
    obtain ⟨G, hR⟩ := h6.get hm1 hk
    refine reverse_any HD A hmx h mn m k G hR (w4 k (List.mem_of_getElem? hk)) kb (ko + i) (fun W' hk' => ?_) acc W hJ hN
    obtain ⟨kb', ko', hka', _, _, ck⟩ := node_child (A.node W' hk' n r h1) h4 hm1
    rw [hka] at hka'
    obtain ⟨rfl, rfl⟩ : kb = kb' ∧ ko = ko' := by simpa using hka'
    exact ck
end Go.Proofs.Ytfikahgofapobaa.W

namespace Go.Proofs.Ytfikahgofapobaa.W
open Go.RowKit Go.Wb

/-- The items from a key on; those up to it. -/
def fromK (p : Ky) (l : List It) : List It := l.filter fun x => !klt (ky x) p
def uptoK (p : Ky) (l : List It) : List It := l.filter fun x => !klt p (ky x)

theorem fromK_append (p : Ky) (l m : List It) : fromK p (l ++ m) = fromK p l ++ fromK p m := List.filter_append ..
theorem uptoK_append (p : Ky) (l m : List It) : uptoK p (l ++ m) = uptoK p l ++ uptoK p m := List.filter_append ..
theorem fromK_less {p : Ky} {l : List It} (h : ∀ a ∈ l, klt (ky a) p = true) : fromK p l = [] := List.filter_eq_nil_iff.2 fun a ha => by simp [h a ha]
theorem fromK_more {p : Ky} {l : List It} (h : ∀ a ∈ l, klt (ky a) p = false) : fromK p l = l := List.filter_eq_self.2 fun a ha => by simp [h a ha]
theorem uptoK_less {p : Ky} {l : List It} (h : ∀ a ∈ l, klt p (ky a) = false) : uptoK p l = l := List.filter_eq_self.2 fun a ha => by simp [h a ha]
theorem uptoK_more {p : Ky} {l : List It} (h : ∀ a ∈ l, klt p (ky a) = true) : uptoK p l = [] := List.filter_eq_nil_iff.2 fun a ha => by simp [h a ha]

/-- A sorted list parted at a key that is not there. -/
theorem part_none {p : Ky} {A B : List It} (hA : ∀ a ∈ A, klt (ky a) p = true) (hB : ∀ b ∈ B, klt p (ky b) = true) (M : List It) : fromK p (A ++ M ++ B) = fromK p M ++ B ∧ uptoK p (A ++ M ++ B) = A ++ uptoK p M := by
  rw [fromK_append, fromK_append, uptoK_append, uptoK_append, fromK_less hA, fromK_more (l := B) fun b hb => kord.asymm (hB b hb), uptoK_less (l := A) fun a ha => kord.asymm (hA a ha), uptoK_more hB]
  simp
/-- At one that is. -/
theorem part_found {p : Ky} {A B : List It} {y : It} (h1 : klt (ky y) p = false) (h2 : klt p (ky y) = false) (hs : Sorted ilt (A ++ y :: B)) : fromK p (A ++ y :: B) = y :: B ∧ uptoK p (A ++ y :: B) = A ++ [y] := by
  obtain ⟨_, hB, hAB⟩ := Sorted.of_append hs
  have hA : ∀ a ∈ A, klt (ky a) p = true := fun a ha => klt_of_eq h1 h2 (hAB a ha y (by simp))
  have hB : ∀ b ∈ B, klt p (ky b) = true := fun b hb => klt_of_eq' h1 h2 ((List.pairwise_cons.1 hB).1 b hb)
  have hyB : fromK p (y :: B) = y :: B := fromK_more fun b hb => by
    rcases List.mem_cons.1 hb with rfl | hb
    · exact h1
    · exact kord.asymm (hB b hb)
  have hyB2 : uptoK p (y :: B) = [y] := by
    rw [show y :: B = [y] ++ B from rfl, uptoK_append, uptoK_more hB, uptoK_less (l := [y]) fun b hb => by rw [List.mem_singleton.1 hb]; exact h2]
    simp
  rw [fromK_append, uptoK_append, fromK_less hA, uptoK_less (l := A) fun a ha => kord.asymm (hA a ha), hyB, hyB2]
  simp

theorem leaf_from {p : Ky} {its : List It} {i : Nat} {f : Bool} (hs : Sorted ilt its) (hl : Loc its p i f) : fromK p its = its.drop i := by
  cases f with
  | false =>
    obtain ⟨hA, hB⟩ := loc_none hl
    have := (part_none hA hB []).1
    rw [List.append_nil, List.take_append_drop] at this
    simpa [fromK] using this
  | true =>
    obtain ⟨A, y, B, e, hA, hy, h1, h2, _, _⟩ := loc_found hs hl
    subst e
    rw [(part_found h1 h2 hs).1, ← hA]
    simp
theorem leaf_upto {p : Ky} {its : List It} {i : Nat} {f : Bool} (hs : Sorted ilt its) (hl : Loc its p i f) : uptoK p its = its.take (if f then i + 1 else i) := by
  cases f with
  | false =>
    obtain ⟨hA, hB⟩ := loc_none hl
    have := (part_none hA hB []).2
    rw [List.append_nil, List.take_append_drop] at this
    simpa [uptoK] using this
  | true =>
    obtain ⟨A, y, B, e, hA, hy, h1, h2, _, _⟩ := loc_found hs hl
    subst e
    rw [(part_found h1 h2 hs).2, ← hA, if_pos rfl, show A ++ y :: B = (A ++ [y]) ++ B by simp, List.take_left' (by simp)]

/-- Below an inner node. -/
theorem inner_none {h i : Nat} {p : Ky} {its : List It} {ks : List (Tr It)} {k : Tr It} (hs : Sorted ilt (flat (h + 1) (.node its ks))) (hl : ks.length = its.length + 1) (hloc : Loc its p i false) (hk : ks[i]? = some k) :
    fromK p (flat (h + 1) (.node its ks)) = fromK p (flat h k) ++ hi h its ks i ∧ uptoK p (flat (h + 1) (.node its ks)) = lo h its ks i ++ uptoK p (flat h k) ∧ Sorted ilt (flat h k) := by
  obtain ⟨lA, lB⟩ := loc_none hloc
  have hil := hloc.1
  rw [flat_at hl hil hk] at hs ⊢
  have hA := mem_wl_lt (x := itOf p) iord ((ks.map (flat h)).take i) (its.take i) (by simp; omega) hs.left lA
  have hB := mem_wr_lt (x := itOf p) iord (its.drop i) ((ks.map (flat h)).drop (i + 1)) (by simp; omega) hs.right lB
  exact ⟨(part_none hA hB _).1, (part_none hA hB _).2, hs.mid⟩
theorem inner_found {h i : Nat} {p : Ky} {its : List It} {ks : List (Tr It)} (hs : Sorted ilt (flat (h + 1) (.node its ks))) (hso : Sorted ilt its) (hl : ks.length = its.length + 1) (hloc : Loc its p i true) :
    fromK p (flat (h + 1) (.node its ks)) = hi h its ks i ∧ uptoK p (flat (h + 1) (.node its ks)) = lo h its ks (i + 1) := by
  obtain ⟨A, y, B, e, hA, hy, h1, h2, _, _⟩ := loc_found hso hloc
  have hil : i < its.length := (List.getElem?_eq_some_iff.1 hy).1
  have hk1 : ks[i]? = some ks[i] := List.getElem?_eq_getElem (by omega)
  have hk2 : ks[i + 1]? = some ks[i + 1] := List.getElem?_eq_getElem (by omega)
  have e2 : flat (h + 1) (.node its ks) = (lo h its ks i ++ flat h ks[i]) ++ y :: (flat h ks[i + 1] ++ hi h its ks (i + 1)) := by
    rw [flat_at hl (by omega) hk1, hi_succ hk2 hy]
  rw [e2] at hs ⊢
  obtain ⟨q1, q2⟩ := part_found h1 h2 hs
  exact ⟨by rw [q1, hi_succ hk2 hy], by rw [q2, lo_succ hk1 hy]⟩
end Go.Proofs.Ytfikahgofapobaa.W

namespace Go.Proofs.Ytfikahgofapobaa.W
open Go.RowKit Go.Wb

def nameK (k : Ky) : It := (k, 0)
set_option maxRecDepth 100000 in
set_option maxHeartbeats 2000000 in
theorem named_any {w : World} {a : Option Addr} {cap : Nat} {l : List Ky} (hg : Given w a (l.map kv)) (hl : l.length ≤ 4000000000000) : Calls Try.prog 25 #[.slice a l.length cap] w (NewWords w (l.map nameK)) := by
  have HG := Lib.hid hg
  clear hg
  go_enter Try.func25, Try.ntmps25
  go_wp2_with fail
  go_loopg [3, 8] (l.length + 1) (fun k v3 v8 wr => ∃ (i : Nat) (a1 : Option Addr) (c1 : Nat), v8 = .int .i64 i ∧ i ≤ l.length ∧ i + k = l.length + 1 ∧ v3 = .slice a1 i c1 ∧ Keep Nothing w wr ∧ Acc w.heap.size wr 34 2 a1 i c1 (OE.all ((l.take i).map nameK)))
  case atStart => exact ⟨0, none, 0, rfl, by omega, by omega, rfl, Keep.refl _ _, Acc.nil _ _ _ _⟩
  case round =>
    obtain ⟨i, a1, c1, rfl, hil, hik, rfl, hK, hA⟩ := hrel
    have HK := Lib.hid hK
    have HA := Lib.hid hA
    clear hK hA
    by_cases hlt : i < l.length
    · obtain ⟨t, ht⟩ : ∃ t, l[i] = t := ⟨_, rfl⟩
      obtain ⟨kb, ko, hka, ck⟩ := (HG.out.keep HK.out).cell (i := i) (by simpa using hlt)
      subst hka
      rw [show (l.map kv)[i]'(by simpa using hlt) = kv t by simp [ht]] at ck
      have hx : l[i]? = some t := by rw [← ht]; exact List.getElem?_eq_getElem hlt
      have HX := Lib.hid hx
      have hsz := HK.out.size
      clear hx ht
      unfold kv at *
      go_wp2_with (at_builtin; refine wpList_append_any rfl _ _ _ rfl 34 2 24 Try.underlying29 elemO a1 i c1 _ rfl (HA.out.quiet (Keep.alloc _ _ _)).row HA.out.len ⟨wr.heap.size, 0, none⟩ 1 1 (OE.enc (nameK t)) rfl rfl (new_cells (heap_alloc_new wr _)) (OE.one _) (by omega) HA.out.le (by simp only [maxLen]; omega) (by omega) ?_; intro a2 c2 w2 hg)
      obtain ⟨hA2, hK2⟩ := (HA.out.quiet (Keep.alloc _ _ _)).grow (by simp; omega) hg rfl
      have HA2 := Lib.hid hA2
      have HK2 : Hid (Keep Nothing w w2) := by exact (HK.out.al _).trans hK2 fun c o hc h => absurd h (by omega)
      clear hg hA2 hK2 ck
      go_wp2_with fail
      go_roundg (l.length - i)
      case measure => omega
      case rel =>
        refine ⟨i + 1, a2, c2, by go_num, by omega, by omega, rfl, HK2.out, ?_⟩
        have := HA2.out
        rw [List.take_add_one, HX.out, List.map_append, Enc.all_append]
        simpa [Enc.all] using this
    · have hi : i = l.length := by omega
      subst hi
      go_wp2_with fail
      go_ret
      have := HA.out
      rw [List.take_of_length_le (Nat.le_refl _)] at this
      exact ⟨a1, c1, by simp, by simpa using this, HK.out⟩

set_option maxRecDepth 100000 in
set_option maxHeartbeats 2000000 in
theorem keysIn_any {w : World} {a : Option Addr} {cap : Nat} {l : List It} (hg : Given w a (OE.all l)) (hl : l.length ≤ 4000000000000) : Calls Try.prog 36 #[.slice a l.length cap] w (NewKeys w (l.map ky)) := by
  have HG := Lib.hid hg
  clear hg
  go_enter Try.func36, Try.ntmps36
  go_wp2_with fail
  go_loopg [3, 8] (l.length + 1) (fun k v3 v8 wr => ∃ (i : Nat) (a1 : Option Addr) (c1 : Nat), v8 = .int .i64 i ∧ i ≤ l.length ∧ i + k = l.length + 1 ∧ v3 = .slice a1 i c1 ∧ Keep Nothing w wr ∧ Acc w.heap.size wr 9 1 a1 i c1 (((l.take i).map ky).map kv))
  case atStart => exact ⟨0, none, 0, rfl, by omega, by omega, rfl, Keep.refl _ _, Acc.nil _ _ _ _⟩
  case round =>
    obtain ⟨i, a1, c1, rfl, hil, hik, rfl, hK, hA⟩ := hrel
    have HK := Lib.hid hK
    have HA := Lib.hid hA
    clear hK hA
    by_cases hlt : i < l.length
    · have hx : l[i]? = some l[i] := List.getElem?_eq_getElem hlt
      generalize l[i] = x at *
      have HX := Lib.hid hx
      obtain ⟨b0, o0, ha, x0, x1⟩ := word_cell (HG.out.keep HK.out) hx
      subst ha
      have hsz := HK.out.size
      clear hx
      unfold kv at x0
      go_upto_region 5 with (fail)
      refine wp_world ?_
      intro W1 hW1
      have k1 : Keep Nothing wr W1 := by subst hW1; exact (Keep.refl _ _).al _
      have X1 : W1.heap[wr.heap.size]? = some (.cells (OE.enc x).toArray 34 (0, 0)) := by subst hW1; exact heap_alloc_new wr _
      obtain ⟨xk, xv, _⟩ := blk2 X1
      have HK1 : Hid (Keep Nothing w W1) := by exact HK.out.trans k1 fun _ _ _ h => h
      have HA1 := Lib.hid (HA.out.quiet k1)
      have hsz1 := HK1.out.size
      generalize wr.heap.size = q at *
      clear hW1 k1 X1 HK HA x0 x1
      unfold kv at *
      go_wp2_with (at_builtin; refine wpList_append_any rfl _ _ _ rfl 9 1 16 Try.underlying22 elemK a1 i c1 _ rfl (HA1.out.quiet (Keep.alloc _ _ _)).row HA1.out.len ⟨W1.heap.size, 0, none⟩ 1 1 [kv (ky x)] rfl rfl (new_cells (heap_alloc_new W1 _)) (by intro u hu; rw [List.mem_singleton.1 hu]; rfl) (by omega) HA1.out.le (by simp only [maxLen]; omega) (by omega) ?_; intro a2 c2 w2 hg)
      obtain ⟨hA2, hK2⟩ := (HA1.out.quiet (Keep.alloc _ _ _)).grow (by simp; omega) hg rfl
      have HA2 := Lib.hid hA2
      have HK2 : Hid (Keep Nothing w w2) := by exact (HK1.out.al _).trans hK2 fun c o hc h => absurd h (by omega)
      clear hg hA2 hK2 xk xv
      go_wp2_with fail
      go_roundg (l.length - i)
      case measure => omega
      case rel =>
        refine ⟨i + 1, a2, c2, by go_num, by omega, by omega, rfl, HK2.out, ?_⟩
        have := HA2.out
        rw [List.take_add_one, HX.out, List.map_append, List.map_append]
        simpa [kv] using this
    · have hi : i = l.length := by omega
      subst hi
      go_wp2_with fail
      go_ret
      have := HA.out
      rw [List.take_of_length_le (Nat.le_refl _)] at this
      exact ⟨a1, c1, by simp, by simpa using this, HK.out⟩

theorem upto_snoc {p : Ky} {l : List It} {i : Nat} {x : It} (hx : l[i]? = some x) : (uptoK p (l.take (i + 1))).reverse = (if klt p (ky x) then [] else [x]) ++ (uptoK p (l.take i)).reverse := by
  unfold uptoK
  rw [List.take_add_one, hx, List.filter_append]
  cases h : klt p (ky x) <;> simp [h]
set_option maxRecDepth 100000 in
set_option maxHeartbeats 4000000 in
theorem specDescend_any {w : World} {a : Option Addr} {cap : Nat} {l : List It} (hg : Given w a (OE.all l)) (hl : l.length ≤ 2000000000000) (p : Ky) (n : Int) : Calls Try.prog 37 #[.slice a l.length cap, kv p, .int .i64 n] w (ReadWords w (firstN n (uptoK p (sortK l)).reverse)) := by
  have hw := Lib.hid (words_any (cap := cap) hg (by omega))
  have hll0 : (sortK l).length ≤ 2000000000000 := Nat.le_trans (sortK_len l) hl
  clear hg
  generalize sortK l = xs at *
  unfold kv
  go_enter Try.func37, Try.ntmps37
  go_wp2_with fail
  refine hw.out.mono ?_
  rintro e W0 ⟨a0, c0, rfl, hA0, hK0⟩
  have HG := Lib.hid hA0.row.reads
  have HK0 := Lib.hid hK0
  clear hw hA0 hK0
  go_wp2_with fail
  go_loopg [7, 13] (xs.length + 1) (fun k v7 v13 wr => ∃ (i m : Nat) (a1 : Option Addr) (c1 : Nat), v13 = .int .i64 i ∧ i ≤ xs.length ∧ i + k = xs.length + 1 ∧ m = (uptoK p (xs.take i)).length ∧ m ≤ i ∧ v7 = .slice a1 m c1 ∧ Keep Nothing W0 wr ∧ Acc W0.heap.size wr 34 2 a1 m c1 (OE.all (uptoK p (xs.take i)).reverse))
  case atStart => exact ⟨0, 0, none, 0, rfl, by omega, by omega, rfl, by omega, rfl, Keep.refl _ _, Acc.nil _ _ _ _⟩
  case round =>
    obtain ⟨i, m, a1, c1, rfl, hil, hik, hm, hmi, rfl, hK, hA⟩ := hrel
    have HK := Lib.hid hK
    have HA := Lib.hid hA
    have HM := Lib.hid hm
    clear hK hA hm
    by_cases hlt : i < xs.length
    · have hx : xs[i]? = some xs[i] := List.getElem?_eq_getElem hlt
      generalize xs[i] = x at *
      have HX := Lib.hid hx
      obtain ⟨b0, o0, ha, x0, x1⟩ := word_cell (HG.out.keep HK.out) hx
      subst ha
      clear hx
      unfold kv at x0
      go_upto_region 5 with (fail)
      refine wp_world ?_
      intro W1 hW1
      have k1 : Keep Nothing wr W1 := by subst hW1; exact (Keep.refl _ _).al _
      have X1 : W1.heap[wr.heap.size]? = some (.cells (OE.enc x).toArray 34 (0, 0)) := by subst hW1; exact heap_alloc_new wr _
      obtain ⟨xk, xv, _⟩ := blk2 X1
      have HK1 : Hid (Keep Nothing W0 W1) := by exact HK.out.trans k1 fun _ _ _ h => h
      have HA1 := Lib.hid (HA.out.quiet k1)
      have hsz1 := HK1.out.size
      generalize wr.heap.size = q at *
      clear hW1 k1 X1 HK HA x0 x1
      unfold kv at *
      cases hlq : klt p (ky x) with
      | true =>
        have HLQ := Lib.hid hlq
        have hb : Op.bytesLess (ky x).toList p.toList = false := kord.asymm hlq
        have hb2 : ((ky x).toList == p.toList) = false := by
          rw [beq_eq_false_iff_ne]
          intro e
          unfold klt at hlq
          rw [e, bytesLess_irr] at hlq
          cases hlq
        clear hlq
        go_wp2_with fail
        go_roundg (xs.length - i)
        case measure => omega
        case rel =>
          have e := upto_snoc (p := p) HX.out
          rw [HLQ.out] at e
          refine ⟨i + 1, m, a1, c1, by go_num, by omega, by omega, ?_, by omega, rfl, HK1.out, ?_⟩
          · have := congrArg List.length e
            simp at this
            rw [this, HM.out]
          · rw [e]; exact HA1.out
      | false =>
        have HLQ := Lib.hid hlq
        have hsrc := (HA1.out.quiet (Keep.alloc Nothing W1 (.cells (OE.enc x).toArray 34))).row.reads
        have hlen := HA1.out.len
        have hrow : Row (W1.alloc (.cells (OE.enc x).toArray 34)) 34 2 (some ⟨W1.heap.size, 0, none⟩) 1 (OE.enc x) := .inr ⟨_, 0, _, rfl, heap_alloc_new W1 _, by simp [OE], by simp [OE], fun i v hi => by simpa using hi⟩
        have hb : Op.bytesLess (ky x).toList p.toList = true ∨ ((ky x).toList == p.toList) = true := by
          cases h : klt (ky x) p with
          | true => exact .inl h
          | false => exact .inr (by rw [beq_iff_eq]; exact bytesLess_tri _ _ h hlq)
        clear hlq
        rcases hb with hb | hb
        all_goals
          go_wp2_with (at_builtin; refine wpList_append_src rfl _ _ _ rfl 34 2 24 Try.underlying29 elemO (some ⟨W1.heap.size, 0, none⟩) 1 1 (OE.enc x) (by rfl) hrow rfl a1 m c1 _ (by rfl) (by omega) hlen hsrc out_one (by omega) (by simp only [maxLen]; omega) (by omega) ?_; intro a2 c2 w2 hg)
          have k2 : Keep (fun b _ => W1.heap.size ≤ b) (W1.alloc (.cells (OE.enc x).toArray 34)) w2 := hg.keep.mono fun b o _ ⟨x, y, e1, e2, _⟩ => by
            obtain ⟨rfl, _⟩ : W1.heap.size = x ∧ 0 = y := by (simp at e1) <;> exact e1
            omega
          have HK2 : Hid (Keep Nothing W0 w2) := by exact (HK1.out.al _).trans k2 fun c o hc h => absurd h (by omega)
          have HA2 : Hid (Acc W0.heap.size w2 34 2 a2 (1 + m) c2 (OE.enc x ++ OE.all (uptoK p (xs.take i)).reverse)) := by
            refine ⟨hg.row, ?_, hg.cap, fun b o hf => ?_⟩
            · rw [List.length_append, hlen]; simp [OE]; omega
            · rcases hg.fp b o hf with ⟨x, y, e1, e2, _⟩ | ⟨h, _⟩
              · obtain ⟨rfl, _⟩ : W1.heap.size = x ∧ 0 = y := by (simp at e1) <;> exact e1
                omega
              · simp at h; omega
          clear hg k2 hrow hsrc xk xv
          go_wp2_with fail
          go_roundg (xs.length - i)
          case measure => omega
          case rel =>
            have e := upto_snoc (p := p) HX.out
            rw [HLQ.out] at e
            refine ⟨i + 1, 1 + m, a2, c2, by go_num, by omega, by omega, ?_, by omega, rfl, HK2.out, ?_⟩
            · have := congrArg List.length e
              simp at this
              rw [this, HM.out]; omega
            · rw [e, Enc.all_append]
              simpa [Enc.all] using HA2.out
    · have hi : i = xs.length := by omega
      subst hi
      rw [List.take_of_length_le (Nat.le_refl _)] at HA HM
      have hml : m = (uptoK p xs).reverse.length := by rw [HM.out]; simp
      have hcap := HA.out.le
      have hf0 := first_any (w := wr) (a := a1) (cap := c1) (l := (uptoK p xs).reverse) n (by rw [← hml]; omega) (by rw [← hml]; exact hcap)
      rw [← hml] at hf0
      have hf := Lib.hid hf0
      have G2 := Lib.hid (firstN_given n HA.out.row.reads)
      clear hf0 hml
      go_wp2_with fail
      refine hf.out.mono ?_
      rintro e w3 ⟨rfl, rfl⟩
      go_wp2_with fail
      go_ret
      exact ⟨a1, c1, rfl, G2.out, HK0.out.trans HK.out fun _ _ _ h => h⟩
end Go.Proofs.Ytfikahgofapobaa.W
