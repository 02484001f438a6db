/- Part 5 of the texts for the statement FnWLoadsRisingSaid: the package's tree of maps and sets, its functions' contracts. -/
import Derived.Test.YtckplcmieelmpaaLD
namespace Go.Proofs.Ytckplcmieelmpaa
open Go.ChangeMaps (open_string shut_string)
open Go.ChangeShapes Go.WideShapes Go.ChangeAt Go.RowKit Go.Wb
namespace WLoadsRising
theorem laidOut : laidOutB Try.prog = true := by kernel_rfl
theorem mapsRowed : mapsRowed Try.prog = true := by kernel_rfl
theorem enter : Try.prog.mayEnter = true := by kernel_rfl
theorem heard : Try.prog.stopsHeard = true := by kernel_rfl
theorem inPlace : (Rows.fnWLoadsRisingRow.inPlace == Try.prog.inPlace 5) = true := by kernel_rfl
theorem unfollowed : (Rows.fnWLoadsRisingRow.unfollowed == Try.prog.unfollowed 5) = true := by kernel_rfl
theorem recurses : (Rows.fnWLoadsRisingRow.recurses == Try.prog.recurses 5) = true := by kernel_rfl
theorem named : (Rows.fnWLoadsRisingRow.named == Try.prog.varsNamed 5) = true := by kernel_rfl
theorem lifted_ : (Rows.fnWLoadsRisingRow.lifted == Try.prog.liftsFinal) = true := by kernel_rfl
theorem plainKeys : (Rows.fnWLoadsRisingRow.plainKeys == Try.prog.plainKeys) = true := by kernel_rfl
theorem closed : joinedFacts Try.prog 5 Try.f5 Rows.fnWLoadsRisingSpec Rows.fnWLoadsRisingRow = true := by
  unfold joinedFacts
  rw [laidOut, mapsRowed, enter, heard, inPlace, unfollowed, recurses, named, lifted_, plainKeys]
  kernel_rfl
theorem own : ownKnob Try.prog.godebug = none := by kernel_rfl
set_option maxRecDepth 100000 in
theorem lifted (os : Os) (started : os.Started) (H : Type) (enc : TypeId × Value → H) :
    ReturnsInHanded {} Try.checked os 5 .any (Rows.fnWLoadsRisingSpec.pre6 enc Try.prog Try.f5 Rows.fnWLoadsRisingRow.domain false) (Rows.fnWLoadsRisingSpec.post enc Try.prog Try.f5 false true false false) := by
  refine returnsInHanded_of_change (C := Try.checked) own started (by kernel_rfl) Try.func5
    (ChangeSpec.witness6 (enc := enc) (C := Try.checked) false ⟨#[], #[.int .i64 0, .slice none 0 0], []⟩ 8 (by kernel_rfl) (by kernel_rfl) (by kernel_rfl) (by kernel_rfl)) ?_
  intro W base args ds gs before hval0 hW hcnd _
  have hval : ∀ (j : Nat) t v, Try.f5.params[j]? = some t → args[j]? = some v → Value.okWide Try.prog W .any base t v := hval0
  have hW' := hW
  obtain ⟨p, q, hA0, hV, rfl, hfz, hnd⟩ := hW
  have hA : DataW.TrodAll enc Try.prog W 0 (fun _ => true) true Try.f5.params.toList args.toList ds p := hA0
  have hAll := hA
  rw [Try.params5] at hA hval hAll
  obtain ⟨v0, v1, d0, d1, p0, p1, rfl, rfl, rfl, h0, h1⟩ := trodAll_two hA
  obtain ⟨rfl, rfl⟩ := trodVars_none hV
  obtain ⟨x0, rfl, rfl, rfl, wx0⟩ := open_int Try.underlying3 (hval 0 3 v0 rfl rfl) h0
  obtain ⟨a1, l1, cap1, rfl, hg1, hl1⟩ := open_words Try.underlying28 Try.underlying31 Try.underlying9 Try.underlying3 (by kernel_rfl) (by kernel_rfl) (by kernel_rfl) (by kernel_rfl) (by kernel_rfl) (hval 1 28 v1 rfl rfl) h1
  clear hA0 hval0
  simp only [List.append_nil] at hW' hAll
  refine (_root_.Go.Proofs.Ytckplcmieelmpaa.W.loads_row wx0 hg1 hl1).mono fun e W' ⟨he, hk⟩ => ?_
  subst he
  have hnx : Below W.heap.size W W' := hk.below (Nat.le_refl _) fun _ _ _ h => h
  refine ⟨_, rfl, _, _, _, [] ++ [], _, [], hW', trodAll_mk1 (shut_bool Try.underlying4 true), Below.trodAll laidOut hnx (by kernel_rfl) hAll fun x hx => ?_, rfl, hnx.frame _, fun h => by cases h⟩
  have := hW'.lt x (by simpa using hx)
  simpa using this
end WLoadsRising

theorem fnWLoadsRising_holds : Rows.FnWLoadsRisingSaid :=
  OpenClaim.holds_of_wide 5 Try.f5 rfl rfl rfl rfl rfl rfl rfl ⟨rfl, rfl, rfl, rfl, rfl⟩ rfl rfl rfl rfl rfl (by kernel_rfl) Try.func5 WLoadsRising.closed
    (of_decide_eq_true (by kernel_rfl)) (by unfold Func.isWrapper; first | (rw [if_pos (by decide +kernel)]; kernel_rfl) | (rw [if_neg (by decide +kernel)]; exact ⟨rfl, rfl⟩))
    (fun os started H enc _ => WLoadsRising.lifted os started H enc)
#print axioms fnWLoadsRising_holds
end Go.Proofs.Ytckplcmieelmpaa
