/- Proved: the tied card of laws.FnHuffOneTree: from every start that the row allows, the law returns true and changes nothing that was there. Conditions: the variables that the row lists hold what the program lays; no other. -/
import Derived.Test.YtlnhldlhmplphaaGreatDoorSA11
import Derived.Test.YtlnhldlhmplphaaGreatDoorCards
import Derived.SevenTiedAt
set_option maxRecDepth 100000
set_option linter.unusedVariables false
namespace Go.Proofs.YtlnhldlhmplphaaGreatDoor
open Go Go.Proofs Go.ChangeShapes Go.WideShapes Go.ChangeAt Go.RowKit Go.Sx

theorem lifted3 (os : Os) (started : os.Started) (H : Type) (enc : TypeId × Value → H) :
    ReturnsInHanded {} Tryz.checked os 3 .any (fun w args => (Rows.fnHuffOneTreeSpec.pre enc Tryz.prog Tryz.f3 [] false w args ∧ laidMetH Tryz.prog laid0 w) ∧ sizedMet enc Tryz.prog Tryz.f3 (OpenSpec.ofChange Rows.fnHuffOneTreeSpec) false w args)
      (Rows.fnHuffOneTreeSpec.post enc Tryz.prog Tryz.f3 false true false false) := by
  refine returnsInHanded_of_change_and (C := Tryz.checked) (X := fun w _ => laidMetH Tryz.prog laid0 w) (fun _ _ _ hh h => h.of_heap hh) own0 started (by kernel_rfl) Tryz.func3
    (ChangeSpec.witness_shaped (enc := enc) (C := Tryz.checked) (os := os) (X := fun w _ => laidMetH Tryz.prog laid0 w) false (World.doorLaid Tryz.prog 4000 os) #[.slice none 0 0] 8 rfl (World.shaped_of_RefB (by kernel_rfl) (by kernel_rfl)) (by kernel_rfl) (by kernel_rfl) (by kernel_rfl) (door_met os _)) ?_
  intro W base args ds gs before hval0 hW _ _ hL _
  have hval : ∀ (j : Nat) t v, Tryz.f3.params[j]? = some t → args[j]? = some v → Value.okWide Tryz.prog W .any base t v := hval0
  have hW' := hW
  obtain ⟨p, q, hA0, hV, rfl, hfz, hnd⟩ := hW
  have hA : DataW.TrodAll enc Tryz.prog W 0 (fun _ => true) true Tryz.f3.params.toList args.toList ds p := hA0
  rw [Tryz.params3] at hA hval
  obtain ⟨v0, d0, rfl, rfl, h0⟩ := trodAll_one hA
  obtain ⟨rfl, rfl⟩ := trodVars_none hV
  obtain ⟨s0, xs, rfl, A, hby⟩ := bytes_in h0 (slice_in Tryz.underlying22 (hval 0 22 v0 rfl rfl) h0)
  simp only [List.append_nil] at hW'
  refine Calls.mono (lawZ (K := fun r w' => r = true ∧ Fm W w' []) (ge_of_laid hL) A hby (fun w' F => ⟨rfl, F⟩)) ?_
  rintro e W' ⟨r, rfl, rfl, F⟩
  exact ⟨_, rfl, post_law (s := Rows.fnHuffOneTreeSpec) rfl rfl (by decide) rfl rfl rfl hW' F.os F.out F.size (fun b hb => F.old b hb (by simp))⟩

theorem fnHuffOneTree_holds : Rows.FnHuffOneTreeSaid :=
  OpenClaim.holds_of_wide 3 Tryz.f3 rfl rfl rfl rfl rfl rfl rfl ⟨rfl, rfl, rfl, rfl, rfl⟩ rfl rfl rfl rfl rfl (by kernel_rfl) Tryz.func3 (by kernel_rfl)
    (of_decide_eq_true (by kernel_rfl)) (by unfold Func.isWrapper; first | (rw [if_pos (by decide +kernel)]; kernel_rfl) | (rw [if_neg (by decide +kernel)]; exact ⟨rfl, rfl⟩))
    (fun os started H enc _ => lifted3 os started H enc)
theorem fnHuffOneTree_card : Rows.FnHuffOneTreeCardSaid :=
  Claim7.holds_tied_plain_at .later [] [.data, .data, .sentinel, .sentinel, .sentinel, .sentinel, .sentinel] true (true, "7a78b49fbc48512743a2ccb6a6eca9ea627d107305dafa108fec90d8b832a4a3") true
    fnHuffOneTree_holds (fun _ h => by cases h) (by kernel_rfl) (fun _ h => by cases h) fnHuffOneTree_row_tie rfl ⟨rfl, rfl⟩ (by kernel_rfl) rfl
    (fun f fn hf hfn => by
      obtain rfl : f = 3 := Option.some.inj ((show Tryz.prog.funcNamed "pub-pemmican/laws.FnHuffOneTree" = some 3 by kernel_rfl).symm.trans hf) |>.symm
      obtain rfl : fn = Tryz.f3 := (Option.some.inj (Tryz.func3.symm.trans hfn)).symm
      exact ⟨by kernel_rfl, fun j t ht => by
        rw [Tryz.params3] at ht
        have hm : t ∈ [22] := by simpa using Array.mem_of_getElem? ht
        have hall : ([22].all fun u => !Tryz.prog.wantsStandIn u) = true := by kernel_rfl
        exact (show Tryz.prog.wantsStandIn t = false by simpa using List.all_eq_true.1 hall t hm)⟩)
    (by kernel_rfl)
end Go.Proofs.YtlnhldlhmplphaaGreatDoor
