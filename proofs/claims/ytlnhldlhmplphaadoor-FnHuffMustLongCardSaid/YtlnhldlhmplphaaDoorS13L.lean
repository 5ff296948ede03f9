/- Proved: the tied card of laws.FnHuffMustLong: from every start that the row allows, the law returns true and changes nothing that was there. Conditions: the variables that the row lists hold what the program lays; no other. -/
import Derived.Test.YtlnhldlhmplphaaDoorS13A11
import Derived.Test.YtlnhldlhmplphaaDoorCards
import Derived.SevenTiedAt
set_option maxRecDepth 100000
set_option linter.unusedVariables false
namespace Go.Proofs.YtlnhldlhmplphaaDoor
open Go Go.Proofs Go.ChangeShapes Go.WideShapes Go.ChangeAt Go.RowKit Go.Sx

theorem lifted13 (os : Os) (started : os.Started) (H : Type) (enc : TypeId × Value → H) :
    ReturnsInHanded {} Tryd.checked os 13 .any (fun w args => (Rows.fnHuffMustLongSpec.pre enc Tryd.prog Tryd.f13 [] false w args ∧ laidMetH Tryd.prog laid0 w) ∧ sizedMet enc Tryd.prog Tryd.f13 (OpenSpec.ofChange Rows.fnHuffMustLongSpec) false w args)
      (Rows.fnHuffMustLongSpec.post enc Tryd.prog Tryd.f13 false true false false) := by
  refine returnsInHanded_of_change_and (C := Tryd.checked) (X := fun w _ => laidMetH Tryd.prog laid0 w) (fun _ _ _ hh h => h.of_heap hh) own0 started (by kernel_rfl) Tryd.func13
    (ChangeSpec.witness_shaped (enc := enc) (C := Tryd.checked) (os := os) (X := fun w _ => laidMetH Tryd.prog laid0 w) false (World.doorLaid Tryd.prog 4000 os) #[.slice none 0 0] 8 rfl (World.shaped_of_RefB (by kernel_rfl) (by kernel_rfl)) (by kernel_rfl) (by kernel_rfl) (by kernel_rfl) (door_met os _)) ?_
  intro W base args ds gs before hval0 hW _ _ hL _
  have hval : ∀ (j : Nat) t v, Tryd.f13.params[j]? = some t → args[j]? = some v → Value.okWide Tryd.prog W .any base t v := hval0
  have hW' := hW
  obtain ⟨p, q, hA0, hV, rfl, hfz, hnd⟩ := hW
  have hA : DataW.TrodAll enc Tryd.prog W 0 (fun _ => true) true Tryd.f13.params.toList args.toList ds p := hA0
  rw [Tryd.params13] at hA hval
  obtain ⟨v0, d0, rfl, rfl, h0⟩ := trodAll_one hA
  obtain ⟨rfl, rfl⟩ := trodVars_none hV
  obtain ⟨s0, xs, rfl, A, hby⟩ := bytes_in h0 (slice_in Tryd.underlying22 (hval 0 22 v0 rfl rfl) h0)
  simp only [List.append_nil] at hW'
  refine Calls.mono (law13 (K := fun r w' => r = true ∧ Fm W w' []) (ge_of_laid hL) A hby (fun w' F => ⟨rfl, F⟩)) ?_
  rintro e W' ⟨r, rfl, rfl, F⟩
  exact ⟨_, rfl, post_law (s := Rows.fnHuffMustLongSpec) rfl rfl (by decide) rfl rfl rfl hW' F.os F.out F.size (fun b hb => F.old b hb (by simp))⟩

theorem fnHuffMustLong_holds : Rows.FnHuffMustLongSaid :=
  OpenClaim.holds_of_wide 13 Tryd.f13 rfl rfl rfl rfl rfl rfl rfl ⟨rfl, rfl, rfl, rfl, rfl⟩ rfl rfl rfl rfl rfl (by kernel_rfl) Tryd.func13 (by kernel_rfl)
    (of_decide_eq_true (by kernel_rfl)) (by unfold Func.isWrapper; first | (rw [if_pos (by decide +kernel)]; kernel_rfl) | (rw [if_neg (by decide +kernel)]; exact ⟨rfl, rfl⟩))
    (fun os started H enc _ => lifted13 os started H enc)
theorem fnHuffMustLong_card : Rows.FnHuffMustLongCardSaid :=
  Claim7.holds_tied_plain_at .later [] [.data, .data, .sentinel, .sentinel, .sentinel, .sentinel, .sentinel] true (true, "1ed1e71038c04af372c5dff9132c7949b4b0f2cb56a723d8c053a0a2fda640ca") true
    fnHuffMustLong_holds (fun _ h => by cases h) (by kernel_rfl) (fun _ h => by cases h) fnHuffMustLong_row_tie rfl ⟨rfl, rfl⟩ (by kernel_rfl) rfl
    (fun f fn hf hfn => by
      obtain rfl : f = 13 := Option.some.inj ((show Tryd.prog.funcNamed "pub-pemmican/laws.FnHuffMustLong" = some 13 by kernel_rfl).symm.trans hf) |>.symm
      obtain rfl : fn = Tryd.f13 := (Option.some.inj (Tryd.func13.symm.trans hfn)).symm
      exact ⟨by kernel_rfl, fun j t ht => by
        rw [Tryd.params13] at ht
        have hm : t ∈ [22] := by simpa using Array.mem_of_getElem? ht
        have hall : ([22].all fun u => !Tryd.prog.wantsStandIn u) = true := by kernel_rfl
        exact (show Tryd.prog.wantsStandIn t = false by simpa using List.all_eq_true.1 hall t hm)⟩)
    (by kernel_rfl)
end Go.Proofs.YtlnhldlhmplphaaDoor
