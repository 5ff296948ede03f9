/- Proved: the tied card of laws.FnHuffScriptDecodes: from every start that the row allows, the law returns true and changes nothing that was there. Conditions: the variables that the row lists hold what the program lays; no other. -/
import Derived.Test.YtlnhldlhmplphaaDoorS10A11
import Derived.Test.YtlnhldlhmplphaaDoorCards
import Derived.SevenTiedAt
set_option maxRecDepth 100000
set_option linter.unusedVariables false
namespace Go.Proofs.YtlnhldlhmplphaaDoor
open Go Go.Proofs Go.ChangeShapes Go.WideShapes Go.ChangeAt Go.RowKit Go.Sx

theorem lifted10 (os : Os) (started : os.Started) (H : Type) (enc : TypeId × Value → H) :
    ReturnsInHanded {} Tryd.checked os 10 .any (fun w args => (Rows.fnHuffScriptDecodesSpec.pre enc Tryd.prog Tryd.f10 [] false w args ∧ laidMetH Tryd.prog laid0 w) ∧ sizedMet enc Tryd.prog Tryd.f10 (OpenSpec.ofChange Rows.fnHuffScriptDecodesSpec) false w args)
      (Rows.fnHuffScriptDecodesSpec.post enc Tryd.prog Tryd.f10 false true false false) := by
  refine returnsInHanded_of_change_and (C := Tryd.checked) (X := fun w _ => laidMetH Tryd.prog laid0 w) (fun _ _ _ hh h => h.of_heap hh) own0 started (by kernel_rfl) Tryd.func10
    (ChangeSpec.witness_shaped (enc := enc) (C := Tryd.checked) (os := os) (X := fun w _ => laidMetH Tryd.prog laid0 w) false (World.doorLaid Tryd.prog 4000 os) #[.slice none 0 0, .bool false, .int .u8 0] 8 rfl (World.shaped_of_RefB (by kernel_rfl) (by kernel_rfl)) (by kernel_rfl) (by kernel_rfl) (by kernel_rfl) (door_met os _)) ?_
  intro W base args ds gs before hval0 hW _ _ hL _
  have hval : ∀ (j : Nat) t v, Tryd.f10.params[j]? = some t → args[j]? = some v → Value.okWide Tryd.prog W .any base t v := hval0
  have hW' := hW
  obtain ⟨p, q, hA0, hV, rfl, hfz, hnd⟩ := hW
  have hA : DataW.TrodAll enc Tryd.prog W 0 (fun _ => true) true Tryd.f10.params.toList args.toList ds p := hA0
  rw [Tryd.params10] at hA hval
  obtain ⟨v0, v1, v2, d0, d1, d2, p0, p1, p2, rfl, rfl, hp, h0, h1, h2⟩ := trodAll_three hA
  obtain ⟨rfl, rfl⟩ := trodVars_none hV
  obtain ⟨s0, ins, xss, rfl, hs, hlen, ha⟩ := texts_in h0 (slice_in und49 (hval 0 49 v0 rfl rfl) h0)
  obtain ⟨b, rfl, rfl, rfl⟩ := open_bool Tryd.underlying4 (hval 1 4 v1 rfl rfl) h1
  obtain ⟨n, rfl, rfl, rfl, hwn⟩ := open_int Tryd.underlying5 (hval 2 5 v2 rfl rfl) h2
  have hb := bounds_u8 hwn
  obtain ⟨t, rfl⟩ : ∃ t : Nat, n = t := ⟨n.toNat, by omega⟩
  simp only [List.append_nil] at hW'
  refine Calls.mono (law10 (K := fun r w' => r = true ∧ Fm W w' []) (b := b) (pol := t) (ge_of_laid hL) hs hlen ha (fun w' F => ⟨rfl, F⟩)) ?_
  rintro e W' ⟨r, rfl, rfl, F⟩
  exact ⟨_, rfl, post_law (s := Rows.fnHuffScriptDecodesSpec) rfl rfl (by decide) rfl rfl rfl hW' F.os F.out F.size (fun b hb => F.old b hb (by simp))⟩

theorem fnHuffScriptDecodes_holds : Rows.FnHuffScriptDecodesSaid :=
  OpenClaim.holds_of_wide 10 Tryd.f10 rfl rfl rfl rfl rfl rfl rfl ⟨rfl, rfl, rfl, rfl, rfl⟩ rfl rfl rfl rfl rfl (by kernel_rfl) Tryd.func10 (by kernel_rfl)
    (of_decide_eq_true (by kernel_rfl)) (by unfold Func.isWrapper; first | (rw [if_pos (by decide +kernel)]; kernel_rfl) | (rw [if_neg (by decide +kernel)]; exact ⟨rfl, rfl⟩))
    (fun os started H enc _ => lifted10 os started H enc)
theorem fnHuffScriptDecodes_card : Rows.FnHuffScriptDecodesCardSaid :=
  Claim7.holds_tied_plain_at .later [] [.data, .data, .sentinel, .sentinel, .sentinel, .sentinel, .sentinel] true (true, "1ed1e71038c04af372c5dff9132c7949b4b0f2cb56a723d8c053a0a2fda640ca") true
    fnHuffScriptDecodes_holds (fun _ h => by cases h) (by kernel_rfl) (fun _ h => by cases h) fnHuffScriptDecodes_row_tie rfl ⟨rfl, rfl⟩ (by kernel_rfl) rfl
    (fun f fn hf hfn => by
      obtain rfl : f = 10 := Option.some.inj ((show Tryd.prog.funcNamed "pub-pemmican/laws.FnHuffScriptDecodes" = some 10 by kernel_rfl).symm.trans hf) |>.symm
      obtain rfl : fn = Tryd.f10 := (Option.some.inj (Tryd.func10.symm.trans hfn)).symm
      exact ⟨by kernel_rfl, fun j t ht => by
        rw [Tryd.params10] at ht
        have hm : t ∈ [49, 4, 5] := by simpa using Array.mem_of_getElem? ht
        have hall : ([49, 4, 5].all fun u => !Tryd.prog.wantsStandIn u) = true := by kernel_rfl
        exact (show Tryd.prog.wantsStandIn t = false by simpa using List.all_eq_true.1 hall t hm)⟩)
    (by kernel_rfl)
end Go.Proofs.YtlnhldlhmplphaaDoor
