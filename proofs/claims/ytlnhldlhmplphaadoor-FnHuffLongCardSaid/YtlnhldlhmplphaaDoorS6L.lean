/- Proved: the tied card of laws.FnHuffLong: from every start that the row allows, the law returns true and changes nothing that was there. Conditions: the variables that the row lists hold what the program lays; no other. -/
import Derived.Test.YtlnhldlhmplphaaDoorS6A10
import Derived.Test.YtlnhldlhmplphaaDoorCards
import Derived.SevenTiedAt
set_option maxRecDepth 100000
set_option linter.unusedVariables false
namespace Go.Proofs.YtlnhldlhmplphaaDoor
open Go Go.Proofs Go.ChangeShapes Go.WideShapes Go.ChangeAt Go.RowKit Go.Sx

theorem lifted6 (os : Os) (started : os.Started) (H : Type) (enc : TypeId × Value → H) :
    ReturnsInHanded {} Tryd.checked os 6 .any (fun w args => (Rows.fnHuffLongSpec.pre enc Tryd.prog Tryd.f6 [] false w args ∧ laidMetH Tryd.prog laid0 w) ∧ sizedMet enc Tryd.prog Tryd.f6 (OpenSpec.ofChange Rows.fnHuffLongSpec) false w args)
      (Rows.fnHuffLongSpec.post enc Tryd.prog Tryd.f6 false true false false) := by
  refine returnsInHanded_of_change_and (C := Tryd.checked) (X := fun w _ => laidMetH Tryd.prog laid0 w) (fun _ _ _ hh h => h.of_heap hh) own0 started (by kernel_rfl) Tryd.func6
    (ChangeSpec.witness_shaped (enc := enc) (C := Tryd.checked) (os := os) (X := fun w _ => laidMetH Tryd.prog laid0 w) false (World.doorLaid Tryd.prog 4000 os) #[.slice none 0 0, .int .u8 0] 8 rfl (World.shaped_of_RefB (by kernel_rfl) (by kernel_rfl)) (by kernel_rfl) (by kernel_rfl) (by kernel_rfl) (door_met os _)) ?_
  intro W base args ds gs before hval0 hW _ _ hL _
  have hval : ∀ (j : Nat) t v, Tryd.f6.params[j]? = some t → args[j]? = some v → Value.okWide Tryd.prog W .any base t v := hval0
  have hW' := hW
  obtain ⟨p, q, hA0, hV, rfl, hfz, hnd⟩ := hW
  have hA : DataW.TrodAll enc Tryd.prog W 0 (fun _ => true) true Tryd.f6.params.toList args.toList ds p := hA0
  rw [Tryd.params6] at hA hval
  obtain ⟨v0, v1, d0, d1, p0, p1, rfl, rfl, hp, h0, h1⟩ := trodAll_two hA
  obtain ⟨rfl, rfl⟩ := trodVars_none hV
  obtain ⟨s0, xs, rfl, A, hby⟩ := bytes_in h0 (slice_in Tryd.underlying22 (hval 0 22 v0 rfl rfl) h0)
  obtain ⟨n, rfl, rfl, rfl, hwn⟩ := open_int Tryd.underlying5 (hval 1 5 v1 rfl rfl) h1
  have hb := bounds_u8 hwn
  obtain ⟨t, rfl⟩ : ∃ t : Nat, n = t := ⟨n.toNat, by omega⟩
  simp only [List.append_nil] at hW'
  refine Calls.mono (law6 (K := fun r w' => r = true ∧ Fm W w' []) (t := t) (ge_of_laid hL) A hby (by omega) (fun w' F => ⟨rfl, F⟩)) ?_
  rintro e W' ⟨r, rfl, rfl, F⟩
  exact ⟨_, rfl, post_law (s := Rows.fnHuffLongSpec) rfl rfl (by decide) rfl rfl rfl hW' F.os F.out F.size (fun b hb => F.old b hb (by simp))⟩

theorem fnHuffLong_holds : Rows.FnHuffLongSaid :=
  OpenClaim.holds_of_wide 6 Tryd.f6 rfl rfl rfl rfl rfl rfl rfl ⟨rfl, rfl, rfl, rfl, rfl⟩ rfl rfl rfl rfl rfl (by kernel_rfl) Tryd.func6 (by kernel_rfl)
    (of_decide_eq_true (by kernel_rfl)) (by unfold Func.isWrapper; first | (rw [if_pos (by decide +kernel)]; kernel_rfl) | (rw [if_neg (by decide +kernel)]; exact ⟨rfl, rfl⟩))
    (fun os started H enc _ => lifted6 os started H enc)
theorem fnHuffLong_card : Rows.FnHuffLongCardSaid :=
  Claim7.holds_tied_plain_at .later [] [.data, .data, .sentinel, .sentinel, .sentinel, .sentinel, .sentinel] true (true, "1ed1e71038c04af372c5dff9132c7949b4b0f2cb56a723d8c053a0a2fda640ca") true
    fnHuffLong_holds (fun _ h => by cases h) (by kernel_rfl) (fun _ h => by cases h) fnHuffLong_row_tie rfl ⟨rfl, rfl⟩ (by kernel_rfl) rfl
    (fun f fn hf hfn => by
      obtain rfl : f = 6 := Option.some.inj ((show Tryd.prog.funcNamed "pub-pemmican/laws.FnHuffLong" = some 6 by kernel_rfl).symm.trans hf) |>.symm
      obtain rfl : fn = Tryd.f6 := (Option.some.inj (Tryd.func6.symm.trans hfn)).symm
      exact ⟨by kernel_rfl, fun j t ht => by
        rw [Tryd.params6] at ht
        have hm : t ∈ [22, 5] := by simpa using Array.mem_of_getElem? ht
        have hall : ([22, 5].all fun u => !Tryd.prog.wantsStandIn u) = true := by kernel_rfl
        exact (show Tryd.prog.wantsStandIn t = false by simpa using List.all_eq_true.1 hall t hm)⟩)
    (by kernel_rfl)
end Go.Proofs.YtlnhldlhmplphaaDoor
