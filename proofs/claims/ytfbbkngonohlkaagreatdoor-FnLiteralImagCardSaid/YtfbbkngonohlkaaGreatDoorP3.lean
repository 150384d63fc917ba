/- laws.FnLiteralImag: for every input the law answers true, and each argument reads behind the call as it read before. The condition: the listed package variables read as their initialisers lay them, which the card ties to the program's text. -/
import Derived.Test.YtfbbkngonohlkaaGreatDoorP1
import Derived.Test.YtfbbkngonohlkaaGreatDoorZ06
import Derived.Test.YtfbbkngonohlkaaGreatDoorP5
import Derived.Test.YtfbbkngonohlkaaGreatDoorTie
import Derived.SevenTiedAt
import Derived.Carry
import Derived.JoinedOf
import Derived.Stop.Joined
namespace Go.Proofs.YtfbbkngonohlkaaGreatDoor
open Go Go.ChangeShapes Go.WideShapes Go.ChangeAt Go.RowKit
set_option linter.unusedVariables false
set_option linter.unusedSimpArgs false
set_option maxRecDepth 100000
theorem fnLiteralImag_lifted (os : Os) (started : os.Started) (H : Type) (enc : TypeId × Value → H) :
    ReturnsInHanded {} Tryz.checked os 4 .any (fun w args => (Rows.fnLiteralImagSpec.pre enc Tryz.prog Tryz.f4 [] false w args ∧ laidMetH Tryz.prog laids w) ∧ sizedMet enc Tryz.prog Tryz.f4 (OpenSpec.ofChange Rows.fnLiteralImagSpec) false w args)
      (Rows.fnLiteralImagSpec.post enc Tryz.prog Tryz.f4 false true false false) := by
  refine returnsInHanded_of_change_and (C := Tryz.checked) (X := fun w _ => laidMetH Tryz.prog laids w) (fun _ _ _ hh h => h.of_heap hh) own_knob started (by kernel_rfl) Tryz.func4
    (ChangeSpec.witness_shaped (enc := enc) (C := Tryz.checked) (os := os) (X := fun w _ => laidMetH Tryz.prog laids w) false (World.laidAll Tryz.prog os laids) #[.int .u64 0, .int .u8 0, .int .u8 0] 8 (World.laidAll_os _ _ _) (World.shaped_of_ZipB (by kernel_rfl) (by kernel_rfl)) (by kernel_rfl) (by kernel_rfl) (by kernel_rfl) (laid_met os _)) ?_
  intro W base args ds gs before hval0 hW _ _ hL _
  have hval : ∀ (j : Nat) t v, Tryz.f4.params[j]? = some t → args[j]? = some v → Value.okWide Tryz.prog W .any base t v := hval0
  have hW' := hW
  obtain ⟨p, q, hA0, hV, rfl, _, _⟩ := hW
  have hA : DataW.TrodAll enc Tryz.prog W 0 (fun _ => true) true Tryz.f4.params.toList args.toList ds p := hA0
  rw [Tryz.params4] at hA hval
  obtain ⟨v0, v1, v2, d0, d1, d2, p0, p1, p2, rfl, rfl, rfl, h0, h1, h2⟩ := trodAll_three hA
  obtain ⟨n, rfl, rfl, rfl, wn⟩ := open_int Tryz.underlying22 (hval 0 22 v0 rfl rfl) h0
  obtain ⟨k, rfl, rfl, rfl, wk⟩ := open_int Tryz.underlying5 (hval 1 5 v1 rfl rfl) h1
  obtain ⟨f, rfl, rfl, rfl, wf⟩ := open_int Tryz.underlying5 (hval 2 5 v2 rfl rfl) h2
  have bn := bounds_u64 wn
  obtain ⟨n, rfl⟩ := Int.eq_ofNat_of_zero_le bn.1
  have bk := bounds_u8 wk
  obtain ⟨k, rfl⟩ := Int.eq_ofNat_of_zero_le bk.1
  have bf := bounds_u8 wf
  obtain ⟨f, rfl⟩ := Int.eq_ofNat_of_zero_le bf.1
  obtain ⟨g1, g2, g3, g4, g5, g6, g7, rfl⟩ := len7 (trodVars_len hV)
  obtain ⟨E, hP⟩ := pre_of hL
  refine (lawI_spec (V := E) (n := n) (k := k) (f := f) (by omega) (by omega) (by omega) W hP).mono fun e' W' ⟨u, _, he, hm, _⟩ => ?_
  subst he
  exact ⟨_, rfl, _, _, _, [], [], q, hW', trodAll_mk1 (shut_bool Tryz.underlying4 _), trodAll_mk3 (shut_int Tryz.underlying22 wn) (shut_int Tryz.underlying5 wk) (shut_int Tryz.underlying5 wf), hm.below.trodVars laid_out fnLiteralImag.b7 hV, hm.keptBut _, fun h => by cases h⟩
theorem fnLiteralImag_holds : Rows.FnLiteralImagSaid :=
  OpenClaim.holds_of_wide 4 Tryz.f4 rfl rfl rfl rfl rfl rfl rfl ⟨rfl, rfl, rfl, rfl, rfl⟩ rfl rfl rfl rfl rfl fnLiteralImag.b6 Tryz.func4 fnLiteralImag.joined
    (of_decide_eq_true (by kernel_rfl)) (by unfold Func.isWrapper; rw [if_neg (of_decide_eq_false (by kernel_rfl))]; exact ⟨rfl, rfl⟩)
    (fun os started H enc _ => fnLiteralImag_lifted os started H enc)
theorem fnLiteralImag_card : Rows.FnLiteralImagCardSaid :=
  Claim7.holds_tied_plain_at .later [] [.data, .data, .data, .data, .sentinel, .sentinel, .sentinel, .data, .sentinel, .sentinel, .data, .data, .data, .data, .pinned] true (true, "9bd208ad0ba465942f91f4d3933930092dc1c8c0c20362e61b55920ecead1fdd") true
    fnLiteralImag_holds (fun _ h => by cases h) fnLiteralImag.b1 (fun _ h => by cases h) fnLiteralImag_row_tie rfl ⟨rfl, rfl⟩ fnLiteralImag.b2 rfl
    (fun f fn hf hfn => by
      obtain rfl : f = 4 := (Option.some.inj (fnLiteralImag.b6.symm.trans hf)).symm
      obtain rfl : fn = Tryz.f4 := (Option.some.inj (Tryz.func4.symm.trans hfn)).symm
      exact ⟨fnLiteralImag.b3, fun j t ht => by
        rw [Tryz.params4] at ht
        have hm : t ∈ [22, 5, 5] := by simpa using Array.mem_of_getElem? ht
        exact (show fnLiteralImag.P.wantsStandIn t = false by simpa using List.all_eq_true.1 fnLiteralImag.b5 t hm)⟩)
    fnLiteralImag.b4
#print axioms fnLiteralImag_card
end Go.Proofs.YtfbbkngonohlkaaGreatDoor
