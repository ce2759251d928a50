/- FnNumbersApart holds: no condition. -/
import Derived.Test.YtbojlohjmbhifaaGreatDoorWit
import Derived.Test.YtbojlohjmbhifaaGreatDoorNb
import Derived.Test.YtbojlohjmbhifaaGreatDoorNo
import Derived.Test.YtbojlohjmbhifaaGreatDoorTie
import Derived.Test.YtbojlohjmbhifaaGreatDoorCards
import Derived.OpenShut
import Derived.ShutString
import Derived.ChangeOld
import Derived.SevenTiedAt
namespace Go.Proofs.YtbojlohjmbhifaaGreatDoor.cardFnNumbersApart
open Go.ChangeShapes Go.WideShapes Go.ChangeAt Go.RowKit
open Go.ChangeMaps (open_string shut_string)
set_option linter.unusedVariables false

theorem laidOut : laidOutB Tryz.prog = true := by kernel_rfl

set_option maxRecDepth 100000 in
theorem lifted (os : Os) (started : os.Started) (H : Type) (enc : TypeId × Value → H) :
    ReturnsInHanded {} Tryz.checked os 7 .any (fun w args => (Rows.fnNumbersApartSpec.pre enc Tryz.prog Tryz.f7 [] false w args ∧ laidMetH Tryz.prog laidList w) ∧ sizedMet enc Tryz.prog Tryz.f7 (OpenSpec.ofChange Rows.fnNumbersApartSpec) false w args)
      (Rows.fnNumbersApartSpec.post enc Tryz.prog Tryz.f7 false true false false) := by
  refine returnsInHanded_of_change_and (C := Tryz.checked) (X := fun w _ => laidMetH Tryz.prog laidList w) (fun _ _ _ hh h => h.of_heap hh) own started (by kernel_rfl) Tryz.func7
    (ChangeSpec.witness_shaped (enc := enc) (C := Tryz.checked) (os := os) (X := fun w _ => laidMetH Tryz.prog laidList w) false (World.laidAll Tryz.prog os laidList) #[.slice none 0 0, .slice none 0 0] 8 (World.laidAll_os _ _ _)
      (World.shaped_of_ZipB (by kernel_rfl) (by kernel_rfl)) (by kernel_rfl) (by kernel_rfl) (by kernel_rfl) (wit_met os _)) ?_
  intro W base args ds gs before hval0 hW _ _ hL _
  have hval : ∀ (j : Nat) t v, Tryz.f7.params[j]? = some t → args[j]? = some v → Value.okWide Tryz.prog W .any base t v := hval0
  have hW' := hW
  obtain ⟨p, q, hA0, hV, rfl, hfz, hnd⟩ := hW
  have hA : DataW.TrodAll enc Tryz.prog W 0 (fun _ => true) true Tryz.f7.params.toList args.toList ds p := hA0
  rw [Tryz.params7] at hA hval
  obtain ⟨v0, vs0, d0, ds0, p0, q0, hargs, rfl, rfl, h0, r0⟩ := trodAll_cons hA
  obtain ⟨v1, vs1, d1, ds1, p1, q1, rfl, rfl, rfl, h1, r1⟩ := trodAll_cons r0
  obtain ⟨rfl, rfl, rfl⟩ := trodAll_nil r1
  obtain rfl : args = #[v0, v1] := by cases args; simp_all
  obtain ⟨rfl, rfl⟩ := trodVars_none hV
  have k0 := h0
  have lt0 : ∀ x ∈ p0, x.block < W.heap.size := by obtain ⟨m, hm⟩ := k0; exact DataW.trod_lt m _ _ _ hm
  obtain ⟨a0, len0, cap0, rfl⟩ := okWide_slice Tryz.underlying31 (hval 0 31 v0 rfl rfl)
  obtain ⟨ws0, rfl, R0⟩ := rowS_of h0
  have k1 := h1
  have lt1 : ∀ x ∈ p1, x.block < W.heap.size := by obtain ⟨m, hm⟩ := k1; exact DataW.trod_lt m _ _ _ hm
  obtain ⟨a1, len1, cap1, rfl⟩ := okWide_slice Tryz.underlying32 (hval 1 32 v1 rfl rfl)
  obtain ⟨ws1, rfl, R1⟩ := rowB_of h1
  clear hA0 hval0
  simp only [List.append_nil] at hW'
  refine (numbers_walk R0 R1).mono fun e W' ⟨he, bel⟩ => ?_
  subst he
  exact ⟨_, rfl, _, _, _, [], _, [], hW', trodAll_mk1 (shut_bool Tryz.underlying4 _), (trodAll_cons_mk (Below.trod laidOut (by kernel_rfl) (of_decide_eq_true (by kernel_rfl)) k0 bel lt0) (trodAll_cons_mk (Below.trod laidOut (by kernel_rfl) (of_decide_eq_true (by kernel_rfl)) k1 bel lt1) trodAll_mk0)), rfl, bel.frame _, fun h => by cases h⟩

theorem over : Rows.FnNumbersApartSaid :=
  OpenClaim.holds_of_wide 7 Tryz.f7 rfl rfl rfl rfl rfl rfl rfl ⟨rfl, rfl, rfl, rfl, rfl⟩ rfl rfl rfl rfl rfl (by kernel_rfl) Tryz.func7 (by kernel_rfl)
    (of_decide_eq_true (by kernel_rfl)) (by unfold Func.isWrapper; first | (rw [if_pos (by decide +kernel)]; kernel_rfl) | (rw [if_neg (by decide +kernel)]; exact ⟨rfl, rfl⟩))
    (fun os started H enc _ => lifted os started H enc)

theorem proved : Rows.FnNumbersApartCardSaid :=
  Claim7.holds_tied_plain_at .later [] [.data, .sentinel, .pinned] true (true, "553fcfb5a9a4a01a9c3690668eec6a67c443f11610f0745cae86489a030d88bd") true over (fun _ h => by cases h) (by kernel_rfl) (fun _ h => by cases h) fnNumbersApart_row_tie rfl ⟨rfl, rfl⟩ (by kernel_rfl) rfl
    (fun f fn hf hfn => by
      obtain rfl : f = 7 := Option.some.inj ((show Tryz.prog.funcNamed "given.example/pub-antiphonal/laws.FnNumbersApart" = some 7 by kernel_rfl).symm.trans hf) |>.symm
      obtain rfl : fn = Tryz.f7 := (Option.some.inj (Tryz.func7.symm.trans hfn)).symm
      exact ⟨by kernel_rfl, fun j t ht => by
        rw [Tryz.params7] at ht
        have hm : t ∈ [31, 32] := (Array.mem_of_getElem? ht).val
        have hall : ([31, 32].all fun u => !Tryz.prog.wantsStandIn u) = true := by kernel_rfl
        exact (show Tryz.prog.wantsStandIn t = false by simpa using List.all_eq_true.1 hall t hm)⟩)
    (by kernel_rfl)
#print axioms proved
end Go.Proofs.YtbojlohjmbhifaaGreatDoor.cardFnNumbersApart
