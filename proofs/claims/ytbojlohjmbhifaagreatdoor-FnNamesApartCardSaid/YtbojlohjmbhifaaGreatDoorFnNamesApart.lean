/- FnNamesApart holds: no condition. -/
import Derived.Test.YtbojlohjmbhifaaGreatDoorWit
import Derived.Test.YtbojlohjmbhifaaGreatDoorNs
import Derived.SliceStrings
import Derived.Test.YtbojlohjmbhifaaGreatDoorTie
import Derived.Test.YtbojlohjmbhifaaGreatDoorCards
import Derived.OpenShut
import Derived.ShutString
import Derived.ChangeOld
import Derived.SevenTiedAt
namespace Go.Proofs.YtbojlohjmbhifaaGreatDoor
open Go.ChangeShapes Go.WideShapes

theorem cell_lt {w : World} {a : Addr} {v : Value} (h : w.cell? a = some v) : a.block < w.heap.size := by
  rcases Nat.lt_or_ge a.block w.heap.size with h' | h'
  · exact h'
  · simp [World.cell?, Array.getElem?_eq_none h'] at h

theorem rowS_of {H : Type} {enc : TypeId × Value → H} {w : World} {base : Nat} {a : Option Addr} {len cap : Nat} {d : DataW H} {p : List MemPlace}
    (h : DataW.Trod enc Tryz.prog w base (fun _ => true) true 31 (.slice a len cap) d p) : ∃ ws : List ByteArray, ws.length = len ∧ RowS w a ws := by
  obtain ⟨fuel, hf⟩ := h
  rcases open_strings Tryz.underlying31 Tryz.underlying9 (by kernel_rfl) hf with ⟨hcs, _⟩ | ⟨ad, len', cap', ss, hcs, _, hl, _, hz, _, hcell, _⟩
  · cases hcs
    exact ⟨[], rfl, fun i hi => by cases hi⟩
  · cases hcs
    simp only [if_true] at hz
    refine ⟨ss.take len, by simp; omega, fun i hi => ?_⟩
    have hi' : i < len := by simp at hi; omega
    have hc := hcell i (by omega)
    obtain ⟨b, off, spot⟩ := ad
    have hspot : spot = none := by simpa [Addr.add] using World.cell?_spot (hcell 0 (by omega))
    subst hspot
    rw [Go.WideShapes.add_plain] at hc
    refine ⟨b, off, rfl, cell_lt hc, ?_⟩
    rw [hc, List.getElem_take, List.getD_eq_getElem?_getD, List.getElem?_eq_getElem (show i < ss.length by omega)]
    rfl

theorem rowB_of {H : Type} {enc : TypeId × Value → H} {w : World} {base : Nat} {a : Option Addr} {len cap : Nat} {d : DataW H} {p : List MemPlace}
    (h : DataW.Trod enc Tryz.prog w base (fun _ => true) true 32 (.slice a len cap) d p) : ∃ gs : List Int, gs.length = len ∧ RowB w a gs := by
  obtain ⟨fuel, hf⟩ := h
  rcases open_ints Tryz.underlying32 Tryz.underlying5 (by kernel_rfl) hf with ⟨hcs, _⟩ | ⟨ad, len', cap', zs, hcs, _, hl, _, hz, _, hcell, hwf⟩
  · cases hcs
    exact ⟨[], rfl, fun i hi => by cases hi⟩
  · cases hcs
    simp only [if_true] at hz
    refine ⟨zs.take len, by simp; omega, fun i hi => ?_⟩
    have hi' : i < len := by simp at hi; omega
    have hc := hcell i (by omega)
    obtain ⟨b, off, spot⟩ := ad
    have hspot : spot = none := by simpa [Addr.add] using World.cell?_spot (hcell 0 (by omega))
    subst hspot
    rw [Go.WideShapes.add_plain] at hc
    have hb := bounds_u8 (hwf zs[i] (List.getElem_mem (by omega)))
    rw [List.getElem_take]
    refine ⟨b, off, rfl, cell_lt hc, ?_, hb⟩
    rw [hc, List.getD_eq_getElem?_getD, List.getElem?_eq_getElem (show i < zs.length by omega)]
    rfl
end Go.Proofs.YtbojlohjmbhifaaGreatDoor

namespace Go.Proofs.YtbojlohjmbhifaaGreatDoor.cardFnNamesApart
open Go.ChangeShapes Go.WideShapes Go.ChangeAt Go.RowKit
open Go.ChangeMaps (open_string shut_string)
set_option linter.unusedVariables false

theorem laidOut : laidOutB Tryz.prog = true := by kernel_rfl

set_option maxRecDepth 100000 in
theorem lifted (os : Os) (started : os.Started) (H : Type) (enc : TypeId × Value → H) :
    ReturnsInHanded {} Tryz.checked os 5 .any (fun w args => (Rows.fnNamesApartSpec.pre enc Tryz.prog Tryz.f5 [] false w args ∧ laidMetH Tryz.prog laidList w) ∧ sizedMet enc Tryz.prog Tryz.f5 (OpenSpec.ofChange Rows.fnNamesApartSpec) false w args)
      (Rows.fnNamesApartSpec.post enc Tryz.prog Tryz.f5 false true false false) := by
  refine returnsInHanded_of_change_and (C := Tryz.checked) (X := fun w _ => laidMetH Tryz.prog laidList w) (fun _ _ _ hh h => h.of_heap hh) own started (by kernel_rfl) Tryz.func5
    (ChangeSpec.witness_shaped (enc := enc) (C := Tryz.checked) (os := os) (X := fun w _ => laidMetH Tryz.prog laidList w) false (World.laidAll Tryz.prog os laidList) #[.slice none 0 0, .slice none 0 0] 8 (World.laidAll_os _ _ _)
      (World.shaped_of_ZipB (by kernel_rfl) (by kernel_rfl)) (by kernel_rfl) (by kernel_rfl) (by kernel_rfl) (wit_met os _)) ?_
  intro W base args ds gs before hval0 hW _ _ hL _
  have hval : ∀ (j : Nat) t v, Tryz.f5.params[j]? = some t → args[j]? = some v → Value.okWide Tryz.prog W .any base t v := hval0
  have hW' := hW
  obtain ⟨p, q, hA0, hV, rfl, hfz, hnd⟩ := hW
  have hA : DataW.TrodAll enc Tryz.prog W 0 (fun _ => true) true Tryz.f5.params.toList args.toList ds p := hA0
  rw [Tryz.params5] at hA hval
  obtain ⟨v0, vs0, d0, ds0, p0, q0, hargs, rfl, rfl, h0, r0⟩ := trodAll_cons hA
  obtain ⟨v1, vs1, d1, ds1, p1, q1, rfl, rfl, rfl, h1, r1⟩ := trodAll_cons r0
  obtain ⟨rfl, rfl, rfl⟩ := trodAll_nil r1
  obtain rfl : args = #[v0, v1] := by cases args; simp_all
  obtain ⟨rfl, rfl⟩ := trodVars_none hV
  have k0 := h0
  have lt0 : ∀ x ∈ p0, x.block < W.heap.size := by obtain ⟨m, hm⟩ := k0; exact DataW.trod_lt m _ _ _ hm
  obtain ⟨a0, len0, cap0, rfl⟩ := okWide_slice Tryz.underlying31 (hval 0 31 v0 rfl rfl)
  obtain ⟨ws0, rfl, R0⟩ := rowS_of h0
  have k1 := h1
  have lt1 : ∀ x ∈ p1, x.block < W.heap.size := by obtain ⟨m, hm⟩ := k1; exact DataW.trod_lt m _ _ _ hm
  obtain ⟨a1, len1, cap1, rfl⟩ := okWide_slice Tryz.underlying32 (hval 1 32 v1 rfl rfl)
  obtain ⟨ws1, rfl, R1⟩ := rowB_of h1
  clear hA0 hval0
  simp only [List.append_nil] at hW'
  refine (names_walk R0 R1).mono fun e W' ⟨he, bel⟩ => ?_
  subst he
  exact ⟨_, rfl, _, _, _, [], _, [], hW', trodAll_mk1 (shut_bool Tryz.underlying4 _), (trodAll_cons_mk (Below.trod laidOut (by kernel_rfl) (of_decide_eq_true (by kernel_rfl)) k0 bel lt0) (trodAll_cons_mk (Below.trod laidOut (by kernel_rfl) (of_decide_eq_true (by kernel_rfl)) k1 bel lt1) trodAll_mk0)), rfl, bel.frame _, fun h => by cases h⟩

theorem over : Rows.FnNamesApartSaid :=
  OpenClaim.holds_of_wide 5 Tryz.f5 rfl rfl rfl rfl rfl rfl rfl ⟨rfl, rfl, rfl, rfl, rfl⟩ rfl rfl rfl rfl rfl (by kernel_rfl) Tryz.func5 (by kernel_rfl)
    (of_decide_eq_true (by kernel_rfl)) (by unfold Func.isWrapper; first | (rw [if_pos (by decide +kernel)]; kernel_rfl) | (rw [if_neg (by decide +kernel)]; exact ⟨rfl, rfl⟩))
    (fun os started H enc _ => lifted os started H enc)

theorem proved : Rows.FnNamesApartCardSaid :=
  Claim7.holds_tied_plain_at .later [] [.data, .sentinel, .pinned] true (true, "553fcfb5a9a4a01a9c3690668eec6a67c443f11610f0745cae86489a030d88bd") true over (fun _ h => by cases h) (by kernel_rfl) (fun _ h => by cases h) fnNamesApart_row_tie rfl ⟨rfl, rfl⟩ (by kernel_rfl) rfl
    (fun f fn hf hfn => by
      obtain rfl : f = 5 := Option.some.inj ((show Tryz.prog.funcNamed "given.example/pub-antiphonal/laws.FnNamesApart" = some 5 by kernel_rfl).symm.trans hf) |>.symm
      obtain rfl : fn = Tryz.f5 := (Option.some.inj (Tryz.func5.symm.trans hfn)).symm
      exact ⟨by kernel_rfl, fun j t ht => by
        rw [Tryz.params5] at ht
        have hm : t ∈ [31, 32] := (Array.mem_of_getElem? ht).val
        have hall : ([31, 32].all fun u => !Tryz.prog.wantsStandIn u) = true := by kernel_rfl
        exact (show Tryz.prog.wantsStandIn t = false by simpa using List.all_eq_true.1 hall t hm)⟩)
    (by kernel_rfl)
#print axioms proved
end Go.Proofs.YtbojlohjmbhifaaGreatDoor.cardFnNamesApart
