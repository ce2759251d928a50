/- The doors: lists of nodes as values of interfaces, the parser made, a part read. -/
import Derived.Test.YtbjfahhfcdnkaaaGreatDoorPc
namespace Go.Proofs.YtbjfahhfcdnkaaaGreatDoor
open Go.RowKit Go.Proofs.YtbjfahhfcdnkaaaGreatDoorW.PrintWords Go.Proofs.YtbjfahhfcdnkaaaGreatDoorW.PrintMore

/-- A row of values that is read. -/
def RowV (w : World) (A : Option Addr) (xs : List Value) : Prop := ∀ (i : Nat) (h : i < xs.length), ∃ b, A = some ⟨b, 0, none⟩ ∧ b < w.heap.size ∧ w.cell? ⟨b, i, none⟩ = some xs[i]

theorem RowV.below {w w' : World} {A : Option Addr} {l : List Value} (h : RowV w A l) (hb : Below w.heap.size w w') : RowV w' A l := by
  intro i hi
  obtain ⟨b, e, hlt, hc⟩ := h i hi
  exact ⟨b, e, Nat.lt_of_lt_of_le hlt hb.size, (hb.cell hlt).trans hc⟩

theorem rowV_of {w : World} {base : Nat} {e : TypeId} {v : Value} {n : Nat} {xs : List Value} (h : w.ownsRow base e 1 v n xs) : ∃ A c, v = .slice A n c ∧ xs.length = n ∧ RowV w A xs := by
  have hl : xs.length = n := by have := h.1; omega
  rcases h.2 with ⟨rfl, rfl⟩ | ⟨g, cap, cur, rfl, hg⟩
  · exact ⟨_, _, rfl, hl, fun i hi => by omega⟩
  · refine ⟨_, _, rfl, hl, fun i hi => ⟨g, rfl, ?_, ?_⟩⟩
    · exact (h.lt g rfl).2
    · rw [h.cellAt i (by omega), List.getElem?_eq_getElem hi]

theorem infoI20 : (Tryz.prog.info? 20).map (fun i => (i.zero, i.size, i.bytes)) = some (some .nilIface, 1, 16) := by kernel_rfl

theorem owns_below' {w w' : World} {base : Nat} {e : TypeId} {size n : Nat} {v : Value} {xs : List Value} (h : w.ownsRow base e size v n xs) (hb : Below w.heap.size w w') : w'.ownsRow base e size v n xs := by
  refine ⟨h.1, ?_⟩
  rcases h.2 with h2 | ⟨k, cap, cur, hv, hk, hh, r⟩
  · exact .inl h2
  · refine .inr ⟨k, cap, cur, hv, hk, ?_, r⟩
    have hlt : k < w.heap.size := by
      rcases Nat.lt_or_ge k w.heap.size with h' | h'
      · exact h'
      · rw [Array.getElem?_eq_none h'] at hh; cases hh
    rw [hb.block k hlt]
    exact hh

set_option maxHeartbeats 2000000 in
set_option maxRecDepth 100000 in
theorem listed35_any {w : World} {A : Option Addr} {c : Nat} (gs : List Nat) (hr : RowV w A (gs.map ptr)) (hN : gs.length ≤ 1000) :
    Calls Tryz.prog 35 #[.slice A gs.length c, .nilIface] w fun r w' => (∃ v, r = .returned (.tuple #[v, .nilIface]) ∧ w'.ownsRow w.heap.size 20 1 v gs.length (gs.map (fun g => Value.iface 77 (ptr g)))) ∧ Below w.heap.size w w' := by
  have HR := Lib.hid hr
  clear hr
  obtain ⟨i0, hi, hy0, hy1, hy2⟩ := info_parts infoI20
  go_enter Tryz.func35, Tryz.ntmps35
  go_wp2_with fail
  go_loopg [6, 11] gs.length (fun gk v x wr => ∃ i : Nat, gk = gs.length - i ∧ i ≤ gs.length ∧ x = .int .i64 i ∧ Hid (wr.ownsRow w.heap.size 20 1 v i ((gs.map (fun g => Value.iface 77 (ptr g))).take i)) ∧ Hid (Below w.heap.size w wr))
  case atStart => exact ⟨0, by omega, by omega, rfl, Lib.hid (World.ownsRow_nil _ _ _ _), Lib.hid (Below.refl _ _)⟩
  case round =>
    obtain ⟨i, hgk, hile, rfl, HO, HB⟩ := hrel
    obtain ⟨A2, c2, rfl⟩ := owns_form HO.out
    subst hgk
    by_cases hlt : i < gs.length
    · have hl2 : i < (gs.map ptr).length := by simpa using hlt
      obtain ⟨b, rfl, hbw, hcell⟩ := (HR.out.below HB.out) i hl2
      rw [List.getElem_map] at hcell
      unfold ptr at hcell
      have hlt2 : (i : Int) < gs.length := by omega
      have hsz := HB.out.size
      go_wp2_with (at_builtin; refine wpList_append_lies _ rfl (.tmp 15) (.tmp 18) 38 rfl w.heap.size 20 i0 .nilIface 1 16 Tryz.underlying38 hi hy0 hy1 hy2 rfl (by decide) _ _ _ rfl (HO.out.alloc _) ⟨wr.heap.size, 0, none⟩ 1 1 [.iface 77 (ptr gs[i])] rfl rfl ?c1 ?c2 (by decide) ?c3 ?c4 ?c5 (wr.heap.size + 1) (by simp) ?_)
      case c1 =>
        intro j u hj
        rw [add_plain, World.cell?_alloc_at _ _ _ _ rfl]
        simpa [ptr] using hj
      case c2 =>
        intro u hu
        simp only [List.mem_cons, List.mem_nil_iff, or_false] at hu
        subst hu
        rfl
      case c3 => unfold maxLen; omega
      case c4 => omega
      case c5 => simp; omega
      intro g' cap' w2 hown' hgrow hlie hlt'
      have HB2 := Lib.hid ((HB.out.alloc HB.out.size (.cells #[.iface 77 (ptr gs[i])] 20)).grown hgrow (by simp; omega) (fun k hk => (HO.out.lt k hk).1))
      have HO2 : Hid (w2.ownsRow w.heap.size 20 1 (.slice (some ⟨g', 0, none⟩) (i + 1) cap') (i + 1) ((gs.map (fun g => Value.iface 77 (ptr g))).take (i + 1))) := Lib.hid (by
        rw [List.take_succ_eq_append_getElem (by simpa using hlt), List.getElem_map]
        exact hown')
      clear hown' hgrow hlie hcell
      go_wp2_with fail
      go_roundg (gs.length - (i + 1))
      case measure => omega
      case rel => exact ⟨i + 1, rfl, by omega, by go_num, HO2, HB2⟩
    · obtain rfl : i = gs.length := by omega
      have HO2 := Lib.hid (show wr.ownsRow w.heap.size 20 1 (.slice A2 gs.length c2) gs.length (gs.map (fun g => Value.iface 77 (ptr g))) by have h := HO.out; rwa [List.take_of_length_le (by simp)] at h)
      go_wp2_with fail
      go_ret2
      exact ⟨⟨_, rfl, HO2.out⟩, HB.out⟩

set_option maxHeartbeats 2000000 in
set_option maxRecDepth 100000 in
theorem listed49_any {w : World} {A : Option Addr} {c : Nat} (gs : List Nat) (hr : RowV w A (gs.map ptr)) (hN : gs.length ≤ 1000) :
    Calls Tryz.prog 49 #[.slice A gs.length c, .nilIface] w fun r w' => (∃ v, r = .returned (.tuple #[v, .nilIface]) ∧ w'.ownsRow w.heap.size 20 1 v gs.length (gs.map (fun g => Value.iface 81 (ptr g)))) ∧ Below w.heap.size w w' := by
  have HR := Lib.hid hr
  clear hr
  obtain ⟨i0, hi, hy0, hy1, hy2⟩ := info_parts infoI20
  go_enter Tryz.func49, Tryz.ntmps49
  go_wp2_with fail
  go_loopg [6, 11] gs.length (fun gk v x wr => ∃ i : Nat, gk = gs.length - i ∧ i ≤ gs.length ∧ x = .int .i64 i ∧ Hid (wr.ownsRow w.heap.size 20 1 v i ((gs.map (fun g => Value.iface 81 (ptr g))).take i)) ∧ Hid (Below w.heap.size w wr))
  case atStart => exact ⟨0, by omega, by omega, rfl, Lib.hid (World.ownsRow_nil _ _ _ _), Lib.hid (Below.refl _ _)⟩
  case round =>
    obtain ⟨i, hgk, hile, rfl, HO, HB⟩ := hrel
    obtain ⟨A2, c2, rfl⟩ := owns_form HO.out
    subst hgk
    by_cases hlt : i < gs.length
    · have hl2 : i < (gs.map ptr).length := by simpa using hlt
      obtain ⟨b, rfl, hbw, hcell⟩ := (HR.out.below HB.out) i hl2
      rw [List.getElem_map] at hcell
      unfold ptr at hcell
      have hlt2 : (i : Int) < gs.length := by omega
      have hsz := HB.out.size
      go_wp2_with (at_builtin; refine wpList_append_lies _ rfl (.tmp 15) (.tmp 18) 38 rfl w.heap.size 20 i0 .nilIface 1 16 Tryz.underlying38 hi hy0 hy1 hy2 rfl (by decide) _ _ _ rfl (HO.out.alloc _) ⟨wr.heap.size, 0, none⟩ 1 1 [.iface 81 (ptr gs[i])] rfl rfl ?c1 ?c2 (by decide) ?c3 ?c4 ?c5 (wr.heap.size + 1) (by simp) ?_)
      case c1 =>
        intro j u hj
        rw [add_plain, World.cell?_alloc_at _ _ _ _ rfl]
        simpa [ptr] using hj
      case c2 =>
        intro u hu
        simp only [List.mem_cons, List.mem_nil_iff, or_false] at hu
        subst hu
        rfl
      case c3 => unfold maxLen; omega
      case c4 => omega
      case c5 => simp; omega
      intro g' cap' w2 hown' hgrow hlie hlt'
      have HB2 := Lib.hid ((HB.out.alloc HB.out.size (.cells #[.iface 81 (ptr gs[i])] 20)).grown hgrow (by simp; omega) (fun k hk => (HO.out.lt k hk).1))
      have HO2 : Hid (w2.ownsRow w.heap.size 20 1 (.slice (some ⟨g', 0, none⟩) (i + 1) cap') (i + 1) ((gs.map (fun g => Value.iface 81 (ptr g))).take (i + 1))) := Lib.hid (by
        rw [List.take_succ_eq_append_getElem (by simpa using hlt), List.getElem_map]
        exact hown')
      clear hown' hgrow hlie hcell
      go_wp2_with fail
      go_roundg (gs.length - (i + 1))
      case measure => omega
      case rel => exact ⟨i + 1, rfl, by omega, by go_num, HO2, HB2⟩
    · obtain rfl : i = gs.length := by omega
      have HO2 := Lib.hid (show wr.ownsRow w.heap.size 20 1 (.slice A2 gs.length c2) gs.length (gs.map (fun g => Value.iface 81 (ptr g))) by have h := HO.out; rwa [List.take_of_length_le (by simp)] at h)
      go_wp2_with fail
      go_ret2
      exact ⟨⟨_, rfl, HO2.out⟩, HB.out⟩
end Go.Proofs.YtbjfahhfcdnkaaaGreatDoor
