/- The arguments opened: rows of strings and of bytes. -/
import Derived.Test.YtbjfahhfcdnkaaaGreatDoorPt
import Derived.SliceStrings
import Derived.OpenShut
namespace Go.Proofs.YtbjfahhfcdnkaaaGreatDoor
open Go.ChangeShapes Go.WideShapes

theorem cell_lt {w : World} {a : Addr} {v : Value} (h : w.cell? a = some v) : a.block < w.heap.size := by
  rcases Nat.lt_or_ge a.block w.heap.size with h' | h'
  · exact h'
  · simp [World.cell?, Array.getElem?_eq_none h'] at h

theorem rowS_of {H : Type} {enc : TypeId × Value → H} {w : World} {base : Nat} {a : Option Addr} {len cap : Nat} {d : DataW H} {p : List MemPlace}
    (h : DataW.Trod enc Tryz.prog w base (fun _ => true) true 22 (.slice a len cap) d p) : ∃ ws : List ByteArray, ws.length = len ∧ RowS w a ws := by
  obtain ⟨fuel, hf⟩ := h
  rcases open_strings Tryz.underlying22 Tryz.underlying9 (by kernel_rfl) hf with ⟨hcs, _⟩ | ⟨ad, len', cap', ss, hcs, _, hl, _, hz, _, hcell, _⟩
  · cases hcs
    exact ⟨[], rfl, fun i hi => by cases hi⟩
  · cases hcs
    simp only [if_true] at hz
    refine ⟨ss.take len, by simp; omega, fun i hi => ?_⟩
    have hi' : i < len := by simp at hi; omega
    have hc := hcell i (by omega)
    obtain ⟨b, off, spot⟩ := ad
    have hspot : spot = none := by simpa [Addr.add] using World.cell?_spot (hcell 0 (by omega))
    subst hspot
    rw [Go.WideShapes.add_plain] at hc
    refine ⟨b, off, rfl, cell_lt hc, ?_⟩
    rw [hc, List.getElem_take, List.getD_eq_getElem?_getD, List.getElem?_eq_getElem (show i < ss.length by omega)]
    rfl

theorem rowB_of {H : Type} {enc : TypeId × Value → H} {w : World} {base : Nat} {a : Option Addr} {len cap : Nat} {d : DataW H} {p : List MemPlace}
    (h : DataW.Trod enc Tryz.prog w base (fun _ => true) true 31 (.slice a len cap) d p) : ∃ gs : List Int, gs.length = len ∧ RowB w a gs := by
  obtain ⟨fuel, hf⟩ := h
  rcases open_ints Tryz.underlying31 Tryz.underlying5 (by kernel_rfl) hf with ⟨hcs, _⟩ | ⟨ad, len', cap', zs, hcs, _, hl, _, hz, _, hcell, hwf⟩
  · cases hcs
    exact ⟨[], rfl, fun i hi => by cases hi⟩
  · cases hcs
    simp only [if_true] at hz
    refine ⟨zs.take len, by simp; omega, fun i hi => ?_⟩
    have hi' : i < len := by simp at hi; omega
    have hc := hcell i (by omega)
    obtain ⟨b, off, spot⟩ := ad
    have hspot : spot = none := by simpa [Addr.add] using World.cell?_spot (hcell 0 (by omega))
    subst hspot
    rw [Go.WideShapes.add_plain] at hc
    have hb := bounds_u8 (hwf zs[i] (List.getElem_mem (by omega)))
    rw [List.getElem_take]
    refine ⟨b, off, rfl, cell_lt hc, ?_, hb⟩
    rw [hc, List.getD_eq_getElem?_getD, List.getElem?_eq_getElem (show i < zs.length by omega)]
    rfl

end Go.Proofs.YtbjfahhfcdnkaaaGreatDoor
