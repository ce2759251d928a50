/- The line ends of a text, as a plain list, and what they say of a place. -/
import Derived.Test.YtbojlohjmbhifaaGreatDoorPzzLineEndsx
import Derived.Test.YtbojlohjmbhifaaGreatDoorLoc
namespace Go.Proofs.YtbojlohjmbhifaaGreatDoor
open Go.RowKit Go.Proofs.YtbojlohjmbhifaaGreatDoorW.PrintWords Go.Proofs.YtbojlohjmbhifaaGreatDoorW.PrintMore
open PzzLineEnds (location_zzLineEnds.f location_zzLineEnds.l0 location_zzLineEnds.j1)

theorem wrap_in {x : Int} (h0 : 0 ≤ x) (h : x ≤ 4611686018427387904) : wrap64 x = x := by
  unfold wrap64
  omega

/-- The line ends from place i on, 'd' bytes before the end. -/
def ends (l : List Int) : Nat → Nat → List (List Int)
  | 0, _ => []
  | 1, i => if rd l i = 13 ∨ rd l i = 10 then [[(i : Int), (i : Int) + 1]] else []
  | d + 2, i => if rd l i = 13 ∧ rd l (i + 1) = 10 then [(i : Int), (i : Int) + 2] :: ends l d (i + 2)
      else if rd l i = 13 ∨ rd l i = 10 then [(i : Int), (i : Int) + 1] :: ends l (d + 1) (i + 1) else ends l (d + 1) (i + 1)

theorem ends_ok (l : List Int) : ∀ (d i : Nat), i + d = l.length → ∀ m ∈ ends l d i, m.length = 2 ∧ 0 ≤ rd m 0 ∧ rd m 0 ≤ rd m 1 ∧ rd m 1 ≤ (l.length : Int)
  | 0, _, _, m, hm => by simp [ends] at hm
  | 1, i, hd, m, hm => by
    unfold ends at hm
    split at hm
    · obtain rfl : m = [(i : Int), (i : Int) + 1] := by simpa using hm
      refine ⟨rfl, ?_⟩
      simp [rd]
      omega
    · simp at hm
  | d + 2, i, hd, m, hm => by
    unfold ends at hm
    split at hm
    · rcases List.mem_cons.1 hm with rfl | h
      · refine ⟨rfl, ?_⟩
        simp [rd]
        omega
      · exact ends_ok l d (i + 2) (by omega) m h
    · split at hm
      · rcases List.mem_cons.1 hm with rfl | h
        · refine ⟨rfl, ?_⟩
          simp [rd]
          omega
        · exact ends_ok l (d + 1) (i + 1) (by omega) m h
      · exact ends_ok l (d + 1) (i + 1) (by omega) m hm

theorem ends_len (l : List Int) : ∀ (d i : Nat), (ends l d i).length ≤ d
  | 0, _ => by simp [ends]
  | 1, i => by unfold ends; split <;> simp
  | d + 2, i => by
    have h1 := ends_len l d (i + 2)
    have h2 := ends_len l (d + 1) (i + 1)
    unfold ends
    split
    · simp; omega
    · split
      · simp; omega
      · omega

theorem j1_true {k : Nat} {l : List Int} {acc : List (List Int)} {i : Nat} (hl : l.length ≤ 4294967296) (hi : i < l.length) (ha : acc.length ≤ i) :
    location_zzLineEnds.j1 (k + 1) l acc i true = location_zzLineEnds.l0 k l (acc ++ [[(i : Int), (i : Int) + 2]]) ((i + 2 : Nat) : Int) := by
  simp only [location_zzLineEnds.j1]
  rw [if_pos trivial, if_pos (by omega), wrap_in (by omega) (by omega), wrap_in (x := (i : Int) + 1) (by omega) (by omega), wrap_in (by omega) (by omega)]
  rw [show (i : Int) + 1 + 1 = ((i + 2 : Nat) : Int) by omega]

theorem j1_false {k : Nat} {l : List Int} {acc : List (List Int)} {i : Nat} (hl : l.length ≤ 4294967296) (hi : i < l.length) (ha : acc.length ≤ i) :
    location_zzLineEnds.j1 (k + 1) l acc i false = location_zzLineEnds.l0 k l (if rd l i = 13 ∨ rd l i = 10 then acc ++ [[(i : Int), (i : Int) + 1]] else acc) ((i + 1 : Nat) : Int) := by
  simp only [location_zzLineEnds.j1]
  rw [if_neg (by simp), if_pos (by omega), if_pos (by omega), wrap_in (x := (i : Int) + 1) (by omega) (by omega), show (i : Int) + 1 = ((i + 1 : Nat) : Int) by omega]
  by_cases h1 : rd l i = 13
  · rw [if_pos h1, if_pos (by omega), if_pos (Or.inl h1)]
  · rw [if_neg h1]
    by_cases h2 : rd l i = 10
    · rw [if_pos h2, if_pos (by omega), if_pos (Or.inr h2)]
    · rw [if_neg h2, if_neg (by omega)]

theorem l0_step {k : Nat} {l : List Int} {acc : List (List Int)} {i : Nat} (hl : l.length ≤ 4294967296) (hi : i < l.length) :
    location_zzLineEnds.l0 (k + 1) l acc i = location_zzLineEnds.j1 k l acc i (decide (rd l i = 13 ∧ i + 1 < l.length ∧ rd l (i + 1) = 10)) := by
  simp only [location_zzLineEnds.l0]
  rw [if_pos (by omega), if_pos (by omega), wrap_in (x := (i : Int) + 1) (by omega) (by omega)]
  by_cases h1 : rd l i = 13
  · rw [if_pos h1]
    by_cases h2 : i + 1 < l.length
    · rw [if_pos (by omega), if_pos (by omega)]
      congr 1
      by_cases h3 : rd l (↑i + 1) = 10
      · simp [h1, h2, h3]
      · simp [h3]
    · rw [if_neg (by omega)]
      congr 1
      simp [h2]
  · rw [if_neg h1]
    congr 1
    simp [h1]

theorem l0_ends (l : List Int) (hl : l.length ≤ 4294967296) : ∀ (d i : Nat) (acc : List (List Int)) (k : Nat), i + d = l.length → acc.length ≤ i → 2 * d < k → location_zzLineEnds.l0 k l acc i = some (acc ++ ends l d i)
  | 0, i, acc, k, hd, ha, hk => by
    obtain ⟨k, rfl⟩ : ∃ m, k = m + 1 := ⟨k - 1, by omega⟩
    simp only [location_zzLineEnds.l0]
    rw [if_neg (by omega)]
    simp [ends]
  | 1, i, acc, k, hd, ha, hk => by
    obtain ⟨k, rfl⟩ : ∃ m, k = m + 2 := ⟨k - 2, by omega⟩
    rw [l0_step hl (by omega), show decide (rd l i = 13 ∧ i + 1 < l.length ∧ rd l (i + 1) = 10) = false by simp; omega, j1_false hl (by omega) ha]
    rw [l0_ends l hl 0 (i + 1) (if rd l i = 13 ∨ rd l i = 10 then acc ++ [[(i : Int), (i : Int) + 1]] else acc) k (by omega) (by split <;> (try simp) <;> omega) (by omega)]
    simp only [ends]
    split <;> simp
  | d + 2, i, acc, k, hd, ha, hk => by
    obtain ⟨k, rfl⟩ : ∃ m, k = m + 2 := ⟨k - 2, by omega⟩
    rw [l0_step hl (by omega)]
    by_cases h1 : rd l i = 13 ∧ rd l (i + 1) = 10
    · rw [show decide (rd l i = 13 ∧ i + 1 < l.length ∧ rd l (i + 1) = 10) = true by simp [h1]; omega, j1_true hl (by omega) ha, l0_ends l hl d (i + 2) _ k (by omega) (by simp; omega) (by omega)]
      simp only [ends]
      rw [if_pos h1]
      simp
    · rw [show decide (rd l i = 13 ∧ i + 1 < l.length ∧ rd l (i + 1) = 10) = false by simp; intro a _; exact fun b => h1 ⟨a, b⟩, j1_false hl (by omega) ha, l0_ends l hl (d + 1) (i + 1) (if rd l i = 13 ∨ rd l i = 10 then acc ++ [[(i : Int), (i : Int) + 1]] else acc) k (by omega) (by split <;> (try simp) <;> omega) (by omega)]
      simp only [ends]
      rw [if_neg h1]
      split <;> simp

theorem f_ends (l : List Int) (hl : l.length ≤ 4294967296) : location_zzLineEnds.f (2 * l.length + 1) l = some (ends l l.length 0) := by
  unfold location_zzLineEnds.f
  have h := l0_ends l hl l.length 0 [] (2 * l.length + 1) (by omega) (by simp) (by omega)
  simpa using h

end Go.Proofs.YtbojlohjmbhifaaGreatDoor
