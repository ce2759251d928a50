/- The line ends of a text, as a plain list, and what they say of a place. -/
import Derived.Test.YtbojlohjmbhifaaPFnWhereBackx
import Derived.Test.YtbojlohjmbhifaaLoc
namespace Go.Proofs.Ytbojlohjmbhifaa
open Go.RowKit Go.Proofs.YtbojlohjmbhifaaW.PrintWords Go.Proofs.YtbojlohjmbhifaaW.PrintMore
open PFnWhereBack (location_zzLineEnds.f location_zzLineEnds.l0 location_zzLineEnds.j1)

theorem wrap_in {x : Int} (h0 : 0 ≤ x) (h : x ≤ 4611686018427387904) : wrap64 x = x := by
  unfold wrap64
  omega

/-- The line ends from place i on, 'd' bytes before the end. -/
def ends (l : List Int) : Nat → Nat → List (List Int)
  | 0, _ => []
  | 1, i => if rd l i = 13 ∨ rd l i = 10 then [[(i : Int), (i : Int) + 1]] else []
  | d + 2, i => if rd l i = 13 ∧ rd l (i + 1) = 10 then [(i : Int), (i : Int) + 2] :: ends l d (i + 2)
      else if rd l i = 13 ∨ rd l i = 10 then [(i : Int), (i : Int) + 1] :: ends l (d + 1) (i + 1) else ends l (d + 1) (i + 1)

theorem ends_ok (l : List Int) : ∀ (d i : Nat), i + d = l.length → ∀ m ∈ ends l d i, m.length = 2 ∧ 0 ≤ rd m 0 ∧ rd m 0 ≤ rd m 1 ∧ rd m 1 ≤ (l.length : Int)
  | 0, _, _, m, hm => by simp [ends] at hm
  | 1, i, hd, m, hm => by
    unfold ends at hm
    split at hm
    · obtain rfl : m = [(i : Int), (i : Int) + 1] := by simpa using hm
      refine ⟨rfl, ?_⟩
      simp [rd]
      omega
    · simp at hm
  | d + 2, i, hd, m, hm => by
    unfold ends at hm
    split at hm
    · rcases List.mem_cons.1 hm with rfl | h
      · refine ⟨rfl, ?_⟩
        simp [rd]
        omega
      · exact ends_ok l d (i + 2) (by omega) m h
    · split at hm
      · rcases List.mem_cons.1 hm with rfl | h
        · refine ⟨rfl, ?_⟩
          simp [rd]
          omega
        · exact ends_ok l (d + 1) (i + 1) (by omega) m h
      · exact ends_ok l (d + 1) (i + 1) (by omega) m hm

theorem ends_len (l : List Int) : ∀ (d i : Nat), (ends l d i).length ≤ d
  | 0, _ => by simp [ends]
  | 1, i => by unfold ends; split <;> simp
  | d + 2, i => by
    have h1 := ends_len l d (i + 2)
    have h2 := ends_len l (d + 1) (i + 1)
    unfold ends
    split
    · simp; omega
    · split
      · simp; omega
      · omega

theorem j1_true {k : Nat} {l : List Int} {acc : List (List Int)} {i : Nat} (hl : l.length ≤ 4294967296) (hi : i < l.length) (ha : acc.length ≤ i) :
    location_zzLineEnds.j1 (k + 1) l acc i true = location_zzLineEnds.l0 k l (acc ++ [[(i : Int), (i : Int) + 2]]) ((i + 2 : Nat) : Int) := by
  simp only [location_zzLineEnds.j1]
  rw [if_pos trivial, if_pos (by omega), wrap_in (by omega) (by omega), wrap_in (x := (i : Int) + 1) (by omega) (by omega), wrap_in (by omega) (by omega)]
  rw [show (i : Int) + 1 + 1 = ((i + 2 : Nat) : Int) by omega]

theorem j1_false {k : Nat} {l : List Int} {acc : List (List Int)} {i : Nat} (hl : l.length ≤ 4294967296) (hi : i < l.length) (ha : acc.length ≤ i) :
    location_zzLineEnds.j1 (k + 1) l acc i false = location_zzLineEnds.l0 k l (if rd l i = 13 ∨ rd l i = 10 then acc ++ [[(i : Int), (i : Int) + 1]] else acc) ((i + 1 : Nat) : Int) := by
  simp only [location_zzLineEnds.j1]
  rw [if_neg (by simp), if_pos (by omega), if_pos (by omega), wrap_in (x := (i : Int) + 1) (by omega) (by omega), show (i : Int) + 1 = ((i + 1 : Nat) : Int) by omega]
  by_cases h1 : rd l i = 13
  · rw [if_pos h1, if_pos (by omega), if_pos (Or.inl h1)]
  · rw [if_neg h1]
    by_cases h2 : rd l i = 10
    · rw [if_pos h2, if_pos (by omega), if_pos (Or.inr h2)]
    · rw [if_neg h2, if_neg (by omega)]

theorem l0_step {k : Nat} {l : List Int} {acc : List (List Int)} {i : Nat} (hl : l.length ≤ 4294967296) (hi : i < l.length) :
    location_zzLineEnds.l0 (k + 1) l acc i = location_zzLineEnds.j1 k l acc i (decide (rd l i = 13 ∧ i + 1 < l.length ∧ rd l (i + 1) = 10)) := by
  simp only [location_zzLineEnds.l0]
  rw [if_pos (by omega), if_pos (by omega), wrap_in (x := (i : Int) + 1) (by omega) (by omega)]
  by_cases h1 : rd l i = 13
  · rw [if_pos h1]
    by_cases h2 : i + 1 < l.length
    · rw [if_pos (by omega), if_pos (by omega)]
      congr 1
      by_cases h3 : rd l (↑i + 1) = 10
      · simp [h1, h2, h3]
      · simp [h3]
    · rw [if_neg (by omega)]
      congr 1
      simp [h2]
  · rw [if_neg h1]
    congr 1
    simp [h1]

theorem l0_ends (l : List Int) (hl : l.length ≤ 4294967296) : ∀ (d i : Nat) (acc : List (List Int)) (k : Nat), i + d = l.length → acc.length ≤ i → 2 * d < k → location_zzLineEnds.l0 k l acc i = some (acc ++ ends l d i)
  | 0, i, acc, k, hd, ha, hk => by
    obtain ⟨k, rfl⟩ : ∃ m, k = m + 1 := ⟨k - 1, by omega⟩
    simp only [location_zzLineEnds.l0]
    rw [if_neg (by omega)]
    simp [ends]
  | 1, i, acc, k, hd, ha, hk => by
    obtain ⟨k, rfl⟩ : ∃ m, k = m + 2 := ⟨k - 2, by omega⟩
    rw [l0_step hl (by omega), show decide (rd l i = 13 ∧ i + 1 < l.length ∧ rd l (i + 1) = 10) = false by simp; omega, j1_false hl (by omega) ha]
    rw [l0_ends l hl 0 (i + 1) (if rd l i = 13 ∨ rd l i = 10 then acc ++ [[(i : Int), (i : Int) + 1]] else acc) k (by omega) (by split <;> (try simp) <;> omega) (by omega)]
    simp only [ends]
    split <;> simp
  | d + 2, i, acc, k, hd, ha, hk => by
    obtain ⟨k, rfl⟩ : ∃ m, k = m + 2 := ⟨k - 2, by omega⟩
    rw [l0_step hl (by omega)]
    by_cases h1 : rd l i = 13 ∧ rd l (i + 1) = 10
    · rw [show decide (rd l i = 13 ∧ i + 1 < l.length ∧ rd l (i + 1) = 10) = true by simp [h1]; omega, j1_true hl (by omega) ha, l0_ends l hl d (i + 2) _ k (by omega) (by simp; omega) (by omega)]
      simp only [ends]
      rw [if_pos h1]
      simp
    · rw [show decide (rd l i = 13 ∧ i + 1 < l.length ∧ rd l (i + 1) = 10) = false by simp; intro a _; exact fun b => h1 ⟨a, b⟩, j1_false hl (by omega) ha, l0_ends l hl (d + 1) (i + 1) (if rd l i = 13 ∨ rd l i = 10 then acc ++ [[(i : Int), (i : Int) + 1]] else acc) k (by omega) (by split <;> (try simp) <;> omega) (by omega)]
      simp only [ends]
      rw [if_neg h1]
      split <;> simp

theorem f_ends (l : List Int) (hl : l.length ≤ 4294967296) : location_zzLineEnds.f (2 * l.length + 1) l = some (ends l l.length 0) := by
  unfold location_zzLineEnds.f
  have h := l0_ends l hl l.length 0 [] (2 * l.length + 1) (by omega) (by simp) (by omega)
  simpa using h

/-- Is byte i a line end that is counted? -/
def endAt (l : List Int) (i : Nat) : Bool := decide (rd l i = 10 ∨ rd l i = 13 ∧ (i + 1 = l.length ∨ rd l (i + 1) ≠ 10))

/-- The line ends among 'e' bytes from i on: how many, and where the last one ends. -/
def cnt (l : List Int) : Nat → Nat → Int → Int → Int × Int
  | 0, _, n, f => (n, f)
  | e + 1, i, n, f => if endAt l i = true then cnt l e (i + 1) (n + 1) (i + 1) else cnt l e (i + 1) n f

theorem gl_none (place : Int) (l : List Int) : ∀ (d i : Nat) (a b : Int), place ≤ i → gl place (ends l d i) a b = (a, b)
  | 0, _, _, _, _ => by simp [ends, gl]
  | 1, i, a, b, h => by
    unfold ends
    split
    · simp only [gl]
      rw [if_neg (by simp [rd]; omega)]
    · simp [gl]
  | d + 2, i, a, b, h => by
    unfold ends
    split
    · simp only [gl]
      rw [if_neg (by simp [rd]; omega)]
    · split
      · simp only [gl]
        rw [if_neg (by simp [rd]; omega)]
      · exact gl_none place l (d + 1) (i + 1) a b (by omega)

theorem gl_cnt (l : List Int) (place : Nat) (hp : place ≤ l.length) (hno : ¬ (0 < place ∧ place < l.length ∧ rd l ((place : Int) - 1) = 13 ∧ rd l place = 10)) :
    ∀ (e d i : Nat) (n f : Int), i + e = place → i + d = l.length → gl place (ends l d i) n (place - f + 1) = ((cnt l e i n f).1, place - (cnt l e i n f).2 + 1)
  | 0, d, i, n, f, he, hd => by
    rw [gl_none _ _ _ _ _ _ (by omega)]
    rfl
  | e + 1, 0, i, n, f, he, hd => by omega
  | e + 1, 1, i, n, f, he, hd => by
    obtain rfl : e = 0 := by omega
    simp only [cnt, ends]
    by_cases h : rd l i = 13 ∨ rd l i = 10
    · rw [if_pos h, if_pos (by unfold endAt; simp; omega)]
      simp only [gl]
      rw [if_pos (by simp [rd]; omega)]
      simp [rd]
      omega
    · rw [if_neg h, if_neg (by unfold endAt; simp; omega)]
      simp [gl]
  | e + 1, d + 2, i, n, f, he, hd => by
    by_cases h : rd l i = 13 ∧ rd l (i + 1) = 10
    · obtain ⟨e, rfl⟩ : ∃ m, e = m + 1 := ⟨e - 1, by
        have : e ≠ 0 := by
          rintro rfl
          refine hno ⟨by omega, by omega, ?_, ?_⟩
          · rw [show (place : Int) - 1 = i by omega]; exact h.1
          · rw [show (place : Int) = (i : Int) + 1 by omega]; exact h.2
        omega⟩
      have ih := gl_cnt l place hp hno e d (i + 2) (n + 1) (i + 2) (by omega) (by omega)
      have e1 : endAt l i = false := by unfold endAt; simp [h.1, h.2]; omega
      have e2 : endAt l (i + 1) = true := by unfold endAt; simp; exact Or.inl h.2
      simp only [cnt, ends]
      rw [if_pos h, if_neg (by rw [e1]; simp), if_pos e2]
      simp only [gl]
      rw [if_pos (by simp [rd]; omega)]
      have e3 : (place : Int) + 1 - (rd [(i : Int), (i : Int) + 2] 0 + (rd [(i : Int), (i : Int) + 2] 1 - rd [(i : Int), (i : Int) + 2] 0)) = place - ((i : Int) + 2) + 1 := by simp [rd]; omega
      rw [e3, ih]
      have e4 : ((i + 1 : Nat) : Int) + 1 = (i : Int) + 2 := by omega
      rw [e4]
    · simp only [cnt, ends]
      rw [if_neg h]
      by_cases h2 : rd l i = 13 ∨ rd l i = 10
      · have ih := gl_cnt l place hp hno e (d + 1) (i + 1) (n + 1) (i + 1) (by omega) (by omega)
        rw [if_pos h2, if_pos (by
          unfold endAt
          simp
          rcases h2 with h3 | h3
          · exact Or.inr ⟨h3, Or.inr (fun h4 => h ⟨h3, h4⟩)⟩
          · exact Or.inl h3)]
        simp only [gl]
        rw [if_pos (by simp [rd]; omega)]
        have e3 : (place : Int) + 1 - (rd [(i : Int), (i : Int) + 1] 0 + (rd [(i : Int), (i : Int) + 1] 1 - rd [(i : Int), (i : Int) + 1] 0)) = place - ((i : Int) + 1) + 1 := by simp [rd]; omega
        rw [e3]
        exact ih
      · have ih := gl_cnt l place hp hno e (d + 1) (i + 1) n f (by omega) (by omega)
        rw [if_neg h2, if_neg (by
          unfold endAt
          simp
          exact ⟨fun h3 => h2 (Or.inr h3), fun h3 => absurd (Or.inl h3) h2⟩)]
        exact ih
end Go.Proofs.Ytbojlohjmbhifaa
