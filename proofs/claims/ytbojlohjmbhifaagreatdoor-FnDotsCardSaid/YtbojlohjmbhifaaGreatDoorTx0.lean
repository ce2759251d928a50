/- Texts as lists of bytes: which token stands at a place. -/
import Derived.Test.YtbojlohjmbhifaaGreatDoorTk1
import Derived.Test.YtbojlohjmbhifaaGreatDoorRt1
import Derived.Test.YtbojlohjmbhifaaGreatDoorRt2
import Derived.Test.YtbojlohjmbhifaaGreatDoorRt3
import Derived.Test.YtbojlohjmbhifaaGreatDoorRt5
namespace Go.Proofs.YtbojlohjmbhifaaGreatDoor
open Go.RowKit Go.Proofs.YtbojlohjmbhifaaGreatDoorW.PrintWords Go.Proofs.YtbojlohjmbhifaaGreatDoorW.PrintMore

/-- The code at a place of a list: below 0 behind its end. -/
def lc (l : List UInt8) (j : Nat) : Int := match l[j]? with
  | some b => (b.toNat : Int)
  | none => -1

theorem cd_list (s : ByteArray) (j : Nat) : cd s j = lc s.data.toList j := by
  unfold lc
  by_cases h : j < s.size
  · have h' : j < s.data.toList.length := by rw [Array.length_toList]; exact h
    rw [cd_in h, List.getElem?_eq_getElem h']
    rfl
  · rw [cd_out (by omega), List.getElem?_eq_none (by rw [Array.length_toList]; show s.size ≤ j; omega)]

theorem lc_drop (l : List UInt8) (p j : Nat) : lc (l.drop p) j = lc l (p + j) := by
  unfold lc
  rw [List.getElem?_drop]

theorem lc_at (a : List UInt8) (c : UInt8) (r : List UInt8) : lc (a ++ c :: r) a.length = (c.toNat : Int) := by
  unfold lc
  simp

theorem lc_nil (j : Nat) : lc [] j = -1 := rfl

theorem lc_left {a r : List UInt8} {j : Nat} (h : j < a.length) : lc (a ++ r) j = (a[j].toNat : Int) := by
  unfold lc
  rw [List.getElem?_append_left h, List.getElem?_eq_getElem h]

theorem lc_right (a r : List UInt8) (j : Nat) : lc (a ++ r) (a.length + j) = lc r j := by
  unfold lc
  rw [List.getElem?_append_right (by omega), Nat.add_sub_cancel_left]

/-- From place p on the text is l. -/
structure From (s : ByteArray) (p : Nat) (l : List UInt8) : Prop where
  eq : s.data.toList.drop p = l
  le : p ≤ s.size

theorem From.size {s : ByteArray} {p : Nat} {l : List UInt8} (h : From s p l) : s.size = p + l.length := by
  have h1 := congrArg List.length h.eq
  rw [List.length_drop, Array.length_toList] at h1
  have h2 : s.data.size = s.size := rfl
  have := h.le
  omega

theorem From.code {s : ByteArray} {p : Nat} {l : List UInt8} (h : From s p l) (j : Nat) : cd s (p + j : Nat) = lc l j := by
  rw [cd_list, ← lc_drop, h.eq]

theorem From.at0 {s : ByteArray} {p : Nat} {l : List UInt8} (h : From s p l) : cd s p = lc l 0 := h.code 0

theorem From.skip {s : ByteArray} {p : Nat} {a l : List UInt8} (h : From s p (a ++ l)) : From s (p + a.length) l := by
  refine ⟨?_, by have := h.size; simp at this; omega⟩
  rw [← List.drop_drop, h.eq, List.drop_left]

theorem From.whole (s : ByteArray) : From s 0 s.data.toList := ⟨rfl, Nat.zero_le _⟩

theorem From.cut {s : ByteArray} {p : Nat} {a r : List UInt8} (h : From s p (a ++ r)) : s.extract p (p + a.length) = ⟨a.toArray⟩ := by
  have hz := h.size
  rw [List.length_append] at hz
  have hl := extract_list s p (p + a.length) (by omega)
  have e : (s.extract p (p + a.length)).data.toList = a := by
    refine List.ext_getElem (by omega) (fun j h1 h2 => ?_)
    rw [extract_get s p (p + a.length) j (by omega) h1]
    have hc := h.code j
    rw [cd_in (by omega), lc_left h2] at hc
    exact UInt8.toNat.inj (by omega)
  have e2 : (s.extract p (p + a.length)).data = a.toArray := by
    have e3 := congrArg List.toArray e
    rwa [Array.toArray_toList] at e3
  exact congrArg ByteArray.mk e2

def blank8 (c : UInt8) : Bool := c == 9 || c == 32 || c == 10 || c == 13 || c == 44
def digit8 (c : UInt8) : Bool := 48 ≤ c.toNat && c.toNat ≤ 57
def nameStart8 (c : UInt8) : Bool := (65 ≤ c.toNat && c.toNat ≤ 90) || (97 ≤ c.toNat && c.toNat ≤ 122) || c.toNat == 95
def nameChar8 (c : UInt8) : Bool := nameStart8 c || digit8 c
def plain8 (c : UInt8) : Bool := 32 ≤ c.toNat && c.toNat != 34 && c.toNat != 92

theorem blank_of {c : UInt8} (h : blank8 c = true) : blank (c.toNat : Int) := by
  unfold blank8 at h
  simp only [Bool.or_eq_true, beq_iff_eq] at h
  rcases h with (((h | h) | h) | h) | h <;> subst h <;> simp [blank]

theorem From.ahead {s : ByteArray} {p : Nat} {g t : List UInt8} (h : From s p (g ++ t)) (hg : ∀ c ∈ g, blank8 c = true) (ht : t ≠ []) : Ahead s p (p + g.length) := by
  have hz := h.size
  rw [List.length_append] at hz
  have hl : 0 < t.length := List.length_pos_iff.2 ht
  refine ⟨by omega, by omega, fun j h1 h2 => ?_⟩
  obtain ⟨i, rfl⟩ : ∃ i, j = p + i := ⟨j - p, by omega⟩
  have hi : i < g.length := by omega
  rw [h.code i, lc_left hi]
  exact blank_of (hg _ (List.getElem_mem hi))

/-- The end of the text, blanks ahead of it. -/
theorem end_at {s : ByteArray} {p : Nat} {g : List UInt8} (h : From s p g) (hg : ∀ c ∈ g, blank8 c = true) : ∃ e v, Tok s p 1 e e v := by
  have hz := h.size
  refine ⟨s.size, ⟨#[]⟩, tok_end s p (by omega) (fun j h1 h2 => ?_)⟩
  obtain ⟨i, rfl⟩ : ∃ i, j = p + i := ⟨j - p, by omega⟩
  have hi : i < g.length := by omega
  have h' : From s p (g ++ []) := by rw [List.append_nil]; exact h
  rw [h'.code i, lc_left hi]
  exact blank_of (hg _ (List.getElem_mem hi))

theorem nameChar_of {c : UInt8} (h : nameChar8 c = true) : nameChar (c.toNat : Int) := by
  unfold nameChar8 nameStart8 digit8 at h
  simp only [Bool.or_eq_true, Bool.and_eq_true, decide_eq_true_eq, beq_iff_eq] at h
  unfold nameChar
  omega
theorem nameEnd_of {c : UInt8} (h : nameChar8 c = false) : nameEnd (c.toNat : Int) := by
  unfold nameChar8 nameStart8 digit8 at h
  simp only [Bool.or_eq_false_iff, Bool.and_eq_false_iff, decide_eq_false_iff_not, beq_eq_false_iff_ne] at h
  unfold nameEnd
  omega

/-- A name at a place, blanks ahead of it. -/
theorem name_at {s : ByteArray} {p : Nat} {g t r : List UInt8} {c : UInt8} (h : From s p (g ++ (c :: t ++ r))) (hg : ∀ c ∈ g, blank8 c = true) (hc : nameStart8 c = true) (ht : ∀ c ∈ t, nameChar8 c = true) (hr : ∀ d r', r = d :: r' → nameChar8 d = false) :
    Tok s p 15 (p + g.length) (p + g.length + (t.length + 1)) ⟨(c :: t).toArray⟩ := by
  have h1 := h.skip
  have hz := h1.size
  simp only [List.length_append, List.length_cons] at hz
  have ha := h.ahead hg (by simp)
  have hcut := h1.cut
  rw [List.length_cons] at hcut
  rw [← hcut]
  refine tok_name s p (p + g.length) (p + g.length + (t.length + 1)) ha ?_ (by omega) (by omega) (fun j h2 h3 => ?_) (fun h2 => ?_)
  · rw [h1.at0]
    unfold lc nameStart
    unfold nameStart8 at hc
    simp only [Bool.or_eq_true, Bool.and_eq_true, decide_eq_true_eq, beq_iff_eq] at hc
    simp only [List.cons_append, List.getElem?_cons_zero]
    omega
  · obtain ⟨i, rfl⟩ : ∃ i, j = p + g.length + (i + 1) := ⟨j - (p + g.length) - 1, by omega⟩
    have hi : i < t.length := by omega
    rw [h1.code (i + 1), lc_left (by simp; omega)]
    simp only [List.getElem_cons_succ]
    exact nameChar_of (ht _ (List.getElem_mem hi))
  · have e := lc_right (c :: t) r 0
    rw [Nat.add_zero, List.length_cons] at e
    rw [h1.code (t.length + 1), e]
    cases r with
    | nil => simp at hz; omega
    | cons d r' => exact nameEnd_of (hr d r' rfl)
end Go.Proofs.YtbojlohjmbhifaaGreatDoor
