/- Texts as lists of bytes: which token stands at a place. -/
import Derived.Test.YtbojlohjmbhifaaGreatDoorTk
import Derived.Test.YtbojlohjmbhifaaGreatDoorRt1
import Derived.Test.YtbojlohjmbhifaaGreatDoorRt2
import Derived.Test.YtbojlohjmbhifaaGreatDoorRt3
import Derived.Test.YtbojlohjmbhifaaGreatDoorRt5
namespace Go.Proofs.YtbojlohjmbhifaaGreatDoor
open Go.RowKit Go.Proofs.YtbojlohjmbhifaaGreatDoorW.PrintWords Go.Proofs.YtbojlohjmbhifaaGreatDoorW.PrintMore

/-- The code at a place of a list: below 0 behind its end. -/
def lc (l : List UInt8) (j : Nat) : Int := match l[j]? with
  | some b => (b.toNat : Int)
  | none => -1

theorem cd_list (s : ByteArray) (j : Nat) : cd s j = lc s.data.toList j := by
  unfold lc
  by_cases h : j < s.size
  · have h' : j < s.data.toList.length := by rw [Array.length_toList]; exact h
    rw [cd_in h, List.getElem?_eq_getElem h']
    rfl
  · rw [cd_out (by omega), List.getElem?_eq_none (by rw [Array.length_toList]; show s.size ≤ j; omega)]

theorem lc_drop (l : List UInt8) (p j : Nat) : lc (l.drop p) j = lc l (p + j) := by
  unfold lc
  rw [List.getElem?_drop]

theorem lc_at (a : List UInt8) (c : UInt8) (r : List UInt8) : lc (a ++ c :: r) a.length = (c.toNat : Int) := by
  unfold lc
  simp

theorem lc_nil (j : Nat) : lc [] j = -1 := rfl

theorem lc_left {a r : List UInt8} {j : Nat} (h : j < a.length) : lc (a ++ r) j = (a[j].toNat : Int) := by
  unfold lc
  rw [List.getElem?_append_left h, List.getElem?_eq_getElem h]

theorem lc_right (a r : List UInt8) (j : Nat) : lc (a ++ r) (a.length + j) = lc r j := by
  unfold lc
  rw [List.getElem?_append_right (by omega), Nat.add_sub_cancel_left]

/-- From place p on the text is l. -/
structure From (s : ByteArray) (p : Nat) (l : List UInt8) : Prop where
  eq : s.data.toList.drop p = l
  le : p ≤ s.size

theorem From.size {s : ByteArray} {p : Nat} {l : List UInt8} (h : From s p l) : s.size = p + l.length := by
  have h1 := congrArg List.length h.eq
  rw [List.length_drop, Array.length_toList] at h1
  have h2 : s.data.size = s.size := rfl
  have := h.le
  omega

theorem From.code {s : ByteArray} {p : Nat} {l : List UInt8} (h : From s p l) (j : Nat) : cd s (p + j : Nat) = lc l j := by
  rw [cd_list, ← lc_drop, h.eq]

theorem From.at0 {s : ByteArray} {p : Nat} {l : List UInt8} (h : From s p l) : cd s p = lc l 0 := h.code 0

theorem From.skip {s : ByteArray} {p : Nat} {a l : List UInt8} (h : From s p (a ++ l)) : From s (p + a.length) l := by
  refine ⟨?_, by have := h.size; simp at this; omega⟩
  rw [← List.drop_drop, h.eq, List.drop_left]

theorem From.whole (s : ByteArray) : From s 0 s.data.toList := ⟨rfl, Nat.zero_le _⟩

theorem From.cut {s : ByteArray} {p : Nat} {a r : List UInt8} (h : From s p (a ++ r)) : s.extract p (p + a.length) = ⟨a.toArray⟩ := by
  have hz := h.size
  rw [List.length_append] at hz
  have hl := extract_list s p (p + a.length) (by omega)
  have e : (s.extract p (p + a.length)).data.toList = a := by
    refine List.ext_getElem (by omega) (fun j h1 h2 => ?_)
    rw [extract_get s p (p + a.length) j (by omega) h1]
    have hc := h.code j
    rw [cd_in (by omega), lc_left h2] at hc
    exact UInt8.toNat.inj (by omega)
  have e2 : (s.extract p (p + a.length)).data = a.toArray := by
    have e3 := congrArg List.toArray e
    rwa [Array.toArray_toList] at e3
  exact congrArg ByteArray.mk e2

def blank8 (c : UInt8) : Bool := c == 9 || c == 32 || c == 10 || c == 13 || c == 44
def digit8 (c : UInt8) : Bool := 48 ≤ c.toNat && c.toNat ≤ 57
def nameStart8 (c : UInt8) : Bool := (65 ≤ c.toNat && c.toNat ≤ 90) || (97 ≤ c.toNat && c.toNat ≤ 122) || c.toNat == 95
def nameChar8 (c : UInt8) : Bool := nameStart8 c || digit8 c
def plain8 (c : UInt8) : Bool := 32 ≤ c.toNat && c.toNat != 34 && c.toNat != 92

theorem blank_of {c : UInt8} (h : blank8 c = true) : blank (c.toNat : Int) := by
  unfold blank8 at h
  simp only [Bool.or_eq_true, beq_iff_eq] at h
  rcases h with (((h | h) | h) | h) | h <;> subst h <;> simp [blank]

theorem From.ahead {s : ByteArray} {p : Nat} {g t : List UInt8} (h : From s p (g ++ t)) (hg : ∀ c ∈ g, blank8 c = true) (ht : t ≠ []) : Ahead s p (p + g.length) := by
  have hz := h.size
  rw [List.length_append] at hz
  have hl : 0 < t.length := List.length_pos_iff.2 ht
  refine ⟨by omega, by omega, fun j h1 h2 => ?_⟩
  obtain ⟨i, rfl⟩ : ∃ i, j = p + i := ⟨j - p, by omega⟩
  have hi : i < g.length := by omega
  rw [h.code i, lc_left hi]
  exact blank_of (hg _ (List.getElem_mem hi))

/-- The end of the text, blanks ahead of it. -/
theorem end_at {s : ByteArray} {p : Nat} {g : List UInt8} (h : From s p g) (hg : ∀ c ∈ g, blank8 c = true) : ∃ e v, Tok s p 1 e e v := by
  have hz := h.size
  refine ⟨s.size, ⟨#[]⟩, tok_end s p (by omega) (fun j h1 h2 => ?_)⟩
  obtain ⟨i, rfl⟩ : ∃ i, j = p + i := ⟨j - p, by omega⟩
  have hi : i < g.length := by omega
  have h' : From s p (g ++ []) := by rw [List.append_nil]; exact h
  rw [h'.code i, lc_left hi]
  exact blank_of (hg _ (List.getElem_mem hi))

theorem nameChar_of {c : UInt8} (h : nameChar8 c = true) : nameChar (c.toNat : Int) := by
  unfold nameChar8 nameStart8 digit8 at h
  simp only [Bool.or_eq_true, Bool.and_eq_true, decide_eq_true_eq, beq_iff_eq] at h
  unfold nameChar
  omega
theorem nameEnd_of {c : UInt8} (h : nameChar8 c = false) : nameEnd (c.toNat : Int) := by
  unfold nameChar8 nameStart8 digit8 at h
  simp only [Bool.or_eq_false_iff, Bool.and_eq_false_iff, decide_eq_false_iff_not, beq_eq_false_iff_ne] at h
  unfold nameEnd
  omega

/-- A name at a place, blanks ahead of it. -/
theorem name_at {s : ByteArray} {p : Nat} {g t r : List UInt8} {c : UInt8} (h : From s p (g ++ (c :: t ++ r))) (hg : ∀ c ∈ g, blank8 c = true) (hc : nameStart8 c = true) (ht : ∀ c ∈ t, nameChar8 c = true) (hr : ∀ d r', r = d :: r' → nameChar8 d = false) :
    Tok s p 15 (p + g.length) (p + g.length + (t.length + 1)) ⟨(c :: t).toArray⟩ := by
  have h1 := h.skip
  have hz := h1.size
  simp only [List.length_append, List.length_cons] at hz
  have ha := h.ahead hg (by simp)
  have hcut := h1.cut
  rw [List.length_cons] at hcut
  rw [← hcut]
  refine tok_name s p (p + g.length) (p + g.length + (t.length + 1)) ha ?_ (by omega) (by omega) (fun j h2 h3 => ?_) (fun h2 => ?_)
  · rw [h1.at0]
    unfold lc nameStart
    unfold nameStart8 at hc
    simp only [Bool.or_eq_true, Bool.and_eq_true, decide_eq_true_eq, beq_iff_eq] at hc
    simp only [List.cons_append, List.getElem?_cons_zero]
    omega
  · obtain ⟨i, rfl⟩ : ∃ i, j = p + g.length + (i + 1) := ⟨j - (p + g.length) - 1, by omega⟩
    have hi : i < t.length := by omega
    rw [h1.code (i + 1), lc_left (by simp; omega)]
    simp only [List.getElem_cons_succ]
    exact nameChar_of (ht _ (List.getElem_mem hi))
  · have e := lc_right (c :: t) r 0
    rw [Nat.add_zero, List.length_cons] at e
    rw [h1.code (t.length + 1), e]
    cases r with
    | nil => simp at hz; omega
    | cons d r' => exact nameEnd_of (hr d r' rfl)
end Go.Proofs.YtbojlohjmbhifaaGreatDoor

/-! 'refused9' and 'only9': what they say of a text whose steps are known. -/
namespace Go.Proofs.YtbojlohjmbhifaaGreatDoor
open Go.RowKit Go.Proofs.YtbojlohjmbhifaaGreatDoorW.PrintWords Go.Proofs.YtbojlohjmbhifaaGreatDoorW.PrintMore

theorem noDigit_of {c : UInt8} (h : digit8 c = false) : noDigit (c.toNat : Int) := by
  unfold digit8 at h
  simp only [Bool.and_eq_false_iff, decide_eq_false_iff_not] at h
  unfold noDigit
  omega
theorem digit_of {c : UInt8} (h : digit8 c = true) : digit (c.toNat : Int) := by
  unfold digit8 at h
  simp only [Bool.and_eq_true, decide_eq_true_eq] at h
  unfold digit
  omega
theorem noDigit_lc {r : List UInt8} (h : ∀ d r', r = d :: r' → digit8 d = false) : noDigit (lc r 0) := by
  cases r with
  | nil => exact .inl (by rw [lc_nil]; omega)
  | cons d r' => exact noDigit_of (h d r' rfl)

/-- Digits at a place. -/
theorem digits_at {s : ByteArray} {p : Nat} {t r : List UInt8} (h : From s p (t ++ r)) (hne : t ≠ []) (ht : ∀ c ∈ t, digit8 c = true) (hr : ∀ d r', r = d :: r' → digit8 d = false) : digitsTo s p (p + t.length) := by
  have hl : 0 < t.length := List.length_pos_iff.2 hne
  refine ⟨by omega, fun j h1 h2 => ?_, ?_⟩
  · obtain ⟨i, rfl⟩ : ∃ i, j = p + i := ⟨j - p, by omega⟩
    have hi : i < t.length := by omega
    rw [h.code i, lc_left hi]
    exact digit_of (ht _ (List.getElem_mem hi))
  · rw [h.skip.at0]
    exact noDigit_lc hr

theorem lc_ne {r : List UInt8} {v : UInt8} (h : ∀ d r', r = d :: r' → d ≠ v) : (lc r 0 == (v.toNat : Int)) = false := by
  rw [beq_eq_false_iff_ne]
  cases r with
  | nil => rw [lc_nil]; omega
  | cons d r' =>
    intro e
    refine h d r' rfl (UInt8.toNat.inj ?_)
    have e2 : (d.toNat : Int) = v.toNat := e
    omega

/-- An Int without a sign at a place, blanks ahead of it. -/
theorem int_at {s : ByteArray} {p : Nat} {g t r : List UInt8} (h : From s p (g ++ (t ++ r))) (hg : ∀ c ∈ g, blank8 c = true) (hne : t ≠ []) (ht : ∀ c ∈ t, digit8 c = true) (h0 : ∀ c u, t = 48 :: c :: u → False)
    (hr : ∀ d r', r = d :: r' → digit8 d = false ∧ d ≠ 46 ∧ d ≠ 69 ∧ d ≠ 101) : Tok s p 16 (p + g.length) (p + g.length + t.length) ⟨t.toArray⟩ := by
  have h1 := h.skip
  have hz := h1.size
  rw [List.length_append] at hz
  have hl : 0 < t.length := List.length_pos_iff.2 hne
  have ha := h.ahead hg (by simp [hne])
  have hd := digits_at h1 hne ht (fun d r' e => (hr d r' e).1)
  have hend := h1.skip.at0
  rw [← h1.cut]
  refine tok_number s p (p + g.length) (p + g.length) (p + g.length + t.length) (p + g.length + t.length) (p + g.length + t.length) false false ha ⟨?_, ?_, ?_, ?_, by omega, ⟨by omega, by omega, by omega⟩⟩
  · refine .inr ⟨?_, rfl⟩
    rw [beq_eq_false_iff_ne]
    have := hd.2.1 (p + g.length) (Nat.le_refl _) (by omega)
    unfold digit at this
    omega
  · cases e : (cd s (p + g.length : Nat) == 48) with
    | false => exact .inr ⟨rfl, hd⟩
    | true =>
      refine .inl ⟨rfl, ?_, hd.2.2⟩
      rw [beq_iff_eq, h1.at0] at e
      cases t with
      | nil => exact absurd rfl hne
      | cons c u =>
        have hc : c = 48 := by
          have e2 : (c.toNat : Int) = 48 := e
          exact UInt8.toNat.inj (show c.toNat = 48 by omega)
        subst hc
        cases u with
        | nil => rfl
        | cons c2 u2 => exact (h0 c2 u2 rfl).elim
  · refine .inl ⟨?_, rfl, rfl⟩
    rw [hend]
    exact lc_ne (v := 46) (fun d r' e => (hr d r' e).2.1)
  · refine .inl ⟨?_, ?_, rfl, rfl⟩
    · rw [hend]
      exact lc_ne (v := 69) (fun d r' e => (hr d r' e).2.2.1)
    · rw [hend]
      exact lc_ne (v := 101) (fun d r' e => (hr d r' e).2.2.2)

/-- A string of plain signs at a place, blanks ahead of it. -/
theorem string_at {s : ByteArray} {p : Nat} {g t r : List UInt8} (h : From s p (g ++ (34 :: t ++ 34 :: r))) (hg : ∀ c ∈ g, blank8 c = true) (hne : t ≠ []) (ht : ∀ c ∈ t, plain8 c = true) : Tok s p 18 (p + g.length) (p + g.length + (t.length + 2)) ⟨t.toArray⟩ := by
  have h1 := h.skip
  have h2 : From s (p + g.length + 1) (t ++ 34 :: r) := From.skip (a := [34]) h1
  have hz := h1.size
  simp only [List.length_append, List.length_cons] at hz
  have hl : 0 < t.length := List.length_pos_iff.2 hne
  have ha := h.ahead hg (by simp)
  have hcut := h2.cut
  have hps : ∀ j : Nat, p + g.length < j → j < p + g.length + 1 + t.length → plainSign (cd s j) := by
    intro j h3 h4
    obtain ⟨i, rfl⟩ : ∃ i, j = p + g.length + 1 + i := ⟨j - (p + g.length + 1), by omega⟩
    have hi : i < t.length := by omega
    rw [h2.code i, lc_left hi]
    have := ht _ (List.getElem_mem hi)
    unfold plain8 at this
    simp only [Bool.and_eq_true, decide_eq_true_eq, bne_iff_ne] at this
    unfold plainSign
    omega
  have hst := str_plain s (p + g.length) (p + g.length + 1 + t.length) (by omega) (by omega) hps (by rw [h2.skip.at0]; rfl)
  rw [hcut] at hst
  have hk := tok_string s p (p + g.length) (p + g.length + 1 + t.length + 1) ⟨t.toArray⟩ ha (by rw [h1.at0]; rfl) (by have := hps (p + g.length + 1) (by omega) (by omega); exact this.2.1) hst
  rwa [show p + g.length + (t.length + 2) = p + g.length + 1 + t.length + 1 by omega]

/-- The text that is not refused, by which 'refused9' looks. -/
def fineText : ByteArray := ⟨#[97, 32, 49, 32, 34, 98, 34]⟩
theorem run_fine : ∃ ts, Run fineText 0 ts true := by
  have h0 : From fineText 0 ([] ++ ([97] ++ [32, 49, 32, 34, 98, 34])) := ⟨rfl, by decide⟩
  have h1 : From fineText 1 ([32] ++ ([49] ++ [32, 34, 98, 34])) := ⟨rfl, by decide⟩
  have h2 : From fineText 3 ([32] ++ (34 :: [98] ++ 34 :: [])) := ⟨rfl, by decide⟩
  have h3 : From fineText 7 [] := ⟨rfl, by decide⟩
  have t0 := name_at (c := 97) (t := []) h0 (by simp) (by decide) (by simp) (by simp only [List.cons.injEq]; rintro d r' ⟨rfl, _⟩; decide)
  have t1 := int_at h1 (by simp; decide) (by simp) (by simp; decide) (by simp) (by simp only [List.cons.injEq]; rintro d r' ⟨rfl, _⟩; decide)
  have t2 := string_at h2 (by simp; decide) (by simp) (by simp; decide)
  obtain ⟨e, v, t3⟩ := end_at h3 (by simp)
  exact ⟨_, .step t0 (by decide) (by decide) (by decide) (.step t1 (by decide) (by decide) (by decide) (.step t2 (by decide) (by decide) (by decide) (.done t3)))⟩

theorem fine_ascii : ∀ (j : Nat) (h : j < fineText.size), (fineText[j]'h).toNat < 128 := by decide

set_option maxHeartbeats 1000000 in
set_option maxRecDepth 100000 in
theorem refused_any (s : ByteArray) (hs : s.size ≤ 4294967295) (ha : ∀ (j : Nat) (h : j < s.size), (s[j]'h).toNat < 128) (ts : List T) (hr : Run s 0 ts false) (w : World) :
    Calls Tryz.prog 10 #[.string s] w fun r w' => r = .returned (.bool true) ∧ Below w.heap.size w w' := by
  have C1 := Lib.hid (fun W => tokens_any s hs ha ts false hr W)
  obtain ⟨us, hu⟩ := run_fine
  have C2 := Lib.hid (fun W => tokens_any fineText (by decide) fine_ascii us true hu W)
  clear hr hu ha
  go_enter Tryz.func10, Tryz.ntmps10
  go_wp2_with fail
  refine (C1.out _).mono ?_
  rintro r w1 ⟨⟨h, _⟩ | ⟨_, rfl⟩, hb⟩
  · cases h
  go_wp2_with fail
  refine (C2.out _).mono ?_
  rintro r w2 ⟨⟨_, v, rfl, _⟩ | ⟨h, _⟩, hb2⟩
  · go_wp2
    go_ret
    exact ⟨rfl, hb.trans (hb2.mono hb.size)⟩
  · cases h
end Go.Proofs.YtbojlohjmbhifaaGreatDoor
