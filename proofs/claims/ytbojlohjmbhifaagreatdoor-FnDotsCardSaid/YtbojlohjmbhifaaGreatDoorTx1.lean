/- 'refused9' and 'only9': what they say of a text whose steps are known. -/
import Derived.Test.YtbojlohjmbhifaaGreatDoorTx0
namespace Go.Proofs.YtbojlohjmbhifaaGreatDoor
open Go.RowKit Go.Proofs.YtbojlohjmbhifaaGreatDoorW.PrintWords Go.Proofs.YtbojlohjmbhifaaGreatDoorW.PrintMore

theorem noDigit_of {c : UInt8} (h : digit8 c = false) : noDigit (c.toNat : Int) := by
  unfold digit8 at h
  simp only [Bool.and_eq_false_iff, decide_eq_false_iff_not] at h
  unfold noDigit
  omega
theorem digit_of {c : UInt8} (h : digit8 c = true) : digit (c.toNat : Int) := by
  unfold digit8 at h
  simp only [Bool.and_eq_true, decide_eq_true_eq] at h
  unfold digit
  omega
theorem noDigit_lc {r : List UInt8} (h : ∀ d r', r = d :: r' → digit8 d = false) : noDigit (lc r 0) := by
  cases r with
  | nil => exact .inl (by rw [lc_nil]; omega)
  | cons d r' => exact noDigit_of (h d r' rfl)

/-- Digits at a place. -/
theorem digits_at {s : ByteArray} {p : Nat} {t r : List UInt8} (h : From s p (t ++ r)) (hne : t ≠ []) (ht : ∀ c ∈ t, digit8 c = true) (hr : ∀ d r', r = d :: r' → digit8 d = false) : digitsTo s p (p + t.length) := by
  have hl : 0 < t.length := List.length_pos_iff.2 hne
  refine ⟨by omega, fun j h1 h2 => ?_, ?_⟩
  · obtain ⟨i, rfl⟩ : ∃ i, j = p + i := ⟨j - p, by omega⟩
    have hi : i < t.length := by omega
    rw [h.code i, lc_left hi]
    exact digit_of (ht _ (List.getElem_mem hi))
  · rw [h.skip.at0]
    exact noDigit_lc hr

theorem lc_ne {r : List UInt8} {v : UInt8} (h : ∀ d r', r = d :: r' → d ≠ v) : (lc r 0 == (v.toNat : Int)) = false := by
  rw [beq_eq_false_iff_ne]
  cases r with
  | nil => rw [lc_nil]; omega
  | cons d r' =>
    intro e
    refine h d r' rfl (UInt8.toNat.inj ?_)
    have e2 : (d.toNat : Int) = v.toNat := e
    omega

/-- An Int without a sign at a place, blanks ahead of it. -/
theorem int_at {s : ByteArray} {p : Nat} {g t r : List UInt8} (h : From s p (g ++ (t ++ r))) (hg : ∀ c ∈ g, blank8 c = true) (hne : t ≠ []) (ht : ∀ c ∈ t, digit8 c = true) (h0 : ∀ c u, t = 48 :: c :: u → False)
    (hr : ∀ d r', r = d :: r' → digit8 d = false ∧ d ≠ 46 ∧ d ≠ 69 ∧ d ≠ 101) : Tok s p 16 (p + g.length) (p + g.length + t.length) ⟨t.toArray⟩ := by
  have h1 := h.skip
  have hz := h1.size
  rw [List.length_append] at hz
  have hl : 0 < t.length := List.length_pos_iff.2 hne
  have ha := h.ahead hg (by simp [hne])
  have hd := digits_at h1 hne ht (fun d r' e => (hr d r' e).1)
  have hend := h1.skip.at0
  rw [← h1.cut]
  refine tok_number s p (p + g.length) (p + g.length) (p + g.length + t.length) (p + g.length + t.length) (p + g.length + t.length) false false ha ⟨?_, ?_, ?_, ?_, by omega, ⟨by omega, by omega, by omega⟩⟩
  · refine .inr ⟨?_, rfl⟩
    rw [beq_eq_false_iff_ne]
    have := hd.2.1 (p + g.length) (Nat.le_refl _) (by omega)
    unfold digit at this
    omega
  · cases e : (cd s (p + g.length : Nat) == 48) with
    | false => exact .inr ⟨rfl, hd⟩
    | true =>
      refine .inl ⟨rfl, ?_, hd.2.2⟩
      rw [beq_iff_eq, h1.at0] at e
      cases t with
      | nil => exact absurd rfl hne
      | cons c u =>
        have hc : c = 48 := by
          have e2 : (c.toNat : Int) = 48 := e
          exact UInt8.toNat.inj (show c.toNat = 48 by omega)
        subst hc
        cases u with
        | nil => rfl
        | cons c2 u2 => exact (h0 c2 u2 rfl).elim
  · refine .inl ⟨?_, rfl, rfl⟩
    rw [hend]
    exact lc_ne (v := 46) (fun d r' e => (hr d r' e).2.1)
  · refine .inl ⟨?_, ?_, rfl, rfl⟩
    · rw [hend]
      exact lc_ne (v := 69) (fun d r' e => (hr d r' e).2.2.1)
    · rw [hend]
      exact lc_ne (v := 101) (fun d r' e => (hr d r' e).2.2.2)

/-- A string of plain signs at a place, blanks ahead of it. -/
theorem string_at {s : ByteArray} {p : Nat} {g t r : List UInt8} (h : From s p (g ++ (34 :: t ++ 34 :: r))) (hg : ∀ c ∈ g, blank8 c = true) (hne : t ≠ []) (ht : ∀ c ∈ t, plain8 c = true) : Tok s p 18 (p + g.length) (p + g.length + (t.length + 2)) ⟨t.toArray⟩ := by
  have h1 := h.skip
  have h2 : From s (p + g.length + 1) (t ++ 34 :: r) := From.skip (a := [34]) h1
  have hz := h1.size
  simp only [List.length_append, List.length_cons] at hz
  have hl : 0 < t.length := List.length_pos_iff.2 hne
  have ha := h.ahead hg (by simp)
  have hcut := h2.cut
  have hps : ∀ j : Nat, p + g.length < j → j < p + g.length + 1 + t.length → plainSign (cd s j) := by
    intro j h3 h4
    obtain ⟨i, rfl⟩ : ∃ i, j = p + g.length + 1 + i := ⟨j - (p + g.length + 1), by omega⟩
    have hi : i < t.length := by omega
    rw [h2.code i, lc_left hi]
    have := ht _ (List.getElem_mem hi)
    unfold plain8 at this
    simp only [Bool.and_eq_true, decide_eq_true_eq, bne_iff_ne] at this
    unfold plainSign
    omega
  have hst := str_plain s (p + g.length) (p + g.length + 1 + t.length) (by omega) (by omega) hps (by rw [h2.skip.at0]; rfl)
  rw [hcut] at hst
  have hk := tok_string s p (p + g.length) (p + g.length + 1 + t.length + 1) ⟨t.toArray⟩ ha (by rw [h1.at0]; rfl) (by have := hps (p + g.length + 1) (by omega) (by omega); exact this.2.1) hst
  rwa [show p + g.length + (t.length + 2) = p + g.length + 1 + t.length + 1 by omega]

/-- The text that is not refused, by which 'refused9' looks. -/
def fineText : ByteArray := ⟨#[97, 32, 49, 32, 34, 98, 34]⟩
theorem run_fine : ∃ ts, Run fineText 0 ts true := by
  have h0 : From fineText 0 ([] ++ ([97] ++ [32, 49, 32, 34, 98, 34])) := ⟨rfl, by decide⟩
  have h1 : From fineText 1 ([32] ++ ([49] ++ [32, 34, 98, 34])) := ⟨rfl, by decide⟩
  have h2 : From fineText 3 ([32] ++ (34 :: [98] ++ 34 :: [])) := ⟨rfl, by decide⟩
  have h3 : From fineText 7 [] := ⟨rfl, by decide⟩
  have t0 := name_at (c := 97) (t := []) h0 (by simp) (by decide) (by simp) (by simp only [List.cons.injEq]; rintro d r' ⟨rfl, _⟩; decide)
  have t1 := int_at h1 (by simp; decide) (by simp) (by simp; decide) (by simp) (by simp only [List.cons.injEq]; rintro d r' ⟨rfl, _⟩; decide)
  have t2 := string_at h2 (by simp; decide) (by simp) (by simp; decide)
  obtain ⟨e, v, t3⟩ := end_at h3 (by simp)
  exact ⟨_, .step t0 (by decide) (by decide) (by decide) (.step t1 (by decide) (by decide) (by decide) (.step t2 (by decide) (by decide) (by decide) (.done t3)))⟩

theorem fine_ascii : ∀ (j : Nat) (h : j < fineText.size), (fineText[j]'h).toNat < 128 := by decide

set_option maxHeartbeats 1000000 in
set_option maxRecDepth 100000 in
theorem refused_any (s : ByteArray) (hs : s.size ≤ 4294967295) (ha : ∀ (j : Nat) (h : j < s.size), (s[j]'h).toNat < 128) (ts : List T) (hr : Run s 0 ts false) (w : World) :
    Calls Tryz.prog 10 #[.string s] w fun r w' => r = .returned (.bool true) ∧ Below w.heap.size w w' := by
  have C1 := Lib.hid (fun W => tokens_any s hs ha ts false hr W)
  obtain ⟨us, hu⟩ := run_fine
  have C2 := Lib.hid (fun W => tokens_any fineText (by decide) fine_ascii us true hu W)
  clear hr hu ha
  go_enter Tryz.func10, Tryz.ntmps10
  go_wp2_with fail
  refine (C1.out _).mono ?_
  rintro r w1 ⟨⟨h, _⟩ | ⟨_, rfl⟩, hb⟩
  · cases h
  go_wp2_with fail
  refine (C2.out _).mono ?_
  rintro r w2 ⟨⟨_, v, rfl, _⟩ | ⟨h, _⟩, hb2⟩
  · go_wp2
    go_ret
    exact ⟨rfl, hb.trans (hb2.mono hb.size)⟩
  · cases h
end Go.Proofs.YtbojlohjmbhifaaGreatDoor
