/- The texts of FnNamesApart and their tokens. -/
import Derived.Test.YtbojlohjmbhifaaGreatDoorNm
import Derived.Test.YtbojlohjmbhifaaGreatDoorNa
namespace Go.Proofs.YtbojlohjmbhifaaGreatDoor
open Go.RowKit Go.Proofs.YtbojlohjmbhifaaGreatDoorW.PrintWords Go.Proofs.YtbojlohjmbhifaaGreatDoorW.PrintMore

/-- The signs of the grammar that FnNamesApart sets. -/
def signOf (k : Nat) : List UInt8 := match k with
  | 0 => [33] | 1 => [36] | 2 => [40] | 3 => [41] | 4 => [58] | 5 => [61] | 6 => [64] | 7 => [91] | 8 => [93] | 9 => [123] | 10 => [124] | 11 => [125] | _ => [46, 46, 46]

/-- A sign of the grammar is a token, not a name. -/
theorem sign_at {s : ByteArray} {p : Nat} {r : List UInt8} (k : Nat) (h : From s p (signOf k ++ r)) : ∃ (n : Int) (v : ByteArray), Tok s p n p (p + (signOf k).length) v ∧ n ≠ 1 ∧ n ≠ 15 := by
  have hne : signOf k ≠ [] := by unfold signOf; split <;> simp
  have ha : Ahead s p p := From.ahead (g := []) (t := signOf k ++ r) h (by simp) (by simp [hne])
  revert h
  unfold signOf
  split
  all_goals intro h
  · exact ⟨2, _, tok_bang s p p ha (by rw [h.at0]; rfl), by decide, by decide⟩
  · exact ⟨3, _, tok_dollar s p p ha (by rw [h.at0]; rfl), by decide, by decide⟩
  · exact ⟨4, _, tok_parenL s p p ha (by rw [h.at0]; rfl), by decide, by decide⟩
  · exact ⟨5, _, tok_parenR s p p ha (by rw [h.at0]; rfl), by decide, by decide⟩
  · exact ⟨7, _, tok_colon s p p ha (by rw [h.at0]; rfl), by decide, by decide⟩
  · exact ⟨8, _, tok_equals s p p ha (by rw [h.at0]; rfl), by decide, by decide⟩
  · exact ⟨9, _, tok_at s p p ha (by rw [h.at0]; rfl), by decide, by decide⟩
  · exact ⟨10, _, tok_bracketL s p p ha (by rw [h.at0]; rfl), by decide, by decide⟩
  · exact ⟨11, _, tok_bracketR s p p ha (by rw [h.at0]; rfl), by decide, by decide⟩
  · exact ⟨12, _, tok_braceL s p p ha (by rw [h.at0]; rfl), by decide, by decide⟩
  · exact ⟨13, _, tok_pipe s p p ha (by rw [h.at0]; rfl), by decide, by decide⟩
  · exact ⟨14, _, tok_braceR s p p ha (by rw [h.at0]; rfl), by decide, by decide⟩
  · exact ⟨6, _, tok_spread s p p ha (by rw [h.at0]; rfl) (by rw [h.code 1]; rfl) (by rw [h.code 2]; rfl), by decide, by decide⟩

/-- Whether a sign stands behind the name at place i, and which. -/
def isSign (gs : List Int) (i : Nat) : Bool := match gs[i]? with
  | none => false
  | some g => g % 2 == 1
def signAt (gs : List Int) (i : Nat) : Nat := (gs.getD i 0 / 2 % 13).toNat
def behind (gs : List Int) (i : Nat) : List UInt8 := if isSign gs i then signOf (signAt gs i) else [32]
def wants (gs : List Int) (i : Nat) (n : ByteArray) : List ByteArray := if isSign gs i then [n, ⟨#[]⟩] else [n]

/-- The text of the names from one on. -/
def restS (gs : List Int) : List ByteArray → Nat → List UInt8
  | [], _ => []
  | w :: ws, i => w.data.toList ++ (behind gs i ++ restS gs ws (i + 1))
/-- What is wanted of them. -/
def wantS (gs : List Int) : List ByteArray → Nat → List ByteArray
  | [], _ => []
  | w :: ws, i => wants gs i w ++ wantS gs ws (i + 1)
/-- The text of the first names, and what is wanted of them. -/
def nameTo (gs : List Int) (ws : List ByteArray) : Nat → List UInt8
  | 0 => []
  | i + 1 => nameTo gs ws i ++ ((ws.getD i ByteArray.empty).data.toList ++ behind gs i)
def wantTo (gs : List Int) (ws : List ByteArray) : Nat → List ByteArray
  | 0 => []
  | i + 1 => wantTo gs ws i ++ wants gs i (ws.getD i ByteArray.empty)

theorem nameTo_rest (gs : List Int) (ws : List ByteArray) : ∀ i, i ≤ ws.length → nameTo gs ws i ++ restS gs (ws.drop i) i = restS gs ws 0
  | 0, _ => by simp [nameTo]
  | i + 1, h => by
    rw [← nameTo_rest gs ws i (by omega)]
    rw [List.drop_eq_getElem_cons (show i < ws.length by omega)]
    have e : ws.getD i ByteArray.empty = ws[i] := by rw [List.getD_eq_getElem?_getD, List.getElem?_eq_getElem (show i < ws.length by omega)]; rfl
    simp only [nameTo, restS, e, List.append_assoc]
theorem wantTo_rest (gs : List Int) (ws : List ByteArray) : ∀ i, i ≤ ws.length → wantTo gs ws i ++ wantS gs (ws.drop i) i = wantS gs ws 0
  | 0, _ => by simp [wantTo]
  | i + 1, h => by
    rw [← wantTo_rest gs ws i (by omega)]
    rw [List.drop_eq_getElem_cons (show i < ws.length by omega)]
    have e : ws.getD i ByteArray.empty = ws[i] := by rw [List.getD_eq_getElem?_getD, List.getElem?_eq_getElem (show i < ws.length by omega)]; rfl
    simp only [wantTo, wantS, e, List.append_assoc]

theorem behind_len (gs : List Int) (i : Nat) : (behind gs i).length ≤ 3 := by
  unfold behind signOf
  split
  · split <;> simp
  · simp
theorem nameTo_len (gs : List Int) (ws : List ByteArray) : ∀ i, (∀ j, j < i → (ws.getD j ByteArray.empty).size ≤ 40) → (nameTo gs ws i).length ≤ 43 * i
  | 0, _ => by simp [nameTo]
  | i + 1, h => by
    have h1 := nameTo_len gs ws i (fun j hj => h j (by omega))
    have h2 := h i (by omega)
    have h3 := behind_len gs i
    rw [← size_list] at h2
    simp only [nameTo, List.length_append]
    omega
theorem wantTo_len (gs : List Int) (ws : List ByteArray) : ∀ i, (wantTo gs ws i).length ≤ 2 * i
  | 0 => by simp [wantTo]
  | i + 1 => by
    have h1 := wantTo_len gs ws i
    have h2 : (wants gs i (ws.getD i ByteArray.empty)).length ≤ 2 := by unfold wants; split <;> simp
    simp only [wantTo, List.length_append]
    omega

theorem namesFrom_all : ∀ (l : List UInt8) (i : Nat), 0 < i → namesFrom i l = true → ∀ c ∈ l, nameChar8 c = true
  | [], _, _, _, c, h => by cases h
  | d :: t, i, hi, hn, c, h => by
    rw [namesFrom, Bool.and_eq_true] at hn
    rcases List.mem_cons.1 h with rfl | h
    · have h1 := hn.1
      unfold nameAt at h1
      unfold nameChar8
      rw [Bool.or_eq_true] at h1 ⊢
      rcases h1 with h1 | h1
      · exact .inl h1
      · rw [Bool.and_eq_true] at h1
        exact .inr h1.2
    · exact namesFrom_all t (i + 1) (by omega) hn.2 c h
theorem name9_list {s : ByteArray} (h : name9 s = true) : ∃ c t, s.data.toList = c :: t ∧ nameStart8 c = true ∧ (∀ d ∈ t, nameChar8 d = true) ∧ s.size ≤ 40 := by
  unfold name9 at h
  simp only [Bool.and_eq_true, decide_eq_true_eq, Bool.not_eq_true'] at h
  obtain ⟨⟨h1, h2⟩, h3⟩ := h
  cases hl : s.data.toList with
  | nil => rw [hl] at h2; simp at h2
  | cons c t =>
    rw [hl, namesFrom, Bool.and_eq_true] at h1
    refine ⟨c, t, rfl, ?_, namesFrom_all t 1 (by omega) h1.2, h3⟩
    have h4 := h1.1
    unfold nameAt at h4
    simpa using h4

theorem behind_first (gs : List Int) (i : Nat) : ∃ d u, behind gs i = d :: u ∧ nameChar8 d = false := by
  unfold behind signOf
  split
  · split <;> exact ⟨_, _, rfl, by decide⟩
  · exact ⟨_, _, rfl, by decide⟩

theorem nameChar_ascii {c : UInt8} (h : nameChar8 c = true) : c.toNat < 128 := by
  have := nameChar_of h
  unfold nameChar at this
  omega
theorem behind_ascii (gs : List Int) (i : Nat) : ∀ c ∈ behind gs i, c.toNat < 128 := by
  unfold behind signOf
  split
  · split <;> decide
  · decide

theorem run_names {s : ByteArray} (gs : List Int) : ∀ (ws : List ByteArray) (i p : Nat) (g : List UInt8), (∀ w ∈ ws, name9 w = true) → (∀ c ∈ g, blank8 c = true) → From s p (g ++ restS gs ws i) →
    ∃ ts, Run s p ts true ∧ ts.length = (wantS gs ws i).length ∧ ∀ (j : Nat) (h : j < ts.length) (h' : j < (wantS gs ws i).length), ((wantS gs ws i)[j].data.toList ≠ [] ∧ ts[j].k = 15 ∧ ts[j].v = (wantS gs ws i)[j]) ∨ ((wantS gs ws i)[j] = ⟨#[]⟩ ∧ ts[j].k ≠ 15)
  | [], i, p, g, _, hg, hf => by
    rw [restS, List.append_nil] at hf
    obtain ⟨e, v, t⟩ := end_at hf hg
    exact ⟨[], .done t, rfl, fun j h => by cases h⟩
  | w :: ws, i, p, g, hw, hg, hf => by
    obtain ⟨c, t, hct, hc, ht, _⟩ := name9_list (hw w List.mem_cons_self)
    obtain ⟨d, u, hdu, hd⟩ := behind_first gs i
    have hwne : w.data.toList ≠ [] := by rw [hct]; simp
    have hwv : (⟨(c :: t).toArray⟩ : ByteArray) = w := ba_ext (by rw [hct])
    rw [restS, hct] at hf
    have tn := name_at (c := c) (t := t) hf hg hc ht (fun d' r' e => by
      rw [hdu, List.cons_append, List.cons.injEq] at e
      rw [← e.1]
      exact hd)
    rw [hwv] at tn
    have h2 := hf.skip.skip
    rw [List.length_cons] at h2
    have hz := h2.size
    rw [List.length_append] at hz
    cases hsg : isSign gs i with
    | false =>
      have hb : behind gs i = [32] := by unfold behind; rw [hsg]; rfl
      have hwt : wantS gs (w :: ws) i = w :: wantS gs ws (i + 1) := by rw [wantS]; unfold wants; rw [hsg]; rfl
      rw [hb] at h2
      obtain ⟨ts, r1, r2, r3⟩ := run_names gs ws (i + 1) (p + g.length + (t.length + 1)) [32] (fun x hx => hw x (List.mem_cons_of_mem _ hx)) (by decide) h2
      rw [hwt]
      refine ⟨_ :: ts, .step tn (by decide) (by omega) (by omega) r1, by simp [r2], ?_⟩
      intro j h h'
      cases j with
      | zero => exact .inl ⟨hwne, rfl, rfl⟩
      | succ j => exact r3 j (by simpa using h) (by simpa using h')
    | true =>
      have hb : behind gs i = signOf (signAt gs i) := by unfold behind; rw [hsg]; rfl
      have hwt : wantS gs (w :: ws) i = w :: ⟨#[]⟩ :: wantS gs ws (i + 1) := by rw [wantS]; unfold wants; rw [hsg]; rfl
      rw [hb] at h2 hz
      obtain ⟨n, v, tk, n1, n2⟩ := sign_at _ h2
      have h3 := h2.skip
      have hl0 : 0 < (signOf (signAt gs i)).length := by rw [← hb, hdu]; simp
      obtain ⟨ts, r1, r2, r3⟩ := run_names gs ws (i + 1) (p + g.length + (t.length + 1) + (signOf (signAt gs i)).length) [] (fun x hx => hw x (List.mem_cons_of_mem _ hx)) (by simp) h3
      rw [hwt]
      refine ⟨_ :: _ :: ts, .step tn (by decide) (by omega) (by omega) (.step tk n1 (by omega) (by omega) r1), by simp [r2], ?_⟩
      intro j h h'
      match j, h, h' with
      | 0, _, _ => exact .inl ⟨hwne, rfl, rfl⟩
      | 1, _, _ => exact .inr ⟨rfl, n2⟩
      | j + 2, h, h' => exact r3 j (by simpa using h) (by simpa using h')

theorem restS_ascii (gs : List Int) : ∀ (ws : List ByteArray) (i : Nat), (∀ w ∈ ws, name9 w = true) → ∀ c ∈ restS gs ws i, c.toNat < 128
  | [], _, _, c, h => by cases h
  | w :: ws, i, hw, c, h => by
    rw [restS] at h
    rcases List.mem_append.1 h with h | h
    · obtain ⟨c', t, hct, hc, ht, _⟩ := name9_list (hw w List.mem_cons_self)
      rw [hct] at h
      rcases List.mem_cons.1 h with rfl | h
      · exact nameChar_ascii (by unfold nameChar8; rw [hc]; rfl)
      · exact nameChar_ascii (ht c h)
    rcases List.mem_append.1 h with h | h
    · exact behind_ascii gs i c h
    · exact restS_ascii gs ws (i + 1) (fun x hx => hw x (List.mem_cons_of_mem _ hx)) c h

theorem a_only : ∃ q e, Run ⟨#[97]⟩ 0 [⟨15, q, e, ⟨#[97]⟩⟩] true := by
  have h0 : From ⟨#[97]⟩ 0 ([] ++ ([97] ++ [])) := ⟨rfl, by decide⟩
  have h1 : From ⟨#[97]⟩ 1 [] := ⟨rfl, by decide⟩
  have t := name_at (c := 97) (t := []) h0 (by simp) (by decide) (by simp) (by simp)
  obtain ⟨e, v, t3⟩ := end_at h1 (by simp)
  exact ⟨_, _, .step t (by decide) (by decide) (by decide) (.done t3)⟩
end Go.Proofs.YtbojlohjmbhifaaGreatDoor
