/- A number as a list of bytes is a token; 'only9'. -/
import Derived.Test.YtbojlohjmbhifaaGreatDoorTx
import Derived.Test.YtbojlohjmbhifaaGreatDoorPFnNumberPartsx1
namespace Go.Proofs.YtbojlohjmbhifaaGreatDoor
open Go.RowKit Go.Proofs.YtbojlohjmbhifaaGreatDoorW.PrintWords Go.Proofs.YtbojlohjmbhifaaGreatDoorW.PrintMore

theorem From.at_cons {s : ByteArray} {p : Nat} {c : UInt8} {l : List UInt8} (h : From s p (c :: l)) : cd s p = (c.toNat : Int) := by rw [h.at0]; rfl

/-- A number at a place: sign M, whole part A, part behind the point F, exponent P. -/
theorem number_at {s : ByteArray} {p : Nat} {g M A F P r : List UInt8} {t1 t2 : Bool} (h : From s p (g ++ (M ++ (A ++ (F ++ (P ++ r)))))) (hg : ∀ c ∈ g, blank8 c = true)
    (hM : M = [45] ∨ M = []) (hne : A ≠ []) (hA : ∀ c ∈ A, digit8 c = true) (h0 : ∀ c u, A = 48 :: c :: u → False)
    (hF : (F = [] ∧ t1 = false) ∨ (∃ u, F = 46 :: u ∧ u ≠ [] ∧ (∀ c ∈ u, digit8 c = true) ∧ t1 = true))
    (hP : (P = [] ∧ t2 = false) ∨ (∃ x u, P = x ++ u ∧ (x = [101] ∨ x = [69] ∨ x = [101, 43] ∨ x = [69, 45]) ∧ u ≠ [] ∧ (∀ c ∈ u, digit8 c = true) ∧ t2 = true))
    (hr : ∀ d r', r = d :: r' → digit8 d = false ∧ d ≠ 46 ∧ d ≠ 69 ∧ d ≠ 101) :
    Tok s p (if t1 || t2 then 17 else 16) (p + g.length) (p + g.length + (M ++ (A ++ (F ++ P))).length) ⟨(M ++ (A ++ (F ++ P))).toArray⟩ := by
  have h1 := h.skip
  have h2 := h1.skip
  have h3 := h2.skip
  have h4 := h3.skip
  have h5 := h4.skip
  have hl : 0 < A.length := List.length_pos_iff.2 hne
  have hz := h5.size
  have hPr : ∀ d r', P ++ r = d :: r' → digit8 d = false ∧ d ≠ 46 := by
    rcases hP with ⟨rfl, _⟩ | ⟨x, u, rfl, hx, _⟩
    · intro d r' e
      exact ⟨(hr d r' e).1, (hr d r' e).2.1⟩
    · rcases hx with rfl | rfl | rfl | rfl <;> (intro d r' e; simp at e; obtain ⟨rfl, _⟩ := e; exact ⟨by decide, by decide⟩)
  have hFPr : ∀ d r', F ++ (P ++ r) = d :: r' → digit8 d = false := by
    rcases hF with ⟨rfl, _⟩ | ⟨u, rfl, _⟩
    · intro d r' e
      exact (hPr d r' e).1
    · intro d r' e
      simp at e
      obtain ⟨rfl, _⟩ := e
      decide
  have hd := digits_at h2 hne hA hFPr
  have ha := h.ahead hg (by
    intro e
    simp at e
    exact hne e.2.1)
  have hcut : s.extract (p + g.length) (p + g.length + (M ++ (A ++ (F ++ P))).length) = ⟨(M ++ (A ++ (F ++ P))).toArray⟩ := by
    refine From.cut (r := r) ?_
    have e : M ++ (A ++ (F ++ P)) ++ r = M ++ (A ++ (F ++ (P ++ r))) := by simp
    rw [e]
    exact h1
  have hlen : p + g.length + (M ++ (A ++ (F ++ P))).length = p + g.length + M.length + A.length + F.length + P.length := by simp; omega
  rw [← hcut, hlen]
  refine tok_number s p (p + g.length) (p + g.length + M.length) (p + g.length + M.length + A.length) (p + g.length + M.length + A.length + F.length) (p + g.length + M.length + A.length + F.length + P.length) t1 t2 ha ⟨?_, ?_, ?_, ?_, by omega, ⟨by omega, by omega, by omega⟩⟩
  · rcases hM with rfl | rfl
    · exact .inl ⟨by rw [h1.at0]; rfl, rfl⟩
    · refine .inr ⟨?_, rfl⟩
      rw [beq_eq_false_iff_ne]
      have := hd.2.1 (p + g.length) (by simp) (by simp; omega)
      unfold digit at this
      omega
  · cases e : (cd s (p + g.length + M.length : Nat) == 48) with
    | false => exact .inr ⟨rfl, hd⟩
    | true =>
      refine .inl ⟨rfl, ?_, hd.2.2⟩
      rw [beq_iff_eq, h2.at0] at e
      cases A with
      | nil => exact absurd rfl hne
      | cons c u =>
        have hc : c = 48 := by
          have e2 : (c.toNat : Int) = 48 := e
          exact UInt8.toNat.inj (show c.toNat = 48 by omega)
        subst hc
        cases u with
        | nil => rfl
        | cons c2 u2 => exact (h0 c2 u2 rfl).elim
  · rcases hF with ⟨rfl, rfl⟩ | ⟨u, rfl, hu, hud, rfl⟩
    · refine .inl ⟨?_, rfl, rfl⟩
      rw [h3.at0]
      exact lc_ne (v := 46) (fun d r' e => (hPr d r' e).2)
    · have h3' : From s (p + g.length + M.length + A.length + 1) (u ++ (P ++ r)) := From.skip (a := [46]) h3
      have := digits_at h3' hu hud (fun d r' e => (hPr d r' e).1)
      refine .inr ⟨by rw [h3.at0]; rfl, ?_, rfl⟩
      rwa [List.length_cons, show p + g.length + M.length + A.length + (u.length + 1) = p + g.length + M.length + A.length + 1 + u.length by omega]
  · rcases hP with ⟨rfl, rfl⟩ | ⟨x, u, rfl, hx, hu, hud, rfl⟩
    · refine .inl ⟨?_, ?_, rfl, rfl⟩
      · rw [h4.at0]
        exact lc_ne (v := 69) (fun d r' e => (hr d r' e).2.2.1)
      · rw [h4.at0]
        exact lc_ne (v := 101) (fun d r' e => (hr d r' e).2.2.2)
    · rw [List.append_assoc] at h4
      have h4' := h4.skip
      have hdu := digits_at h4' hu hud (fun d r' e => (hr d r' e).1)
      have hfirst : ∀ q : Nat, digitsTo s q (p + g.length + M.length + A.length + F.length + (x ++ u).length) → (cd s q == 43) = false ∧ (cd s q == 45) = false := by
        intro q hq
        have := hq.2.1 q (Nat.le_refl _) hq.1
        unfold digit at this
        exact ⟨beq_eq_false_iff_ne.2 (by omega), beq_eq_false_iff_ne.2 (by omega)⟩
      rw [List.length_append]
      rw [List.length_append] at hfirst
      rcases hx with rfl | rfl | rfl | rfl
      · have hdu' : digitsTo s (p + g.length + M.length + A.length + F.length + 1) (p + g.length + M.length + A.length + F.length + ([101].length + u.length)) := by
          rw [← Nat.add_assoc]; exact hdu
        refine .inr ⟨.inr ⟨by rw [h4.at0]; rfl, by rw [h4.at0]; rfl⟩, rfl, .inr (.inr ⟨(hfirst _ hdu').1, (hfirst _ hdu').2, hdu'⟩)⟩
      · have hdu' : digitsTo s (p + g.length + M.length + A.length + F.length + 1) (p + g.length + M.length + A.length + F.length + ([69].length + u.length)) := by
          rw [← Nat.add_assoc]; exact hdu
        refine .inr ⟨.inl (by rw [h4.at0]; rfl), rfl, .inr (.inr ⟨(hfirst _ hdu').1, (hfirst _ hdu').2, hdu'⟩)⟩
      · have hdu' : digitsTo s (p + g.length + M.length + A.length + F.length + 2) (p + g.length + M.length + A.length + F.length + ([101, 43].length + u.length)) := by
          rw [← Nat.add_assoc]; exact hdu
        refine .inr ⟨.inr ⟨by rw [h4.at0]; rfl, by rw [h4.at0]; rfl⟩, rfl, .inl ⟨by rw [h4.code 1]; rfl, hdu'⟩⟩
      · have hdu' : digitsTo s (p + g.length + M.length + A.length + F.length + 2) (p + g.length + M.length + A.length + F.length + ([69, 45].length + u.length)) := by
          rw [← Nat.add_assoc]; exact hdu
        refine .inr ⟨.inl (by rw [h4.at0]; rfl), rfl, .inr (.inl ⟨by rw [h4.code 1]; rfl, by rw [h4.code 1]; rfl, hdu'⟩)⟩

set_option maxHeartbeats 1000000 in
set_option maxRecDepth 100000 in
theorem only_any (s : ByteArray) (hs : s.size ≤ 4294967295) (ha : ∀ (j : Nat) (h : j < s.size), (s[j]'h).toNat < 128) (k : Int) (q e : Nat) (v : ByteArray) (hr : Run s 0 [⟨k, q, e, v⟩] true) (w : World) :
    Calls Tryz.prog 12 #[.string s, .int .i64 k, .string v] w fun r w' => r = .returned (.bool true) ∧ Below w.heap.size w w' := by
  have C1 := Lib.hid (fun W => tokens_any s hs ha [⟨k, q, e, v⟩] true hr W)
  clear hr ha
  go_enter Tryz.func12, Tryz.ntmps12
  go_wp2_with fail
  refine (C1.out _).mono ?_
  rintro r w1 ⟨⟨_, x, rfl, hown⟩ | ⟨h, _⟩, hb⟩
  · rcases hown.2 with ⟨rfl, h0⟩ | ⟨g, cap, cur, rfl, hg⟩
    · cases h0
    · have c0 := hown.cellAt 0 (by simp)
      have c1 := hown.cellAt 1 (by simp)
      simp only [tcells, tcell, List.flatMap_cons, List.flatMap_nil, List.append_nil, List.getElem?_cons_zero, List.getElem?_cons_succ] at c0 c1
      clear hown hg
      go_wp2
      go_ret
      exact ⟨rfl, hb⟩
  · cases h
end Go.Proofs.YtbojlohjmbhifaaGreatDoor

/-! What 'digits9' and 'number9' return. -/
namespace Go.Proofs.YtbojlohjmbhifaaGreatDoor
open Go.RowKit Go.Proofs.YtbojlohjmbhifaaGreatDoorW.PrintWords Go.Proofs.YtbojlohjmbhifaaGreatDoorW.PrintMore
open PFnNumberParts

theorem bt_list {s : ByteArray} {i : Nat} (h : i < s.data.toList.length) : bt s (i : Int) = ((s.data.toList[i]).toNat : Int) := by
  have h' : i < s.size := by rw [Array.length_toList] at h; exact h
  unfold bt
  rw [dif_pos (show ((i : Int).toNat) < s.size from h')]
  rfl
theorem size_list (s : ByteArray) : s.data.toList.length = s.size := Array.length_toList

/-- Digits, from one to 20. -/
def dig9 (s : ByteArray) : Bool := s.data.toList.all digit8 && !s.data.toList.isEmpty && decide (s.size ≤ 20)

theorem dig_l0 (s : ByteArray) (hs : s.size ≤ 2147483647) : ∀ n i k : Nat, i + n = s.size → n < k → (∀ c ∈ s.data.toList.take i, digit8 c = true) → laws_digits9.l0 k s (i : Int) = some (dig9 s)
  | _, _, 0, _, h, _ => absurd h (Nat.not_lt_zero _)
  | 0, i, k + 1, e, _, hd => by
    have hz := size_list s
    unfold laws_digits9.l0
    rw [if_neg (by omega), ByteArray.toList_eq]
    rw [List.take_of_length_le (by omega)] at hd
    have ha : s.data.toList.all digit8 = true := List.all_eq_true.2 hd
    unfold dig9
    rw [ha]
    cases hl : s.data.toList with
    | nil => simp
    | cons c t => simp; omega
  | n + 1, i, k + 1, e, h, hd => by
    have hz := size_list s
    have hi : i < s.data.toList.length := by omega
    unfold laws_digits9.l0
    rw [if_pos (by omega), if_pos (by omega), bt_list hi]
    have hm : s.data.toList[i] ∈ s.data.toList := List.getElem_mem hi
    have hno : digit8 (s.data.toList[i]) = false → dig9 s = false := by
      intro h0
      unfold dig9
      have : s.data.toList.all digit8 = false := by
        rw [List.all_eq_false]
        exact ⟨_, hm, by rw [h0]; decide⟩
      rw [this]
      rfl
    cases h0 : digit8 (s.data.toList[i]) with
    | false =>
      rw [hno h0]
      unfold digit8 at h0
      simp only [Bool.and_eq_false_iff, decide_eq_false_iff_not] at h0
      rcases h0 with h0 | h0
      · rw [if_pos (by omega)]
      · by_cases h1 : ((s.data.toList[i]).toNat : Int) < 48
        · rw [if_pos h1]
        · rw [if_neg h1, if_pos (by omega)]
    | true =>
      have h2 := h0
      unfold digit8 at h2
      simp only [Bool.and_eq_true, decide_eq_true_eq] at h2
      rw [if_neg (by omega), if_neg (by omega), show wrap64 ((i : Int) + 1) = ((i + 1 : Nat) : Int) by unfold wrap64; omega]
      refine dig_l0 s hs n (i + 1) k (by omega) (by omega) (fun c hc => ?_)
      rw [List.take_succ_eq_append_getElem hi] at hc
      rcases List.mem_append.1 hc with hc | hc
      · exact hd c hc
      · rw [List.mem_singleton.1 hc]; exact h0

theorem dig_f (s : ByteArray) (hs : s.size ≤ 2147483647) (k : Nat) (hk : s.size < k) : laws_digits9.f k s = some (dig9 s) :=
  dig_l0 s hs s.size 0 k (by omega) hk (by simp)

theorem digits9_any (s : ByteArray) (hs : s.size ≤ 2147483647) (w : World) : Calls Tryz.prog 16 #[.string s] w fun e w' => e = .returned (.bool (dig9 s)) ∧ Drawn0 w w' :=
  laws_digits9.calls (s.size + 1) s _ w (dig_f s hs _ (Nat.lt_succ_self _))

theorem dig9_list {s : ByteArray} (h : dig9 s = true) : (∀ c ∈ s.data.toList, digit8 c = true) ∧ s.data.toList ≠ [] ∧ s.data.toList.length ≤ 20 := by
  unfold dig9 at h
  simp only [Bool.and_eq_true, Bool.not_eq_true', List.isEmpty_eq_false_iff, decide_eq_true_eq, List.all_eq_true] at h
  exact ⟨h.1.1, h.1.2, by rw [size_list]; exact h.2⟩

/-- A whole part: digits without a nought ahead. -/
def whole9 (s : ByteArray) : Bool := dig9 s && !(decide (1 < s.size) && bt s 0 == 48)
/-- A part that may lack. -/
def part9 (s : ByteArray) : Bool := s.data.toList.isEmpty || dig9 s
/-- The parts of a number's text. -/
def fracOf (after : List UInt8) : List UInt8 := if after = [] then [] else 46 :: after
def markOf (sign : Int) : List UInt8 := if sign % 4 = 0 then [101] else if sign % 4 = 1 then [69] else if sign % 4 = 2 then [101, 43] else [69, 45]
def powerOf (sign : Int) (power : List UInt8) : List UInt8 := if power = [] then [] else markOf sign ++ power
def numText (minus : Bool) (whole after power : ByteArray) (sign : Int) : ByteArray :=
  ⟨((if minus then [45] else []) ++ (whole.data.toList ++ (fracOf after.data.toList ++ powerOf sign power.data.toList))).toArray⟩

theorem ba_ext {a b : ByteArray} (h : a.data.toList = b.data.toList) : a = b := by
  cases a with | mk a => cases b with | mk b =>
  exact congrArg ByteArray.mk (Array.toList_inj.1 h)

theorem mark_rd (sign : Int) : rdOf ByteArray.empty ([(⟨#[101]⟩ : ByteArray), (⟨#[69]⟩ : ByteArray), (⟨#[101, 43]⟩ : ByteArray), (⟨#[69, 45]⟩ : ByteArray)] : List ByteArray) (sign % 4) = ⟨(markOf sign).toArray⟩ := by
  have h4 : sign % 4 = 0 ∨ sign % 4 = 1 ∨ sign % 4 = 2 ∨ sign % 4 = 3 := by omega
  unfold markOf
  rcases h4 with e | e | e | e <;> rw [e] <;> rfl
theorem mark_len (sign : Int) : (markOf sign).length ≤ 2 := by
  unfold markOf
  repeat' split
  all_goals simp

theorem j1_any (k : Nat) (after power t : ByteArray) (sign : Int) (h0 : 0 ≤ sign) (ha : after.size ≤ 20) (hp : power.size ≤ 20) (ht : t.size ≤ 100) :
    laws_number9.j1 (k + 1) after power sign t = some (⟨(t.data.toList ++ (fracOf after.data.toList ++ powerOf sign power.data.toList)).toArray⟩, !after.data.toList.isEmpty || !power.data.toList.isEmpty, true) := by
  unfold laws_number9.j1
  simp only [ByteArray.toList_eq]
  have hm : Int.tmod sign 4 = sign % 4 := Int.tmod_eq_emod_of_nonneg h0
  have hk := mark_len sign
  have hks : (⟨(markOf sign).toArray⟩ : ByteArray).size = (markOf sign).length := by show (markOf sign).toArray.size = _; simp
  simp only [hm, Option.bind_some, mark_rd, ByteArray.size_append, hks]
  rw [if_pos (show 0 ≤ sign % 4 by omega), if_pos (show sign % 4 < _ by simp; omega), if_pos (show (markOf sign).length + power.size ≤ 9223372036854775807 by omega)]
  have c1 : (⟨#[46]⟩ : ByteArray).size = 1 := rfl
  rw [if_pos (show t.size + ((markOf sign).length + power.size) ≤ 9223372036854775807 by omega), if_pos (show 1 + after.size ≤ 9223372036854775807 by omega), if_pos (show t.size + ((⟨#[46]⟩ : ByteArray).size + after.size) ≤ 9223372036854775807 by omega),
    if_pos (show t.size + ((⟨#[46]⟩ : ByteArray).size + after.size) + ((markOf sign).length + power.size) ≤ 9223372036854775807 by omega)]
  by_cases h1 : after.data.toList = []
  · rw [if_pos h1, h1]
    by_cases h2 : power.data.toList = []
    · rw [if_pos h2, h2]
      simp [fracOf, powerOf]
    · rw [if_neg h2]
      simp only [Option.some.injEq, Prod.mk.injEq]
      refine ⟨?_, ?_, trivial⟩
      · apply ba_ext
        simp [fracOf, powerOf, h2]
      · cases h : power.data.toList with | nil => exact absurd h h2 | cons _ _ => simp
  · rw [if_neg h1]
    have h1' : after.data.toList.isEmpty = false := by cases h : after.data.toList with | nil => exact absurd h h1 | cons _ _ => rfl
    rw [h1']
    by_cases h2 : power.data.toList = []
    · rw [if_pos h2, h2]
      simp only [Option.some.injEq, Prod.mk.injEq]
      refine ⟨?_, rfl, trivial⟩
      apply ba_ext
      simp [fracOf, powerOf, h1]
    · rw [if_neg h2]
      rw [if_pos (show 0 ≤ sign % 4 by omega), if_pos (show sign % 4 < _ by simp; omega), if_pos (show (markOf sign).length + power.size ≤ 9223372036854775807 by omega)]
      simp only [Option.some.injEq, Prod.mk.injEq]
      refine ⟨?_, rfl, trivial⟩
      apply ba_ext
      simp [fracOf, powerOf, h1, h2]

theorem j0_true (k : Nat) (minus : Bool) (whole after power : ByteArray) (sign : Int) : laws_number9.j0 (k + 1) minus whole after power sign true = some (⟨#[]⟩, false, false) := by
  unfold laws_number9.j0
  rfl
theorem j0_false (k : Nat) (minus : Bool) (whole after power : ByteArray) (sign : Int) (h0 : 0 ≤ sign) (hw : whole.size ≤ 20) (ha : after.size ≤ 20) (hp : power.size ≤ 20) :
    laws_number9.j0 (k + 2) minus whole after power sign false = some (numText minus whole after power sign, !after.data.toList.isEmpty || !power.data.toList.isEmpty, true) := by
  show laws_number9.j0 ((k + 1) + 1) minus whole after power sign false = _
  unfold laws_number9.j0
  simp only []
  rw [if_neg (by decide)]
  cases minus with
  | true =>
    rw [if_pos rfl, if_pos (by omega), j1_any k after power _ sign h0 ha hp (by rw [ByteArray.size_append]; show 1 + whole.size ≤ 100; omega)]
    simp [numText]
  | false =>
    rw [if_neg (by decide), j1_any k after power _ sign h0 ha hp (by omega)]
    simp [numText]

/-- The parts are a number. -/
def good9 (whole after power : ByteArray) : Bool := whole9 whole && part9 after && part9 power
theorem part_len {s : ByteArray} (h : part9 s = true) : s.size ≤ 20 := by
  unfold part9 at h
  rw [Bool.or_eq_true] at h
  rcases h with h | h
  · have := List.isEmpty_iff.1 h
    have hz := size_list s
    rw [this] at hz
    simp at hz
    omega
  · have := (dig9_list h).2.2
    rw [size_list] at this
    exact this

theorem num_f (k : Nat) (minus : Bool) (whole after power : ByteArray) (sign : Int) (h0 : 0 ≤ sign) (hw : whole.size ≤ 2147483647) (ha : after.size ≤ 2147483647) (hp : power.size ≤ 2147483647)
    (k1 : whole.size < k + 2) (k2 : after.size < k + 2) (k3 : power.size < k + 2) :
    laws_number9.f (k + 2) minus whole after power sign = some (if good9 whole after power then (numText minus whole after power sign, !after.data.toList.isEmpty || !power.data.toList.isEmpty, true) else (⟨#[]⟩, false, false)) := by
  have hJ := j0_true (k + 1) minus whole after power sign
  have key : ∀ b : Bool, b = good9 whole after power → laws_number9.j0 (k + 2) minus whole after power sign (!b) = some (if good9 whole after power then (numText minus whole after power sign, !after.data.toList.isEmpty || !power.data.toList.isEmpty, true) else (⟨#[]⟩, false, false)) := by
    intro b e
    subst e
    cases hg : good9 whole after power with
    | false => exact hJ
    | true =>
      have hg' := hg
      unfold good9 whole9 at hg'
      simp only [Bool.and_eq_true] at hg'
      have hwl := (dig9_list hg'.1.1.1).2.2
      rw [size_list] at hwl
      exact j0_false k minus whole after power sign h0 hwl (part_len hg'.1.2) (part_len hg'.2)
  unfold laws_number9.f
  rw [dig_f whole hw _ k1, dig_f after ha _ k2, dig_f power hp _ k3]
  simp only [Option.bind_some, ByteArray.toList_eq]
  have pe : ∀ s : ByteArray, s.data.toList = [] → part9 s = true := fun s h => by unfold part9; rw [h]; rfl
  have pn : ∀ s : ByteArray, s.data.toList ≠ [] → part9 s = dig9 s := fun s h => by
    unfold part9
    cases e : s.data.toList with
    | nil => exact absurd e h
    | cons _ _ => rfl
  have X : whole9 whole = true → (if after.data.toList = [] then (if power.data.toList = [] then laws_number9.j0 (k + 2) minus whole after power sign false else laws_number9.j0 (k + 2) minus whole after power sign (!dig9 power))
      else (if dig9 after = true then (if power.data.toList = [] then laws_number9.j0 (k + 2) minus whole after power sign false else laws_number9.j0 (k + 2) minus whole after power sign (!dig9 power)) else laws_number9.j0 (k + 2) minus whole after power sign true)) =
      some (if good9 whole after power then (numText minus whole after power sign, !after.data.toList.isEmpty || !power.data.toList.isEmpty, true) else (⟨#[]⟩, false, false)) := by
    intro hwt
    have Y : part9 after = true → (if power.data.toList = [] then laws_number9.j0 (k + 2) minus whole after power sign false else laws_number9.j0 (k + 2) minus whole after power sign (!dig9 power)) = some (if good9 whole after power then (numText minus whole after power sign, !after.data.toList.isEmpty || !power.data.toList.isEmpty, true) else (⟨#[]⟩, false, false)) := by
      intro hat
      by_cases h3 : power.data.toList = []
      · rw [if_pos h3]
        exact key true (by unfold good9; rw [hwt, hat, pe _ h3]; rfl)
      · rw [if_neg h3]
        exact key (dig9 power) (by unfold good9; rw [hwt, hat, pn _ h3]; rfl)
    by_cases h2 : after.data.toList = []
    · rw [if_pos h2]
      exact Y (pe _ h2)
    · rw [if_neg h2]
      by_cases h4 : dig9 after = true
      · rw [if_pos h4]
        exact Y (by rw [pn _ h2]; exact h4)
      · rw [if_neg h4]
        exact key false (by unfold good9; rw [hwt, pn _ h2, Bool.eq_false_iff.2 h4]; rfl)
  by_cases h1 : dig9 whole = true
  · rw [if_pos h1]
    by_cases h5 : (whole.size : Int) > 1
    · rw [if_pos h5, if_pos (by omega)]
      by_cases h6 : bt whole 0 = 48
      · rw [if_pos h6]
        refine key false ?_
        unfold good9 whole9
        rw [h1, h6, decide_eq_true (show 1 < whole.size by omega)]
        rfl
      · rw [if_neg h6]
        refine X ?_
        unfold whole9
        rw [h1, beq_eq_false_iff_ne.2 h6]
        simp
    · rw [if_neg h5]
      refine X ?_
      unfold whole9
      rw [h1, decide_eq_false (show ¬1 < whole.size by omega)]
      rfl
  · rw [if_neg h1]
    refine key false ?_
    unfold good9 whole9
    rw [Bool.eq_false_iff.2 h1]
    rfl

theorem number9_any (minus : Bool) (whole after power : ByteArray) (sign : Int) (h0 : 0 ≤ sign) (hw : whole.size ≤ 2147483647) (ha : after.size ≤ 2147483647) (hp : power.size ≤ 2147483647) (w : World) :
    Calls Tryz.prog 15 #[.bool minus, .string whole, .string after, .string power, .int .u8 sign] w fun e w' =>
      ((good9 whole after power = true ∧ e = .returned (.tuple #[.string (numText minus whole after power sign), .bool (!after.data.toList.isEmpty || !power.data.toList.isEmpty), .bool true])) ∨
       (good9 whole after power = false ∧ e = .returned (.tuple #[.string ⟨#[]⟩, .bool false, .bool false]))) ∧ Below w.heap.size w w' := by
  have hf := num_f (whole.size + after.size + power.size) minus whole after power sign h0 hw ha hp (by omega) (by omega) (by omega)
  cases hg : good9 whole after power with
  | true =>
    rw [hg, if_pos rfl] at hf
    exact (laws_number9.calls _ minus whole after power sign _ _ _ w hf).mono (fun e w' h => ⟨.inl ⟨rfl, h.1⟩, h.2⟩)
  | false =>
    rw [hg, if_neg (by decide)] at hf
    exact (laws_number9.calls _ minus whole after power sign _ _ _ w hf).mono (fun e w' h => ⟨.inr ⟨rfl, h.1⟩, h.2⟩)
end Go.Proofs.YtbojlohjmbhifaaGreatDoor

/-! The law FnNumberParts, walked. -/
namespace Go.Proofs.YtbojlohjmbhifaaGreatDoor
open Go.RowKit Go.Proofs.YtbojlohjmbhifaaGreatDoorW.PrintWords Go.Proofs.YtbojlohjmbhifaaGreatDoorW.PrintMore

theorem ascii_list {s : ByteArray} (h : ∀ c ∈ s.data.toList, c.toNat < 128) : ∀ (j : Nat) (hj : j < s.size), (s[j]'hj).toNat < 128 := by
  intro j hj
  have h' : j < s.data.toList.length := by rw [Array.length_toList]; exact hj
  have hm : s.data.toList[j] ∈ s.data.toList := List.getElem_mem h'
  have he : s.data.toList[j] = s[j]'hj := by
    rw [Array.getElem_toList]
    rfl
  rw [← he]
  exact h _ hm

theorem digit_ascii {c : UInt8} (h : digit8 c = true) : c.toNat < 128 := by
  unfold digit8 at h
  simp only [Bool.and_eq_true, decide_eq_true_eq] at h
  omega
theorem blank_ascii {c : UInt8} (h : blank8 c = true) : c.toNat < 128 := by
  have := blank_of h
  unfold blank at this
  omega
theorem blank_noNum {c : UInt8} (h : blank8 c = true) : digit8 c = false ∧ c ≠ 46 ∧ c ≠ 69 ∧ c ≠ 101 := by
  unfold blank8 at h
  simp only [Bool.or_eq_true, beq_iff_eq] at h
  rcases h with (((h | h) | h) | h) | h <;> subst h <;> exact ⟨by decide, by decide, by decide, by decide⟩

theorem part_cases {s : ByteArray} (h : part9 s = true) : s.data.toList = [] ∨ (s.data.toList ≠ [] ∧ (∀ c ∈ s.data.toList, digit8 c = true) ∧ s.data.toList.length ≤ 20) := by
  unfold part9 at h
  rw [Bool.or_eq_true] at h
  rcases h with h | h
  · exact .inl (List.isEmpty_iff.1 h)
  · exact .inr ⟨(dig9_list h).2.1, (dig9_list h).1, (dig9_list h).2.2⟩

theorem mark_cases (sign : Int) : markOf sign = [101] ∨ markOf sign = [69] ∨ markOf sign = [101, 43] ∨ markOf sign = [69, 45] := by
  unfold markOf
  repeat' split
  all_goals simp

theorem whole_list {s : ByteArray} (h : whole9 s = true) : (∀ c ∈ s.data.toList, digit8 c = true) ∧ s.data.toList ≠ [] ∧ s.data.toList.length ≤ 20 ∧ (∀ c u, s.data.toList = 48 :: c :: u → False) := by
  unfold whole9 at h
  rw [Bool.and_eq_true] at h
  obtain ⟨h1, h2⟩ := h
  refine ⟨(dig9_list h1).1, (dig9_list h1).2.1, (dig9_list h1).2.2, fun c u e => ?_⟩
  have hz := size_list s
  have hl : 1 < s.size := by rw [← hz, e]; simp
  have hb : bt s 0 = 48 := by
    have := bt_list (s := s) (i := 0) (by rw [hz]; omega)
    have e0 : s.data.toList[0]'(by rw [hz]; omega) = 48 := by simp [e]
    rw [e0] at this
    exact this
  rw [hb, decide_eq_true hl] at h2
  cases h2

/-- A number between things that are passed over is one token. -/
theorem run_number (minus : Bool) (whole after power : ByteArray) (sign : Int) (hg : good9 whole after power = true) (pre post : List UInt8) (h1 : ∀ c ∈ pre, blank8 c = true) (h2 : ∀ c ∈ post, blank8 c = true) (s : ByteArray)
    (hs : s.data.toList = pre ++ ((numText minus whole after power sign).data.toList ++ post)) :
    (∃ q e, Run s 0 [⟨if !after.data.toList.isEmpty || !power.data.toList.isEmpty then 17 else 16, q, e, numText minus whole after power sign⟩] true) ∧ (∀ c ∈ s.data.toList, c.toNat < 128) ∧ s.size ≤ pre.length + post.length + 64 := by
  unfold good9 at hg
  simp only [Bool.and_eq_true] at hg
  obtain ⟨⟨hw, ha⟩, hp⟩ := hg
  obtain ⟨w1, w2, w3, w4⟩ := whole_list hw
  have hM : (if minus then ([45] : List UInt8) else []) = [45] ∨ (if minus then ([45] : List UInt8) else []) = [] := by cases minus <;> simp
  have hF : (fracOf after.data.toList = [] ∧ (!after.data.toList.isEmpty) = false) ∨ (∃ u, fracOf after.data.toList = 46 :: u ∧ u ≠ [] ∧ (∀ c ∈ u, digit8 c = true) ∧ (!after.data.toList.isEmpty) = true) := by
    rcases part_cases ha with h | ⟨h, h3, _⟩
    · exact .inl (by rw [h]; exact ⟨rfl, rfl⟩)
    · refine .inr ⟨after.data.toList, by unfold fracOf; rw [if_neg h], h, h3, ?_⟩
      cases e : after.data.toList with | nil => exact absurd e h | cons _ _ => rfl
  have hP : (powerOf sign power.data.toList = [] ∧ (!power.data.toList.isEmpty) = false) ∨ (∃ x u, powerOf sign power.data.toList = x ++ u ∧ (x = [101] ∨ x = [69] ∨ x = [101, 43] ∨ x = [69, 45]) ∧ u ≠ [] ∧ (∀ c ∈ u, digit8 c = true) ∧ (!power.data.toList.isEmpty) = true) := by
    rcases part_cases hp with h | ⟨h, h3, _⟩
    · exact .inl (by rw [h]; exact ⟨rfl, rfl⟩)
    · refine .inr ⟨markOf sign, power.data.toList, by unfold powerOf; rw [if_neg h], mark_cases sign, h, h3, ?_⟩
      cases e : power.data.toList with | nil => exact absurd e h | cons _ _ => rfl
  have lF : (fracOf after.data.toList).length ≤ 21 := by
    unfold fracOf
    rcases part_cases ha with h | ⟨h, _, h3⟩
    · rw [if_pos h]; simp
    · rw [if_neg h]; simp; simpa using h3
  have lP : (powerOf sign power.data.toList).length ≤ 22 := by
    unfold powerOf
    have := mark_len sign
    rcases part_cases hp with h | ⟨h, _, h3⟩
    · rw [if_pos h]; simp
    · rw [if_neg h, List.length_append]; omega
  have lM : (if minus then ([45] : List UInt8) else []).length ≤ 1 := by cases minus <;> simp
  have aF : ∀ c ∈ fracOf after.data.toList, c.toNat < 128 := by
    intro c hc
    rcases hF with ⟨h, _⟩ | ⟨u, h, _, h3, _⟩ <;> rw [h] at hc
    · cases hc
    · rcases List.mem_cons.1 hc with rfl | hc
      · decide
      · exact digit_ascii (h3 c hc)
  have aP : ∀ c ∈ powerOf sign power.data.toList, c.toNat < 128 := by
    intro c hc
    rcases hP with ⟨h, _⟩ | ⟨x, u, h, hx, _, h3, _⟩ <;> rw [h] at hc
    · cases hc
    · rcases List.mem_append.1 hc with hc | hc
      · have : c = 101 ∨ c = 69 ∨ c = 43 ∨ c = 45 := by
          rcases hx with rfl | rfl | rfl | rfl <;> simp at hc <;> rcases hc with rfl | rfl <;> simp
        rcases this with rfl | rfl | rfl | rfl <;> decide
      · exact digit_ascii (h3 c hc)
  have aM : ∀ c ∈ (if minus then ([45] : List UInt8) else []), c.toNat < 128 := by
    intro c hc
    rcases hM with h | h <;> rw [h] at hc
    · rw [List.mem_singleton.1 hc]; decide
    · cases hc
  have hT : numText minus whole after power sign = ⟨((if minus then ([45] : List UInt8) else []) ++ (whole.data.toList ++ (fracOf after.data.toList ++ powerOf sign power.data.toList))).toArray⟩ := rfl
  rw [hT] at hs ⊢
  generalize (if minus then ([45] : List UInt8) else []) = M at *
  generalize fracOf after.data.toList = F at *
  generalize powerOf sign power.data.toList = P at *
  generalize whole.data.toList = A at *
  generalize (!after.data.toList.isEmpty) = t1 at *
  generalize (!power.data.toList.isEmpty) = t2 at *
  have hs' : s.data.toList = pre ++ (M ++ (A ++ (F ++ (P ++ post)))) := by rw [hs]; simp
  have h0 : From s 0 (pre ++ (M ++ (A ++ (F ++ (P ++ post))))) := by rw [← hs']; exact From.whole s
  have hr : ∀ d r', post = d :: r' → digit8 d = false ∧ d ≠ 46 ∧ d ≠ 69 ∧ d ≠ 101 := fun d r' e => blank_noNum (h2 d (by rw [e]; exact List.mem_cons_self))
  have t := number_at h0 h1 hM w2 w1 w4 hF hP hr
  have h9 : From s (0 + pre.length + (M ++ (A ++ (F ++ P))).length) post := by
    refine From.skip (a := M ++ (A ++ (F ++ P))) ?_
    have e : M ++ (A ++ (F ++ P)) ++ post = M ++ (A ++ (F ++ (P ++ post))) := by simp
    rw [e]
    exact h0.skip
  obtain ⟨e, v, te⟩ := end_at h9 h2
  have hz := h9.size
  have hl : 0 < A.length := List.length_pos_iff.2 w2
  have hll : (M ++ (A ++ (F ++ P))).length = M.length + (A.length + (F.length + P.length)) := by simp
  refine ⟨⟨_, _, .step t ?_ (by omega) (by omega) (.done te)⟩, ?_, by omega⟩
  · split <;> decide
  · rw [hs']
    intro c hc
    simp only [List.mem_append] at hc
    rcases hc with h | h | h | h | h | h
    · exact blank_ascii (h1 c h)
    · exact aM c h
    · exact digit_ascii (w1 c h)
    · exact aF c h
    · exact aP c h
    · exact blank_ascii (h2 c h)

set_option maxHeartbeats 1000000 in
set_option maxRecDepth 100000 in
theorem number_walk (minus : Bool) (whole after power : ByteArray) (sign : Int) (h0 : 0 ≤ sign) (w : World) :
    Calls Tryz.prog 6 #[.bool minus, .string whole, .string after, .string power, .int .u8 sign] w fun r w' => r = .returned (.bool true) ∧ Below w.heap.size w w' := by
  by_cases b1 : (2147483647 : Int) < whole.size
  · go_enter Tryz.func6, Tryz.ntmps6
    go_wp2_with fail
    go_ret
    exact ⟨rfl, Below.refl _ _⟩
  by_cases b2 : (2147483647 : Int) < after.size
  · go_enter Tryz.func6, Tryz.ntmps6
    go_wp2_with fail
    go_ret
    exact ⟨rfl, Below.refl _ _⟩
  by_cases b3 : (2147483647 : Int) < power.size
  · go_enter Tryz.func6, Tryz.ntmps6
    go_wp2_with fail
    go_ret
    exact ⟨rfl, Below.refl _ _⟩
  have C15 := Lib.hid (fun W => number9_any minus whole after power sign h0 (by omega) (by omega) (by omega) W)
  have hrun := Lib.hid (run_number minus whole after power sign)
  go_enter Tryz.func6, Tryz.ntmps6
  go_wp2_with fail
  refine (C15.out _).mono ?_
  rintro r w1 ⟨⟨hg, rfl⟩ | ⟨_, rfl⟩, hb⟩
  · obtain ⟨⟨q1, e1, r1⟩, a1, z1⟩ := hrun.out hg [] [] (by simp) (by simp) (numText minus whole after power sign) (by simp)
    obtain ⟨⟨q2, e2, r2⟩, a2, z2⟩ := hrun.out hg [32] [44] (by decide) (by decide) (⟨#[32]⟩ ++ numText minus whole after power sign ++ ⟨#[44]⟩) (by simp)
    have D1 := Lib.hid (fun W => only_any _ (by simp at z1; omega) (ascii_list a1) _ q1 e1 _ r1 W)
    have D2 := Lib.hid (fun W => only_any _ (by simp only [List.length_cons, List.length_nil] at z2; omega) (ascii_list a2) _ q2 e2 _ r2 W)
    have hz1 : (numText minus whole after power sign).size ≤ 64 := by simpa using z1
    clear hg r1 r2 a1 a2 z1 z2
    generalize numText minus whole after power sign = t at *
    cases hfl : (!after.data.toList.isEmpty || !power.data.toList.isEmpty) with
    | true =>
      rw [hfl] at D1 D2
      simp only [if_true] at D1 D2
      clear hfl
      go_wp2_with fail
      refine (D1.out _).mono ?_
      rintro r w2 ⟨rfl, hb2⟩
      go_wp2_with fail
      refine (D2.out _).mono ?_
      rintro r w3 ⟨rfl, hb3⟩
      go_wp2
      go_ret
      exact ⟨rfl, hb.trans ((hb2.mono hb.size).trans (hb3.mono (Nat.le_trans hb.size hb2.size)))⟩
    | false =>
      rw [hfl] at D1 D2
      simp only [Bool.false_eq_true, if_false] at D1 D2
      clear hfl
      go_wp2_with fail
      refine (D1.out _).mono ?_
      rintro r w2 ⟨rfl, hb2⟩
      go_wp2_with fail
      refine (D2.out _).mono ?_
      rintro r w3 ⟨rfl, hb3⟩
      go_wp2
      go_ret
      exact ⟨rfl, hb.trans ((hb2.mono hb.size).trans (hb3.mono (Nat.le_trans hb.size hb2.size)))⟩
  · go_wp2_with fail
    go_ret
    exact ⟨rfl, hb⟩
end Go.Proofs.YtbojlohjmbhifaaGreatDoor
