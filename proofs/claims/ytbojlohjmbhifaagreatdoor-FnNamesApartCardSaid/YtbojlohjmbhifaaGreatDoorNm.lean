/- What 'isName9' returns. -/
import Derived.Test.YtbojlohjmbhifaaGreatDoorNu
namespace Go.Proofs.YtbojlohjmbhifaaGreatDoor
open Go.RowKit Go.Proofs.YtbojlohjmbhifaaGreatDoorW.PrintWords Go.Proofs.YtbojlohjmbhifaaGreatDoorW.PrintMore

/-- The byte may stand at place i of a name. -/
def nameAt (i : Nat) (c : UInt8) : Bool := nameStart8 c || (i != 0 && digit8 c)
/-- All bytes from place i on may stand where they stand. -/
def namesFrom : Nat → List UInt8 → Bool
  | _, [] => true
  | i, c :: t => nameAt i c && namesFrom (i + 1) t
/-- A name of at most 40 bytes. -/
def name9 (s : ByteArray) : Bool := namesFrom 0 s.data.toList && !s.data.toList.isEmpty && decide (s.size ≤ 40)

theorem names_drop : ∀ (l : List UInt8) (i k : Nat), i ≤ l.length → (∀ j (h : j < l.length), j < i → nameAt (k + j) l[j] = true) → namesFrom k l = namesFrom (k + i) (l.drop i)
  | _, 0, _, _, _ => by simp
  | [], i + 1, _, h, _ => by simp at h
  | c :: t, i + 1, k, h, hj => by
    have h0 := hj 0 (by simp) (by omega)
    simp only [Nat.add_zero, List.getElem_cons_zero] at h0
    rw [namesFrom, h0, Bool.true_and, List.drop_succ_cons, show k + (i + 1) = k + 1 + i by omega]
    exact names_drop t i (k + 1) (by simpa using h) (fun j h1 h2 => by
      have := hj (j + 1) (by simpa using h1) (by omega)
      rw [show k + 1 + j = k + (j + 1) by omega]
      simpa using this)

theorem byte_class (c : UInt8) : (0 ≤ c.toNat ∧ c.toNat ≤ 47) ∨ (48 ≤ c.toNat ∧ c.toNat ≤ 57) ∨ (58 ≤ c.toNat ∧ c.toNat ≤ 64) ∨ (65 ≤ c.toNat ∧ c.toNat ≤ 90) ∨ (91 ≤ c.toNat ∧ c.toNat ≤ 94) ∨ (95 ≤ c.toNat ∧ c.toNat ≤ 95) ∨ (96 ≤ c.toNat ∧ c.toNat ≤ 96) ∨ (97 ≤ c.toNat ∧ c.toNat ≤ 122) ∨ (123 ≤ c.toNat ∧ c.toNat ≤ 255) := by
  have := c.toNat_lt
  omega

set_option maxHeartbeats 4000000 in
set_option maxRecDepth 100000 in
theorem isName9_any (s : ByteArray) (hs : s.size ≤ 2147483647) (w : World) : Calls Tryz.prog 14 #[.string s] w fun r w' => r = .returned (.bool (name9 s)) ∧ Drawn0 w w' := by
  go_enter Tryz.func14, Tryz.ntmps14
  go_wp2_with fail
  go_loopw [3] (fun x wr => ∃ i : Nat, i ≤ s.size ∧ x = .int .i64 i ∧ Hid (∀ j (h : j < s.data.toList.length), j < i → nameAt (0 + j) s.data.toList[j] = true) ∧ Drawn0 w wr) (fun x _ => s.size - (intOf x).toNat)
  case atStart => exact ⟨0, by omega, rfl, Lib.hid (fun j _ h => absurd h (Nat.not_lt_zero _)), by repeat (first | exact Drawn0.refl _ | apply Drawn0.step)⟩
  case round =>
    obtain ⟨i, hi, rfl, hall, ⟨m1, rfl⟩⟩ := hrel
    by_cases hlt : i < s.size
    · have hlt2 : (i : Int) < s.size := by omega
      have hi0 : (0 : Int) ≤ i := by omega
      have hl : i < s.data.toList.length := by rw [size_list]; exact hlt
      have hx4 : ∀ h : i < s.size, ((s[i]'h).toNat : Int) = bt s i := bt_at s i
      have hb := bt_list hl
      have hgo : nameAt (0 + i) s.data.toList[i] = true → Hid (∀ j (h : j < s.data.toList.length), j < i + 1 → nameAt (0 + j) s.data.toList[j] = true) := fun hp => Lib.hid (fun j hj h => by
        rcases Nat.lt_or_ge j i with h' | h'
        · exact hall.out j hj h'
        · obtain rfl : j = i := by omega
          exact hp)
      have hno : nameAt (0 + i) s.data.toList[i] = false → Hid (name9 s = false) := fun hp => Lib.hid (by
        unfold name9
        have e := names_drop s.data.toList i 0 (by omega) hall.out
        rw [List.drop_eq_getElem_cons hl, namesFrom, hp] at e
        rw [e]
        rfl)
      have HGO := Lib.hid hgo
      have HNO := Lib.hid hno
      clear hgo hno
      generalize hcc : s.data.toList[i] = c at *
      have hcl := byte_class c
      rcases hcl with hcl | hcl | hcl | hcl | hcl | hcl | hcl | hcl | hcl
      · have e0 : (bt s i == 95) = false := beq_eq_false_iff_ne.2 (by omega)
        have e1 : (bt s i != 95) = true := bne_iff_ne.2 (by omega)
        have e2 : decide (bt s i < 97) = true := decide_eq_true (by omega)
        have e3 : decide (122 < bt s i) = false := decide_eq_false (by omega)
        have e4 : decide (bt s i < 65) = true := decide_eq_true (by omega)
        have e5 : decide (90 < bt s i) = false := decide_eq_false (by omega)
        have e6 : decide (bt s i < 48) = true := decide_eq_true (by omega)
        have e7 : decide (57 < bt s i) = false := decide_eq_false (by omega)
        by_cases hz : i = 0
        · have ez : ((i : Int) == 0) = true := beq_iff_eq.2 (by omega)
          have hn := HNO.out (by unfold nameAt nameStart8 digit8; simp; omega)
          clear hz hb hcc hcl HGO HNO
          go_wp2_with fail
          go_ret
          exact ⟨by rw [hn.out]; rfl, by repeat (first | exact Drawn0.refl _ | apply Drawn0.step)⟩
        · have ez : ((i : Int) == 0) = false := beq_eq_false_iff_ne.2 (by omega)
          have hn := HNO.out (by unfold nameAt nameStart8 digit8; simp; omega)
          clear hb hcc hcl HGO HNO
          go_wp2_with fail
          go_ret
          exact ⟨by rw [hn.out]; rfl, by repeat (first | exact Drawn0.refl _ | apply Drawn0.step)⟩
      · have e0 : (bt s i == 95) = false := beq_eq_false_iff_ne.2 (by omega)
        have e1 : (bt s i != 95) = true := bne_iff_ne.2 (by omega)
        have e2 : decide (bt s i < 97) = true := decide_eq_true (by omega)
        have e3 : decide (122 < bt s i) = false := decide_eq_false (by omega)
        have e4 : decide (bt s i < 65) = true := decide_eq_true (by omega)
        have e5 : decide (90 < bt s i) = false := decide_eq_false (by omega)
        have e6 : decide (bt s i < 48) = false := decide_eq_false (by omega)
        have e7 : decide (57 < bt s i) = false := decide_eq_false (by omega)
        by_cases hz : i = 0
        · have ez : ((i : Int) == 0) = true := beq_iff_eq.2 (by omega)
          have hn := HNO.out (by unfold nameAt nameStart8 digit8; simp; omega)
          clear hz hb hcc hcl HGO HNO
          go_wp2_with fail
          go_ret
          exact ⟨by rw [hn.out]; rfl, by repeat (first | exact Drawn0.refl _ | apply Drawn0.step)⟩
        · have ez : ((i : Int) == 0) = false := beq_eq_false_iff_ne.2 (by omega)
          have hn := HGO.out (by unfold nameAt nameStart8 digit8; simp; omega)
          clear hb hcc hcl HGO HNO
          go_wp2_with fail
          go_round
          case rel => exact ⟨i + 1, by omega, by go_num, hn, by repeat (first | exact Drawn0.refl _ | apply Drawn0.step)⟩
          case measure => simp [intOf]; omega
      · have e0 : (bt s i == 95) = false := beq_eq_false_iff_ne.2 (by omega)
        have e1 : (bt s i != 95) = true := bne_iff_ne.2 (by omega)
        have e2 : decide (bt s i < 97) = true := decide_eq_true (by omega)
        have e3 : decide (122 < bt s i) = false := decide_eq_false (by omega)
        have e4 : decide (bt s i < 65) = true := decide_eq_true (by omega)
        have e5 : decide (90 < bt s i) = false := decide_eq_false (by omega)
        have e6 : decide (bt s i < 48) = false := decide_eq_false (by omega)
        have e7 : decide (57 < bt s i) = true := decide_eq_true (by omega)
        by_cases hz : i = 0
        · have ez : ((i : Int) == 0) = true := beq_iff_eq.2 (by omega)
          have hn := HNO.out (by unfold nameAt nameStart8 digit8; simp; omega)
          clear hz hb hcc hcl HGO HNO
          go_wp2_with fail
          go_ret
          exact ⟨by rw [hn.out]; rfl, by repeat (first | exact Drawn0.refl _ | apply Drawn0.step)⟩
        · have ez : ((i : Int) == 0) = false := beq_eq_false_iff_ne.2 (by omega)
          have hn := HNO.out (by unfold nameAt nameStart8 digit8; simp; omega)
          clear hb hcc hcl HGO HNO
          go_wp2_with fail
          go_ret
          exact ⟨by rw [hn.out]; rfl, by repeat (first | exact Drawn0.refl _ | apply Drawn0.step)⟩
      · have e0 : (bt s i == 95) = false := beq_eq_false_iff_ne.2 (by omega)
        have e1 : (bt s i != 95) = true := bne_iff_ne.2 (by omega)
        have e2 : decide (bt s i < 97) = true := decide_eq_true (by omega)
        have e3 : decide (122 < bt s i) = false := decide_eq_false (by omega)
        have e4 : decide (bt s i < 65) = false := decide_eq_false (by omega)
        have e5 : decide (90 < bt s i) = false := decide_eq_false (by omega)
        have e6 : decide (bt s i < 48) = false := decide_eq_false (by omega)
        have e7 : decide (57 < bt s i) = true := decide_eq_true (by omega)
        have hn := HGO.out (by unfold nameAt nameStart8 digit8; simp; omega)
        clear hb hcc hcl HGO HNO
        go_wp2_with fail
        go_round
        case rel => exact ⟨i + 1, by omega, by go_num, hn, by repeat (first | exact Drawn0.refl _ | apply Drawn0.step)⟩
        case measure => simp [intOf]; omega
      · have e0 : (bt s i == 95) = false := beq_eq_false_iff_ne.2 (by omega)
        have e1 : (bt s i != 95) = true := bne_iff_ne.2 (by omega)
        have e2 : decide (bt s i < 97) = true := decide_eq_true (by omega)
        have e3 : decide (122 < bt s i) = false := decide_eq_false (by omega)
        have e4 : decide (bt s i < 65) = false := decide_eq_false (by omega)
        have e5 : decide (90 < bt s i) = true := decide_eq_true (by omega)
        have e6 : decide (bt s i < 48) = false := decide_eq_false (by omega)
        have e7 : decide (57 < bt s i) = true := decide_eq_true (by omega)
        by_cases hz : i = 0
        · have ez : ((i : Int) == 0) = true := beq_iff_eq.2 (by omega)
          have hn := HNO.out (by unfold nameAt nameStart8 digit8; simp; omega)
          clear hz hb hcc hcl HGO HNO
          go_wp2_with fail
          go_ret
          exact ⟨by rw [hn.out]; rfl, by repeat (first | exact Drawn0.refl _ | apply Drawn0.step)⟩
        · have ez : ((i : Int) == 0) = false := beq_eq_false_iff_ne.2 (by omega)
          have hn := HNO.out (by unfold nameAt nameStart8 digit8; simp; omega)
          clear hb hcc hcl HGO HNO
          go_wp2_with fail
          go_ret
          exact ⟨by rw [hn.out]; rfl, by repeat (first | exact Drawn0.refl _ | apply Drawn0.step)⟩
      · have e0 : (bt s i == 95) = true := beq_iff_eq.2 (by omega)
        have e1 : (bt s i != 95) = false := bne_eq_false_iff_eq.2 (by omega)
        have e2 : decide (bt s i < 97) = true := decide_eq_true (by omega)
        have e3 : decide (122 < bt s i) = false := decide_eq_false (by omega)
        have e4 : decide (bt s i < 65) = false := decide_eq_false (by omega)
        have e5 : decide (90 < bt s i) = true := decide_eq_true (by omega)
        have e6 : decide (bt s i < 48) = false := decide_eq_false (by omega)
        have e7 : decide (57 < bt s i) = true := decide_eq_true (by omega)
        have hn := HGO.out (by unfold nameAt nameStart8 digit8; simp; omega)
        clear hb hcc hcl HGO HNO
        go_wp2_with fail
        go_round
        case rel => exact ⟨i + 1, by omega, by go_num, hn, by repeat (first | exact Drawn0.refl _ | apply Drawn0.step)⟩
        case measure => simp [intOf]; omega
      · have e0 : (bt s i == 95) = false := beq_eq_false_iff_ne.2 (by omega)
        have e1 : (bt s i != 95) = true := bne_iff_ne.2 (by omega)
        have e2 : decide (bt s i < 97) = true := decide_eq_true (by omega)
        have e3 : decide (122 < bt s i) = false := decide_eq_false (by omega)
        have e4 : decide (bt s i < 65) = false := decide_eq_false (by omega)
        have e5 : decide (90 < bt s i) = true := decide_eq_true (by omega)
        have e6 : decide (bt s i < 48) = false := decide_eq_false (by omega)
        have e7 : decide (57 < bt s i) = true := decide_eq_true (by omega)
        by_cases hz : i = 0
        · have ez : ((i : Int) == 0) = true := beq_iff_eq.2 (by omega)
          have hn := HNO.out (by unfold nameAt nameStart8 digit8; simp; omega)
          clear hz hb hcc hcl HGO HNO
          go_wp2_with fail
          go_ret
          exact ⟨by rw [hn.out]; rfl, by repeat (first | exact Drawn0.refl _ | apply Drawn0.step)⟩
        · have ez : ((i : Int) == 0) = false := beq_eq_false_iff_ne.2 (by omega)
          have hn := HNO.out (by unfold nameAt nameStart8 digit8; simp; omega)
          clear hb hcc hcl HGO HNO
          go_wp2_with fail
          go_ret
          exact ⟨by rw [hn.out]; rfl, by repeat (first | exact Drawn0.refl _ | apply Drawn0.step)⟩
      · have e0 : (bt s i == 95) = false := beq_eq_false_iff_ne.2 (by omega)
        have e1 : (bt s i != 95) = true := bne_iff_ne.2 (by omega)
        have e2 : decide (bt s i < 97) = false := decide_eq_false (by omega)
        have e3 : decide (122 < bt s i) = false := decide_eq_false (by omega)
        have e4 : decide (bt s i < 65) = false := decide_eq_false (by omega)
        have e5 : decide (90 < bt s i) = true := decide_eq_true (by omega)
        have e6 : decide (bt s i < 48) = false := decide_eq_false (by omega)
        have e7 : decide (57 < bt s i) = true := decide_eq_true (by omega)
        have hn := HGO.out (by unfold nameAt nameStart8 digit8; simp; omega)
        clear hb hcc hcl HGO HNO
        go_wp2_with fail
        go_round
        case rel => exact ⟨i + 1, by omega, by go_num, hn, by repeat (first | exact Drawn0.refl _ | apply Drawn0.step)⟩
        case measure => simp [intOf]; omega
      · have e0 : (bt s i == 95) = false := beq_eq_false_iff_ne.2 (by omega)
        have e1 : (bt s i != 95) = true := bne_iff_ne.2 (by omega)
        have e2 : decide (bt s i < 97) = false := decide_eq_false (by omega)
        have e3 : decide (122 < bt s i) = true := decide_eq_true (by omega)
        have e4 : decide (bt s i < 65) = false := decide_eq_false (by omega)
        have e5 : decide (90 < bt s i) = true := decide_eq_true (by omega)
        have e6 : decide (bt s i < 48) = false := decide_eq_false (by omega)
        have e7 : decide (57 < bt s i) = true := decide_eq_true (by omega)
        by_cases hz : i = 0
        · have ez : ((i : Int) == 0) = true := beq_iff_eq.2 (by omega)
          have hn := HNO.out (by unfold nameAt nameStart8 digit8; simp; omega)
          clear hz hb hcc hcl HGO HNO
          go_wp2_with fail
          go_ret
          exact ⟨by rw [hn.out]; rfl, by repeat (first | exact Drawn0.refl _ | apply Drawn0.step)⟩
        · have ez : ((i : Int) == 0) = false := beq_eq_false_iff_ne.2 (by omega)
          have hn := HNO.out (by unfold nameAt nameStart8 digit8; simp; omega)
          clear hb hcc hcl HGO HNO
          go_wp2_with fail
          go_ret
          exact ⟨by rw [hn.out]; rfl, by repeat (first | exact Drawn0.refl _ | apply Drawn0.step)⟩
    · obtain rfl : i = s.size := by omega
      have e := names_drop s.data.toList s.size 0 (by rw [size_list]; omega) hall.out
      rw [List.drop_of_length_le (by rw [size_list]; omega), namesFrom] at e
      cases hl : s.data.toList with
      | nil =>
        have hv : name9 s = false := by unfold name9; rw [hl]; simp
        have he : (s.toList == ([] : List UInt8)) = true := by rw [ByteArray.toList_eq, hl]; rfl
        have he2 : (s.toList != ([] : List UInt8)) = false := by rw [ByteArray.toList_eq, hl]; rfl
        have HV := Lib.hid hv
        clear hv e
        go_wp2_with fail
        go_ret
        exact ⟨by rw [HV.out]; rfl, by repeat (first | exact Drawn0.refl _ | apply Drawn0.step)⟩
      | cons c t =>
        have hv : name9 s = decide ((s.size : Int) ≤ 40) := by
          unfold name9
          rw [e, hl]
          simp only [List.isEmpty_cons, Bool.not_false, Bool.and_true, Bool.true_and]
          exact decide_eq_decide.2 (by omega)
        have he : (s.toList == ([] : List UInt8)) = false := by rw [ByteArray.toList_eq, hl]; rfl
        have he2 : (s.toList != ([] : List UInt8)) = true := by rw [ByteArray.toList_eq, hl]; rfl
        have HV := Lib.hid hv
        clear hv e
        go_wp2_with fail
        go_ret
        exact ⟨by rw [HV.out]; simp, by repeat (first | exact Drawn0.refl _ | apply Drawn0.step)⟩
end Go.Proofs.YtbojlohjmbhifaaGreatDoor
