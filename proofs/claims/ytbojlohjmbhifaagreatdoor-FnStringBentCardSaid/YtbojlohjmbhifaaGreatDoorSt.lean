/- The law FnStringBent, walked. -/
import Derived.Test.YtbojlohjmbhifaaGreatDoorSq
namespace Go.Proofs.YtbojlohjmbhifaaGreatDoor
open Go.RowKit Go.Proofs.YtbojlohjmbhifaaGreatDoorW.PrintWords Go.Proofs.YtbojlohjmbhifaaGreatDoorW.PrintMore

def print8 (c : UInt8) : Bool := 32 ≤ c.toNat && c.toNat ≤ 126 && c.toNat != 34 && c.toNat != 92
/-- Printable ASCII without quotation marks and backslashes. -/
def plainT (s : ByteArray) : Bool := s.data.toList.all print8 && decide (s.size ≤ 200)

theorem print_of {c : UInt8} (h : print8 c = true) : 32 ≤ c.toNat ∧ c.toNat ≤ 126 ∧ c.toNat ≠ 34 ∧ c.toNat ≠ 92 := by
  unfold print8 at h
  simp only [Bool.and_eq_true, decide_eq_true_eq, bne_iff_ne] at h
  omega

theorem cell_lt' {w : World} {a : Addr} {v : Value} (h : w.cell? a = some v) : a.block < w.heap.size := by
  rcases Nat.lt_or_ge a.block w.heap.size with h' | h'
  · exact h'
  · simp [World.cell?, Array.getElem?_eq_none h'] at h

set_option maxHeartbeats 1000000 in
set_option maxRecDepth 100000 in
theorem plain9_any (s : ByteArray) (hs : s.size ≤ 2147483647) (w : World) : Calls Tryz.prog 17 #[.string s] w fun r w' => r = .returned (.bool (plainT s)) ∧ Drawn0 w w' := by
  go_enter Tryz.func17, Tryz.ntmps17
  go_wp2_with fail
  go_loopw [3] (fun x wr => ∃ i : Nat, i ≤ s.size ∧ x = .int .i64 i ∧ Hid (∀ c ∈ s.data.toList.take i, print8 c = true) ∧ Drawn0 w wr) (fun x _ => s.size - (intOf x).toNat)
  case atStart => exact ⟨0, by omega, rfl, Lib.hid (by simp), by repeat (first | exact Drawn0.refl _ | apply Drawn0.step)⟩
  case round =>
    obtain ⟨i, hi, rfl, hall, ⟨m1, rfl⟩⟩ := hrel
    by_cases hlt : i < s.size
    · have hlt2 : (i : Int) < s.size := by omega
      have hi0 : (0 : Int) ≤ i := by omega
      have hl : i < s.data.toList.length := by rw [size_list]; exact hlt
      have hx4 : ∀ h : i < s.size, ((s[i]'h).toNat : Int) = bt s i := bt_at s i
      have hb := bt_list hl
      cases hp : print8 s.data.toList[i] with
      | true =>
        obtain ⟨p1, p2, p3, p4⟩ := print_of hp
        have e1 : decide (bt s i < 32) = false := decide_eq_false (by omega)
        have e2 : decide (126 < bt s i) = false := decide_eq_false (by omega)
        have e3 : (bt s i == 34) = false := beq_eq_false_iff_ne.2 (by omega)
        have e4 : (bt s i == 92) = false := beq_eq_false_iff_ne.2 (by omega)
        have hall2 : Hid (∀ c ∈ s.data.toList.take (i + 1), print8 c = true) := Lib.hid (fun c hc => by
          rw [List.take_succ_eq_append_getElem hl] at hc
          rcases List.mem_append.1 hc with hc | hc
          · exact hall.out c hc
          · rw [List.mem_singleton.1 hc]; exact hp)
        clear hp hb
        go_wp2_with fail
        go_round
        case rel => exact ⟨i + 1, by omega, by go_num, hall2, by repeat (first | exact Drawn0.refl _ | apply Drawn0.step)⟩
        case measure => simp [intOf]; omega
      | false =>
        have hno : plainT s = false := by
          unfold plainT
          have : s.data.toList.all print8 = false := by
            rw [List.all_eq_false]
            exact ⟨_, List.getElem_mem hl, by rw [hp]; decide⟩
          rw [this]
          rfl
        have hq : decide (bt s i < 32) = true ∨ (decide (bt s i < 32) = false ∧ decide (126 < bt s i) = true) ∨ (decide (bt s i < 32) = false ∧ decide (126 < bt s i) = false ∧ (bt s i == 34) = true) ∨ (decide (bt s i < 32) = false ∧ decide (126 < bt s i) = false ∧ (bt s i == 34) = false ∧ (bt s i == 92) = true) := by
          simp only [decide_eq_true_eq, decide_eq_false_iff_not, beq_iff_eq, beq_eq_false_iff_ne]
          unfold print8 at hp
          simp only [Bool.and_eq_false_iff, decide_eq_false_iff_not, bne_eq_false_iff_eq] at hp
          omega
        have HNO := Lib.hid hno
        clear hp hb hno
        rcases hq with e1 | ⟨e1, e2⟩ | ⟨e1, e2, e3⟩ | ⟨e1, e2, e3, e4⟩
        all_goals
          go_wp2_with fail
          go_ret
          exact ⟨by rw [HNO.out]; rfl, by repeat (first | exact Drawn0.refl _ | apply Drawn0.step)⟩
    · obtain rfl : i = s.size := by omega
      have hv : plainT s = decide ((s.size : Int) ≤ 200) := by
        unfold plainT
        have ha := hall.out
        rw [List.take_of_length_le (by rw [size_list]; omega)] at ha
        rw [List.all_eq_true.2 ha, Bool.true_and]
        exact decide_eq_decide.2 (by omega)
      have HV := Lib.hid hv
      clear hv
      go_wp2_with fail
      go_ret
      exact ⟨by rw [HV.out]; simp, by repeat (first | exact Drawn0.refl _ | apply Drawn0.step)⟩

/-- A slice of one byte, new, as a string. -/
theorem one_string (W : World) (d : UInt8) (x : Int) (hd : (d.toNat : Int) = x) (n : Nat) (hn : n = W.heap.size) (ty : TypeId) :
    (convert 32 9 (.slice (some ⟨n, 0, none⟩) 1 1)).run Tryz.prog (W.alloc (.cells #[.int .u8 x] ty)) = .ok (.string ⟨#[d]⟩) (W.alloc (.cells #[.int .u8 x] ty)) := by
  have hk := run_convert_bytes_back (P := Tryz.prog) (W.alloc (.cells #[.int .u8 x] ty)) 32 9 5 ⟨n, 0, none⟩ 1 [d] Tryz.underlying32 Tryz.underlying5 Tryz.underlying9 (fun j hj => by
    have : j = 0 := by simp at hj; omega
    subst this
    rw [add_plain, World.cell?_alloc_at _ _ _ _ hn]
    simp [hd])
  simpa using hk

theorem plainT_list {s : ByteArray} (h : plainT s = true) : (∀ c ∈ s.data.toList, print8 c = true) ∧ s.data.toList.length ≤ 200 := by
  unfold plainT at h
  simp only [Bool.and_eq_true, decide_eq_true_eq, List.all_eq_true] at h
  exact ⟨h.1, by rw [size_list]; exact h.2⟩

/-- A string of plain signs that ends with its text, or at a control character (not a tab), is refused. -/
theorem badstr {s : ByteArray} {t r : List UInt8} (hs : s.data.toList = 34 :: (t ++ r)) (hne : t ≠ []) (ht : ∀ c ∈ t, print8 c = true) (hr : ∀ c r', r = c :: r' → c.toNat < 32 ∧ c.toNat ≠ 9) : Bad s 0 := by
  have h0 : From s 0 (34 :: (t ++ r)) := by rw [← hs]; exact From.whole s
  have h1 : From s 1 (t ++ r) := From.skip (a := [34]) h0
  have hz := h1.size
  rw [List.length_append] at hz
  have hl : 0 < t.length := List.length_pos_iff.2 hne
  have ha : Ahead s 0 0 := From.ahead (g := []) (t := 34 :: (t ++ r)) h0 (by simp) (by simp)
  have hps : ∀ j : Nat, 0 < j → j < 1 + t.length → plainSign (cd s j) := by
    intro j h3 h4
    obtain ⟨i, rfl⟩ : ∃ i, j = 1 + i := ⟨j - 1, by omega⟩
    have hi : i < t.length := by omega
    rw [h1.code i, lc_left hi]
    have := print_of (ht _ (List.getElem_mem hi))
    unfold plainSign
    omega
  refine bad_string s 0 0 ha (by rw [h0.at0]; rfl) (by have := hps 1 (by omega) (by omega); exact this.2.1) (str_bad s 0 (1 + t.length) (by omega) (by omega) hps ?_)
  rw [h1.skip.at0]
  cases r with
  | nil => exact ⟨by rw [lc_nil]; omega, by rw [lc_nil]; omega⟩
  | cons c r' =>
    obtain ⟨h5, h6⟩ := hr c r' rfl
    have e : lc (c :: r') 0 = (c.toNat : Int) := rfl
    exact ⟨by rw [e]; omega, by rw [e]; omega⟩

theorem bt_cd {s : ByteArray} {j : Nat} (h : j < s.size) : bt s (j : Int) = cd s (j : Int) := by
  rw [bt_list (by rw [size_list]; exact h), cd_list]
  unfold lc
  rw [List.getElem?_eq_getElem (by rw [size_list]; exact h)]

/-- Of such a string the reference is sure. -/
theorem sure_str {s : ByteArray} {t r' : List UInt8} {c : UInt8} (hs : s.data.toList = 34 :: (t ++ c :: r')) (hne : t ≠ []) (ht : ∀ c ∈ t, print8 c = true) (hc : c.toNat < 32 ∧ c.toNat ≠ 9) (hz : s.size ≤ 4294967295) (w : World) :
    Calls Tryz.prog 11 #[.string s] w fun r w' => r = .returned (.bool true) ∧ Below w.heap.size w w' := by
  have h0 : From s 0 (34 :: (t ++ c :: r')) := by rw [← hs]; exact From.whole s
  have h1 : From s 1 (t ++ c :: r') := From.skip (a := [34]) h0
  have hsz := h1.size
  rw [List.length_append, List.length_cons] at hsz
  have hl : 0 < t.length := List.length_pos_iff.2 hne
  have hps : ∀ j : Nat, 0 < j → j < 1 + t.length → 32 ≤ bt s j ∧ bt s j < 128 ∧ bt s j ≠ 34 ∧ bt s j ≠ 92 := by
    intro j h3 h4
    obtain ⟨i, rfl⟩ : ∃ i, j = 1 + i := ⟨j - 1, by omega⟩
    have hi : i < t.length := by omega
    rw [bt_cd (by omega), h1.code i, lc_left hi]
    have := print_of (ht _ (List.getElem_mem hi))
    omega
  refine sure_bad s (by omega) hz w (fun W x hx => ?_)
  refine (token_quote (p := 0) hx (by omega) hz (by rw [bt_cd (by omega), h0.at0]; rfl) (by have := hps 1 (by omega) (by omega); exact this.2.2.1) (fun w' => (∃ p out, Lxr w' x s p out true false) ∧ Below x W w') (fun m => ?_)).mono (fun r w' h => h)
  refine (text_control (p := 0) (hx.drewN m) (1 + t.length) (by omega) (by omega) hz hps ?_).mono (fun r w' h => ⟨h.1, h.2.1, ?_⟩)
  · rw [bt_cd (by omega), h1.skip.at0]
    have e : lc (c :: r') 0 = (c.toNat : Int) := rfl
    rw [e]
    omega
  · exact (Below.mono (Drawn0.below (w := W) ⟨⟨m, rfl⟩⟩) (by
      have : x < W.heap.size := cell_lt' hx.c0
      omega)).trans h.2.2

set_option maxHeartbeats 2000000 in
set_option maxRecDepth 100000 in
theorem bent_walk (a b : ByteArray) (c : Int) (c0 : 0 ≤ c) (c1 : c ≤ 255) (w : World) :
    Calls Tryz.prog 8 #[.string a, .string b, .int .u8 c] w fun r w' => r = .returned (.bool true) ∧ Below w.heap.size w w' := by
  by_cases b1 : (2147483647 : Int) < a.size
  · go_enter Tryz.func8, Tryz.ntmps8
    go_wp2_with fail
    go_ret
    exact ⟨rfl, Below.refl _ _⟩
  by_cases b2 : (2147483647 : Int) < b.size
  · go_enter Tryz.func8, Tryz.ntmps8
    go_wp2_with fail
    go_ret
    exact ⟨rfl, Below.refl _ _⟩
  have P1 := Lib.hid (fun W => plain9_any a (by omega) W)
  have P2 := Lib.hid (fun W => plain9_any b (by omega) W)
  cases h1 : plainT a with
  | false =>
    rw [h1] at P1
    go_enter Tryz.func8, Tryz.ntmps8
    go_wp2_with (first | (go_at_call 17; refine (P1.out _).mono ?_; rintro r w1 ⟨rfl, hd⟩))
    go_ret
    exact ⟨rfl, hd.below⟩
  | true =>
  cases h2 : plainT b with
  | false =>
    rw [h1] at P1
    rw [h2] at P2
    go_enter Tryz.func8, Tryz.ntmps8
    go_wp2_with fail
    refine (P1.out _).mono ?_
    rintro r w1 ⟨rfl, ⟨m1, rfl⟩⟩
    go_wp2_with fail
    refine (P2.out _).mono ?_
    rintro r w1 ⟨rfl, ⟨m2, rfl⟩⟩
    go_wp2_with fail
    go_ret
    exact ⟨rfl, Drawn0.below ⟨⟨_, rfl⟩⟩⟩
  | true =>
  rw [h1] at P1
  rw [h2] at P2
  by_cases hne : a.data.toList = []
  · have he : (a.toList == ([] : List UInt8)) = true := by rw [ByteArray.toList_eq, hne]; rfl
    go_enter Tryz.func8, Tryz.ntmps8
    go_wp2_with fail
    refine (P1.out _).mono ?_
    rintro r w1 ⟨rfl, ⟨m1, rfl⟩⟩
    go_wp2_with fail
    refine (P2.out _).mono ?_
    rintro r w1 ⟨rfl, ⟨m2, rfl⟩⟩
    go_wp2_with fail
    go_ret
    exact ⟨rfl, Drawn0.below ⟨⟨_, rfl⟩⟩⟩
  have he : (a.toList == ([] : List UInt8)) = false := by rw [ByteArray.toList_eq]; cases h : a.data.toList with | nil => exact absurd h hne | cons _ _ => rfl
  obtain ⟨ha, la⟩ := plainT_list h1
  obtain ⟨hb, lb⟩ := plainT_list h2
  have la' : a.size ≤ 200 := by rw [size_list] at la; exact la
  have lb' : b.size ≤ 200 := by rw [size_list] at lb; exact lb
  have asc : ∀ c : UInt8, print8 c = true → c.toNat < 128 := fun c h => by have := print_of h; omega
  have R1 := Lib.hid (fun W => refused_any (⟨#[34]⟩ ++ a) (by rw [ByteArray.size_append]; show 1 + a.size ≤ _; omega) (ascii_list (by
    intro c hc
    simp at hc
    rcases hc with rfl | hc
    · decide
    · exact asc c (ha c (by simpa using hc)))) [] (.bad (badstr (t := a.data.toList) (r := []) (by simp) hne ha (by simp))) W)
  have R2 := Lib.hid (fun W => refused_any (⟨#[34]⟩ ++ a ++ ⟨#[10]⟩ ++ b ++ ⟨#[34]⟩) (by simp only [ByteArray.size_append]; show 1 + a.size + 1 + b.size + 1 ≤ _; omega) (ascii_list (by
    intro c hc
    simp at hc
    rcases hc with rfl | hc | rfl | hc | rfl
    · decide
    · exact asc c (ha c (by simpa using hc))
    · decide
    · exact asc c (hb c (by simpa using hc))
    · decide)) [] (.bad (badstr (t := a.data.toList) (r := 10 :: (b.data.toList ++ [34])) (by simp) hne ha (by simp only [List.cons.injEq]; rintro c r' ⟨rfl, _⟩; exact ⟨by decide, by decide⟩))) W)
  obtain ⟨d, hd⟩ : ∃ d : UInt8, (d.toNat : Int) = c % 32 := ⟨UInt8.ofNat (c % 32).toNat, by simp; omega⟩
  have R3 := Lib.hid (fun (h9 : c % 32 ≠ 9) W => refused_any (⟨#[34]⟩ ++ a ++ ⟨#[d]⟩ ++ b ++ ⟨#[34]⟩) (by simp only [ByteArray.size_append]; show 1 + a.size + 1 + b.size + 1 ≤ _; omega) (ascii_list (by
    intro c hc
    simp at hc
    rcases hc with rfl | hc | rfl | hc | rfl
    · decide
    · exact asc c (ha c (by simpa using hc))
    · omega
    · exact asc c (hb c (by simpa using hc))
    · decide)) [] (.bad (badstr (t := a.data.toList) (r := d :: (b.data.toList ++ [34])) (by simp) hne ha (by simp only [List.cons.injEq]; rintro c r' ⟨rfl, _⟩; exact ⟨by omega, by omega⟩))) W)
  have S3 := Lib.hid (fun (h9 : c % 32 ≠ 9) W => sure_str (s := ⟨#[34]⟩ ++ a ++ ⟨#[d]⟩ ++ b ++ ⟨#[34]⟩) (t := a.data.toList) (c := d) (r' := b.data.toList ++ [34]) (by simp) hne ha ⟨by omega, by omega⟩ (by simp only [ByteArray.size_append]; show 1 + a.size + 1 + b.size + 1 ≤ _; omega) W)
  have HD := Lib.hid hd
  have hsz1 : (⟨#[34]⟩ : ByteArray).size = 1 := rfl
  clear ha hb la lb asc hd h1 h2 hne
  go_enter Tryz.func8, Tryz.ntmps8
  go_wp2_with fail
  refine (P1.out _).mono ?_
  rintro r w1 ⟨rfl, ⟨m1, rfl⟩⟩
  go_wp2_with fail
  refine (P2.out _).mono ?_
  rintro r w1 ⟨rfl, ⟨m2, rfl⟩⟩
  go_wp2_with fail
  refine (R1.out _).mono ?_
  rintro r w3 ⟨rfl, hb3⟩
  go_wp2_with fail
  refine (R2.out _).mono ?_
  rintro r w4 ⟨rfl, hb4⟩
  have hcv := one_string w4 d (c % 32) HD.out _ rfl 5
  have hd1 : (⟨#[d]⟩ : ByteArray).size = 1 := rfl
  have HB := Lib.hid (((Drawn0.below (w := w) ⟨⟨m1 + m2, rfl⟩⟩).trans (hb3.trans (hb4.mono hb3.size))).alloc (Nat.le_trans hb3.size hb4.size) (.cells #[.int .u8 (c % 32)] 5))
  clear hb3 hb4
  by_cases h9 : c % 32 = 9
  · have e9 : (c % 32 == 9) = true := beq_iff_eq.2 h9
    clear h9
    go_wp2_with fail
    go_ret
    exact ⟨rfl, HB.out⟩
  · have e9 : (c % 32 == 9) = false := beq_eq_false_iff_ne.2 h9
    have R3' := Lib.hid (R3.out h9)
    have S3' := Lib.hid (S3.out h9)
    clear h9 R3 S3
    go_wp2_with fail
    refine (S3'.out _).mono ?_
    rintro r w5 ⟨rfl, hb5⟩
    go_wp2_with fail
    refine (R3'.out _).mono ?_
    rintro r w6 ⟨rfl, hb6⟩
    go_wp2_with fail
    go_ret
    exact ⟨rfl, HB.out.trans ((hb5.mono HB.out.size).trans (hb6.mono (Nat.le_trans HB.out.size hb5.size)))⟩
end Go.Proofs.YtbojlohjmbhifaaGreatDoor
