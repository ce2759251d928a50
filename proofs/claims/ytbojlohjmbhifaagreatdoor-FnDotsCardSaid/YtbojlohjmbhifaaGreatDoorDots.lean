/- The law FnDots, walked. -/
import Derived.Test.YtbojlohjmbhifaaGreatDoorTx1
namespace Go.Proofs.YtbojlohjmbhifaaGreatDoor
open Go.RowKit Go.Proofs.YtbojlohjmbhifaaGreatDoorW.PrintWords Go.Proofs.YtbojlohjmbhifaaGreatDoorW.PrintMore

theorem ahead0 {s : ByteArray} {p : Nat} {c : UInt8} {t : List UInt8} (h : From s p (c :: t)) : Ahead s p p :=
  From.ahead (g := []) (t := c :: t) h (by simp) (by simp)

theorem run_dots (s : ByteArray) : ∀ (m p : Nat), From s p (List.replicate m 46 ++ [32]) → (m % 3 = 0 → ∃ ts, ts.length = m / 3 ∧ Run s p ts true) ∧ (m % 3 ≠ 0 → ∃ ts, Run s p ts false)
  | 0, p, h => by
    refine ⟨fun _ => ?_, fun e => absurd rfl e⟩
    obtain ⟨e, v, t⟩ := end_at (g := [32]) h (by simp; decide)
    exact ⟨[], rfl, .done t⟩
  | 1, p, h => by
    refine ⟨fun e => by omega, fun _ => ⟨[], .bad (bad_dot s p p (ahead0 h) (by rw [h.at0]; rfl) ?_)⟩⟩
    rw [h.code 1]
    decide
  | 2, p, h => by
    refine ⟨fun e => by omega, fun _ => ⟨[], .bad (bad_dots s p p (ahead0 h) (by rw [h.at0]; rfl) (by rw [h.code 1]; rfl) ?_)⟩⟩
    rw [h.code 2]
    decide
  | m + 3, p, h => by
    have h3 : From s (p + 3) (List.replicate m 46 ++ [32]) := From.skip (a := [46, 46, 46]) h
    have hz := h3.size
    have t := tok_spread s p p (ahead0 h) (by rw [h.at0]; rfl) (by rw [h.code 1]; rfl) (by rw [h.code 2]; rfl)
    obtain ⟨i1, i2⟩ := run_dots s m (p + 3) h3
    refine ⟨fun e => ?_, fun e => ?_⟩
    · obtain ⟨ts, h1, h2⟩ := i1 (by omega)
      exact ⟨_ :: ts, by simp; omega, .step t (by decide) (by omega) (by omega) h2⟩
    · obtain ⟨ts, h2⟩ := i2 (by omega)
      exact ⟨_ :: ts, .step t (by decide) (by omega) (by omega) h2⟩

def dots (i : Nat) : ByteArray := ⟨(List.replicate i (46 : UInt8)).toArray⟩
theorem dots_next (i : Nat) : dots i ++ ⟨#[46]⟩ = dots (i + 1) := by
  unfold dots
  rw [List.replicate_succ']
  refine congrArg ByteArray.mk ?_
  simp
theorem dots_size (i : Nat) : (dots i).size = i := by
  show (List.replicate i (46 : UInt8)).toArray.size = i
  simp
/-- The text: points and a blank. -/
def dotText (i : Nat) : ByteArray := dots i ++ ⟨#[32]⟩
theorem dotText_list (i : Nat) : (dotText i).data.toList = List.replicate i 46 ++ [32] := by
  unfold dotText dots
  simp
theorem dotText_size (i : Nat) : (dotText i).size = i + 1 := by
  have h : (dotText i).data.toList.length = i + 1 := by rw [dotText_list]; simp
  rw [Array.length_toList] at h
  exact h
theorem ascii_of {s : ByteArray} (h : ∀ c ∈ s.data.toList, c.toNat < 128) : ∀ (j : Nat) (hj : j < s.size), (s[j]'hj).toNat < 128 := by
  intro j hj
  have h' : j < s.data.toList.length := by rw [Array.length_toList]; exact hj
  have hm : s.data.toList[j] ∈ s.data.toList := List.getElem_mem h'
  have he : s.data.toList[j] = s[j]'hj := by
    rw [Array.getElem_toList]
    rfl
  rw [← he]
  exact h _ hm

set_option maxHeartbeats 1000000 in
set_option maxRecDepth 100000 in
theorem dots_walk (n : Int) (h0 : 0 ≤ n) (h1 : n ≤ 255) (w : World) :
    Calls Tryz.prog 3 #[.int .u8 n] w fun r w' => r = .returned (.bool true) ∧ Below w.heap.size w w' := by
  obtain ⟨m, hm⟩ : ∃ m : Nat, (m : Int) = 1 + n % 12 := ⟨(1 + n % 12).toNat, by omega⟩
  have hm1 : 1 ≤ m ∧ m ≤ 12 := by omega
  have hfrom : From (dotText m) 0 (List.replicate m 46 ++ [32]) := by rw [← dotText_list]; exact From.whole _
  have hrun := run_dots (dotText m) m 0 hfrom
  have hsz := dotText_size m
  have hasc : ∀ (j : Nat) (h : j < (dotText m).size), ((dotText m)[j]'h).toNat < 128 := ascii_of (by
    rw [dotText_list]
    intro c hc
    rcases List.mem_append.1 hc with h | h
    · rw [(List.mem_replicate.1 h).2]; decide
    · rw [List.mem_singleton.1 h]; decide)
  have C1 := fun ts ok (hr : Run (dotText m) 0 ts ok) (W : World) => tokens_any (dotText m) (by omega) hasc ts ok hr W
  have C2 := fun ts (hr : Run (dotText m) 0 ts false) (W : World) => refused_any (dotText m) (by omega) hasc ts hr W
  have D1 := Lib.hid C1
  have D2 := Lib.hid C2
  have HM := Lib.hid hm
  have HRUN := Lib.hid hrun
  have hm2 : ((m : Int) ≤ 1 + n % 12) := by omega
  have hm3 : (1 + n % 12 ≤ (m : Int)) := by omega
  clear hm hrun hfrom hasc hsz C1 C2
  go_enter Tryz.func3, Tryz.ntmps3
  go_wp2_with fail
  go_loop [4, 12] (fun x y => ∃ i : Nat, i ≤ m ∧ x = .string (dots i) ∧ y = .int .i64 i) (fun _ y => m - (intOf y).toNat)
  case atStart => exact ⟨0, by omega, rfl, rfl⟩
  case round =>
    obtain ⟨i, hi, rfl, rfl⟩ := hrel
    have hds : (dots i).size ≤ 12 := by rw [dots_size]; omega
    by_cases hlt : i < m
    · have hlt2 : (i : Int) < 1 + n % 12 := by omega
      go_wp2_with fail
      go_round
      case rel => exact ⟨i + 1, by omega, congrArg Value.string (dots_next i), by go_num⟩
      case measure => simp [intOf]; omega
    · obtain rfl : i = m := by omega
      have hge : 1 + n % 12 ≤ (i : Int) := by omega
      by_cases h3 : i % 3 = 0
      · obtain ⟨ts, hl, hr⟩ := HRUN.out.1 h3
        have HR := Lib.hid hr
        have b1 : ((1 + n % 12) % 3 != 0) = false := by rw [bne_eq_false_iff_eq]; omega
        have b2 : ((ts.length : Int) == (1 + n % 12) / 3) = true := by rw [beq_iff_eq]; omega
        clear hr hl h3
        go_wp2_with fail
        refine (D1.out ts true HR.out _).mono ?_
        rintro r w1 ⟨⟨_, v, rfl, hown⟩ | ⟨h, _⟩, hb⟩
        · obtain ⟨A, c, rfl⟩ := owns_form hown
          clear hown
          go_wp2
          go_ret
          exact ⟨rfl, hb⟩
        · cases h
      · obtain ⟨ts, hr⟩ := HRUN.out.2 h3
        have HR := Lib.hid hr
        have b1 : ((1 + n % 12) % 3 != 0) = true := by rw [bne_iff_ne]; omega
        clear hr h3
        go_wp2_with fail
        refine (D1.out ts false HR.out _).mono ?_
        rintro r w1 ⟨⟨h, _⟩ | ⟨_, rfl⟩, hb⟩
        · cases h
        go_wp2_with fail
        refine (D2.out ts HR.out _).mono ?_
        rintro r w2 ⟨rfl, hb2⟩
        go_wp2
        go_ret
        exact ⟨rfl, hb.trans (hb2.mono hb.size)⟩
end Go.Proofs.YtbojlohjmbhifaaGreatDoor
