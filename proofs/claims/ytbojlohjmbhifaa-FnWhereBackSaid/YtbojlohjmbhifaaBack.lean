/- The law FnWhereBack, walked. -/
import Derived.Test.YtbojlohjmbhifaaWhere
namespace Go.Proofs.Ytbojlohjmbhifaa
open Go.RowKit Go.Proofs.YtbojlohjmbhifaaW.PrintWords Go.Proofs.YtbojlohjmbhifaaW.PrintMore
open PFnWhereBack (laws_ascii9.f laws_ascii9.l0 laws_ascii9.calls)

theorem ascii_some (s : ByteArray) (hs : s.size ≤ 4294967296) : ∀ (d i k : Nat), i + d = s.size → d < k → ∃ r, laws_ascii9.l0 k s i = some r
  | 0, i, k, hd, hk => by
    obtain ⟨k, rfl⟩ : ∃ m, k = m + 1 := ⟨k - 1, by omega⟩
    exact ⟨true, by simp only [laws_ascii9.l0]; rw [if_neg (by omega)]⟩
  | d + 1, i, k, hd, hk => by
    obtain ⟨k, rfl⟩ : ∃ m, k = m + 1 := ⟨k - 1, by omega⟩
    obtain ⟨r, hr⟩ := ascii_some s hs d (i + 1) k (by omega) (by omega)
    simp only [laws_ascii9.l0]
    rw [if_pos (by omega), if_pos (by omega)]
    split
    · exact ⟨_, rfl⟩
    · rw [wrap_in (by omega) (by omega), show (i : Int) + 1 = ((i + 1 : Nat) : Int) by omega]
      exact ⟨r, hr⟩

set_option maxHeartbeats 400000 in
set_option maxRecDepth 100000 in
theorem big1 (s : ByteArray) (place : Int) (w : World) (h : 2147483647 < (s.size : Int)) :
    Calls Try.prog 3 #[.string s, .int .i64 place] w fun e w' => e = .returned (.bool true) ∧ Below w.heap.size w w' := by
  go_enter Try.func3, Try.ntmps3
  go_wp2_with fail
  go_ret
  exact ⟨rfl, Below.refl _ _⟩

set_option maxHeartbeats 400000 in
set_option maxRecDepth 100000 in
theorem big2 (s : ByteArray) (place : Int) (w : World) (h : (s.size : Int) ≤ 2147483647) (h2 : 500 < (s.size : Int) ∨ (s.size : Int) ≤ 500 ∧ place < 0 ∨ (s.size : Int) ≤ 500 ∧ 0 ≤ place ∧ (s.size : Int) < place) :
    Calls Try.prog 3 #[.string s, .int .i64 place] w fun e w' => e = .returned (.bool true) ∧ Below w.heap.size w w' := by
  rcases h2 with h2 | ⟨h1, h2⟩ | ⟨h1, h2, h3⟩
  all_goals
    go_enter Try.func3, Try.ntmps3
    go_wp2_with fail
    go_ret
    exact ⟨rfl, Below.refl _ _⟩

set_option maxHeartbeats 400000 in
set_option maxRecDepth 100000 in
theorem notAscii (s : ByteArray) (place : Int) (w : World) (h : (s.size : Int) ≤ 500) (h1 : 0 ≤ place) (h2 : place ≤ (s.size : Int)) (k : Nat) (ha : laws_ascii9.f k s = some false) :
    Calls Try.prog 3 #[.string s, .int .i64 place] w fun e w' => e = .returned (.bool true) ∧ Below w.heap.size w w' := by
  have HA := Lib.hid ha
  clear ha
  go_enter Try.func3, Try.ntmps3
  go_wp2_with (go_at_call 4; refine (laws_ascii9.calls k s false _ HA.out).mono ?_; rintro e w' ⟨rfl, hd⟩)
  go_ret
  exact ⟨rfl, hd.below⟩

/-- Does the place stand between a carriage return and its line feed? -/
def amid (s : ByteArray) (place : Int) : Prop := 0 < place ∧ place < (s.size : Int) ∧ bt s (place - 1) = 13 ∧ bt s place = 10

set_option maxHeartbeats 400000 in
set_option maxRecDepth 100000 in
theorem amidst (s : ByteArray) (p : Nat) (w : World) (h : (s.size : Int) ≤ 500) (h2 : p + 1 < s.size) (k : Nat) (ha : laws_ascii9.f k s = some true)
    (b3 : ((s[p]'(by omega)).toNat : Int) = 13) (b4 : ((s[p + 1]'h2).toNat : Int) = 10) :
    Calls Try.prog 3 #[.string s, .int .i64 ((p + 1 : Nat) : Int)] w fun e w' => e = .returned (.bool true) ∧ Below w.heap.size w w' := by
  have HA := Lib.hid ha
  clear ha
  go_enter Try.func3, Try.ntmps3
  go_wp2_with (go_at_call 4; refine (laws_ascii9.calls k s true _ HA.out).mono ?_; rintro e w' ⟨rfl, hd⟩)
  go_ret
  exact ⟨rfl, hd.below⟩
end Go.Proofs.Ytbojlohjmbhifaa
