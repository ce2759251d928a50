/- Rows of strings and of bytes that are read; 'zzFits1'. -/
import Derived.Test.YtbojlohjmbhifaaGreatDoorTx
namespace Go.Proofs.YtbojlohjmbhifaaGreatDoor
open Go.RowKit Go.Proofs.YtbojlohjmbhifaaGreatDoorW.PrintWords Go.Proofs.YtbojlohjmbhifaaGreatDoorW.PrintMore

/-- A row of strings that is read. -/
def RowS (w : World) (A : Option Addr) (l : List ByteArray) : Prop := ∀ (i : Nat) (h : i < l.length), ∃ b o, A = some ⟨b, o, none⟩ ∧ b < w.heap.size ∧ w.cell? ⟨b, o + i, none⟩ = some (.string l[i])
/-- A row of bytes that is read. -/
def RowB (w : World) (A : Option Addr) (l : List Int) : Prop := ∀ (i : Nat) (h : i < l.length), ∃ b o, A = some ⟨b, o, none⟩ ∧ b < w.heap.size ∧ w.cell? ⟨b, o + i, none⟩ = some (.int .u8 l[i]) ∧ 0 ≤ l[i] ∧ l[i] ≤ 255

theorem RowS.below {w w' : World} {A : Option Addr} {l : List ByteArray} (h : RowS w A l) (hb : Below w.heap.size w w') : RowS w' A l := by
  intro i hi
  obtain ⟨b, o, e, hlt, hc⟩ := h i hi
  exact ⟨b, o, e, Nat.lt_of_lt_of_le hlt hb.size, (hb.cell hlt).trans hc⟩
theorem RowB.below {w w' : World} {A : Option Addr} {l : List Int} (h : RowB w A l) (hb : Below w.heap.size w w') : RowB w' A l := by
  intro i hi
  obtain ⟨b, o, e, hlt, hc, hr⟩ := h i hi
  exact ⟨b, o, e, Nat.lt_of_lt_of_le hlt hb.size, (hb.cell hlt).trans hc, hr⟩

set_option maxHeartbeats 1000000 in
set_option maxRecDepth 100000 in
theorem fits_any {w : World} {A : Option Addr} {l : List ByteArray} {cap : Nat} (h : RowS w A l) :
    Calls Tryz.prog 13 #[.slice A l.length cap] w fun r w' => (∃ b, r = .returned (.bool b) ∧ (b = true → l.length ≤ 2147483647 ∧ ∀ s ∈ l, s.size ≤ 2147483647)) ∧ Drawn0 w w' := by
  have H := Lib.hid h
  clear h
  by_cases b1 : (2147483647 : Int) < l.length
  · go_enter Tryz.func13, Tryz.ntmps13
    go_wp2_with fail
    go_ret
    exact ⟨⟨false, rfl, fun e => by cases e⟩, Drawn0.refl _⟩
  go_enter Tryz.func13, Tryz.ntmps13
  go_wp2_with fail
  go_loopw [10] (fun x wr => ∃ i : Nat, i ≤ l.length ∧ x = .int .i64 i ∧ Hid (∀ (j : Nat) (h : j < l.length), j < i → (l[j]).size ≤ 2147483647) ∧ Drawn0 w wr) (fun x _ => l.length - (intOf x).toNat)
  case atStart => exact ⟨0, by omega, rfl, Lib.hid (fun j _ h => absurd h (Nat.not_lt_zero _)), by repeat (first | exact Drawn0.refl _ | apply Drawn0.step)⟩
  case round =>
    obtain ⟨i, hi, rfl, hall, ⟨m1, rfl⟩⟩ := hrel
    by_cases hlt : i < l.length
    · obtain ⟨b, o, rfl, hb, hc⟩ := H.out i hlt
      have hlt2 : (i : Int) < l.length := by omega
      by_cases b2 : (2147483647 : Int) < (l[i]).size
      · go_wp2_with fail
        go_ret
        exact ⟨⟨false, rfl, fun e => by cases e⟩, by repeat (first | exact Drawn0.refl _ | apply Drawn0.step)⟩
      · go_wp2_with fail
        go_round
        case rel => exact ⟨i + 1, by omega, by go_num, Lib.hid (fun j hj h => by
          rcases Nat.lt_or_ge j i with h' | h'
          · exact hall.out j hj h'
          · obtain rfl : j = i := by omega
            omega), by repeat (first | exact Drawn0.refl _ | apply Drawn0.step)⟩
        case measure => simp [intOf]; omega
    · obtain rfl : i = l.length := by omega
      go_wp2_with fail
      go_ret
      refine ⟨⟨true, rfl, fun _ => ⟨by omega, fun s hs => ?_⟩⟩, by repeat (first | exact Drawn0.refl _ | apply Drawn0.step)⟩
      obtain ⟨j, hj, rfl⟩ := List.getElem_of_mem hs
      exact hall.out j hj hj
end Go.Proofs.YtbojlohjmbhifaaGreatDoor
