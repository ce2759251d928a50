/- A text that is refused: the error is made, and is not nil. -/
import Derived.Test.YtbojlohjmbhifaaGreatDoorEnds
import Derived.LoopN
namespace Go.Proofs.YtbojlohjmbhifaaGreatDoor
open Go.RowKit Go.Proofs.YtbojlohjmbhifaaGreatDoorW.PrintWords Go.Proofs.YtbojlohjmbhifaaGreatDoorW.PrintMore

theorem Src.reads {w : World} {sb b cap : Nat} {s : ByteArray} (h : Src w sb b cap s) : Kd.C (Kd.int .u8) w (some ⟨b, 0, none⟩) (bytesOf s).length (bytesOf s) := by
  refine Kd.C_of_reads (d := (0 : Int)) (h1 := fun _ => rfl) ?_
  refine ⟨rfl, by have := h.size; rw [bytesOf_length]; omega, fun _ => ⟨_, rfl, fun j hj => ?_⟩⟩
  have hj' : j < s.size := by rw [bytesOf_length] at hj; exact hj
  rw [add_plain, h.cells j hj']
  have h' : j < s.data.toList.length := by rw [Array.length_toList]; exact hj'
  simp [bytesOf, List.getD_eq_getElem?_getD, List.getElem?_eq_getElem h']
  rfl

/-- 'GetLocation' returns, wherever the place. -/
theorem loc_returns {w : World} {sb b cap : Nat} {s : ByteArray} (h : Src w sb b cap s) (x : Int) (h0 : 0 ≤ x) (h1 : x ≤ 1099511627776) :
    Calls Tryz.prog 71 #[.pointer (some ⟨sb, 0, none⟩), .int .i64 x] w fun e w' => ∃ p q : Int, e = .returned (.agg #[.int .i64 p, .int .i64 q]) ∧ Below w.heap.size w w' := by
  have hl := bytesOf_length s
  have hs := h.size
  refine (loc_any sb ⟨b, 0, none⟩ cap (bytesOf s) x (ends (bytesOf s) (bytesOf s).length 0) (2 * (bytesOf s).length + 1) w (by rw [hl]; exact h.head) h.reads (by rw [hl]; exact h.cap)
    (f_ends _ (by omega)) (ends_ok _ _ _ (by omega)) (by have := ends_len (bytesOf s) (bytesOf s).length 0; omega) (by omega) h0 h1).mono ?_
  rintro e w' ⟨rfl, hB⟩
  exact ⟨_, _, rfl, hB⟩

set_option maxHeartbeats 1000000 in
set_option maxRecDepth 100000 in
theorem newError_any {w : World} {sb b cap : Nat} {s : ByteArray} (h : Src w sb b cap s) (g1 g2 : Nat) (x : Int) (h0 : 0 ≤ x) (h1 : x ≤ 1099511627776) (hc : w.cell? ⟨g2, 0, none⟩ = some (.int .i64 x)) (hg2 : g2 < w.heap.size) :
    Calls Tryz.prog 54 #[.string ⟨#[83, 121, 110, 116, 97, 120, 32, 69, 114, 114, 111, 114]⟩, .slice (some ⟨g1, 0, none⟩) 0 0, .string ⟨#[]⟩, .pointer (some ⟨sb, 0, none⟩), .slice (some ⟨g2, 0, none⟩) 1 1, .slice none 0 0, .nilIface] w fun e w' =>
      ∃ g : Nat, e = .returned (.pointer (some ⟨g, 0, none⟩)) ∧ Below w.heap.size w w' := by
  have H := Lib.hid h
  clear h
  go_enter Tryz.func54, Tryz.ntmps54
  go_wp2_with fail
  have H1 : Src (w.alloc (.cells #[] 121)) sb b cap s := H.out.grow ((Below.refl _ _).alloc (Nat.le_refl _) _)
  have H2 := Lib.hid H1
  clear H1
  refine wp_loop_rounds 2 ?_
  rw [rounds_succ]
  go_wp2_with (go_at_call 71; refine (loc_returns H2.out x h0 h1).mono ?_; rintro e w1 ⟨p, q, rfl, hB⟩)
  rw [rounds_succ]
  go_wp2
  go_ret
  have hB1 : Below w.heap.size w w1 := ((Below.refl _ _).alloc (Nat.le_refl _) _).trans (hB.mono (by simp))
  have hz := hB1.size
  refine ⟨_, rfl, Below.drew ?_⟩
  exact (((hB1.alloc hz _).alloc (by simp; omega) _).alloc (by simp; omega) _).alloc (by simp; omega) _

set_option maxHeartbeats 1000000 in
set_option maxRecDepth 100000 in
theorem newErr_any {w : World} {sb b cap : Nat} {s : ByteArray} (h : Src w sb b cap s) (g1 g2 : Nat) (x : Int) (h0 : 0 ≤ x) (h1 : x ≤ 1099511627776) (hc : w.cell? ⟨g2, 0, none⟩ = some (.int .i64 x)) (hg2 : g2 < w.heap.size) :
    Calls Tryz.prog 35 #[.string ⟨#[83, 121, 110, 116, 97, 120, 32, 69, 114, 114, 111, 114]⟩, .slice (some ⟨g1, 0, none⟩) 0 0, .string ⟨#[]⟩, .pointer (some ⟨sb, 0, none⟩), .slice (some ⟨g2, 0, none⟩) 1 1, .nilIface] w fun e w' =>
      ∃ g : Nat, e = .returned (.pointer (some ⟨g, 0, none⟩)) ∧ Below w.heap.size w w' := by
  have H := Lib.hid h
  clear h
  go_enter Tryz.func35, Tryz.ntmps35
  go_wp2_with (go_at_call 54; refine (newError_any H.out g1 g2 x h0 h1 hc hg2).mono ?_; rintro e w1 ⟨g, rfl, hB⟩)
  go_ret
  exact ⟨g, rfl, hB⟩

set_option maxHeartbeats 1000000 in
set_option maxRecDepth 100000 in
/-- 'NewSyntaxError': a pointer that is not nil. -/
theorem syntax_any {w : World} {sb b cap : Nat} {s : ByteArray} (h : Src w sb b cap s) (x : Int) (h0 : 0 ≤ x) (h1 : x ≤ 1099511627776) (t : ByteArray) :
    Calls Tryz.prog 28 #[.pointer (some ⟨sb, 0, none⟩), .int .i64 x, .string t] w fun e w' => ∃ g : Nat, e = .returned (.pointer (some ⟨g, 0, none⟩)) ∧ Below w.heap.size w w' := by
  have H : ∀ o o', Src ((w.alloc o).alloc o') sb b cap s := fun o o' => h.grow (((Below.refl _ _).alloc (Nat.le_refl _) o).alloc (by simp) o')
  have HH := Lib.hid H
  clear h H
  go_enter Tryz.func28, Tryz.ntmps28
  go_wp2_with fail
  refine (newErr_any (HH.out _ _) w.heap.size (w.heap.size + 1) x h0 h1 ?_ ?_).mono ?_
  · simp [World.cell?_alloc_at]
  · simp
  rintro e w1 ⟨g, rfl, hB⟩
  go_wp2
  go_ret
  exact ⟨g, rfl, (((Below.refl _ _).alloc (Nat.le_refl _) _).alloc (by simp) _).trans (hB.mono (by simp; omega))⟩
end Go.Proofs.YtbojlohjmbhifaaGreatDoor
