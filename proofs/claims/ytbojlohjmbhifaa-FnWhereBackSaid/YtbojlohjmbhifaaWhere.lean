/- What Where computes. -/
import Derived.Test.YtbojlohjmbhifaaEnds
import Derived.Lib.ConvBytes
namespace Go.Proofs.Ytbojlohjmbhifaa
open Go.RowKit Go.Proofs.YtbojlohjmbhifaaW.PrintWords Go.Proofs.YtbojlohjmbhifaaW.PrintMore

/-- What a place of a text is: its line and its column. -/
def spot (s : ByteArray) (place : Int) : Int × Int := gl place (ends (bytesOf s) (bytesOf s).length 0) 1 (place + 1)

set_option maxHeartbeats 400000 in
set_option maxRecDepth 100000 in
theorem where_any (s : ByteArray) (place : Int) (w : World) (hs : s.size ≤ 4294967296) (hp0 : 0 ≤ place) (hp : place ≤ 1099511627776) :
    Calls Try.prog 5 #[.string s, .int .i64 place] w fun e w' =>
      e = .returned (.tuple #[.int .i64 (spot s place).1, .int .i64 (spot s place).2]) ∧ Below w.heap.size w w' := by
  have hcv := Lib.run_convert_string_bytes (P := Try.prog) w 9 30 5 s (u := .string) Try.underlying9 Try.underlying30 Try.underlying5
  have hsz := Lib.bytesWorld_size w 5 s
  have hbw := bytes_below (Below.refl w.heap.size w) (Nat.le_refl _) 5 s
  have hC := Kd.C_of_reads (h1 := fun _ => rfl) (bytes_reads w 5 s (by omega))
  have hcap := grownCap_ge w s.size 0 5
  have hbl := bytesOf_length s
  generalize Lib.bytesWorld w 5 s = W1 at *
  generalize grownCap w s.size 0 5 = cap at *
  have HC := Lib.hid hC
  have HBL := Lib.hid hbl
  have HSZ := Lib.hid hsz
  clear hC hbl hsz
  go_enter Try.func5, Try.ntmps5
  go_wp2_with fail
  have hbl := HBL.out
  have hW1 : w.heap.size ≤ W1.heap.size := hbw.size
  refine (loc_any W1.heap.size ⟨w.heap.size, 0, none⟩ cap (bytesOf s) place (ends (bytesOf s) (bytesOf s).length 0) (2 * (bytesOf s).length + 1) _ ?_ ?_ ?_ ?_ ?_ ?_ ?_ hp0 hp).mono ?_
  case refine_1 => rw [hbl, World.cell?_alloc_at _ _ _ _ rfl]; rfl
  case refine_2 => rw [hbl]; exact Kd.C_below HC.out ((Below.refl _ _).alloc (Nat.le_refl _) _)
  case refine_3 => rw [hbl]; exact hcap
  case refine_4 => exact f_ends _ (by rw [hbl]; exact hs)
  case refine_5 => exact ends_ok _ _ _ (by omega)
  case refine_6 => have := ends_len (bytesOf s) (bytesOf s).length 0; omega
  case refine_7 => omega
  clear hbl
  rintro e w2 ⟨rfl, hB⟩
  go_wp2_with fail
  go_quiet (fail)
  go_wp2
  go_ret2
  exact ⟨rfl, below_drewN ((hbw.trans ((((Below.refl _ _).alloc (Nat.le_refl _) _).trans (hB.mono (by simp))).mono hW1)).alloc (by have := hB.size; simp at this; omega) _) _⟩
end Go.Proofs.Ytbojlohjmbhifaa
