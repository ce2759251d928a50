/- The lexer's first steps over a text of ASCII: which code stands at a place, and where the next token begins. -/
import Derived.Test.YtbjfahhfcdnkaaaGreatDoorProg
import Derived.Test.YtbjfahhfcdnkaaaGreatDoorPzzLineEndsx
import Derived.WalkKit
import Derived.WalkSpells
import Derived.Lib.Hide
import Derived.Lib.ConvBytes
import Derived.BigQuiet
import Derived.Deep.QuietTactic
import Derived.Outline
namespace Go.Proofs.YtbjfahhfcdnkaaaGreatDoor
open Go.RowKit Go.Proofs.YtbjfahhfcdnkaaaGreatDoorW.PrintWords Go.Proofs.YtbjfahhfcdnkaaaGreatDoorW.PrintMore

theorem below_drewN {B : Nat} {a w : World} (h : Below B a w) (n : Nat) : Below B a (w.drewN n) := ⟨h.os, h.tape, h.output, h.size, h.block⟩

/-- A source lies in the world: its struct in block sb, its bytes in block b. -/
structure Src (w : World) (sb b cap : Nat) (s : ByteArray) : Prop where
  head : w.cell? ⟨sb, 0, none⟩ = some (.slice (some ⟨b, 0, none⟩) s.size cap)
  cells : ∀ (j : Nat) (h : j < s.size), w.cell? ⟨b, j, none⟩ = some (.int .u8 ((s[j]'h).toNat : Int))
  cap : s.size ≤ cap
  lts : sb < w.heap.size
  ltb : b < w.heap.size
  size : s.size ≤ 4294967296
  ascii : ∀ (j : Nat) (h : j < s.size), (s[j]'h).toNat < 128

theorem Src.below {w w' : World} {sb b cap B : Nat} {s : ByteArray} (h : Src w sb b cap s) (hb : Below B w w') (h1 : sb < B) (h2 : b < B) : Src w' sb b cap s :=
  ⟨(hb.cell h1).trans h.head, fun j hj => (hb.cell h2).trans (h.cells j hj), h.cap, Nat.lt_of_lt_of_le h.lts hb.size, Nat.lt_of_lt_of_le h.ltb hb.size, h.size, h.ascii⟩
theorem Src.grow {w w' : World} {sb b cap : Nat} {s : ByteArray} (h : Src w sb b cap s) (hb : Below w.heap.size w w') : Src w' sb b cap s := h.below hb h.lts h.ltb

/-- The code at a place: below 0 behind the end. -/
def cd (s : ByteArray) (x : Int) : Int := if x < (s.size : Int) then bt s x else -1
/-- How wide it is, as the lexer has it. -/
def wd (s : ByteArray) (x : Int) : Int := if x < (s.size : Int) then 1 else 65533

theorem cd_in {s : ByteArray} {j : Nat} (h : j < s.size) : cd s j = ((s[j]'h).toNat : Int) := by
  unfold cd bt
  rw [if_pos (by omega)]
  simp [h]
theorem cd_out {s : ByteArray} {x : Int} (h : (s.size : Int) ≤ x) : cd s x = -1 := by
  unfold cd
  rw [if_neg (by omega)]
theorem wd_in {s : ByteArray} {x : Int} (h : x < (s.size : Int)) : wd s x = 1 := by
  unfold wd
  rw [if_pos h]

set_option maxHeartbeats 400000 in
set_option maxRecDepth 100000 in
theorem runeAt_in (b cap : Nat) (s : ByteArray) (j : Nat) (w : World) (hj : j < s.size) (hc : w.cell? ⟨b, j, none⟩ = some (.int .u8 ((s[j]'hj).toNat : Int))) (_hs : s.size ≤ 4294967296) (ha : (s[j]'hj).toNat < 128) :
    Calls Tryz.prog 156 #[.slice (some ⟨b, 0, none⟩) s.size cap, .int .i64 (j : Int)] w fun e w' => e = .returned (.tuple #[.int .i32 ((s[j]'hj).toNat : Int), .int .i64 1]) ∧ w = w' := by
  have h1 : (j : Int) < (s.size : Int) := by omega
  have h2 : (((s[j]'hj).toNat : Nat) : Int) < 128 := by omega
  go_enter Tryz.func156, Tryz.ntmps156
  go_wp2_with fail
  go_ret2
  exact ⟨rfl, rfl⟩

set_option maxHeartbeats 400000 in
set_option maxRecDepth 100000 in
theorem runeAt_out (b cap : Nat) (s : ByteArray) (x : Int) (w : World) (hj : (s.size : Int) ≤ x) :
    Calls Tryz.prog 156 #[.slice (some ⟨b, 0, none⟩) s.size cap, .int .i64 x] w fun e w' => e = .returned (.tuple #[.int .i32 (-1), .int .i64 65533]) ∧ w = w' := by
  go_enter Tryz.func156, Tryz.ntmps156
  go_wp2_with fail
  go_ret2
  exact ⟨rfl, rfl⟩

/-- 'runeAt', at every place. -/
theorem runeAt_any {w : World} {sb b cap : Nat} {s : ByteArray} (h : Src w sb b cap s) (x : Int) (hx : 0 ≤ x) :
    Calls Tryz.prog 156 #[.slice (some ⟨b, 0, none⟩) s.size cap, .int .i64 x] w fun e w' => e = .returned (.tuple #[.int .i32 (cd s x), .int .i64 (wd s x)]) ∧ w = w' := by
  obtain ⟨j, rfl⟩ := Int.eq_ofNat_of_zero_le hx
  by_cases hj : j < s.size
  · rw [cd_in hj, wd_in (by omega)]
    exact runeAt_in b cap s j w hj (h.cells j hj) h.size (h.ascii j hj)
  · rw [cd_out (by omega)]
    unfold wd
    rw [if_neg (by omega)]
    exact runeAt_out b cap s j w (by omega)

/-! Result structs that lie in memory: a block of four cells (a Token), kept while the call goes on; and what it holds behind the stores. -/
theorem kept4 {w w' : World} {c0 c1 c2 c3 : Value} {t : TypeId} (hb : Below (w.alloc (.cells #[c0, c1, c2, c3] t)).heap.size (w.alloc (.cells #[c0, c1, c2, c3] t)) w') :
    (w'.cell? ⟨w.heap.size, 0, none⟩ = some c0 ∧ w'.cell? ⟨w.heap.size, 1, none⟩ = some c1 ∧ w'.cell? ⟨w.heap.size, 2, none⟩ = some c2 ∧ w'.cell? ⟨w.heap.size, 3, none⟩ = some c3) ∧
    (w'.frozen? ⟨w.heap.size, 0, none⟩ = false ∧ w'.frozen? ⟨w.heap.size, 1, none⟩ = false ∧ w'.frozen? ⟨w.heap.size, 2, none⟩ = false ∧ w'.frozen? ⟨w.heap.size, 3, none⟩ = false) ∧ w.heap.size < w'.heap.size ∧ Below w.heap.size w w' := by
  have hz : w.heap.size < (w.alloc (.cells #[c0, c1, c2, c3] t)).heap.size := by simp
  refine ⟨⟨?_, ?_, ?_, ?_⟩, ⟨?_, ?_, ?_, ?_⟩, Nat.lt_of_lt_of_le hz hb.size, ((Below.refl _ _).alloc (Nat.le_refl _) _).trans (hb.mono (by simp))⟩
  all_goals first | (refine (hb.cell hz).trans ?_; rw [World.cell?_alloc_at _ _ _ _ rfl]; rfl) | (refine (hb.frozen hz).trans ?_; exact World.frozen?_alloc_at _ _ _ _ rfl)

theorem set4 {w : World} {B : Nat} {u0 u1 u2 u3 : Value} (h0 : w.cell? ⟨B, 0, none⟩ = some u0) (h1 : w.cell? ⟨B, 1, none⟩ = some u1) (h2 : w.cell? ⟨B, 2, none⟩ = some u2) (h3 : w.cell? ⟨B, 3, none⟩ = some u3) (v0 v1 v2 v3 : Value) :
    (w.setCell ⟨B, 0, none⟩ v0).cell? ⟨B, 0, none⟩ = some v0 ∧ ((w.setCell ⟨B, 0, none⟩ v0).setCell ⟨B, 1, none⟩ v1).cell? ⟨B, 1, none⟩ = some v1 ∧
    (((w.setCell ⟨B, 0, none⟩ v0).setCell ⟨B, 1, none⟩ v1).setCell ⟨B, 2, none⟩ v2).cell? ⟨B, 2, none⟩ = some v2 ∧
    ((((w.setCell ⟨B, 0, none⟩ v0).setCell ⟨B, 1, none⟩ v1).setCell ⟨B, 2, none⟩ v2).setCell ⟨B, 3, none⟩ v3).cell? ⟨B, 3, none⟩ = some v3 := by
  refine ⟨World.cell?_setCell_same _ _ _ h0, World.cell?_setCell_same (u := u1) _ _ _ ?_, World.cell?_setCell_same (u := u2) _ _ _ ?_, World.cell?_setCell_same (u := u3) _ _ _ ?_⟩
  · rw [World.cell?_setCell_other _ _ _ _ (by simp)]; exact h1
  · rw [World.cell?_setCell_other _ _ _ _ (by simp), World.cell?_setCell_other _ _ _ _ (by simp)]; exact h2
  · rw [World.cell?_setCell_other _ _ _ _ (by simp), World.cell?_setCell_other _ _ _ _ (by simp), World.cell?_setCell_other _ _ _ _ (by simp)]; exact h3

theorem below_set4 {a w : World} {B B0 : Nat} (h : Below B0 a w) (hB : B0 ≤ B) (v0 v1 v2 v3 : Value) :
    Below B0 a ((((w.setCell ⟨B, 0, none⟩ v0).setCell ⟨B, 1, none⟩ v1).setCell ⟨B, 2, none⟩ v2).setCell ⟨B, 3, none⟩ v3) :=
  (((h.setCell hB _).setCell hB _).setCell hB _).setCell hB _
end Go.Proofs.YtbjfahhfcdnkaaaGreatDoor
