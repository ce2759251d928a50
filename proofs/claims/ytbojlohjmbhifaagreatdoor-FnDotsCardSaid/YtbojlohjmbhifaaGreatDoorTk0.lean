/- The lexer's closure: one step after the other. -/
import Derived.Test.YtbojlohjmbhifaaGreatDoorRt4
namespace Go.Proofs.YtbojlohjmbhifaaGreatDoor
open Go.RowKit Go.Proofs.YtbojlohjmbhifaaGreatDoorW.PrintWords Go.Proofs.YtbojlohjmbhifaaGreatDoorW.PrintMore

theorem grown_below {a w : World} {r : Option Nat} (h : Below a.heap.size a w) : a.grownBy w r := ⟨h.os, h.tape, h.output, h.size, fun i hi _ => h.block i hi⟩
theorem grown_set {a w : World} {g : Nat} (h : a.grownBy w (some g)) {p : Addr} (hp : p.block = g ∨ a.heap.size ≤ p.block) (u : Value) : a.grownBy (w.setCell p u) (some g) := by
  refine ⟨h.os, h.tape, h.output, by simpa [World.setCell] using h.size, fun i hi hne => (Below.heap_setCell w p u i ?_).trans (h.block i hi hne)⟩
  intro e
  rcases hp with hp | hp
  · exact hne (by rw [e, hp])
  · omega
theorem grown_alloc {a w : World} {r : Option Nat} (h : a.grownBy w r) (o : Obj) : a.grownBy (w.alloc o) r :=
  ⟨h.os, h.tape, h.output, Nat.le_trans h.size (by simp), fun i hi hne => (Below.heap_alloc w o i (Nat.lt_of_lt_of_le hi h.size)).trans (h.block i hi hne)⟩
theorem grown_drewN {a w : World} {r : Option Nat} (h : a.grownBy w r) (n : Nat) : a.grownBy (w.drewN n) r := ⟨h.os, h.tape, h.output, h.size, h.block⟩
theorem grown_trans {a b c : World} {r : Option Nat} (h : a.grownBy b r) (k : b.grownBy c r) : a.grownBy c r :=
  ⟨k.os.trans h.os, k.tape.trans h.tape, k.output.trans h.output, Nat.le_trans h.size k.size, fun i hi hr => (k.block i (Nat.lt_of_lt_of_le hi h.size) hr).trans (h.block i hi hr)⟩
theorem setCell_far (w : World) {p a : Addr} (v : Value) (h : p.block ≠ a.block) : (w.setCell p v).cell? a = w.cell? a := World.cell?_setCell_other _ _ _ _ (fun e => h (by rw [e]))

/-- What the closure has captured: where it is (P1), and the source (P2). -/
structure Clo (w : World) (sb b cap : Nat) (s : ByteArray) (P1 P2 : Nat) (p : Nat) : Prop where
  src : Src w sb b cap s
  prev : w.cell? ⟨P1, 0, none⟩ = some (.int .i64 (p : Int))
  free : w.frozen? ⟨P1, 0, none⟩ = false
  at_ : w.cell? ⟨P2, 0, none⟩ = some (.pointer (some ⟨sb, 0, none⟩))
  lt1 : P1 < w.heap.size
  lt2 : P2 < w.heap.size
  ne1 : P1 ≠ sb
  ne2 : P1 ≠ b
  ne3 : P1 ≠ P2

set_option maxHeartbeats 2000000 in
set_option maxRecDepth 100000 in
theorem lex_tok {w : World} {sb b cap : Nat} {s : ByteArray} {P1 P2 p : Nat} (h : Clo w sb b cap s P1 P2 p) (k : Int) (q e : Nat) (v : ByteArray) (ht : Tok s p k q e v) :
    Calls Tryz.prog 22 #[.int .i64 0, .pointer (some ⟨P1, 0, none⟩), .pointer (some ⟨P2, 0, none⟩)] w fun r w' =>
      r = .returned (.tuple #[.agg #[.int .i64 k, .int .i64 (q : Int), .int .i64 (e : Int), .string v], .nilIface]) ∧ w.grownBy w' (some P1) ∧ w'.cell? ⟨P1, 0, none⟩ = some (.int .i64 (e : Int)) ∧ w'.frozen? ⟨P1, 0, none⟩ = false := by
  obtain ⟨h1, h2, h3, h4, h5, h6, h7, h8, h9⟩ := h
  have HT : Hid (∀ o, Calls Tryz.prog 23 #[.pointer (some ⟨sb, 0, none⟩), .int .i64 (p : Int)] (w.alloc o) fun r w' =>
    r = .returned (.tuple #[.agg #[.int .i64 k, .int .i64 (q : Int), .int .i64 (e : Int), .string v], .nilIface]) ∧ Below (w.alloc o).heap.size (w.alloc o) w') :=
    Lib.hid (fun o => ht _ _ _ _ (h1.grow ((Below.refl _ _).alloc (Nat.le_refl _) o)))
  clear ht h1 h7 h8 h9
  go_enter Tryz.func22, Tryz.ntmps22
  go_wp2_with fail
  refine (HT.out _).mono ?_
  rintro r w2 ⟨rfl, hb⟩
  have f1 : w2.cell? ⟨P1, 0, none⟩ = some (.int .i64 (p : Int)) := (hb.cell (by simp; omega)).trans ((World.cell?_alloc_past _ _ _ h5).trans h2)
  have f2 : w2.frozen? ⟨P1, 0, none⟩ = false := (hb.frozen (by simp; omega)).trans ((World.frozen?_of_block (Below.heap_alloc _ _ _ h5)).trans h3)
  obtain ⟨⟨c0, c1, c2, c3⟩, ⟨z0, z1, z2, z3⟩, hz, hB⟩ := kept4 hb
  clear hb
  have hP : P1 < w2.heap.size := by omega
  go_wp2_with fail
  have g0 := fun i : Nat => setCell_far w2 (p := ⟨P1, 0, none⟩) (a := ⟨w.heap.size, i, none⟩) (.int .i64 (e : Int)) (by show P1 ≠ w.heap.size; omega)
  obtain ⟨q0, q1, q2, q3⟩ := set4 ((g0 0).trans c0) ((g0 1).trans c1) ((g0 2).trans c2) ((g0 3).trans c3) (.int .i64 k) (.int .i64 q) (.int .i64 e) (.string v)
  refine bodyPost_ret (v := .tuple #[.agg #[.int .i64 k, .int .i64 (q : Int), .int .i64 (e : Int), .string v], .nilIface]) (by simp [results, Tryz.results22, go_sem, q0, q1, q2, q3, hz]) rfl ⟨rfl, ?_, ?_, ?_⟩
  · exact grown_alloc (grown_set (grown_set (grown_set (grown_set (grown_set (grown_below hB) (.inl rfl) _) (.inr (Nat.le_refl _)) _) (.inr (Nat.le_refl _)) _) (.inr (Nat.le_refl _)) _) (.inr (Nat.le_refl _)) _) _
  · rw [World.cell?_alloc_past _ _ _ (by simpa using hP), far4 _ (show w.heap.size ≠ P1 by omega)]
    exact World.cell?_setCell_same _ _ _ f1
  · rw [World.frozen?_of_block (Below.heap_alloc _ _ _ (by simpa using hP))]
    simpa only [World.frozen?_setCell] using f2

set_option maxHeartbeats 2000000 in
set_option maxRecDepth 100000 in
theorem lex_bad {w : World} {sb b cap : Nat} {s : ByteArray} {P1 P2 p : Nat} (h : Clo w sb b cap s P1 P2 p) (ht : Bad s p) :
    Calls Tryz.prog 22 #[.int .i64 0, .pointer (some ⟨P1, 0, none⟩), .pointer (some ⟨P2, 0, none⟩)] w fun r w' =>
      ∃ g : Nat, r = .returned (.tuple #[.agg #[.int .i64 0, .int .i64 0, .int .i64 0, .string ⟨#[]⟩], .iface 63 (.pointer (some ⟨g, 0, none⟩))]) ∧ Below w.heap.size w w' := by
  obtain ⟨h1, h2, h3, h4, h5, h6, h7, h8, h9⟩ := h
  have HT : Hid (∀ o, Calls Tryz.prog 23 #[.pointer (some ⟨sb, 0, none⟩), .int .i64 (p : Int)] (w.alloc o) fun r w' =>
    ∃ g : Nat, r = .returned (.tuple #[.agg #[.int .i64 0, .int .i64 0, .int .i64 0, .string ⟨#[]⟩], .iface 63 (.pointer (some ⟨g, 0, none⟩))]) ∧ Below (w.alloc o).heap.size (w.alloc o) w') :=
    Lib.hid (fun o => ht _ _ _ _ (h1.grow ((Below.refl _ _).alloc (Nat.le_refl _) o)))
  clear ht h1 h7 h8 h9
  go_enter Tryz.func22, Tryz.ntmps22
  go_wp2_with fail
  refine (HT.out _).mono ?_
  rintro r w2 ⟨g, rfl, hb⟩
  obtain ⟨⟨c0, c1, c2, c3⟩, ⟨z0, z1, z2, z3⟩, hz, hB⟩ := kept4 hb
  clear hb
  go_wp2_with fail
  obtain ⟨q0, q1, q2, q3⟩ := set4 c0 c1 c2 c3 (.int .i64 0) (.int .i64 0) (.int .i64 0) (.string ⟨#[]⟩)
  refine bodyPost_ret (v := .tuple #[.agg #[.int .i64 0, .int .i64 0, .int .i64 0, .string ⟨#[]⟩], .iface 63 (.pointer (some ⟨g, 0, none⟩))]) (by simp [results, Tryz.results22, go_sem, q0, q1, q2, q3, hz]) rfl ⟨g, rfl, ?_⟩
  exact (below_set4 hB (Nat.le_refl _) _ _ _ _).alloc (by simp; omega) _
end Go.Proofs.YtbojlohjmbhifaaGreatDoor
