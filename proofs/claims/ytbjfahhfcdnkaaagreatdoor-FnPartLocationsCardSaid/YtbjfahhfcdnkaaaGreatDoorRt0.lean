/- The words of a step of the lexer: what 'readToken' returns from a place on. -/
import Derived.Test.YtbjfahhfcdnkaaaGreatDoorLx2
import Derived.Deep.DeepCutAuto
import Derived.Deep.CutBlock
namespace Go.Proofs.YtbjfahhfcdnkaaaGreatDoor
open Go.RowKit Go.Proofs.YtbjfahhfcdnkaaaGreatDoorW.PrintWords Go.Proofs.YtbjfahhfcdnkaaaGreatDoorW.PrintMore

/-- From p on 'readToken' returns a token. -/
def Tok (s : ByteArray) (p : Nat) (k : Int) (q e : Nat) (v : ByteArray) : Prop :=
  ∀ (w : World) (sb b cap : Nat), Src w sb b cap s → Calls Tryz.prog 134 #[.pointer (some ⟨sb, 0, none⟩), .int .i64 (p : Int)] w fun r w' =>
    r = .returned (.tuple #[.agg #[.int .i64 k, .int .i64 (q : Int), .int .i64 (e : Int), .string v], .nilIface]) ∧ Below w.heap.size w w'
/-- From p on 'readToken' returns an error. -/
def Bad (s : ByteArray) (p : Nat) : Prop :=
  ∀ (w : World) (sb b cap : Nat), Src w sb b cap s → Calls Tryz.prog 134 #[.pointer (some ⟨sb, 0, none⟩), .int .i64 (p : Int)] w fun r w' =>
    ∃ g : Nat, r = .returned (.tuple #[.agg #[.int .i64 0, .int .i64 0, .int .i64 0, .string ⟨#[]⟩], .iface 283 (.pointer (some ⟨g, 0, none⟩))]) ∧ Below w.heap.size w w'

/-- What stands ahead of the token at q is passed over. -/
structure Ahead (s : ByteArray) (p q : Nat) : Prop where
  le : p ≤ q
  size : q < s.size
  blanks : ∀ j : Nat, p ≤ j → j < q → blank (cd s j)

set_option maxHeartbeats 1000000 in
set_option maxRecDepth 100000 in
/-- The end of the text. -/
theorem tok_end (s : ByteArray) (p : Nat) (hp : p ≤ s.size) (hb : ∀ j : Nat, p ≤ j → j < s.size → blank (cd s j)) : Tok s p 1 s.size s.size ⟨#[]⟩ := by
  intro w sb b cap h
  have hlt := h.lts
  have hhd := h.head
  have HP : Hid (∀ o, Calls Tryz.prog 154 #[.slice (some ⟨b, 0, none⟩) s.size cap, .int .i64 (p : Int)] (w.alloc o) fun e w' => e = .returned (.tuple #[.int .i64 (s.size : Int), .int .i64 (s.size : Int)]) ∧ (w.alloc o) = w') :=
    Lib.hid (fun o => pos_any (h.grow ((Below.refl _ _).alloc (Nat.le_refl _) o)) p s.size hp (Nat.le_refl _) hb (fun hh => absurd hh (by omega)))
  clear hb h
  go_enter Tryz.func134, Tryz.ntmps134
  go_wp2_with (first | (go_at_call 154; refine (HP.out _).mono ?_; rintro r w' ⟨rfl, rfl⟩) | (go_at_call 155; refine (makeToken_any _ _ _ _ _).mono ?_; rintro r w' ⟨rfl, hb⟩; obtain ⟨⟨c0, c1, c2, c3⟩, ⟨z0, z1, z2, z3⟩, hz, hB⟩ := kept4 hb; clear hb))
  obtain ⟨q0, q1, q2, q3⟩ := set4 c0 c1 c2 c3 (.int .i64 1) (.int .i64 s.size) (.int .i64 s.size) (.string ⟨#[]⟩)
  refine bodyPost_ret (v := .tuple #[.agg #[.int .i64 1, .int .i64 s.size, .int .i64 s.size, .string ⟨#[]⟩], .nilIface]) (by simp [results, Tryz.results134, go_sem, q0, q1, q2, q3]) rfl ⟨rfl, below_set4 hB (Nat.le_refl _) _ _ _ _⟩

theorem pos_at {s : ByteArray} {p q : Nat} (ha : Ahead s p q) (hst : starts (cd s q)) {w : World} {sb b cap : Nat} (h : Src w sb b cap s) :
    Calls Tryz.prog 154 #[.slice (some ⟨b, 0, none⟩) s.size cap, .int .i64 (p : Int)] w fun e w' => e = .returned (.tuple #[.int .i64 (q : Int), .int .i64 (q : Int)]) ∧ w = w' :=
  pos_any h p q ha.le (Nat.le_of_lt ha.size) ha.blanks (fun _ => hst)
end Go.Proofs.YtbjfahhfcdnkaaaGreatDoor
