/- A string is a token, or refused. -/
import Derived.Test.YtbojlohjmbhifaaGreatDoorRt0
import Derived.Test.YtbojlohjmbhifaaGreatDoorRs1
namespace Go.Proofs.YtbojlohjmbhifaaGreatDoor
open Go.RowKit Go.Proofs.YtbojlohjmbhifaaGreatDoorW.PrintWords Go.Proofs.YtbojlohjmbhifaaGreatDoorW.PrintMore

theorem far4 (w : World) {B B' : Nat} (hne : B' ≠ B) (v0 v1 v2 v3 : Value) (i : Nat) :
    ((((w.setCell ⟨B', 0, none⟩ v0).setCell ⟨B', 1, none⟩ v1).setCell ⟨B', 2, none⟩ v2).setCell ⟨B', 3, none⟩ v3).cell? ⟨B, i, none⟩ = w.cell? ⟨B, i, none⟩ := by
  have hf : ∀ (W : World) (j : Nat) (v : Value), (W.setCell ⟨B', j, none⟩ v).cell? ⟨B, i, none⟩ = W.cell? ⟨B, i, none⟩ := fun W j v => World.cell?_setCell_other _ _ _ _ (by intro e; injection e with e _; exact hne e)
  rw [hf, hf, hf, hf]

/-- What 'readString' returns at a place, in every world. -/
def Str (s : ByteArray) (q : Nat) (r : Value) : Prop :=
  ∀ (w : World) (sb b cap : Nat), Src w sb b cap s → Calls Tryz.prog 32 #[.pointer (some ⟨sb, 0, none⟩), .int .i64 (q : Int)] w fun e w' => e = .returned r ∧ Below w.heap.size w w'

/-- 'readString' refuses what stands at a place, in every world. -/
def StrBad (s : ByteArray) (q : Nat) : Prop :=
  ∀ (w : World) (sb b cap : Nat), Src w sb b cap s → Calls Tryz.prog 32 #[.pointer (some ⟨sb, 0, none⟩), .int .i64 (q : Int)] w fun e w' =>
    ∃ g : Nat, e = .returned (.tuple #[.agg #[.int .i64 0, .int .i64 0, .int .i64 0, .string ⟨#[]⟩], .iface 63 (.pointer (some ⟨g, 0, none⟩))]) ∧ Below w.heap.size w w'

set_option maxHeartbeats 2000000 in
set_option maxRecDepth 100000 in
theorem tok_string (s : ByteArray) (p q e : Nat) (v : ByteArray) (ha : Ahead s p q) (hc : cd s q = 34) (hc2 : cd s (q + 1 : Nat) ≠ 34) (hs : Str s q (.tuple #[.agg #[.int .i64 18, .int .i64 q, .int .i64 e, .string v], .nilIface])) : Tok s p 18 q e v := by
  intro w sb b cap h
  have hlt := h.lts
  have hhd := h.head
  have hq := ha.size
  have hsz := h.size
  have HP : Hid (∀ o, Calls Tryz.prog 25 #[.slice (some ⟨b, 0, none⟩) s.size cap, .int .i64 (p : Int)] (w.alloc o) fun e w' => e = .returned (.tuple #[.int .i64 (q : Int), .int .i64 (q : Int)]) ∧ (w.alloc o) = w') :=
    Lib.hid (fun o => pos_at ha (by rw [hc]; refine ⟨?_, ?_, ?_, ?_, ?_, ?_, ?_⟩ <;> decide) (h.grow ((Below.refl _ _).alloc (Nat.le_refl _) o)))
  have HR : Hid (∀ o, Calls Tryz.prog 27 #[.slice (some ⟨b, 0, none⟩) s.size cap, .int .i64 (q : Int)] (w.alloc o) fun e w' => e = .returned (.tuple #[.int .i32 34, .int .i64 1]) ∧ (w.alloc o) = w') :=
    Lib.hid (fun o => by have c := runeAt_any (h.grow ((Below.refl _ _).alloc (Nat.le_refl _) o)) q (by omega); rw [hc, wd_in (by omega)] at c; exact c)
  have H2 : Hid (∀ o o', Src ((w.alloc o).alloc o') sb b cap s) := Lib.hid (fun o o' => h.grow (((Below.refl _ _).alloc (Nat.le_refl _) o).alloc (by simp) o'))
  have hn2 : (cd s ((q : Int) + 1) == 34) = false := beq_eq_false_iff_ne.2 hc2
  have HS := Lib.hid hs
  clear ha hc hc2 h hs
  go_enter Tryz.func23, Tryz.ntmps23
  go_wp2_with (first | (go_at_call 25; refine (HP.out _).mono ?_; rintro r w' ⟨rfl, rfl⟩) | (go_at_call_of 27 (Value.int IntKind.i64 (q : Int)); refine (HR.out _).mono ?_; rintro r w' ⟨rfl, rfl⟩) | (go_at_call 27; refine (runeAt_any (H2.out _ _) _ (by omega)).mono ?_; rintro r w' ⟨rfl, rfl⟩))
  refine (HS.out _ _ _ _ (H2.out _ _)).mono ?_
  rintro r w2 ⟨rfl, hb⟩
  have hb' := hb.mono (show w.heap.size + 1 ≤ _ by simp)
  obtain ⟨⟨c0, c1, c2, c3⟩, ⟨z0, z1, z2, z3⟩, hz, hB⟩ := kept4b hb'
  have hk := kept4 hb
  simp only [World.size_alloc] at hk
  obtain ⟨⟨d0, d1, d2, d3⟩, ⟨y0, y1, y2, y3⟩, hz2, _⟩ := hk
  clear hb hb'
  go_wp2_with fail
  have hff := far4 w2 (show w.heap.size + 1 ≠ w.heap.size by omega) (.int .i64 18) (.int .i64 q) (.int .i64 e) (.string v)
  obtain ⟨q0, q1, q2, q3⟩ := set4 ((hff 0).trans c0) ((hff 1).trans c1) ((hff 2).trans c2) ((hff 3).trans c3) (.int .i64 18) (.int .i64 q) (.int .i64 e) (.string v)
  refine bodyPost_ret (v := .tuple #[.agg #[.int .i64 18, .int .i64 q, .int .i64 e, .string v], .nilIface]) (by simp [results, Tryz.results23, go_sem, q0, q1, q2, q3]) rfl ⟨rfl, below_set4 (below_set4 hB (Nat.le_succ _) _ _ _ _) (Nat.le_refl _) _ _ _ _⟩

set_option maxHeartbeats 2000000 in
set_option maxRecDepth 100000 in
theorem bad_string (s : ByteArray) (p q : Nat) (ha : Ahead s p q) (hc : cd s q = 34) (hc2 : cd s (q + 1 : Nat) ≠ 34) (hs : StrBad s q) : Bad s p := by
  intro w sb b cap h
  have hlt := h.lts
  have hhd := h.head
  have hq := ha.size
  have hsz := h.size
  have HP : Hid (∀ o, Calls Tryz.prog 25 #[.slice (some ⟨b, 0, none⟩) s.size cap, .int .i64 (p : Int)] (w.alloc o) fun e w' => e = .returned (.tuple #[.int .i64 (q : Int), .int .i64 (q : Int)]) ∧ (w.alloc o) = w') :=
    Lib.hid (fun o => pos_at ha (by rw [hc]; refine ⟨?_, ?_, ?_, ?_, ?_, ?_, ?_⟩ <;> decide) (h.grow ((Below.refl _ _).alloc (Nat.le_refl _) o)))
  have HR : Hid (∀ o, Calls Tryz.prog 27 #[.slice (some ⟨b, 0, none⟩) s.size cap, .int .i64 (q : Int)] (w.alloc o) fun e w' => e = .returned (.tuple #[.int .i32 34, .int .i64 1]) ∧ (w.alloc o) = w') :=
    Lib.hid (fun o => by have c := runeAt_any (h.grow ((Below.refl _ _).alloc (Nat.le_refl _) o)) q (by omega); rw [hc, wd_in (by omega)] at c; exact c)
  have H2 : Hid (∀ o o', Src ((w.alloc o).alloc o') sb b cap s) := Lib.hid (fun o o' => h.grow (((Below.refl _ _).alloc (Nat.le_refl _) o).alloc (by simp) o'))
  have hn2 : (cd s ((q : Int) + 1) == 34) = false := beq_eq_false_iff_ne.2 hc2
  have HS := Lib.hid hs
  clear ha hc hc2 h hs
  go_enter Tryz.func23, Tryz.ntmps23
  go_wp2_with (first | (go_at_call 25; refine (HP.out _).mono ?_; rintro r w' ⟨rfl, rfl⟩) | (go_at_call_of 27 (Value.int IntKind.i64 (q : Int)); refine (HR.out _).mono ?_; rintro r w' ⟨rfl, rfl⟩) | (go_at_call 27; refine (runeAt_any (H2.out _ _) _ (by omega)).mono ?_; rintro r w' ⟨rfl, rfl⟩))
  refine (HS.out _ _ _ _ (H2.out _ _)).mono ?_
  rintro r w2 ⟨g, rfl, hb⟩
  have hb' := hb.mono (show w.heap.size + 1 ≤ _ by simp)
  obtain ⟨⟨c0, c1, c2, c3⟩, ⟨z0, z1, z2, z3⟩, hz, hB⟩ := kept4b hb'
  have hk := kept4 hb
  simp only [World.size_alloc] at hk
  obtain ⟨⟨d0, d1, d2, d3⟩, ⟨y0, y1, y2, y3⟩, hz2, _⟩ := hk
  clear hb hb'
  go_wp2_with fail
  have hff := far4 w2 (show w.heap.size + 1 ≠ w.heap.size by omega) (.int .i64 0) (.int .i64 0) (.int .i64 0) (.string ⟨#[]⟩)
  obtain ⟨q0, q1, q2, q3⟩ := set4 ((hff 0).trans c0) ((hff 1).trans c1) ((hff 2).trans c2) ((hff 3).trans c3) (.int .i64 0) (.int .i64 0) (.int .i64 0) (.string ⟨#[]⟩)
  refine bodyPost_ret (v := .tuple #[.agg #[.int .i64 0, .int .i64 0, .int .i64 0, .string ⟨#[]⟩], .iface 63 (.pointer (some ⟨g, 0, none⟩))]) (by simp [results, Tryz.results23, go_sem, q0, q1, q2, q3]) rfl ⟨g, rfl, below_set4 (below_set4 hB (Nat.le_succ _) _ _ _ _) (Nat.le_refl _) _ _ _ _⟩

theorem str_plain (s : ByteArray) (q e : Nat) (hqe : q < e) (he : e < s.size) (hn : ∀ j : Nat, q < j → j < e → plainSign (cd s j)) (hend : cd s e = 34) :
    Str s q (.tuple #[.agg #[.int .i64 18, .int .i64 q, .int .i64 (e + 1 : Nat), .string (s.extract (q + 1) e)], .nilIface]) :=
  fun _ _ _ _ h => readString_plain h q e hqe he hn hend
theorem str_bad (s : ByteArray) (q e : Nat) (hqe : q < e) (he : e ≤ s.size) (hn : ∀ j : Nat, q < j → j < e → plainSign (cd s j)) (hend : badSign (cd s e)) : StrBad s q :=
  fun _ _ _ _ h => readString_bad h q e hqe he hn hend
end Go.Proofs.YtbojlohjmbhifaaGreatDoor
