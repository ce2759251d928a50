/- A name at a place of a text. -/
import Derived.Test.YtbjfahhfcdnkaaaGreatDoorRt1
import Derived.Test.YtbjfahhfcdnkaaaGreatDoorRt2
import Derived.Test.YtbjfahhfcdnkaaaGreatDoorPt
namespace Go.Proofs.YtbjfahhfcdnkaaaGreatDoor
open Go.RowKit Go.Proofs.YtbjfahhfcdnkaaaGreatDoorW.PrintWords Go.Proofs.YtbjfahhfcdnkaaaGreatDoorW.PrintMore

/-- A name at a place, blanks ahead of it. -/
theorem name_at {s : ByteArray} {p : Nat} {g t r : List UInt8} {c : UInt8} (h : From s p (g ++ (c :: t ++ r))) (hg : ∀ c ∈ g, blank8 c = true) (hc : nameStart8 c = true) (ht : ∀ c ∈ t, nameChar8 c = true) (hr : ∀ d r', r = d :: r' → nameChar8 d = false) :
    Tok s p 15 (p + g.length) (p + g.length + (t.length + 1)) ⟨(c :: t).toArray⟩ := by
  have h1 := h.skip
  have hz := h1.size
  simp only [List.length_append, List.length_cons] at hz
  have ha := h.ahead hg (by simp)
  have hcut := h1.cut
  rw [List.length_cons] at hcut
  rw [← hcut]
  refine tok_name s p (p + g.length) (p + g.length + (t.length + 1)) ha ?_ (by omega) (by omega) (fun j h2 h3 => ?_) (fun h2 => ?_)
  · rw [h1.at0]
    unfold lc nameStart
    unfold nameStart8 at hc
    simp only [Bool.or_eq_true, Bool.and_eq_true, decide_eq_true_eq, beq_iff_eq] at hc
    simp only [List.cons_append, List.getElem?_cons_zero]
    omega
  · obtain ⟨i, rfl⟩ : ∃ i, j = p + g.length + (i + 1) := ⟨j - (p + g.length) - 1, by omega⟩
    have hi : i < t.length := by omega
    rw [h1.code (i + 1), lc_left (by simp; omega)]
    simp only [List.getElem_cons_succ]
    exact nameChar_of (ht _ (List.getElem_mem hi))
  · have e := lc_right (c :: t) r 0
    rw [Nat.add_zero, List.length_cons] at e
    rw [h1.code (t.length + 1), e]
    cases r with
    | nil => simp at hz; omega
    | cons d r' => exact nameEnd_of (hr d r' rfl)

set_option maxHeartbeats 2000000 in
set_option maxRecDepth 100000 in
theorem lex_tok {w : World} {sb b cap : Nat} {s : ByteArray} {P1 P2 p : Nat} (h : Clo w sb b cap s P1 P2 p) (k : Int) (q e : Nat) (v : ByteArray) (ht : Tok s p k q e v) :
    Calls Tryz.prog 133 #[.int .i64 0, .pointer (some ⟨P1, 0, none⟩), .pointer (some ⟨P2, 0, none⟩)] w fun r w' =>
      r = .returned (.tuple #[.agg #[.int .i64 k, .int .i64 (q : Int), .int .i64 (e : Int), .string v], .nilIface]) ∧ w.grownBy w' (some P1) ∧ w'.cell? ⟨P1, 0, none⟩ = some (.int .i64 (e : Int)) ∧ w'.frozen? ⟨P1, 0, none⟩ = false := by
  obtain ⟨h1, h2, h3, h4, h5, h6, h7, h8, h9⟩ := h
  have HT : Hid (∀ o, Calls Tryz.prog 134 #[.pointer (some ⟨sb, 0, none⟩), .int .i64 (p : Int)] (w.alloc o) fun r w' =>
    r = .returned (.tuple #[.agg #[.int .i64 k, .int .i64 (q : Int), .int .i64 (e : Int), .string v], .nilIface]) ∧ Below (w.alloc o).heap.size (w.alloc o) w') :=
    Lib.hid (fun o => ht _ _ _ _ (h1.grow ((Below.refl _ _).alloc (Nat.le_refl _) o)))
  clear ht h1 h7 h8 h9
  go_enter Tryz.func133, Tryz.ntmps133
  go_wp2_with fail
  refine (HT.out _).mono ?_
  rintro r w2 ⟨rfl, hb⟩
  have f1 : w2.cell? ⟨P1, 0, none⟩ = some (.int .i64 (p : Int)) := (hb.cell (by simp; omega)).trans ((World.cell?_alloc_past _ _ _ h5).trans h2)
  have f2 : w2.frozen? ⟨P1, 0, none⟩ = false := (hb.frozen (by simp; omega)).trans ((World.frozen?_of_block (Below.heap_alloc _ _ _ h5)).trans h3)
  obtain ⟨⟨c0, c1, c2, c3⟩, ⟨z0, z1, z2, z3⟩, hz, hB⟩ := kept4 hb
  clear hb
  have hP : P1 < w2.heap.size := by omega
  go_wp2_with fail
  have g0 := fun i : Nat => setCell_far w2 (p := ⟨P1, 0, none⟩) (a := ⟨w.heap.size, i, none⟩) (.int .i64 (e : Int)) (by show P1 ≠ w.heap.size; omega)
  obtain ⟨q0, q1, q2, q3⟩ := set4 ((g0 0).trans c0) ((g0 1).trans c1) ((g0 2).trans c2) ((g0 3).trans c3) (.int .i64 k) (.int .i64 q) (.int .i64 e) (.string v)
  refine bodyPost_ret (v := .tuple #[.agg #[.int .i64 k, .int .i64 (q : Int), .int .i64 (e : Int), .string v], .nilIface]) (by simp [results, Tryz.results133, go_sem, q0, q1, q2, q3, hz]) rfl ⟨rfl, ?_, ?_, ?_⟩
  · exact grown_alloc (grown_set (grown_set (grown_set (grown_set (grown_set (grown_below hB) (.inl rfl) _) (.inr (Nat.le_refl _)) _) (.inr (Nat.le_refl _)) _) (.inr (Nat.le_refl _)) _) (.inr (Nat.le_refl _)) _) _
  · rw [World.cell?_alloc_past _ _ _ (by simpa using hP), far4 _ (show w.heap.size ≠ P1 by omega)]
    exact World.cell?_setCell_same _ _ _ f1
  · rw [World.frozen?_of_block (Below.heap_alloc _ _ _ (by simpa using hP))]
    simpa only [World.frozen?_setCell] using f2

set_option maxHeartbeats 400000 in
set_option maxRecDepth 100000 in
theorem newSource_any (v : Addr) (n c : Nat) (w : World) :
    Calls Tryz.prog 29 #[.pointer (some ⟨w.heap.size, 0, none⟩)] (w.alloc (.cells #[.slice (some v) n c, .string ⟨#[]⟩] 106)) fun r w' =>
      r = .returned (.pointer (some ⟨w.heap.size, 0, none⟩)) ∧ w.alloc (.cells #[.slice (some v) n c, .string ⟨#[71, 114, 97, 112, 104, 81, 76]⟩] 106) = w' := by
  go_enter Tryz.func29, Tryz.ntmps29
  go_wp2_with fail
  go_ret
  exact ⟨rfl, rfl⟩

set_option maxHeartbeats 400000 in
set_option maxRecDepth 100000 in
theorem lex_any (g : Nat) (w : World) :
    Calls Tryz.prog 74 #[.pointer (some ⟨g, 0, none⟩)] w fun r w' =>
      r = .returned (.func (.func 133) #[] #[.pointer (some ⟨w.heap.size + 1, 0, none⟩), .pointer (some ⟨w.heap.size, 0, none⟩)]) ∧ (w.alloc (.cells #[.pointer (some ⟨g, 0, none⟩)] 58)).alloc (.cells #[.int .i64 0] 3) = w' := by
  have hmf : ∀ (fn : Fn) (first cap : Array Value) (w : World), (Instr.makeFunc fn first cap).run Tryz.prog w = .ok (.func fn first cap) w := fun _ _ _ _ => rfl
  go_enter Tryz.func74, Tryz.ntmps74
  go_wp2_with fail
  go_ret
  exact ⟨rfl, rfl⟩

end Go.Proofs.YtbjfahhfcdnkaaaGreatDoor
