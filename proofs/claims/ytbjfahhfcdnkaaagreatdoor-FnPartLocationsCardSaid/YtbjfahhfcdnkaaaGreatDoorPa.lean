/- The parser's state, and its small steps. -/
import Derived.Test.YtbjfahhfcdnkaaaGreatDoorPt
import Derived.Deep.RegionHeld3
import Derived.Deep.AppendLies
import Derived.Deep.DrawnRows
namespace Go.Proofs.YtbjfahhfcdnkaaaGreatDoor
open Go.RowKit Go.Proofs.YtbjfahhfcdnkaaaGreatDoorW.PrintWords Go.Proofs.YtbjfahhfcdnkaaaGreatDoorW.PrintMore

/-- A token: its kind, where it begins and ends, its text. -/
structure T where
  k : Int
  q : Nat
  e : Nat
  v : ByteArray

/-- Only two blocks may have turned, and new ones. -/
structure Turn (P1 pb : Nat) (w w' : World) : Prop where
  os : w'.os = w.os
  tape : w'.tape = w.tape
  output : w'.output = w.output
  size : w.heap.size ≤ w'.heap.size
  block : ∀ i, i < w.heap.size → i ≠ P1 → i ≠ pb → w'.heap[i]? = w.heap[i]?

theorem Turn.refl (P1 pb : Nat) (w : World) : Turn P1 pb w w := ⟨rfl, rfl, rfl, Nat.le_refl _, fun _ _ _ _ => rfl⟩
theorem Turn.trans {P1 pb : Nat} {a b c : World} (h : Turn P1 pb a b) (k : Turn P1 pb b c) : Turn P1 pb a c :=
  ⟨k.os.trans h.os, k.tape.trans h.tape, k.output.trans h.output, Nat.le_trans h.size k.size, fun i hi h1 h2 => (k.block i (Nat.lt_of_lt_of_le hi h.size) h1 h2).trans (h.block i hi h1 h2)⟩
theorem Turn.below {P1 pb : Nat} {a b : World} (h : Below a.heap.size a b) : Turn P1 pb a b := ⟨h.os, h.tape, h.output, h.size, fun i hi _ _ => h.block i hi⟩
theorem Turn.grown {P1 pb : Nat} {a b : World} (h : a.grownBy b (some P1)) : Turn P1 pb a b := ⟨h.os, h.tape, h.output, h.size, fun i hi h1 _ => h.block i hi (fun e => h1 (by injection e))⟩
theorem Turn.alloc {P1 pb : Nat} {a w : World} (h : Turn P1 pb a w) (o : Obj) : Turn P1 pb a (w.alloc o) :=
  ⟨h.os, h.tape, h.output, Nat.le_trans h.size (by simp), fun i hi h1 h2 => (Below.heap_alloc w o i (Nat.lt_of_lt_of_le hi h.size)).trans (h.block i hi h1 h2)⟩
theorem Turn.setCell {P1 pb : Nat} {a w : World} (h : Turn P1 pb a w) {p : Addr} (hp : p.block = P1 ∨ p.block = pb ∨ a.heap.size ≤ p.block) (u : Value) : Turn P1 pb a (w.setCell p u) := by
  refine ⟨h.os, h.tape, h.output, by simpa [World.setCell] using h.size, fun i hi h1 h2 => (Below.heap_setCell w p u i ?_).trans (h.block i hi h1 h2)⟩
  intro e
  rcases hp with hp | hp | hp
  · exact h1 (e.trans hp)
  · exact h2 (e.trans hp)
  · omega
theorem Turn.drewN {P1 pb : Nat} {a w : World} (h : Turn P1 pb a w) (n : Nat) : Turn P1 pb a (w.drewN n) := ⟨h.os, h.tape, h.output, h.size, h.block⟩
theorem Turn.drew {P1 pb : Nat} {a w : World} (h : Turn P1 pb a w) : Turn P1 pb a w.drew := ⟨h.os, h.tape, h.output, h.size, h.block⟩
theorem Turn.low {P1 pb N : Nat} {a b : World} (h : Turn P1 pb a b) (h0 : N ≤ a.heap.size) (h1 : N ≤ P1) (h2 : N ≤ pb) : Below N a b := ⟨h.os, h.tape, h.output, h.size, fun i hi => h.block i (by omega) (by omega) (by omega)⟩
theorem Turn.cell {P1 pb : Nat} {a b : World} (h : Turn P1 pb a b) {p : Addr} (hp : p.block < a.heap.size) (h1 : p.block ≠ P1) (h2 : p.block ≠ pb) : b.cell? p = a.cell? p := World.cell?_of_block (h.block _ hp h1 h2)

/-- The parser lies in block pb: its last token ends at pe, its token is t. -/
structure Prs (w : World) (pb sb b cap : Nat) (s : ByteArray) (P1 P2 : Nat) (pe : Int) (t : T) : Prop where
  c0 : w.cell? ⟨pb, 0, none⟩ = some (.func (.func 133) #[] #[.pointer (some ⟨P1, 0, none⟩), .pointer (some ⟨P2, 0, none⟩)])
  c1 : w.cell? ⟨pb, 1, none⟩ = some (.pointer (some ⟨sb, 0, none⟩))
  c2 : w.cell? ⟨pb, 2, none⟩ = some (.bool false)
  c3 : w.cell? ⟨pb, 3, none⟩ = some (.bool false)
  c4 : w.cell? ⟨pb, 4, none⟩ = some (.int .i64 pe)
  c5 : w.cell? ⟨pb, 5, none⟩ = some (.int .i64 t.k)
  c6 : w.cell? ⟨pb, 6, none⟩ = some (.int .i64 (t.q : Int))
  c7 : w.cell? ⟨pb, 7, none⟩ = some (.int .i64 (t.e : Int))
  c8 : w.cell? ⟨pb, 8, none⟩ = some (.string t.v)
  z : ∀ i : Nat, w.frozen? ⟨pb, i, none⟩ = false
  clo : Clo w sb b cap s P1 P2 t.e
  lt : pb < w.heap.size
  n1 : pb ≠ P1
  n2 : pb ≠ sb
  n3 : pb ≠ b
  n4 : pb ≠ P2

theorem Clo.lts {w : World} {sb b cap : Nat} {s : ByteArray} {P1 P2 p : Nat} (h : Clo w sb b cap s P1 P2 p) {B : Nat} (hB : B = sb ∨ B = b ∨ B = P1 ∨ B = P2) : B < w.heap.size := by
  have h1 := h.src.lts
  have h2 := h.src.ltb
  have h3 := h.lt1
  have h4 := h.lt2
  omega

/-- Where the parser's blocks are as they were. -/
theorem Prs.keep {w w' : World} {pb sb b cap : Nat} {s : ByteArray} {P1 P2 : Nat} {pe : Int} {t : T} (h : Prs w pb sb b cap s P1 P2 pe t) (hb : Below w.heap.size w w') : Prs w' pb sb b cap s P1 P2 pe t :=
  ⟨(hb.cell h.lt).trans h.c0, (hb.cell h.lt).trans h.c1, (hb.cell h.lt).trans h.c2, (hb.cell h.lt).trans h.c3, (hb.cell h.lt).trans h.c4, (hb.cell h.lt).trans h.c5, (hb.cell h.lt).trans h.c6, (hb.cell h.lt).trans h.c7, (hb.cell h.lt).trans h.c8,
    fun i => (hb.frozen h.lt).trans (h.z i), h.clo.keep hb.size (fun B hB => hb.block B (h.clo.lts hB)), Nat.lt_of_lt_of_le h.lt hb.size, h.n1, h.n2, h.n3, h.n4⟩

set_option maxHeartbeats 2000000 in
set_option maxRecDepth 100000 in
/-- The closure, from a place that is not 0. -/
theorem lex_at {w : World} {sb b cap : Nat} {s : ByteArray} {P1 P2 p0 : Nat} (h : Clo w sb b cap s P1 P2 p0) (p : Nat) (hp : 0 < p) (k : Int) (q e : Nat) (v : ByteArray) (ht : Tok s p k q e v) :
    Calls Tryz.prog 133 #[.int .i64 (p : Int), .pointer (some ⟨P1, 0, none⟩), .pointer (some ⟨P2, 0, none⟩)] w fun r w' =>
      r = .returned (.tuple #[.agg #[.int .i64 k, .int .i64 (q : Int), .int .i64 (e : Int), .string v], .nilIface]) ∧ w.grownBy w' (some P1) ∧ w'.cell? ⟨P1, 0, none⟩ = some (.int .i64 (e : Int)) ∧ w'.frozen? ⟨P1, 0, none⟩ = false := by
  obtain ⟨h1, h2, h3, h4, h5, h6, h7, h8, h9⟩ := h
  have hp0 : ((p : Int) == 0) = false := beq_eq_false_iff_ne.2 (by omega)
  have HT : Hid (∀ o, Calls Tryz.prog 134 #[.pointer (some ⟨sb, 0, none⟩), .int .i64 (p : Int)] (w.alloc o) fun r w' =>
    r = .returned (.tuple #[.agg #[.int .i64 k, .int .i64 (q : Int), .int .i64 (e : Int), .string v], .nilIface]) ∧ Below (w.alloc o).heap.size (w.alloc o) w') :=
    Lib.hid (fun o => ht _ _ _ _ (h1.grow ((Below.refl _ _).alloc (Nat.le_refl _) o)))
  clear ht h1 h7 h8 h9 hp
  go_enter Tryz.func133, Tryz.ntmps133
  go_wp2_with fail
  refine (HT.out _).mono ?_
  rintro r w2 ⟨rfl, hb⟩
  have f1 : w2.cell? ⟨P1, 0, none⟩ = some (.int .i64 (p0 : Int)) := (hb.cell (by simp; omega)).trans ((World.cell?_alloc_past _ _ _ h5).trans h2)
  have f2 : w2.frozen? ⟨P1, 0, none⟩ = false := (hb.frozen (by simp; omega)).trans ((World.frozen?_of_block (Below.heap_alloc _ _ _ h5)).trans h3)
  obtain ⟨⟨c0, c1, c2, c3⟩, ⟨z0, z1, z2, z3⟩, hz, hB⟩ := kept4 hb
  clear hb
  have hP : P1 < w2.heap.size := by omega
  go_wp2_with fail
  have g0 := fun i : Nat => setCell_far w2 (p := ⟨P1, 0, none⟩) (a := ⟨w.heap.size, i, none⟩) (.int .i64 (e : Int)) (by show P1 ≠ w.heap.size; omega)
  obtain ⟨q0, q1, q2, q3⟩ := set4 ((g0 0).trans c0) ((g0 1).trans c1) ((g0 2).trans c2) ((g0 3).trans c3) (.int .i64 k) (.int .i64 q) (.int .i64 e) (.string v)
  refine bodyPost_ret (v := .tuple #[.agg #[.int .i64 k, .int .i64 (q : Int), .int .i64 (e : Int), .string v], .nilIface]) (by simp [results, Tryz.results133, go_sem, q0, q1, q2, q3, hz]) rfl ⟨rfl, ?_, ?_, ?_⟩
  · exact grown_alloc (grown_set (grown_set (grown_set (grown_set (grown_set (grown_below hB) (.inl rfl) _) (.inr (Nat.le_refl _)) _) (.inr (Nat.le_refl _)) _) (.inr (Nat.le_refl _)) _) (.inr (Nat.le_refl _)) _) _
  · rw [World.cell?_alloc_past _ _ _ (by simpa using hP), far4 _ (show w.heap.size ≠ P1 by omega)]
    exact World.cell?_setCell_same _ _ _ f1
  · rw [World.frozen?_of_block (Below.heap_alloc _ _ _ (by simpa using hP))]
    simpa only [World.frozen?_setCell] using f2

theorem Clo.drew {w : World} {sb b cap : Nat} {s : ByteArray} {P1 P2 p : Nat} (h : Clo w sb b cap s P1 P2 p) : Clo w.drew sb b cap s P1 P2 p := h.keep (Nat.le_refl _) (fun _ _ => rfl)
theorem Clo.alloc {w : World} {sb b cap : Nat} {s : ByteArray} {P1 P2 p : Nat} (h : Clo w sb b cap s P1 P2 p) (o : Obj) : Clo (w.alloc o) sb b cap s P1 P2 p := h.keep (by simp) (fun B hB => Below.heap_alloc _ _ _ (h.lts hB))
theorem Clo.setFar {w : World} {sb b cap : Nat} {s : ByteArray} {P1 P2 p : Nat} (h : Clo w sb b cap s P1 P2 p) (a : Addr) (v : Value) (ha : a.block ≠ sb ∧ a.block ≠ b ∧ a.block ≠ P1 ∧ a.block ≠ P2) : Clo (w.setCell a v) sb b cap s P1 P2 p :=
  h.keep (by simp [World.setCell]) (fun B hB => Below.heap_setCell _ _ _ _ (by intro e; subst e; rcases hB with e | e | e | e; exact ha.1 e; exact ha.2.1 e; exact ha.2.2.1 e; exact ha.2.2.2 e))

theorem kept4g {w w' : World} {P1 : Nat} {c0 c1 c2 c3 : Value} {t : TypeId} (hb : (w.alloc (.cells #[c0, c1, c2, c3] t)).drew.grownBy w' (some P1)) (hP : P1 < w.heap.size) :
    (w'.cell? ⟨w.heap.size, 0, none⟩ = some c0 ∧ w'.cell? ⟨w.heap.size, 1, none⟩ = some c1 ∧ w'.cell? ⟨w.heap.size, 2, none⟩ = some c2 ∧ w'.cell? ⟨w.heap.size, 3, none⟩ = some c3) ∧
    (w'.frozen? ⟨w.heap.size, 0, none⟩ = false ∧ w'.frozen? ⟨w.heap.size, 1, none⟩ = false ∧ w'.frozen? ⟨w.heap.size, 2, none⟩ = false ∧ w'.frozen? ⟨w.heap.size, 3, none⟩ = false) ∧ w.heap.size < w'.heap.size := by
  have hz : w.heap.size < (w.alloc (.cells #[c0, c1, c2, c3] t)).heap.size := by simp
  have hne : some w.heap.size ≠ some P1 := by intro e; injection e; omega
  have hc : ∀ i : Nat, w'.cell? ⟨w.heap.size, i, none⟩ = (w.alloc (.cells #[c0, c1, c2, c3] t)).cell? ⟨w.heap.size, i, none⟩ := fun i => hb.cell_far ⟨w.heap.size, i, none⟩ hz hne
  have hf : ∀ i : Nat, w'.frozen? ⟨w.heap.size, i, none⟩ = (w.alloc (.cells #[c0, c1, c2, c3] t)).frozen? ⟨w.heap.size, i, none⟩ := fun i => hb.frozen_far ⟨w.heap.size, i, none⟩ hz hne
  refine ⟨⟨?_, ?_, ?_, ?_⟩, ⟨?_, ?_, ?_, ?_⟩, Nat.lt_of_lt_of_le hz hb.size⟩
  all_goals first | (rw [hc, World.cell?_alloc_at _ _ _ _ rfl]; rfl) | (rw [hf]; exact World.frozen?_alloc_at _ _ _ _ rfl)

/-- Behind four stores into one block. -/
theorem all4 {w : World} {B : Nat} {u0 u1 u2 u3 : Value} (h0 : w.cell? ⟨B, 0, none⟩ = some u0) (h1 : w.cell? ⟨B, 1, none⟩ = some u1) (h2 : w.cell? ⟨B, 2, none⟩ = some u2) (h3 : w.cell? ⟨B, 3, none⟩ = some u3) (v0 v1 v2 v3 : Value) :
    ((((w.setCell ⟨B, 0, none⟩ v0).setCell ⟨B, 1, none⟩ v1).setCell ⟨B, 2, none⟩ v2).setCell ⟨B, 3, none⟩ v3).cell? ⟨B, 0, none⟩ = some v0 ∧
    ((((w.setCell ⟨B, 0, none⟩ v0).setCell ⟨B, 1, none⟩ v1).setCell ⟨B, 2, none⟩ v2).setCell ⟨B, 3, none⟩ v3).cell? ⟨B, 1, none⟩ = some v1 ∧
    ((((w.setCell ⟨B, 0, none⟩ v0).setCell ⟨B, 1, none⟩ v1).setCell ⟨B, 2, none⟩ v2).setCell ⟨B, 3, none⟩ v3).cell? ⟨B, 2, none⟩ = some v2 ∧
    ((((w.setCell ⟨B, 0, none⟩ v0).setCell ⟨B, 1, none⟩ v1).setCell ⟨B, 2, none⟩ v2).setCell ⟨B, 3, none⟩ v3).cell? ⟨B, 3, none⟩ = some v3 := by
  obtain ⟨q0, q1, q2, q3⟩ := set4 h0 h1 h2 h3 v0 v1 v2 v3
  refine ⟨?_, ?_, ?_, q3⟩
  · rw [World.cell?_setCell_other _ _ _ _ (by simp), World.cell?_setCell_other _ _ _ _ (by simp), World.cell?_setCell_other _ _ _ _ (by simp)]; exact q0
  · rw [World.cell?_setCell_other _ _ _ _ (by simp), World.cell?_setCell_other _ _ _ _ (by simp)]; exact q1
  · rw [World.cell?_setCell_other _ _ _ _ (by simp)]; exact q2

/-- Behind the closure's call in 'advance': the token in block g, the rest as it was but for the parser's cell 4 and the closure's place. -/
structure Mid (w wx : World) (pb P1 g : Nat) (t4 : Int) (t : T) : Prop where
  turn : Turn P1 pb w wx
  cell : ∀ i : Nat, wx.cell? ⟨pb, i, none⟩ = (w.setCell ⟨pb, 4, none⟩ (.int .i64 t4)).cell? ⟨pb, i, none⟩
  froz : ∀ i : Nat, wx.frozen? ⟨pb, i, none⟩ = w.frozen? ⟨pb, i, none⟩
  prev : wx.cell? ⟨P1, 0, none⟩ = some (.int .i64 (t.e : Int))
  free : wx.frozen? ⟨P1, 0, none⟩ = false
  t0 : wx.cell? ⟨g, 0, none⟩ = some (.int .i64 t.k)
  t1 : wx.cell? ⟨g, 1, none⟩ = some (.int .i64 (t.q : Int))
  t2 : wx.cell? ⟨g, 2, none⟩ = some (.int .i64 (t.e : Int))
  t3 : wx.cell? ⟨g, 3, none⟩ = some (.string t.v)
  ge : w.heap.size ≤ g
  lt : g < wx.heap.size

theorem far4g (w : World) {B B' : Nat} (hne : B' ≠ B) (v0 v1 v2 v3 : Value) (i : Nat) :
    ((((w.setCell ⟨B', 0, none⟩ v0).setCell ⟨B', 1, none⟩ v1).setCell ⟨B', 2, none⟩ v2).setCell ⟨B', 3, none⟩ v3).frozen? ⟨B, i, none⟩ = w.frozen? ⟨B, i, none⟩ := by
  have _h := hne
  simp only [World.frozen?_setCell]

/-- Only the closure's place and the token's block have turned since the parser's cell 4 was written. -/
theorem mid_of {w W2 : World} {pb P1 g : Nat} {t4 : Int} {t : T} {u0 u1 u2 u3 : Value} (n1 : pb ≠ P1) (hlt : pb < w.heap.size) (hP : P1 < w.heap.size) (hge : w.heap.size ≤ g) (hgl : g < W2.heap.size)
    (hos : W2.os = w.os) (htape : W2.tape = w.tape) (hout : W2.output = w.output) (hsz : w.heap.size ≤ W2.heap.size)
    (hbl : ∀ i, i < w.heap.size → i ≠ P1 → W2.heap[i]? = (w.setCell ⟨pb, 4, none⟩ (.int .i64 t4)).heap[i]?) (g1 : W2.cell? ⟨P1, 0, none⟩ = some (.int .i64 (t.e : Int))) (g2 : W2.frozen? ⟨P1, 0, none⟩ = false)
    (h0 : W2.cell? ⟨g, 0, none⟩ = some u0) (h1 : W2.cell? ⟨g, 1, none⟩ = some u1) (h2 : W2.cell? ⟨g, 2, none⟩ = some u2) (h3 : W2.cell? ⟨g, 3, none⟩ = some u3) :
    Mid w ((((W2.setCell ⟨g, 0, none⟩ (.int .i64 t.k)).setCell ⟨g, 1, none⟩ (.int .i64 (t.q : Int))).setCell ⟨g, 2, none⟩ (.int .i64 (t.e : Int))).setCell ⟨g, 3, none⟩ (.string t.v)) pb P1 g t4 t := by
  obtain ⟨q0, q1, q2, q3⟩ := all4 h0 h1 h2 h3 (.int .i64 t.k) (.int .i64 (t.q : Int)) (.int .i64 (t.e : Int)) (.string t.v)
  refine ⟨⟨hos, htape, hout, by simpa [World.setCell] using hsz, fun i hi i1 i2 => ?_⟩, fun i => ?_, fun i => ?_, ?_, ?_, q0, q1, q2, q3, hge, by simpa [World.setCell] using hgl⟩
  · have hs : ∀ (W : World) (j : Nat) (v : Value), (W.setCell ⟨g, j, none⟩ v).heap[i]? = W.heap[i]? := fun W j v => Below.heap_setCell W _ v i (by show i ≠ g; omega)
    rw [hs, hs, hs, hs, hbl i hi i1]
    exact Below.heap_setCell w _ _ i i2
  · rw [far4 _ (by omega)]
    exact World.cell?_of_block (hbl pb hlt n1)
  · rw [far4g _ (show g ≠ pb by omega)]
    exact (World.frozen?_of_block (hbl pb hlt n1)).trans (World.frozen?_setCell ..)
  · rw [far4 _ (by omega)]
    exact g1
  · rw [far4g _ (show g ≠ P1 by omega)]
    exact g2

theorem mid_new {w W2 : World} {pb P1 : Nat} {t4 : Int} {t : T} (n1 : pb ≠ P1) (hlt : pb < w.heap.size) (hP : P1 < w.heap.size) (hsz : w.heap.size ≤ W2.heap.size)
    (hos : W2.os = w.os) (htape : W2.tape = w.tape) (hout : W2.output = w.output)
    (hbl : ∀ i, i < w.heap.size → i ≠ P1 → W2.heap[i]? = (w.setCell ⟨pb, 4, none⟩ (.int .i64 t4)).heap[i]?) (g1 : W2.cell? ⟨P1, 0, none⟩ = some (.int .i64 (t.e : Int))) (g2 : W2.frozen? ⟨P1, 0, none⟩ = false) (ty : TypeId) :
    Mid w (W2.alloc (.cells #[.int .i64 t.k, .int .i64 (t.q : Int), .int .i64 (t.e : Int), .string t.v] ty)) pb P1 W2.heap.size t4 t := by
  have ha : ∀ i, i < w.heap.size → (W2.alloc (.cells #[.int .i64 t.k, .int .i64 (t.q : Int), .int .i64 (t.e : Int), .string t.v] ty)).heap[i]? = W2.heap[i]? := fun i hi => Below.heap_alloc _ _ _ (by omega)
  refine ⟨⟨hos, htape, hout, by simp; omega, fun i hi i1 i2 => ?_⟩, fun i => ?_, fun i => ?_, ?_, ?_, (World.cell?_alloc_at _ _ _ _ rfl).trans rfl, (World.cell?_alloc_at _ _ _ _ rfl).trans rfl, (World.cell?_alloc_at _ _ _ _ rfl).trans rfl, (World.cell?_alloc_at _ _ _ _ rfl).trans rfl, hsz, by simp⟩
  · rw [ha i hi, hbl i hi i1]
    exact Below.heap_setCell w _ _ i i2
  · exact World.cell?_of_block ((ha pb hlt).trans (hbl pb hlt n1))
  · exact (World.frozen?_of_block ((ha pb hlt).trans (hbl pb hlt n1))).trans (World.frozen?_setCell ..)
  · exact (World.cell?_of_block (ha P1 hP)).trans g1
  · exact (World.frozen?_of_block (ha P1 hP)).trans g2

/-- The closure's words, where only its place and the parser have turned. -/
theorem Clo.turn {w W : World} {pb sb b cap : Nat} {s : ByteArray} {P1 P2 p e : Nat} (h : Clo w sb b cap s P1 P2 p) (n2 : pb ≠ sb) (n3 : pb ≠ b) (n4 : pb ≠ P2) (hT : Turn P1 pb w W) (h1 : W.cell? ⟨P1, 0, none⟩ = some (.int .i64 (e : Int))) (h2 : W.frozen? ⟨P1, 0, none⟩ = false) : Clo W sb b cap s P1 P2 e := by
  have hs := h.src
  have k : ∀ {B : Nat} (i : Nat), B < w.heap.size → B ≠ P1 → B ≠ pb → W.cell? ⟨B, i, none⟩ = w.cell? ⟨B, i, none⟩ := fun i hB e1 e2 => hT.cell (p := ⟨_, i, none⟩) hB e1 e2
  exact ⟨⟨(k 0 hs.lts (Ne.symm h.ne1) (Ne.symm n2)).trans hs.head, fun j hj => (k j hs.ltb (Ne.symm h.ne2) (Ne.symm n3)).trans (hs.cells j hj), hs.cap, Nat.lt_of_lt_of_le hs.lts hT.size, Nat.lt_of_lt_of_le hs.ltb hT.size, hs.size, hs.ascii⟩, h1, h2,
    (k 0 h.lt2 (Ne.symm h.ne3) (Ne.symm n4)).trans h.at_, Nat.lt_of_lt_of_le h.lt1 hT.size, Nat.lt_of_lt_of_le h.lt2 hT.size, h.ne1, h.ne2, h.ne3⟩

theorem set5678 {w : World} {B : Nat} {u5 u6 u7 u8 : Value} (h5 : w.cell? ⟨B, 5, none⟩ = some u5) (h6 : w.cell? ⟨B, 6, none⟩ = some u6) (h7 : w.cell? ⟨B, 7, none⟩ = some u7) (h8 : w.cell? ⟨B, 8, none⟩ = some u8) (v5 v6 v7 v8 : Value) :
    ((((w.setCell ⟨B, 5, none⟩ v5).setCell ⟨B, 6, none⟩ v6).setCell ⟨B, 7, none⟩ v7).setCell ⟨B, 8, none⟩ v8).cell? ⟨B, 5, none⟩ = some v5 ∧
    ((((w.setCell ⟨B, 5, none⟩ v5).setCell ⟨B, 6, none⟩ v6).setCell ⟨B, 7, none⟩ v7).setCell ⟨B, 8, none⟩ v8).cell? ⟨B, 6, none⟩ = some v6 ∧
    ((((w.setCell ⟨B, 5, none⟩ v5).setCell ⟨B, 6, none⟩ v6).setCell ⟨B, 7, none⟩ v7).setCell ⟨B, 8, none⟩ v8).cell? ⟨B, 7, none⟩ = some v7 ∧
    ((((w.setCell ⟨B, 5, none⟩ v5).setCell ⟨B, 6, none⟩ v6).setCell ⟨B, 7, none⟩ v7).setCell ⟨B, 8, none⟩ v8).cell? ⟨B, 8, none⟩ = some v8 := by
  have a6 : (w.setCell ⟨B, 5, none⟩ v5).cell? ⟨B, 6, none⟩ = some u6 := by rw [World.cell?_setCell_other _ _ _ _ (by simp)]; exact h6
  have a7 : ((w.setCell ⟨B, 5, none⟩ v5).setCell ⟨B, 6, none⟩ v6).cell? ⟨B, 7, none⟩ = some u7 := by rw [World.cell?_setCell_other _ _ _ _ (by simp), World.cell?_setCell_other _ _ _ _ (by simp)]; exact h7
  have a8 : (((w.setCell ⟨B, 5, none⟩ v5).setCell ⟨B, 6, none⟩ v6).setCell ⟨B, 7, none⟩ v7).cell? ⟨B, 8, none⟩ = some u8 := by rw [World.cell?_setCell_other _ _ _ _ (by simp), World.cell?_setCell_other _ _ _ _ (by simp), World.cell?_setCell_other _ _ _ _ (by simp)]; exact h8
  refine ⟨?_, ?_, ?_, World.cell?_setCell_same _ _ _ a8⟩
  · rw [World.cell?_setCell_other _ _ _ _ (by simp), World.cell?_setCell_other _ _ _ _ (by simp), World.cell?_setCell_other _ _ _ _ (by simp)]; exact World.cell?_setCell_same _ _ _ h5
  · rw [World.cell?_setCell_other _ _ _ _ (by simp), World.cell?_setCell_other _ _ _ _ (by simp)]; exact World.cell?_setCell_same _ _ _ a6
  · rw [World.cell?_setCell_other _ _ _ _ (by simp)]; exact World.cell?_setCell_same _ _ _ a7

theorem prs_next {w wx : World} {pb sb b cap g : Nat} {s : ByteArray} {P1 P2 : Nat} {pe : Int} {t t' : T} (h : Prs w pb sb b cap s P1 P2 pe t) (hm : Mid w wx pb P1 g (t.e : Int) t') :
    Prs ((((wx.setCell ⟨pb, 5, none⟩ (.int .i64 t'.k)).setCell ⟨pb, 6, none⟩ (.int .i64 (t'.q : Int))).setCell ⟨pb, 7, none⟩ (.int .i64 (t'.e : Int))).setCell ⟨pb, 8, none⟩ (.string t'.v)) pb sb b cap s P1 P2 (t.e : Int) t' ∧
    Turn P1 pb w ((((wx.setCell ⟨pb, 5, none⟩ (.int .i64 t'.k)).setCell ⟨pb, 6, none⟩ (.int .i64 (t'.q : Int))).setCell ⟨pb, 7, none⟩ (.int .i64 (t'.e : Int))).setCell ⟨pb, 8, none⟩ (.string t'.v)) := by
  have hT : Turn P1 pb w ((((wx.setCell ⟨pb, 5, none⟩ (.int .i64 t'.k)).setCell ⟨pb, 6, none⟩ (.int .i64 (t'.q : Int))).setCell ⟨pb, 7, none⟩ (.int .i64 (t'.e : Int))).setCell ⟨pb, 8, none⟩ (.string t'.v)) :=
    (((hm.turn.setCell (.inr (.inl rfl)) _).setCell (.inr (.inl rfl)) _).setCell (.inr (.inl rfl)) _).setCell (.inr (.inl rfl)) _
  have hc : ∀ i : Nat, i ≠ 4 → wx.cell? ⟨pb, i, none⟩ = w.cell? ⟨pb, i, none⟩ := fun i hi => (hm.cell i).trans (World.cell?_setCell_other _ _ _ _ (by intro e; injection e; omega))
  have h4 : wx.cell? ⟨pb, 4, none⟩ = some (.int .i64 (t.e : Int)) := (hm.cell 4).trans (World.cell?_setCell_same _ _ _ h.c4)
  obtain ⟨q5, q6, q7, q8⟩ := set5678 ((hc 5 (by omega)).trans h.c5) ((hc 6 (by omega)).trans h.c6) ((hc 7 (by omega)).trans h.c7) ((hc 8 (by omega)).trans h.c8) (.int .i64 t'.k) (.int .i64 (t'.q : Int)) (.int .i64 (t'.e : Int)) (.string t'.v)
  have hlow : ∀ i : Nat, i < 5 → ((((wx.setCell ⟨pb, 5, none⟩ (.int .i64 t'.k)).setCell ⟨pb, 6, none⟩ (.int .i64 (t'.q : Int))).setCell ⟨pb, 7, none⟩ (.int .i64 (t'.e : Int))).setCell ⟨pb, 8, none⟩ (.string t'.v)).cell? ⟨pb, i, none⟩ = wx.cell? ⟨pb, i, none⟩ := fun i hi => by
    rw [World.cell?_setCell_other _ _ _ _ (by intro e; injection e; omega), World.cell?_setCell_other _ _ _ _ (by intro e; injection e; omega), World.cell?_setCell_other _ _ _ _ (by intro e; injection e; omega), World.cell?_setCell_other _ _ _ _ (by intro e; injection e; omega)]
  have hP1 : ∀ i : Nat, ((((wx.setCell ⟨pb, 5, none⟩ (.int .i64 t'.k)).setCell ⟨pb, 6, none⟩ (.int .i64 (t'.q : Int))).setCell ⟨pb, 7, none⟩ (.int .i64 (t'.e : Int))).setCell ⟨pb, 8, none⟩ (.string t'.v)).cell? ⟨P1, i, none⟩ = wx.cell? ⟨P1, i, none⟩ := fun i => by
    rw [setCell_far _ _ h.n1, setCell_far _ _ h.n1, setCell_far _ _ h.n1, setCell_far _ _ h.n1]
  refine ⟨⟨(hlow 0 (by omega)).trans ((hc 0 (by omega)).trans h.c0), (hlow 1 (by omega)).trans ((hc 1 (by omega)).trans h.c1), (hlow 2 (by omega)).trans ((hc 2 (by omega)).trans h.c2), (hlow 3 (by omega)).trans ((hc 3 (by omega)).trans h.c3), (hlow 4 (by omega)).trans h4, q5, q6, q7, q8,
    fun i => ?_, h.clo.turn h.n2 h.n3 h.n4 hT ((hP1 0).trans hm.prev) ?_, Nat.lt_of_lt_of_le h.lt hT.size, h.n1, h.n2, h.n3, h.n4⟩, hT⟩
  · simp only [World.frozen?_setCell]
    exact (hm.froz i).trans (h.z i)
  · simp only [World.frozen?_setCell]
    exact hm.free

set_option linter.unusedSimpArgs false in
set_option maxHeartbeats 2000000 in
set_option maxRecDepth 100000 in
theorem advance_any {w : World} {pb sb b cap : Nat} {s : ByteArray} {P1 P2 : Nat} {pe : Int} {t : T} (h : Prs w pb sb b cap s P1 P2 pe t) (he : 0 < t.e) (k : Int) (q e : Nat) (v : ByteArray) (ht : Tok s t.e k q e v) :
    Calls Tryz.prog 87 #[.pointer (some ⟨pb, 0, none⟩)] w fun r w' => r = .returned .nilIface ∧ Prs w' pb sb b cap s P1 P2 (t.e : Int) ⟨k, q, e, v⟩ ∧ Turn P1 pb w w' := by
  have H := Lib.hid h
  have HT := Lib.hid ht
  have g0 := h.c0
  have g4 := h.c4
  have g7 := h.c7
  have z4 := h.z 4
  have hlt := h.lt
  have n1 := h.n1
  have HC := Lib.hid (h.clo.setFar ⟨pb, 4, none⟩ (.int .i64 (t.e : Int)) ⟨h.n2, h.n3, h.n1, h.n4⟩)
  have HK : Hid (∀ (W' w2 : World) (u0 u4 : Value), W'.grownBy w2 (some P1) → w.heap.size ≤ W'.heap.size → W'.cell? ⟨pb, 0, none⟩ = some u0 → W'.cell? ⟨pb, 4, none⟩ = some u4 → w2.cell? ⟨pb, 0, none⟩ = some u0 ∧ w2.cell? ⟨pb, 4, none⟩ = some u4) := Lib.hid (fun W' w2 u0 u4 hg hs h1 h2 =>
    ⟨(hg.cell_far ⟨pb, 0, none⟩ (by show pb < _; omega) (by intro e; injection e with e; exact n1 e)).trans h1, (hg.cell_far ⟨pb, 4, none⟩ (by show pb < _; omega) (by intro e; injection e with e; exact n1 e)).trans h2⟩)
  have HKA : Hid (∀ (W' : World) (u0 u4 : Value) (o : Obj), w.heap.size ≤ W'.heap.size → (W'.cell? ⟨pb, 0, none⟩ = some u0 ∧ W'.cell? ⟨pb, 4, none⟩ = some u4) → ((W'.alloc o).cell? ⟨pb, 0, none⟩ = some u0 ∧ (W'.alloc o).cell? ⟨pb, 4, none⟩ = some u4)) := Lib.hid (fun W' u0 u4 o hs h1 =>
    ⟨(World.cell?_alloc_past _ _ _ (by show pb < _; omega)).trans h1.1, (World.cell?_alloc_past _ _ _ (by show pb < _; omega)).trans h1.2⟩)
  have HKS : Hid (∀ (W' : World) (u0 u4 : Value) (a : Addr) (v : Value), w.heap.size ≤ a.block → (W'.cell? ⟨pb, 0, none⟩ = some u0 ∧ W'.cell? ⟨pb, 4, none⟩ = some u4) → ((W'.setCell a v).cell? ⟨pb, 0, none⟩ = some u0 ∧ (W'.setCell a v).cell? ⟨pb, 4, none⟩ = some u4)) := Lib.hid (fun W' u0 u4 a v ha h1 =>
    ⟨(setCell_far W' v (by show a.block ≠ pb; omega)).trans h1.1, (setCell_far W' v (by show a.block ≠ pb; omega)).trans h1.2⟩)
  have HP1 := Lib.hid h.clo.lt1
  clear h ht
  go_enter Tryz.func87, Tryz.ntmps87
  go_upto_region 2 with (fail)
  go_cut [3, 4] (fun x y wx => ∃ g, x = .pointer (some ⟨g, 0, none⟩) ∧ y = .nilIface ∧ Hid (Mid w wx pb P1 g (t.e : Int) ⟨k, q, e, v⟩))
  case first =>
    have s0 : (w.setCell ⟨pb, 4, none⟩ (.int .i64 (t.e : Int))).cell? ⟨pb, 0, none⟩ = some (.func (.func 133) #[] #[.pointer (some ⟨P1, 0, none⟩), .pointer (some ⟨P2, 0, none⟩)]) := by
      rw [World.cell?_setCell_other _ _ _ _ (by simp)]; exact g0
    have s4 : (w.setCell ⟨pb, 4, none⟩ (.int .i64 (t.e : Int))).cell? ⟨pb, 4, none⟩ = some (.int .i64 (t.e : Int)) := World.cell?_setCell_same _ _ _ g4
    have a0 : ∀ o, ((w.setCell ⟨pb, 4, none⟩ (.int .i64 (t.e : Int))).alloc o).cell? ⟨pb, 0, none⟩ = some (.func (.func 133) #[] #[.pointer (some ⟨P1, 0, none⟩), .pointer (some ⟨P2, 0, none⟩)]) := fun o => (World.cell?_alloc_past _ _ _ (by simpa [World.setCell] using hlt)).trans s0
    have a4 : ∀ o, ((w.setCell ⟨pb, 4, none⟩ (.int .i64 (t.e : Int))).alloc o).cell? ⟨pb, 4, none⟩ = some (.int .i64 (t.e : Int)) := fun o => (World.cell?_alloc_past _ _ _ (by simpa [World.setCell] using hlt)).trans s4
    have S0 : Hid ((w.setCell ⟨pb, 4, none⟩ (.int .i64 (t.e : Int))).drew.cell? ⟨pb, 0, none⟩ = some (.func (.func 133) #[] #[.pointer (some ⟨P1, 0, none⟩), .pointer (some ⟨P2, 0, none⟩)]) ∧ (w.setCell ⟨pb, 4, none⟩ (.int .i64 (t.e : Int))).drew.cell? ⟨pb, 4, none⟩ = some (.int .i64 (t.e : Int))) := Lib.hid (And.intro s0 s4)
    have A0 : Hid (∀ o, ((w.setCell ⟨pb, 4, none⟩ (.int .i64 (t.e : Int))).alloc o).drew.cell? ⟨pb, 0, none⟩ = some (.func (.func 133) #[] #[.pointer (some ⟨P1, 0, none⟩), .pointer (some ⟨P2, 0, none⟩)]) ∧ ((w.setCell ⟨pb, 4, none⟩ (.int .i64 (t.e : Int))).alloc o).drew.cell? ⟨pb, 4, none⟩ = some (.int .i64 (t.e : Int))) := Lib.hid (fun o => And.intro (a0 o) (a4 o))
    clear s0 s4 a0 a4
    go_region_held3 (fun w' => w'.cell? ⟨pb, 0, none⟩ = some (.func (.func 133) #[] #[.pointer (some ⟨P1, 0, none⟩), .pointer (some ⟨P2, 0, none⟩)]) ∧ w'.cell? ⟨pb, 4, none⟩ = some (.int .i64 (t.e : Int))) (first | with_reducible exact S0.out | with_reducible exact A0.out _ | with_reducible exact HK.out _ _ _ _ hg (by simp only [World.size_alloc, World.size_drew, World.size_setCell]; omega) S0.out.1 S0.out.2 | with_reducible exact HK.out _ _ _ _ hg (by simp only [World.size_alloc, World.size_drew, World.size_setCell]; omega) (A0.out _).1 (A0.out _).2 | with_reducible exact HKA.out _ _ _ _ hsz (HK.out _ _ _ _ hg (by simp only [World.size_alloc, World.size_drew, World.size_setCell]; omega) S0.out.1 S0.out.2) | with_reducible exact HKS.out _ _ _ _ _ (by simp only [World.size_alloc, World.size_drew, World.size_setCell]; omega) (HKS.out _ _ _ _ _ (by simp only [World.size_alloc, World.size_drew, World.size_setCell]; omega) (HKS.out _ _ _ _ _ (by simp only [World.size_alloc, World.size_drew, World.size_setCell]; omega) (HKS.out _ _ _ _ _ (by simp only [World.size_alloc, World.size_drew, World.size_setCell]; omega) (HKA.out _ _ _ _ hsz (HK.out _ _ _ _ hg (by simp only [World.size_alloc, World.size_drew, World.size_setCell]; omega) S0.out.1 S0.out.2))))) | with_reducible exact HKS.out _ _ _ _ _ (Nat.le_refl _) (HKS.out _ _ _ _ _ (Nat.le_refl _) (HKS.out _ _ _ _ _ (Nat.le_refl _) (HKS.out _ _ _ _ _ (Nat.le_refl _) (HK.out _ _ _ _ hg (by simp only [World.size_alloc, World.size_drew, World.size_setCell]; omega) (A0.out _).1 (A0.out _).2)))))
      (first | (go_at_call 133; refine (lex_at HC.out.drew _ he k q e v HT.out).mono ?_; rintro r w2 ⟨rfl, hg, g1, g2⟩; have hsz : w.heap.size ≤ w2.heap.size := by (have := hg.size; simp [World.setCell] at this; omega)) | (go_at_call 133; refine (lex_at (HC.out.alloc _).drew _ he k q e v HT.out).mono ?_; rintro r w2 ⟨rfl, hg, g1, g2⟩; obtain ⟨⟨y0, y1, y2, y3⟩, ⟨x0, x1, x2, x3⟩, hsz⟩ := kept4g hg (by simpa [World.setCell] using HC.out.lt1); simp only [World.size_setCell] at y0 y1 y2 y3 x0 x1 x2 x3 hsz))
    · go_wp2_with fail
      go_meet
      case rel => exact ⟨_, rfl, rfl, Lib.hid (mid_new (t := ⟨k, q, e, v⟩) n1 hlt HP1.out hsz hg.os hg.tape hg.output (fun i hi i1 => hg.block i (by simpa [World.setCell] using hi) (by intro e; injection e; omega)) g1 g2 55)⟩
    · go_wp2_with fail
      go_meet
      case rel => exact ⟨_, rfl, rfl, Lib.hid (mid_of (t := ⟨k, q, e, v⟩) n1 hlt HP1.out (Nat.le_refl _) hsz hg.os hg.tape hg.output (Nat.le_of_lt hsz) (fun i hi i1 => (hg.block i (by simp [World.setCell]; omega) (by intro e; injection e; omega)).trans (Below.heap_alloc _ _ _ (by simpa [World.setCell] using hi))) g1 g2 y0 y1 y2 y3)⟩
  case rest =>
    obtain ⟨g, rfl, rfl, hm⟩ := hcut
    clear HC HK HKA HKS HP1
    have hn := Lib.hid (prs_next H.out hm.out)
    have k0 := hm.out.t0
    have k1 := hm.out.t1
    have k2 := hm.out.t2
    have k3 := hm.out.t3
    have p5 := (hm.out.cell 5).trans ((World.cell?_setCell_other _ _ _ _ (by simp)).trans H.out.c5)
    have p6 := (hm.out.cell 6).trans ((World.cell?_setCell_other _ _ _ _ (by simp)).trans H.out.c6)
    have p7 := (hm.out.cell 7).trans ((World.cell?_setCell_other _ _ _ _ (by simp)).trans H.out.c7)
    have p8 := (hm.out.cell 8).trans ((World.cell?_setCell_other _ _ _ _ (by simp)).trans H.out.c8)
    have f5 := (hm.out.froz 5).trans (H.out.z 5)
    have f6 := (hm.out.froz 6).trans (H.out.z 6)
    have f7 := (hm.out.froz 7).trans (H.out.z 7)
    have f8 := (hm.out.froz 8).trans (H.out.z 8)
    clear g0 g4 g7 z4
    go_wp2_with fail
    go_ret
    exact ⟨rfl, hn.out.1, hn.out.2⟩
end Go.Proofs.YtbjfahhfcdnkaaaGreatDoor
