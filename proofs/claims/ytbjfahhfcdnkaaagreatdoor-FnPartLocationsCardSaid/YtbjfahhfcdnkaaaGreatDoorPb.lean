/- The parser's steps over a name: skip, expect, parseName, parseNamed. -/
import Derived.Test.YtbjfahhfcdnkaaaGreatDoorPa
namespace Go.Proofs.YtbjfahhfcdnkaaaGreatDoor
open Go.RowKit Go.Proofs.YtbjfahhfcdnkaaaGreatDoorW.PrintWords Go.Proofs.YtbjfahhfcdnkaaaGreatDoorW.PrintMore

theorem Turn.frozen {P1 pb : Nat} {a b : World} (h : Turn P1 pb a b) {p : Addr} (hp : p.block < a.heap.size) (h1 : p.block ≠ P1) (h2 : p.block ≠ pb) : b.frozen? p = a.frozen? p := World.frozen?_of_block (h.block _ hp h1 h2)

theorem Prs.blocks {w w' : World} {pb sb b cap : Nat} {s : ByteArray} {P1 P2 : Nat} {pe : Int} {t : T} (h : Prs w pb sb b cap s P1 P2 pe t) (hs : w.heap.size ≤ w'.heap.size) (hb : ∀ B, B = pb ∨ B = sb ∨ B = b ∨ B = P1 ∨ B = P2 → w'.heap[B]? = w.heap[B]?) : Prs w' pb sb b cap s P1 P2 pe t := by
  have hc : ∀ i : Nat, w'.cell? ⟨pb, i, none⟩ = w.cell? ⟨pb, i, none⟩ := fun i => World.cell?_of_block (hb pb (.inl rfl))
  exact ⟨(hc 0).trans h.c0, (hc 1).trans h.c1, (hc 2).trans h.c2, (hc 3).trans h.c3, (hc 4).trans h.c4, (hc 5).trans h.c5, (hc 6).trans h.c6, (hc 7).trans h.c7, (hc 8).trans h.c8,
    fun i => (World.frozen?_of_block (hb pb (.inl rfl))).trans (h.z i), h.clo.keep hs (fun B hB => hb B (.inr hB)), Nat.lt_of_lt_of_le h.lt hs, h.n1, h.n2, h.n3, h.n4⟩

/-- The parser's blocks lie below N. -/
theorem Prs.lts {w : World} {pb sb b cap : Nat} {s : ByteArray} {P1 P2 : Nat} {pe : Int} {t : T} (h : Prs w pb sb b cap s P1 P2 pe t) {B : Nat} (hB : B = pb ∨ B = sb ∨ B = b ∨ B = P1 ∨ B = P2) : B < w.heap.size := by
  rcases hB with rfl | hB
  · exact h.lt
  · exact h.clo.lts hB

theorem Prs.setNew {w0 w : World} {pb sb b cap : Nat} {s : ByteArray} {P1 P2 : Nat} {pe pe0 : Int} {t t0 : T} (h : Prs w pb sb b cap s P1 P2 pe t) (h0 : Prs w0 pb sb b cap s P1 P2 pe0 t0) (a : Addr) (v : Value) (ha : w0.heap.size ≤ a.block) : Prs (w.setCell a v) pb sb b cap s P1 P2 pe t :=
  h.blocks (by simp [World.setCell]) (fun B hB => Below.heap_setCell _ _ _ _ (by have := h0.lts hB; omega))

theorem Prs.alloc {w : World} {pb sb b cap : Nat} {s : ByteArray} {P1 P2 : Nat} {pe : Int} {t : T} (h : Prs w pb sb b cap s P1 P2 pe t) (o : Obj) : Prs (w.alloc o) pb sb b cap s P1 P2 pe t := h.keep ((Below.refl _ _).alloc (Nat.le_refl _) o)
theorem Prs.drew {w : World} {pb sb b cap : Nat} {s : ByteArray} {P1 P2 : Nat} {pe : Int} {t : T} (h : Prs w pb sb b cap s P1 P2 pe t) : Prs w.drew pb sb b cap s P1 P2 pe t := h.keep (Below.drew (Below.refl _ _))

set_option maxHeartbeats 1000000 in
set_option maxRecDepth 100000 in
theorem skip_no {w : World} {pb sb b cap : Nat} {s : ByteArray} {P1 P2 : Nat} {pe : Int} {t : T} (h : Prs w pb sb b cap s P1 P2 pe t) (K : Int) (hk : t.k ≠ K) :
    Calls Tryz.prog 88 #[.pointer (some ⟨pb, 0, none⟩), .int .i64 K] w fun r w' => r = .returned (.tuple #[.bool false, .nilIface]) ∧ w = w' := by
  have g5 := h.c5
  have e1 : (t.k == K) = false := beq_eq_false_iff_ne.2 hk
  clear h hk
  go_enter Tryz.func88, Tryz.ntmps88
  go_wp2_with fail
  go_ret2
  exact ⟨rfl, rfl⟩

set_option maxHeartbeats 1000000 in
set_option maxRecDepth 100000 in
theorem skip_yes {w : World} {pb sb b cap : Nat} {s : ByteArray} {P1 P2 : Nat} {pe : Int} {t : T} (h : Prs w pb sb b cap s P1 P2 pe t) (he : 0 < t.e) (k : Int) (q e : Nat) (v : ByteArray) (ht : Tok s t.e k q e v) :
    Calls Tryz.prog 88 #[.pointer (some ⟨pb, 0, none⟩), .int .i64 t.k] w fun r w' => r = .returned (.tuple #[.bool true, .nilIface]) ∧ Prs w' pb sb b cap s P1 P2 (t.e : Int) ⟨k, q, e, v⟩ ∧ Turn P1 pb w w' := by
  have g5 := h.c5
  have H := Lib.hid (advance_any h he k q e v ht)
  have e1 : (t.k == t.k) = true := beq_self_eq_true _
  clear h ht
  go_enter Tryz.func88, Tryz.ntmps88
  go_wp2_with fail
  refine H.out.mono ?_
  rintro r w1 ⟨rfl, hp, hT⟩
  go_wp2_with fail
  go_ret2
  exact ⟨rfl, hp, hT⟩

set_option maxHeartbeats 1000000 in
set_option maxRecDepth 100000 in
theorem newLoc_any {w : World} {g : Nat} {a b : Int} {sb : Nat} (h0 : w.cell? ⟨g, 0, none⟩ = some (.int .i64 a)) (h1 : w.cell? ⟨g, 1, none⟩ = some (.int .i64 b)) (h2 : w.cell? ⟨g, 2, none⟩ = some (.pointer (some ⟨sb, 0, none⟩))) :
    Calls Tryz.prog 137 #[.pointer (some ⟨g, 0, none⟩)] w fun r w' => r = .returned (.pointer (some ⟨w.heap.size, 0, none⟩)) ∧ (w.alloc (.cells #[.int .i64 a, .int .i64 b, .pointer (some ⟨sb, 0, none⟩)] 146)).drew = w' := by
  go_enter Tryz.func137, Tryz.ntmps137
  go_wp2_with fail
  go_region_held3 (fun w' => w'.cell? ⟨g, 0, none⟩ = some (.int .i64 a) ∧ w'.cell? ⟨g, 1, none⟩ = some (.int .i64 b) ∧ w'.cell? ⟨g, 2, none⟩ = some (.pointer (some ⟨sb, 0, none⟩))) (first | exact ⟨h0, h1, h2⟩ | go_keep) (fail)
  all_goals
    go_wp2_with fail
    go_ret
    exact ⟨rfl, rfl⟩

theorem fresh3 (w : World) (c0 c1 c2 : Value) (t : TypeId) : (w.alloc (.cells #[c0, c1, c2] t)).drew.cell? ⟨w.heap.size, 0, none⟩ = some c0 ∧ (w.alloc (.cells #[c0, c1, c2] t)).drew.cell? ⟨w.heap.size, 1, none⟩ = some c1 ∧ (w.alloc (.cells #[c0, c1, c2] t)).drew.cell? ⟨w.heap.size, 2, none⟩ = some c2 :=
  ⟨(World.cell?_alloc_at _ _ _ _ rfl).trans rfl, (World.cell?_alloc_at _ _ _ _ rfl).trans rfl, (World.cell?_alloc_at _ _ _ _ rfl).trans rfl⟩

/-- A location lies at block g. -/
def LocAt (w : World) (g : Nat) : Prop := ∃ a b : Int, w.cell? ⟨g, 0, none⟩ = some (.int .i64 a) ∧ w.cell? ⟨g, 1, none⟩ = some (.int .i64 b)

set_option maxHeartbeats 2000000 in
set_option maxRecDepth 100000 in
theorem loc_any {w : World} {pb sb b cap : Nat} {s : ByteArray} {P1 P2 : Nat} {pe : Int} {t : T} (h : Prs w pb sb b cap s P1 P2 pe t) (q : Int) :
    Calls Tryz.prog 79 #[.pointer (some ⟨pb, 0, none⟩), .int .i64 q] w fun r w' => ∃ g, r = .returned (.pointer (some ⟨g, 0, none⟩)) ∧ w.heap.size ≤ g ∧ g < w'.heap.size ∧ LocAt w' g ∧ Below w.heap.size w w' := by
  have g1 := h.c1
  have g2 := h.c2
  have g3 := h.c3
  have g4 := h.c4
  have hlt := h.lt
  have n1 := World.new_ne w ⟨pb, 1, none⟩ g1
  have n4 := World.new_ne w ⟨pb, 4, none⟩ g4
  clear h
  go_enter Tryz.func79, Tryz.ntmps79
  go_wp2_with fail
  go_region_held3 (fun w' => w'.cell? ⟨pb, 1, none⟩ = some (.pointer (some ⟨sb, 0, none⟩)) ∧ w'.cell? ⟨pb, 4, none⟩ = some (.int .i64 pe)) (first | exact ⟨g1, g4⟩ | go_keep)
    (first | (go_at_call 137; refine (newLoc_any (a := q) (b := pe) (sb := sb) (fresh3 w _ _ _ 146).1 (fresh3 w _ _ _ 146).2.1 (fresh3 w _ _ _ 146).2.2).mono ?_; rintro r w2 ⟨rfl, rfl⟩))
  all_goals
    go_wp2_with fail
    go_ret
    have hc : ∀ i : Nat, ((w.alloc (.cells #[.int .i64 q, .int .i64 pe, .pointer (some ⟨sb, 0, none⟩)] 146)).alloc (.cells #[.int .i64 q, .int .i64 pe, .pointer (some ⟨sb, 0, none⟩)] 146)).cell? ⟨w.heap.size + 1, i, none⟩ = (#[.int .i64 q, .int .i64 pe, .pointer (some ⟨sb, 0, none⟩)] : Array Value)[i]? := fun i => World.cell?_alloc_at _ _ _ _ (by simp)
    exact ⟨_, rfl, by simp, by simp, ⟨q, pe, hc 0, hc 1⟩, Below.drew (Below.drew (((Below.refl _ _).alloc (Nat.le_refl _) _).alloc (by simp) _))⟩

set_option maxHeartbeats 1000000 in
set_option maxRecDepth 100000 in
theorem newName_any {w : World} {g : Nat} {u : Value} (h0 : w.cell? ⟨g, 0, none⟩ = some u) (hz : w.frozen? ⟨g, 0, none⟩ = false) :
    Calls Tryz.prog 140 #[.pointer (some ⟨g, 0, none⟩)] w fun r w' => r = .returned (.pointer (some ⟨g, 0, none⟩)) ∧ w.setCell ⟨g, 0, none⟩ (.string ⟨#[78, 97, 109, 101]⟩) = w' := by
  go_enter Tryz.func140, Tryz.ntmps140
  go_wp2_with fail
  go_ret
  exact ⟨rfl, rfl⟩
set_option maxHeartbeats 1000000 in
set_option maxRecDepth 100000 in
theorem newNamed_any {w : World} {g : Nat} {u : Value} (h0 : w.cell? ⟨g, 0, none⟩ = some u) (hz : w.frozen? ⟨g, 0, none⟩ = false) :
    Calls Tryz.prog 139 #[.pointer (some ⟨g, 0, none⟩)] w fun r w' => r = .returned (.pointer (some ⟨g, 0, none⟩)) ∧ w.setCell ⟨g, 0, none⟩ (.string ⟨#[78, 97, 109, 101, 100]⟩) = w' := by
  go_enter Tryz.func139, Tryz.ntmps139
  go_wp2_with fail
  go_ret
  exact ⟨rfl, rfl⟩

/-- Two blocks of four cells, kept while only the parser and the closure's place turn. -/
theorem kept2 {w w2 : World} {P1 pb : Nat} {z0 z1 z2 z3 k0 k1 k2 k3 : Value} {ty : TypeId} (hT : Turn P1 pb ((w.alloc (.cells #[z0, z1, z2, z3] ty)).alloc (.cells #[k0, k1, k2, k3] ty)).drew w2) (hP : P1 < w.heap.size) (hp : pb < w.heap.size) :
    (w2.cell? ⟨w.heap.size + 1, 0, none⟩ = some k0 ∧ w2.cell? ⟨w.heap.size + 1, 1, none⟩ = some k1 ∧ w2.cell? ⟨w.heap.size + 1, 2, none⟩ = some k2 ∧ w2.cell? ⟨w.heap.size + 1, 3, none⟩ = some k3) ∧
    (w2.cell? ⟨w.heap.size, 0, none⟩ = some z0 ∧ w2.cell? ⟨w.heap.size, 1, none⟩ = some z1 ∧ w2.cell? ⟨w.heap.size, 2, none⟩ = some z2 ∧ w2.cell? ⟨w.heap.size, 3, none⟩ = some z3) ∧
    (w2.frozen? ⟨w.heap.size, 0, none⟩ = false ∧ w2.frozen? ⟨w.heap.size, 1, none⟩ = false ∧ w2.frozen? ⟨w.heap.size, 2, none⟩ = false ∧ w2.frozen? ⟨w.heap.size, 3, none⟩ = false) ∧ w.heap.size + 1 < w2.heap.size := by
  have hs := hT.size
  simp only [World.size_drew, World.size_alloc] at hs
  have hb : ∀ B, w.heap.size ≤ B → B < w.heap.size + 2 → w2.heap[B]? = ((w.alloc (.cells #[z0, z1, z2, z3] ty)).alloc (.cells #[k0, k1, k2, k3] ty)).heap[B]? := fun B h1 h2 => hT.block B (by simp; omega) (by omega) (by omega)
  have c1 : ∀ i : Nat, w2.cell? ⟨w.heap.size + 1, i, none⟩ = (#[k0, k1, k2, k3] : Array Value)[i]? := fun i =>
    (World.cell?_of_block (hb (w.heap.size + 1) (by omega) (by omega))).trans (World.cell?_alloc_at _ _ _ _ (by simp))
  have hz : w.heap.size < (w.alloc (.cells #[z0, z1, z2, z3] ty)).heap.size := by simp
  have hb0 : w2.heap[w.heap.size]? = (w.alloc (.cells #[z0, z1, z2, z3] ty)).heap[w.heap.size]? := (hb _ (Nat.le_refl _) (by omega)).trans (Below.heap_alloc _ _ _ hz)
  have c0 : ∀ i : Nat, w2.cell? ⟨w.heap.size, i, none⟩ = (#[z0, z1, z2, z3] : Array Value)[i]? := fun i =>
    (World.cell?_of_block hb0).trans (World.cell?_alloc_at _ _ _ _ rfl)
  have f0 : ∀ i : Nat, w2.frozen? ⟨w.heap.size, i, none⟩ = false := fun i => (World.frozen?_of_block hb0).trans (World.frozen?_alloc_at _ _ _ _ rfl)
  exact ⟨⟨c1 0, c1 1, c1 2, c1 3⟩, ⟨c0 0, c0 1, c0 2, c0 3⟩, ⟨f0 0, f0 1, f0 2, f0 3⟩, by omega⟩

set_option linter.unusedSimpArgs false in
set_option maxHeartbeats 2000000 in
set_option maxRecDepth 100000 in
theorem expect_any {w : World} {pb sb b cap : Nat} {s : ByteArray} {P1 P2 : Nat} {pe : Int} {t : T} (h : Prs w pb sb b cap s P1 P2 pe t) (he : 0 < t.e) (k : Int) (q e : Nat) (v : ByteArray) (ht : Tok s t.e k q e v) :
    Calls Tryz.prog 81 #[.pointer (some ⟨pb, 0, none⟩), .int .i64 t.k] w fun r w' => r = .returned (.tuple #[.agg #[.int .i64 t.k, .int .i64 (t.q : Int), .int .i64 (t.e : Int), .string t.v], .nilIface]) ∧ Prs w' pb sb b cap s P1 P2 (t.e : Int) ⟨k, q, e, v⟩ ∧ Turn P1 pb w w' := by
  have g5 := h.c5
  have g6 := h.c6
  have g7 := h.c7
  have g8 := h.c8
  have hlt := h.lt
  have hP1 := h.clo.lt1
  have H := Lib.hid (fun (W : World) (hb : Below w.heap.size w W) => advance_any (h.keep hb) he k q e v ht)
  have e1 : (t.k == t.k) = true := beq_self_eq_true _
  have H0 := Lib.hid h
  have HB : Hid (∀ o o', Below w.heap.size w ((w.alloc o).alloc o').drew) := Lib.hid (fun o o' => Below.drew (((Below.refl _ _).alloc (Nat.le_refl _) o).alloc (by simp) o'))
  have HX := Lib.hid (fun (W2 : World) (z0 z1 z2 z3 k0 k1 k2 k3 : Value) (ty : TypeId) (hT : Turn P1 pb ((w.alloc (.cells #[z0, z1, z2, z3] ty)).alloc (.cells #[k0, k1, k2, k3] ty)).drew W2) => kept2 hT hP1 hlt)
  have HR : Hid (∀ (z0 z1 z2 z3 k0 k1 k2 k3 : Value) (ty : TypeId), _) := Lib.hid (fun (z0 z1 z2 z3 k0 k1 k2 k3 : Value) (ty : TypeId) => (HX.out _ z0 z1 z2 z3 k0 k1 k2 k3 ty (Turn.refl _ _ _)).1)
  clear h ht
  go_enter Tryz.func81, Tryz.ntmps81
  go_wp2_with fail
  go_region_held3 (fun w' => w'.cell? ⟨w.heap.size + 1, 0, none⟩ = some (.int .i64 t.k) ∧ w'.cell? ⟨w.heap.size + 1, 1, none⟩ = some (.int .i64 (t.q : Int)) ∧ w'.cell? ⟨w.heap.size + 1, 2, none⟩ = some (.int .i64 (t.e : Int)) ∧ w'.cell? ⟨w.heap.size + 1, 3, none⟩ = some (.string t.v))
    (first | with_reducible exact S2 | with_reducible exact HR.out _ _ _ _ _ _ _ _ _ | (rw [far4 _ hne2, far4 _ hne2, far4 _ hne2, far4 _ hne2]; with_reducible exact S2))
    (first | (go_at_call 87; refine (H.out _ (HB.out _ _)).mono ?_; rintro r w2 ⟨rfl, hp2, hT2⟩; obtain ⟨S2, ⟨c0, c1, c2, c3⟩, ⟨z0, z1, z2, z3⟩, hz2⟩ := HX.out _ _ _ _ _ _ _ _ _ _ hT2; have hne2 : w.heap.size ≠ w.heap.size + 1 := Nat.ne_of_lt (Nat.lt_succ_self _)))
  all_goals
    go_wp2_with fail
    obtain ⟨q0, q1, q2, q3⟩ := set4 c0 c1 c2 c3 (.int .i64 t.k) (.int .i64 (t.q : Int)) (.int .i64 (t.e : Int)) (.string t.v)
    refine bodyPost_ret (v := .tuple #[.agg #[.int .i64 t.k, .int .i64 (t.q : Int), .int .i64 (t.e : Int), .string t.v], .nilIface]) (by simp [results, Tryz.results81, go_sem, q0, q1, q2, q3]) rfl ⟨rfl, ?_, ?_⟩
    · exact (((hp2.setNew H0.out _ _ (Nat.le_refl _)).setNew H0.out _ _ (Nat.le_refl _)).setNew H0.out _ _ (Nat.le_refl _)).setNew H0.out _ _ (Nat.le_refl _)
    · exact ((((((Turn.below (HB.out _ _)).trans hT2).setCell (.inr (.inr (Nat.le_refl _))) _).setCell (.inr (.inr (Nat.le_refl _))) _).setCell (.inr (.inr (Nat.le_refl _))) _).setCell (.inr (.inr (Nat.le_refl _))) _)

/-- A name's node lies at block g, its blocks from N on, X not among them. -/
def NameAt (w : World) (N : Nat) (X : Option Nat) (g : Nat) (v : ByteArray) : Prop :=
  ∃ l : Nat, N ≤ g ∧ N ≤ l ∧ g < w.heap.size ∧ l < w.heap.size ∧ some g ≠ X ∧ some l ≠ X ∧ w.cell? ⟨g, 1, none⟩ = some (.pointer (some ⟨l, 0, none⟩)) ∧ w.cell? ⟨g, 2, none⟩ = some (.string v) ∧ LocAt w l

theorem LocAt.of {w w' : World} {l : Nat} (h : LocAt w l) (hb : w'.heap[l]? = w.heap[l]?) : LocAt w' l := by
  obtain ⟨a, b, h0, h1⟩ := h
  exact ⟨a, b, (World.cell?_of_block hb).trans h0, (World.cell?_of_block hb).trans h1⟩

theorem NameAt.keep {w w' : World} {N : Nat} {X X' : Option Nat} {g : Nat} {v : ByteArray} (h : NameAt w N X g v) (hs : w.heap.size ≤ w'.heap.size) (hb : ∀ i, N ≤ i → i < w.heap.size → some i ≠ X → w'.heap[i]? = w.heap[i]?) (hX : ∀ i, i < w.heap.size → some i ≠ X → some i ≠ X') : NameAt w' N X' g v := by
  obtain ⟨l, h1, h2, h3, h4, h5, h6, h7, h8, h9⟩ := h
  have hg := hb g h1 h3 h5
  have hl := hb l h2 h4 h6
  exact ⟨l, h1, h2, by omega, by omega, hX g h3 h5, hX l h4 h6, (World.cell?_of_block hg).trans h7, (World.cell?_of_block hg).trans h8, h9.of hl⟩

set_option linter.unusedSimpArgs false in
set_option maxHeartbeats 2000000 in
set_option maxRecDepth 100000 in
theorem name_any {w : World} {pb sb b cap : Nat} {s : ByteArray} {P1 P2 : Nat} {pe : Int} {t : T} (h : Prs w pb sb b cap s P1 P2 pe t) (hk : t.k = 15) (he : 0 < t.e) (k : Int) (q e : Nat) (v : ByteArray) (ht : Tok s t.e k q e v) :
    Calls Tryz.prog 84 #[.pointer (some ⟨pb, 0, none⟩)] w fun r w' => (∃ g, r = .returned (.tuple #[.pointer (some ⟨g, 0, none⟩), .nilIface]) ∧ NameAt w' w.heap.size none g t.v) ∧ Prs w' pb sb b cap s P1 P2 (t.e : Int) ⟨k, q, e, v⟩ ∧ Turn P1 pb w w' := by
  have H := Lib.hid (expect_any h he k q e v ht)
  rw [hk] at H
  clear h ht hk
  go_enter Tryz.func84, Tryz.ntmps84
  go_wp2_with fail
  refine H.out.mono ?_
  rintro r w1 ⟨rfl, hp, hT⟩
  have HPW : Hid (∀ o, Prs (w1.alloc o).drew pb sb b cap s P1 P2 (t.e : Int) ⟨k, q, e, v⟩) := Lib.hid (fun o => (hp.alloc o).drew)
  have HP := Lib.hid hp
  have HT := Lib.hid hT
  have HR : Hid (∀ (k0 k1 k2 k3 : Value) (ty : TypeId), (w1.alloc (.cells #[k0, k1, k2, k3] ty)).drew.cell? ⟨w1.heap.size, 1, none⟩ = some k1 ∧ (w1.alloc (.cells #[k0, k1, k2, k3] ty)).drew.cell? ⟨w1.heap.size, 3, none⟩ = some k3) := Lib.hid (fun k0 k1 k2 k3 ty =>
    ⟨(World.cell?_alloc_at _ _ _ _ rfl).trans rfl, (World.cell?_alloc_at _ _ _ _ rfl).trans rfl⟩)
  clear hp hT H
  go_wp2_with fail
  go_region_held3 (fun w' => w'.cell? ⟨w1.heap.size, 1, none⟩ = some (.int .i64 (t.q : Int)) ∧ w'.cell? ⟨w1.heap.size, 3, none⟩ = some (.string t.v))
    (first | with_reducible exact HR.out _ _ _ _ _ | with_reducible exact S2 | go_keep)
    (first | (go_at_call 79; refine (loc_any (HPW.out _) _).mono ?_; rintro r w2 ⟨g, rfl, hg1, hg2, hl, hb2⟩; have S2 := And.intro ((hb2.cell (p := ⟨w1.heap.size, 1, none⟩) (by simp)).trans (HR.out _ _ _ _ _).1) ((hb2.cell (p := ⟨w1.heap.size, 3, none⟩) (by simp)).trans (HR.out _ _ _ _ _).2); have ne1 := World.new_ne w2 ⟨w1.heap.size, 1, none⟩ S2.1) | (go_at_call 140; refine (newName_any ((World.cell?_alloc_at _ _ _ _ rfl).trans rfl) (World.frozen?_alloc_at _ _ _ _ rfl)).mono ?_; rintro r w3 ⟨rfl, rfl⟩))
  all_goals
    go_wp2_with fail
    go_ret2
    have h0 := HT.out.size
    have h1 : w1.heap.size + 1 ≤ g := by simpa using hg1
    have hb3 : Below w1.heap.size w1 w2 := (Below.drew ((Below.refl _ _).alloc (Nat.le_refl _) _)).trans (hb2.mono (by simp))
    exact ⟨⟨w2.heap.size, rfl, g, by omega, by omega, by simp, by simp; omega, by simp, by simp, (World.cell?_alloc_at _ _ _ _ rfl).trans rfl, (World.cell?_alloc_at _ _ _ _ rfl).trans rfl, hl.of (Below.heap_alloc _ _ _ hg2)⟩, ((HPW.out _).keep hb2).alloc _, HT.out.trans (Turn.below (hb3.alloc hb3.size _))⟩

/-- A named type's node lies at block g. -/
def NamedAt (w : World) (N : Nat) (X : Option Nat) (g : Nat) (v : ByteArray) : Prop :=
  ∃ l n : Nat, N ≤ g ∧ N ≤ l ∧ g < w.heap.size ∧ l < w.heap.size ∧ some g ≠ X ∧ some l ≠ X ∧ w.cell? ⟨g, 1, none⟩ = some (.pointer (some ⟨l, 0, none⟩)) ∧ w.cell? ⟨g, 2, none⟩ = some (.pointer (some ⟨n, 0, none⟩)) ∧ LocAt w l ∧ NameAt w N X n v

theorem NamedAt.keep {w w' : World} {N : Nat} {X X' : Option Nat} {g : Nat} {v : ByteArray} (h : NamedAt w N X g v) (hs : w.heap.size ≤ w'.heap.size) (hb : ∀ i, N ≤ i → i < w.heap.size → some i ≠ X → w'.heap[i]? = w.heap[i]?) (hX : ∀ i, i < w.heap.size → some i ≠ X → some i ≠ X') : NamedAt w' N X' g v := by
  obtain ⟨l, n, h1, h2, h3, h4, h5, h6, h7, h8, h9, h10⟩ := h
  have hg := hb g h1 h3 h5
  have hl := hb l h2 h4 h6
  exact ⟨l, n, h1, h2, by omega, by omega, hX g h3 h5, hX l h4 h6, (World.cell?_of_block hg).trans h7, (World.cell?_of_block hg).trans h8, h9.of hl, h10.keep hs hb hX⟩

set_option linter.unusedSimpArgs false in
set_option maxHeartbeats 2000000 in
set_option maxRecDepth 100000 in
theorem named_any {w : World} {pb sb b cap : Nat} {s : ByteArray} {P1 P2 : Nat} {pe : Int} {t : T} (h : Prs w pb sb b cap s P1 P2 pe t) (hk : t.k = 15) (he : 0 < t.e) (k : Int) (q e : Nat) (v : ByteArray) (ht : Tok s t.e k q e v) :
    Calls Tryz.prog 82 #[.pointer (some ⟨pb, 0, none⟩)] w fun r w' => (∃ g, r = .returned (.tuple #[.pointer (some ⟨g, 0, none⟩), .nilIface]) ∧ NamedAt w' w.heap.size none g t.v) ∧ Prs w' pb sb b cap s P1 P2 (t.e : Int) ⟨k, q, e, v⟩ ∧ Turn P1 pb w w' := by
  have H := Lib.hid (name_any h hk he k q e v ht)
  have g6 := h.c6
  clear h ht hk
  go_enter Tryz.func82, Tryz.ntmps82
  go_wp2_with fail
  refine H.out.mono ?_
  rintro r w1 ⟨⟨n, rfl, hn⟩, hp, hT⟩
  have HP := Lib.hid hp
  have HT := Lib.hid hT
  have HN := Lib.hid hn
  clear hp hT hn H
  go_wp2_with fail
  refine (loc_any HP.out _).mono ?_
  rintro r w2 ⟨g, rfl, hg1, hg2, hl, hb2⟩
  have HB2 := Lib.hid hb2
  have HL := Lib.hid hl
  clear hb2 hl
  go_wp2_with (first | (go_at_call 139; refine (newNamed_any ((World.cell?_alloc_at _ _ _ _ rfl).trans rfl) (World.frozen?_alloc_at _ _ _ _ rfl)).mono ?_; rintro r w3 ⟨rfl, rfl⟩))
  go_ret2
  have h0 := HT.out.size
  have h1 := HB2.out.size
  have hn2 := HN.out.keep (w' := w2.alloc (.cells #[.string ⟨#[78, 97, 109, 101, 100]⟩, .pointer (some ⟨g, 0, none⟩), .pointer (some ⟨n, 0, none⟩)] 83)) (X' := none) (by simp; omega) (fun i h1 h2 h3 => (Below.heap_alloc _ _ _ (by omega)).trans (HB2.out.block i h2)) (fun i h1 h2 => by simp)
  exact ⟨⟨w2.heap.size, rfl, g, n, by omega, by omega, by simp, by simp; omega, by simp, by simp, (World.cell?_alloc_at _ _ _ _ rfl).trans rfl, (World.cell?_alloc_at _ _ _ _ rfl).trans rfl, HL.out.of (Below.heap_alloc _ _ _ hg2), hn2⟩, (HP.out.keep HB2.out).alloc _, HT.out.trans (Turn.below (HB2.out.alloc HB2.out.size _))⟩
end Go.Proofs.YtbjfahhfcdnkaaaGreatDoor
