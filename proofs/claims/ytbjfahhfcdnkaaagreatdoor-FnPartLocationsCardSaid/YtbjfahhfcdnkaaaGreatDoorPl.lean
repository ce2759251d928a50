/- 'SameDocument' over two lists of the same nodes. -/
import Derived.Test.YtbjfahhfcdnkaaaGreatDoorPi
import Derived.Laws.StructEq
namespace Go.Proofs.YtbjfahhfcdnkaaaGreatDoor
open Go.RowKit Go.Proofs.YtbjfahhfcdnkaaaGreatDoorW.PrintWords Go.Proofs.YtbjfahhfcdnkaaaGreatDoorW.PrintMore

/-- A row of nodes that is read. -/
def RowN (w : World) (A : Option Addr) (K : Int) (names : List ByteArray) : Prop := ∀ (i : Nat) (h : i < names.length), ∃ b, A = some ⟨b, 0, none⟩ ∧ b < w.heap.size ∧
  w.cell? ⟨b, i * 6, none⟩ = some (.int .i64 K) ∧ w.cell? ⟨b, i * 6 + 1, none⟩ = some (.string names[i]) ∧ w.cell? ⟨b, i * 6 + 2, none⟩ = some (.string ⟨#[]⟩) ∧ w.cell? ⟨b, i * 6 + 3, none⟩ = some (.string ⟨#[]⟩) ∧ w.cell? ⟨b, i * 6 + 4, none⟩ = some (.int .i64 0) ∧ w.cell? ⟨b, i * 6 + 5, none⟩ = some (.int .i64 1)

theorem RowN.below {w w' : World} {A : Option Addr} {K : Int} {l : List ByteArray} (h : RowN w A K l) (hb : Below w.heap.size w w') : RowN w' A K l := by
  intro i hi
  obtain ⟨b, e, hlt, h0, h1, h2, h3, h4, h5⟩ := h i hi
  exact ⟨b, e, Nat.lt_of_lt_of_le hlt hb.size, (hb.cell hlt).trans h0, (hb.cell hlt).trans h1, (hb.cell hlt).trans h2, (hb.cell hlt).trans h3, (hb.cell hlt).trans h4, (hb.cell hlt).trans h5⟩

theorem nodeCells_at (K : Int) : ∀ (l : List ByteArray) (i : Nat) (h : i < l.length), (nodeCells K l)[i * 6]? = some (.int .i64 K) ∧ (nodeCells K l)[i * 6 + 1]? = some (.string l[i]) ∧ (nodeCells K l)[i * 6 + 2]? = some (.string ⟨#[]⟩) ∧ (nodeCells K l)[i * 6 + 3]? = some (.string ⟨#[]⟩) ∧ (nodeCells K l)[i * 6 + 4]? = some (.int .i64 0) ∧ (nodeCells K l)[i * 6 + 5]? = some (.int .i64 1)
  | [], i, h => by simp at h
  | v :: t, 0, _ => ⟨rfl, rfl, rfl, rfl, rfl, rfl⟩
  | v :: t, i + 1, h => by
    have ih := nodeCells_at K t i (by simpa using h)
    have e : ∀ k, (nodeCells K (v :: t))[(i + 1) * 6 + k]? = (nodeCells K t)[i * 6 + k]? := fun k => by
      show ([.int .i64 K, .string v, .string ⟨#[]⟩, .string ⟨#[]⟩, .int .i64 0, .int .i64 1] ++ nodeCells K t)[(i + 1) * 6 + k]? = _
      rw [List.getElem?_append_right (by simp; omega)]
      congr 1
      simp
      omega
    have e0 := e 0
    simp only [Nat.add_zero] at e0
    rw [e0, e 1, e 2, e 3, e 4, e 5]
    simpa using ih

theorem rowN_of {w : World} {base : Nat} {v : Value} {names : List ByteArray} {K : Int} (h : w.ownsRow base 35 6 v names.length (nodeCells K names)) : ∃ A c, v = .slice A names.length c ∧ RowN w A K names := by
  rcases h.2 with ⟨rfl, h0⟩ | ⟨g, cap, cur, rfl, hg⟩
  · exact ⟨_, _, by rw [h0], fun i hi => by omega⟩
  · refine ⟨_, _, rfl, fun i hi => ?_⟩
    obtain ⟨h0, h1, h2, h3, h4, h5⟩ := nodeCells_at K names i hi
    refine ⟨g, rfl, (h.lt g rfl).2, ?_, ?_, ?_, ?_, ?_, ?_⟩
    · rw [h.cellAt (i * 6) (by omega)]; exact h0
    · rw [h.cellAt (i * 6 + 1) (by omega)]; exact h1
    · rw [h.cellAt (i * 6 + 2) (by omega)]; exact h2
    · rw [h.cellAt (i * 6 + 3) (by omega)]; exact h3
    · rw [h.cellAt (i * 6 + 4) (by omega)]; exact h4
    · rw [h.cellAt (i * 6 + 5) (by omega)]; exact h5

/-- Two copies of a node, each in a block of its own. -/
structure Two (w wx : World) (g1 g2 : Nat) (K : Int) (v : ByteArray) : Prop where
  ne : g1 ≠ g2
  c1 : ∀ i : Nat, wx.cell? ⟨g1, i, none⟩ = (#[.int .i64 K, .string v, .string ⟨#[]⟩, .string ⟨#[]⟩, .int .i64 0, .int .i64 1] : Array Value)[i]?
  c2 : ∀ i : Nat, wx.cell? ⟨g2, i, none⟩ = (#[.int .i64 K, .string v, .string ⟨#[]⟩, .string ⟨#[]⟩, .int .i64 0, .int .i64 1] : Array Value)[i]?
  f1 : ∀ i : Nat, wx.frozen? ⟨g1, i, none⟩ = false
  f2 : ∀ i : Nat, wx.frozen? ⟨g2, i, none⟩ = false
  bel : Below w.heap.size w wx
  l1 : w.heap.size ≤ g1
  l2 : w.heap.size ≤ g2

theorem two_new (w : World) (K : Int) (v : ByteArray) : Two w ((w.alloc (.cells #[.int .i64 K, .string v, .string ⟨#[]⟩, .string ⟨#[]⟩, .int .i64 0, .int .i64 1] 35)).alloc (.cells #[.int .i64 K, .string v, .string ⟨#[]⟩, .string ⟨#[]⟩, .int .i64 0, .int .i64 1] 35)).drew w.heap.size (w.heap.size + 1) K v := by
  have hz : w.heap.size < (w.alloc (.cells #[.int .i64 K, .string v, .string ⟨#[]⟩, .string ⟨#[]⟩, .int .i64 0, .int .i64 1] 35)).heap.size := by simp
  refine ⟨by omega, fun i => ?_, fun i => World.cell?_alloc_at _ _ _ _ (by simp), fun i => ?_, fun i => World.frozen?_alloc_at _ _ _ _ (by simp), Below.drew (((Below.refl _ _).alloc (Nat.le_refl _) _).alloc (by simp) _), Nat.le_refl _, by omega⟩
  · exact (World.cell?_of_block (Below.heap_alloc _ _ _ hz)).trans (World.cell?_alloc_at _ _ _ _ rfl)
  · exact (World.frozen?_of_block (Below.heap_alloc _ _ _ hz)).trans (World.frozen?_alloc_at _ _ _ _ rfl)
theorem Two.swap {w wx : World} {g1 g2 : Nat} {K : Int} {v : ByteArray} (h : Two w wx g1 g2 K v) : Two w wx g2 g1 K v := ⟨Ne.symm h.ne, h.c2, h.c1, h.f2, h.f1, h.bel, h.l2, h.l1⟩

set_option maxHeartbeats 4000000 in
set_option maxRecDepth 100000 in
theorem same_any {w : World} {A B : Option Addr} {K : Int} {names : List ByteArray} {c d : Nat} (hA : RowN w A K names) (hB : RowN w B K names) (hK : K ≠ 15) (hN : names.length ≤ 1000) :
    Calls Tryz.prog 8 #[.slice A names.length c, .slice B names.length d] w fun r w' => r = .returned (.bool true) ∧ Below w.heap.size w w' := by
  have HA := Lib.hid hA
  have HB := Lib.hid hB
  have hk : (K != 15) = true := bne_iff_ne.2 hK
  clear hA hB hK
  go_enter Tryz.func8, Tryz.ntmps8
  go_wp2_with fail
  go_loopw [5] (fun x wr => ∃ i : Nat, i ≤ names.length ∧ x = .int .i64 i ∧ Hid (Below w.heap.size w wr)) (fun x _ => names.length - (intOf x).toNat)
  case atStart => exact ⟨0, by omega, rfl, Lib.hid (Below.refl _ _)⟩
  case round =>
    obtain ⟨i, hile, rfl, HBL⟩ := hrel
    by_cases hlt : i < names.length
    · obtain ⟨b, rfl, hb, a0, a1, a2, a3, a4, a5⟩ := (HA.out.below HBL.out) i hlt
      obtain ⟨b', rfl, hb', b0, b1, b2, b3, b4, b5⟩ := (HB.out.below HBL.out) i hlt
      have hlt2 : (i : Int) < names.length := by omega
      have hi0 : (0 : Int) ≤ i := by omega
      generalize hnv : names[i] = v at *
      have HNV := Lib.hid hnv
      clear hnv
      have SS := Lib.hid (And.intro a0 (And.intro a1 (And.intro a2 (And.intro a3 (And.intro a4 (And.intro a5 (And.intro b0 (And.intro b1 (And.intro b2 (And.intro b3 (And.intro b4 b5)))))))))))
      go_upto_region 6 with (fail)
      go_cut [6, 7] (fun x y wx => ∃ g1 g2 : Nat, x = .pointer (some ⟨g1, 0, none⟩) ∧ y = .pointer (some ⟨g2, 0, none⟩) ∧ Hid (Two wr wx g1 g2 K v))
      case first =>
        have m0 := World.new_ne wr ⟨b, i * 6, none⟩ a0
        have m1 := World.new_ne wr ⟨b', i * 6, none⟩ b0
        go_region_held3 (fun w' => w'.cell? ⟨b, i * 6, none⟩ = some (.int .i64 K) ∧ w'.cell? ⟨b, i * 6 + 1, none⟩ = some (.string v) ∧ w'.cell? ⟨b, i * 6 + 2, none⟩ = some (.string ⟨#[]⟩) ∧ w'.cell? ⟨b, i * 6 + 3, none⟩ = some (.string ⟨#[]⟩) ∧ w'.cell? ⟨b, i * 6 + 4, none⟩ = some (.int .i64 0) ∧ w'.cell? ⟨b, i * 6 + 5, none⟩ = some (.int .i64 1) ∧
          w'.cell? ⟨b', i * 6, none⟩ = some (.int .i64 K) ∧ w'.cell? ⟨b', i * 6 + 1, none⟩ = some (.string v) ∧ w'.cell? ⟨b', i * 6 + 2, none⟩ = some (.string ⟨#[]⟩) ∧ w'.cell? ⟨b', i * 6 + 3, none⟩ = some (.string ⟨#[]⟩) ∧ w'.cell? ⟨b', i * 6 + 4, none⟩ = some (.int .i64 0) ∧ w'.cell? ⟨b', i * 6 + 5, none⟩ = some (.int .i64 1))
          (first | exact SS.out | go_keep) (fail)
        all_goals
          go_wp2_with fail
          go_meet
          case rel => first | exact ⟨_, _, rfl, rfl, Lib.hid (two_new wr K v)⟩ | exact ⟨_, _, rfl, rfl, Lib.hid (two_new wr K v).swap⟩
      case rest =>
        obtain ⟨g1, g2, rfl, rfl, htw⟩ := hcut
        clear a0 a1 a2 a3 a4 a5 b0 b1 b2 b3 b4 b5
        have x0 := htw.out.c1 0
        have x1 := htw.out.c1 1
        have x2 := htw.out.c1 2
        have x3 := htw.out.c1 3
        have x4 := htw.out.c1 4
        have x5 := htw.out.c1 5
        have y0 := htw.out.c2 0
        have y1 := htw.out.c2 1
        have y2 := htw.out.c2 2
        have y3 := htw.out.c2 3
        have y4 := htw.out.c2 4
        have y5 := htw.out.c2 5
        have z1 := htw.out.f1 4
        have z2 := htw.out.f2 4
        have hne := htw.out.ne
        change wc.cell? ⟨g1, 0, none⟩ = some (.int .i64 K) at x0
        change wc.cell? ⟨g1, 1, none⟩ = some (.string v) at x1
        change wc.cell? ⟨g1, 2, none⟩ = some (.string ⟨#[]⟩) at x2
        change wc.cell? ⟨g1, 3, none⟩ = some (.string ⟨#[]⟩) at x3
        change wc.cell? ⟨g1, 4, none⟩ = some (.int .i64 0) at x4
        change wc.cell? ⟨g1, 5, none⟩ = some (.int .i64 1) at x5
        change wc.cell? ⟨g2, 0, none⟩ = some (.int .i64 K) at y0
        change wc.cell? ⟨g2, 1, none⟩ = some (.string v) at y1
        change wc.cell? ⟨g2, 2, none⟩ = some (.string ⟨#[]⟩) at y2
        change wc.cell? ⟨g2, 3, none⟩ = some (.string ⟨#[]⟩) at y3
        change wc.cell? ⟨g2, 4, none⟩ = some (.int .i64 0) at y4
        change wc.cell? ⟨g2, 5, none⟩ = some (.int .i64 1) at y5
        go_wp2_with fail
        have hbel := HBL.out.trans ((htw.out.bel.mono HBL.out.size).trans ((((Below.refl w.heap.size wc).setCell (p := ⟨g1, 4, none⟩) (Nat.le_trans HBL.out.size htw.out.l1) (.int .i64 0))).setCell (p := ⟨g2, 4, none⟩) (Nat.le_trans HBL.out.size htw.out.l2) (.int .i64 0)))
        go_round
        case rel => exact ⟨i + 1, by omega, by go_num, Lib.hid hbel⟩
        case measure => simp [intOf]; omega
    · go_wp2_with fail
      go_ret
      exact ⟨rfl, HBL.out⟩
end Go.Proofs.YtbjfahhfcdnkaaaGreatDoor
