/- A part as data: 'taker.part', 'readPart', 'impl.ReadPart'. -/
import Derived.Test.YtbjfahhfcdnkaaaGreatDoorPg
namespace Go.Proofs.YtbjfahhfcdnkaaaGreatDoor
open Go.RowKit Go.Proofs.YtbjfahhfcdnkaaaGreatDoorW.PrintWords Go.Proofs.YtbjfahhfcdnkaaaGreatDoorW.PrintMore

set_option maxHeartbeats 1000000 in
set_option maxRecDepth 100000 in
theorem text_any {w : World} {g : Nat} {v : ByteArray} (h2 : w.cell? ⟨g, 2, none⟩ = some (.string v)) :
    Calls Tryz.prog 22 #[.pointer (some ⟨g, 0, none⟩)] w fun r w' => r = .returned (.string v) ∧ w = w' := by
  go_enter Tryz.func22, Tryz.ntmps22
  go_wp2_with fail
  go_ret
  exact ⟨rfl, rfl⟩

set_option maxHeartbeats 1000000 in
set_option maxRecDepth 100000 in
theorem on_any {w : World} {g n : Nat} {v : ByteArray} (h2 : w.cell? ⟨g, 2, none⟩ = some (.pointer (some ⟨n, 0, none⟩))) (h3 : w.cell? ⟨n, 2, none⟩ = some (.string v)) :
    Calls Tryz.prog 21 #[.pointer (some ⟨g, 0, none⟩)] w fun r w' => r = .returned (.string v) ∧ w = w' := by
  have H := Lib.hid (text_any h3)
  clear h3
  go_enter Tryz.func21, Tryz.ntmps21
  go_wp2_with fail
  refine H.out.mono ?_
  rintro r w1 ⟨rfl, rfl⟩
  go_wp2_with fail
  go_ret
  exact ⟨rfl, rfl⟩

set_option maxRecDepth 100000 in
theorem ta77_63 (p : Option Addr) (W : World) : Sem.run Tryz.prog (Instr.typeAssert (Value.iface 77 (Value.pointer p)) 20 63 true) W = .ok (.tuple #[.pointer none, .bool false]) W := by kernel_rfl
set_option maxRecDepth 100000 in
theorem ta77_66 (p : Option Addr) (W : World) : Sem.run Tryz.prog (Instr.typeAssert (Value.iface 77 (Value.pointer p)) 20 66 true) W = .ok (.tuple #[.pointer none, .bool false]) W := by kernel_rfl
set_option maxRecDepth 100000 in
theorem ta77_69 (p : Option Addr) (W : World) : Sem.run Tryz.prog (Instr.typeAssert (Value.iface 77 (Value.pointer p)) 20 69 true) W = .ok (.tuple #[.pointer none, .bool false]) W := by kernel_rfl
set_option maxRecDepth 100000 in
theorem ta77_72 (p : Option Addr) (W : World) : Sem.run Tryz.prog (Instr.typeAssert (Value.iface 77 (Value.pointer p)) 20 72 true) W = .ok (.tuple #[.pointer none, .bool false]) W := by kernel_rfl
set_option maxRecDepth 100000 in
theorem ta77_74 (p : Option Addr) (W : World) : Sem.run Tryz.prog (Instr.typeAssert (Value.iface 77 (Value.pointer p)) 20 74 true) W = .ok (.tuple #[.pointer none, .bool false]) W := by kernel_rfl
set_option maxRecDepth 100000 in
theorem ta77_77 (p : Option Addr) (W : World) : Sem.run Tryz.prog (Instr.typeAssert (Value.iface 77 (Value.pointer p)) 20 77 true) W = .ok (.tuple #[.pointer p, .bool true]) W := by kernel_rfl
set_option maxRecDepth 100000 in
theorem ta81_63 (p : Option Addr) (W : World) : Sem.run Tryz.prog (Instr.typeAssert (Value.iface 81 (Value.pointer p)) 20 63 true) W = .ok (.tuple #[.pointer none, .bool false]) W := by kernel_rfl
set_option maxRecDepth 100000 in
theorem ta81_66 (p : Option Addr) (W : World) : Sem.run Tryz.prog (Instr.typeAssert (Value.iface 81 (Value.pointer p)) 20 66 true) W = .ok (.tuple #[.pointer none, .bool false]) W := by kernel_rfl
set_option maxRecDepth 100000 in
theorem ta81_69 (p : Option Addr) (W : World) : Sem.run Tryz.prog (Instr.typeAssert (Value.iface 81 (Value.pointer p)) 20 69 true) W = .ok (.tuple #[.pointer none, .bool false]) W := by kernel_rfl
set_option maxRecDepth 100000 in
theorem ta81_72 (p : Option Addr) (W : World) : Sem.run Tryz.prog (Instr.typeAssert (Value.iface 81 (Value.pointer p)) 20 72 true) W = .ok (.tuple #[.pointer none, .bool false]) W := by kernel_rfl
set_option maxRecDepth 100000 in
theorem ta81_74 (p : Option Addr) (W : World) : Sem.run Tryz.prog (Instr.typeAssert (Value.iface 81 (Value.pointer p)) 20 74 true) W = .ok (.tuple #[.pointer none, .bool false]) W := by kernel_rfl
set_option maxRecDepth 100000 in
theorem ta81_77 (p : Option Addr) (W : World) : Sem.run Tryz.prog (Instr.typeAssert (Value.iface 81 (Value.pointer p)) 20 77 true) W = .ok (.tuple #[.pointer none, .bool false]) W := by kernel_rfl
set_option maxRecDepth 100000 in
theorem ta81_81 (p : Option Addr) (W : World) : Sem.run Tryz.prog (Instr.typeAssert (Value.iface 81 (Value.pointer p)) 20 81 true) W = .ok (.tuple #[.pointer p, .bool true]) W := by kernel_rfl

theorem Tkr.keepUp {w w' : World} {tb base : Nat} {vd vs : Value} {n : Nat} {xs : List Value} {m : Nat} {ys : List Value} (h : Tkr w tb base vd vs n xs m ys) (hb : Below w.heap.size w w') : Tkr w' tb base vd vs n xs m ys := by
  have hlt : tb < w.heap.size := Nat.lt_of_lt_of_le h.lt h.le
  exact ⟨(hb.cell hlt).trans h.c0, (hb.cell hlt).trans h.c1, (hb.cell hlt).trans h.c2, fun i => (hb.frozen hlt).trans (h.z i), owns_other h.own0 (fun k hk => hb.block k (h.own0.lt k hk).2), owns_other h.own1 (fun k hk => hb.block k (h.own1.lt k hk).2), h.sep, h.lt, Nat.le_trans h.le hb.size⟩

/-- What a named type's node shows to a taker that lies behind it. -/
theorem NamedAt.cells {w0 w : World} {N g tb : Nat} {v : ByteArray} (h : NamedAt w0 N none g v) (h0 : w0.heap.size ≤ tb) (hb : Below tb w0 w) :
    ∃ l nn : Nat, l < tb ∧ g < tb ∧ nn < tb ∧ w.cell? ⟨g, 1, none⟩ = some (.pointer (some ⟨l, 0, none⟩)) ∧ w.cell? ⟨g, 2, none⟩ = some (.pointer (some ⟨nn, 0, none⟩)) ∧ LocAt w l ∧ w.cell? ⟨nn, 2, none⟩ = some (.string v) := by
  obtain ⟨l, n, h1, h2, h3, h4, h5, h6, h7, h8, h9, ⟨l2, k1, k2, k3, k4, k5, k6, k7, k8, k9⟩⟩ := h
  exact ⟨l, n, by omega, by omega, by omega, (hb.cell (show g < tb by omega)).trans h7, (hb.cell (show g < tb by omega)).trans h8, h9.of (hb.block l (by omega)), (hb.cell (show n < tb by omega)).trans k8⟩
theorem NameAt.cells {w0 w : World} {N g tb : Nat} {v : ByteArray} (h : NameAt w0 N none g v) (h0 : w0.heap.size ≤ tb) (hb : Below tb w0 w) :
    ∃ l : Nat, l < tb ∧ g < tb ∧ w.cell? ⟨g, 1, none⟩ = some (.pointer (some ⟨l, 0, none⟩)) ∧ w.cell? ⟨g, 2, none⟩ = some (.string v) ∧ LocAt w l := by
  obtain ⟨l2, k1, k2, k3, k4, k5, k6, k7, k8, k9⟩ := h
  exact ⟨l2, by omega, by omega, (hb.cell (show g < tb by omega)).trans k7, (hb.cell (show g < tb by omega)).trans k8, k9.of (hb.block l2 (by omega))⟩

set_option maxHeartbeats 2000000 in
set_option maxRecDepth 100000 in
theorem tpart_named {w : World} {tb base l nn g : Nat} {vd vs : Value} {n : Nat} {xs : List Value} {m : Nat} {ys : List Value} {v : ByteArray} (h : Tkr w tb base vd vs n xs m ys) (hll : l < tb) (hgl : g < tb) (hnl : nn < tb) (h1 : w.cell? ⟨g, 1, none⟩ = some (.pointer (some ⟨l, 0, none⟩))) (h2 : w.cell? ⟨g, 2, none⟩ = some (.pointer (some ⟨nn, 0, none⟩))) (hl : LocAt w l) (h3 : w.cell? ⟨nn, 2, none⟩ = some (.string v)) (hn : n ≤ 1000) (hm : m ≤ 1000) (K : Int) :
    Calls Tryz.prog 13 #[.pointer (some ⟨tb, 0, none⟩), .iface 77 (.pointer (some ⟨g, 0, none⟩)), .int .i64 K] w fun r w' => r = .returned (.tuple #[]) ∧
      (∃ vd' vs' ys', Tkr w' tb base vd' vs' (n + 1) (xs ++ [.int .i64 K, .string v, .string ⟨#[]⟩, .string ⟨#[]⟩, .int .i64 0, .int .i64 1]) (m + 1) ys') ∧ Below tb w w' := by
  have hlt : tb < w.heap.size := Nat.lt_of_lt_of_le h.lt h.le
  have HB : Hid (∀ o, Below w.heap.size w (w.alloc o).drew) := Lib.hid (fun o => Below.drew ((Below.refl _ _).alloc (Nat.le_refl _) o))
  have HPUT := Lib.hid (fun W (hb : Below w.heap.size w W) => put_any (h.keepUp hb) (hl.of (hb.block l (by omega))) hll hn hm K v)
  have HON := Lib.hid (fun W (hb : Below w.heap.size w W) => on_any (w := W) (v := v) ((hb.cell (show g < w.heap.size by omega)).trans h2) ((hb.cell (show nn < w.heap.size by omega)).trans h3))
  have HG : Hid (∀ o, (w.alloc o).drew.cell? ⟨g, 1, none⟩ = some (.pointer (some ⟨l, 0, none⟩))) := Lib.hid (fun o => (World.cell?_alloc_past _ _ _ (show g < w.heap.size by omega)).trans h1)
  clear h hl h1 h2 h3
  have e1 := ta77_63
  have e2 := ta77_66
  have e3 := ta77_69
  have e4 := ta77_72
  have e5 := ta77_74
  have e6 := ta77_77
  go_enter Tryz.func13, Tryz.ntmps13
  go_wp2_with fail
  clear e1 e2 e3 e4 e5 e6
  have hg1 := HG.out
  go_region_with (first | (go_at_call 21; refine (HON.out _ (HB.out _)).mono ?_; rintro r w2 ⟨rfl, rfl⟩) | (go_at_call 20; refine (HPUT.out _ (HB.out _)).mono ?_; rintro r w2 ⟨rfl, hk2, hb2⟩))
  all_goals
    go_wp2_with fail
    go_end0
    exact ⟨rfl, hk2, (Below.mono (HB.out _) (Nat.le_of_lt hlt)).trans hb2⟩

set_option maxHeartbeats 2000000 in
set_option maxRecDepth 100000 in
theorem tpart_name {w : World} {tb base l g : Nat} {vd vs : Value} {n : Nat} {xs : List Value} {m : Nat} {ys : List Value} {v : ByteArray} (h : Tkr w tb base vd vs n xs m ys) (hll : l < tb) (hgl : g < tb) (h1 : w.cell? ⟨g, 1, none⟩ = some (.pointer (some ⟨l, 0, none⟩))) (h2 : w.cell? ⟨g, 2, none⟩ = some (.string v)) (hl : LocAt w l) (hn : n ≤ 1000) (hm : m ≤ 1000) (K : Int) :
    Calls Tryz.prog 13 #[.pointer (some ⟨tb, 0, none⟩), .iface 81 (.pointer (some ⟨g, 0, none⟩)), .int .i64 K] w fun r w' => r = .returned (.tuple #[]) ∧
      (∃ vd' vs' ys', Tkr w' tb base vd' vs' (n + 1) (xs ++ [.int .i64 K, .string v, .string ⟨#[]⟩, .string ⟨#[]⟩, .int .i64 0, .int .i64 1]) (m + 1) ys') ∧ Below tb w w' := by
  have hlt : tb < w.heap.size := Nat.lt_of_lt_of_le h.lt h.le
  have HB : Hid (∀ o, Below w.heap.size w (w.alloc o).drew) := Lib.hid (fun o => Below.drew ((Below.refl _ _).alloc (Nat.le_refl _) o))
  have HPUT := Lib.hid (fun W (hb : Below w.heap.size w W) => put_any (h.keepUp hb) (hl.of (hb.block l (by omega))) hll hn hm K v)
  have HON := Lib.hid (fun W (hb : Below w.heap.size w W) => text_any (w := W) (v := v) ((hb.cell (show g < w.heap.size by omega)).trans h2))
  have HG : Hid (∀ o, (w.alloc o).drew.cell? ⟨g, 1, none⟩ = some (.pointer (some ⟨l, 0, none⟩))) := Lib.hid (fun o => (World.cell?_alloc_past _ _ _ (show g < w.heap.size by omega)).trans h1)
  clear h hl h1 h2
  have e1 := ta81_63
  have e2 := ta81_66
  have e3 := ta81_69
  have e4 := ta81_72
  have e5 := ta81_74
  have e6 := ta81_77
  have e7 := ta81_81
  go_enter Tryz.func13, Tryz.ntmps13
  go_wp2_with fail
  clear e1 e2 e3 e4 e5 e6 e7
  have hg1 := HG.out
  go_region_with (first | (go_at_call 22; refine (HON.out _ (HB.out _)).mono ?_; rintro r w2 ⟨rfl, rfl⟩) | (go_at_call 20; refine (HPUT.out _ (HB.out _)).mono ?_; rintro r w2 ⟨rfl, hk2, hb2⟩))
  all_goals
    go_wp2_with fail
    go_end0
    exact ⟨rfl, hk2, (Below.mono (HB.out _) (Nat.le_of_lt hlt)).trans hb2⟩
end Go.Proofs.YtbjfahhfcdnkaaaGreatDoor
