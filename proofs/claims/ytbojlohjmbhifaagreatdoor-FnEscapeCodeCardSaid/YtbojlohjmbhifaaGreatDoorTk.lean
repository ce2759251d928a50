/- The lexer's closure: one step after the other. -/
import Derived.Test.YtbojlohjmbhifaaGreatDoorRt4
import Derived.Deep.LoopGhost
namespace Go.Proofs.YtbojlohjmbhifaaGreatDoor
open Go.RowKit Go.Proofs.YtbojlohjmbhifaaGreatDoorW.PrintWords Go.Proofs.YtbojlohjmbhifaaGreatDoorW.PrintMore

theorem grown_below {a w : World} {r : Option Nat} (h : Below a.heap.size a w) : a.grownBy w r := ⟨h.os, h.tape, h.output, h.size, fun i hi _ => h.block i hi⟩
theorem grown_set {a w : World} {g : Nat} (h : a.grownBy w (some g)) {p : Addr} (hp : p.block = g ∨ a.heap.size ≤ p.block) (u : Value) : a.grownBy (w.setCell p u) (some g) := by
  refine ⟨h.os, h.tape, h.output, by simpa [World.setCell] using h.size, fun i hi hne => (Below.heap_setCell w p u i ?_).trans (h.block i hi hne)⟩
  intro e
  rcases hp with hp | hp
  · exact hne (by rw [e, hp])
  · omega
theorem grown_alloc {a w : World} {r : Option Nat} (h : a.grownBy w r) (o : Obj) : a.grownBy (w.alloc o) r :=
  ⟨h.os, h.tape, h.output, Nat.le_trans h.size (by simp), fun i hi hne => (Below.heap_alloc w o i (Nat.lt_of_lt_of_le hi h.size)).trans (h.block i hi hne)⟩
theorem grown_drewN {a w : World} {r : Option Nat} (h : a.grownBy w r) (n : Nat) : a.grownBy (w.drewN n) r := ⟨h.os, h.tape, h.output, h.size, h.block⟩
theorem grown_trans {a b c : World} {r : Option Nat} (h : a.grownBy b r) (k : b.grownBy c r) : a.grownBy c r :=
  ⟨k.os.trans h.os, k.tape.trans h.tape, k.output.trans h.output, Nat.le_trans h.size k.size, fun i hi hr => (k.block i (Nat.lt_of_lt_of_le hi h.size) hr).trans (h.block i hi hr)⟩
theorem setCell_far (w : World) {p a : Addr} (v : Value) (h : p.block ≠ a.block) : (w.setCell p v).cell? a = w.cell? a := World.cell?_setCell_other _ _ _ _ (fun e => h (by rw [e]))

/-- What the closure has captured: where it is (P1), and the source (P2). -/
structure Clo (w : World) (sb b cap : Nat) (s : ByteArray) (P1 P2 : Nat) (p : Nat) : Prop where
  src : Src w sb b cap s
  prev : w.cell? ⟨P1, 0, none⟩ = some (.int .i64 (p : Int))
  free : w.frozen? ⟨P1, 0, none⟩ = false
  at_ : w.cell? ⟨P2, 0, none⟩ = some (.pointer (some ⟨sb, 0, none⟩))
  lt1 : P1 < w.heap.size
  lt2 : P2 < w.heap.size
  ne1 : P1 ≠ sb
  ne2 : P1 ≠ b
  ne3 : P1 ≠ P2

set_option maxHeartbeats 2000000 in
set_option maxRecDepth 100000 in
theorem lex_tok {w : World} {sb b cap : Nat} {s : ByteArray} {P1 P2 p : Nat} (h : Clo w sb b cap s P1 P2 p) (k : Int) (q e : Nat) (v : ByteArray) (ht : Tok s p k q e v) :
    Calls Tryz.prog 22 #[.int .i64 0, .pointer (some ⟨P1, 0, none⟩), .pointer (some ⟨P2, 0, none⟩)] w fun r w' =>
      r = .returned (.tuple #[.agg #[.int .i64 k, .int .i64 (q : Int), .int .i64 (e : Int), .string v], .nilIface]) ∧ w.grownBy w' (some P1) ∧ w'.cell? ⟨P1, 0, none⟩ = some (.int .i64 (e : Int)) ∧ w'.frozen? ⟨P1, 0, none⟩ = false := by
  obtain ⟨h1, h2, h3, h4, h5, h6, h7, h8, h9⟩ := h
  have HT : Hid (∀ o, Calls Tryz.prog 23 #[.pointer (some ⟨sb, 0, none⟩), .int .i64 (p : Int)] (w.alloc o) fun r w' =>
    r = .returned (.tuple #[.agg #[.int .i64 k, .int .i64 (q : Int), .int .i64 (e : Int), .string v], .nilIface]) ∧ Below (w.alloc o).heap.size (w.alloc o) w') :=
    Lib.hid (fun o => ht _ _ _ _ (h1.grow ((Below.refl _ _).alloc (Nat.le_refl _) o)))
  clear ht h1 h7 h8 h9
  go_enter Tryz.func22, Tryz.ntmps22
  go_wp2_with fail
  refine (HT.out _).mono ?_
  rintro r w2 ⟨rfl, hb⟩
  have f1 : w2.cell? ⟨P1, 0, none⟩ = some (.int .i64 (p : Int)) := (hb.cell (by simp; omega)).trans ((World.cell?_alloc_past _ _ _ h5).trans h2)
  have f2 : w2.frozen? ⟨P1, 0, none⟩ = false := (hb.frozen (by simp; omega)).trans ((World.frozen?_of_block (Below.heap_alloc _ _ _ h5)).trans h3)
  obtain ⟨⟨c0, c1, c2, c3⟩, ⟨z0, z1, z2, z3⟩, hz, hB⟩ := kept4 hb
  clear hb
  have hP : P1 < w2.heap.size := by omega
  go_wp2_with fail
  have g0 := fun i : Nat => setCell_far w2 (p := ⟨P1, 0, none⟩) (a := ⟨w.heap.size, i, none⟩) (.int .i64 (e : Int)) (by show P1 ≠ w.heap.size; omega)
  obtain ⟨q0, q1, q2, q3⟩ := set4 ((g0 0).trans c0) ((g0 1).trans c1) ((g0 2).trans c2) ((g0 3).trans c3) (.int .i64 k) (.int .i64 q) (.int .i64 e) (.string v)
  refine bodyPost_ret (v := .tuple #[.agg #[.int .i64 k, .int .i64 (q : Int), .int .i64 (e : Int), .string v], .nilIface]) (by simp [results, Tryz.results22, go_sem, q0, q1, q2, q3, hz]) rfl ⟨rfl, ?_, ?_, ?_⟩
  · exact grown_alloc (grown_set (grown_set (grown_set (grown_set (grown_set (grown_below hB) (.inl rfl) _) (.inr (Nat.le_refl _)) _) (.inr (Nat.le_refl _)) _) (.inr (Nat.le_refl _)) _) (.inr (Nat.le_refl _)) _) _
  · rw [World.cell?_alloc_past _ _ _ (by simpa using hP), far4 _ (show w.heap.size ≠ P1 by omega)]
    exact World.cell?_setCell_same _ _ _ f1
  · rw [World.frozen?_of_block (Below.heap_alloc _ _ _ (by simpa using hP))]
    simpa only [World.frozen?_setCell] using f2

set_option maxHeartbeats 2000000 in
set_option maxRecDepth 100000 in
theorem lex_bad {w : World} {sb b cap : Nat} {s : ByteArray} {P1 P2 p : Nat} (h : Clo w sb b cap s P1 P2 p) (ht : Bad s p) :
    Calls Tryz.prog 22 #[.int .i64 0, .pointer (some ⟨P1, 0, none⟩), .pointer (some ⟨P2, 0, none⟩)] w fun r w' =>
      ∃ g : Nat, r = .returned (.tuple #[.agg #[.int .i64 0, .int .i64 0, .int .i64 0, .string ⟨#[]⟩], .iface 63 (.pointer (some ⟨g, 0, none⟩))]) ∧ Below w.heap.size w w' := by
  obtain ⟨h1, h2, h3, h4, h5, h6, h7, h8, h9⟩ := h
  have HT : Hid (∀ o, Calls Tryz.prog 23 #[.pointer (some ⟨sb, 0, none⟩), .int .i64 (p : Int)] (w.alloc o) fun r w' =>
    ∃ g : Nat, r = .returned (.tuple #[.agg #[.int .i64 0, .int .i64 0, .int .i64 0, .string ⟨#[]⟩], .iface 63 (.pointer (some ⟨g, 0, none⟩))]) ∧ Below (w.alloc o).heap.size (w.alloc o) w') :=
    Lib.hid (fun o => ht _ _ _ _ (h1.grow ((Below.refl _ _).alloc (Nat.le_refl _) o)))
  clear ht h1 h7 h8 h9
  go_enter Tryz.func22, Tryz.ntmps22
  go_wp2_with fail
  refine (HT.out _).mono ?_
  rintro r w2 ⟨g, rfl, hb⟩
  obtain ⟨⟨c0, c1, c2, c3⟩, ⟨z0, z1, z2, z3⟩, hz, hB⟩ := kept4 hb
  clear hb
  go_wp2_with fail
  obtain ⟨q0, q1, q2, q3⟩ := set4 c0 c1 c2 c3 (.int .i64 0) (.int .i64 0) (.int .i64 0) (.string ⟨#[]⟩)
  refine bodyPost_ret (v := .tuple #[.agg #[.int .i64 0, .int .i64 0, .int .i64 0, .string ⟨#[]⟩], .iface 63 (.pointer (some ⟨g, 0, none⟩))]) (by simp [results, Tryz.results22, go_sem, q0, q1, q2, q3, hz]) rfl ⟨g, rfl, ?_⟩
  exact (below_set4 hB (Nat.le_refl _) _ _ _ _).alloc (by simp; omega) _
end Go.Proofs.YtbojlohjmbhifaaGreatDoor

/-! What 'Tokens' returns: the tokens of a text, or that it is refused. -/
namespace Go.Proofs.YtbojlohjmbhifaaGreatDoor
open Go.RowKit Go.Proofs.YtbojlohjmbhifaaGreatDoorW.PrintWords Go.Proofs.YtbojlohjmbhifaaGreatDoorW.PrintMore

/-- A token: its kind, where it begins and ends, its text. -/
structure T where
  k : Int
  q : Nat
  e : Nat
  v : ByteArray

def tcell (t : T) : List Value := [.int .i64 t.k, .string t.v, .int .i64 (t.q : Int), .int .i64 (t.e : Int)]
def tcells (l : List T) : List Value := l.flatMap tcell

/-- The steps of the lexer from a place on: the tokens, and whether the text is not refused. -/
inductive Run (s : ByteArray) : Nat → List T → Bool → Prop
  | done {p q e : Nat} {v : ByteArray} : Tok s p 1 q e v → Run s p [] true
  | bad {p : Nat} : Bad s p → Run s p [] false
  | step {p q e : Nat} {k : Int} {v : ByteArray} {ts : List T} {b : Bool} : Tok s p k q e v → k ≠ 1 → p < e → e ≤ s.size → Run s e ts b → Run s p (⟨k, q, e, v⟩ :: ts) b

set_option maxHeartbeats 400000 in
set_option maxRecDepth 100000 in
theorem token_any (k a c : Int) (v : ByteArray) (w : World) :
    Calls Tryz.prog 20 #[.agg #[.int .i64 k, .int .i64 a, .int .i64 c, .string v]] w fun r w' => r = .returned (.agg #[.int .i64 k, .string v, .int .i64 a, .int .i64 c]) ∧ Below w.heap.size w w' := by
  go_enter Tryz.func20, Tryz.ntmps20
  go_wp2_with fail
  refine bodyPost_ret (v := .agg #[.int .i64 k, .string v, .int .i64 a, .int .i64 c]) (by simp [results, Tryz.results20, go_sem]) rfl ⟨rfl, ?_⟩
  exact ((Below.refl _ _).alloc (Nat.le_refl _) _).alloc (by simp) _

theorem info35 : (Tryz.prog.info? 35).map (fun i => (i.zero, i.size, i.bytes)) = some (some (.agg #[.int .i64 0, .string ⟨#[]⟩, .int .i64 0, .int .i64 0]), 4, 40) := by kernel_rfl

set_option maxHeartbeats 400000 in
set_option maxRecDepth 100000 in
theorem newSource_any (v : Addr) (n c : Nat) (w : World) :
    Calls Tryz.prog 19 #[.pointer (some ⟨w.heap.size, 0, none⟩)] (w.alloc (.cells #[.slice (some v) n c, .string ⟨#[]⟩] 47)) fun r w' =>
      r = .returned (.pointer (some ⟨w.heap.size, 0, none⟩)) ∧ w.alloc (.cells #[.slice (some v) n c, .string ⟨#[71, 114, 97, 112, 104, 81, 76]⟩] 47) = w' := by
  go_enter Tryz.func19, Tryz.ntmps19
  go_wp2_with fail
  go_ret
  exact ⟨rfl, rfl⟩

set_option maxHeartbeats 400000 in
set_option maxRecDepth 100000 in
theorem lex_any (g : Nat) (w : World) :
    Calls Tryz.prog 18 #[.pointer (some ⟨g, 0, none⟩)] w fun r w' =>
      r = .returned (.func (.func 22) #[] #[.pointer (some ⟨w.heap.size + 1, 0, none⟩), .pointer (some ⟨w.heap.size, 0, none⟩)]) ∧ (w.alloc (.cells #[.pointer (some ⟨g, 0, none⟩)] 44)).alloc (.cells #[.int .i64 0] 3) = w' := by
  have hmf : ∀ (fn : Fn) (first cap : Array Value) (w : World), (Instr.makeFunc fn first cap).run Tryz.prog w = .ok (.func fn first cap) w := fun _ _ _ _ => rfl
  go_enter Tryz.func18, Tryz.ntmps18
  go_wp2_with fail
  go_ret
  exact ⟨rfl, rfl⟩

theorem clo_start {w W1 : World} {cap : Nat} {s g : ByteArray} (hbw : Below w.heap.size w W1) (hz : w.heap.size < W1.heap.size)
    (hC : ∀ (j : Nat) (h : j < s.size), W1.cell? ⟨w.heap.size, j, none⟩ = some (.int .u8 ((s[j]'h).toNat : Int))) (hcap : s.size ≤ cap) (hs : s.size ≤ 4294967295) (ha : ∀ (j : Nat) (h : j < s.size), (s[j]'h).toNat < 128) :
    Clo (((W1.alloc (.cells #[.slice (some ⟨w.heap.size, 0, none⟩) s.size cap, .string g] 47)).alloc (.cells #[.pointer (some ⟨W1.heap.size, 0, none⟩)] 44)).alloc (.cells #[.int .i64 0] 3)) W1.heap.size w.heap.size cap s (W1.heap.size + 1 + 1) (W1.heap.size + 1) 0 := by
  have _h := hbw
  refine ⟨⟨?_, ?_, hcap, ?_, ?_, by omega, ha⟩, ?_, ?_, ?_, ?_, ?_, by omega, by omega, by omega⟩
  · rw [World.cell?_alloc_past _ _ _ (by simp; omega), World.cell?_alloc_past _ _ _ (by simp), World.cell?_alloc_at _ _ _ _ rfl]; rfl
  · intro j h
    rw [World.cell?_alloc_past _ _ _ (by simp; omega), World.cell?_alloc_past _ _ _ (by simp; omega), World.cell?_alloc_past _ _ _ hz]; exact hC j h
  · simp
    omega
  · simp
    omega
  · rw [World.cell?_alloc_at _ _ _ _ (by simp)]; rfl
  · exact World.frozen?_alloc_at _ _ _ _ (by simp)
  · rw [World.cell?_alloc_past _ _ _ (by simp), World.cell?_alloc_at _ _ _ _ (by simp)]; rfl
  · simp
  · simp

/-- The closure, one step on. -/
theorem Clo.next {w w' : World} {sb b cap : Nat} {s : ByteArray} {P1 P2 p e : Nat} (h : Clo w sb b cap s P1 P2 p) (hg : w.grownBy w' (some P1)) (h1 : w'.cell? ⟨P1, 0, none⟩ = some (.int .i64 (e : Int))) (h2 : w'.frozen? ⟨P1, 0, none⟩ = false) : Clo w' sb b cap s P1 P2 e := by
  have k : ∀ {B : Nat} (i : Nat), B < w.heap.size → B ≠ P1 → w'.cell? ⟨B, i, none⟩ = w.cell? ⟨B, i, none⟩ := fun i hB hne => World.cell?_of_block (hg.block _ hB (fun e => hne (by injection e)))
  have hz := hg.size
  have hs := h.src
  exact ⟨⟨(k 0 hs.lts (Ne.symm h.ne1)).trans hs.head, fun j hj => (k j hs.ltb (Ne.symm h.ne2)).trans (hs.cells j hj), hs.cap, Nat.lt_of_lt_of_le hs.lts hz, Nat.lt_of_lt_of_le hs.ltb hz, hs.size, hs.ascii⟩, h1, h2, (k 0 h.lt2 (Ne.symm h.ne3)).trans h.at_, Nat.lt_of_lt_of_le h.lt1 hz, Nat.lt_of_lt_of_le h.lt2 hz, h.ne1, h.ne2, h.ne3⟩

/-- The closure, where only other blocks, or new ones, have turned. -/
theorem Clo.keep {w w' : World} {sb b cap : Nat} {s : ByteArray} {P1 P2 p : Nat} (h : Clo w sb b cap s P1 P2 p) (hsz : w.heap.size ≤ w'.heap.size) (hk : ∀ B, B = sb ∨ B = b ∨ B = P1 ∨ B = P2 → w'.heap[B]? = w.heap[B]?) : Clo w' sb b cap s P1 P2 p := by
  have hs := h.src
  exact ⟨⟨(World.cell?_of_block (hk sb (.inl rfl))).trans hs.head, fun j hj => (World.cell?_of_block (hk b (.inr (.inl rfl)))).trans (hs.cells j hj), hs.cap, Nat.lt_of_lt_of_le hs.lts hsz, Nat.lt_of_lt_of_le hs.ltb hsz, hs.size, hs.ascii⟩,
    (World.cell?_of_block (hk P1 (.inr (.inr (.inl rfl))))).trans h.prev, (World.frozen?_of_block (hk P1 (.inr (.inr (.inl rfl))))).trans h.free, (World.cell?_of_block (hk P2 (.inr (.inr (.inr rfl))))).trans h.at_, Nat.lt_of_lt_of_le h.lt1 hsz, Nat.lt_of_lt_of_le h.lt2 hsz, h.ne1, h.ne2, h.ne3⟩

theorem owns_form {w : World} {base : Nat} {e : TypeId} {size n : Nat} {v : Value} {xs : List Value} (h : w.ownsRow base e size v n xs) : ∃ A c, v = .slice A n c := by
  rcases h.2 with ⟨rfl, rfl⟩ | ⟨g, cap, cur, rfl, _⟩
  · exact ⟨_, _, rfl⟩
  · exact ⟨_, _, rfl⟩

theorem owns_grown {w w' : World} {base : Nat} {e : TypeId} {size n g : Nat} {v : Value} {xs : List Value} (h : w.ownsRow base e size v n xs) (hg : w.grownBy w' (some g)) (hgb : g < base) : w'.ownsRow base e size v n xs := by
  refine ⟨h.1, ?_⟩
  rcases h.2 with h2 | ⟨k, cap, cur, hv, hk, hh, r⟩
  · exact .inl h2
  · refine .inr ⟨k, cap, cur, hv, hk, ?_, r⟩
    have hlt : k < w.heap.size := by
      rcases Nat.lt_or_ge k w.heap.size with h' | h'
      · exact h'
      · rw [Array.getElem?_eq_none h'] at hh; cases hh
    rw [hg.block k hlt (by intro e; injection e; omega)]
    exact hh

theorem owns_below {w w' w2 : World} {base : Nat} {e : TypeId} {size n : Nat} {v : Value} {xs : List Value} {o : Obj} (h : w.ownsRow base e size v n xs) (hb : Below (w.alloc o).heap.size (w.alloc o) w') (_h2 : w2 = w' := by rfl) : w'.ownsRow base e size v n xs := by
  refine ⟨h.1, ?_⟩
  rcases h.2 with h2 | ⟨k, cap, cur, hv, hk, hh, r⟩
  · exact .inl h2
  · refine .inr ⟨k, cap, cur, hv, hk, ?_, r⟩
    have hlt : k < w.heap.size := by
      rcases Nat.lt_or_ge k w.heap.size with h' | h'
      · exact h'
      · rw [Array.getElem?_eq_none h'] at hh; cases hh
    rw [hb.block k (by simp; omega), Below.heap_alloc _ _ _ hlt]
    exact hh

/-- Behind a token that is taken into the list: what lies ahead of the list's blocks is as it was. -/
theorem step_keep {w2 w3 w' : World} {base : Nat} {o o' : Obj} {v : Value} {n : Nat} {e : TypeId} {size : Nat} {xs : List Value} (hown : w2.ownsRow base e size v n xs) (hb3 : Below (w2.alloc o).heap.size (w2.alloc o) w3) (hg : (w3.alloc o').grownBy w' v.ownBlock) :
    w2.heap.size < w'.heap.size ∧ (∀ B, B < base → B < w2.heap.size → w'.heap[B]? = w2.heap[B]?) ∧ (∀ b0, b0 ≤ base → b0 ≤ w2.heap.size → Below b0 w2 w') := by
  have h1 := hb3.size
  have h2 := hg.size
  simp only [World.size_alloc] at h1 h2
  have hblk : ∀ B, B < base → B < w2.heap.size → w'.heap[B]? = w2.heap[B]? := by
    intro B hB hlt
    rw [hg.block B (by simp; omega) (by
      intro he
      have := hown.lt B he.symm
      omega), Below.heap_alloc _ _ _ (by omega), hb3.block B (by simp; omega), Below.heap_alloc _ _ _ hlt]
  exact ⟨by omega, hblk, fun b0 hb hb2 => ⟨hg.os.trans hb3.os, hg.tape.trans hb3.tape, hg.output.trans hb3.output, by omega, fun B hB => hblk B (by omega) (by omega)⟩⟩

/-- What 'Tokens' leaves: the tokens and true, or none and false. -/
def TokensEnd (ts : List T) (ok : Bool) (w : World) (r : Ending) (w' : World) : Prop :=
  ((ok = true ∧ ∃ v, r = .returned (.tuple #[v, .bool true]) ∧ w'.ownsRow w.heap.size 35 4 v ts.length (tcells ts)) ∨ (ok = false ∧ r = .returned (.tuple #[.slice none 0 0, .bool false]))) ∧ Below w.heap.size w w'

theorem owns_lower {w : World} {base b0 : Nat} {e : TypeId} {size n : Nat} {v : Value} {xs : List Value} (h : w.ownsRow base e size v n xs) (hb : b0 ≤ base) : w.ownsRow b0 e size v n xs := by
  refine ⟨h.1, ?_⟩
  rcases h.2 with h2 | ⟨k, cap, cur, hv, hk, r⟩
  · exact .inl h2
  · exact .inr ⟨k, cap, cur, hv, by omega, r⟩

set_option maxHeartbeats 2000000 in
set_option maxRecDepth 100000 in
theorem tokens_any (s : ByteArray) (hs : s.size ≤ 4294967295) (ha : ∀ (j : Nat) (h : j < s.size), (s[j]'h).toNat < 128) (ts : List T) (ok : Bool) (hr : Run s 0 ts ok) (w : World) :
    Calls Tryz.prog 9 #[.string s] w (TokensEnd ts ok w) := by
  have hmf : ∀ (fn : Fn) (first cap : Array Value) (w : World), (Instr.makeFunc fn first cap).run Tryz.prog w = .ok (.func fn first cap) w := fun _ _ _ _ => rfl
  have hcv := Lib.run_convert_string_bytes (P := Tryz.prog) w 9 32 5 s (u := .string) Tryz.underlying9 Tryz.underlying32 Tryz.underlying5
  have hsz := Lib.bytesWorld_size w 5 s
  have hbw := bytes_below (Below.refl w.heap.size w) (Nat.le_refl _) 5 s
  have hC : ∀ (j : Nat) (h : j < s.size), (Lib.bytesWorld w 5 s).cell? ⟨w.heap.size, j, none⟩ = some (.int .u8 ((s[j]'h).toNat : Int)) := by
    intro j h
    rw [Lib.bytesWorld_cell w 5 s j h]
    have h' : j < s.data.toList.length := by rw [Array.length_toList]; exact h
    simp [List.getD_eq_getElem?_getD, List.getElem?_eq_getElem h']
    rfl
  have hcap := grownCap_ge w s.size 0 5
  generalize Lib.bytesWorld w 5 s = W1 at *
  generalize grownCap w s.size 0 5 = cap at *
  have HC := Lib.hid hC
  have HSZ := Lib.hid hsz
  have HR := Lib.hid hr
  have HA := Lib.hid ha
  have hz1 : w.heap.size < W1.heap.size := by omega
  clear hC hsz hr ha
  go_enter Tryz.func9, Tryz.ntmps9
  go_wp2_with (first | (go_at_call 19; refine (newSource_any _ _ _ _).mono ?_; rintro r w' ⟨rfl, rfl⟩) | (go_at_call 18; refine (lex_any _ _).mono ?_; rintro r w' ⟨rfl, rfl⟩))
  have hclo := clo_start (g := ⟨#[71, 114, 97, 112, 104, 81, 76]⟩) hbw hz1 HC.out hcap hs HA.out
  have hbel : Below w.heap.size w (((W1.alloc (.cells #[.slice (some ⟨w.heap.size, 0, none⟩) s.size cap, .string ⟨#[71, 114, 97, 112, 104, 81, 76]⟩] 47)).alloc (.cells #[.pointer (some ⟨W1.heap.size, 0, none⟩)] 44)).alloc (.cells #[.int .i64 0] 3)) :=
    ((hbw.alloc (by omega) _).alloc (by simp; omega) _).alloc (by simp; omega) _
  have HCLO := Lib.hid hclo
  have HBEL := Lib.hid hbel
  clear hclo hbel hbw
  generalize W1.heap.size = N at *
  go_loopg [2] ts.length (fun gk v wr => ∃ (ds us : List T) (p : Nat), gk = us.length ∧ Hid (ts = ds ++ us) ∧ Run s p us ok ∧ ds.length ≤ p ∧ p ≤ s.size ∧ Clo wr N w.heap.size cap s (N + 1 + 1) (N + 1) p ∧ wr.ownsRow (N + 1 + 1 + 1) 35 4 v ds.length (tcells ds) ∧ N + 1 + 1 < wr.heap.size ∧ Below w.heap.size w wr)
  case atStart => exact ⟨[], ts, 0, rfl, Lib.hid rfl, HR.out, by simp, by omega, HCLO.out, World.ownsRow_nil _ _ _ _, HCLO.out.lt1, HBEL.out⟩
  case round =>
    obtain ⟨ds, us, p, hgk, HT, hrun, hdp, hp, hclo, hown, hn, hbel⟩ := hrel
    have hlen : (ds.length : Int) ≤ (s.size : Int) := by omega
    obtain ⟨A, c, rfl⟩ := owns_form hown
    have HO := Lib.hid hown
    have HK := Lib.hid hclo
    clear hown hclo
    subst hgk
    cases hrun with
    | bad hb =>
      have HB := Lib.hid hb
      clear hb
      go_wp2_with (go_at_call 22; refine (lex_bad HK.out HB.out).mono ?_; rintro r w2 ⟨g, rfl, hb2⟩)
      go_ret2
      exact ⟨.inr ⟨rfl, rfl⟩, (hbel.trans (hb2.mono hbel.size)).alloc (Nat.le_trans hbel.size hb2.size) _⟩
    | done ht =>
      have HB := Lib.hid ht
      clear ht
      go_wp2_with (go_at_call 22; refine (lex_tok HK.out _ _ _ _ HB.out).mono ?_; rintro r w2 ⟨rfl, hg, _, _⟩)
      go_ret2
      have ht := HT.out
      rw [List.append_nil] at ht
      subst ht
      refine ⟨.inl ⟨rfl, _, rfl, ?_⟩, ?_⟩
      · exact (owns_lower (owns_grown HO.out hg (Nat.lt_succ_self _)) (by omega)).alloc _
      · exact (hbel.grown hg hbel.size (fun k e => by injection e; omega)).alloc (Nat.le_trans hbel.size hg.size) _
    | @step p q e k v us b ht hk1 hpe hes hr =>
      have HB := Lib.hid ht
      have hk : (k == 1) = false := beq_eq_false_iff_ne.2 hk1
      have HRN := Lib.hid hr
      clear ht hk1 hr
      obtain ⟨i0, hi, hy0, hy1, hy2⟩ := info_parts info35
      go_wp2_with (first
        | (go_at_call 22; refine (lex_tok HK.out _ _ _ _ HB.out).mono ?_; rintro r w2 ⟨rfl, hg, g1, g2⟩; have hsz2 := hg.size)
        | (go_at_call 20; refine (token_any _ _ _ _ _).mono ?_; rintro r w3 ⟨rfl, hb3⟩)
        | (at_builtin; refine wpList_append_own _ rfl (.tmp 29) (.tmp 32) 22 rfl (N + 1 + 1 + 1) 35 i0 (.agg #[.int .i64 0, .string ⟨#[]⟩, .int .i64 0, .int .i64 0]) 4 40 Tryz.underlying22 hi hy0 hy1 hy2 rfl (by decide) _ _ _ rfl ((owns_below (owns_grown HO.out hg (Nat.lt_succ_self _)) hb3).alloc _) ⟨w3.heap.size, 0, none⟩ 1 1 [.int .i64 k, .string v, .int .i64 (q : Int), .int .i64 (e : Int)] rfl rfl ?c1 ?c2 ?c3 ?c4 ?c5 ?_))
      case c1 =>
        intro j u hj
        rw [add_plain, World.cell?_alloc_at _ _ _ _ rfl]
        simpa using hj
      case c2 =>
        intro u hu
        simp only [List.mem_cons, List.mem_nil_iff, or_false] at hu
        rcases hu with rfl | rfl | rfl | rfl <;> rfl
      case c3 => unfold maxLen; omega
      case c4 => omega
      case c5 => have := hb3.size; simp at this; simp; omega
      intro v' w' hown' hgrow _
      have hkeep := step_keep (owns_grown HO.out hg (Nat.lt_succ_self _)) hb3 hgrow
      obtain ⟨k1, k2, k3⟩ := hkeep
      have hclo2 := HK.out.next hg g1 g2
      have HC2 := Lib.hid (hclo2.keep (w' := w') (by omega) (fun B hB => k2 B (by rcases hB with rfl | rfl | rfl | rfl <;> omega) (by rcases hB with rfl | rfl | rfl | rfl <;> omega)))
      have HB2 := Lib.hid ((hbel.grown hg hbel.size (fun k e => by injection e; omega)).trans (k3 w.heap.size (by omega) (Nat.le_trans hbel.size hg.size)))
      have HO2 := Lib.hid hown'
      clear hown' hgrow k2 k3 hclo2 g1 g2 hg hb3
      go_wp2
      go_roundg us.length
      case measure => simp
      case rel =>
        refine ⟨ds ++ [⟨k, q, e, v⟩], us, e, rfl, Lib.hid (by rw [HT.out]; simp), HRN.out, by simp; omega, hes, HC2.out, ?_, by omega, HB2.out⟩
        have ho := HO2.out
        simpa [tcells, tcell] using ho
end Go.Proofs.YtbojlohjmbhifaaGreatDoor
