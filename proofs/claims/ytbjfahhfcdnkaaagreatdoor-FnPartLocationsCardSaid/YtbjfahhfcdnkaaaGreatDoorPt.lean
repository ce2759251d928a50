/- Texts as lists, names, rows of strings, the lexer's closure: the words of the parts. -/
import Derived.Test.YtbjfahhfcdnkaaaGreatDoorRt0
import Derived.Deep.LoopGhost
namespace Go.Proofs.YtbjfahhfcdnkaaaGreatDoor
open Go.RowKit Go.Proofs.YtbjfahhfcdnkaaaGreatDoorW.PrintWords Go.Proofs.YtbjfahhfcdnkaaaGreatDoorW.PrintMore

theorem far4 (w : World) {B B' : Nat} (hne : B' ≠ B) (v0 v1 v2 v3 : Value) (i : Nat) :
    ((((w.setCell ⟨B', 0, none⟩ v0).setCell ⟨B', 1, none⟩ v1).setCell ⟨B', 2, none⟩ v2).setCell ⟨B', 3, none⟩ v3).cell? ⟨B, i, none⟩ = w.cell? ⟨B, i, none⟩ := by
  have hf : ∀ (W : World) (j : Nat) (v : Value), (W.setCell ⟨B', j, none⟩ v).cell? ⟨B, i, none⟩ = W.cell? ⟨B, i, none⟩ := fun W j v => World.cell?_setCell_other _ _ _ _ (by intro e; injection e with e _; exact hne e)
  rw [hf, hf, hf, hf]

theorem grown_below {a w : World} {r : Option Nat} (h : Below a.heap.size a w) : a.grownBy w r := ⟨h.os, h.tape, h.output, h.size, fun i hi _ => h.block i hi⟩

theorem grown_set {a w : World} {g : Nat} (h : a.grownBy w (some g)) {p : Addr} (hp : p.block = g ∨ a.heap.size ≤ p.block) (u : Value) : a.grownBy (w.setCell p u) (some g) := by
  refine ⟨h.os, h.tape, h.output, by simpa [World.setCell] using h.size, fun i hi hne => (Below.heap_setCell w p u i ?_).trans (h.block i hi hne)⟩
  intro e
  rcases hp with hp | hp
  · exact hne (by rw [e, hp])
  · omega

theorem grown_alloc {a w : World} {r : Option Nat} (h : a.grownBy w r) (o : Obj) : a.grownBy (w.alloc o) r :=
  ⟨h.os, h.tape, h.output, Nat.le_trans h.size (by simp), fun i hi hne => (Below.heap_alloc w o i (Nat.lt_of_lt_of_le hi h.size)).trans (h.block i hi hne)⟩

theorem grown_drewN {a w : World} {r : Option Nat} (h : a.grownBy w r) (n : Nat) : a.grownBy (w.drewN n) r := ⟨h.os, h.tape, h.output, h.size, h.block⟩

theorem grown_trans {a b c : World} {r : Option Nat} (h : a.grownBy b r) (k : b.grownBy c r) : a.grownBy c r :=
  ⟨k.os.trans h.os, k.tape.trans h.tape, k.output.trans h.output, Nat.le_trans h.size k.size, fun i hi hr => (k.block i (Nat.lt_of_lt_of_le hi h.size) hr).trans (h.block i hi hr)⟩

theorem setCell_far (w : World) {p a : Addr} (v : Value) (h : p.block ≠ a.block) : (w.setCell p v).cell? a = w.cell? a := World.cell?_setCell_other _ _ _ _ (fun e => h (by rw [e]))

/-- What the closure has captured: where it is (P1), and the source (P2). -/
structure Clo (w : World) (sb b cap : Nat) (s : ByteArray) (P1 P2 : Nat) (p : Nat) : Prop where
  src : Src w sb b cap s
  prev : w.cell? ⟨P1, 0, none⟩ = some (.int .i64 (p : Int))
  free : w.frozen? ⟨P1, 0, none⟩ = false
  at_ : w.cell? ⟨P2, 0, none⟩ = some (.pointer (some ⟨sb, 0, none⟩))
  lt1 : P1 < w.heap.size
  lt2 : P2 < w.heap.size
  ne1 : P1 ≠ sb
  ne2 : P1 ≠ b
  ne3 : P1 ≠ P2

theorem clo_start {w W1 : World} {cap : Nat} {s g : ByteArray} (hbw : Below w.heap.size w W1) (hz : w.heap.size < W1.heap.size)
    (hC : ∀ (j : Nat) (h : j < s.size), W1.cell? ⟨w.heap.size, j, none⟩ = some (.int .u8 ((s[j]'h).toNat : Int))) (hcap : s.size ≤ cap) (hs : s.size ≤ 4294967295) (ha : ∀ (j : Nat) (h : j < s.size), (s[j]'h).toNat < 128) :
    Clo (((W1.alloc (.cells #[.slice (some ⟨w.heap.size, 0, none⟩) s.size cap, .string g] 106)).alloc (.cells #[.pointer (some ⟨W1.heap.size, 0, none⟩)] 58)).alloc (.cells #[.int .i64 0] 3)) W1.heap.size w.heap.size cap s (W1.heap.size + 1 + 1) (W1.heap.size + 1) 0 := by
  have _h := hbw
  refine ⟨⟨?_, ?_, hcap, ?_, ?_, by omega, ha⟩, ?_, ?_, ?_, ?_, ?_, by omega, by omega, by omega⟩
  · rw [World.cell?_alloc_past _ _ _ (by simp; omega), World.cell?_alloc_past _ _ _ (by simp), World.cell?_alloc_at _ _ _ _ rfl]; rfl
  · intro j h
    rw [World.cell?_alloc_past _ _ _ (by simp; omega), World.cell?_alloc_past _ _ _ (by simp; omega), World.cell?_alloc_past _ _ _ hz]; exact hC j h
  · simp
    omega
  · simp
    omega
  · rw [World.cell?_alloc_at _ _ _ _ (by simp)]; rfl
  · exact World.frozen?_alloc_at _ _ _ _ (by simp)
  · rw [World.cell?_alloc_past _ _ _ (by simp), World.cell?_alloc_at _ _ _ _ (by simp)]; rfl
  · simp
  · simp

/-- The closure, one step on. -/
theorem Clo.next {w w' : World} {sb b cap : Nat} {s : ByteArray} {P1 P2 p e : Nat} (h : Clo w sb b cap s P1 P2 p) (hg : w.grownBy w' (some P1)) (h1 : w'.cell? ⟨P1, 0, none⟩ = some (.int .i64 (e : Int))) (h2 : w'.frozen? ⟨P1, 0, none⟩ = false) : Clo w' sb b cap s P1 P2 e := by
  have k : ∀ {B : Nat} (i : Nat), B < w.heap.size → B ≠ P1 → w'.cell? ⟨B, i, none⟩ = w.cell? ⟨B, i, none⟩ := fun i hB hne => World.cell?_of_block (hg.block _ hB (fun e => hne (by injection e)))
  have hz := hg.size
  have hs := h.src
  exact ⟨⟨(k 0 hs.lts (Ne.symm h.ne1)).trans hs.head, fun j hj => (k j hs.ltb (Ne.symm h.ne2)).trans (hs.cells j hj), hs.cap, Nat.lt_of_lt_of_le hs.lts hz, Nat.lt_of_lt_of_le hs.ltb hz, hs.size, hs.ascii⟩, h1, h2, (k 0 h.lt2 (Ne.symm h.ne3)).trans h.at_, Nat.lt_of_lt_of_le h.lt1 hz, Nat.lt_of_lt_of_le h.lt2 hz, h.ne1, h.ne2, h.ne3⟩

/-- The closure, where only other blocks, or new ones, have turned. -/
theorem Clo.keep {w w' : World} {sb b cap : Nat} {s : ByteArray} {P1 P2 p : Nat} (h : Clo w sb b cap s P1 P2 p) (hsz : w.heap.size ≤ w'.heap.size) (hk : ∀ B, B = sb ∨ B = b ∨ B = P1 ∨ B = P2 → w'.heap[B]? = w.heap[B]?) : Clo w' sb b cap s P1 P2 p := by
  have hs := h.src
  exact ⟨⟨(World.cell?_of_block (hk sb (.inl rfl))).trans hs.head, fun j hj => (World.cell?_of_block (hk b (.inr (.inl rfl)))).trans (hs.cells j hj), hs.cap, Nat.lt_of_lt_of_le hs.lts hsz, Nat.lt_of_lt_of_le hs.ltb hsz, hs.size, hs.ascii⟩,
    (World.cell?_of_block (hk P1 (.inr (.inr (.inl rfl))))).trans h.prev, (World.frozen?_of_block (hk P1 (.inr (.inr (.inl rfl))))).trans h.free, (World.cell?_of_block (hk P2 (.inr (.inr (.inr rfl))))).trans h.at_, Nat.lt_of_lt_of_le h.lt1 hsz, Nat.lt_of_lt_of_le h.lt2 hsz, h.ne1, h.ne2, h.ne3⟩

theorem owns_form {w : World} {base : Nat} {e : TypeId} {size n : Nat} {v : Value} {xs : List Value} (h : w.ownsRow base e size v n xs) : ∃ A c, v = .slice A n c := by
  rcases h.2 with ⟨rfl, rfl⟩ | ⟨g, cap, cur, rfl, _⟩
  · exact ⟨_, _, rfl⟩
  · exact ⟨_, _, rfl⟩

theorem owns_grown {w w' : World} {base : Nat} {e : TypeId} {size n g : Nat} {v : Value} {xs : List Value} (h : w.ownsRow base e size v n xs) (hg : w.grownBy w' (some g)) (hgb : g < base) : w'.ownsRow base e size v n xs := by
  refine ⟨h.1, ?_⟩
  rcases h.2 with h2 | ⟨k, cap, cur, hv, hk, hh, r⟩
  · exact .inl h2
  · refine .inr ⟨k, cap, cur, hv, hk, ?_, r⟩
    have hlt : k < w.heap.size := by
      rcases Nat.lt_or_ge k w.heap.size with h' | h'
      · exact h'
      · rw [Array.getElem?_eq_none h'] at hh; cases hh
    rw [hg.block k hlt (by intro e; injection e; omega)]
    exact hh

theorem owns_below {w w' w2 : World} {base : Nat} {e : TypeId} {size n : Nat} {v : Value} {xs : List Value} {o : Obj} (h : w.ownsRow base e size v n xs) (hb : Below (w.alloc o).heap.size (w.alloc o) w') (_h2 : w2 = w' := by rfl) : w'.ownsRow base e size v n xs := by
  refine ⟨h.1, ?_⟩
  rcases h.2 with h2 | ⟨k, cap, cur, hv, hk, hh, r⟩
  · exact .inl h2
  · refine .inr ⟨k, cap, cur, hv, hk, ?_, r⟩
    have hlt : k < w.heap.size := by
      rcases Nat.lt_or_ge k w.heap.size with h' | h'
      · exact h'
      · rw [Array.getElem?_eq_none h'] at hh; cases hh
    rw [hb.block k (by simp; omega), Below.heap_alloc _ _ _ hlt]
    exact hh

theorem owns_lower {w : World} {base b0 : Nat} {e : TypeId} {size n : Nat} {v : Value} {xs : List Value} (h : w.ownsRow base e size v n xs) (hb : b0 ≤ base) : w.ownsRow b0 e size v n xs := by
  refine ⟨h.1, ?_⟩
  rcases h.2 with h2 | ⟨k, cap, cur, hv, hk, r⟩
  · exact .inl h2
  · exact .inr ⟨k, cap, cur, hv, by omega, r⟩

/-- The code at a place of a list: below 0 behind its end. -/
def lc (l : List UInt8) (j : Nat) : Int := match l[j]? with
  | some b => (b.toNat : Int)
  | none => -1

theorem cd_list (s : ByteArray) (j : Nat) : cd s j = lc s.data.toList j := by
  unfold lc
  by_cases h : j < s.size
  · have h' : j < s.data.toList.length := by rw [Array.length_toList]; exact h
    rw [cd_in h, List.getElem?_eq_getElem h']
    rfl
  · rw [cd_out (by omega), List.getElem?_eq_none (by rw [Array.length_toList]; show s.size ≤ j; omega)]

theorem lc_drop (l : List UInt8) (p j : Nat) : lc (l.drop p) j = lc l (p + j) := by
  unfold lc
  rw [List.getElem?_drop]

theorem lc_at (a : List UInt8) (c : UInt8) (r : List UInt8) : lc (a ++ c :: r) a.length = (c.toNat : Int) := by
  unfold lc
  simp

theorem lc_nil (j : Nat) : lc [] j = -1 := rfl

theorem lc_left {a r : List UInt8} {j : Nat} (h : j < a.length) : lc (a ++ r) j = (a[j].toNat : Int) := by
  unfold lc
  rw [List.getElem?_append_left h, List.getElem?_eq_getElem h]

theorem lc_right (a r : List UInt8) (j : Nat) : lc (a ++ r) (a.length + j) = lc r j := by
  unfold lc
  rw [List.getElem?_append_right (by omega), Nat.add_sub_cancel_left]

/-- From place p on the text is l. -/
structure From (s : ByteArray) (p : Nat) (l : List UInt8) : Prop where
  eq : s.data.toList.drop p = l
  le : p ≤ s.size

theorem From.size {s : ByteArray} {p : Nat} {l : List UInt8} (h : From s p l) : s.size = p + l.length := by
  have h1 := congrArg List.length h.eq
  rw [List.length_drop, Array.length_toList] at h1
  have h2 : s.data.size = s.size := rfl
  have := h.le
  omega

theorem From.code {s : ByteArray} {p : Nat} {l : List UInt8} (h : From s p l) (j : Nat) : cd s (p + j : Nat) = lc l j := by
  rw [cd_list, ← lc_drop, h.eq]

theorem From.at0 {s : ByteArray} {p : Nat} {l : List UInt8} (h : From s p l) : cd s p = lc l 0 := h.code 0

theorem From.skip {s : ByteArray} {p : Nat} {a l : List UInt8} (h : From s p (a ++ l)) : From s (p + a.length) l := by
  refine ⟨?_, by have := h.size; simp at this; omega⟩
  rw [← List.drop_drop, h.eq, List.drop_left]

theorem From.whole (s : ByteArray) : From s 0 s.data.toList := ⟨rfl, Nat.zero_le _⟩

theorem From.cut {s : ByteArray} {p : Nat} {a r : List UInt8} (h : From s p (a ++ r)) : s.extract p (p + a.length) = ⟨a.toArray⟩ := by
  have hz := h.size
  rw [List.length_append] at hz
  have hl := extract_list s p (p + a.length) (by omega)
  have e : (s.extract p (p + a.length)).data.toList = a := by
    refine List.ext_getElem (by omega) (fun j h1 h2 => ?_)
    rw [extract_get s p (p + a.length) j (by omega) h1]
    have hc := h.code j
    rw [cd_in (by omega), lc_left h2] at hc
    exact UInt8.toNat.inj (by omega)
  have e2 : (s.extract p (p + a.length)).data = a.toArray := by
    have e3 := congrArg List.toArray e
    rwa [Array.toArray_toList] at e3
  exact congrArg ByteArray.mk e2

def blank8 (c : UInt8) : Bool := c == 9 || c == 32 || c == 10 || c == 13 || c == 44

def digit8 (c : UInt8) : Bool := 48 ≤ c.toNat && c.toNat ≤ 57

def nameStart8 (c : UInt8) : Bool := (65 ≤ c.toNat && c.toNat ≤ 90) || (97 ≤ c.toNat && c.toNat ≤ 122) || c.toNat == 95

def nameChar8 (c : UInt8) : Bool := nameStart8 c || digit8 c

theorem blank_of {c : UInt8} (h : blank8 c = true) : blank (c.toNat : Int) := by
  unfold blank8 at h
  simp only [Bool.or_eq_true, beq_iff_eq] at h
  rcases h with (((h | h) | h) | h) | h <;> subst h <;> simp [blank]

theorem From.ahead {s : ByteArray} {p : Nat} {g t : List UInt8} (h : From s p (g ++ t)) (hg : ∀ c ∈ g, blank8 c = true) (ht : t ≠ []) : Ahead s p (p + g.length) := by
  have hz := h.size
  rw [List.length_append] at hz
  have hl : 0 < t.length := List.length_pos_iff.2 ht
  refine ⟨by omega, by omega, fun j h1 h2 => ?_⟩
  obtain ⟨i, rfl⟩ : ∃ i, j = p + i := ⟨j - p, by omega⟩
  have hi : i < g.length := by omega
  rw [h.code i, lc_left hi]
  exact blank_of (hg _ (List.getElem_mem hi))

theorem nameChar_of {c : UInt8} (h : nameChar8 c = true) : nameChar (c.toNat : Int) := by
  unfold nameChar8 nameStart8 digit8 at h
  simp only [Bool.or_eq_true, Bool.and_eq_true, decide_eq_true_eq, beq_iff_eq] at h
  unfold nameChar
  omega

theorem nameEnd_of {c : UInt8} (h : nameChar8 c = false) : nameEnd (c.toNat : Int) := by
  unfold nameChar8 nameStart8 digit8 at h
  simp only [Bool.or_eq_false_iff, Bool.and_eq_false_iff, decide_eq_false_iff_not, beq_eq_false_iff_ne] at h
  unfold nameEnd
  omega

theorem bt_list {s : ByteArray} {i : Nat} (h : i < s.data.toList.length) : bt s (i : Int) = ((s.data.toList[i]).toNat : Int) := by
  have h' : i < s.size := by rw [Array.length_toList] at h; exact h
  unfold bt
  rw [dif_pos (show ((i : Int).toNat) < s.size from h')]
  rfl

theorem size_list (s : ByteArray) : s.data.toList.length = s.size := Array.length_toList

theorem ba_ext {a b : ByteArray} (h : a.data.toList = b.data.toList) : a = b := by
  cases a with | mk a => cases b with | mk b =>
  exact congrArg ByteArray.mk (Array.toList_inj.1 h)

theorem ascii_list {s : ByteArray} (h : ∀ c ∈ s.data.toList, c.toNat < 128) : ∀ (j : Nat) (hj : j < s.size), (s[j]'hj).toNat < 128 := by
  intro j hj
  have h' : j < s.data.toList.length := by rw [Array.length_toList]; exact hj
  have hm : s.data.toList[j] ∈ s.data.toList := List.getElem_mem h'
  have he : s.data.toList[j] = s[j]'hj := by
    rw [Array.getElem_toList]
    rfl
  rw [← he]
  exact h _ hm

/-- The byte may stand at place i of a name. -/
def nameAt (i : Nat) (c : UInt8) : Bool := nameStart8 c || (i != 0 && digit8 c)

/-- All bytes from place i on may stand where they stand. -/
def namesFrom : Nat → List UInt8 → Bool
  | _, [] => true
  | i, c :: t => nameAt i c && namesFrom (i + 1) t

/-- A name of at most 40 bytes. -/
def name9 (s : ByteArray) : Bool := namesFrom 0 s.data.toList && !s.data.toList.isEmpty && decide (s.size ≤ 40)

theorem names_drop : ∀ (l : List UInt8) (i k : Nat), i ≤ l.length → (∀ j (h : j < l.length), j < i → nameAt (k + j) l[j] = true) → namesFrom k l = namesFrom (k + i) (l.drop i)
  | _, 0, _, _, _ => by simp
  | [], i + 1, _, h, _ => by simp at h
  | c :: t, i + 1, k, h, hj => by
    have h0 := hj 0 (by simp) (by omega)
    simp only [Nat.add_zero, List.getElem_cons_zero] at h0
    rw [namesFrom, h0, Bool.true_and, List.drop_succ_cons, show k + (i + 1) = k + 1 + i by omega]
    exact names_drop t i (k + 1) (by simpa using h) (fun j h1 h2 => by
      have := hj (j + 1) (by simpa using h1) (by omega)
      rw [show k + 1 + j = k + (j + 1) by omega]
      simpa using this)

theorem byte_class (c : UInt8) : (0 ≤ c.toNat ∧ c.toNat ≤ 47) ∨ (48 ≤ c.toNat ∧ c.toNat ≤ 57) ∨ (58 ≤ c.toNat ∧ c.toNat ≤ 64) ∨ (65 ≤ c.toNat ∧ c.toNat ≤ 90) ∨ (91 ≤ c.toNat ∧ c.toNat ≤ 94) ∨ (95 ≤ c.toNat ∧ c.toNat ≤ 95) ∨ (96 ≤ c.toNat ∧ c.toNat ≤ 96) ∨ (97 ≤ c.toNat ∧ c.toNat ≤ 122) ∨ (123 ≤ c.toNat ∧ c.toNat ≤ 255) := by
  have := c.toNat_lt
  omega

set_option maxHeartbeats 4000000 in
set_option maxRecDepth 100000 in
theorem isName9_any (s : ByteArray) (hs : s.size ≤ 2147483647) (w : World) : Calls Tryz.prog 9 #[.string s] w fun r w' => r = .returned (.bool (name9 s)) ∧ Drawn0 w w' := by
  go_enter Tryz.func9, Tryz.ntmps9
  go_wp2_with fail
  go_loopw [3] (fun x wr => ∃ i : Nat, i ≤ s.size ∧ x = .int .i64 i ∧ Hid (∀ j (h : j < s.data.toList.length), j < i → nameAt (0 + j) s.data.toList[j] = true) ∧ Drawn0 w wr) (fun x _ => s.size - (intOf x).toNat)
  case atStart => exact ⟨0, by omega, rfl, Lib.hid (fun j _ h => absurd h (Nat.not_lt_zero _)), by repeat (first | exact Drawn0.refl _ | apply Drawn0.step)⟩
  case round =>
    obtain ⟨i, hi, rfl, hall, ⟨m1, rfl⟩⟩ := hrel
    by_cases hlt : i < s.size
    · have hlt2 : (i : Int) < s.size := by omega
      have hi0 : (0 : Int) ≤ i := by omega
      have hl : i < s.data.toList.length := by rw [size_list]; exact hlt
      have hx4 : ∀ h : i < s.size, ((s[i]'h).toNat : Int) = bt s i := bt_at s i
      have hb := bt_list hl
      have hgo : nameAt (0 + i) s.data.toList[i] = true → Hid (∀ j (h : j < s.data.toList.length), j < i + 1 → nameAt (0 + j) s.data.toList[j] = true) := fun hp => Lib.hid (fun j hj h => by
        rcases Nat.lt_or_ge j i with h' | h'
        · exact hall.out j hj h'
        · obtain rfl : j = i := by omega
          exact hp)
      have hno : nameAt (0 + i) s.data.toList[i] = false → Hid (name9 s = false) := fun hp => Lib.hid (by
        unfold name9
        have e := names_drop s.data.toList i 0 (by omega) hall.out
        rw [List.drop_eq_getElem_cons hl, namesFrom, hp] at e
        rw [e]
        rfl)
      have HGO := Lib.hid hgo
      have HNO := Lib.hid hno
      clear hgo hno
      generalize hcc : s.data.toList[i] = c at *
      have hcl := byte_class c
      rcases hcl with hcl | hcl | hcl | hcl | hcl | hcl | hcl | hcl | hcl
      · have e0 : (bt s i == 95) = false := beq_eq_false_iff_ne.2 (by omega)
        have e1 : (bt s i != 95) = true := bne_iff_ne.2 (by omega)
        have e2 : decide (bt s i < 97) = true := decide_eq_true (by omega)
        have e3 : decide (122 < bt s i) = false := decide_eq_false (by omega)
        have e4 : decide (bt s i < 65) = true := decide_eq_true (by omega)
        have e5 : decide (90 < bt s i) = false := decide_eq_false (by omega)
        have e6 : decide (bt s i < 48) = true := decide_eq_true (by omega)
        have e7 : decide (57 < bt s i) = false := decide_eq_false (by omega)
        by_cases hz : i = 0
        · have ez : ((i : Int) == 0) = true := beq_iff_eq.2 (by omega)
          have hn := HNO.out (by unfold nameAt nameStart8 digit8; simp; omega)
          clear hz hb hcc hcl HGO HNO
          go_wp2_with fail
          go_ret
          exact ⟨by rw [hn.out]; rfl, by repeat (first | exact Drawn0.refl _ | apply Drawn0.step)⟩
        · have ez : ((i : Int) == 0) = false := beq_eq_false_iff_ne.2 (by omega)
          have hn := HNO.out (by unfold nameAt nameStart8 digit8; simp; omega)
          clear hb hcc hcl HGO HNO
          go_wp2_with fail
          go_ret
          exact ⟨by rw [hn.out]; rfl, by repeat (first | exact Drawn0.refl _ | apply Drawn0.step)⟩
      · have e0 : (bt s i == 95) = false := beq_eq_false_iff_ne.2 (by omega)
        have e1 : (bt s i != 95) = true := bne_iff_ne.2 (by omega)
        have e2 : decide (bt s i < 97) = true := decide_eq_true (by omega)
        have e3 : decide (122 < bt s i) = false := decide_eq_false (by omega)
        have e4 : decide (bt s i < 65) = true := decide_eq_true (by omega)
        have e5 : decide (90 < bt s i) = false := decide_eq_false (by omega)
        have e6 : decide (bt s i < 48) = false := decide_eq_false (by omega)
        have e7 : decide (57 < bt s i) = false := decide_eq_false (by omega)
        by_cases hz : i = 0
        · have ez : ((i : Int) == 0) = true := beq_iff_eq.2 (by omega)
          have hn := HNO.out (by unfold nameAt nameStart8 digit8; simp; omega)
          clear hz hb hcc hcl HGO HNO
          go_wp2_with fail
          go_ret
          exact ⟨by rw [hn.out]; rfl, by repeat (first | exact Drawn0.refl _ | apply Drawn0.step)⟩
        · have ez : ((i : Int) == 0) = false := beq_eq_false_iff_ne.2 (by omega)
          have hn := HGO.out (by unfold nameAt nameStart8 digit8; simp; omega)
          clear hb hcc hcl HGO HNO
          go_wp2_with fail
          go_round
          case rel => exact ⟨i + 1, by omega, by go_num, hn, by repeat (first | exact Drawn0.refl _ | apply Drawn0.step)⟩
          case measure => simp [intOf]; omega
      · have e0 : (bt s i == 95) = false := beq_eq_false_iff_ne.2 (by omega)
        have e1 : (bt s i != 95) = true := bne_iff_ne.2 (by omega)
        have e2 : decide (bt s i < 97) = true := decide_eq_true (by omega)
        have e3 : decide (122 < bt s i) = false := decide_eq_false (by omega)
        have e4 : decide (bt s i < 65) = true := decide_eq_true (by omega)
        have e5 : decide (90 < bt s i) = false := decide_eq_false (by omega)
        have e6 : decide (bt s i < 48) = false := decide_eq_false (by omega)
        have e7 : decide (57 < bt s i) = true := decide_eq_true (by omega)
        by_cases hz : i = 0
        · have ez : ((i : Int) == 0) = true := beq_iff_eq.2 (by omega)
          have hn := HNO.out (by unfold nameAt nameStart8 digit8; simp; omega)
          clear hz hb hcc hcl HGO HNO
          go_wp2_with fail
          go_ret
          exact ⟨by rw [hn.out]; rfl, by repeat (first | exact Drawn0.refl _ | apply Drawn0.step)⟩
        · have ez : ((i : Int) == 0) = false := beq_eq_false_iff_ne.2 (by omega)
          have hn := HNO.out (by unfold nameAt nameStart8 digit8; simp; omega)
          clear hb hcc hcl HGO HNO
          go_wp2_with fail
          go_ret
          exact ⟨by rw [hn.out]; rfl, by repeat (first | exact Drawn0.refl _ | apply Drawn0.step)⟩
      · have e0 : (bt s i == 95) = false := beq_eq_false_iff_ne.2 (by omega)
        have e1 : (bt s i != 95) = true := bne_iff_ne.2 (by omega)
        have e2 : decide (bt s i < 97) = true := decide_eq_true (by omega)
        have e3 : decide (122 < bt s i) = false := decide_eq_false (by omega)
        have e4 : decide (bt s i < 65) = false := decide_eq_false (by omega)
        have e5 : decide (90 < bt s i) = false := decide_eq_false (by omega)
        have e6 : decide (bt s i < 48) = false := decide_eq_false (by omega)
        have e7 : decide (57 < bt s i) = true := decide_eq_true (by omega)
        have hn := HGO.out (by unfold nameAt nameStart8 digit8; simp; omega)
        clear hb hcc hcl HGO HNO
        go_wp2_with fail
        go_round
        case rel => exact ⟨i + 1, by omega, by go_num, hn, by repeat (first | exact Drawn0.refl _ | apply Drawn0.step)⟩
        case measure => simp [intOf]; omega
      · have e0 : (bt s i == 95) = false := beq_eq_false_iff_ne.2 (by omega)
        have e1 : (bt s i != 95) = true := bne_iff_ne.2 (by omega)
        have e2 : decide (bt s i < 97) = true := decide_eq_true (by omega)
        have e3 : decide (122 < bt s i) = false := decide_eq_false (by omega)
        have e4 : decide (bt s i < 65) = false := decide_eq_false (by omega)
        have e5 : decide (90 < bt s i) = true := decide_eq_true (by omega)
        have e6 : decide (bt s i < 48) = false := decide_eq_false (by omega)
        have e7 : decide (57 < bt s i) = true := decide_eq_true (by omega)
        by_cases hz : i = 0
        · have ez : ((i : Int) == 0) = true := beq_iff_eq.2 (by omega)
          have hn := HNO.out (by unfold nameAt nameStart8 digit8; simp; omega)
          clear hz hb hcc hcl HGO HNO
          go_wp2_with fail
          go_ret
          exact ⟨by rw [hn.out]; rfl, by repeat (first | exact Drawn0.refl _ | apply Drawn0.step)⟩
        · have ez : ((i : Int) == 0) = false := beq_eq_false_iff_ne.2 (by omega)
          have hn := HNO.out (by unfold nameAt nameStart8 digit8; simp; omega)
          clear hb hcc hcl HGO HNO
          go_wp2_with fail
          go_ret
          exact ⟨by rw [hn.out]; rfl, by repeat (first | exact Drawn0.refl _ | apply Drawn0.step)⟩
      · have e0 : (bt s i == 95) = true := beq_iff_eq.2 (by omega)
        have e1 : (bt s i != 95) = false := bne_eq_false_iff_eq.2 (by omega)
        have e2 : decide (bt s i < 97) = true := decide_eq_true (by omega)
        have e3 : decide (122 < bt s i) = false := decide_eq_false (by omega)
        have e4 : decide (bt s i < 65) = false := decide_eq_false (by omega)
        have e5 : decide (90 < bt s i) = true := decide_eq_true (by omega)
        have e6 : decide (bt s i < 48) = false := decide_eq_false (by omega)
        have e7 : decide (57 < bt s i) = true := decide_eq_true (by omega)
        have hn := HGO.out (by unfold nameAt nameStart8 digit8; simp; omega)
        clear hb hcc hcl HGO HNO
        go_wp2_with fail
        go_round
        case rel => exact ⟨i + 1, by omega, by go_num, hn, by repeat (first | exact Drawn0.refl _ | apply Drawn0.step)⟩
        case measure => simp [intOf]; omega
      · have e0 : (bt s i == 95) = false := beq_eq_false_iff_ne.2 (by omega)
        have e1 : (bt s i != 95) = true := bne_iff_ne.2 (by omega)
        have e2 : decide (bt s i < 97) = true := decide_eq_true (by omega)
        have e3 : decide (122 < bt s i) = false := decide_eq_false (by omega)
        have e4 : decide (bt s i < 65) = false := decide_eq_false (by omega)
        have e5 : decide (90 < bt s i) = true := decide_eq_true (by omega)
        have e6 : decide (bt s i < 48) = false := decide_eq_false (by omega)
        have e7 : decide (57 < bt s i) = true := decide_eq_true (by omega)
        by_cases hz : i = 0
        · have ez : ((i : Int) == 0) = true := beq_iff_eq.2 (by omega)
          have hn := HNO.out (by unfold nameAt nameStart8 digit8; simp; omega)
          clear hz hb hcc hcl HGO HNO
          go_wp2_with fail
          go_ret
          exact ⟨by rw [hn.out]; rfl, by repeat (first | exact Drawn0.refl _ | apply Drawn0.step)⟩
        · have ez : ((i : Int) == 0) = false := beq_eq_false_iff_ne.2 (by omega)
          have hn := HNO.out (by unfold nameAt nameStart8 digit8; simp; omega)
          clear hb hcc hcl HGO HNO
          go_wp2_with fail
          go_ret
          exact ⟨by rw [hn.out]; rfl, by repeat (first | exact Drawn0.refl _ | apply Drawn0.step)⟩
      · have e0 : (bt s i == 95) = false := beq_eq_false_iff_ne.2 (by omega)
        have e1 : (bt s i != 95) = true := bne_iff_ne.2 (by omega)
        have e2 : decide (bt s i < 97) = false := decide_eq_false (by omega)
        have e3 : decide (122 < bt s i) = false := decide_eq_false (by omega)
        have e4 : decide (bt s i < 65) = false := decide_eq_false (by omega)
        have e5 : decide (90 < bt s i) = true := decide_eq_true (by omega)
        have e6 : decide (bt s i < 48) = false := decide_eq_false (by omega)
        have e7 : decide (57 < bt s i) = true := decide_eq_true (by omega)
        have hn := HGO.out (by unfold nameAt nameStart8 digit8; simp; omega)
        clear hb hcc hcl HGO HNO
        go_wp2_with fail
        go_round
        case rel => exact ⟨i + 1, by omega, by go_num, hn, by repeat (first | exact Drawn0.refl _ | apply Drawn0.step)⟩
        case measure => simp [intOf]; omega
      · have e0 : (bt s i == 95) = false := beq_eq_false_iff_ne.2 (by omega)
        have e1 : (bt s i != 95) = true := bne_iff_ne.2 (by omega)
        have e2 : decide (bt s i < 97) = false := decide_eq_false (by omega)
        have e3 : decide (122 < bt s i) = true := decide_eq_true (by omega)
        have e4 : decide (bt s i < 65) = false := decide_eq_false (by omega)
        have e5 : decide (90 < bt s i) = true := decide_eq_true (by omega)
        have e6 : decide (bt s i < 48) = false := decide_eq_false (by omega)
        have e7 : decide (57 < bt s i) = true := decide_eq_true (by omega)
        by_cases hz : i = 0
        · have ez : ((i : Int) == 0) = true := beq_iff_eq.2 (by omega)
          have hn := HNO.out (by unfold nameAt nameStart8 digit8; simp; omega)
          clear hz hb hcc hcl HGO HNO
          go_wp2_with fail
          go_ret
          exact ⟨by rw [hn.out]; rfl, by repeat (first | exact Drawn0.refl _ | apply Drawn0.step)⟩
        · have ez : ((i : Int) == 0) = false := beq_eq_false_iff_ne.2 (by omega)
          have hn := HNO.out (by unfold nameAt nameStart8 digit8; simp; omega)
          clear hb hcc hcl HGO HNO
          go_wp2_with fail
          go_ret
          exact ⟨by rw [hn.out]; rfl, by repeat (first | exact Drawn0.refl _ | apply Drawn0.step)⟩
    · obtain rfl : i = s.size := by omega
      have e := names_drop s.data.toList s.size 0 (by rw [size_list]; omega) hall.out
      rw [List.drop_of_length_le (by rw [size_list]; omega), namesFrom] at e
      cases hl : s.data.toList with
      | nil =>
        have hv : name9 s = false := by unfold name9; rw [hl]; simp
        have he : (s.toList == ([] : List UInt8)) = true := by rw [ByteArray.toList_eq, hl]; rfl
        have he2 : (s.toList != ([] : List UInt8)) = false := by rw [ByteArray.toList_eq, hl]; rfl
        have HV := Lib.hid hv
        clear hv e
        go_wp2_with fail
        go_ret
        exact ⟨by rw [HV.out]; rfl, by repeat (first | exact Drawn0.refl _ | apply Drawn0.step)⟩
      | cons c t =>
        have hv : name9 s = decide ((s.size : Int) ≤ 40) := by
          unfold name9
          rw [e, hl]
          simp only [List.isEmpty_cons, Bool.not_false, Bool.and_true, Bool.true_and]
          exact decide_eq_decide.2 (by omega)
        have he : (s.toList == ([] : List UInt8)) = false := by rw [ByteArray.toList_eq, hl]; rfl
        have he2 : (s.toList != ([] : List UInt8)) = true := by rw [ByteArray.toList_eq, hl]; rfl
        have HV := Lib.hid hv
        clear hv e
        go_wp2_with fail
        go_ret
        exact ⟨by rw [HV.out]; simp, by repeat (first | exact Drawn0.refl _ | apply Drawn0.step)⟩

/-- A row of strings that is read. -/
def RowS (w : World) (A : Option Addr) (l : List ByteArray) : Prop := ∀ (i : Nat) (h : i < l.length), ∃ b o, A = some ⟨b, o, none⟩ ∧ b < w.heap.size ∧ w.cell? ⟨b, o + i, none⟩ = some (.string l[i])

/-- A row of bytes that is read. -/
def RowB (w : World) (A : Option Addr) (l : List Int) : Prop := ∀ (i : Nat) (h : i < l.length), ∃ b o, A = some ⟨b, o, none⟩ ∧ b < w.heap.size ∧ w.cell? ⟨b, o + i, none⟩ = some (.int .u8 l[i]) ∧ 0 ≤ l[i] ∧ l[i] ≤ 255

theorem RowS.below {w w' : World} {A : Option Addr} {l : List ByteArray} (h : RowS w A l) (hb : Below w.heap.size w w') : RowS w' A l := by
  intro i hi
  obtain ⟨b, o, e, hlt, hc⟩ := h i hi
  exact ⟨b, o, e, Nat.lt_of_lt_of_le hlt hb.size, (hb.cell hlt).trans hc⟩

theorem RowB.below {w w' : World} {A : Option Addr} {l : List Int} (h : RowB w A l) (hb : Below w.heap.size w w') : RowB w' A l := by
  intro i hi
  obtain ⟨b, o, e, hlt, hc, hr⟩ := h i hi
  exact ⟨b, o, e, Nat.lt_of_lt_of_le hlt hb.size, (hb.cell hlt).trans hc, hr⟩

set_option maxHeartbeats 1000000 in
set_option maxRecDepth 100000 in
theorem fits_any {w : World} {A : Option Addr} {l : List ByteArray} {cap : Nat} (h : RowS w A l) :
    Calls Tryz.prog 5 #[.slice A l.length cap] w fun r w' => (∃ b, r = .returned (.bool b) ∧ (b = true → l.length ≤ 2147483647 ∧ ∀ s ∈ l, s.size ≤ 2147483647)) ∧ Drawn0 w w' := by
  have H := Lib.hid h
  clear h
  by_cases b1 : (2147483647 : Int) < l.length
  · go_enter Tryz.func5, Tryz.ntmps5
    go_wp2_with fail
    go_ret
    exact ⟨⟨false, rfl, fun e => by cases e⟩, Drawn0.refl _⟩
  go_enter Tryz.func5, Tryz.ntmps5
  go_wp2_with fail
  go_loopw [10] (fun x wr => ∃ i : Nat, i ≤ l.length ∧ x = .int .i64 i ∧ Hid (∀ (j : Nat) (h : j < l.length), j < i → (l[j]).size ≤ 2147483647) ∧ Drawn0 w wr) (fun x _ => l.length - (intOf x).toNat)
  case atStart => exact ⟨0, by omega, rfl, Lib.hid (fun j _ h => absurd h (Nat.not_lt_zero _)), by repeat (first | exact Drawn0.refl _ | apply Drawn0.step)⟩
  case round =>
    obtain ⟨i, hi, rfl, hall, ⟨m1, rfl⟩⟩ := hrel
    by_cases hlt : i < l.length
    · obtain ⟨b, o, rfl, hb, hc⟩ := H.out i hlt
      have hlt2 : (i : Int) < l.length := by omega
      by_cases b2 : (2147483647 : Int) < (l[i]).size
      · go_wp2_with fail
        go_ret
        exact ⟨⟨false, rfl, fun e => by cases e⟩, by repeat (first | exact Drawn0.refl _ | apply Drawn0.step)⟩
      · go_wp2_with fail
        go_round
        case rel => exact ⟨i + 1, by omega, by go_num, Lib.hid (fun j hj h => by
          rcases Nat.lt_or_ge j i with h' | h'
          · exact hall.out j hj h'
          · obtain rfl : j = i := by omega
            omega), by repeat (first | exact Drawn0.refl _ | apply Drawn0.step)⟩
        case measure => simp [intOf]; omega
    · obtain rfl : i = l.length := by omega
      go_wp2_with fail
      go_ret
      refine ⟨⟨true, rfl, fun _ => ⟨by omega, fun s hs => ?_⟩⟩, by repeat (first | exact Drawn0.refl _ | apply Drawn0.step)⟩
      obtain ⟨j, hj, rfl⟩ := List.getElem_of_mem hs
      exact hall.out j hj hj

theorem namesFrom_all : ∀ (l : List UInt8) (i : Nat), 0 < i → namesFrom i l = true → ∀ c ∈ l, nameChar8 c = true
  | [], _, _, _, c, h => by cases h
  | d :: t, i, hi, hn, c, h => by
    rw [namesFrom, Bool.and_eq_true] at hn
    rcases List.mem_cons.1 h with rfl | h
    · have h1 := hn.1
      unfold nameAt at h1
      unfold nameChar8
      rw [Bool.or_eq_true] at h1 ⊢
      rcases h1 with h1 | h1
      · exact .inl h1
      · rw [Bool.and_eq_true] at h1
        exact .inr h1.2
    · exact namesFrom_all t (i + 1) (by omega) hn.2 c h

theorem name9_list {s : ByteArray} (h : name9 s = true) : ∃ c t, s.data.toList = c :: t ∧ nameStart8 c = true ∧ (∀ d ∈ t, nameChar8 d = true) ∧ s.size ≤ 40 := by
  unfold name9 at h
  simp only [Bool.and_eq_true, decide_eq_true_eq, Bool.not_eq_true'] at h
  obtain ⟨⟨h1, h2⟩, h3⟩ := h
  cases hl : s.data.toList with
  | nil => rw [hl] at h2; simp at h2
  | cons c t =>
    rw [hl, namesFrom, Bool.and_eq_true] at h1
    refine ⟨c, t, rfl, ?_, namesFrom_all t 1 (by omega) h1.2, h3⟩
    have h4 := h1.1
    unfold nameAt at h4
    simpa using h4

theorem nameChar_ascii {c : UInt8} (h : nameChar8 c = true) : c.toNat < 128 := by
  have := nameChar_of h
  unfold nameChar at this
  omega

end Go.Proofs.YtbjfahhfcdnkaaaGreatDoor
