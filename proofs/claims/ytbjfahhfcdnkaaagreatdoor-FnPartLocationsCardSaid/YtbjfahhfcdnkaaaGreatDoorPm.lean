/- The plain law: which tokens the text of the names has. -/
import Derived.Test.YtbjfahhfcdnkaaaGreatDoorPk
import Derived.Test.YtbjfahhfcdnkaaaGreatDoorPl
namespace Go.Proofs.YtbjfahhfcdnkaaaGreatDoor
open Go.RowKit Go.Proofs.YtbjfahhfcdnkaaaGreatDoorW.PrintWords Go.Proofs.YtbjfahhfcdnkaaaGreatDoorW.PrintMore

/-- The text from name i on, to its end. -/
def tailS (sg fin : UInt8) : List ByteArray → Nat → List UInt8
  | [], _ => [32, fin]
  | n :: r, i => sep sg i ++ (n.data.toList ++ tailS sg fin r (i + 1))

theorem textTo_tail (sg fin : UInt8) (ns : List ByteArray) : ∀ i, i ≤ ns.length → textTo sg ns i ++ tailS sg fin (ns.drop i) i = tailS sg fin ns 0
  | 0, _ => by simp [textTo]
  | i + 1, h => by
    have ih := textTo_tail sg fin ns i (by omega)
    rw [← ih, List.drop_eq_getElem_cons (show i < ns.length by omega)]
    have hg : ns.getD i ByteArray.empty = ns[i] := by simp [List.getD_eq_getElem?_getD, List.getElem?_eq_getElem (show i < ns.length by omega)]
    rw [textTo, hg, tailS]
    simp

theorem text_tail (sg fin : UInt8) (ns : List ByteArray) : textTo sg ns ns.length ++ [32, fin] = tailS sg fin ns 0 := by
  have h := textTo_tail sg fin ns ns.length (Nat.le_refl _)
  rwa [List.drop_length] at h

theorem tail_blank (sg fin : UInt8) (l : List ByteArray) (i : Nat) : ∀ d r', tailS sg fin l (i + 1) = d :: r' → nameChar8 d = false := by
  intro d r' h
  have hd : d = 32 := by
    cases l with
    | nil => simp only [tailS, List.cons.injEq] at h; exact h.1.symm
    | cons n r => simp only [tailS, sep, Nat.succ_ne_zero, if_false, List.cons_append, List.cons.injEq] at h; exact h.1.symm
  subst hd
  decide

/-- A name at a place. -/
theorem nameTok {s : ByteArray} {p : Nat} {g r : List UInt8} {n : ByteArray} (hn : name9 n = true) (h : From s p (g ++ (n.data.toList ++ r))) (hg : ∀ c ∈ g, blank8 c = true) (hr : ∀ d r', r = d :: r' → nameChar8 d = false) : Tok s p 15 (p + g.length) (p + g.length + n.size) n := by
  obtain ⟨c, t, e, hc, ht, _⟩ := name9_list hn
  rw [e] at h
  have hk := name_at h hg hc ht hr
  have hz : n.size = t.length + 1 := by rw [← size_list, e]; rfl
  have hv : (⟨(c :: t).toArray⟩ : ByteArray) = n := ba_ext (by rw [e])
  rw [hz, ← hv]
  exact hk

theorem name_pos {n : ByteArray} (hn : name9 n = true) : 0 < n.size := by
  obtain ⟨c, t, e, _⟩ := name9_list hn
  rw [← size_list, e]
  simp

theorem chain_of {s : ByteArray} {sg fin : UInt8} {K kf : Int} (hsg : ∀ p q, Ahead s p q → cd s q = (sg.toNat : Int) → Tok s p K q (q + 1) ⟨#[]⟩) (hfin : ∀ p q, Ahead s p q → cd s q = (fin.toNat : Int) → Tok s p kf q (q + 1) ⟨#[]⟩) (hkf : kf ≠ K) :
    ∀ (l : List ByteArray) (n : ByteArray) (i p : Nat), name9 n = true → (∀ m ∈ l, name9 m = true) → From s p (n.data.toList ++ tailS sg fin l (i + 1)) → Chain s K (s.size - 1) ⟨15, p, p + n.size, n⟩ (n :: l)
  | [], n, i, p, hn, _, h => by
    have h1 : From s (p + n.size) [32, fin] := by have := h.skip; rwa [size_list] at this
    have hz := h1.size
    simp only [List.length_cons, List.length_nil] at hz
    have ha : Ahead s (p + n.size) (p + n.size + 1) := by
      have := From.ahead (g := [32]) (t := [fin]) h1 (by simp; decide) (by simp)
      simpa using this
    have ht := hfin _ _ ha (by rw [h1.code 1]; rfl)
    exact .last rfl (by have := name_pos hn; show 0 < p + n.size; omega) ht hkf (by omega)
  | m :: r, n, i, p, hn, hl, h => by
    have hm := hl m (by simp)
    have h1 : From s (p + n.size) ([32] ++ (sg :: ([32] ++ (m.data.toList ++ tailS sg fin r (i + 1 + 1))))) := by
      have := h.skip
      rw [size_list] at this
      simpa [tailS, sep] using this
    have ha : Ahead s (p + n.size) (p + n.size + 1) := by
      have := From.ahead h1 (by simp; decide) (by simp)
      simpa using this
    have ht := hsg _ _ ha (by rw [h1.code 1]; rfl)
    have h2 : From s (p + n.size + 1 + 1) ([32] ++ (m.data.toList ++ tailS sg fin r (i + 1 + 1))) := by
      have h3 : From s (p + n.size + 1) ([sg] ++ ([32] ++ (m.data.toList ++ tailS sg fin r (i + 1 + 1)))) := by simpa using h1.skip
      simpa using h3.skip
    have hk := nameTok hm h2 (by simp; decide) (tail_blank sg fin r (i + 1))
    have h4 : From s (p + n.size + 1 + 1 + 1) (m.data.toList ++ tailS sg fin r (i + 1 + 1)) := by simpa using h2.skip
    have hc := chain_of hsg hfin hkf r m (i + 1) _ hm (fun x hx => hl x (by simp [hx])) h4
    exact .more rfl (by have := name_pos hn; show 0 < p + n.size; omega) ht (by omega) hk hc
end Go.Proofs.YtbjfahhfcdnkaaaGreatDoor
