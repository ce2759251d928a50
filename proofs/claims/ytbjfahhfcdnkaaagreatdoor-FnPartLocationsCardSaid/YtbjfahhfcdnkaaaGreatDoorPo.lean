/- FnPartImplements: the walk. -/
import Derived.Test.YtbjfahhfcdnkaaaGreatDoorPm
namespace Go.Proofs.YtbjfahhfcdnkaaaGreatDoor
open Go.RowKit Go.Proofs.YtbjfahhfcdnkaaaGreatDoorW.PrintWords Go.Proofs.YtbjfahhfcdnkaaaGreatDoorW.PrintMore

def impWord : ByteArray := ⟨#[105, 109, 112, 108, 101, 109, 101, 110, 116, 115]⟩
theorem impWord_name : name9 impWord = true := by decide

theorem name_bytes {n : ByteArray} (hn : name9 n = true) : (∀ c ∈ n.data.toList, c.toNat < 128) ∧ n.data.toList.length ≤ 40 := by
  obtain ⟨c, t, e, hc, ht, hz⟩ := name9_list hn
  refine ⟨fun x hx => ?_, by rw [size_list]; exact hz⟩
  rw [e] at hx
  rcases List.mem_cons.1 hx with rfl | hx
  · exact nameChar_ascii (by unfold nameChar8; rw [hc]; rfl)
  · exact nameChar_ascii (ht x hx)

theorem tail_ascii (sg fin : UInt8) (h1 : sg.toNat < 128) (h2 : fin.toNat < 128) : ∀ (l : List ByteArray) (i : Nat), (∀ m ∈ l, name9 m = true) → ∀ c ∈ tailS sg fin l i, c.toNat < 128
  | [], i, _, c, hc => by
    simp only [tailS, List.mem_cons, List.mem_nil_iff, or_false] at hc
    rcases hc with rfl | rfl
    · decide
    · exact h2
  | n :: r, i, hl, c, hc => by
    simp only [tailS, List.mem_append] at hc
    rcases hc with hc | hc | hc
    · unfold sep at hc
      split at hc
      · cases hc
      · simp only [List.mem_cons, List.mem_nil_iff, or_false] at hc
        rcases hc with rfl | rfl | rfl
        · decide
        · exact h1
        · decide
    · exact (name_bytes (hl n (by simp))).1 c hc
    · exact tail_ascii sg fin h1 h2 r (i + 1) (fun m hm => hl m (by simp [hm])) c hc
theorem tail_len (sg fin : UInt8) : ∀ (l : List ByteArray) (i : Nat), (∀ m ∈ l, name9 m = true) → (tailS sg fin l i).length ≤ 43 * l.length + 2
  | [], i, _ => by simp [tailS]
  | n :: r, i, hl => by
    have ih := tail_len sg fin r (i + 1) (fun m hm => hl m (by simp [hm]))
    have hn := (name_bytes (hl n (by simp))).2
    have hs : (sep sg i).length ≤ 3 := by unfold sep; split <;> simp
    simp only [tailS, List.length_append, List.length_cons]
    omega

theorem impl_text {s : ByteArray} (ahead : Bool) (ns : List ByteArray) (hall : ∀ m ∈ ns, name9 m = true) (h0 : 0 < ns.length) (hs : s.data.toList = impWord.data.toList ++ ([32] ++ ((if ahead then [38, 32] else []) ++ tailS 38 123 ns 0))) :
    Tok s 0 15 0 10 impWord ∧ ∃ (k1 : Int) (q1 e1 : Nat) (v1 : ByteArray), Tok s 10 k1 q1 e1 v1 ∧ Start s (s.size - 1) ⟨k1, q1, e1, v1⟩ ns := by
  have hw : From s 0 ([] ++ (impWord.data.toList ++ ([32] ++ ((if ahead then [38, 32] else []) ++ tailS 38 123 ns 0)))) := by
    rw [List.nil_append, ← hs]
    exact From.whole s
  have ht0 := nameTok impWord_name hw (by simp) (by
    intro d r' e
    simp only [List.cons_append, List.nil_append, List.cons.injEq] at e
    rw [← e.1]
    decide)
  have h1 : From s 10 ([32] ++ ((if ahead then [38, 32] else []) ++ tailS 38 123 ns 0)) := by
    rw [List.nil_append] at hw
    exact hw.skip
  refine ⟨ht0, ?_⟩
  cases ns with
  | nil => simp at h0
  | cons n l =>
    have hn := hall n (by simp)
    have hl : ∀ m ∈ l, name9 m = true := fun m hm => hall m (by simp [hm])
    have hch := fun p h => chain_of (s := s) (sg := 38) (fin := 123) (K := 20) (kf := 12) (fun p q ha hc => tok_amp s p q ha hc) (fun p q ha hc => tok_braceL s p q ha hc) (by decide) l n 0 p hn hl h
    cases ahead with
    | false =>
      have h2 : From s 10 ([32] ++ (n.data.toList ++ tailS 38 123 l (0 + 1))) := by simpa [tailS, sep] using h1
      have hk := nameTok hn h2 (by simp; decide) (tail_blank 38 123 l 0)
      exact ⟨15, _, _, n, hk, .inl ⟨rfl, hch _ (by simpa using h2.skip)⟩⟩
    | true =>
      have h2 : From s 10 ([32] ++ (38 :: ([32] ++ (n.data.toList ++ tailS 38 123 l (0 + 1))))) := by simpa [tailS, sep] using h1
      have ha : Ahead s 10 11 := by
        have := From.ahead h2 (by simp; decide) (by simp)
        simpa using this
      have ht := tok_amp s 10 11 ha (by rw [h2.code 1]; rfl)
      have h3 : From s 12 ([32] ++ (n.data.toList ++ tailS 38 123 l (0 + 1))) := by
        have h4 : From s 11 ([38] ++ ([32] ++ (n.data.toList ++ tailS 38 123 l (0 + 1)))) := by simpa using h2.skip
        simpa using h4.skip
      have hk := nameTok hn h3 (by simp; decide) (tail_blank 38 123 l 0)
      exact ⟨20, _, _, _, ht, .inr ⟨rfl, by decide, _, _, n, hk, hch _ (by simpa using h3.skip)⟩⟩

set_option maxHeartbeats 4000000 in
set_option maxRecDepth 100000 in
theorem impl_walk {w : World} {A : Option Addr} {ns : List ByteArray} {cap : Nat} (hA : RowS w A ns) (ahead : Bool) :
    Calls Tryz.prog 3 #[.slice A ns.length cap, .bool ahead] w fun r w' => r = .returned (.bool true) ∧ Below w.heap.size w w' := by
  have HA := Lib.hid hA
  have HF := Lib.hid (fits_any (cap := cap) hA)
  clear hA
  go_enter Tryz.func3, Tryz.ntmps3
  go_wp2_with fail
  refine HF.out.mono ?_
  rintro r w0 ⟨⟨f, rfl, hf⟩, ⟨m0, rfl⟩⟩
  have HB0 : Hid (Below w.heap.size w (w.drewN m0)) := Lib.hid (below_drewN (Below.refl _ _) m0)
  cases f with
  | false =>
    go_wp2_with fail
    go_ret
    exact ⟨rfl, HB0.out⟩
  | true =>
  obtain ⟨hN, hz⟩ := hf rfl
  have HNM := Lib.hid (named9_any (cap := cap) (HA.out.below HB0.out) hN hz 28 38)
  clear hf hz HF
  go_wp2_with fail
  refine HNM.out.mono ?_
  rintro r w1 ⟨⟨v, t, rfl, hok⟩, hb1⟩
  have HOK := Lib.hid hok
  have HB1 := Lib.hid (HB0.out.trans (hb1.mono (Nat.le_refl _)))
  clear hok hb1 HNM
  cases hb : (allName ns && decide (0 < ns.length) && decide (ns.length ≤ 8)) with
  | false =>
    go_wp2_with fail
    go_ret
    exact ⟨rfl, HB1.out⟩
  | true =>
  rw [Bool.and_eq_true, Bool.and_eq_true, decide_eq_true_eq, decide_eq_true_eq] at hb
  obtain ⟨⟨ball, b0⟩, b8⟩ := hb
  obtain ⟨hown, htx⟩ := HOK.out ball
  have hall : ∀ m ∈ ns, name9 m = true := by unfold allName at ball; exact List.all_eq_true.1 ball
  have htl : t.data.toList ++ [32, 123] = tailS 38 123 ns 0 := by rw [htx]; exact text_tail 38 123 ns
  have hlen := tail_len 38 123 ns 0 hall
  have htz : t.size + 2 ≤ 43 * 8 + 2 := by
    have := congrArg List.length htl
    simp only [List.length_append, List.length_cons, List.length_nil, size_list] at this
    omega
  obtain ⟨B, cB, rfl, hrowB⟩ := rowN_of hown
  have HROW := Lib.hid hrowB
  have hasc := tail_ascii 38 123 (by decide) (by decide) ns 0 hall
  have HRD : Hid (∀ (s : ByteArray), s.data.toList = impWord.data.toList ++ ([32] ++ ((if ahead then [38, 32] else []) ++ tailS 38 123 ns 0)) → s.size ≤ 4294967295 → ∀ W, Calls Tryz.prog 7 #[.int .i64 28, .string s] W fun r w' => (∃ v, r = .returned (.tuple #[v, .int .i64 ((s.size - 1 : Nat) : Int), .bool true]) ∧ w'.ownsRow W.heap.size 35 6 v ns.length (nodeCells 28 ns)) ∧ Below W.heap.size W w') := Lib.hid (fun s hs hsz W => by
    obtain ⟨ht0, k1, q1, e1, v1, ht1, hst⟩ := impl_text ahead ns hall b0 hs
    refine read_impl s hsz (ascii_list ?_) 0 10 (by decide) ht0 k1 q1 e1 v1 ht1 (s.size - 1) ns hst (by omega) W
    rw [hs]
    intro c hc
    simp only [List.mem_append] at hc
    rcases hc with hc | hc | hc | hc
    · exact (name_bytes impWord_name).1 c hc
    · simp only [List.mem_cons, List.mem_nil_iff, or_false] at hc; subst hc; decide
    · cases ahead
      · simp at hc
      · simp at hc
        rcases hc with rfl | rfl <;> decide
    · exact hasc c hc)
  have HTL := Lib.hid htl
  clear hall htl hlen hrowB hasc htx hown HOK ball
  cases ahead
  case false =>
    go_wp2_with fail
    generalize hS : (⟨#[105, 109, 112, 108, 101, 109, 101, 110, 116, 115, 32]⟩ ++ (t ++ ⟨#[32, 123]⟩) : ByteArray) = s
    have hs1 : s.size ≤ 4294967295 ∧ 1 ≤ s.size := by
      rw [← hS]
      simp only [ByteArray.size_append]
      have e1 : (⟨#[105, 109, 112, 108, 101, 109, 101, 110, 116, 115, 32]⟩ : ByteArray).size = 11 := rfl
      have e2 : (⟨#[32, 123]⟩ : ByteArray).size = 2 := rfl
      have e3 : (⟨#[38, 32]⟩ : ByteArray).size = 2 := rfl
      omega
    have C7 := HRD.out s (by rw [← hS, ← HTL.out]; simp [impWord]) hs1.1
    have hE : (((s.size - 1 : Nat) : Int) == (s.size : Int) - 1) = true := beq_iff_eq.2 (by omega)
    clear hS
    refine (C7 _).mono ?_
    rintro r w2 ⟨⟨v2, rfl, hown⟩, hb2⟩
    obtain ⟨A2, c2, rfl, hrow2⟩ := rowN_of hown
    have C8 := Lib.hid (same_any (c := c2) (d := cB) hrow2 (HROW.out.below hb2) (by decide) (by omega))
    have HB2 := Lib.hid (HB1.out.trans (hb2.mono HB1.out.size))
    clear hown hrow2 hb2 C7
    go_wp2_with fail
    refine C8.out.mono ?_
    rintro r w3 ⟨rfl, hb3⟩
    go_wp2_with fail
    go_ret
    exact ⟨rfl, HB2.out.trans (hb3.mono HB2.out.size)⟩
  case true =>
    go_wp2_with fail
    generalize hS : (⟨#[105, 109, 112, 108, 101, 109, 101, 110, 116, 115, 32]⟩ ++ ⟨#[38, 32]⟩ ++ (t ++ ⟨#[32, 123]⟩) : ByteArray) = s
    have hs1 : s.size ≤ 4294967295 ∧ 1 ≤ s.size := by
      rw [← hS]
      simp only [ByteArray.size_append]
      have e1 : (⟨#[105, 109, 112, 108, 101, 109, 101, 110, 116, 115, 32]⟩ : ByteArray).size = 11 := rfl
      have e2 : (⟨#[32, 123]⟩ : ByteArray).size = 2 := rfl
      have e3 : (⟨#[38, 32]⟩ : ByteArray).size = 2 := rfl
      omega
    have C7 := HRD.out s (by rw [← hS, ← HTL.out]; simp [impWord]) hs1.1
    have hE : (((s.size - 1 : Nat) : Int) == (s.size : Int) - 1) = true := beq_iff_eq.2 (by omega)
    clear hS
    refine (C7 _).mono ?_
    rintro r w2 ⟨⟨v2, rfl, hown⟩, hb2⟩
    obtain ⟨A2, c2, rfl, hrow2⟩ := rowN_of hown
    have C8 := Lib.hid (same_any (c := c2) (d := cB) hrow2 (HROW.out.below hb2) (by decide) (by omega))
    have HB2 := Lib.hid (HB1.out.trans (hb2.mono HB1.out.size))
    clear hown hrow2 hb2 C7
    go_wp2_with fail
    refine C8.out.mono ?_
    rintro r w3 ⟨rfl, hb3⟩
    go_wp2_with fail
    go_ret
    exact ⟨rfl, HB2.out.trans (hb3.mono HB2.out.size)⟩
end Go.Proofs.YtbjfahhfcdnkaaaGreatDoor
