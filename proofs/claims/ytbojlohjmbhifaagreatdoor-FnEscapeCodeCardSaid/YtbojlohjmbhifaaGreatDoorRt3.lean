/- A number is a token. -/
import Derived.Test.YtbojlohjmbhifaaGreatDoorRd
namespace Go.Proofs.YtbojlohjmbhifaaGreatDoor
open Go.RowKit Go.Proofs.YtbojlohjmbhifaaGreatDoorW.PrintWords Go.Proofs.YtbojlohjmbhifaaGreatDoorW.PrintMore
theorem tok_number (s : ByteArray) (p q a m f e : Nat) (t1 t2 : Bool) (ha : Ahead s p q) (hn : Num s q a m f e t1 t2) : Tok s p (if t1 || t2 then 17 else 16) q e (s.extract q e) := by
  have hc : cd s q = 45 ∨ (48 ≤ cd s q ∧ cd s q ≤ 57) := by
    rcases hn.minus with ⟨h, _⟩ | ⟨_, h⟩
    · exact .inl (beq_iff_eq.1 h)
    · subst h
      rcases hn.whole with ⟨h, _⟩ | ⟨_, h1, h2, _⟩
      · exact .inr (by rw [beq_iff_eq.1 h]; omega)
      · exact .inr (h2 _ (Nat.le_refl _) h1)
  by_cases k45 : cd s q = 45
  · exact tok_d45 s p q a m f e t1 t2 ha k45 hn
  by_cases k48 : cd s q = 48
  · exact tok_d48 s p q a m f e t1 t2 ha k48 hn
  by_cases k49 : cd s q = 49
  · exact tok_d49 s p q a m f e t1 t2 ha k49 hn
  by_cases k50 : cd s q = 50
  · exact tok_d50 s p q a m f e t1 t2 ha k50 hn
  by_cases k51 : cd s q = 51
  · exact tok_d51 s p q a m f e t1 t2 ha k51 hn
  by_cases k52 : cd s q = 52
  · exact tok_d52 s p q a m f e t1 t2 ha k52 hn
  by_cases k53 : cd s q = 53
  · exact tok_d53 s p q a m f e t1 t2 ha k53 hn
  by_cases k54 : cd s q = 54
  · exact tok_d54 s p q a m f e t1 t2 ha k54 hn
  by_cases k55 : cd s q = 55
  · exact tok_d55 s p q a m f e t1 t2 ha k55 hn
  by_cases k56 : cd s q = 56
  · exact tok_d56 s p q a m f e t1 t2 ha k56 hn
  by_cases k57 : cd s q = 57
  · exact tok_d57 s p q a m f e t1 t2 ha k57 hn
  exfalso
  omega
end Go.Proofs.YtbojlohjmbhifaaGreatDoor
