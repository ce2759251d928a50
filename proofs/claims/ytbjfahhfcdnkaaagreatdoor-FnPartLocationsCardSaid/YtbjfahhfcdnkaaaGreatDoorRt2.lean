/- A name is a token. -/
import Derived.Test.YtbjfahhfcdnkaaaGreatDoorRnA
import Derived.Test.YtbjfahhfcdnkaaaGreatDoorRnB
namespace Go.Proofs.YtbjfahhfcdnkaaaGreatDoor
open Go.RowKit Go.Proofs.YtbjfahhfcdnkaaaGreatDoorW.PrintWords Go.Proofs.YtbjfahhfcdnkaaaGreatDoorW.PrintMore
def nameStart (c : Int) : Prop := (65 ≤ c ∧ c ≤ 90) ∨ (97 ≤ c ∧ c ≤ 122) ∨ c = 95

theorem tok_name (s : ByteArray) (p q e : Nat) (ha : Ahead s p q) (hc : nameStart (cd s q)) (hqe : q < e) (he : e ≤ s.size) (hn : ∀ j : Nat, q < j → j < e → nameChar (cd s j)) (hend : e < s.size → nameEnd (cd s e)) : Tok s p 15 q e (s.extract q e) := by
  unfold nameStart at hc
  by_cases k65 : cd s q = 65
  · exact tok_n65 s p q e ha k65 hqe he hn hend
  by_cases k66 : cd s q = 66
  · exact tok_n66 s p q e ha k66 hqe he hn hend
  by_cases k67 : cd s q = 67
  · exact tok_n67 s p q e ha k67 hqe he hn hend
  by_cases k68 : cd s q = 68
  · exact tok_n68 s p q e ha k68 hqe he hn hend
  by_cases k69 : cd s q = 69
  · exact tok_n69 s p q e ha k69 hqe he hn hend
  by_cases k70 : cd s q = 70
  · exact tok_n70 s p q e ha k70 hqe he hn hend
  by_cases k71 : cd s q = 71
  · exact tok_n71 s p q e ha k71 hqe he hn hend
  by_cases k72 : cd s q = 72
  · exact tok_n72 s p q e ha k72 hqe he hn hend
  by_cases k73 : cd s q = 73
  · exact tok_n73 s p q e ha k73 hqe he hn hend
  by_cases k74 : cd s q = 74
  · exact tok_n74 s p q e ha k74 hqe he hn hend
  by_cases k75 : cd s q = 75
  · exact tok_n75 s p q e ha k75 hqe he hn hend
  by_cases k76 : cd s q = 76
  · exact tok_n76 s p q e ha k76 hqe he hn hend
  by_cases k77 : cd s q = 77
  · exact tok_n77 s p q e ha k77 hqe he hn hend
  by_cases k78 : cd s q = 78
  · exact tok_n78 s p q e ha k78 hqe he hn hend
  by_cases k79 : cd s q = 79
  · exact tok_n79 s p q e ha k79 hqe he hn hend
  by_cases k80 : cd s q = 80
  · exact tok_n80 s p q e ha k80 hqe he hn hend
  by_cases k81 : cd s q = 81
  · exact tok_n81 s p q e ha k81 hqe he hn hend
  by_cases k82 : cd s q = 82
  · exact tok_n82 s p q e ha k82 hqe he hn hend
  by_cases k83 : cd s q = 83
  · exact tok_n83 s p q e ha k83 hqe he hn hend
  by_cases k84 : cd s q = 84
  · exact tok_n84 s p q e ha k84 hqe he hn hend
  by_cases k85 : cd s q = 85
  · exact tok_n85 s p q e ha k85 hqe he hn hend
  by_cases k86 : cd s q = 86
  · exact tok_n86 s p q e ha k86 hqe he hn hend
  by_cases k87 : cd s q = 87
  · exact tok_n87 s p q e ha k87 hqe he hn hend
  by_cases k88 : cd s q = 88
  · exact tok_n88 s p q e ha k88 hqe he hn hend
  by_cases k89 : cd s q = 89
  · exact tok_n89 s p q e ha k89 hqe he hn hend
  by_cases k90 : cd s q = 90
  · exact tok_n90 s p q e ha k90 hqe he hn hend
  by_cases k95 : cd s q = 95
  · exact tok_n95 s p q e ha k95 hqe he hn hend
  by_cases k97 : cd s q = 97
  · exact tok_n97 s p q e ha k97 hqe he hn hend
  by_cases k98 : cd s q = 98
  · exact tok_n98 s p q e ha k98 hqe he hn hend
  by_cases k99 : cd s q = 99
  · exact tok_n99 s p q e ha k99 hqe he hn hend
  by_cases k100 : cd s q = 100
  · exact tok_n100 s p q e ha k100 hqe he hn hend
  by_cases k101 : cd s q = 101
  · exact tok_n101 s p q e ha k101 hqe he hn hend
  by_cases k102 : cd s q = 102
  · exact tok_n102 s p q e ha k102 hqe he hn hend
  by_cases k103 : cd s q = 103
  · exact tok_n103 s p q e ha k103 hqe he hn hend
  by_cases k104 : cd s q = 104
  · exact tok_n104 s p q e ha k104 hqe he hn hend
  by_cases k105 : cd s q = 105
  · exact tok_n105 s p q e ha k105 hqe he hn hend
  by_cases k106 : cd s q = 106
  · exact tok_n106 s p q e ha k106 hqe he hn hend
  by_cases k107 : cd s q = 107
  · exact tok_n107 s p q e ha k107 hqe he hn hend
  by_cases k108 : cd s q = 108
  · exact tok_n108 s p q e ha k108 hqe he hn hend
  by_cases k109 : cd s q = 109
  · exact tok_n109 s p q e ha k109 hqe he hn hend
  by_cases k110 : cd s q = 110
  · exact tok_n110 s p q e ha k110 hqe he hn hend
  by_cases k111 : cd s q = 111
  · exact tok_n111 s p q e ha k111 hqe he hn hend
  by_cases k112 : cd s q = 112
  · exact tok_n112 s p q e ha k112 hqe he hn hend
  by_cases k113 : cd s q = 113
  · exact tok_n113 s p q e ha k113 hqe he hn hend
  by_cases k114 : cd s q = 114
  · exact tok_n114 s p q e ha k114 hqe he hn hend
  by_cases k115 : cd s q = 115
  · exact tok_n115 s p q e ha k115 hqe he hn hend
  by_cases k116 : cd s q = 116
  · exact tok_n116 s p q e ha k116 hqe he hn hend
  by_cases k117 : cd s q = 117
  · exact tok_n117 s p q e ha k117 hqe he hn hend
  by_cases k118 : cd s q = 118
  · exact tok_n118 s p q e ha k118 hqe he hn hend
  by_cases k119 : cd s q = 119
  · exact tok_n119 s p q e ha k119 hqe he hn hend
  by_cases k120 : cd s q = 120
  · exact tok_n120 s p q e ha k120 hqe he hn hend
  by_cases k121 : cd s q = 121
  · exact tok_n121 s p q e ha k121 hqe he hn hend
  by_cases k122 : cd s q = 122
  · exact tok_n122 s p q e ha k122 hqe he hn hend
  exfalso
  omega
end Go.Proofs.YtbjfahhfcdnkaaaGreatDoor
