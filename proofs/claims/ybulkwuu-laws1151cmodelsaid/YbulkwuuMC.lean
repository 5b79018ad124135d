/-
  Seat b1151a: the walk of 'LawS1151CModel' behind the choice of o.
-/
import Derived.Test.YbulkwuuM8
namespace Go.Proofs.Ybulkwuu
open Go.RowKit Plain

theorem un {n : Nat} {l : List Value} (h : l.length = n + 1) : ∃ x t, l = x :: t ∧ t.length = n := by
  cases l with
  | nil => cases h
  | cons x t => exact ⟨x, t, rfl, Nat.succ.inj h⟩

set_option maxRecDepth 100000 in
set_option maxHeartbeats 4000000 in
/-- A frame of 190 slots, written out. -/
theorem with_frame (A : Array Value) (hs : A.size = 190) (v2 v3 v17 v18 v20 v22 v23 : Value) (h2 : A[2]? = some v2) (h3 : A[3]? = some v3) (h17 : A[17]? = some v17) (h18 : A[18]? = some v18) (h20 : A[20]? = some v20) (h22 : A[22]? = some v22) (h23 : A[23]? = some v23) (P : Array Value → Prop)
    (h : ∀ c0 c1 c4 c5 c6 c7 c8 c9 c10 c11 c12 c13 c14 c15 c16 c19 c21 c24 c25 c26 c27 c28 c29 c30 c31 c32 c33 c34 c35 c36 c37 c38 c39 c40 c41 c42 c43 c44 c45 c46 c47 c48 c49 c50 c51 c52 c53 c54 c55 c56 c57 c58 c59 c60 c61 c62 c63 c64 c65 c66 c67 c68 c69 c70 c71 c72 c73 c74 c75 c76 c77 c78 c79 c80 c81 c82 c83 c84 c85 c86 c87 c88 c89 c90 c91 c92 c93 c94 c95 c96 c97 c98 c99 c100 c101 c102 c103 c104 c105 c106 c107 c108 c109 c110 c111 c112 c113 c114 c115 c116 c117 c118 c119 c120 c121 c122 c123 c124 c125 c126 c127 c128 c129 c130 c131 c132 c133 c134 c135 c136 c137 c138 c139 c140 c141 c142 c143 c144 c145 c146 c147 c148 c149 c150 c151 c152 c153 c154 c155 c156 c157 c158 c159 c160 c161 c162 c163 c164 c165 c166 c167 c168 c169 c170 c171 c172 c173 c174 c175 c176 c177 c178 c179 c180 c181 c182 c183 c184 c185 c186 c187 c188 c189 : Value, P #[c0, c1, v2, v3, c4, c5, c6, c7, c8, c9, c10, c11, c12, c13, c14, c15, c16, v17, v18, c19, v20, c21, v22, v23, c24, c25, c26, c27, c28, c29, c30, c31, c32, c33, c34, c35, c36, c37, c38, c39, c40, c41, c42, c43, c44, c45, c46, c47, c48, c49, c50, c51, c52, c53, c54, c55, c56, c57, c58, c59, c60, c61, c62, c63, c64, c65, c66, c67, c68, c69, c70, c71, c72, c73, c74, c75, c76, c77, c78, c79, c80, c81, c82, c83, c84, c85, c86, c87, c88, c89, c90, c91, c92, c93, c94, c95, c96, c97, c98, c99, c100, c101, c102, c103, c104, c105, c106, c107, c108, c109, c110, c111, c112, c113, c114, c115, c116, c117, c118, c119, c120, c121, c122, c123, c124, c125, c126, c127, c128, c129, c130, c131, c132, c133, c134, c135, c136, c137, c138, c139, c140, c141, c142, c143, c144, c145, c146, c147, c148, c149, c150, c151, c152, c153, c154, c155, c156, c157, c158, c159, c160, c161, c162, c163, c164, c165, c166, c167, c168, c169, c170, c171, c172, c173, c174, c175, c176, c177, c178, c179, c180, c181, c182, c183, c184, c185, c186, c187, c188, c189]) : P A := by
  obtain ⟨l0⟩ := A
  have hs0 : l0.length = 190 := hs
  clear hs
  obtain ⟨c0, l1, rfl, hs1⟩ := un hs0
  clear hs0
  obtain ⟨c1, l2, rfl, hs2⟩ := un hs1
  clear hs1
  obtain ⟨c2, l3, rfl, hs3⟩ := un hs2
  clear hs2
  obtain ⟨c3, l4, rfl, hs4⟩ := un hs3
  clear hs3
  obtain ⟨c4, l5, rfl, hs5⟩ := un hs4
  clear hs4
  obtain ⟨c5, l6, rfl, hs6⟩ := un hs5
  clear hs5
  obtain ⟨c6, l7, rfl, hs7⟩ := un hs6
  clear hs6
  obtain ⟨c7, l8, rfl, hs8⟩ := un hs7
  clear hs7
  obtain ⟨c8, l9, rfl, hs9⟩ := un hs8
  clear hs8
  obtain ⟨c9, l10, rfl, hs10⟩ := un hs9
  clear hs9
  obtain ⟨c10, l11, rfl, hs11⟩ := un hs10
  clear hs10
  obtain ⟨c11, l12, rfl, hs12⟩ := un hs11
  clear hs11
  obtain ⟨c12, l13, rfl, hs13⟩ := un hs12
  clear hs12
  obtain ⟨c13, l14, rfl, hs14⟩ := un hs13
  clear hs13
  obtain ⟨c14, l15, rfl, hs15⟩ := un hs14
  clear hs14
  obtain ⟨c15, l16, rfl, hs16⟩ := un hs15
  clear hs15
  obtain ⟨c16, l17, rfl, hs17⟩ := un hs16
  clear hs16
  obtain ⟨c17, l18, rfl, hs18⟩ := un hs17
  clear hs17
  obtain ⟨c18, l19, rfl, hs19⟩ := un hs18
  clear hs18
  obtain ⟨c19, l20, rfl, hs20⟩ := un hs19
  clear hs19
  obtain ⟨c20, l21, rfl, hs21⟩ := un hs20
  clear hs20
  obtain ⟨c21, l22, rfl, hs22⟩ := un hs21
  clear hs21
  obtain ⟨c22, l23, rfl, hs23⟩ := un hs22
  clear hs22
  obtain ⟨c23, l24, rfl, hs24⟩ := un hs23
  clear hs23
  obtain ⟨c24, l25, rfl, hs25⟩ := un hs24
  clear hs24
  obtain ⟨c25, l26, rfl, hs26⟩ := un hs25
  clear hs25
  obtain ⟨c26, l27, rfl, hs27⟩ := un hs26
  clear hs26
  obtain ⟨c27, l28, rfl, hs28⟩ := un hs27
  clear hs27
  obtain ⟨c28, l29, rfl, hs29⟩ := un hs28
  clear hs28
  obtain ⟨c29, l30, rfl, hs30⟩ := un hs29
  clear hs29
  obtain ⟨c30, l31, rfl, hs31⟩ := un hs30
  clear hs30
  obtain ⟨c31, l32, rfl, hs32⟩ := un hs31
  clear hs31
  obtain ⟨c32, l33, rfl, hs33⟩ := un hs32
  clear hs32
  obtain ⟨c33, l34, rfl, hs34⟩ := un hs33
  clear hs33
  obtain ⟨c34, l35, rfl, hs35⟩ := un hs34
  clear hs34
  obtain ⟨c35, l36, rfl, hs36⟩ := un hs35
  clear hs35
  obtain ⟨c36, l37, rfl, hs37⟩ := un hs36
  clear hs36
  obtain ⟨c37, l38, rfl, hs38⟩ := un hs37
  clear hs37
  obtain ⟨c38, l39, rfl, hs39⟩ := un hs38
  clear hs38
  obtain ⟨c39, l40, rfl, hs40⟩ := un hs39
  clear hs39
  obtain ⟨c40, l41, rfl, hs41⟩ := un hs40
  clear hs40
  obtain ⟨c41, l42, rfl, hs42⟩ := un hs41
  clear hs41
  obtain ⟨c42, l43, rfl, hs43⟩ := un hs42
  clear hs42
  obtain ⟨c43, l44, rfl, hs44⟩ := un hs43
  clear hs43
  obtain ⟨c44, l45, rfl, hs45⟩ := un hs44
  clear hs44
  obtain ⟨c45, l46, rfl, hs46⟩ := un hs45
  clear hs45
  obtain ⟨c46, l47, rfl, hs47⟩ := un hs46
  clear hs46
  obtain ⟨c47, l48, rfl, hs48⟩ := un hs47
  clear hs47
  obtain ⟨c48, l49, rfl, hs49⟩ := un hs48
  clear hs48
  obtain ⟨c49, l50, rfl, hs50⟩ := un hs49
  clear hs49
  obtain ⟨c50, l51, rfl, hs51⟩ := un hs50
  clear hs50
  obtain ⟨c51, l52, rfl, hs52⟩ := un hs51
  clear hs51
  obtain ⟨c52, l53, rfl, hs53⟩ := un hs52
  clear hs52
  obtain ⟨c53, l54, rfl, hs54⟩ := un hs53
  clear hs53
  obtain ⟨c54, l55, rfl, hs55⟩ := un hs54
  clear hs54
  obtain ⟨c55, l56, rfl, hs56⟩ := un hs55
  clear hs55
  obtain ⟨c56, l57, rfl, hs57⟩ := un hs56
  clear hs56
  obtain ⟨c57, l58, rfl, hs58⟩ := un hs57
  clear hs57
  obtain ⟨c58, l59, rfl, hs59⟩ := un hs58
  clear hs58
  obtain ⟨c59, l60, rfl, hs60⟩ := un hs59
  clear hs59
  obtain ⟨c60, l61, rfl, hs61⟩ := un hs60
  clear hs60
  obtain ⟨c61, l62, rfl, hs62⟩ := un hs61
  clear hs61
  obtain ⟨c62, l63, rfl, hs63⟩ := un hs62
  clear hs62
  obtain ⟨c63, l64, rfl, hs64⟩ := un hs63
  clear hs63
  obtain ⟨c64, l65, rfl, hs65⟩ := un hs64
  clear hs64
  obtain ⟨c65, l66, rfl, hs66⟩ := un hs65
  clear hs65
  obtain ⟨c66, l67, rfl, hs67⟩ := un hs66
  clear hs66
  obtain ⟨c67, l68, rfl, hs68⟩ := un hs67
  clear hs67
  obtain ⟨c68, l69, rfl, hs69⟩ := un hs68
  clear hs68
  obtain ⟨c69, l70, rfl, hs70⟩ := un hs69
  clear hs69
  obtain ⟨c70, l71, rfl, hs71⟩ := un hs70
  clear hs70
  obtain ⟨c71, l72, rfl, hs72⟩ := un hs71
  clear hs71
  obtain ⟨c72, l73, rfl, hs73⟩ := un hs72
  clear hs72
  obtain ⟨c73, l74, rfl, hs74⟩ := un hs73
  clear hs73
  obtain ⟨c74, l75, rfl, hs75⟩ := un hs74
  clear hs74
  obtain ⟨c75, l76, rfl, hs76⟩ := un hs75
  clear hs75
  obtain ⟨c76, l77, rfl, hs77⟩ := un hs76
  clear hs76
  obtain ⟨c77, l78, rfl, hs78⟩ := un hs77
  clear hs77
  obtain ⟨c78, l79, rfl, hs79⟩ := un hs78
  clear hs78
  obtain ⟨c79, l80, rfl, hs80⟩ := un hs79
  clear hs79
  obtain ⟨c80, l81, rfl, hs81⟩ := un hs80
  clear hs80
  obtain ⟨c81, l82, rfl, hs82⟩ := un hs81
  clear hs81
  obtain ⟨c82, l83, rfl, hs83⟩ := un hs82
  clear hs82
  obtain ⟨c83, l84, rfl, hs84⟩ := un hs83
  clear hs83
  obtain ⟨c84, l85, rfl, hs85⟩ := un hs84
  clear hs84
  obtain ⟨c85, l86, rfl, hs86⟩ := un hs85
  clear hs85
  obtain ⟨c86, l87, rfl, hs87⟩ := un hs86
  clear hs86
  obtain ⟨c87, l88, rfl, hs88⟩ := un hs87
  clear hs87
  obtain ⟨c88, l89, rfl, hs89⟩ := un hs88
  clear hs88
  obtain ⟨c89, l90, rfl, hs90⟩ := un hs89
  clear hs89
  obtain ⟨c90, l91, rfl, hs91⟩ := un hs90
  clear hs90
  obtain ⟨c91, l92, rfl, hs92⟩ := un hs91
  clear hs91
  obtain ⟨c92, l93, rfl, hs93⟩ := un hs92
  clear hs92
  obtain ⟨c93, l94, rfl, hs94⟩ := un hs93
  clear hs93
  obtain ⟨c94, l95, rfl, hs95⟩ := un hs94
  clear hs94
  obtain ⟨c95, l96, rfl, hs96⟩ := un hs95
  clear hs95
  obtain ⟨c96, l97, rfl, hs97⟩ := un hs96
  clear hs96
  obtain ⟨c97, l98, rfl, hs98⟩ := un hs97
  clear hs97
  obtain ⟨c98, l99, rfl, hs99⟩ := un hs98
  clear hs98
  obtain ⟨c99, l100, rfl, hs100⟩ := un hs99
  clear hs99
  obtain ⟨c100, l101, rfl, hs101⟩ := un hs100
  clear hs100
  obtain ⟨c101, l102, rfl, hs102⟩ := un hs101
  clear hs101
  obtain ⟨c102, l103, rfl, hs103⟩ := un hs102
  clear hs102
  obtain ⟨c103, l104, rfl, hs104⟩ := un hs103
  clear hs103
  obtain ⟨c104, l105, rfl, hs105⟩ := un hs104
  clear hs104
  obtain ⟨c105, l106, rfl, hs106⟩ := un hs105
  clear hs105
  obtain ⟨c106, l107, rfl, hs107⟩ := un hs106
  clear hs106
  obtain ⟨c107, l108, rfl, hs108⟩ := un hs107
  clear hs107
  obtain ⟨c108, l109, rfl, hs109⟩ := un hs108
  clear hs108
  obtain ⟨c109, l110, rfl, hs110⟩ := un hs109
  clear hs109
  obtain ⟨c110, l111, rfl, hs111⟩ := un hs110
  clear hs110
  obtain ⟨c111, l112, rfl, hs112⟩ := un hs111
  clear hs111
  obtain ⟨c112, l113, rfl, hs113⟩ := un hs112
  clear hs112
  obtain ⟨c113, l114, rfl, hs114⟩ := un hs113
  clear hs113
  obtain ⟨c114, l115, rfl, hs115⟩ := un hs114
  clear hs114
  obtain ⟨c115, l116, rfl, hs116⟩ := un hs115
  clear hs115
  obtain ⟨c116, l117, rfl, hs117⟩ := un hs116
  clear hs116
  obtain ⟨c117, l118, rfl, hs118⟩ := un hs117
  clear hs117
  obtain ⟨c118, l119, rfl, hs119⟩ := un hs118
  clear hs118
  obtain ⟨c119, l120, rfl, hs120⟩ := un hs119
  clear hs119
  obtain ⟨c120, l121, rfl, hs121⟩ := un hs120
  clear hs120
  obtain ⟨c121, l122, rfl, hs122⟩ := un hs121
  clear hs121
  obtain ⟨c122, l123, rfl, hs123⟩ := un hs122
  clear hs122
  obtain ⟨c123, l124, rfl, hs124⟩ := un hs123
  clear hs123
  obtain ⟨c124, l125, rfl, hs125⟩ := un hs124
  clear hs124
  obtain ⟨c125, l126, rfl, hs126⟩ := un hs125
  clear hs125
  obtain ⟨c126, l127, rfl, hs127⟩ := un hs126
  clear hs126
  obtain ⟨c127, l128, rfl, hs128⟩ := un hs127
  clear hs127
  obtain ⟨c128, l129, rfl, hs129⟩ := un hs128
  clear hs128
  obtain ⟨c129, l130, rfl, hs130⟩ := un hs129
  clear hs129
  obtain ⟨c130, l131, rfl, hs131⟩ := un hs130
  clear hs130
  obtain ⟨c131, l132, rfl, hs132⟩ := un hs131
  clear hs131
  obtain ⟨c132, l133, rfl, hs133⟩ := un hs132
  clear hs132
  obtain ⟨c133, l134, rfl, hs134⟩ := un hs133
  clear hs133
  obtain ⟨c134, l135, rfl, hs135⟩ := un hs134
  clear hs134
  obtain ⟨c135, l136, rfl, hs136⟩ := un hs135
  clear hs135
  obtain ⟨c136, l137, rfl, hs137⟩ := un hs136
  clear hs136
  obtain ⟨c137, l138, rfl, hs138⟩ := un hs137
  clear hs137
  obtain ⟨c138, l139, rfl, hs139⟩ := un hs138
  clear hs138
  obtain ⟨c139, l140, rfl, hs140⟩ := un hs139
  clear hs139
  obtain ⟨c140, l141, rfl, hs141⟩ := un hs140
  clear hs140
  obtain ⟨c141, l142, rfl, hs142⟩ := un hs141
  clear hs141
  obtain ⟨c142, l143, rfl, hs143⟩ := un hs142
  clear hs142
  obtain ⟨c143, l144, rfl, hs144⟩ := un hs143
  clear hs143
  obtain ⟨c144, l145, rfl, hs145⟩ := un hs144
  clear hs144
  obtain ⟨c145, l146, rfl, hs146⟩ := un hs145
  clear hs145
  obtain ⟨c146, l147, rfl, hs147⟩ := un hs146
  clear hs146
  obtain ⟨c147, l148, rfl, hs148⟩ := un hs147
  clear hs147
  obtain ⟨c148, l149, rfl, hs149⟩ := un hs148
  clear hs148
  obtain ⟨c149, l150, rfl, hs150⟩ := un hs149
  clear hs149
  obtain ⟨c150, l151, rfl, hs151⟩ := un hs150
  clear hs150
  obtain ⟨c151, l152, rfl, hs152⟩ := un hs151
  clear hs151
  obtain ⟨c152, l153, rfl, hs153⟩ := un hs152
  clear hs152
  obtain ⟨c153, l154, rfl, hs154⟩ := un hs153
  clear hs153
  obtain ⟨c154, l155, rfl, hs155⟩ := un hs154
  clear hs154
  obtain ⟨c155, l156, rfl, hs156⟩ := un hs155
  clear hs155
  obtain ⟨c156, l157, rfl, hs157⟩ := un hs156
  clear hs156
  obtain ⟨c157, l158, rfl, hs158⟩ := un hs157
  clear hs157
  obtain ⟨c158, l159, rfl, hs159⟩ := un hs158
  clear hs158
  obtain ⟨c159, l160, rfl, hs160⟩ := un hs159
  clear hs159
  obtain ⟨c160, l161, rfl, hs161⟩ := un hs160
  clear hs160
  obtain ⟨c161, l162, rfl, hs162⟩ := un hs161
  clear hs161
  obtain ⟨c162, l163, rfl, hs163⟩ := un hs162
  clear hs162
  obtain ⟨c163, l164, rfl, hs164⟩ := un hs163
  clear hs163
  obtain ⟨c164, l165, rfl, hs165⟩ := un hs164
  clear hs164
  obtain ⟨c165, l166, rfl, hs166⟩ := un hs165
  clear hs165
  obtain ⟨c166, l167, rfl, hs167⟩ := un hs166
  clear hs166
  obtain ⟨c167, l168, rfl, hs168⟩ := un hs167
  clear hs167
  obtain ⟨c168, l169, rfl, hs169⟩ := un hs168
  clear hs168
  obtain ⟨c169, l170, rfl, hs170⟩ := un hs169
  clear hs169
  obtain ⟨c170, l171, rfl, hs171⟩ := un hs170
  clear hs170
  obtain ⟨c171, l172, rfl, hs172⟩ := un hs171
  clear hs171
  obtain ⟨c172, l173, rfl, hs173⟩ := un hs172
  clear hs172
  obtain ⟨c173, l174, rfl, hs174⟩ := un hs173
  clear hs173
  obtain ⟨c174, l175, rfl, hs175⟩ := un hs174
  clear hs174
  obtain ⟨c175, l176, rfl, hs176⟩ := un hs175
  clear hs175
  obtain ⟨c176, l177, rfl, hs177⟩ := un hs176
  clear hs176
  obtain ⟨c177, l178, rfl, hs178⟩ := un hs177
  clear hs177
  obtain ⟨c178, l179, rfl, hs179⟩ := un hs178
  clear hs178
  obtain ⟨c179, l180, rfl, hs180⟩ := un hs179
  clear hs179
  obtain ⟨c180, l181, rfl, hs181⟩ := un hs180
  clear hs180
  obtain ⟨c181, l182, rfl, hs182⟩ := un hs181
  clear hs181
  obtain ⟨c182, l183, rfl, hs183⟩ := un hs182
  clear hs182
  obtain ⟨c183, l184, rfl, hs184⟩ := un hs183
  clear hs183
  obtain ⟨c184, l185, rfl, hs185⟩ := un hs184
  clear hs184
  obtain ⟨c185, l186, rfl, hs186⟩ := un hs185
  clear hs185
  obtain ⟨c186, l187, rfl, hs187⟩ := un hs186
  clear hs186
  obtain ⟨c187, l188, rfl, hs188⟩ := un hs187
  clear hs187
  obtain ⟨c188, l189, rfl, hs189⟩ := un hs188
  clear hs188
  obtain ⟨c189, l190, rfl, hs190⟩ := un hs189
  clear hs189
  obtain rfl : l190 = [] := List.length_eq_zero_iff.1 hs190
  obtain rfl : c2 = v2 := Option.some.inj h2
  obtain rfl : c3 = v3 := Option.some.inj h3
  obtain rfl : c17 = v17 := Option.some.inj h17
  obtain rfl : c18 = v18 := Option.some.inj h18
  obtain rfl : c20 = v20 := Option.some.inj h20
  obtain rfl : c22 = v22 := Option.some.inj h22
  obtain rfl : c23 = v23 := Option.some.inj h23
  exact h _ _ _ _ _ _ _ _ _ _ _ _ _ _ _ _ _ _ _ _ _ _ _ _ _ _ _ _ _ _ _ _ _ _ _ _ _ _ _ _ _ _ _ _ _ _ _ _ _ _ _ _ _ _ _ _ _ _ _ _ _ _ _ _ _ _ _ _ _ _ _ _ _ _ _ _ _ _ _ _ _ _ _ _ _ _ _ _ _ _ _ _ _ _ _ _ _ _ _ _ _ _ _ _ _ _ _ _ _ _ _ _ _ _ _ _ _ _ _ _ _ _ _ _ _ _ _ _ _ _ _ _ _ _ _ _ _ _ _ _ _ _ _ _ _ _ _ _ _ _ _ _ _ _ _ _ _ _ _ _ _ _ _ _ _ _ _ _ _ _ _ _ _ _ _ _ _ _ _ _ _ _ _

theorem code20 : (Yba.f3.body.bind (tailAt 20)).getD .skip = .seq (.region 20 (opsOf ((Yba.f3.body.bind (tailAt 20)).getD .skip)) true) ((Yba.f3.body.bind (tailAt 21)).getD .skip) := by
  rfl

theorem tail_walk (w wc : World) (he nt : Bool) (g0 g1 : Nat) (L0 L1 : List Opt) (len0 : L0.length ≤ 300) (len1 : L1.length ≤ 300) (zq : Zed) (t : Option Nat) (ob k0 k1 : Nat) (hP : AfterPick w wc he nt g0 L0 g1 L1 zq t ob) (a : Act) (hd : a.defers = []) (hs : a.tmps.size = 190)
    (h2 : a.tmps[2]? = some (.bool he)) (h3 : a.tmps[3]? = some (.bool nt)) (h17 : a.tmps[17]? = some (.slice (some ⟨g0, 0, none⟩) L0.length k0)) (h18 : a.tmps[18]? = some (.slice (some ⟨g1, 0, none⟩) L1.length k1)) (h20 : a.tmps[20]? = some (ptr t)) (h22 : a.tmps[22]? = some (.pointer (some ⟨ob, 0, none⟩))) :
    Code.wp Yba.prog ((Yba.f3.body.bind (tailAt 20)).getD .skip) (bodyPost Yba.prog Yba.f3 fun e w' => e = .returned (.bool true) ∧ Below w.heap.size w w') a wc := by
  obtain ⟨hAN, O, hO, hsz⟩ := hP
  have o0 : wc.cell? ⟨ob, 0, none⟩ = some (.string O.p) := hO 0 _ rfl
  have o1 : wc.cell? ⟨ob, 1, none⟩ = some (.string O.n) := hO 1 _ rfl
  rw [code20]
  refine wp_seq ?_
  refine region20 a wc ob O hsz [(2, .bool he), (3, .bool nt), (17, .slice (some ⟨g0, 0, none⟩) L0.length k0), (18, .slice (some ⟨g1, 0, none⟩) L1.length k1), (20, ptr t), (22, .pointer (some ⟨ob, 0, none⟩))] ?_ (by simp) hd hs ?_ o0 o1 ?_
  · intro k u h
    simp only [List.mem_cons, Prod.mk.injEq, List.not_mem_nil, or_false] at h
    rcases h with ⟨rfl, _⟩ | ⟨rfl, _⟩ | ⟨rfl, _⟩ | ⟨rfl, _⟩ | ⟨rfl, _⟩ | ⟨rfl, _⟩ <;> omega
  · intro k u h
    simp only [List.mem_cons, Prod.mk.injEq, List.not_mem_nil, or_false] at h
    rcases h with ⟨rfl, rfl⟩ | ⟨rfl, rfl⟩ | ⟨rfl, rfl⟩ | ⟨rfl, rfl⟩ | ⟨rfl, rfl⟩ | ⟨rfl, rfl⟩ <;> assumption
  · rintro ⟨A, df⟩ hd' hs' hb' h23
    replace hd' : df = [] := hd'
    subst hd'
    have hbw : Below wc.heap.size wc (wc.drew.alloc (.cells #[.string O.p, .string O.n, .int .u64 (hashOf O.n)] 42)) := by
      have h1 : Below wc.heap.size wc wc.drew := below_n wc 1
      exact h1.alloc h1.size _
    have hh := heap_alloc_new wc.drew (.cells #[.string O.p, .string O.n, .int .u64 (hashOf O.n)] 42)
    have hK : KeyAt (wc.drew.alloc (.cells #[.string O.p, .string O.n, .int .u64 (hashOf O.n)] 42)) wc.heap.size O.p O.n := ⟨(cells_at hh 0).trans rfl, (cells_at hh 1).trans rfl, (cells_at hh 2).trans rfl⟩
    refine with_frame A hs' (.bool he) (.bool nt) (.slice (some ⟨g0, 0, none⟩) L0.length k0) (.slice (some ⟨g1, 0, none⟩) L1.length k1) (ptr t) (.pointer (some ⟨ob, 0, none⟩)) (.pointer (some ⟨wc.heap.size, 0, none⟩)) (hb' 2 _ (by simp)) (hb' 3 _ (by simp)) (hb' 17 _ (by simp)) (hb' 18 _ (by simp)) (hb' 20 _ (by simp)) (hb' 22 _ (by simp)) h23 (fun A => Exit.then _ _ .normal ⟨A, []⟩ _) ?_
    intros
    exact tail21 w _ he nt g0 g1 L0 L1 len0 len1 zq t ob wc.heap.size k0 k1 O (hAN.next hbw) (fun k v hk => cell_below (hO k v hk) hbw) hK _ _ _ _ _ _ _ _ _ _ _ _ _ _ _ _ _ _ _ _ _ _ _ _ _ _ _ _ _ _ _ _ _ _ _ _ _ _ _ _ _ _ _ _ _ _ _ _ _ _ _ _ _ _ _ _ _ _ _ _ _ _ _ _ _ _ _ _ _ _ _ _ _ _ _ _ _ _ _ _ _ _ _ _ _ _ _ _ _ _ _ _ _ _ _ _ _ _ _ _ _ _ _ _ _ _ _ _ _ _ _ _ _ _ _ _ _ _ _ _ _ _ _ _ _ _ _ _ _ _ _ _ _ _ _ _ _ _ _ _ _ _ _ _ _ _ _ _ _ _ _ _ _ _ _ _ _ _ _ _ _ _ _ _ _ _ _ _ _ _ _ _ _ _ _ _ _ _ _ _ _ _ _
end Go.Proofs.Ybulkwuu
