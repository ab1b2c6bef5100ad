/-
  The second loop of search.
-/
import Derived.Test.Qxb6003663aSCase0
import Derived.Test.Qxb6003663aSCaseF
import Derived.Test.Qxb6003663aSCaseT
import Derived.Test.Qxb6003663aSCaseB
namespace Go.Proofs.Qxb6003663a
open Go.RowKit

set_option maxHeartbeats 4000000 in
set_option maxRecDepth 1000000 in
theorem search_round (es : List (List Int)) (back : Bool) (bb N gl gp gq : Nat) (f : Fx) (x : Nat) (w : World) (hf : Fits es) (hid : Ids es) (Q0 : Exit → Act → World → Prop) (hexit : ∀ a' w'', WX es back bb N gl gp gq f x w a' w'' → Q0 (.exit 2) a' w'') (a : Act) (wr : World) (hI : WI es back bb N gl gp gq f x w a wr) :
    Code.wp Try.prog body2 (Exit.then (fun a' w'' => WI es back bb N gl gp gq f x w a' w'' ∧ Wmu es bb gl a' w'' < Wmu es bb gl a wr) Q0) a wr := by
  unfold WI at hI
  obtain ⟨l3, hI⟩ := hI
  obtain ⟨l4, hI⟩ := hI
  obtain ⟨l5, hI⟩ := hI
  obtain ⟨l6, hI⟩ := hI
  obtain ⟨l7, hI⟩ := hI
  obtain ⟨l8, hI⟩ := hI
  obtain ⟨l9, hI⟩ := hI
  obtain ⟨l10, hI⟩ := hI
  obtain ⟨l11, hI⟩ := hI
  obtain ⟨l12, hI⟩ := hI
  obtain ⟨l13, hI⟩ := hI
  obtain ⟨l14, hI⟩ := hI
  obtain ⟨l15, hI⟩ := hI
  obtain ⟨l16, hI⟩ := hI
  obtain ⟨l17, hI⟩ := hI
  obtain ⟨l18, hI⟩ := hI
  obtain ⟨l19, hI⟩ := hI
  obtain ⟨l20, hI⟩ := hI
  obtain ⟨l21, hI⟩ := hI
  obtain ⟨l22, hI⟩ := hI
  obtain ⟨l23, hI⟩ := hI
  obtain ⟨l24, hI⟩ := hI
  obtain ⟨l25, hI⟩ := hI
  obtain ⟨l26, hI⟩ := hI
  obtain ⟨l27, hI⟩ := hI
  obtain ⟨l28, hI⟩ := hI
  obtain ⟨l29, hI⟩ := hI
  obtain ⟨l30, hI⟩ := hI
  obtain ⟨l31, hI⟩ := hI
  obtain ⟨l32, hI⟩ := hI
  obtain ⟨l33, hI⟩ := hI
  obtain ⟨l34, hI⟩ := hI
  obtain ⟨l35, hI⟩ := hI
  obtain ⟨l36, hI⟩ := hI
  obtain ⟨l37, hI⟩ := hI
  obtain ⟨l38, hI⟩ := hI
  obtain ⟨l39, hI⟩ := hI
  obtain ⟨l40, hI⟩ := hI
  obtain ⟨l41, hI⟩ := hI
  obtain ⟨l42, hI⟩ := hI
  obtain ⟨l43, hI⟩ := hI
  obtain ⟨l44, hI⟩ := hI
  obtain ⟨l45, hI⟩ := hI
  obtain ⟨l46, hI⟩ := hI
  obtain ⟨l47, hI⟩ := hI
  obtain ⟨l48, hI⟩ := hI
  obtain ⟨l49, hI⟩ := hI
  obtain ⟨l50, hI⟩ := hI
  obtain ⟨l51, hI⟩ := hI
  obtain ⟨l52, hI⟩ := hI
  obtain ⟨l53, hI⟩ := hI
  obtain ⟨l54, hI⟩ := hI
  obtain ⟨l55, hI⟩ := hI
  obtain ⟨l56, hI⟩ := hI
  obtain ⟨l57, hI⟩ := hI
  obtain ⟨l58, hI⟩ := hI
  obtain ⟨l59, hI⟩ := hI
  obtain ⟨l60, hI⟩ := hI
  obtain ⟨l61, hI⟩ := hI
  obtain ⟨l62, hI⟩ := hI
  obtain ⟨l63, hI⟩ := hI
  obtain ⟨l64, hI⟩ := hI
  obtain ⟨l65, hI⟩ := hI
  obtain ⟨l66, hI⟩ := hI
  obtain ⟨l67, hI⟩ := hI
  obtain ⟨l68, hI⟩ := hI
  obtain ⟨l69, hI⟩ := hI
  obtain ⟨l70, hI⟩ := hI
  obtain ⟨l71, hI⟩ := hI
  obtain ⟨l72, hI⟩ := hI
  obtain ⟨l73, hI⟩ := hI
  obtain ⟨l74, hI⟩ := hI
  obtain ⟨l75, hI⟩ := hI
  obtain ⟨l76, hI⟩ := hI
  obtain ⟨l77, hI⟩ := hI
  obtain ⟨l78, hI⟩ := hI
  obtain ⟨l79, hI⟩ := hI
  obtain ⟨l80, hI⟩ := hI
  obtain ⟨l81, hI⟩ := hI
  obtain ⟨l82, hI⟩ := hI
  obtain ⟨l83, hI⟩ := hI
  obtain ⟨l84, hI⟩ := hI
  obtain ⟨l85, hI⟩ := hI
  obtain ⟨l86, hI⟩ := hI
  obtain ⟨l87, hI⟩ := hI
  obtain ⟨l88, hI⟩ := hI
  obtain ⟨l89, hI⟩ := hI
  obtain ⟨l90, hI⟩ := hI
  obtain ⟨l91, hI⟩ := hI
  obtain ⟨l92, hI⟩ := hI
  obtain ⟨l93, hI⟩ := hI
  obtain ⟨l94, hI⟩ := hI
  obtain ⟨l95, hI⟩ := hI
  obtain ⟨l96, hI⟩ := hI
  obtain ⟨l97, hI⟩ := hI
  obtain ⟨l98, hI⟩ := hI
  obtain ⟨l99, hI⟩ := hI
  obtain ⟨l100, hI⟩ := hI
  obtain ⟨l101, hI⟩ := hI
  obtain ⟨l102, hI⟩ := hI
  obtain ⟨l103, hI⟩ := hI
  obtain ⟨l104, hI⟩ := hI
  obtain ⟨l105, hI⟩ := hI
  obtain ⟨l106, hI⟩ := hI
  obtain ⟨l107, hI⟩ := hI
  obtain ⟨l108, hI⟩ := hI
  obtain ⟨l109, hI⟩ := hI
  obtain ⟨l110, hI⟩ := hI
  obtain ⟨l111, hI⟩ := hI
  obtain ⟨l112, hI⟩ := hI
  obtain ⟨l113, hI⟩ := hI
  obtain ⟨l114, hI⟩ := hI
  obtain ⟨l115, hI⟩ := hI
  obtain ⟨l116, hI⟩ := hI
  obtain ⟨l117, hI⟩ := hI
  obtain ⟨l118, hI⟩ := hI
  obtain ⟨l119, hI⟩ := hI
  obtain ⟨l120, hI⟩ := hI
  obtain ⟨l121, hI⟩ := hI
  obtain ⟨l122, hI⟩ := hI
  obtain ⟨l123, hI⟩ := hI
  obtain ⟨l124, hI⟩ := hI
  obtain ⟨l125, hI⟩ := hI
  obtain ⟨l126, hI⟩ := hI
  obtain ⟨l127, hI⟩ := hI
  obtain ⟨l128, hI⟩ := hI
  obtain ⟨l129, hI⟩ := hI
  obtain ⟨l130, hI⟩ := hI
  obtain ⟨l131, hI⟩ := hI
  obtain ⟨l132, hI⟩ := hI
  obtain ⟨l133, hI⟩ := hI
  obtain ⟨l134, hI⟩ := hI
  obtain ⟨l135, hI⟩ := hI
  obtain ⟨l136, hI⟩ := hI
  obtain ⟨l137, hI⟩ := hI
  obtain ⟨l138, hI⟩ := hI
  obtain ⟨l139, hI⟩ := hI
  obtain ⟨l140, hI⟩ := hI
  obtain ⟨l141, hI⟩ := hI
  obtain ⟨l142, hI⟩ := hI
  obtain ⟨l143, hI⟩ := hI
  obtain ⟨l144, hI⟩ := hI
  obtain ⟨l145, hI⟩ := hI
  obtain ⟨l146, hI⟩ := hI
  obtain ⟨l147, hI⟩ := hI
  obtain ⟨l148, hI⟩ := hI
  obtain ⟨l149, hI⟩ := hI
  obtain ⟨l150, hI⟩ := hI
  obtain ⟨l151, hI⟩ := hI
  obtain ⟨l152, hI⟩ := hI
  obtain ⟨l153, hI⟩ := hI
  obtain ⟨l154, hI⟩ := hI
  obtain ⟨l155, hI⟩ := hI
  obtain ⟨l156, hI⟩ := hI
  obtain ⟨l157, hI⟩ := hI
  obtain ⟨l158, hI⟩ := hI
  obtain ⟨l159, hI⟩ := hI
  obtain ⟨l160, hI⟩ := hI
  obtain ⟨l161, hI⟩ := hI
  obtain ⟨l162, hI⟩ := hI
  obtain ⟨l163, hI⟩ := hI
  obtain ⟨l164, hI⟩ := hI
  obtain ⟨l165, hI⟩ := hI
  obtain ⟨l166, hI⟩ := hI
  obtain ⟨l167, hI⟩ := hI
  obtain ⟨l168, hI⟩ := hI
  obtain ⟨l169, hI⟩ := hI
  obtain ⟨l170, hI⟩ := hI
  obtain ⟨l171, hI⟩ := hI
  obtain ⟨l172, hI⟩ := hI
  obtain ⟨l173, hI⟩ := hI
  obtain ⟨l174, hI⟩ := hI
  obtain ⟨l175, hI⟩ := hI
  obtain ⟨l176, hI⟩ := hI
  obtain ⟨l177, hI⟩ := hI
  obtain ⟨l178, hI⟩ := hI
  obtain ⟨l179, hI⟩ := hI
  obtain ⟨l180, hI⟩ := hI
  obtain ⟨l181, hI⟩ := hI
  obtain ⟨l182, hI⟩ := hI
  obtain ⟨l183, hI⟩ := hI
  obtain ⟨l184, hI⟩ := hI
  obtain ⟨l185, hI⟩ := hI
  obtain ⟨l186, hI⟩ := hI
  obtain ⟨l187, hI⟩ := hI
  obtain ⟨l188, hI⟩ := hI
  obtain ⟨l189, hI⟩ := hI
  obtain ⟨l190, hI⟩ := hI
  obtain ⟨l191, hI⟩ := hI
  obtain ⟨l192, hI⟩ := hI
  obtain ⟨l193, hI⟩ := hI
  obtain ⟨l194, hI⟩ := hI
  obtain ⟨l195, hI⟩ := hI
  obtain ⟨l196, hI⟩ := hI
  obtain ⟨l197, hI⟩ := hI
  obtain ⟨⟨s, p, gk, cap, wk, ov, hsi, hpi, hkw⟩, rfl⟩ := hI
  rcases List.eq_nil_or_concat p with hp | ⟨q, ⟨v, t⟩, hp⟩
  · subst hp
    exact search_exit es back bb N gl gp gq f x w l3 l4 l5 l6 l7 l8 l9 l10 l11 l12 l13 l14 l15 l16 l17 l18 l19 l20 l21 l22 l23 l24 l25 l26 l27 l28 l29 l30 l31 l32 l33 l34 l35 l36 l37 l38 l39 l40 l41 l42 l43 l44 l45 l46 l47 l48 l49 l50 l51 l52 l53 l54 l55 l56 l57 l58 l59 l60 l61 l62 l63 l64 l65 l66 l67 l68 l69 l70 l71 l72 l73 l74 l75 l76 l77 l78 l79 l80 l81 l82 l83 l84 l85 l86 l87 l88 l89 l90 l91 l92 l93 l94 l95 l96 l97 l98 l99 l100 l101 l102 l103 l104 l105 l106 l107 l108 l109 l110 l111 l112 l113 l114 l115 l116 l117 l118 l119 l120 l121 l122 l123 l124 l125 l126 l127 l128 l129 l130 l131 l132 l133 l134 l135 l136 l137 l138 l139 l140 l141 l142 l143 l144 l145 l146 l147 l148 l149 l150 l151 l152 l153 l154 l155 l156 l157 l158 l159 l160 l161 l162 l163 l164 l165 l166 l167 l168 l169 l170 l171 l172 l173 l174 l175 l176 l177 l178 l179 l180 l181 l182 l183 l184 l185 l186 l187 l188 l189 l190 l191 l192 l193 l194 l195 l196 l197 wr Q0 hexit s gk cap wk ov hsi hpi hkw
  · rw [List.concat_eq_append] at hp
    subst hp
    have hv := hpi.rng (v, t) (by simp)
    obtain ⟨z, hz⟩ := Int.eq_ofNat_of_zero_le hv.1
    simp only at hz
    subst hz
    have hz0 : z < es.length := by have := hv.2; simp only at this; omega
    by_cases htl : t < es[z].length
    · cases back
      · exact search_step_false es bb N gl gp gq f x w l3 l4 l5 l6 l7 l8 l9 l10 l11 l12 l13 l14 l15 l16 l17 l18 l19 l20 l21 l22 l23 l24 l25 l26 l27 l28 l29 l30 l31 l32 l33 l34 l35 l36 l37 l38 l39 l40 l41 l42 l43 l44 l45 l46 l47 l48 l49 l50 l51 l52 l53 l54 l55 l56 l57 l58 l59 l60 l61 l62 l63 l64 l65 l66 l67 l68 l69 l70 l71 l72 l73 l74 l75 l76 l77 l78 l79 l80 l81 l82 l83 l84 l85 l86 l87 l88 l89 l90 l91 l92 l93 l94 l95 l96 l97 l98 l99 l100 l101 l102 l103 l104 l105 l106 l107 l108 l109 l110 l111 l112 l113 l114 l115 l116 l117 l118 l119 l120 l121 l122 l123 l124 l125 l126 l127 l128 l129 l130 l131 l132 l133 l134 l135 l136 l137 l138 l139 l140 l141 l142 l143 l144 l145 l146 l147 l148 l149 l150 l151 l152 l153 l154 l155 l156 l157 l158 l159 l160 l161 l162 l163 l164 l165 l166 l167 l168 l169 l170 l171 l172 l173 l174 l175 l176 l177 l178 l179 l180 l181 l182 l183 l184 l185 l186 l187 l188 l189 l190 l191 l192 l193 l194 l195 l196 l197 wr Q0 hf hid s q z t gk cap wk ov hsi hpi hkw hz0 htl
      · exact search_step_true es bb N gl gp gq f x w l3 l4 l5 l6 l7 l8 l9 l10 l11 l12 l13 l14 l15 l16 l17 l18 l19 l20 l21 l22 l23 l24 l25 l26 l27 l28 l29 l30 l31 l32 l33 l34 l35 l36 l37 l38 l39 l40 l41 l42 l43 l44 l45 l46 l47 l48 l49 l50 l51 l52 l53 l54 l55 l56 l57 l58 l59 l60 l61 l62 l63 l64 l65 l66 l67 l68 l69 l70 l71 l72 l73 l74 l75 l76 l77 l78 l79 l80 l81 l82 l83 l84 l85 l86 l87 l88 l89 l90 l91 l92 l93 l94 l95 l96 l97 l98 l99 l100 l101 l102 l103 l104 l105 l106 l107 l108 l109 l110 l111 l112 l113 l114 l115 l116 l117 l118 l119 l120 l121 l122 l123 l124 l125 l126 l127 l128 l129 l130 l131 l132 l133 l134 l135 l136 l137 l138 l139 l140 l141 l142 l143 l144 l145 l146 l147 l148 l149 l150 l151 l152 l153 l154 l155 l156 l157 l158 l159 l160 l161 l162 l163 l164 l165 l166 l167 l168 l169 l170 l171 l172 l173 l174 l175 l176 l177 l178 l179 l180 l181 l182 l183 l184 l185 l186 l187 l188 l189 l190 l191 l192 l193 l194 l195 l196 l197 wr Q0 hf hid s q z t gk cap wk ov hsi hpi hkw hz0 htl
    · exact search_leave es back bb N gl gp gq f x w l3 l4 l5 l6 l7 l8 l9 l10 l11 l12 l13 l14 l15 l16 l17 l18 l19 l20 l21 l22 l23 l24 l25 l26 l27 l28 l29 l30 l31 l32 l33 l34 l35 l36 l37 l38 l39 l40 l41 l42 l43 l44 l45 l46 l47 l48 l49 l50 l51 l52 l53 l54 l55 l56 l57 l58 l59 l60 l61 l62 l63 l64 l65 l66 l67 l68 l69 l70 l71 l72 l73 l74 l75 l76 l77 l78 l79 l80 l81 l82 l83 l84 l85 l86 l87 l88 l89 l90 l91 l92 l93 l94 l95 l96 l97 l98 l99 l100 l101 l102 l103 l104 l105 l106 l107 l108 l109 l110 l111 l112 l113 l114 l115 l116 l117 l118 l119 l120 l121 l122 l123 l124 l125 l126 l127 l128 l129 l130 l131 l132 l133 l134 l135 l136 l137 l138 l139 l140 l141 l142 l143 l144 l145 l146 l147 l148 l149 l150 l151 l152 l153 l154 l155 l156 l157 l158 l159 l160 l161 l162 l163 l164 l165 l166 l167 l168 l169 l170 l171 l172 l173 l174 l175 l176 l177 l178 l179 l180 l181 l182 l183 l184 l185 l186 l187 l188 l189 l190 l191 l192 l193 l194 l195 l196 l197 wr Q0 hf hid s q z t gk cap wk ov hsi hpi hkw hz0 (by omega)

set_option maxHeartbeats 4000000 in
set_option maxRecDepth 1000000 in
theorem search_loop (es : List (List Int)) (back : Bool) (bb N gl gp gq : Nat) (f : Fx) (x : Nat) (w : World) (l3 l4 l5 l6 l7 l8 l9 l10 l11 l12 l13 l14 l15 l16 l17 l18 l19 l20 l21 l22 l23 l24 l25 l26 l27 l28 l29 l30 l31 l32 l33 l34 l35 l36 l37 l38 l39 l40 l41 l42 l43 l44 l45 l46 l47 l48 l49 l50 l51 l52 l53 l54 l55 l56 l57 l58 l59 l60 l61 l62 l63 l64 l65 l66 l67 l68 l69 l70 l71 l72 l73 l74 l75 l76 l77 l78 l79 l80 l81 l82 l83 l84 l85 l86 l87 l88 l89 l90 l91 l92 l93 l94 l95 l96 l97 l98 l99 l100 l101 l102 l103 l104 l105 l106 l107 l108 l109 l110 l111 l112 l113 l114 l115 l116 l117 l118 l119 l120 l121 l122 l123 l124 l125 l126 l127 l128 l129 l130 l131 l132 l133 l134 l135 l136 l137 l138 l139 l140 l141 l142 l143 l144 l145 l146 l147 l148 l149 l150 l151 l152 l153 l154 l155 l156 l157 l158 l159 l160 l161 l162 l163 l164 l165 l166 l167 l168 l169 l170 l171 l172 l173 l174 l175 l176 l177 l178 l179 l180 l181 l182 l183 l184 l185 l186 l187 l188 l189 l190 l191 l192 l193 l194 l195 l196 l197 : Value) (Q0 : Exit → Act → World → Prop) (w' : World) (hf : Fits es) (hid : Ids es) (hrel : Rel2 es back bb N gl gp gq f x w w') (hexit : ∀ a' w'', WX es back bb N gl gp gq f x w a' w'' → Q0 (.exit 2) a' w'') :
    Code.wp Try.prog (Code.loop body2) Q0 ⟨#[.pointer (some ⟨bb, 0, none⟩), .int .i32 (x : Int), .bool back, l3, l4, l5, l6, l7, l8, l9, l10, l11, l12, l13, l14, l15, l16, l17, l18, l19, l20, l21, l22, l23, l24, l25, l26, l27, l28, l29, l30, l31, l32, l33, l34, l35, l36, l37, l38, l39, l40, l41, l42, l43, l44, l45, l46, l47, l48, l49, l50, l51, l52, l53, l54, l55, l56, l57, l58, l59, l60, l61, l62, l63, l64, l65, l66, l67, l68, l69, l70, l71, l72, l73, l74, l75, l76, l77, l78, l79, l80, l81, l82, l83, l84, l85, l86, l87, l88, l89, l90, l91, l92, l93, l94, l95, l96, l97, l98, l99, l100, l101, l102, l103, l104, l105, l106, l107, l108, l109, l110, l111, l112, l113, l114, l115, l116, l117, l118, l119, l120, l121, l122, l123, l124, l125, l126, l127, l128, l129, l130, l131, l132, l133, l134, l135, l136, l137, l138, l139, l140, l141, l142, l143, l144, l145, l146, l147, l148, l149, l150, l151, l152, l153, l154, l155, l156, l157, l158, l159, l160, l161, l162, l163, l164, l165, l166, l167, l168, l169, l170, l171, l172, l173, l174, l175, l176, l177, l178, l179, l180, l181, l182, l183, l184, l185, l186, l187, l188, l189, l190, l191, l192, l193, l194, l195, l196, l197], []⟩ w' := by
  refine wp_loop (WI es back bb N gl gp gq f x w) (Wmu es bb gl) ?_ (fun a w'' hI => search_round es back bb N gl gp gq f x w hf hid Q0 hexit a w'' hI)
  unfold WI
  exact ⟨l3, l4, l5, l6, l7, l8, l9, l10, l11, l12, l13, l14, l15, l16, l17, l18, l19, l20, l21, l22, l23, l24, l25, l26, l27, l28, l29, l30, l31, l32, l33, l34, l35, l36, l37, l38, l39, l40, l41, l42, l43, l44, l45, l46, l47, l48, l49, l50, l51, l52, l53, l54, l55, l56, l57, l58, l59, l60, l61, l62, l63, l64, l65, l66, l67, l68, l69, l70, l71, l72, l73, l74, l75, l76, l77, l78, l79, l80, l81, l82, l83, l84, l85, l86, l87, l88, l89, l90, l91, l92, l93, l94, l95, l96, l97, l98, l99, l100, l101, l102, l103, l104, l105, l106, l107, l108, l109, l110, l111, l112, l113, l114, l115, l116, l117, l118, l119, l120, l121, l122, l123, l124, l125, l126, l127, l128, l129, l130, l131, l132, l133, l134, l135, l136, l137, l138, l139, l140, l141, l142, l143, l144, l145, l146, l147, l148, l149, l150, l151, l152, l153, l154, l155, l156, l157, l158, l159, l160, l161, l162, l163, l164, l165, l166, l167, l168, l169, l170, l171, l172, l173, l174, l175, l176, l177, l178, l179, l180, l181, l182, l183, l184, l185, l186, l187, l188, l189, l190, l191, l192, l193, l194, l195, l196, l197, hrel, rfl⟩
end Go.Proofs.Qxb6003663a
