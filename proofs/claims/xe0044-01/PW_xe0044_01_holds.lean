import PyProof.Rows.All
import Wide.All
import OpenK.AllK
import Wide.FinOn
import PySem.Challenge.RW_xe0044_01
open PySem PySem.Spec PySem.Calls PySem.W PyProof.Rows
set_option Elab.async false
set_option maxRecDepth 100000
set_option maxHeartbeats 8000000
set_option compiler.extract_closed false
namespace Mine
end Mine
open Mine
section
namespace Mine
noncomputable def hd.view_39 : Program := by
  refine (?f : ∀ {n0 q0 : Str} {p0 : Arguments} {b0 : List Stmt} {d0 : List PySem.Expr} {r0 : Option PySem.Expr} {t0 : List TypeParam} {s0 : Scope} {u0 : Option Scope} {l0 : Pos} {y1 : Stmt} {y2 : Stmt} {n3 q3 : Str} {p3 : Arguments} {b3 : List Stmt} {d3 : List PySem.Expr} {r3 : Option PySem.Expr} {t3 : List TypeParam} {s3 : Scope} {u3 : Option Scope} {l3 : Pos} {y4 : Stmt} {y5 : Stmt} {y6 : Stmt} {n7 q7 : Str} {p7 : Arguments} {b7 : List Stmt} {d7 : List PySem.Expr} {r7 : Option PySem.Expr} {t7 : List TypeParam} {s7 : Scope} {u7 : Option Scope} {l7 : Pos} {y8 : Stmt} {nC qC : Str} {basC : List PySem.Expr} {kwC : List Keyword} {dC : List PySem.Expr} {tC : List TypeParam} {sC : Scope} {uC : Option Scope} {saC : List Str} {lC : Pos} {y900 : Stmt} {n910 q910 : Str} {p910 : Arguments} {b910 : List Stmt} {d910 : List PySem.Expr} {r910 : Option PySem.Expr} {t910 : List TypeParam} {s910 : Scope} {u910 : Option Scope} {l910 : Pos} {n920 q920 : Str} {p920 : Arguments} {b920 : List Stmt} {d920 : List PySem.Expr} {r920 : Option PySem.Expr} {t920 : List TypeParam} {s920 : Scope} {u920 : Option Scope} {l920 : Pos} {n930 q930 : Str} {p930 : Arguments} {b930 : List Stmt} {d930 : List PySem.Expr} {r930 : Option PySem.Expr} {t930 : List TypeParam} {s930 : Scope} {u930 : Option Scope} {l930 : Pos} {n940 q940 : Str} {p940 : Arguments} {b940 : List Stmt} {d940 : List PySem.Expr} {r940 : Option PySem.Expr} {t940 : List TypeParam} {s940 : Scope} {u940 : Option Scope} {l940 : Pos} {n950 q950 : Str} {p950 : Arguments} {b950 : List Stmt} {d950 : List PySem.Expr} {r950 : Option PySem.Expr} {t950 : List TypeParam} {s950 : Scope} {u950 : Option Scope} {l950 : Pos} {n960 q960 : Str} {p960 : Arguments} {b960 : List Stmt} {d960 : List PySem.Expr} {r960 : Option PySem.Expr} {t960 : List TypeParam} {s960 : Scope} {u960 : Option Scope} {l960 : Pos} {n970 q970 : Str} {p970 : Arguments} {b970 : List Stmt} {d970 : List PySem.Expr} {r970 : Option PySem.Expr} {t970 : List TypeParam} {s970 : Scope} {u970 : Option Scope} {l970 : Pos} {y10 : Stmt} {n11 q11 : Str} {p11 : Arguments} {b11 : List Stmt} {d11 : List PySem.Expr} {r11 : Option PySem.Expr} {t11 : List TypeParam} {s11 : Scope} {u11 : Option Scope} {l11 : Pos} {n12 q12 : Str} {p12 : Arguments} {b12 : List Stmt} {d12 : List PySem.Expr} {r12 : Option PySem.Expr} {t12 : List TypeParam} {s12 : Scope} {u12 : Option Scope} {l12 : Pos} {n13 q13 : Str} {p13 : Arguments} {b13 : List Stmt} {d13 : List PySem.Expr} {r13 : Option PySem.Expr} {t13 : List TypeParam} {s13 : Scope} {u13 : Option Scope} {l13 : Pos} {n14 q14 : Str} {p14 : Arguments} {b14 : List Stmt} {d14 : List PySem.Expr} {r14 : Option PySem.Expr} {t14 : List TypeParam} {s14 : Scope} {u14 : Option Scope} {l14 : Pos} {n15 q15 : Str} {p15 : Arguments} {b15 : List Stmt} {d15 : List PySem.Expr} {r15 : Option PySem.Expr} {t15 : List TypeParam} {s15 : Scope} {u15 : Option Scope} {l15 : Pos} {n16 q16 : Str} {p16 : Arguments} {b16 : List Stmt} {d16 : List PySem.Expr} {r16 : Option PySem.Expr} {t16 : List TypeParam} {s16 : Scope} {u16 : Option Scope} {l16 : Pos} {y17 : Stmt} {n18 q18 : Str} {p18 : Arguments} {b18 : List Stmt} {d18 : List PySem.Expr} {r18 : Option PySem.Expr} {t18 : List TypeParam} {s18 : Scope} {u18 : Option Scope} {l18 : Pos} {n19 q19 : Str} {p19 : Arguments} {b19 : List Stmt} {d19 : List PySem.Expr} {r19 : Option PySem.Expr} {t19 : List TypeParam} {s19 : Scope} {u19 : Option Scope} {l19 : Pos} {n20 q20 : Str} {p20 : Arguments} {b20 : List Stmt} {d20 : List PySem.Expr} {r20 : Option PySem.Expr} {t20 : List TypeParam} {s20 : Scope} {u20 : Option Scope} {l20 : Pos} {n21 q21 : Str} {p21 : Arguments} {b21 : List Stmt} {d21 : List PySem.Expr} {r21 : Option PySem.Expr} {t21 : List TypeParam} {s21 : Scope} {u21 : Option Scope} {l21 : Pos} {n22 q22 : Str} {p22 : Arguments} {b22 : List Stmt} {d22 : List PySem.Expr} {r22 : Option PySem.Expr} {t22 : List TypeParam} {s22 : Scope} {u22 : Option Scope} {l22 : Pos} {n23 q23 : Str} {p23 : Arguments} {b23 : List Stmt} {d23 : List PySem.Expr} {r23 : Option PySem.Expr} {t23 : List TypeParam} {s23 : Scope} {u23 : Option Scope} {l23 : Pos} {n24 q24 : Str} {p24 : Arguments} {b24 : List Stmt} {d24 : List PySem.Expr} {r24 : Option PySem.Expr} {t24 : List TypeParam} {s24 : Scope} {u24 : Option Scope} {l24 : Pos}, PySem.Challenge.rw_xe0044_01.row.prog.main.body = [.FunctionDef n0 p0 b0 d0 r0 t0 s0 u0 q0 l0, y1, y2, .FunctionDef n3 p3 b3 d3 r3 t3 s3 u3 q3 l3, y4, y5, y6, .FunctionDef n7 p7 b7 d7 r7 t7 s7 u7 q7 l7, y8, .ClassDef nC basC kwC [y900, .FunctionDef n910 p910 b910 d910 r910 t910 s910 u910 q910 l910, .FunctionDef n920 p920 b920 d920 r920 t920 s920 u920 q920 l920, .FunctionDef n930 p930 b930 d930 r930 t930 s930 u930 q930 l930, .FunctionDef n940 p940 b940 d940 r940 t940 s940 u940 q940 l940, .FunctionDef n950 p950 b950 d950 r950 t950 s950 u950 q950 l950, .FunctionDef n960 p960 b960 d960 r960 t960 s960 u960 q960 l960, .FunctionDef n970 p970 b970 d970 r970 t970 s970 u970 q970 l970] dC tC sC uC qC saC lC, y10, .FunctionDef n11 p11 b11 d11 r11 t11 s11 u11 q11 l11, .FunctionDef n12 p12 b12 d12 r12 t12 s12 u12 q12 l12, .FunctionDef n13 p13 b13 d13 r13 t13 s13 u13 q13 l13, .FunctionDef n14 p14 b14 d14 r14 t14 s14 u14 q14 l14, .FunctionDef n15 p15 b15 d15 r15 t15 s15 u15 q15 l15, .FunctionDef n16 p16 b16 d16 r16 t16 s16 u16 q16 l16, y17, .FunctionDef n18 p18 b18 d18 r18 t18 s18 u18 q18 l18, .FunctionDef n19 p19 b19 d19 r19 t19 s19 u19 q19 l19, .FunctionDef n20 p20 b20 d20 r20 t20 s20 u20 q20 l20, .FunctionDef n21 p21 b21 d21 r21 t21 s21 u21 q21 l21, .FunctionDef n22 p22 b22 d22 r22 t22 s22 u22 q22 l22, .FunctionDef n23 p23 b23 d23 r23 t23 s23 u23 q23 l23, .FunctionDef n24 p24 b24 d24 r24 t24 s24 u24 q24 l24] → Program) rfl
  intro n0 q0 p0 b0 d0 r0 t0 s0 u0 l0 y1 y2 n3 q3 p3 b3 d3 r3 t3 s3 u3 l3 y4 y5 y6 n7 q7 p7 b7 d7 r7 t7 s7 u7 l7 y8 nC qC basC kwC dC tC sC uC saC lC y900 n910 q910 p910 b910 d910 r910 t910 s910 u910 l910 n920 q920 p920 b920 d920 r920 t920 s920 u920 l920 n930 q930 p930 b930 d930 r930 t930 s930 u930 l930 n940 q940 p940 b940 d940 r940 t940 s940 u940 l940 n950 q950 p950 b950 d950 r950 t950 s950 u950 l950 n960 q960 p960 b960 d960 r960 t960 s960 u960 l960 n970 q970 p970 b970 d970 r970 t970 s970 u970 l970 y10 n11 q11 p11 b11 d11 r11 t11 s11 u11 l11 n12 q12 p12 b12 d12 r12 t12 s12 u12 l12 n13 q13 p13 b13 d13 r13 t13 s13 u13 l13 n14 q14 p14 b14 d14 r14 t14 s14 u14 l14 n15 q15 p15 b15 d15 r15 t15 s15 u15 l15 n16 q16 p16 b16 d16 r16 t16 s16 u16 l16 y17 n18 q18 p18 b18 d18 r18 t18 s18 u18 l18 n19 q19 p19 b19 d19 r19 t19 s19 u19 l19 n20 q20 p20 b20 d20 r20 t20 s20 u20 l20 n21 q21 p21 b21 d21 r21 t21 s21 u21 l21 n22 q22 p22 b22 d22 r22 t22 s22 u22 l22 n23 q23 p23 b23 d23 r23 t23 s23 u23 l23 n24 q24 p24 b24 d24 r24 t24 s24 u24 l24 _
  exact { PySem.Challenge.rw_xe0044_01.row.prog with main := { PySem.Challenge.rw_xe0044_01.row.prog.main with body := [.FunctionDef n0 p0 b0 d0 r0 t0 s0 u0 q0 l0, y2, .FunctionDef n3 p3 b3 d3 r3 t3 s3 u3 q3 l3, y5, y6, .FunctionDef n7 p7 b7 d7 r7 t7 s7 u7 q7 l7, .ClassDef nC basC kwC [y900, .FunctionDef n910 p910 b910 d910 r910 t910 s910 u910 q910 l910, .FunctionDef n920 p920 b920 d920 r920 t920 s920 u920 q920 l920, .FunctionDef n930 p930 b930 d930 r930 t930 s930 u930 q930 l930, .FunctionDef n940 p940 b940 d940 r940 t940 s940 u940 q940 l940, .FunctionDef n950 p950 b950 d950 r950 t950 s950 u950 q950 l950, .FunctionDef n960 p960 b960 d960 r960 t960 s960 u960 q960 l960, .FunctionDef n970 p970 b970 d970 r970 t970 s970 u970 q970 l970] dC tC sC uC qC saC lC, .FunctionDef n12 p12 b12 d12 r12 t12 s12 u12 q12 l12, .FunctionDef n13 p13 b13 d13 r13 t13 s13 u13 q13 l13, .FunctionDef n14 p14 b14 d14 r14 t14 s14 u14 q14 l14, .FunctionDef n15 p15 b15 d15 r15 t15 s15 u15 q15 l15, .FunctionDef n16 p16 b16 d16 r16 t16 s16 u16 q16 l16, .FunctionDef n18 p18 b18 d18 r18 t18 s18 u18 q18 l18, .FunctionDef n19 p19 b19 d19 r19 t19 s19 u19 q19 l19, .FunctionDef n20 p20 b20 d20 r20 t20 s20 u20 q20 l20, .FunctionDef n21 p21 b21 d21 r21 t21 s21 u21 q21 l21, .FunctionDef n22 p22 b22 d22 r22 t22 s22 u22 q22 l22, .FunctionDef n23 p23 b23 d23 r23 t23 s23 u23 q23 l23, .FunctionDef n24 p24 b24 d24 r24 t24 s24 u24 q24 l24] } }
noncomputable def hd.heap_39 : Params → Frag := by
  refine (?f : ∀ {n0 q0 : Str} {p0 : Arguments} {b0 : List Stmt} {d0 : List PySem.Expr} {r0 : Option PySem.Expr} {t0 : List TypeParam} {s0 : Scope} {u0 : Option Scope} {l0 : Pos} {y1 : Stmt} {y2 : Stmt} {n3 q3 : Str} {p3 : Arguments} {b3 : List Stmt} {d3 : List PySem.Expr} {r3 : Option PySem.Expr} {t3 : List TypeParam} {s3 : Scope} {u3 : Option Scope} {l3 : Pos} {y4 : Stmt} {y5 : Stmt} {y6 : Stmt} {n7 q7 : Str} {p7 : Arguments} {b7 : List Stmt} {d7 : List PySem.Expr} {r7 : Option PySem.Expr} {t7 : List TypeParam} {s7 : Scope} {u7 : Option Scope} {l7 : Pos} {y8 : Stmt} {nC qC : Str} {basC : List PySem.Expr} {kwC : List Keyword} {dC : List PySem.Expr} {tC : List TypeParam} {sC : Scope} {uC : Option Scope} {saC : List Str} {lC : Pos} {y900 : Stmt} {n910 q910 : Str} {p910 : Arguments} {b910 : List Stmt} {d910 : List PySem.Expr} {r910 : Option PySem.Expr} {t910 : List TypeParam} {s910 : Scope} {u910 : Option Scope} {l910 : Pos} {n920 q920 : Str} {p920 : Arguments} {b920 : List Stmt} {d920 : List PySem.Expr} {r920 : Option PySem.Expr} {t920 : List TypeParam} {s920 : Scope} {u920 : Option Scope} {l920 : Pos} {n930 q930 : Str} {p930 : Arguments} {b930 : List Stmt} {d930 : List PySem.Expr} {r930 : Option PySem.Expr} {t930 : List TypeParam} {s930 : Scope} {u930 : Option Scope} {l930 : Pos} {n940 q940 : Str} {p940 : Arguments} {b940 : List Stmt} {d940 : List PySem.Expr} {r940 : Option PySem.Expr} {t940 : List TypeParam} {s940 : Scope} {u940 : Option Scope} {l940 : Pos} {n950 q950 : Str} {p950 : Arguments} {b950 : List Stmt} {d950 : List PySem.Expr} {r950 : Option PySem.Expr} {t950 : List TypeParam} {s950 : Scope} {u950 : Option Scope} {l950 : Pos} {n960 q960 : Str} {p960 : Arguments} {b960 : List Stmt} {d960 : List PySem.Expr} {r960 : Option PySem.Expr} {t960 : List TypeParam} {s960 : Scope} {u960 : Option Scope} {l960 : Pos} {n970 q970 : Str} {p970 : Arguments} {b970 : List Stmt} {d970 : List PySem.Expr} {r970 : Option PySem.Expr} {t970 : List TypeParam} {s970 : Scope} {u970 : Option Scope} {l970 : Pos} {y10 : Stmt} {n11 q11 : Str} {p11 : Arguments} {b11 : List Stmt} {d11 : List PySem.Expr} {r11 : Option PySem.Expr} {t11 : List TypeParam} {s11 : Scope} {u11 : Option Scope} {l11 : Pos} {n12 q12 : Str} {p12 : Arguments} {b12 : List Stmt} {d12 : List PySem.Expr} {r12 : Option PySem.Expr} {t12 : List TypeParam} {s12 : Scope} {u12 : Option Scope} {l12 : Pos} {n13 q13 : Str} {p13 : Arguments} {b13 : List Stmt} {d13 : List PySem.Expr} {r13 : Option PySem.Expr} {t13 : List TypeParam} {s13 : Scope} {u13 : Option Scope} {l13 : Pos} {n14 q14 : Str} {p14 : Arguments} {b14 : List Stmt} {d14 : List PySem.Expr} {r14 : Option PySem.Expr} {t14 : List TypeParam} {s14 : Scope} {u14 : Option Scope} {l14 : Pos} {n15 q15 : Str} {p15 : Arguments} {b15 : List Stmt} {d15 : List PySem.Expr} {r15 : Option PySem.Expr} {t15 : List TypeParam} {s15 : Scope} {u15 : Option Scope} {l15 : Pos} {n16 q16 : Str} {p16 : Arguments} {b16 : List Stmt} {d16 : List PySem.Expr} {r16 : Option PySem.Expr} {t16 : List TypeParam} {s16 : Scope} {u16 : Option Scope} {l16 : Pos} {y17 : Stmt} {n18 q18 : Str} {p18 : Arguments} {b18 : List Stmt} {d18 : List PySem.Expr} {r18 : Option PySem.Expr} {t18 : List TypeParam} {s18 : Scope} {u18 : Option Scope} {l18 : Pos} {n19 q19 : Str} {p19 : Arguments} {b19 : List Stmt} {d19 : List PySem.Expr} {r19 : Option PySem.Expr} {t19 : List TypeParam} {s19 : Scope} {u19 : Option Scope} {l19 : Pos} {n20 q20 : Str} {p20 : Arguments} {b20 : List Stmt} {d20 : List PySem.Expr} {r20 : Option PySem.Expr} {t20 : List TypeParam} {s20 : Scope} {u20 : Option Scope} {l20 : Pos} {n21 q21 : Str} {p21 : Arguments} {b21 : List Stmt} {d21 : List PySem.Expr} {r21 : Option PySem.Expr} {t21 : List TypeParam} {s21 : Scope} {u21 : Option Scope} {l21 : Pos} {n22 q22 : Str} {p22 : Arguments} {b22 : List Stmt} {d22 : List PySem.Expr} {r22 : Option PySem.Expr} {t22 : List TypeParam} {s22 : Scope} {u22 : Option Scope} {l22 : Pos} {n23 q23 : Str} {p23 : Arguments} {b23 : List Stmt} {d23 : List PySem.Expr} {r23 : Option PySem.Expr} {t23 : List TypeParam} {s23 : Scope} {u23 : Option Scope} {l23 : Pos} {n24 q24 : Str} {p24 : Arguments} {b24 : List Stmt} {d24 : List PySem.Expr} {r24 : Option PySem.Expr} {t24 : List TypeParam} {s24 : Scope} {u24 : Option Scope} {l24 : Pos}, PySem.Challenge.rw_xe0044_01.row.prog.main.body = [.FunctionDef n0 p0 b0 d0 r0 t0 s0 u0 q0 l0, y1, y2, .FunctionDef n3 p3 b3 d3 r3 t3 s3 u3 q3 l3, y4, y5, y6, .FunctionDef n7 p7 b7 d7 r7 t7 s7 u7 q7 l7, y8, .ClassDef nC basC kwC [y900, .FunctionDef n910 p910 b910 d910 r910 t910 s910 u910 q910 l910, .FunctionDef n920 p920 b920 d920 r920 t920 s920 u920 q920 l920, .FunctionDef n930 p930 b930 d930 r930 t930 s930 u930 q930 l930, .FunctionDef n940 p940 b940 d940 r940 t940 s940 u940 q940 l940, .FunctionDef n950 p950 b950 d950 r950 t950 s950 u950 q950 l950, .FunctionDef n960 p960 b960 d960 r960 t960 s960 u960 q960 l960, .FunctionDef n970 p970 b970 d970 r970 t970 s970 u970 q970 l970] dC tC sC uC qC saC lC, y10, .FunctionDef n11 p11 b11 d11 r11 t11 s11 u11 q11 l11, .FunctionDef n12 p12 b12 d12 r12 t12 s12 u12 q12 l12, .FunctionDef n13 p13 b13 d13 r13 t13 s13 u13 q13 l13, .FunctionDef n14 p14 b14 d14 r14 t14 s14 u14 q14 l14, .FunctionDef n15 p15 b15 d15 r15 t15 s15 u15 q15 l15, .FunctionDef n16 p16 b16 d16 r16 t16 s16 u16 q16 l16, y17, .FunctionDef n18 p18 b18 d18 r18 t18 s18 u18 q18 l18, .FunctionDef n19 p19 b19 d19 r19 t19 s19 u19 q19 l19, .FunctionDef n20 p20 b20 d20 r20 t20 s20 u20 q20 l20, .FunctionDef n21 p21 b21 d21 r21 t21 s21 u21 q21 l21, .FunctionDef n22 p22 b22 d22 r22 t22 s22 u22 q22 l22, .FunctionDef n23 p23 b23 d23 r23 t23 s23 u23 q23 l23, .FunctionDef n24 p24 b24 d24 r24 t24 s24 u24 q24 l24] → Params → Frag) rfl
  intro n0 q0 p0 b0 d0 r0 t0 s0 u0 l0 y1 y2 n3 q3 p3 b3 d3 r3 t3 s3 u3 l3 y4 y5 y6 n7 q7 p7 b7 d7 r7 t7 s7 u7 l7 y8 nC qC basC kwC dC tC sC uC saC lC y900 n910 q910 p910 b910 d910 r910 t910 s910 u910 l910 n920 q920 p920 b920 d920 r920 t920 s920 u920 l920 n930 q930 p930 b930 d930 r930 t930 s930 u930 l930 n940 q940 p940 b940 d940 r940 t940 s940 u940 l940 n950 q950 p950 b950 d950 r950 t950 s950 u950 l950 n960 q960 p960 b960 d960 r960 t960 s960 u960 l960 n970 q970 p970 b970 d970 r970 t970 s970 u970 l970 y10 n11 q11 p11 b11 d11 r11 t11 s11 u11 l11 n12 q12 p12 b12 d12 r12 t12 s12 u12 l12 n13 q13 p13 b13 d13 r13 t13 s13 u13 l13 n14 q14 p14 b14 d14 r14 t14 s14 u14 l14 n15 q15 p15 b15 d15 r15 t15 s15 u15 l15 n16 q16 p16 b16 d16 r16 t16 s16 u16 l16 y17 n18 q18 p18 b18 d18 r18 t18 s18 u18 l18 n19 q19 p19 b19 d19 r19 t19 s19 u19 l19 n20 q20 p20 b20 d20 r20 t20 s20 u20 l20 n21 q21 p21 b21 d21 r21 t21 s21 u21 l21 n22 q22 p22 b22 d22 r22 t22 s22 u22 l22 n23 q23 p23 b23 d23 r23 t23 s23 u23 l23 n24 q24 p24 b24 d24 r24 t24 s24 u24 l24 _
  exact fun P =>
    ((nat_lit 2, { cls := Value.none, data := Data.dict #[{ hash := PyData.keyHash P (Str.ofString "type.__subclasses__.Exception.0"), key := Value.str (Str.ofString "type.__subclasses__.Exception.0") (255 : Nat), val := Value.int 39 (0 : Nat) }, { hash := PyData.keyHash P (Str.ofString "type.__subclasses__.Exception.n"), key := Value.str (Str.ofString "type.__subclasses__.Exception.n") (256 : Nat), val := Value.int 1 (0 : Nat) }] (2 : Nat) }) ::
    (nat_lit 3, { cls := Value.type "dict", data := Data.dict #[{ hash := PyData.keyHash P (Str.ofString "__name__"), key := Value.str (Str.ofString "__name__") (165 : Nat), val := Value.str (Str.ofString "law_xe0044_01") (430 : Nat) }, { hash := PyData.keyHash P (Str.ofString "__doc__"), key := Value.str (Str.ofString "__doc__") (166 : Nat), val := Value.none }, { hash := PyData.keyHash P (Str.ofString "__package__"), key := Value.str (Str.ofString "__package__") (167 : Nat), val := Value.none }, { hash := PyData.keyHash P (Str.ofString "__loader__"), key := Value.str (Str.ofString "__loader__") (168 : Nat), val := Value.builtin "__main__.__loader__#opaque" }, { hash := PyData.keyHash P (Str.ofString "__spec__"), key := Value.str (Str.ofString "__spec__") (169 : Nat), val := Value.none }, { hash := PyData.keyHash P (Str.ofString "__annotations__"), key := Value.str (Str.ofString "__annotations__") (170 : Nat), val := Value.ref (6 : Nat) }, { hash := PyData.keyHash P (Str.ofString "__builtins__"), key := Value.str (Str.ofString "__builtins__") (171 : Nat), val := Value.ref (4 : Nat) }, { hash := PyData.keyHash P (Str.ofString "__file__"), key := Value.str (Str.ofString "__file__") (173 : Nat), val := Value.str (Str.ofString "/claim/cut.py") (172 : Nat) }, { hash := PyData.keyHash P (Str.ofString "__cached__"), key := Value.str (Str.ofString "__cached__") (174 : Nat), val := Value.none }, { hash := PyData.keyHash P (Str.ofString "_wall"), key := Value.str (Str.ofString "_wall") (193 : Nat), val := Value.ref (21 : Nat) }, { hash := PyData.keyHash P (Str.ofString "COMPILER_FLAG_NAMES"), key := Value.str (Str.ofString "COMPILER_FLAG_NAMES") (226 : Nat), val := Value.ref (22 : Nat) }, { hash := PyData.keyHash P (Str.ofString "pretty_flags"), key := Value.str (Str.ofString "pretty_flags") (236 : Nat), val := Value.ref (29 : Nat) }, { hash := PyData.keyHash P (Str.ofString "Error"), key := Value.str (Str.ofString "Error") (258 : Nat), val := Value.ref (39 : Nat) }, { hash := PyData.keyHash P (Str.ofString "error_reply"), key := Value.str (Str.ofString "error_reply") (274 : Nat), val := Value.ref (52 : Nat) }, { hash := PyData.keyHash P (Str.ofString "parse257"), key := Value.str (Str.ofString "parse257") (285 : Nat), val := Value.ref (61 : Nat) }, { hash := PyData.keyHash P (Str.ofString "Whitespace"), key := Value.str (Str.ofString "Whitespace") (379 : Nat), val := Value.ref (123 : Nat) }, { hash := PyData.keyHash P (Str.ofString "SubElement"), key := Value.str (Str.ofString "SubElement") (392 : Nat), val := Value.ref (136 : Nat) }, { hash := PyData.keyHash P (Str.ofString "_serialize_text"), key := Value.str (Str.ofString "_serialize_text") (401 : Nat), val := Value.ref (143 : Nat) }, { hash := PyData.keyHash P (Str.ofString "_raise_serialization_error"), key := Value.str (Str.ofString "_raise_serialization_error") (408 : Nat), val := Value.ref (150 : Nat) }, { hash := PyData.keyHash P (Str.ofString "_escape_attrib"), key := Value.str (Str.ofString "_escape_attrib") (415 : Nat), val := Value.ref (157 : Nat) }, { hash := PyData.keyHash P (Str.ofString "_escape_attrib_html"), key := Value.str (Str.ofString "_escape_attrib_html") (422 : Nat), val := Value.ref (164 : Nat) }, { hash := PyData.keyHash P (Str.ofString "_escape_attrib_c14n"), key := Value.str (Str.ofString "_escape_attrib_c14n") (429 : Nat), val := Value.ref (171 : Nat) }, { hash := PyData.keyHash P (Str.ofString "_law_word"), key := Value.str (Str.ofString "_law_word") (439 : Nat), val := Value.ref (178 : Nat) }, { hash := PyData.keyHash P (Str.ofString "_law_lead"), key := Value.str (Str.ofString "_law_lead") (448 : Nat), val := Value.ref (185 : Nat) }, { hash := PyData.keyHash P (Str.ofString "_law_element"), key := Value.str (Str.ofString "_law_element") (459 : Nat), val := Value.ref (192 : Nat) }, { hash := PyData.keyHash P (Str.ofString "_law_heard"), key := Value.str (Str.ofString "_law_heard") (471 : Nat), val := Value.ref (199 : Nat) }, { hash := PyData.keyHash P (Str.ofString "_law_run"), key := Value.str (Str.ofString "_law_run") (477 : Nat), val := Value.ref (204 : Nat) }, { hash := PyData.keyHash P (Str.ofString "_law_taken"), key := Value.str (Str.ofString "_law_taken") (487 : Nat), val := Value.ref (211 : Nat) }, { hash := PyData.keyHash P (Str.ofString "law"), key := Value.str (Str.ofString "law") (493 : Nat), val := Value.ref (216 : Nat) }] (29 : Nat) }) ::
    (nat_lit 15, { cls := Value.type "tuple", data := Data.seq #[] }) ::
    (nat_lit 17, { cls := Value.type "tuple", data := Data.seq #[Value.str (Str.ofString "k") (190 : Nat)] }) ::
    (nat_lit 18, { cls := Value.type "tuple", data := Data.seq #[] }) ::
    (nat_lit 20, { cls := Value.type "code", data := Data.fields #[Value.str (Str.ofString "_wall") (187 : Nat), Value.str (Str.ofString "_wall") (188 : Nat), Value.str (Str.ofString "/claim/cut.py") (189 : Nat), Value.int 1 (0 : Nat), Value.int 1 (0 : Nat), Value.int 0 (0 : Nat), Value.int 0 (0 : Nat), Value.int 3 (0 : Nat), Value.ref (15 : Nat), Value.bool true, Value.int 181 (0 : Nat), Value.ref (16 : Nat), Value.none, Value.ref (17 : Nat), Value.ref (18 : Nat), Value.ref (19 : Nat), Value.int 191 (0 : Nat), Value.int 1 (0 : Nat), Value.str (Str.ofString "/claim/cut.py") (192 : Nat)] }) ::
    (nat_lit 21, { cls := Value.type "function", data := Data.func { name := Str.ofString "_wall", qualname := Str.ofString "_wall", params := p0, body := FuncBody.stmts b0, scope := s0, globals := (3 : Nat), closure := [], defaults := Value.none, kwdefaults := Value.none, pyModule := Value.str (Str.ofString "__main__") (164 : Nat), code := Value.ref (20 : Nat) } }) ::
    (nat_lit 22, { cls := Value.type "dict", data := Data.dict #[{ hash := (1 : Nat), key := Value.int 1 (196 : Nat), val := Value.str (Str.ofString "OPTIMIZED") (197 : Nat) }, { hash := (2 : Nat), key := Value.int 2 (198 : Nat), val := Value.str (Str.ofString "NEWLOCALS") (199 : Nat) }, { hash := (4 : Nat), key := Value.int 4 (200 : Nat), val := Value.str (Str.ofString "VARARGS") (201 : Nat) }, { hash := (8 : Nat), key := Value.int 8 (202 : Nat), val := Value.str (Str.ofString "VARKEYWORDS") (203 : Nat) }, { hash := (16 : Nat), key := Value.int 16 (204 : Nat), val := Value.str (Str.ofString "NESTED") (205 : Nat) }, { hash := (32 : Nat), key := Value.int 32 (206 : Nat), val := Value.str (Str.ofString "GENERATOR") (207 : Nat) }, { hash := (64 : Nat), key := Value.int 64 (208 : Nat), val := Value.str (Str.ofString "NOFREE") (209 : Nat) }, { hash := (128 : Nat), key := Value.int 128 (210 : Nat), val := Value.str (Str.ofString "COROUTINE") (211 : Nat) }, { hash := (256 : Nat), key := Value.int 256 (212 : Nat), val := Value.str (Str.ofString "ITERABLE_COROUTINE") (213 : Nat) }, { hash := (512 : Nat), key := Value.int 512 (214 : Nat), val := Value.str (Str.ofString "ASYNC_GENERATOR") (215 : Nat) }] (10 : Nat) }) ::
    (nat_lit 23, { cls := Value.type "tuple", data := Data.seq #[] }) ::
    (nat_lit 25, { cls := Value.type "tuple", data := Data.seq #[Value.str (Str.ofString "flags") (230 : Nat), Value.str (Str.ofString "names") (231 : Nat), Value.str (Str.ofString "i") (232 : Nat), Value.str (Str.ofString "flag") (233 : Nat)] }) ::
    (nat_lit 26, { cls := Value.type "tuple", data := Data.seq #[] }) ::
    (nat_lit 28, { cls := Value.type "code", data := Data.fields #[Value.str (Str.ofString "pretty_flags") (227 : Nat), Value.str (Str.ofString "pretty_flags") (228 : Nat), Value.str (Str.ofString "/claim/cut.py") (229 : Nat), Value.int 6 (0 : Nat), Value.int 1 (0 : Nat), Value.int 0 (0 : Nat), Value.int 0 (0 : Nat), Value.int 3 (0 : Nat), Value.ref (23 : Nat), Value.bool true, Value.int 181 (0 : Nat), Value.ref (24 : Nat), Value.none, Value.ref (25 : Nat), Value.ref (26 : Nat), Value.ref (27 : Nat), Value.int 234 (0 : Nat), Value.int 6 (0 : Nat), Value.str (Str.ofString "/claim/cut.py") (235 : Nat)] }) ::
    (nat_lit 29, { cls := Value.type "function", data := Data.func { name := Str.ofString "pretty_flags", qualname := Str.ofString "pretty_flags", params := p3, body := FuncBody.stmts b3, scope := s3, globals := (3 : Nat), closure := [], defaults := Value.none, kwdefaults := Value.none, pyModule := Value.str (Str.ofString "cpy313.dis") (194 : Nat), code := Value.ref (28 : Nat) } }) ::
    (nat_lit 30, { cls := Value.type "tuple", data := Data.seq #[Value.type "Exception"] }) ::
    (nat_lit 37, { cls := Value.type "tuple", data := Data.seq #[] }) ::
    (nat_lit 38, { cls := Value.type "dict", data := Data.dict #[{ hash := PyData.keyHash P (Str.ofString "__module__"), key := Value.str (Str.ofString "__module__") (246 : Nat), val := Value.str (Str.ofString "cpy313.ftplib") (237 : Nat) }, { hash := PyData.keyHash P (Str.ofString "__firstlineno__"), key := Value.str (Str.ofString "__firstlineno__") (250 : Nat), val := Value.int 19 (249 : Nat) }, { hash := PyData.keyHash P (Str.ofString "__static_attributes__"), key := Value.str (Str.ofString "__static_attributes__") (251 : Nat), val := Value.ref (37 : Nat) }, { hash := PyData.keyHash P (Str.ofString "__weakref__"), key := Value.str (Str.ofString "__weakref__") (253 : Nat), val := Value.ref (40 : Nat) }, { hash := PyData.keyHash P (Str.ofString "__doc__"), key := Value.str (Str.ofString "__doc__") (254 : Nat), val := Value.none }] (3 : Nat) }) ::
    (nat_lit 39, { cls := Value.type "type", data := Data.cls { name := Str.ofString "Error", bases := [Value.type "Exception"], mro := [Value.ref (39 : Nat), Value.type "Exception", Value.type "BaseException", Value.type "object"], ns := (38 : Nat), qualname := Str.ofString "Error", subclasses := [Value.ref (52 : Nat)] }, slots := #[some (Value.ref (30 : Nat)), none, some (Value.str (Str.ofString "Error") (239 : Nat)), some (Value.str (Str.ofString "Error") (247 : Nat)), some (Value.builtin "Exception.__new__"), some (Value.bool true)] }) ::
    (nat_lit 40, { cls := Value.type "getset_descriptor", data := Data.fields #[Value.str (Str.ofString "__weakref__") (252 : Nat), Value.ref (39 : Nat), Value.builtin "ExceptionGroup.__weakref__", Value.none] }) ::
    (nat_lit 43, { cls := Value.type "tuple", data := Data.seq #[Value.ref (39 : Nat)] }) ::
    (nat_lit 50, { cls := Value.type "tuple", data := Data.seq #[] }) ::
    (nat_lit 51, { cls := Value.type "dict", data := Data.dict #[{ hash := PyData.keyHash P (Str.ofString "__module__"), key := Value.str (Str.ofString "__module__") (266 : Nat), val := Value.str (Str.ofString "cpy313.ftplib") (237 : Nat) }, { hash := PyData.keyHash P (Str.ofString "__firstlineno__"), key := Value.str (Str.ofString "__firstlineno__") (270 : Nat), val := Value.int 21 (269 : Nat) }, { hash := PyData.keyHash P (Str.ofString "__static_attributes__"), key := Value.str (Str.ofString "__static_attributes__") (271 : Nat), val := Value.ref (50 : Nat) }, { hash := PyData.keyHash P (Str.ofString "__doc__"), key := Value.str (Str.ofString "__doc__") (272 : Nat), val := Value.none }] (2 : Nat) }) ::
    (nat_lit 52, { cls := Value.type "type", data := Data.cls { name := Str.ofString "error_reply", bases := [Value.ref (39 : Nat)], mro := [Value.ref (52 : Nat), Value.ref (39 : Nat), Value.type "Exception", Value.type "BaseException", Value.type "object"], ns := (51 : Nat), qualname := Str.ofString "error_reply" }, slots := #[some (Value.ref (43 : Nat)), none, some (Value.str (Str.ofString "error_reply") (259 : Nat)), some (Value.str (Str.ofString "error_reply") (267 : Nat)), some (Value.builtin "Exception.__new__"), some (Value.bool true)] }) ::
    (nat_lit 55, { cls := Value.type "tuple", data := Data.seq #[] }) ::
    (nat_lit 57, { cls := Value.type "tuple", data := Data.seq #[Value.str (Str.ofString "resp") (278 : Nat), Value.str (Str.ofString "dirname") (279 : Nat), Value.str (Str.ofString "i") (280 : Nat), Value.str (Str.ofString "n") (281 : Nat), Value.str (Str.ofString "c") (282 : Nat)] }) ::
    (nat_lit 58, { cls := Value.type "tuple", data := Data.seq #[] }) ::
    (nat_lit 60, { cls := Value.type "code", data := Data.fields #[Value.str (Str.ofString "parse257") (275 : Nat), Value.str (Str.ofString "parse257") (276 : Nat), Value.str (Str.ofString "/claim/cut.py") (277 : Nat), Value.int 23 (0 : Nat), Value.int 1 (0 : Nat), Value.int 0 (0 : Nat), Value.int 0 (0 : Nat), Value.int 3 (0 : Nat), Value.ref (55 : Nat), Value.bool true, Value.int 181 (0 : Nat), Value.ref (56 : Nat), Value.none, Value.ref (57 : Nat), Value.ref (58 : Nat), Value.ref (59 : Nat), Value.int 283 (0 : Nat), Value.int 23 (0 : Nat), Value.str (Str.ofString "/claim/cut.py") (284 : Nat)] }) ::
    (nat_lit 61, { cls := Value.type "function", data := Data.func { name := Str.ofString "parse257", qualname := Str.ofString "parse257", params := p7, body := FuncBody.stmts b7, scope := s7, globals := (3 : Nat), closure := [], defaults := Value.none, kwdefaults := Value.none, pyModule := Value.str (Str.ofString "cpy313.ftplib") (237 : Nat), code := Value.ref (60 : Nat) } }) ::
    (nat_lit 72, { cls := Value.type "tuple", data := Data.seq #[] }) ::
    (nat_lit 74, { cls := Value.type "tuple", data := Data.seq #[Value.str (Str.ofString "self") (308 : Nat), Value.str (Str.ofString "ws") (309 : Nat), Value.str (Str.ofString "S") (310 : Nat), Value.str (Str.ofString "T") (311 : Nat), Value.str (Str.ofString "count") (312 : Nat), Value.str (Str.ofString "b") (313 : Nat), Value.str (Str.ofString "n") (314 : Nat), Value.str (Str.ofString "nt") (315 : Nat), Value.str (Str.ofString "ch") (316 : Nat)] }) ::
    (nat_lit 75, { cls := Value.type "tuple", data := Data.seq #[] }) ::
    (nat_lit 77, { cls := Value.type "code", data := Data.fields #[Value.str (Str.ofString "__init__") (305 : Nat), Value.str (Str.ofString "Whitespace.__init__") (306 : Nat), Value.str (Str.ofString "/claim/cut.py") (307 : Nat), Value.int 44 (0 : Nat), Value.int 2 (0 : Nat), Value.int 0 (0 : Nat), Value.int 0 (0 : Nat), Value.int 3 (0 : Nat), Value.ref (72 : Nat), Value.bool true, Value.int 181 (0 : Nat), Value.ref (73 : Nat), Value.none, Value.ref (74 : Nat), Value.ref (75 : Nat), Value.ref (76 : Nat), Value.int 317 (0 : Nat), Value.int 44 (0 : Nat), Value.str (Str.ofString "/claim/cut.py") (318 : Nat)] }) ::
    (nat_lit 78, { cls := Value.type "function", data := Data.func { name := Str.ofString "__init__", qualname := Str.ofString "Whitespace.__init__", params := p910, body := FuncBody.stmts b910, scope := s910, globals := (3 : Nat), closure := [], defaults := Value.none, kwdefaults := Value.none, pyModule := Value.str (Str.ofString "cpy313.tabnanny") (286 : Nat), code := Value.ref (77 : Nat) } }) ::
    (nat_lit 79, { cls := Value.type "tuple", data := Data.seq #[] }) ::
    (nat_lit 81, { cls := Value.type "tuple", data := Data.seq #[Value.str (Str.ofString "self") (323 : Nat)] }) ::
    (nat_lit 82, { cls := Value.type "tuple", data := Data.seq #[] }) ::
    (nat_lit 84, { cls := Value.type "code", data := Data.fields #[Value.str (Str.ofString "longest_run_of_spaces") (320 : Nat), Value.str (Str.ofString "Whitespace.longest_run_of_spaces") (321 : Nat), Value.str (Str.ofString "/claim/cut.py") (322 : Nat), Value.int 67 (0 : Nat), Value.int 1 (0 : Nat), Value.int 0 (0 : Nat), Value.int 0 (0 : Nat), Value.int 3 (0 : Nat), Value.ref (79 : Nat), Value.bool true, Value.int 181 (0 : Nat), Value.ref (80 : Nat), Value.none, Value.ref (81 : Nat), Value.ref (82 : Nat), Value.ref (83 : Nat), Value.int 324 (0 : Nat), Value.int 67 (0 : Nat), Value.str (Str.ofString "/claim/cut.py") (325 : Nat)] }) ::
    (nat_lit 85, { cls := Value.type "function", data := Data.func { name := Str.ofString "longest_run_of_spaces", qualname := Str.ofString "Whitespace.longest_run_of_spaces", params := p920, body := FuncBody.stmts b920, scope := s920, globals := (3 : Nat), closure := [], defaults := Value.none, kwdefaults := Value.none, pyModule := Value.str (Str.ofString "cpy313.tabnanny") (286 : Nat), code := Value.ref (84 : Nat) } }) ::
    (nat_lit 86, { cls := Value.type "tuple", data := Data.seq #[] }) ::
    (nat_lit 88, { cls := Value.type "tuple", data := Data.seq #[Value.str (Str.ofString "self") (330 : Nat), Value.str (Str.ofString "tabsize") (331 : Nat)] }) ::
    (nat_lit 89, { cls := Value.type "tuple", data := Data.seq #[] }) ::
    (nat_lit 91, { cls := Value.type "code", data := Data.fields #[Value.str (Str.ofString "indent_level") (327 : Nat), Value.str (Str.ofString "Whitespace.indent_level") (328 : Nat), Value.str (Str.ofString "/claim/cut.py") (329 : Nat), Value.int 70 (0 : Nat), Value.int 2 (0 : Nat), Value.int 0 (0 : Nat), Value.int 0 (0 : Nat), Value.int 3 (0 : Nat), Value.ref (86 : Nat), Value.bool true, Value.int 181 (0 : Nat), Value.ref (87 : Nat), Value.none, Value.ref (88 : Nat), Value.ref (89 : Nat), Value.ref (90 : Nat), Value.int 332 (0 : Nat), Value.int 70 (0 : Nat), Value.str (Str.ofString "/claim/cut.py") (333 : Nat)] }) ::
    (nat_lit 92, { cls := Value.type "function", data := Data.func { name := Str.ofString "indent_level", qualname := Str.ofString "Whitespace.indent_level", params := p930, body := FuncBody.stmts b930, scope := s930, globals := (3 : Nat), closure := [], defaults := Value.none, kwdefaults := Value.none, pyModule := Value.str (Str.ofString "cpy313.tabnanny") (286 : Nat), code := Value.ref (91 : Nat) } }) ::
    (nat_lit 93, { cls := Value.type "tuple", data := Data.seq #[] }) ::
    (nat_lit 95, { cls := Value.type "tuple", data := Data.seq #[Value.str (Str.ofString "self") (338 : Nat), Value.str (Str.ofString "other") (339 : Nat)] }) ::
    (nat_lit 96, { cls := Value.type "tuple", data := Data.seq #[] }) ::
    (nat_lit 98, { cls := Value.type "code", data := Data.fields #[Value.str (Str.ofString "equal") (335 : Nat), Value.str (Str.ofString "Whitespace.equal") (336 : Nat), Value.str (Str.ofString "/claim/cut.py") (337 : Nat), Value.int 73 (0 : Nat), Value.int 2 (0 : Nat), Value.int 0 (0 : Nat), Value.int 0 (0 : Nat), Value.int 3 (0 : Nat), Value.ref (93 : Nat), Value.bool true, Value.int 181 (0 : Nat), Value.ref (94 : Nat), Value.none, Value.ref (95 : Nat), Value.ref (96 : Nat), Value.ref (97 : Nat), Value.int 340 (0 : Nat), Value.int 73 (0 : Nat), Value.str (Str.ofString "/claim/cut.py") (341 : Nat)] }) ::
    (nat_lit 99, { cls := Value.type "function", data := Data.func { name := Str.ofString "equal", qualname := Str.ofString "Whitespace.equal", params := p940, body := FuncBody.stmts b940, scope := s940, globals := (3 : Nat), closure := [], defaults := Value.none, kwdefaults := Value.none, pyModule := Value.str (Str.ofString "cpy313.tabnanny") (286 : Nat), code := Value.ref (98 : Nat) } }) ::
    (nat_lit 100, { cls := Value.type "tuple", data := Data.seq #[] }) ::
    (nat_lit 102, { cls := Value.type "tuple", data := Data.seq #[Value.str (Str.ofString "self") (346 : Nat), Value.str (Str.ofString "other") (347 : Nat)] }) ::
    (nat_lit 103, { cls := Value.type "tuple", data := Data.seq #[] }) ::
    (nat_lit 105, { cls := Value.type "code", data := Data.fields #[Value.str (Str.ofString "not_equal_witness") (343 : Nat), Value.str (Str.ofString "Whitespace.not_equal_witness") (344 : Nat), Value.str (Str.ofString "/claim/cut.py") (345 : Nat), Value.int 76 (0 : Nat), Value.int 2 (0 : Nat), Value.int 0 (0 : Nat), Value.int 0 (0 : Nat), Value.int 3 (0 : Nat), Value.ref (100 : Nat), Value.bool true, Value.int 181 (0 : Nat), Value.ref (101 : Nat), Value.none, Value.ref (102 : Nat), Value.ref (103 : Nat), Value.ref (104 : Nat), Value.int 348 (0 : Nat), Value.int 76 (0 : Nat), Value.str (Str.ofString "/claim/cut.py") (349 : Nat)] }) ::
    (nat_lit 106, { cls := Value.type "function", data := Data.func { name := Str.ofString "not_equal_witness", qualname := Str.ofString "Whitespace.not_equal_witness", params := p950, body := FuncBody.stmts b950, scope := s950, globals := (3 : Nat), closure := [], defaults := Value.none, kwdefaults := Value.none, pyModule := Value.str (Str.ofString "cpy313.tabnanny") (286 : Nat), code := Value.ref (105 : Nat) } }) ::
    (nat_lit 107, { cls := Value.type "tuple", data := Data.seq #[] }) ::
    (nat_lit 109, { cls := Value.type "tuple", data := Data.seq #[Value.str (Str.ofString "self") (354 : Nat), Value.str (Str.ofString "other") (355 : Nat)] }) ::
    (nat_lit 110, { cls := Value.type "tuple", data := Data.seq #[] }) ::
    (nat_lit 112, { cls := Value.type "code", data := Data.fields #[Value.str (Str.ofString "less") (351 : Nat), Value.str (Str.ofString "Whitespace.less") (352 : Nat), Value.str (Str.ofString "/claim/cut.py") (353 : Nat), Value.int 79 (0 : Nat), Value.int 2 (0 : Nat), Value.int 0 (0 : Nat), Value.int 0 (0 : Nat), Value.int 3 (0 : Nat), Value.ref (107 : Nat), Value.bool true, Value.int 181 (0 : Nat), Value.ref (108 : Nat), Value.none, Value.ref (109 : Nat), Value.ref (110 : Nat), Value.ref (111 : Nat), Value.int 356 (0 : Nat), Value.int 79 (0 : Nat), Value.str (Str.ofString "/claim/cut.py") (357 : Nat)] }) ::
    (nat_lit 113, { cls := Value.type "function", data := Data.func { name := Str.ofString "less", qualname := Str.ofString "Whitespace.less", params := p960, body := FuncBody.stmts b960, scope := s960, globals := (3 : Nat), closure := [], defaults := Value.none, kwdefaults := Value.none, pyModule := Value.str (Str.ofString "cpy313.tabnanny") (286 : Nat), code := Value.ref (112 : Nat) } }) ::
    (nat_lit 114, { cls := Value.type "tuple", data := Data.seq #[] }) ::
    (nat_lit 116, { cls := Value.type "tuple", data := Data.seq #[Value.str (Str.ofString "self") (362 : Nat), Value.str (Str.ofString "other") (363 : Nat)] }) ::
    (nat_lit 117, { cls := Value.type "tuple", data := Data.seq #[] }) ::
    (nat_lit 119, { cls := Value.type "code", data := Data.fields #[Value.str (Str.ofString "not_less_witness") (359 : Nat), Value.str (Str.ofString "Whitespace.not_less_witness") (360 : Nat), Value.str (Str.ofString "/claim/cut.py") (361 : Nat), Value.int 82 (0 : Nat), Value.int 2 (0 : Nat), Value.int 0 (0 : Nat), Value.int 0 (0 : Nat), Value.int 3 (0 : Nat), Value.ref (114 : Nat), Value.bool true, Value.int 181 (0 : Nat), Value.ref (115 : Nat), Value.none, Value.ref (116 : Nat), Value.ref (117 : Nat), Value.ref (118 : Nat), Value.int 364 (0 : Nat), Value.int 82 (0 : Nat), Value.str (Str.ofString "/claim/cut.py") (365 : Nat)] }) ::
    (nat_lit 120, { cls := Value.type "function", data := Data.func { name := Str.ofString "not_less_witness", qualname := Str.ofString "Whitespace.not_less_witness", params := p970, body := FuncBody.stmts b970, scope := s970, globals := (3 : Nat), closure := [], defaults := Value.none, kwdefaults := Value.none, pyModule := Value.str (Str.ofString "cpy313.tabnanny") (286 : Nat), code := Value.ref (119 : Nat) } }) ::
    (nat_lit 121, { cls := Value.type "tuple", data := Data.seq #[Value.str (Str.ofString "is_simple") (367 : Nat), Value.str (Str.ofString "n") (368 : Nat), Value.str (Str.ofString "norm") (369 : Nat), Value.str (Str.ofString "nt") (370 : Nat), Value.str (Str.ofString "raw") (371 : Nat)] }) ::
    (nat_lit 122, { cls := Value.type "dict", data := Data.dict #[{ hash := PyData.keyHash P (Str.ofString "__module__"), key := Value.str (Str.ofString "__module__") (295 : Nat), val := Value.str (Str.ofString "cpy313.tabnanny") (286 : Nat) }, { hash := PyData.keyHash P (Str.ofString "__firstlineno__"), key := Value.str (Str.ofString "__firstlineno__") (299 : Nat), val := Value.int 41 (298 : Nat) }, { hash := PyData.keyHash P (Str.ofString "S"), key := Value.str (Str.ofString "S") (303 : Nat), val := Value.str (Str.ofString " ") (301 : Nat) }, { hash := PyData.keyHash P (Str.ofString "T"), key := Value.str (Str.ofString "T") (304 : Nat), val := Value.str (Str.ofString "\t") (302 : Nat) }, { hash := PyData.keyHash P (Str.ofString "__init__"), key := Value.str (Str.ofString "__init__") (319 : Nat), val := Value.ref (78 : Nat) }, { hash := PyData.keyHash P (Str.ofString "longest_run_of_spaces"), key := Value.str (Str.ofString "longest_run_of_spaces") (326 : Nat), val := Value.ref (85 : Nat) }, { hash := PyData.keyHash P (Str.ofString "indent_level"), key := Value.str (Str.ofString "indent_level") (334 : Nat), val := Value.ref (92 : Nat) }, { hash := PyData.keyHash P (Str.ofString "equal"), key := Value.str (Str.ofString "equal") (342 : Nat), val := Value.ref (99 : Nat) }, { hash := PyData.keyHash P (Str.ofString "not_equal_witness"), key := Value.str (Str.ofString "not_equal_witness") (350 : Nat), val := Value.ref (106 : Nat) }, { hash := PyData.keyHash P (Str.ofString "less"), key := Value.str (Str.ofString "less") (358 : Nat), val := Value.ref (113 : Nat) }, { hash := PyData.keyHash P (Str.ofString "not_less_witness"), key := Value.str (Str.ofString "not_less_witness") (366 : Nat), val := Value.ref (120 : Nat) }, { hash := PyData.keyHash P (Str.ofString "__static_attributes__"), key := Value.str (Str.ofString "__static_attributes__") (372 : Nat), val := Value.ref (121 : Nat) }, { hash := PyData.keyHash P (Str.ofString "__dict__"), key := Value.str (Str.ofString "__dict__") (374 : Nat), val := Value.ref (124 : Nat) }, { hash := PyData.keyHash P (Str.ofString "__weakref__"), key := Value.str (Str.ofString "__weakref__") (376 : Nat), val := Value.ref (125 : Nat) }, { hash := PyData.keyHash P (Str.ofString "__doc__"), key := Value.str (Str.ofString "__doc__") (377 : Nat), val := Value.none }] (4 : Nat) }) ::
    (nat_lit 123, { cls := Value.type "type", data := Data.cls { name := Str.ofString "Whitespace", bases := [Value.type "object"], mro := [Value.ref (123 : Nat), Value.type "object"], ns := (122 : Nat), qualname := Str.ofString "Whitespace" }, slots := #[none, none, some (Value.str (Str.ofString "Whitespace") (288 : Nat)), some (Value.str (Str.ofString "Whitespace") (296 : Nat)), some (Value.builtin "object.__new__"), some (Value.bool true)] }) ::
    (nat_lit 124, { cls := Value.type "getset_descriptor", data := Data.fields #[Value.str (Str.ofString "__dict__") (373 : Nat), Value.ref (123 : Nat), Value.builtin "function.__dict__", Value.builtin "function.__dict__#set"] }) ::
    (nat_lit 125, { cls := Value.type "getset_descriptor", data := Data.fields #[Value.str (Str.ofString "__weakref__") (375 : Nat), Value.ref (123 : Nat), Value.builtin "ExceptionGroup.__weakref__", Value.none] }) ::
    (nat_lit 128, { cls := Value.type "dict", data := Data.dict #[] }) ::
    (nat_lit 129, { cls := Value.type "tuple", data := Data.seq #[Value.ref (128 : Nat)] }) ::
    (nat_lit 130, { cls := Value.type "tuple", data := Data.seq #[] }) ::
    (nat_lit 132, { cls := Value.type "tuple", data := Data.seq #[Value.str (Str.ofString "parent") (385 : Nat), Value.str (Str.ofString "tag") (386 : Nat), Value.str (Str.ofString "attrib") (387 : Nat), Value.str (Str.ofString "extra") (388 : Nat), Value.str (Str.ofString "element") (389 : Nat)] }) ::
    (nat_lit 133, { cls := Value.type "tuple", data := Data.seq #[] }) ::
    (nat_lit 135, { cls := Value.type "code", data := Data.fields #[Value.str (Str.ofString "SubElement") (382 : Nat), Value.str (Str.ofString "SubElement") (383 : Nat), Value.str (Str.ofString "/claim/cut.py") (384 : Nat), Value.int 85 (0 : Nat), Value.int 3 (0 : Nat), Value.int 0 (0 : Nat), Value.int 0 (0 : Nat), Value.int 11 (0 : Nat), Value.ref (130 : Nat), Value.bool true, Value.int 181 (0 : Nat), Value.ref (131 : Nat), Value.none, Value.ref (132 : Nat), Value.ref (133 : Nat), Value.ref (134 : Nat), Value.int 390 (0 : Nat), Value.int 85 (0 : Nat), Value.str (Str.ofString "/claim/cut.py") (391 : Nat)] }) ::
    (nat_lit 136, { cls := Value.type "function", data := Data.func { name := Str.ofString "SubElement", qualname := Str.ofString "SubElement", params := p11, body := FuncBody.stmts b11, scope := s11, globals := (3 : Nat), closure := [], defaults := Value.ref (129 : Nat), kwdefaults := Value.none, pyModule := Value.str (Str.ofString "cpy313.xml.etree.ElementTree") (380 : Nat), code := Value.ref (135 : Nat) } }) ::
    (nat_lit 137, { cls := Value.type "tuple", data := Data.seq #[] }) ::
    (nat_lit 139, { cls := Value.type "tuple", data := Data.seq #[Value.str (Str.ofString "write") (396 : Nat), Value.str (Str.ofString "elem") (397 : Nat), Value.str (Str.ofString "part") (398 : Nat)] }) ::
    (nat_lit 140, { cls := Value.type "tuple", data := Data.seq #[] }) ::
    (nat_lit 142, { cls := Value.type "code", data := Data.fields #[Value.str (Str.ofString "_serialize_text") (393 : Nat), Value.str (Str.ofString "_serialize_text") (394 : Nat), Value.str (Str.ofString "/claim/cut.py") (395 : Nat), Value.int 90 (0 : Nat), Value.int 2 (0 : Nat), Value.int 0 (0 : Nat), Value.int 0 (0 : Nat), Value.int 3 (0 : Nat), Value.ref (137 : Nat), Value.bool true, Value.int 181 (0 : Nat), Value.ref (138 : Nat), Value.none, Value.ref (139 : Nat), Value.ref (140 : Nat), Value.ref (141 : Nat), Value.int 399 (0 : Nat), Value.int 90 (0 : Nat), Value.str (Str.ofString "/claim/cut.py") (400 : Nat)] }) ::
    (nat_lit 143, { cls := Value.type "function", data := Data.func { name := Str.ofString "_serialize_text", qualname := Str.ofString "_serialize_text", params := p12, body := FuncBody.stmts b12, scope := s12, globals := (3 : Nat), closure := [], defaults := Value.none, kwdefaults := Value.none, pyModule := Value.str (Str.ofString "cpy313.xml.etree.ElementTree") (380 : Nat), code := Value.ref (142 : Nat) } }) ::
    (nat_lit 144, { cls := Value.type "tuple", data := Data.seq #[] }) ::
    (nat_lit 146, { cls := Value.type "tuple", data := Data.seq #[Value.str (Str.ofString "text") (405 : Nat)] }) ::
    (nat_lit 147, { cls := Value.type "tuple", data := Data.seq #[] }) ::
    (nat_lit 149, { cls := Value.type "code", data := Data.fields #[Value.str (Str.ofString "_raise_serialization_error") (402 : Nat), Value.str (Str.ofString "_raise_serialization_error") (403 : Nat), Value.str (Str.ofString "/claim/cut.py") (404 : Nat), Value.int 95 (0 : Nat), Value.int 1 (0 : Nat), Value.int 0 (0 : Nat), Value.int 0 (0 : Nat), Value.int 3 (0 : Nat), Value.ref (144 : Nat), Value.bool true, Value.int 181 (0 : Nat), Value.ref (145 : Nat), Value.none, Value.ref (146 : Nat), Value.ref (147 : Nat), Value.ref (148 : Nat), Value.int 406 (0 : Nat), Value.int 95 (0 : Nat), Value.str (Str.ofString "/claim/cut.py") (407 : Nat)] }) ::
    (nat_lit 150, { cls := Value.type "function", data := Data.func { name := Str.ofString "_raise_serialization_error", qualname := Str.ofString "_raise_serialization_error", params := p13, body := FuncBody.stmts b13, scope := s13, globals := (3 : Nat), closure := [], defaults := Value.none, kwdefaults := Value.none, pyModule := Value.str (Str.ofString "cpy313.xml.etree.ElementTree") (380 : Nat), code := Value.ref (149 : Nat) } }) ::
    (nat_lit 151, { cls := Value.type "tuple", data := Data.seq #[] }) ::
    (nat_lit 153, { cls := Value.type "tuple", data := Data.seq #[Value.str (Str.ofString "text") (412 : Nat)] }) ::
    (nat_lit 154, { cls := Value.type "tuple", data := Data.seq #[] }) ::
    (nat_lit 156, { cls := Value.type "code", data := Data.fields #[Value.str (Str.ofString "_escape_attrib") (409 : Nat), Value.str (Str.ofString "_escape_attrib") (410 : Nat), Value.str (Str.ofString "/claim/cut.py") (411 : Nat), Value.int 97 (0 : Nat), Value.int 1 (0 : Nat), Value.int 0 (0 : Nat), Value.int 0 (0 : Nat), Value.int 3 (0 : Nat), Value.ref (151 : Nat), Value.bool true, Value.int 181 (0 : Nat), Value.ref (152 : Nat), Value.none, Value.ref (153 : Nat), Value.ref (154 : Nat), Value.ref (155 : Nat), Value.int 413 (0 : Nat), Value.int 97 (0 : Nat), Value.str (Str.ofString "/claim/cut.py") (414 : Nat)] }) ::
    (nat_lit 157, { cls := Value.type "function", data := Data.func { name := Str.ofString "_escape_attrib", qualname := Str.ofString "_escape_attrib", params := p14, body := FuncBody.stmts b14, scope := s14, globals := (3 : Nat), closure := [], defaults := Value.none, kwdefaults := Value.none, pyModule := Value.str (Str.ofString "cpy313.xml.etree.ElementTree") (380 : Nat), code := Value.ref (156 : Nat) } }) ::
    (nat_lit 158, { cls := Value.type "tuple", data := Data.seq #[] }) ::
    (nat_lit 160, { cls := Value.type "tuple", data := Data.seq #[Value.str (Str.ofString "text") (419 : Nat)] }) ::
    (nat_lit 161, { cls := Value.type "tuple", data := Data.seq #[] }) ::
    (nat_lit 163, { cls := Value.type "code", data := Data.fields #[Value.str (Str.ofString "_escape_attrib_html") (416 : Nat), Value.str (Str.ofString "_escape_attrib_html") (417 : Nat), Value.str (Str.ofString "/claim/cut.py") (418 : Nat), Value.int 116 (0 : Nat), Value.int 1 (0 : Nat), Value.int 0 (0 : Nat), Value.int 0 (0 : Nat), Value.int 3 (0 : Nat), Value.ref (158 : Nat), Value.bool true, Value.int 181 (0 : Nat), Value.ref (159 : Nat), Value.none, Value.ref (160 : Nat), Value.ref (161 : Nat), Value.ref (162 : Nat), Value.int 420 (0 : Nat), Value.int 116 (0 : Nat), Value.str (Str.ofString "/claim/cut.py") (421 : Nat)] }) ::
    (nat_lit 164, { cls := Value.type "function", data := Data.func { name := Str.ofString "_escape_attrib_html", qualname := Str.ofString "_escape_attrib_html", params := p15, body := FuncBody.stmts b15, scope := s15, globals := (3 : Nat), closure := [], defaults := Value.none, kwdefaults := Value.none, pyModule := Value.str (Str.ofString "cpy313.xml.etree.ElementTree") (380 : Nat), code := Value.ref (163 : Nat) } }) ::
    (nat_lit 165, { cls := Value.type "tuple", data := Data.seq #[] }) ::
    (nat_lit 167, { cls := Value.type "tuple", data := Data.seq #[Value.str (Str.ofString "text") (426 : Nat)] }) ::
    (nat_lit 168, { cls := Value.type "tuple", data := Data.seq #[] }) ::
    (nat_lit 170, { cls := Value.type "code", data := Data.fields #[Value.str (Str.ofString "_escape_attrib_c14n") (423 : Nat), Value.str (Str.ofString "_escape_attrib_c14n") (424 : Nat), Value.str (Str.ofString "/claim/cut.py") (425 : Nat), Value.int 127 (0 : Nat), Value.int 1 (0 : Nat), Value.int 0 (0 : Nat), Value.int 0 (0 : Nat), Value.int 3 (0 : Nat), Value.ref (165 : Nat), Value.bool true, Value.int 181 (0 : Nat), Value.ref (166 : Nat), Value.none, Value.ref (167 : Nat), Value.ref (168 : Nat), Value.ref (169 : Nat), Value.int 427 (0 : Nat), Value.int 127 (0 : Nat), Value.str (Str.ofString "/claim/cut.py") (428 : Nat)] }) ::
    (nat_lit 171, { cls := Value.type "function", data := Data.func { name := Str.ofString "_escape_attrib_c14n", qualname := Str.ofString "_escape_attrib_c14n", params := p16, body := FuncBody.stmts b16, scope := s16, globals := (3 : Nat), closure := [], defaults := Value.none, kwdefaults := Value.none, pyModule := Value.str (Str.ofString "cpy313.xml.etree.ElementTree") (380 : Nat), code := Value.ref (170 : Nat) } }) ::
    (nat_lit 172, { cls := Value.type "tuple", data := Data.seq #[] }) ::
    (nat_lit 174, { cls := Value.type "tuple", data := Data.seq #[Value.str (Str.ofString "place") (435 : Nat), Value.str (Str.ofString "known") (436 : Nat)] }) ::
    (nat_lit 175, { cls := Value.type "tuple", data := Data.seq #[] }) ::
    (nat_lit 177, { cls := Value.type "code", data := Data.fields #[Value.str (Str.ofString "_law_word") (432 : Nat), Value.str (Str.ofString "_law_word") (433 : Nat), Value.str (Str.ofString "/claim/cut.py") (434 : Nat), Value.int 145 (0 : Nat), Value.int 1 (0 : Nat), Value.int 0 (0 : Nat), Value.int 0 (0 : Nat), Value.int 3 (0 : Nat), Value.ref (172 : Nat), Value.bool true, Value.int 181 (0 : Nat), Value.ref (173 : Nat), Value.none, Value.ref (174 : Nat), Value.ref (175 : Nat), Value.ref (176 : Nat), Value.int 437 (0 : Nat), Value.int 145 (0 : Nat), Value.str (Str.ofString "/claim/cut.py") (438 : Nat)] }) ::
    (nat_lit 178, { cls := Value.type "function", data := Data.func { name := Str.ofString "_law_word", qualname := Str.ofString "_law_word", params := p18, body := FuncBody.stmts b18, scope := s18, globals := (3 : Nat), closure := [], defaults := Value.none, kwdefaults := Value.none, pyModule := Value.str (Str.ofString "law_xe0044_01") (430 : Nat), code := Value.ref (177 : Nat) } }) ::
    (nat_lit 179, { cls := Value.type "tuple", data := Data.seq #[] }) ::
    (nat_lit 181, { cls := Value.type "tuple", data := Data.seq #[Value.str (Str.ofString "state") (443 : Nat), Value.str (Str.ofString "odd") (444 : Nat), Value.str (Str.ofString "first") (445 : Nat)] }) ::
    (nat_lit 182, { cls := Value.type "tuple", data := Data.seq #[] }) ::
    (nat_lit 184, { cls := Value.type "code", data := Data.fields #[Value.str (Str.ofString "_law_lead") (440 : Nat), Value.str (Str.ofString "_law_lead") (441 : Nat), Value.str (Str.ofString "/claim/cut.py") (442 : Nat), Value.int 148 (0 : Nat), Value.int 2 (0 : Nat), Value.int 0 (0 : Nat), Value.int 0 (0 : Nat), Value.int 3 (0 : Nat), Value.ref (179 : Nat), Value.bool true, Value.int 181 (0 : Nat), Value.ref (180 : Nat), Value.none, Value.ref (181 : Nat), Value.ref (182 : Nat), Value.ref (183 : Nat), Value.int 446 (0 : Nat), Value.int 148 (0 : Nat), Value.str (Str.ofString "/claim/cut.py") (447 : Nat)] }) ::
    (nat_lit 185, { cls := Value.type "function", data := Data.func { name := Str.ofString "_law_lead", qualname := Str.ofString "_law_lead", params := p19, body := FuncBody.stmts b19, scope := s19, globals := (3 : Nat), closure := [], defaults := Value.none, kwdefaults := Value.none, pyModule := Value.str (Str.ofString "law_xe0044_01") (430 : Nat), code := Value.ref (184 : Nat) } }) ::
    (nat_lit 186, { cls := Value.type "tuple", data := Data.seq #[] }) ::
    (nat_lit 188, { cls := Value.type "tuple", data := Data.seq #[Value.str (Str.ofString "tag") (452 : Nat), Value.str (Str.ofString "attrib") (453 : Nat), Value.str (Str.ofString "one") (454 : Nat)] }) ::
    (nat_lit 189, { cls := Value.type "tuple", data := Data.seq #[Value.str (Str.ofString "tag") (455 : Nat), Value.str (Str.ofString "parts") (456 : Nat)] }) ::
    (nat_lit 191, { cls := Value.type "code", data := Data.fields #[Value.str (Str.ofString "_law_element") (449 : Nat), Value.str (Str.ofString "_law_element") (450 : Nat), Value.str (Str.ofString "/claim/cut.py") (451 : Nat), Value.int 151 (0 : Nat), Value.int 2 (0 : Nat), Value.int 0 (0 : Nat), Value.int 0 (0 : Nat), Value.int 3 (0 : Nat), Value.ref (186 : Nat), Value.bool true, Value.int 181 (0 : Nat), Value.ref (187 : Nat), Value.none, Value.ref (188 : Nat), Value.ref (189 : Nat), Value.ref (190 : Nat), Value.int 457 (0 : Nat), Value.int 151 (0 : Nat), Value.str (Str.ofString "/claim/cut.py") (458 : Nat)] }) ::
    (nat_lit 192, { cls := Value.type "function", data := Data.func { name := Str.ofString "_law_element", qualname := Str.ofString "_law_element", params := p20, body := FuncBody.stmts b20, scope := s20, globals := (3 : Nat), closure := [], defaults := Value.none, kwdefaults := Value.none, pyModule := Value.str (Str.ofString "law_xe0044_01") (430 : Nat), code := Value.ref (191 : Nat) } }) ::
    (nat_lit 193, { cls := Value.type "tuple", data := Data.seq #[] }) ::
    (nat_lit 195, { cls := Value.type "tuple", data := Data.seq #[Value.str (Str.ofString "state") (463 : Nat), Value.str (Str.ofString "tail") (464 : Nat), Value.str (Str.ofString "kind") (465 : Nat), Value.str (Str.ofString "rest") (466 : Nat), Value.str (Str.ofString "other") (467 : Nat), Value.str (Str.ofString "caught") (468 : Nat)] }) ::
    (nat_lit 196, { cls := Value.type "tuple", data := Data.seq #[] }) ::
    (nat_lit 198, { cls := Value.type "code", data := Data.fields #[Value.str (Str.ofString "_law_heard") (460 : Nat), Value.str (Str.ofString "_law_heard") (461 : Nat), Value.str (Str.ofString "/claim/cut.py") (462 : Nat), Value.int 159 (0 : Nat), Value.int 3 (0 : Nat), Value.int 0 (0 : Nat), Value.int 0 (0 : Nat), Value.int 3 (0 : Nat), Value.ref (193 : Nat), Value.bool true, Value.int 181 (0 : Nat), Value.ref (194 : Nat), Value.none, Value.ref (195 : Nat), Value.ref (196 : Nat), Value.ref (197 : Nat), Value.int 469 (0 : Nat), Value.int 159 (0 : Nat), Value.str (Str.ofString "/claim/cut.py") (470 : Nat)] }) ::
    (nat_lit 199, { cls := Value.type "function", data := Data.func { name := Str.ofString "_law_heard", qualname := Str.ofString "_law_heard", params := p21, body := FuncBody.stmts b21, scope := s21, globals := (3 : Nat), closure := [], defaults := Value.none, kwdefaults := Value.none, pyModule := Value.str (Str.ofString "law_xe0044_01") (430 : Nat), code := Value.ref (198 : Nat) } }) ::
    (nat_lit 200, { cls := Value.type "tuple", data := Data.seq #[] }) ::
    (nat_lit 203, { cls := Value.type "code", data := Data.fields #[Value.str (Str.ofString "_law_run") (472 : Nat), Value.str (Str.ofString "_law_run") (473 : Nat), Value.str (Str.ofString "/claim/cut.py") (474 : Nat), Value.int 169 (0 : Nat), Value.int 6 (0 : Nat), Value.int 0 (0 : Nat), Value.int 0 (0 : Nat), Value.int 3 (0 : Nat), Value.ref (200 : Nat), Value.bool true, Value.int 181 (0 : Nat), Value.ref (201 : Nat), Value.none, Value.none, Value.none, Value.ref (202 : Nat), Value.int 475 (0 : Nat), Value.int 169 (0 : Nat), Value.str (Str.ofString "/claim/cut.py") (476 : Nat)] }) ::
    (nat_lit 204, { cls := Value.type "function", data := Data.func { name := Str.ofString "_law_run", qualname := Str.ofString "_law_run", params := p22, body := FuncBody.stmts b22, scope := s22, globals := (3 : Nat), closure := [], defaults := Value.none, kwdefaults := Value.none, pyModule := Value.str (Str.ofString "law_xe0044_01") (430 : Nat), code := Value.ref (203 : Nat) } }) ::
    (nat_lit 205, { cls := Value.type "tuple", data := Data.seq #[] }) ::
    (nat_lit 207, { cls := Value.type "tuple", data := Data.seq #[Value.str (Str.ofString "took") (481 : Nat), Value.str (Str.ofString "had") (482 : Nat), Value.str (Str.ofString "place") (483 : Nat), Value.str (Str.ofString "state") (484 : Nat)] }) ::
    (nat_lit 208, { cls := Value.type "tuple", data := Data.seq #[] }) ::
    (nat_lit 210, { cls := Value.type "code", data := Data.fields #[Value.str (Str.ofString "_law_taken") (478 : Nat), Value.str (Str.ofString "_law_taken") (479 : Nat), Value.str (Str.ofString "/claim/cut.py") (480 : Nat), Value.int 197 (0 : Nat), Value.int 2 (0 : Nat), Value.int 0 (0 : Nat), Value.int 0 (0 : Nat), Value.int 3 (0 : Nat), Value.ref (205 : Nat), Value.bool true, Value.int 181 (0 : Nat), Value.ref (206 : Nat), Value.none, Value.ref (207 : Nat), Value.ref (208 : Nat), Value.ref (209 : Nat), Value.int 485 (0 : Nat), Value.int 197 (0 : Nat), Value.str (Str.ofString "/claim/cut.py") (486 : Nat)] }) ::
    (nat_lit 211, { cls := Value.type "function", data := Data.func { name := Str.ofString "_law_taken", qualname := Str.ofString "_law_taken", params := p23, body := FuncBody.stmts b23, scope := s23, globals := (3 : Nat), closure := [], defaults := Value.none, kwdefaults := Value.none, pyModule := Value.str (Str.ofString "law_xe0044_01") (430 : Nat), code := Value.ref (210 : Nat) } }) ::
    (nat_lit 212, { cls := Value.type "tuple", data := Data.seq #[] }) ::
    (nat_lit 215, { cls := Value.type "code", data := Data.fields #[Value.str (Str.ofString "law") (488 : Nat), Value.str (Str.ofString "law") (489 : Nat), Value.str (Str.ofString "/claim/cut.py") (490 : Nat), Value.int 204 (0 : Nat), Value.int 1 (0 : Nat), Value.int 0 (0 : Nat), Value.int 0 (0 : Nat), Value.int 3 (0 : Nat), Value.ref (212 : Nat), Value.bool true, Value.int 181 (0 : Nat), Value.ref (213 : Nat), Value.none, Value.none, Value.none, Value.ref (214 : Nat), Value.int 491 (0 : Nat), Value.int 204 (0 : Nat), Value.str (Str.ofString "/claim/cut.py") (492 : Nat)] }) ::
    (nat_lit 216, { cls := Value.type "function", data := Data.func { name := Str.ofString "law", qualname := Str.ofString "law", params := p24, body := FuncBody.stmts b24, scope := s24, globals := (3 : Nat), closure := [], defaults := Value.none, kwdefaults := Value.none, pyModule := Value.str (Str.ofString "law_xe0044_01") (430 : Nat), code := Value.ref (215 : Nat) } }) :: [] : List (Nat × Obj))
noncomputable abbrev as39 : List Addr := nat_lit 2 :: nat_lit 3 :: nat_lit 15 :: nat_lit 17 :: nat_lit 18 :: nat_lit 20 :: nat_lit 21 :: nat_lit 22 :: nat_lit 23 :: nat_lit 25 :: nat_lit 26 :: nat_lit 28 :: nat_lit 29 :: nat_lit 30 :: nat_lit 37 :: nat_lit 38 :: nat_lit 39 :: nat_lit 40 :: nat_lit 43 :: nat_lit 50 :: nat_lit 51 :: nat_lit 52 :: nat_lit 55 :: nat_lit 57 :: nat_lit 58 :: nat_lit 60 :: nat_lit 61 :: nat_lit 72 :: nat_lit 74 :: nat_lit 75 :: nat_lit 77 :: nat_lit 78 :: nat_lit 79 :: nat_lit 81 :: nat_lit 82 :: nat_lit 84 :: nat_lit 85 :: nat_lit 86 :: nat_lit 88 :: nat_lit 89 :: nat_lit 91 :: nat_lit 92 :: nat_lit 93 :: nat_lit 95 :: nat_lit 96 :: nat_lit 98 :: nat_lit 99 :: nat_lit 100 :: nat_lit 102 :: nat_lit 103 :: nat_lit 105 :: nat_lit 106 :: nat_lit 107 :: nat_lit 109 :: nat_lit 110 :: nat_lit 112 :: nat_lit 113 :: nat_lit 114 :: nat_lit 116 :: nat_lit 117 :: nat_lit 119 :: nat_lit 120 :: nat_lit 121 :: nat_lit 122 :: nat_lit 123 :: nat_lit 124 :: nat_lit 125 :: nat_lit 128 :: nat_lit 129 :: nat_lit 130 :: nat_lit 132 :: nat_lit 133 :: nat_lit 135 :: nat_lit 136 :: nat_lit 137 :: nat_lit 139 :: nat_lit 140 :: nat_lit 142 :: nat_lit 143 :: nat_lit 144 :: nat_lit 146 :: nat_lit 147 :: nat_lit 149 :: nat_lit 150 :: nat_lit 151 :: nat_lit 153 :: nat_lit 154 :: nat_lit 156 :: nat_lit 157 :: nat_lit 158 :: nat_lit 160 :: nat_lit 161 :: nat_lit 163 :: nat_lit 164 :: nat_lit 165 :: nat_lit 167 :: nat_lit 168 :: nat_lit 170 :: nat_lit 171 :: nat_lit 172 :: nat_lit 174 :: nat_lit 175 :: nat_lit 177 :: nat_lit 178 :: nat_lit 179 :: nat_lit 181 :: nat_lit 182 :: nat_lit 184 :: nat_lit 185 :: nat_lit 186 :: nat_lit 188 :: nat_lit 189 :: nat_lit 191 :: nat_lit 192 :: nat_lit 193 :: nat_lit 195 :: nat_lit 196 :: nat_lit 198 :: nat_lit 199 :: nat_lit 200 :: nat_lit 203 :: nat_lit 204 :: nat_lit 205 :: nat_lit 207 :: nat_lit 208 :: nat_lit 210 :: nat_lit 211 :: nat_lit 212 :: nat_lit 215 :: nat_lit 216 :: []
theorem as39_is (P : Params) : as39 = (hd.heap_39 P).map (·.1) := by kernel_rfl
noncomputable abbrev loose3 : List Str := [Str.ofString "COMPILER_FLAG_NAMES", Str.ofString "Whitespace", Str.ofString "SubElement"]
noncomputable abbrev hook39 : Hook := kmHook hd.heap_39 as39 as39_is [187]
noncomputable abbrev leftP (w : World) : Prop := (openEnds treeTable PySem.Challenge.rw_xe0044_01.row.prog w 3260).map (fun s => (openSeen hd.view_39 loose3 (importedModules PySem.Challenge.rw_xe0044_01.row.prog.main.body) (fun s => xlAt hd.view_39 [] s && recOk (RowW.records PySem.Challenge.rw_xe0044_01.row.toRowW) s) true s, hook39.obs s)) = some (openGood hd.view_39 loose3, hook39.val w)
theorem left_f (w : World) : leftP (w.withFollow "special-get-raises" false) := by kernel_rfl
theorem left_t (w : World) : leftP (w.withFollow "special-get-raises" true) := by kernel_rfl
theorem said39 : PySem.Challenge.rw_xe0044_01.wellSaid = true := by decide +kernel
theorem looks39 : (chainsOk hd.view_39 && opensWell PySem.Challenge.rw_xe0044_01.row.prog && (frees PySem.Challenge.rw_xe0044_01.row.toRowW && PySem.Challenge.rw_xe0044_01.row.within.isEmpty)) = true := by decide +kernel
theorem bare39 : PySem.Challenge.rw_xe0044_01.row.prog.bare := ⟨rfl, rfl, rfl, rfl, rfl, by decide +kernel⟩
theorem wit39 : PySem.Challenge.rw_xe0044_01.row.toRowW.promised := by w_witness2
noncomputable abbrev lo : List Str := looseW hd.view_39 [Str.ofString "COMPILER_FLAG_NAMES", Str.ofString "Whitespace", Str.ofString "SubElement"] ++ (recsOf hd.view_39).map (fun x => x.name) ++ (litsOf hd.view_39).map (fun x => x.1) ++ (clssOf hd.view_39 (looseW hd.view_39 [Str.ofString "COMPILER_FLAG_NAMES", Str.ofString "Whitespace", Str.ofString "SubElement"])).map (fun x => x.name)
end Mine
end
theorem Mine.forget_HD : True ∧ True := by first | (walk1; all_goals trivial; done) | exact ⟨trivial, trivial⟩
local macro_rules | `(tactic| omega) => `(tactic| lia)
section
namespace Mine
/-- all objects stand but those of the list -/
noncomputable def Keeps (E : List (Addr × Obj)) (h h' : Heap) : Prop := ∀ b o, h.get? b = some o → b ∉ E.map (·.1) → h'.get? b = some o
theorem Keeps.nil {h h' : Heap} (k : Keeps [] h h') : ∀ b o, h.get? b = some o → h'.get? b = some o := fun b o e => k b o e (fun q => nomatch q)
theorem Keeps.trans {E : List (Addr × Obj)} {h h' h'' : Heap} (k : Keeps E h h') (k' : Keeps E h' h'') : Keeps E h h'' := fun b o e q => k' b o (k b o e q) q
/-! short proofs over ledgers -/
theorem all_cons {α : Type} {P : α → Prop} {a : α} {l : List α} (h : P a) (t : ∀ p ∈ l, P p) : ∀ p ∈ a :: l, P p := List.forall_mem_cons.mpr ⟨h, t⟩
theorem all_app {α : Type} {P : α → Prop} {l r : List α} (h : ∀ p ∈ l, P p) (t : ∀ p ∈ r, P p) : ∀ p ∈ l ++ r, P p := fun p q => (List.mem_append.mp q).elim (h p) (t p)
theorem mem_at {α : Type} {l : List α} {a : α} (n : Nat) (h : l[n]? = some a) : a ∈ l := List.mem_of_getElem? h
/-- what a call of one of the text's defs does, said for every place it may be called from: E is what it may touch -/
noncomputable abbrev Told (w : World) (E : List (Addr × Obj)) (pre : Prop) (f : Addr) (vs : List Value) (post : Shared → (Value → Shared → Prop) → Prop) : Prop :=
  ∀ (mean : ExcName → Option Value) (mg mb : Str → Option Value) (dp un : Nat) (gd : Option (List Code)) (cn : Str) (cs : Scope) (a : Addr) (ccd : Value) (cl : List (Str × Addr)) (outer : List Env) (A₀ : Around) (base h₀ : Heap) (L : Addr) (m : Str → Option Value) (s : Shared) (Q R : Value → Shared → Prop),
    Below A₀ base outer h₀ → Fr h₀ L s.heap m → Frag.In (hd.heap_39 w.params) h₀ → News h₀ L s.heap E → Top topProg lo mean mg mb h₀ → cs.kind = .function →
    dp + 150 < recursionLimit → un + 1000 < cLine → pre → post s Q →
      wpAny (model PySem.Challenge.rw_xe0044_01.row.prog w) (ktrTop dp un gd cn cs L a ccd cl outer) (call (.ref f) vs) Q R s
/-- it hands back one value and leaves all as it was -/
noncomputable abbrev Back (R : Tok → Value) : Shared → (Value → Shared → Prop) → Prop :=
  fun s Q => ∀ (t : Tok) (h' : Heap) (tk' : Nat), Keeps [] s.heap h' → Q (R t) { s with heap := h', toks := tk' }
section
variable {prog : Program} {w : World} {A₀ A : Around} {s : Shared} {base h₀ : Heap} {outer : List Env} {L : Addr} {m mg mb : Str → Option Value} {p : Program} {loose : List Str} {mean : ExcName → Option Value} {env : Env} {E : List (Addr × Obj)} {K : Frag}
  {R : Result → Shared → Prop} {name qual : Str} {params : Arguments} {body : List Stmt} {scope : Scope} {dV kV doc pm cdv ct oc : Value} {an od : Option Addr} {osl : Array (Option Value)} {f : Addr} {args : Args} {binds : List (Str × Value)}
theorem enter_raw (B : Below A₀ base outer h₀) (F : Fr h₀ L s.heap m) (X : K.In h₀) (N : News h₀ L s.heap E) (T : Top p loose mean mg mb h₀) (hA : A.frames = some (env :: outer)) (hf : env.frame = some L) (hke : env.scope.kind = .function)
    (ho : K.lookup f = some ⟨oc, od, .func (fnOf name qual params body scope dV kV doc pm an cdv ct), osl⟩) (hcd : codeIn K cdv qual = true) (hroom : A.depth < recursionLimit)
    (hbind : BindsTo s (fnOf name qual params body scope dV kV doc pm an cdv ct) args binds) (hloc : ∀ y ∈ binds, scope.names.lookup y.1 = some .local)
    (h : ∀ g L' h₁, (∀ b o, s.heap.get? b = some o → b ∉ E.map (·.1) → g.get? b = some o) → s.heap.objs.size ≤ L' → Fr h₀ L g m → Fr g L' h₁ (fun y => binds.reverse.lookup y) → News g L' h₁ E → Below A base (env :: outer) g → K.In g → Top p loose mean mg mb g → (∀ q ∈ E, q.1 < L') →
      wpAny (model prog w) (A.deeper (envOf qual scope L' f cdv)) (execs body (envOf qual scope L' f cdv))
        (fun fl s' => LeaveK h₀ L m g R (match fl with | .ret v => v | _ => .none) s')
        (fun e s' => wpAny (model prog w) (A.deeper (envOf qual scope L' f cdv)) (leaving (envOf qual scope L' f cdv) e) (fun _ s'' => R (.error e) s'') (fun e' s'' => R (.error e') s'') s')
        { s with heap := h₁, toks := s.toks + binds.length })
    (hco : scope.isCoroutine = false) (hgen : scope.isGenerator = false) (hk : scope.kind = .function) (hcell : ∀ x ∈ scope.names, x.2 ≠ .cell) : codeAny (model prog w) A (.call (.ref f) args) R s := by
  obtain ⟨FG, BG, st, lv⟩ := groundX (R := R) B F N hA hf hke
  refine codeAny_call_def (fd := fnOf name qual params body scope dV kV doc pm an cdv ct) (body := body) (binds := binds) hroom ((X.keeps F.keep) _ _ ho) rfl (T.nolimit.keeps F.keep) (codeRec_of (X.keeps F.keep) hcd) rfl hbind hcell hloc (fun h₁ hns hk₁ => ?_) hco hgen hk
  exact wpAny_mono (h _ s.heap.objs.size h₁ (fun b o e hb => hideAll_get _ e hb) (Nat.le_refl _) FG ⟨hns, fun b o e => hk₁ b o (of_hideAll _ e), Nat.le_of_eq (hideAll_size _ _)⟩
    (fun q hq => ⟨hk₁ _ _ (N q hq).1, Nat.ne_of_lt (Heap.lt_size (N q hq).1), hideAll_none _ (List.mem_map_of_mem hq)⟩) BG (X.keeps st) (T.keeps st) (fun q hq => Heap.lt_size (N q hq).1)) (fun fl s' hl => lv _ _ hl) fun _ _ y => y
theorem enter_rawC (B : Below A₀ base outer h₀) (F : Fr h₀ L s.heap m) (X : K.In h₀) (N : News h₀ L s.heap E) (T : Top p loose mean mg mb h₀) (hA : A.frames = some (env :: outer)) (hf : env.frame = some L) (hke : env.scope.kind = .function)
    (ho : K.lookup f = some ⟨oc, od, .func (fnOf name qual params body scope dV kV doc pm an cdv ct), osl⟩) (hcd : codeIn K cdv qual = true) (hroom : A.depth < recursionLimit)
    (hbind : BindsTo s (fnOf name qual params body scope dV kV doc pm an cdv ct) args binds) (hkind : (binds.all fun y => scope.names.lookup y.1 == some .local || scope.names.lookup y.1 == some .cell) = true)
    (hnd : ((cellsFrom 0 scope.names []).map (·.1)).Nodup)
    (h : ∀ g L' h₁ tk cells, (∀ b o, s.heap.get? b = some o → b ∉ E.map (·.1) → g.get? b = some o) → s.heap.objs.size ≤ L' → Fr h₀ L g m → Fr g L' h₁ (bindL (envOfC qual scope L' f cdv).kindOf binds fun _ => none) → News g L' h₁ (cells ++ E) →
      CellsAre (bindC (envOfC qual scope L' f cdv).kindOf binds fun _ => none) (cellsFrom (L' + 1) scope.names []) cells → Below A base (env :: outer) g → K.In g → Top p loose mean mg mb g → (∀ q ∈ E, q.1 < L') →
      wpAny (model prog w) (A.deeper (envOfC qual scope L' f cdv)) (execs body (envOfC qual scope L' f cdv))
        (fun fl s' => LeaveK h₀ L m g R (match fl with | .ret v => v | _ => .none) s')
        (fun e s' => wpAny (model prog w) (A.deeper (envOfC qual scope L' f cdv)) (leaving (envOfC qual scope L' f cdv) e) (fun _ s'' => R (.error e) s'') (fun e' s'' => R (.error e') s'') s')
        { s with heap := h₁, toks := tk })
    (hco : scope.isCoroutine = false) (hgen : scope.isGenerator = false) (hk : scope.kind = .function) : codeAny (model prog w) A (.call (.ref f) args) R s := by
  obtain ⟨FG, BG, st, lv⟩ := groundX (R := R) B F N hA hf hke
  refine codeAny_call_function hroom ((X.keeps F.keep) _ _ ho) rfl hco hgen rfl (codeRec_of (X.keeps F.keep) hcd) (hbind _ _ _ _ ?_)
  refine wpAny_newFunctionEnv_cells hk (kindsX hkind _) fun env' he s' x => ?_
  subst he
  refine ⟨((T.nolimit.keeps F.keep)).keeps x.toInCall.keep, codeAny_func ?_⟩
  obtain ⟨h₁, tk, rfl, _⟩ := x.done
  have hk₁ := x.toInCall.keep
  obtain ⟨cells, NC, Y⟩ := Cl.news (h₀ := s.heap) (Nat.le_refl _) fun n c hm => ⟨x.cell n c (lookup_of_mem_nodup (cellsFrom_names scope.names 0 (s.heap.objs.size + 1) [] [] rfl ▸ hnd) hm), x.above n c hm⟩
  refine wpAny_mono (h _ s.heap.objs.size h₁ tk cells (fun b o e hb => hideAll_get _ e hb) (Nat.le_refl _) FG ⟨x.toInCall.ns, fun b o e => hk₁ b o (of_hideAll _ e), Nat.le_of_eq (hideAll_size _ _)⟩ (fun q hq => ?_) Y BG (X.keeps st) (T.keeps st) (fun q hq => Heap.lt_size (N q hq).1)) (fun fl s' hl => lv _ _ hl) fun _ _ y => y
  rcases List.mem_append.mp hq with hq | hq
  · refine ⟨(NC q hq).1, (NC q hq).2.1, ?_⟩
    cases e : (hideAll s.heap (E.map (·.1))).get? q.1 with
    | none => rfl
    | some o => have := of_hideAll _ e; rw [(NC q hq).2.2] at this; cases this
  · exact ⟨hk₁ _ _ (N q hq).1, Nat.ne_of_lt (Heap.lt_size (N q hq).1), hideAll_none _ (List.mem_map_of_mem hq)⟩
end
/-- the call's end -/
theorem keeps_via {E : List (Addr × Obj)} {h h₁ g h' : Heap} {L' : Addr} {m' : Str → Option Value} (k : ∀ b o, h.get? b = some o → h₁.get? b = some o) (hE : ∀ p ∈ E, h.objs.size ≤ p.1) (hg : ∀ b o, h₁.get? b = some o → b ∉ E.map (·.1) → g.get? b = some o) (F : Fr g L' h' m') : Keeps [] h h' := fun b o e _ => F.keep b o (hg b o (k b o e) fun q => by
  obtain ⟨p, hp, rfl⟩ := List.mem_map.mp q
  exact Nat.lt_irrefl _ (Nat.lt_of_lt_of_le (Heap.lt_size e) (hE p hp)))
theorem keeps_of {E : List (Addr × Obj)} {h g h' : Heap} {L' : Addr} {m' : Str → Option Value} (hg : ∀ b o, h.get? b = some o → b ∉ E.map (·.1) → g.get? b = some o) (F : Fr g L' h' m') : Keeps E h h' := fun b o e q => F.keep b o (hg b o e q)
theorem keeps_ro {E E' : List (Addr × Obj)} {h₀ h g h' : Heap} {L L' : Addr} {m' : Str → Option Value} (hg : ∀ b o, h.get? b = some o → b ∉ E.map (·.1) → g.get? b = some o) (F : Fr g L' h' m') (N : News h₀ L h E) (N' : News g L' h' E') (hs : ∀ p ∈ E, p ∈ E') : Keeps [] h h' := fun b o e _ => by
  by_cases hb : b ∈ E.map (·.1)
  · obtain ⟨p, hp, rfl⟩ := List.mem_map.mp hb
    have h1 := (N p hp).1
    rw [e] at h1
    cases h1
    exact (N' p (hs p hp)).1
  · exact F.keep b o (hg b o e hb)
theorem back_s {h' : Heap} {s : Shared} {Q : Value → Shared → Prop} {t : Tok} {tk' : Nat} {x y : Str} (hret : Back (fun t => .str x t) s Q) (e : y = x) (k : Keeps [] s.heap h') : Q (.str y t) { s with heap := h', toks := tk' } := by
  subst e
  exact hret t h' tk' k
theorem back_b {h' : Heap} {s : Shared} {Q : Value → Shared → Prop} {tk' : Nat} {x y : Bool} (hret : Back (fun _ => .bool x) s Q) (e : y = x) (k : Keeps [] s.heap h') : Q (.bool y) { s with heap := h', toks := tk' } := by
  subst e
  exact hret 0 h' tk' k
/-- distinct from what a list holds -/
theorem allNe_of {d d' : Addr} : ∀ {l : List (Addr × Obj)}, AllLt d l → d ≤ d' → ∀ p ∈ l, p.1 ≠ d'
  | [], _, _ => fun _ h => nomatch h
  | q :: r, h, hd => fun p hp => by
    rcases List.mem_cons.mp hp with rfl | hp
    · exact Nat.ne_of_lt (Nat.lt_of_lt_of_le h.1 hd)
    · exact allNe_of h.2 hd p hp
/-! _law_word -/
noncomputable def wordsT : List Str := ["OPTIMIZED", "NEWLOCALS", "VARARGS", "VARKEYWORDS", "NESTED", "GENERATOR", "NOFREE", "COROUTINE", "ITERABLE_COROUTINE", "ASYNC_GENERATOR"].map Str.ofString
noncomputable def word (i : Int) : Str := if i < 10 then wordsT.getD i.toNat Str.empty else baseText "0x" 16 (1 * 2 ^ i.toNat)
theorem word_fits (i : Int) (h : i < 32) : (baseText "0x" 16 (1 * 2 ^ i.toNat)).length ≤ sizeLine := by
  have h1 : ∀ n : Nat, n < 32 → (baseText "0x" 16 (1 * 2 ^ n)).length ≤ 100 := by decide +kernel
  have h2 := h1 i.toNat (by omega)
  rw [sizeLine_eq]
  omega
theorem sub_made {prog : Program} {w : World} {A : Around} {E : Value → Shared → Prop} {s : Shared} {value slice : PySem.Expr} {l : Addr} {vs : List Value} {k : Int} {u : Tok} {Q : Value → Shared → Prop}
    (hl : s.heap.IsList l vs.toArray) (h0 : 0 ≤ k) (hhi : k < 2 ^ 63) (hx : k < vs.length) (h : Q (vs.getD k.toNat .none) s)
    (hs : subscripted slice false (.ref l) (.int k u) = operate [.ref l, .int k u] (getItem (.ref l) (.int k u)) := by with_unfolding_all rfl) :
    wpAny (model prog w) A (subscriptTail value slice (.ref l) (.int k u)) Q E s :=
  tail_any hl.typeIs slot_list_getitem.lookup (wpAny_getItem_list hl h0 hhi (by
    have hk : k.toNat < vs.length := by omega
    rw [List.getD_eq_getElem?_getD, List.getElem?_eq_getElem hk]
    simp [List.getElem?_eq_getElem hk]) h) hs
noncomputable def lead (st odd : Int) : Str :=
  let first := Str.ofString (if odd = 1 then "\t  \t" else "  \t\t")
  [first, Str.ofString " \t \t", first ++ Str.ofString " ", Str.ofString " \t \t  ", Str.ofString "\t\t  "].getD st.toNat Str.empty
section
variable {prog : Program} {w : World} {A : Around} {R : Value → Shared → Prop} {s : Shared} {K : Frag} {C L : Addr} {h₀ : Heap} {m : Str → Option Value} {E : List (Addr × Obj)} {Q : Value → Shared → Prop}
theorem call_cls_raw {pos : List Value} {kw : List (Str × Value)} {fI : Addr} (F : Fr h₀ L s.heap m) (X₀ : K.In h₀) (N : News h₀ L s.heap E) (hm : makesIn K C = true) (hi : findIn K (.ref C) "__init__" = some (some (.ref fI))) (hf : isFn K (.ref fI) = true)
    (h : ∀ x dx h', (∀ b o, s.heap.get? b = some o → h'.get? b = some o) → s.heap.objs.size ≤ dx → Fr h₀ L h' m → News h₀ L h' ((x, instObj C dx) :: (dx, dictOf [] 0) :: E) → (∀ p ∈ E, p.1 < dx) → dx < x →
      codeAny (model prog w) (A.under (.builtin "type.__call__" ⟨.ref C :: pos, kw⟩)) (.call (.ref fI) ⟨.ref x :: pos, kw⟩) (InitBack x fun r s' => match r with | .ok (.ret v) => Q v s' | .ok _ => False | .error e => R e s') { s with heap := h' }) :
    wpAny (model prog w) A (call (.ref C) pos kw) Q R s := by
  refine wpAny_call ?_
  have X := X₀.keeps F.keep
  obtain ⟨hh, g, d, t, os⟩ := s
  have N' := (N.push F (dictOf [] 0)).push (F.push _) (instObj C hh.objs.size)
  rw [Heap.size_push] at N'
  exact make_core (makes_of X hm) (looks_findIn X hi) (fun self => bind_fn X self (beq_iff_eq.mp hf)) (.inl rfl) (h _ hh.objs.size _ (fun b o e => Heap.get?_push_of_some _ (Heap.get?_push_of_some _ e)) (Nat.le_refl _) ((F.push _).push _) N' (fun p hp => Heap.lt_size (N p hp).1) (Nat.lt_succ_self _))
end
/-! marks: what Whitespace(lead) makes -/
structure Mk where
  (x d tn tc : Addr) (k1 k2 k3 k4 k5 tb : Tok) (v1 v2 v3 v5 : Value) (vs : List Value) (cnt : List Int) (b : Int)
noncomputable def Mk.objs (P : Params) (M : Mk) : List (Addr × Obj) :=
  [(M.x, instObj 123 M.d),
   (M.d, dictOf [⟨PyData.keyHash P (Str.ofString "raw"), .str (Str.ofString "raw") M.k1, M.v1⟩, ⟨PyData.keyHash P (Str.ofString "n"), .str (Str.ofString "n") M.k2, M.v2⟩, ⟨PyData.keyHash P (Str.ofString "nt"), .str (Str.ofString "nt") M.k3, M.v3⟩,
     ⟨PyData.keyHash P (Str.ofString "norm"), .str (Str.ofString "norm") M.k4, .ref M.tn⟩, ⟨PyData.keyHash P (Str.ofString "is_simple"), .str (Str.ofString "is_simple") M.k5, M.v5⟩] 5),
   (M.tn, { cls := .type "tuple", data := .seq #[.ref M.tc, .int M.b M.tb] }), (M.tc, { cls := .type "tuple", data := .seq M.vs.toArray })]
theorem eq_norm {prog : Program} {w : World} {A : Around} {R : Value → Shared → Prop} {s : Shared} {h₀ : Heap} {L : Addr} {news : List (Addr × Obj)} {Q : Value → Shared → Prop} {tn tc tn' tc' : Addr} {b b' : Int} {tb tb' : Tok} {vs vs' : List Value} {cnt cnt' : List Int}
    (N : News h₀ L s.heap news) (m1 : (tn, ({ cls := .type "tuple", data := .seq #[.ref tc, .int b tb] } : Obj)) ∈ news) (m2 : (tc, ({ cls := .type "tuple", data := .seq vs.toArray } : Obj)) ∈ news)
    (m3 : (tn', ({ cls := .type "tuple", data := .seq #[.ref tc', .int b' tb'] } : Obj)) ∈ news) (m4 : (tc', ({ cls := .type "tuple", data := .seq vs'.toArray } : Obj)) ∈ news) (hi : IntsAre vs cnt) (hi' : IntsAre vs' cnt') (hu : A.units + 64 < cLine)
    (h : Q (.bool (decide (cnt = cnt' ∧ b = b'))) s) : wpAny (model prog w) A (compareOp .Eq (.ref tn) (.ref tn')) Q R s := by
  have r1 : ReadsAll s.heap vs (cnt.map PyData.int) [] := CarriedAll.reads s.heap (ke_carried hi)
  have r2 : ReadsAll s.heap vs' (cnt'.map PyData.int) [] := CarriedAll.reads s.heap (ke_carried hi')
  refine eq_dataH (reads_tuple_at (N.get m1) rfl rfl (ReadsAll.cons (reads_tuple_at (N.get m2) rfl rfl (by simpa using r1)) (ReadsAll.cons (Reads.int b tb) ReadsAll.nil)))
    (reads_tuple_at (N.get m3) rfl rfl (ReadsAll.cons (reads_tuple_at (N.get m4) rfl rfl (by simpa using r2)) (ReadsAll.cons (Reads.int b' tb') ReadsAll.nil))) ?_ ?_ hu ?_
  · simp [SeqAt.shaped, PyData.canLay0, PyData.canLayAll0, PyData.depth, PyData.depthAll, ke_canLayAll0, ke_depthAll]
  · simp [SeqAt.shaped, PyData.canLay0, PyData.canLayAll0, PyData.depth, PyData.depthAll, ke_canLayAll0, ke_depthAll]
  · have e : PyData.eqv (.tuple [.tuple (cnt.map PyData.int), .int b]) (.tuple [.tuple (cnt'.map PyData.int), .int b']) = decide (cnt = cnt' ∧ b = b') := by
      simp only [PyData.eqv, PyData.eqvAll, ked_eqvAll, Bool.and_true]
      by_cases h1 : cnt = cnt' <;> by_cases h2 : b = b' <;> simp [h1, h2]
    rw [e]
    exact h
/-- the counts and the rest of a state's lead -/
noncomputable def normOf (st : Int) : List Int × Int := [([1, 0, 1], 0), ([0, 2], 0), ([1, 0, 1], 1), ([0, 2], 2), ([2], 2)].getD st.toNat ([], 0)
noncomputable def MkPost (P : Params) (st : Int) : Shared → (Value → Shared → Prop) → Prop := fun s Q =>
  ∀ (M : Mk) (h' : Heap) (tk : Nat), M.cnt = (normOf st).1 → M.b = (normOf st).2 → IntsAre M.vs M.cnt → Keeps [] s.heap h' → (∀ p ∈ M.objs P, h'.get? p.1 = some p.2 ∧ s.heap.objs.size ≤ p.1) → Q (.ref M.x) { s with heap := h', toks := tk }
end Mine
end
theorem Mine.forget_B0 : True ∧ True := by first | (walk1; all_goals trivial; done) | exact ⟨trivial, trivial⟩
section
open Builtin Builtin.ObjectAttr
namespace Mine
theorem store_function : StoreFacts "function" [.type "function", .type "object"] "object.__setattr__" "object" where
  mro := by kernel_rfl
  slot := .of (owner := "object") (n := "__setattr__") (by rw [typeLookup_type, builtinLookup_eq_fast]; kernel_rfl) (by decide +kernel) (by decide +kernel) (by decide +kernel)
    (by first | exact .inl (by decide +kernel) | exact .inr (by decide +kernel)) (by rw [isSubtype_type]; kernel_rfl)
  entry := PySem.F.entry_object_sa
  kind := by decide +kernel
  split := by decide +kernel
  hasOwner := by decide +kernel
  args := fun a b c => by unfold argsOk; kernel_rfl
  passes := fun self => by kernel_rfl
section
variable {prog : Program} {w : World} {A : Around} {E : Value → Shared → Prop} {s : Shared} {h₀ : Heap} {L x : Addr} {m : Str → Option Value} {news : List (Addr × Obj)} {name : Str} {v : Value} {fd : FuncData} {sl : Array (Option Value)} {od : Option Addr}
theorem fn_set_open {Q : Unit → Shared → Prop} (hx : s.heap.get? x = some ⟨.type "function", od, .func fd, sl⟩) (hB : typeLookup (.type "function") name = pure none)
    (h : wpAny (model prog w) A.in1 (storeInOwnDict (.ref x) (.type "function") (.str name s.toks) name v false) (fun fin s' => match fin with | .done (.ret _) => Q () s' | _ => False) E { s with toks := s.toks + 1 }) :
    wpAny (model prog w) A (setAttr (.ref x) name v) Q E s := by
  have SF := store_function
  obtain ⟨hp, g, d, t, os⟩ := s
  dsimp only at hx h
  have sub : Looks (model prog w) hp (isInstance (.ref x) (.type "object")) true := (show Looks (model prog w) hp (typeOf (.ref x)) (.type "function") from (Looks.ld hx).andThen .now).andThen (Looks.of_pure (by rw [isSubtype_type]; kernel_rfl))
  have ty : Looks (model prog w) hp (typeOf (.ref x)) (.type "function") := (Looks.ld hx).andThen .now
  refine wpAny_bind (wpAny_mkText (wpAny_bind (wpAny_bind (wpAny_bind (ty _ _ _ _ (fun _ _ e => e) ?_)))))
  rw [SF.slot.lookup]
  refine wpAny_pure (wpAny_holding ?_)
  rw [SF.slot.bind]
  refine wpAny_bind (wpAny_pure (wpAny_bind (wpAny_call ?_)))
  refine codeAny_call_builtin SF.slot.plain SF.entry (@check_slot (model prog w) _ _ _ "object.__setattr__" "object" "__setattr__" (.ref x) [.str name t, v] [] _ SF.kind SF.split sub (SF.args (.ref x) (.str name t) v) ?_)
  show wpAny (model prog w) A.in1 (Builtin.«object.__setattr__» ⟨[.ref x, .str name t, v], []⟩) _ _ _
  rw [osa_eq, refuse_eq]
  refine wpAny_bind (wpAny_bind (ty.here (wpAny_bind ?_)))
  rw [SF.mro]
  refine wpAny_pure ?_
  rw [SF.passes]
  refine wpAny_pure (wpAny_bind (ty.here (wpAny_bind ?_)))
  rw [hB]
  refine wpAny_pure (wpAny_bind (wpAny_pure ?_))
  refine wpAny_mono h (fun fin s' z => ?_) (fun _ _ z => z)
  rcases fin with (_ | _ | _ | v') | c
  all_goals first | exact z.elim | exact wpAny_pure (wpAny_pure z)
theorem fn_store_in {Q : Fin → Shared → Prop} {d : Addr} {tk : Tok} {es : List DictEntry} {n : Nat} {pre post : List (Addr × Obj)} (F : Fr h₀ L s.heap m) (N : News h₀ L s.heap (pre ++ (d, dictOf es n) :: post))
    (h1 : ∀ p ∈ pre, p.1 ≠ d) (h2 : ∀ p ∈ post, p.1 ≠ d) (hl : (getL name es).isSome = true) (hz : (putL name (PyData.keyHash w.params name) (.str name s.toks) v es).length ≤ 1000)
    (h : ∀ h', Fr h₀ L h' m → News h₀ L h' (pre ++ (d, dictOf (putL name (PyData.keyHash w.params name) (.str name s.toks) v es) (putN name es n)) :: post) → Q (.done (.ret .none)) { s with heap := h', toks := s.toks + 1 }) :
    wpAny (model prog w) A (storeInDict d (.str name tk) name v) Q E s := by
  obtain ⟨F3, N3⟩ := news_upd (f := Obj.putName name (PyData.keyHash w.params name) (.str name s.toks) v) F N h1 h2 (putName_dict name _ _ v es n) rfl
  have D := (N (d, _) (List.mem_append_right _ (.head _))).1
  have D' := (N3 (d, _) (List.mem_append_right _ (.head _))).1
  unfold storeInDict newKeyGuard nsSet
  refine wpAny_bind (wpAny_pure (wpAny_bind ?_))
  refine wpAny_bind (wpAny_bind (wpAny_askSetting (wpAny_pure (wpAny_bind (wpAny_mkText (wpAny_bind (wpAny_loadPart D ?_)))))))
  dsimp only
  have c : (!es.toArray.any (·.key.isStr name) && es.toArray.any (·.refKey)) = false := by
    rw [← Array.any_toList, ← Array.any_toList]
    unfold getL at hl
    split at hl
    · rename_i en he
      rw [List.any_eq_true.mpr ⟨en, List.mem_of_find?_eq_some he, List.find?_some he⟩]; rfl
    · split at hl
      · cases hl
      · rename_i z; rw [Bool.not_eq_true] at z; rw [z, Bool.and_false]
  rw [aRefKeyMayBeTheName_at, c]
  refine wpAny_updatePart D ?_
  refine wpAny_bind (wpAny_lookBehind D' (pastItsLine_dict (by rw [List.size_toArray, sizeLine_eq]; omega)) ?_)
  exact wpAny_pure (h _ F3 N3)
theorem fn_set_new {Q : Unit → Shared → Prop} {g : Obj → List (Addr × Obj)} (F : Fr h₀ L s.heap m) (N : News h₀ L s.heap news) (U : UpdF x (⟨.type "function", none, .func fd, sl⟩ : Obj) news g) (hB : typeLookup (.type "function") name = pure none)
    (h : ∀ d h' tk t, Fr h₀ L h' m → News h₀ L h' ((d, dictOf [⟨PyData.keyHash w.params name, .str name t, v⟩] 1) :: g ⟨.type "function", some d, .func fd, sl⟩) → (∀ p ∈ news, p.1 < d) → Q () { s with heap := h', toks := tk }) :
    wpAny (model prog w) A (setAttr (.ref x) name v) Q E s := by
  obtain ⟨pre, post, rfl, hg, h1, h2⟩ := U.split
  have hm := N (x, _) (List.mem_append_right _ (.head _))
  refine fn_set_open hm.1 hB ?_
  unfold storeInOwnDict ownStreamTells ownDictForStores instanceDict
  refine wpAny_bind (wpAny_pure (wpAny_bind ?_))
  refine wpAny_bind (wpAny_loadPart hm.1 ?_)
  refine wpAny_bind (wpAny_alloc ?_)
  have hxs : x < s.heap.objs.size := Heap.lt_size hm.1
  have F1 := F.push (dictOf [] 0)
  have N1 := N.push F (dictOf [] 0)
  have lt1 : ∀ p ∈ pre ++ (x, (⟨.type "function", none, .func fd, sl⟩ : Obj)) :: post, p.1 < s.heap.objs.size := fun p hp => Heap.lt_size (N p hp).1
  obtain ⟨F2, N2⟩ := news_upd (pre := (s.heap.objs.size, dictOf [] 0) :: pre) (post := post) (d := x) (f := fun o => { o with dict := some s.heap.objs.size }) F1 N1
    (fun p hp => by
      rcases List.mem_cons.mp hp with rfl | hp
      · exact Nat.ne_of_gt hxs
      · exact h1 p hp) h2 rfl rfl
  have N2' : News h₀ L _ ([] ++ (s.heap.objs.size, dictOf [] 0) :: (pre ++ (x, (⟨.type "function", some s.heap.objs.size, .func fd, sl⟩ : Obj)) :: post)) := N2
  have lt2 : ∀ p ∈ pre ++ (x, (⟨.type "function", some s.heap.objs.size, .func fd, sl⟩ : Obj)) :: post, p.1 ≠ s.heap.objs.size := fun p hp => by
    rcases List.mem_append.mp hp with hp | hp
    · exact Nat.ne_of_lt (lt1 p (List.mem_append_left _ hp))
    · rcases List.mem_cons.mp hp with rfl | hp
      · exact Nat.ne_of_lt hxs
      · exact Nat.ne_of_lt (lt1 p (List.mem_append_right _ (.tail _ hp)))
  refine wpAny_bind (wpAny_update (Heap.get?_push_of_some _ hm.1) ?_)
  refine wpAny_pure ?_
  refine fn_store_in (s := { s with heap := _, toks := s.toks + 1 }) F2 N2' (fun _ hp => nomatch hp) lt2 rfl (by show 1 ≤ 1000; decide) fun h' F3 N3 => ?_
  exact h s.heap.objs.size h' _ _ F3 (by rw [hg]; exact N3) lt1
theorem fn_set_old {Q : Unit → Shared → Prop} {g : Obj → List (Addr × Obj)} {d : Addr} {es es' : List DictEntry} {n n' : Nat} (F : Fr h₀ L s.heap m) (N : News h₀ L s.heap news) (hx : (x, (⟨.type "function", some d, .func fd, sl⟩ : Obj)) ∈ news) (U : UpdF d (dictOf es n) news g) (hB : typeLookup (.type "function") name = pure none)
    (hl : (getL name es).isSome = true) (e : (putL name (PyData.keyHash w.params name) (.str name (s.toks + 1)) v es, putN name es n) = (es', n')) (hz : es'.length ≤ 1000)
    (h : ∀ h', Fr h₀ L h' m → News h₀ L h' (g (dictOf es' n')) → Q () { s with heap := h', toks := s.toks + 2 }) :
    wpAny (model prog w) A (setAttr (.ref x) name v) Q E s := by
  obtain ⟨e1, e2⟩ := Prod.mk.inj e
  obtain ⟨pre, post, rfl, hg, h1, h2⟩ := U.split
  have hm := N _ hx
  refine fn_set_open hm.1 hB ?_
  unfold storeInOwnDict ownStreamTells ownDictForStores instanceDict
  refine wpAny_bind (wpAny_pure (wpAny_bind ?_))
  refine wpAny_bind (wpAny_loadPart hm.1 ?_)
  refine wpAny_pure ?_
  refine fn_store_in (s := { s with toks := s.toks + 1 }) F N h1 h2 hl (by rw [e1]; exact hz) fun h' F3 N3 => ?_
  exact h h' F3 (by rw [hg, ← e1, ← e2]; exact N3)
end
end Mine
end
theorem Mine.forget_B5a : True ∧ True := by first | (walk1; all_goals trivial; done) | exact ⟨trivial, trivial⟩
section
namespace Mine
/-- a place deep enough for all that is called here -/
noncomputable abbrev deepA : Around := { handled := none, depth := 900, frames := none, guards := none, units := 9000 }
theorem wp_deep {α : Type} {M : Model} {A : Around} {t : Sem α} {Q : α → Shared → Prop} {E : Value → Shared → Prop} {s : Shared} (h : wpAny M deepA t Q E s) (hh : A.handled = none) (hd : A.depth ≤ 900) (hu : A.units ≤ 9000) : wpAny M A t Q E s :=
  fun Γ p hΓ => h Γ p ⟨hΓ.1.trans hh, Nat.le_trans hΓ.2.1 hd, fun _ e => (nomatch e), fun _ e => (nomatch e), Nat.le_trans hΓ.2.2.2.2 hu⟩
theorem mem_keeps {h₀ h : Heap} {news : List (Addr × Obj)} (D : X.Mem h₀ h [] news) : ∀ b o, h₀.get? b = some o → h.get? b = some o := fun b o e => D.keep b o e (by unfold X.away; simp)
/-- a value's new object, all else as it was -/
noncomputable def MadeEnd (o : Obj) (s : Shared) : Value → Shared → Prop := fun v s' =>
  ∃ q, v = .ref q ∧ s'.heap.get? q = some o ∧ s.heap.get? q = none ∧ (∀ b o, s.heap.get? b = some o → s'.heap.get? b = some o) ∧ ∃ h tk, s' = { s with heap := h, toks := tk }
noncomputable abbrev methO (id : String) (l : Addr) : Obj := ⟨.type "builtin_function_or_method", none, .fields #[.builtin id, .ref l], #[]⟩
theorem made_end {hp h : Heap} {g : Array GenState} {d : Drawn} {t t' : Nat} {os : OsState} {a : Addr} {o o' : Obj} {news : List (Addr × Obj)} (D : X.Mem hp h [] ((a, o) :: news)) (e : o = o') : MadeEnd o' ⟨hp, g, d, t, os⟩ (.ref a) ⟨h, g, d, t', os⟩ := by
  subst e
  exact ⟨a, rfl, (D.nw _ (.head _)).1, (D.nw _ (.head _)).2, mem_keeps D, h, t', rfl⟩
section
local macro_rules | `(tactic| x_close) => `(tactic| (refine made_end (by assumption) (by kernel_rfl)))
theorem getattr_append {prog : Program} {w : World} {A : Around} {E : Value → Shared → Prop} {s : Shared} {Q : Value → Shared → Prop} {l : Addr} {items : Array Value} {n : Nat}
    (hl : s.heap.get? l = some ⟨.type "list", none, .seq items n, #[]⟩) (hh : A.handled = none) (hd : A.depth ≤ 900) (hu : A.units ≤ 9000)
    (h : ∀ v s', MadeEnd (methO "list.append" l) s v s' → Q v s') :
    wpAny (model prog w) A (getAttr (.ref l) "append" true) Q E s := by
  refine wpAny_mono (wp_deep ?_ hh hd hu) h (E := E) fun _ _ e => e
  obtain ⟨hp, g, d, t, os⟩ := s
  dsimp only at hl h
  refine wpAny_bind (wpAny_mkText (wpAny_holding (wpAny_bind (wpAny_bind (wpAny_loadPart hl (wpAny_pure ?_))))))
  refine wpAny_bind ?_
  rw [typeLookup_type, builtinLookup_eq_fast]
  refine wpAny_pure ?_
  x_run
end
noncomputable def AllNeq (d : Addr) : List (Addr × Obj) → Prop
  | [] => True
  | p :: r => @Ne Nat p.1 d ∧ AllNeq d r
theorem allNeq_of {d : Addr} : ∀ {l : List (Addr × Obj)}, (∀ p ∈ l, p.1 ≠ d) → AllNeq d l
  | [], _ => trivial
  | p :: _, h => ⟨h p (.head _), allNeq_of fun q hq => h q (.tail _ hq)⟩
/-- what was made comes onto the ledger -/
theorem MadeEnd.news {h₀ : Heap} {L : Addr} {m : Str → Option Value} {news : List (Addr × Obj)} {s s' : Shared} {o : Obj} {v : Value} (F : Fr h₀ L s.heap m) (N : News h₀ L s.heap news) (M : MadeEnd o s v s') :
    ∃ q h tk, v = .ref q ∧ s' = { s with heap := h, toks := tk } ∧ Fr h₀ L h m ∧ News h₀ L h ((q, o) :: news) ∧ ∀ p ∈ news, p.1 ≠ q := by
  obtain ⟨q, rfl, hq, hn, hk, h, tk, rfl⟩ := M
  have h0 : h₀.get? q = none := by
    cases e : h₀.get? q with
    | none => rfl
    | some o' => rw [F.keep q o' e] at hn; cases hn
  have hL : q ≠ L := fun e => by
    obtain ⟨oL, _, _, eL, _⟩ := F.ns
    rw [e, eL] at hn
    cases hn
  refine ⟨q, h, tk, rfl, rfl, F.keeps hk, fun p hp => ?_, fun p hp e => ?_⟩
  · revert p
    exact all_cons (⟨hq, hL, h0⟩) (fun p hp => ⟨hk _ _ (N p hp).1, (N p hp).2⟩)
  · have := (N p hp).1
    rw [e, hn] at this
    cases this
theorem getattr_append_N {prog : Program} {w : World} {A : Around} {E : Value → Shared → Prop} {s : Shared} {Q : Value → Shared → Prop} {l : Addr} {items : Array Value} {n : Nat} {h₀ : Heap} {L : Addr} {m : Str → Option Value} {news : List (Addr × Obj)}
    (F : Fr h₀ L s.heap m) (N : News h₀ L s.heap news) (hm : (l, W.listOf items n) ∈ news) (hh : A.handled = none) (hd : A.depth ≤ 900) (hu : A.units ≤ 9000)
    (h : ∀ q h' tk, Fr h₀ L h' m → News h₀ L h' ((q, methO "list.append" l) :: news) → (∀ p ∈ news, p.1 ≠ q) → Q (.ref q) { s with heap := h', toks := tk }) :
    wpAny (model prog w) A (getAttr (.ref l) "append" true) Q E s :=
  getattr_append (N.get hm) hh hd hu fun v s' M => by
    obtain ⟨q, h', tk, rfl, rfl, F', N', ne⟩ := M.news F N
    exact h q h' tk F' N' ne
end Mine
end
theorem Mine.forget_X1 : True ∧ True := by first | (walk1; all_goals trivial; done) | exact ⟨trivial, trivial⟩
section
namespace Mine
/-- the lambda that tells an element's texts: its parameters, its body, its scope, its place -/
noncomputable def itGet : Option Obj → Option (Arguments × PySem.Expr × Scope × Pos × Pos)
  | some ⟨_, _, .func fd, _⟩ => (match fd.body with
    | .stmts [_, .Assign _ (.Lambda _ _ _ p1) _, _, _, .Assign _ (.Lambda ps b sc p2) _, _, _] => some (ps, b, sc, p1, p2)
    | _ => none)
  | _ => none
noncomputable def itDef (P : Params) : { x : Arguments × PySem.Expr × Scope × Pos × Pos // itGet ((hd.heap_39 P).lookup 192) = some x } := ⟨_, rfl⟩
noncomputable def itQual : Str := (Str.ofString "_law_element" ++ ".<locals>.") ++ Str.ofString "<lambda>"
/-- an element: the function, its dict, its append, its itertext, the two cells, its parts -/
structure El where
  (f d q it ct cp l : Addr) (fd : FuncData) (k1 k2 k3 k4 tt : Tok) (pm ctv : Value) (ot op : Obj) (tag : Str)
noncomputable def El.itObj (P : Params) (c2 : Addr) (e : El) : Obj :=
  kla_obj "<lambda>" itQual (itDef P).1.1 (itDef P).1.2.1 (itDef P).1.2.2.1 [(Str.ofString "tag", e.ct), (Str.ofString "parts", e.cp)] e.pm c2 e.ctv
noncomputable def El.dObj (P : Params) (e : El) : Obj :=
  dictOf [⟨PyData.keyHash P (Str.ofString "makeelement"), .str (Str.ofString "makeelement") e.k1, .ref 192⟩, ⟨PyData.keyHash P (Str.ofString "append"), .str (Str.ofString "append") e.k2, .ref e.q⟩,
    ⟨PyData.keyHash P (Str.ofString "itertext"), .str (Str.ofString "itertext") e.k3, .ref e.it⟩, ⟨PyData.keyHash P (Str.ofString "tail"), .str (Str.ofString "tail") e.k4, .none⟩] 4
noncomputable def El.ro (P : Params) (c2 : Addr) (e : El) : List (Addr × Obj) :=
  [(e.f, ⟨.type "function", some e.d, .func e.fd, #[]⟩), (e.d, e.dObj P), (e.q, methO "list.append" e.l), (e.it, e.itObj P c2), (e.ct, e.ot), (e.cp, e.op)]
noncomputable def El.Ok (e : El) : Prop := e.ot.data = .cell (some (.str e.tag e.tt)) ∧ e.op.data = .cell (some (.ref e.l))
/-- the two code objects of the two lambdas -/
structure Cd where
  (c1 c2 : Addr) (oc : Obj) (vs : Array Value) (t : Tok) (ps : Array Value)
noncomputable def Cd.Ok (P : Params) (C : Cd) : Prop := C.oc.data = .fields C.vs ∧ C.vs[1]? = some (.str itQual C.t) ∧ TriplesOk C.ps.toList ∧ codeAmong (itDef P).1.2.2.2.1 C.ps.toList = some (.ref C.c1) ∧ codeAmong (itDef P).1.2.2.2.2 C.ps.toList = some (.ref C.c2)
noncomputable def Cd.tab (C : Cd) : Obj := tabObj C.ps
theorem ne_one {a b : Addr} {o : Obj} (h : @Ne Nat a b) : a ∉ List.map (·.1) [(b, o)] := by simpa using h
theorem cell_of {o : Obj} {a b : Option Value} (h : o.data = .cell a) (e : a = b) : o.data = .cell b := by rw [h, e]
theorem second_of {vs : Array Value} {a b : Str} {t : Tok} (h : vs[1]? = some (.str a t)) (e : a = b) : vs[1]? = some (.str b t) := by rw [h, e]
/-- what is new in the later heap -/
noncomputable def Made (s : Shared) (h' : Heap) (l : List (Addr × Obj)) : Prop := ∀ p ∈ l, h'.get? p.1 = some p.2 ∧ s.heap.get? p.1 = none
theorem made_nil {s : Shared} {h' : Heap} : Made s h' [] := fun _ h => nomatch h
theorem made_cons {s : Shared} {h' g : Heap} {L' : Addr} {E news : List (Addr × Obj)} {p : Addr × Obj} {l : List (Addr × Obj)} (hg : ∀ b o, s.heap.get? b = some o → b ∉ E.map (·.1) → g.get? b = some o) (N : News g L' h' news) (hm : p ∈ news) (hE : p.1 ∉ E.map (·.1)) (h : Made s h' l) : Made s h' (p :: l) := fun q hq => by
  rcases List.mem_cons.mp hq with rfl | hq
  · refine ⟨(N q hm).1, ?_⟩
    cases e : s.heap.get? q.1 with
    | none => rfl
    | some o => have := hg _ o e hE; rw [(N q hm).2.2] at this; cases this
  · exact h q hq
end Mine
end
theorem Mine.forget_E0 : True ∧ True := by first | (walk1; all_goals trivial; done) | exact ⟨trivial, trivial⟩
local macro_rules | `(tactic| k_room) => `(tactic| ktr_room)
local macro_rules | `(tactic| k_units) => `(tactic| ktr_units)
section
namespace Mine
local macro_rules | `(tactic| cell_enter) => `(tactic| (refine' enter_rawC ?k1 ?k2 ?k3 ?k4 ?k5 ?kA ?kF ?kK ?k6 ?k7 ?k8 ?k9 ?kB ?kD ?_ ?c2 ?c3 ?c4; (case kA => exact rfl); (case kF => exact rfl); (case kK => assumption); (case k1 => k_asm); (case k2 => k_asm); (case k3 => k_asm); (case k4 => k_asm); (case k5 => k_asm); (case k6 => k_is); (case k7 => k_is); (case k8 => ktr_room); (case k9 => exact BindsTo.of_eq rfl); (case kB => exact rfl); (case kD => decide +kernel); (case c2 => exact rfl); (case c3 => exact rfl); (case c4 => exact rfl); k_whole; intro g' L' h' tk' cells' hg' hL' FG' F' N' Y' B' X' T' l1; (try k_lt l1); k_cells Y'; (try simp only [List.cons_append, List.nil_append] at N'); (try dsimp only); (try k_lift B'); (try k_fold)))
local macro_rules | `(tactic| walk_at "setAttr ref") => `(tactic| (k_here; k_dflt (first
  | (refine' fn_set_new ?F ?N ?U ?hB ?_; (case F => k_asm); (case N => k_asm); (case U => k_updF); (case hB => (rw [typeLookup_type, builtinLookup_eq_fast]; kernel_rfl)); k_whole; intro d' h' tk' t' F' N' l1; (try dsimp only at N'); (try k_lt l1); (try k_sweep))
  | (refine' fn_set_old ?F ?N ?hx ?U ?hB ?hl ?e ?hz ?_; (case F => k_asm); (case N => k_asm); (case hx => k_mem); (case U => k_updF); (case hB => (rw [typeLookup_type, builtinLookup_eq_fast]; kernel_rfl)); (case hl => exact rfl); (case e => k_put); (case hz => exact Nat.le_of_ble_eq_true rfl); k_whole; intro h' F' N'; (try dsimp only at N'); (try k_sweep)))))
local macro_rules | `(tactic| walk_at "getAttr ref") => `(tactic| (k_here; k_dflt (refine' getattr_append_N ?F ?N ?hm ?a ?b ?c ?_; (case F => k_asm); (case N => k_asm); (case hm => k_mem); (case a => exact rfl); (case b => ktr_room); (case c => ktr_units); k_whole; intro q' h' tk' F' N' l1; (replace l1 := allNeq_of l1; simp only [AllNeq, and_true] at l1); (try k_sweep))))
section
theorem elem_told0 (w : World) (x : Str) (t1 : Tok) (d : Addr) : Told w [(187, tabObj #[])] True 192 [.str x t1, .ref d] (fun s Q =>
    ∀ (e : El) (C : Cd) (h' : Heap) (tk : Nat), e.tag = x → e.Ok → C.Ok w.params → Keeps [(187, tabObj #[])] s.heap h' → h'.get? 187 = some C.tab → Made s h' (e.ro w.params C.c2 ++ [(e.l, W.listOf #[] 0), (C.c2, C.oc)]) → Q (.ref e.f) { s with heap := h', toks := tk }) := by
  delta Told
  k_fill
  intro mean mg mb dp un gd cn cs a ccd cl outer A₀ base h₀ L m s Q R B F X N T hk hd hu hh hret
  refine wpAny_call ?_
  k_dflt cell_enter
  (rename Frag.In _ _ => hX); have hC := codeHd_of_K (c := 191) (P := 187) hX (by kernel_rfl)
  k_steps
  (rename News _ _ _ _ => kN)
  refine' hret ⟨_, _, _, _, _, _, _, _, _, _, _, _, t1, _, _, _, _, x⟩ ⟨_, _, _, _, _, _⟩ _ _ rfl ?ok ?cok ?kp ?tb ?md
  case md =>
    simp only [El.ro, List.cons_append, List.nil_append]
    refine' made_cons (by assumption) (by assumption) (by k_mem) ?_ (made_cons (by assumption) (by assumption) (by k_mem) ?_ (made_cons (by assumption) (by assumption) (by k_mem) ?_ (made_cons (by assumption) (by assumption) (by k_mem) ?_ (made_cons (by assumption) (by assumption) (by k_mem) ?_ (made_cons (by assumption) (by assumption) (by k_mem) ?_ (made_cons (by assumption) (by assumption) (by k_mem) ?_ (made_cons (by assumption) (by assumption) (by k_mem) ?_ made_nil)))))))
    all_goals (refine ne_one ?_; (try dsimp only); omega)
  case tb => exact News.get kN (by k_mem)
  case cok =>
    dsimp only [Cd.Ok]
    (rename _[1]? = some _ => hq)
    refine ⟨by with_reducible assumption, ?_, by kn_triples, ?_, by kn_hit⟩
    · have hz := second_of (b := itQual) hq (by rfl)
      exact hz
    · rfl
  case kp => exact keeps_of (by with_reducible assumption) (by with_reducible assumption)
  case ok =>
    dsimp only [El.Ok]
    (rename Obj.data _ = Data.cell (bindC _ _ _ _) => hq)
    exact ⟨cell_of hq (by kernel_rfl), by with_reducible assumption⟩
end
section
local macro_rules | `(tactic| kn_triples) => `(tactic| assumption)
local macro_rules | `(tactic| kn_hit) => `(tactic| assumption)
theorem elem_told1 (w : World) (C : Cd) (x : Str) (t1 : Tok) (d : Addr) : Told w [(187, C.tab)] (C.Ok w.params) 192 [.str x t1, .ref d] (fun s Q =>
    ∀ (e : El) (h' : Heap) (tk : Nat), e.tag = x → e.Ok → Keeps [] s.heap h' → Made s h' (e.ro w.params C.c2 ++ [(e.l, W.listOf #[] 0)]) → Q (.ref e.f) { s with heap := h', toks := tk }) := by
  delta Told
  k_fill
  intro mean mg mb dp un gd cn cs a ccd cl outer A₀ base h₀ L m s Q R B F X N T hk hd hu hh hret
  obtain ⟨c1, c2, oc, vs, t, ps⟩ := C
  obtain ⟨hh1, hh2, hh3, hh4, hh5⟩ := hh
  dsimp only [itDef] at hh4 hh5
  dsimp only at hh1 hh2 hh3
  dsimp only [Cd.tab] at N
  refine wpAny_call ?_
  k_dflt cell_enter
  (rename Frag.In _ _ => hX); have hC := codeHd_of_K (c := 191) (P := 187) hX (by kernel_rfl)
  k_steps
  refine' hret ⟨_, _, _, _, _, _, _, _, _, _, _, _, t1, _, _, _, _, x⟩ _ _ rfl ?ok ?kp ?md
  case md =>
    simp only [El.ro, List.cons_append, List.nil_append]
    refine' made_cons (by assumption) (by assumption) (by k_mem) ?_ (made_cons (by assumption) (by assumption) (by k_mem) ?_ (made_cons (by assumption) (by assumption) (by k_mem) ?_ (made_cons (by assumption) (by assumption) (by k_mem) ?_ (made_cons (by assumption) (by assumption) (by k_mem) ?_ (made_cons (by assumption) (by assumption) (by k_mem) ?_ (made_cons (by assumption) (by assumption) (by k_mem) ?_ made_nil))))))
    all_goals (refine ne_one ?_; (try dsimp only); omega)
  case kp => exact keeps_ro (by with_reducible assumption) (by with_reducible assumption) N (by with_reducible assumption) (by kcj_all)
  case ok =>
    dsimp only [El.Ok]
    (rename Obj.data _ = Data.cell (bindC _ _ _ _) => hq)
    exact ⟨cell_of hq (by kernel_rfl), by with_reducible assumption⟩
end
end Mine
end
theorem Mine.forget_E1 : True ∧ True := by first | (walk1; all_goals trivial; done) | exact ⟨trivial, trivial⟩
section
namespace Mine
/-- a value, all as it was -/
noncomputable def ValEnd (v₀ : Value) (s : Shared) : Value → Shared → Prop := fun v s' => v = v₀ ∧ (∀ b o, s.heap.get? b = some o → s'.heap.get? b = some o) ∧ ∃ h tk, s' = { s with heap := h, toks := tk }
theorem val_end {hp h : Heap} {g : Array GenState} {d : Drawn} {t t' : Nat} {os : OsState} {v v' : Value} {news : List (Addr × Obj)} (D : X.Mem hp h [] news) (e : v = v') : ValEnd v' ⟨hp, g, d, t, os⟩ v ⟨h, g, d, t', os⟩ := ⟨e, mem_keeps D, h, t', rfl⟩
theorem specialOf_fn {M : Model} {h : Heap} {f : Addr} {od : Option Addr} {fd : FuncData} {name : Str} {r : Option Value} (hf : h.get? f = some ⟨.type "function", od, .func fd, #[]⟩) (e : typeLookup (.type "function") name = pure r) : Looks M h (specialOf (.ref f) name) r :=
  (show Looks M h (typeOf (.ref f)) (.type "function") from (Looks.ld hf).andThen .now).andThen (Looks.of_pure e)
noncomputable abbrev elDict (P : Params) (q it : Addr) (k1 k2 k3 k4 : Tok) : Obj :=
  dictOf [⟨PyData.keyHash P (Str.ofString "makeelement"), .str (Str.ofString "makeelement") k1, .ref 192⟩, ⟨PyData.keyHash P (Str.ofString "append"), .str (Str.ofString "append") k2, .ref q⟩,
    ⟨PyData.keyHash P (Str.ofString "itertext"), .str (Str.ofString "itertext") k3, .ref it⟩, ⟨PyData.keyHash P (Str.ofString "tail"), .str (Str.ofString "tail") k4, .none⟩] 4
theorem ValEnd.news {h₀ : Heap} {L : Addr} {m : Str → Option Value} {news : List (Addr × Obj)} {s s' : Shared} {v v' : Value} (F : Fr h₀ L s.heap m) (N : News h₀ L s.heap news) (M : ValEnd v' s v s') :
    v = v' ∧ ∃ h tk, s' = { s with heap := h, toks := tk } ∧ Fr h₀ L h m ∧ News h₀ L h news := by
  obtain ⟨e, hk, h, tk, rfl⟩ := M
  exact ⟨e, h, tk, rfl, F.keeps hk, fun p hp => ⟨hk _ _ (N p hp).1, (N p hp).2⟩⟩
theorem fn_method {prog : Program} {w : World} {A : Around} {E : Value → Shared → Prop} {s : Shared} {Q : Value × List Value → Shared → Prop} {f : Addr} {od : Option Addr} {fd : FuncData} {name : Str} {pl : Sem Bool}
    (hf : s.heap.get? f = some ⟨.type "function", od, .func fd, #[]⟩) (hn : typeLookup (.type "function") name = pure none) (h : wpAny (model prog w) A (getAttr (.ref f) name) (fun v => Q (v, [])) E s) :
    wpAny (model prog w) A (getMethod (.ref f) name pl) Q E s := by
  unfold getMethod
  refine wpAny_bind ((specialOf_fn (r := some (.builtin "object.__getattribute__")) hf (by rw [typeLookup_type, builtinLookup_eq_fast]; kernel_rfl)).here ?_)
  dsimp only
  rw [if_neg (by rw [show (Manifest.canonical "object.__getattribute__" != "object.__getattribute__") = false from by decide +kernel]; exact Bool.false_ne_true)]
  refine wpAny_bind ((specialOf_fn (r := none) hf (by rw [typeLookup_type, builtinLookup_eq_fast]; kernel_rfl)).here ?_)
  simp only [Option.isSome_none, Bool.false_eq_true, if_false]
  refine wpAny_bind ((specialOf_fn (r := none) hf hn).here ?_)
  exact wpAny_bind (wpAny_mono h (fun _ _ q => wpAny_pure q) fun _ _ q => q)
section
variable {prog : Program} {w : World} {A : Around} {E : Value → Shared → Prop} {s : Shared} {f d q it : Addr} {fd : FuncData} {k1 k2 k3 k4 : Tok} {P : Params} {h₀ : Heap} {L : Addr} {m : Str → Option Value} {news : List (Addr × Obj)}
section
local macro_rules | `(tactic| x_close) => `(tactic| (first | refine val_end (by assumption) rfl | refine val_end (X.Mem.start _) rfl))
theorem fn_get_makeelement {Q : Value → Shared → Prop}
    (hf : s.heap.get? f = some ⟨.type "function", some d, .func fd, #[]⟩) (hd' : s.heap.get? d = some (elDict P q it k1 k2 k3 k4)) (hh : A.handled = none) (hd : A.depth ≤ 900) (hu : A.units ≤ 9000)
    (h : ∀ v s', ValEnd (.ref 192) s v s' → Q v s') : wpAny (model prog w) A (getAttr (.ref f) "makeelement" false) Q E s := by
  refine wpAny_mono (wp_deep ?_ hh hd hu) h (E := E) fun _ _ e => e
  obtain ⟨hp, g, dr, t, os⟩ := s
  dsimp only [elDict, W.dictOf] at hf hd' h
  refine wpAny_bind (wpAny_mkText (wpAny_holding (wpAny_bind (wpAny_bind (wpAny_loadPart hf (wpAny_pure ?_))))))
  refine wpAny_bind ?_
  rw [typeLookup_type, builtinLookup_eq_fast]
  refine wpAny_pure ?_
  x_run
theorem fn_get_append {Q : Value → Shared → Prop}
    (hf : s.heap.get? f = some ⟨.type "function", some d, .func fd, #[]⟩) (hd' : s.heap.get? d = some (elDict P q it k1 k2 k3 k4)) (hh : A.handled = none) (hd : A.depth ≤ 900) (hu : A.units ≤ 9000)
    (h : ∀ v s', ValEnd (.ref q) s v s' → Q v s') : wpAny (model prog w) A (getAttr (.ref f) "append" false) Q E s := by
  refine wpAny_mono (wp_deep ?_ hh hd hu) h (E := E) fun _ _ e => e
  obtain ⟨hp, g, dr, t, os⟩ := s
  dsimp only [elDict, W.dictOf] at hf hd' h
  refine wpAny_bind (wpAny_mkText (wpAny_holding (wpAny_bind (wpAny_bind (wpAny_loadPart hf (wpAny_pure ?_))))))
  refine wpAny_bind ?_
  rw [typeLookup_type, builtinLookup_eq_fast]
  refine wpAny_pure ?_
  x_run
theorem fn_get_itertext {Q : Value → Shared → Prop}
    (hf : s.heap.get? f = some ⟨.type "function", some d, .func fd, #[]⟩) (hd' : s.heap.get? d = some (elDict P q it k1 k2 k3 k4)) (hh : A.handled = none) (hd : A.depth ≤ 900) (hu : A.units ≤ 9000)
    (h : ∀ v s', ValEnd (.ref it) s v s' → Q v s') : wpAny (model prog w) A (getAttr (.ref f) "itertext" false) Q E s := by
  refine wpAny_mono (wp_deep ?_ hh hd hu) h (E := E) fun _ _ e => e
  obtain ⟨hp, g, dr, t, os⟩ := s
  dsimp only [elDict, W.dictOf] at hf hd' h
  refine wpAny_bind (wpAny_mkText (wpAny_holding (wpAny_bind (wpAny_bind (wpAny_loadPart hf (wpAny_pure ?_))))))
  refine wpAny_bind ?_
  rw [typeLookup_type, builtinLookup_eq_fast]
  refine wpAny_pure ?_
  x_run
theorem fn_get_tail {Q : Value → Shared → Prop}
    (hf : s.heap.get? f = some ⟨.type "function", some d, .func fd, #[]⟩) (hd' : s.heap.get? d = some (elDict P q it k1 k2 k3 k4)) (hh : A.handled = none) (hd : A.depth ≤ 900) (hu : A.units ≤ 9000)
    (h : ∀ v s', ValEnd (.none) s v s' → Q v s') : wpAny (model prog w) A (getAttr (.ref f) "tail" true) Q E s := by
  refine wpAny_mono (wp_deep ?_ hh hd hu) h (E := E) fun _ _ e => e
  obtain ⟨hp, g, dr, t, os⟩ := s
  dsimp only [elDict, W.dictOf] at hf hd' h
  refine wpAny_bind (wpAny_mkText (wpAny_holding (wpAny_bind (wpAny_bind (wpAny_loadPart hf (wpAny_pure ?_))))))
  refine wpAny_bind ?_
  rw [typeLookup_type, builtinLookup_eq_fast]
  refine wpAny_pure ?_
  x_run
end
theorem meth_makeelement {Q : Value × List Value → Shared → Prop} {pl : Sem Bool} (F : Fr h₀ L s.heap m) (N : News h₀ L s.heap news)
    (hf : (f, (⟨.type "function", some d, .func fd, #[]⟩ : Obj)) ∈ news) (hd' : (d, elDict P q it k1 k2 k3 k4) ∈ news) (hh : A.handled = none) (hd : A.depth ≤ 900) (hu : A.units ≤ 9000)
    (h : ∀ h' tk, Fr h₀ L h' m → News h₀ L h' news → Q (.ref 192, []) { s with heap := h', toks := tk }) : wpAny (model prog w) A (getMethod (.ref f) "makeelement" pl) Q E s :=
  fn_method (N.get hf) (by rw [typeLookup_type, builtinLookup_eq_fast]; kernel_rfl) (fn_get_makeelement (N.get hf) (N.get hd') hh hd hu fun v s' M => by
    obtain ⟨rfl, h', tk, rfl, F', N'⟩ := M.news F N
    exact h h' tk F' N')
theorem meth_append {Q : Value × List Value → Shared → Prop} {pl : Sem Bool} (F : Fr h₀ L s.heap m) (N : News h₀ L s.heap news)
    (hf : (f, (⟨.type "function", some d, .func fd, #[]⟩ : Obj)) ∈ news) (hd' : (d, elDict P q it k1 k2 k3 k4) ∈ news) (hh : A.handled = none) (hd : A.depth ≤ 900) (hu : A.units ≤ 9000)
    (h : ∀ h' tk, Fr h₀ L h' m → News h₀ L h' news → Q (.ref q, []) { s with heap := h', toks := tk }) : wpAny (model prog w) A (getMethod (.ref f) "append" pl) Q E s :=
  fn_method (N.get hf) (by rw [typeLookup_type, builtinLookup_eq_fast]; kernel_rfl) (fn_get_append (N.get hf) (N.get hd') hh hd hu fun v s' M => by
    obtain ⟨rfl, h', tk, rfl, F', N'⟩ := M.news F N
    exact h h' tk F' N')
theorem meth_itertext {Q : Value × List Value → Shared → Prop} {pl : Sem Bool} (F : Fr h₀ L s.heap m) (N : News h₀ L s.heap news)
    (hf : (f, (⟨.type "function", some d, .func fd, #[]⟩ : Obj)) ∈ news) (hd' : (d, elDict P q it k1 k2 k3 k4) ∈ news) (hh : A.handled = none) (hd : A.depth ≤ 900) (hu : A.units ≤ 9000)
    (h : ∀ h' tk, Fr h₀ L h' m → News h₀ L h' news → Q (.ref it, []) { s with heap := h', toks := tk }) : wpAny (model prog w) A (getMethod (.ref f) "itertext" pl) Q E s :=
  fn_method (N.get hf) (by rw [typeLookup_type, builtinLookup_eq_fast]; kernel_rfl) (fn_get_itertext (N.get hf) (N.get hd') hh hd hu fun v s' M => by
    obtain ⟨rfl, h', tk, rfl, F', N'⟩ := M.news F N
    exact h h' tk F' N')
theorem attr_tail {Q : Value → Shared → Prop} (F : Fr h₀ L s.heap m) (N : News h₀ L s.heap news)
    (hf : (f, (⟨.type "function", some d, .func fd, #[]⟩ : Obj)) ∈ news) (hd' : (d, elDict P q it k1 k2 k3 k4) ∈ news) (hh : A.handled = none) (hd : A.depth ≤ 900) (hu : A.units ≤ 9000)
    (h : ∀ h' tk, Fr h₀ L h' m → News h₀ L h' news → Q .none { s with heap := h', toks := tk }) : wpAny (model prog w) A (getAttr (.ref f) "tail" true) Q E s :=
  fn_get_tail (N.get hf) (N.get hd') hh hd hu fun v s' M => by
    obtain ⟨rfl, h', tk, rfl, F', N'⟩ := M.news F N
    exact h h' tk F' N'
end
end Mine
end
theorem Mine.forget_G0 : True ∧ True := by first | (walk1; all_goals trivial; done) | exact ⟨trivial, trivial⟩
section
namespace Mine
/-! the contracts, as the walk wants them -/
theorem keeps_fr {h₀ h h' : Heap} {L : Addr} {m : Str → Option Value} (k : Keeps [] h h') (F : Fr h₀ L h m) : Fr h₀ L h' m := F.keeps k.nil
theorem keeps_news {h₀ h h' : Heap} {L : Addr} {news : List (Addr × Obj)} (k : Keeps [] h h') (N : News h₀ L h news) : News h₀ L h' news := fun p hp => ⟨k.nil _ _ (N p hp).1, (N p hp).2⟩
/-- new objects come onto the ledger -/
theorem made_news {h₀ h' : Heap} {L : Addr} {m : Str → Option Value} {s : Shared} {l : List (Addr × Obj)} (F : Fr h₀ L s.heap m) (M : Made s h' l) : News h₀ L h' l := fun p hp => by
  refine ⟨(M p hp).1, fun e => ?_, ?_⟩
  · obtain ⟨oL, _, _, eL, _⟩ := F.ns
    have := (M p hp).2
    rw [e, eL] at this
    cases this
  · cases e : h₀.get? p.1 with
    | none => rfl
    | some o => have := F.keep _ _ e; rw [(M p hp).2] at this; cases this
theorem made_apart {h₀ h' : Heap} {L : Addr} {s : Shared} {l news : List (Addr × Obj)} (N : News h₀ L s.heap news) (M : Made s h' l) : ∀ p ∈ l, ∀ q ∈ news, q.1 ≠ p.1 := fun p hp q hq e => by
  have h1 := (N q hq).1
  rw [e, (M p hp).2] at h1
  cases h1
theorem news_app {h₀ h : Heap} {L : Addr} {l r : List (Addr × Obj)} (N : News h₀ L h l) (N' : News h₀ L h r) : News h₀ L h (l ++ r) := fun p hp => (List.mem_append.mp hp).elim (N p) (N' p)
theorem news_one {h₀ h : Heap} {L : Addr} {p : Addr × Obj} {l : List (Addr × Obj)} (N : News h₀ L h l) (hm : p ∈ l) : News h₀ L h [p] := fun q hq => by rw [List.mem_singleton.mp hq]; exact N p hm
/-- two addresses apart, out of omega's sight -/
noncomputable def Apart (a b : Addr) : Prop := @Ne Nat a b
theorem Apart.ne {a b : Addr} (h : Apart a b) : @Ne Nat a b := h
theorem Apart.ne' {a b : Addr} (h : Apart a b) : @Ne Nat b a := fun e => h e.symm
noncomputable def AllAp (d : Addr) : List (Addr × Obj) → Prop
  | [] => True
  | p :: r => Apart p.1 d ∧ AllAp d r
theorem allAp_of {d : Addr} : ∀ {l : List (Addr × Obj)}, (∀ p ∈ l, p.1 ≠ d) → AllAp d l
  | [], _ => trivial
  | p :: _, h => ⟨h p (.head _), allAp_of fun q hq => h q (.tail _ hq)⟩
theorem AllAp.all {d : Addr} : ∀ {l : List (Addr × Obj)}, AllAp d l → ∀ p ∈ l, p.1 ≠ d
  | [], _ => fun _ h => nomatch h
  | q :: r, h => fun p hp => by
    revert p
    exact all_cons (h.1) (fun p hp => AllAp.all h.2 p hp)
noncomputable def AllApart : List (Addr × Obj) → List (Addr × Obj) → Prop
  | [], _ => True
  | p :: r, news => AllAp p.1 news ∧ AllApart r news
theorem allApart_of {news : List (Addr × Obj)} : ∀ {l : List (Addr × Obj)}, (∀ p ∈ l, ∀ q ∈ news, q.1 ≠ p.1) → AllApart l news
  | [], _ => trivial
  | p :: _, h => ⟨allAp_of (h p (.head _)), allApart_of fun q hq => h q (.tail _ hq)⟩
theorem ne_cls {h₀ h : Heap} {L a b : Addr} {o o' : Obj} {news : List (Addr × Obj)} (N : News h₀ L h news) (h1 : (a, o) ∈ news) (h2 : (b, o') ∈ news) (hne : o.cls ≠ o'.cls) : Apart a b := fun e => by
  subst e
  have e1 := (N _ h1).1
  rw [(N _ h2).1] at e1
  cases e1
  exact hne rfl
theorem ne_data {h₀ h : Heap} {L a b : Addr} {o o' : Obj} {news : List (Addr × Obj)} (N : News h₀ L h news) (h1 : (a, o) ∈ news) (h2 : (b, o') ∈ news) (hne : o.data ≠ o'.data) : Apart a b := fun e => by
  subst e
  have e1 := (N _ h1).1
  rw [(N _ h2).1] at e1
  cases e1
  exact hne rfl
/-- a halt of the walk -/
noncomputable def Halt (P : Prop) : Prop := P
theorem halt {P : Prop} (h : Halt P) : P := h
/-- the places -/
structure Here (w : World) (mean : ExcName → Option Value) (mg mb : Str → Option Value) (dp un : Nat) (cs : Scope) (outer : List Env) (A₀ : Around) (base h₀ : Heap) (L : Addr) (m : Str → Option Value) (s : Shared) (news : List (Addr × Obj)) : Prop where
  B : Below A₀ base outer h₀
  F : Fr h₀ L s.heap m
  X : Frag.In (hd.heap_39 w.params) h₀
  N : News h₀ L s.heap news
  T : Top topProg lo mean mg mb h₀
  k : cs.kind = .function
  d : dp + 150 < recursionLimit
  u : un + 1000 < cLine
section
variable {w : World} {mean : ExcName → Option Value} {mg mb : Str → Option Value} {dp un : Nat} {gd : Option (List Code)} {cn : Str} {cs : Scope} {a : Addr} {ccd : Value} {cl : List (Str × Addr)} {outer : List Env} {A₀ : Around} {base h₀ : Heap} {L : Addr} {m : Str → Option Value} {s : Shared} {news : List (Addr × Obj)} {Q R : Value → Shared → Prop}
theorem use_back {f : Addr} {vs : List Value} {pre : Prop} {V : Tok → Value} (C : Told w [] pre f vs (Back V)) (H : Here w mean mg mb dp un cs outer A₀ base h₀ L m s news) (hp : pre)
    (h : ∀ t h' tk, Fr h₀ L h' m → News h₀ L h' news → Q (V t) { s with heap := h', toks := tk }) :
    wpAny (model PySem.Challenge.rw_xe0044_01.row.prog w) (ktrTop dp un gd cn cs L a ccd cl outer) (call (.ref f) vs) Q R s :=
  C mean mg mb dp un gd cn cs a ccd cl outer A₀ base h₀ L m s Q R H.B H.F H.X News.nil H.T H.k H.d H.u hp fun t h' tk k => h t h' tk (keeps_fr k H.F) (keeps_news k H.N)
theorem use_elem1 {C : Cd} {x : Str} {t1 : Tok} {d : Addr} (H : Here w mean mg mb dp un cs outer A₀ base h₀ L m s news) (hm : (187, C.tab) ∈ news) (hC : C.Ok w.params)
    (h : ∀ (e : El) h' tk, e.tag = x → e.Ok → Fr h₀ L h' m → News h₀ L h' (e.ro w.params C.c2 ++ (e.l, W.listOf #[] 0) :: news) → (∀ p ∈ e.ro w.params C.c2 ++ [(e.l, W.listOf #[] 0)], ∀ q ∈ news, q.1 ≠ p.1) → Q (.ref e.f) { s with heap := h', toks := tk }) :
    wpAny (model PySem.Challenge.rw_xe0044_01.row.prog w) (ktrTop dp un gd cn cs L a ccd cl outer) (call (.ref 192) [.str x t1, .ref d]) Q R s :=
  elem_told1 w C x t1 d mean mg mb dp un gd cn cs a ccd cl outer A₀ base h₀ L m s Q R H.B H.F H.X (news_one H.N hm) H.T H.k H.d H.u hC fun e h' tk e1 e2 k M =>
    h e h' tk e1 e2 (keeps_fr k H.F) (by
      have := news_app (made_news H.F M) (keeps_news k H.N)
      rwa [List.append_assoc] at this) (made_apart H.N M)
end
end Mine
end
theorem Mine.forget_U0 : True ∧ True := by first | (walk1; all_goals trivial; done) | exact ⟨trivial, trivial⟩
local macro_rules | `(tactic| cell_enter) => `(tactic| (refine' enter_raw ?k1 ?k2 ?k3 ?k4 ?k5 ?kA ?kF ?kK ?k6 ?k7 ?k8 ?k9 ?kB ?_ ?c2 ?c3 ?c4 ?c5; (case kA => exact rfl); (case kF => exact rfl); (case kK => first | assumption | exact rfl); (case k1 => k_asm); (case k2 => k_asm); (case k3 => k_asm); (case k4 => k_asm); (case k5 => k_asm); (case k6 => k_is); (case k7 => k_is); (case k8 => ktr_room); (case k9 => exact BindsTo.of_eq rfl); (case c5 => decide); (case kB => exact locs rfl); (case c2 => exact rfl); (case c3 => exact rfl); (case c4 => exact rfl); k_whole; intro g' L' h' hg' hL' FG' F' N' B' X' T' l1; (try dsimp only); (try k_lift B'); (try k_fold)))
local macro_rules | `(tactic| walk_at "exec") => `(tactic| (k_here; (with_reducible show wpAny _ _ (exec (Stmt.While _ _ _ _) _) _ _ _); refine halt ?_))
section
namespace Mine
noncomputable def parseGo (x : Str) : Nat → Int → Str → Str
  | 0, _, d => d
  | f + 1, i, d => if i < x.length then
      (if Txt.item x i = Str.ofString "\"" then (if (x.length : Int) ≤ i + 1 ∨ Txt.item x (i + 1) ≠ Str.ofString "\"" then d else parseGo x f (i + 1 + 1) (d ++ Txt.item x i))
       else parseGo x f (i + 1) (d ++ Txt.item x i))
    else d
noncomputable def parse (x : Str) : Str := parseGo x 64 5 (Str.ofString "")
noncomputable def parseR (x : Str) : Str := if Txt.slice x (some 3) (some 5) = Str.ofString " \"" then parse x else Str.ofString ""
noncomputable def ParseAt (x : Str) (i : Int) (d : Str) : Prop := ∃ f : Nat, (x.length : Int) - i ≤ f ∧ parseGo x f i d = parse x
theorem parseAt_start {x : Str} (h : x.length ≤ 64) : ParseAt x 5 (Str.ofString "") := ⟨64, by omega, rfl⟩
section
variable {x d : Str} {i : Int}
theorem stop_n (h : ParseAt x i d) (hi : ¬ i < (x.length : Int)) : d = parse x := by
  obtain ⟨f, _, e⟩ := h
  cases f with
  | zero => exact e
  | succ f => rw [parseGo, if_neg hi] at e; exact e
theorem stop_a (h : ParseAt x i d) (hi : i < (x.length : Int)) (h1 : (Txt.item x i == Str.ofString "\"") = true) (h2 : (x.length : Int) ≤ i + 1 ∨ (Txt.item x (i + 1) != Str.ofString "\"") = true) : d = parse x := by
  obtain ⟨f, hf, e⟩ := h
  cases f with
  | zero => exact absurd hf (by omega)
  | succ f =>
    rw [parseGo, if_pos hi, if_pos (beq_iff_eq.mp h1), if_pos (h2.imp_right fun q => by simpa using q)] at e
    exact e
theorem go_two (h : ParseAt x i d) (hi : i + 1 < (x.length : Int)) (h1 : (Txt.item x i == Str.ofString "\"") = true) (h2 : (Txt.item x (i + 1) != Str.ofString "\"") = false) : ParseAt x (i + 1 + 1) (d ++ Txt.item x i) := by
  obtain ⟨f, hf, e⟩ := h
  cases f with
  | zero => exact absurd hf (by omega)
  | succ f =>
    rw [parseGo, if_pos (by omega), if_pos (beq_iff_eq.mp h1), if_neg (by rintro (q | q); omega; exact q (by simpa using h2))] at e
    exact ⟨f, by omega, e⟩
theorem go_one (h : ParseAt x i d) (hi : i < (x.length : Int)) (h1 : (Txt.item x i == Str.ofString "\"") = false) : ParseAt x (i + 1) (d ++ Txt.item x i) := by
  obtain ⟨f, hf, e⟩ := h
  cases f with
  | zero => exact absurd hf (by omega)
  | succ f =>
    rw [parseGo, if_pos hi, if_neg (by simpa using h1)] at e
    exact ⟨f, by omega, e⟩
end
section
local macro_rules | `(tactic| walk_at "subscriptTail") => `(tactic| (k_here; (with_reducible show wpAny _ _ (subscriptTail _ _ (Value.str _ _) (Value.int _ _)) _ _ _); (refine KXi.item rfl (by omega) (by omega) (by omega) ?_); intro kxiE))
theorem parse_told (w : World) (x : Str) (t1 : Tok) : Told w [] (x.length ≤ 64 ∧ Txt.slice x none (some 3) = Str.ofString "257") 61 [.str x t1] (Back fun t => .str (parseR x) t) := by
  delta Told
  k_fill
  intro mean mg mb dp un gd cn cs a ccd cl outer A₀ base h₀ L m s Q R B F X N T hk hd hu hh hret
  refine wpAny_call ?_
  k_dflt cell_enter
  k_steps
  · rename (Txt.slice x (some 3) (some 5) != _) = true => h1
    exact back_s hret (by rw [parseR, if_neg (by simpa using h1)]) (keeps_of (by assumption) (by assumption))
  rename (Txt.slice x (some 3) (some 5) != _) = false => hsl
  replace hsl : parseR x = parse x := by rw [parseR, if_pos (by simpa using hsl)]
  rw [hsl] at hret
  unfold Halt
  (with_reducible rename Fr _ _ _ _ => lF')
  (with_reducible rename News _ _ _ _ => lN')
  refine' ksw_while (σ := Int × Str × Tok × Tok) (fun _ => []) (fun c => [(Str.ofString "i", .int c.1 c.2.2.1), (Str.ofString "dirname", .str c.2.1 c.2.2.2)]) (fun _ => True) [Str.ofString "c"] (fun c => 5 ≤ c.1 ∧ ParseAt x c.1 c.2.1 ∧ (c.2.1.length : Int) ≤ c.1) (fun c => ((x.length : Int) - c.1).toNat) (5, Str.ofString "", _, _) lF' ?kn ?kf ?kk ?kp ?_
  case kn => exact lN'
  case kf => trivial
  case kk => kst_all
  case kp => exact ⟨Int.le_refl _, parseAt_start hh.1, by show (((Str.ofString "").length : Nat) : Int) ≤ 5; decide⟩
  clear lF' lN'
  rintro ⟨i, d, ti, td⟩ u h tk kfacts ⟨hi5, hpa, hdl⟩ kFr kNews
  dsimp only [kstB] at hi5 hpa hdl kFr kNews ⊢
  k_steps
  · rename (Txt.item x i == _) = true => h1
    exact back_s hret (stop_a hpa (by omega) h1 (.inl (by omega))) (keeps_of (by assumption) (by assumption))
  · rename (Txt.item x i == _) = true => h1
    rename (Txt.item x (i + 1) != _) = true => h2
    exact back_s hret (stop_a hpa (by omega) h1 (.inr h2)) (keeps_of (by assumption) (by assumption))
  · rename (Txt.item x i == _) = true => h1
    rename (Txt.item x (i + 1) != _) = false => h2
    rename News _ _ _ _ => nE'
    exact ksw_end ⟨_, _, _, _⟩ (by assumption) nE' (fun p hp => nomatch hp) trivial (by kst_all) (by ksw_same) ⟨by omega, go_two hpa (by omega) h1 h2, by (try dsimp only); omega⟩ (by (try dsimp only); omega)
  · rename (Txt.item x i == _) = false => h1
    rename News _ _ _ _ => nE'
    exact ksw_end ⟨_, _, _, _⟩ (by assumption) nE' (fun p hp => nomatch hp) trivial (by kst_all) (by ksw_same) ⟨by omega, go_one hpa (by omega) h1, by (try dsimp only); omega⟩ (by (try dsimp only); omega)
  · exact back_s hret (stop_n hpa (by omega)) (keeps_of (by assumption) (by assumption))
end
end Mine
end
theorem Mine.forget_P0 : True ∧ True := by first | (walk1; all_goals trivial; done) | exact ⟨trivial, trivial⟩
section
namespace Mine
noncomputable def tails : List Str := [Str.ofString "", Str.ofString " is it", Str.ofString "x", Str.ofString " \"\""]
noncomputable def amp (st : Int) : Str := Txt.mul (Str.ofString "&\"") st
noncomputable abbrev restOf (st : Int) (y : Str) : Str := Str.ofString " \"" ++ Txt.mul (Str.ofString "&\"\"") st ++ Str.ofString "\"" ++ y
theorem heard_all (st : Int) (a : 0 ≤ st) (b : st < 5) (y : Str) (h : y ∈ tails) :
    (Str.ofString "257" ++ restOf st y).length ≤ 64 ∧ Txt.slice (Str.ofString "257" ++ restOf st y) none (some 3) = Str.ofString "257" ∧ parseR (Str.ofString "257" ++ restOf st y) = amp st ∧
      Txt.slice ((if st.fmod 3 = 0 then Str.ofString "157" else if st.fmod 3 = 1 then Str.ofString "267" else Str.ofString "250") ++ restOf st y) none (some 3) ≠ Str.ofString "257" ∧ (amp st).length = 2 * st := by
  revert y
  rcases (by omega : st = 0 ∨ st = 1 ∨ st = 2 ∨ st = 3 ∨ st = 4) with rfl | rfl | rfl | rfl | rfl
  all_goals (intro y h; simp only [tails, List.mem_cons, List.not_mem_nil, or_false] at h; rcases h with rfl | rfl | rfl | rfl)
  all_goals decide +kernel
theorem heard_ne {st : Int} {y z : Str} (hz : z = if st.fmod 3 = 0 then Str.ofString "157" else if st.fmod 3 = 1 then Str.ofString "267" else Str.ofString "250") (a : 0 ≤ st) (b : st < 5) (h : y ∈ tails) :
    (Txt.slice (z ++ restOf st y) none (some 3) != Str.ofString "257") = true := by
  rw [hz]
  exact bne_iff_ne.mpr (heard_all st a b y h).2.2.2.1
theorem heard_none : parseR (Str.ofString "257 none") = amp 0 ∧ (Str.ofString "257 none").length ≤ 64 ∧ Txt.slice (Str.ofString "257 none") none (some 3) = Str.ofString "257" := by decide +kernel
theorem tails_len (y : Str) (h : y ∈ tails) : y.length ≤ 6 := by
  simp only [tails, List.mem_cons, List.not_mem_nil, or_false] at h
  rcases h with rfl | rfl | rfl | rfl <;> decide
end Mine
end
theorem Mine.forget_H1 : True ∧ True := by first | (walk1; all_goals trivial; done) | exact ⟨trivial, trivial⟩
section
namespace Mine
section
open Builtin Builtin.Str Builtin.BaseException Builtin.Exceptions
variable {prog : Program} {w : World} {A : Around} {E : Value → Shared → Prop} {s : Shared} {e t0 C : Addr} {oe : Obj} {ws : Array Value} {K : Frag} {x : Str} {tk : Tok}
theorem own_excArgs {M : Model} {items : List Value} {Q : Value × List Value → Shared → Prop} (he : s.heap.get? e = some oe) (hd : oe.data = .fields ws) (h0 : ws[0]? = some (.ref t0)) (ht : s.heap.TupAt t0 items) (hq : Q (.ref t0, items) s) :
    wpAny M A (bexcArgs (.ref e)) Q E s := by
  obtain ⟨ot, k, hto, _, htd⟩ := ht
  unfold bexcArgs
  refine wpAny_bind (wpAny_field he hd h0 (wpAny_bind (wpAny_seqItems hto htd ?_)))
  have : items.toArray.toList = items := by simp
  show wpAny M A (pure (Value.ref t0, items.toArray.toList)) Q E s
  rw [this]; exact wpAny_pure hq
theorem own_excStr {Q : Fin → Shared → Prop} (he : s.heap.get? e = some oe) (hd : oe.data = .fields ws) (h0 : ws[0]? = some (.ref t0)) (ht : s.heap.TupAt t0 [.str x tk]) (hq : Q (.done (.ret (.str x tk))) s) :
    wpAny (model prog w) A (Builtin.«BaseException.__str__» ⟨[.ref e], []⟩) Q E s := by
  unfold Builtin.«BaseException.__str__»
  repeat (first | with_reducible refine own_excArgs he hd h0 ht ?_ | wp_step)
  exact hq
theorem str_of_own {Q : Value → Shared → Prop} (hu : A.in1.in1.units < cLine) (X : K.In s.heap) (he : s.heap.get? e = some oe) (hc : oe.cls = .ref C) (hd : oe.data = .fields ws) (h0 : ws[0]? = some (.ref t0)) (ht : s.heap.TupAt t0 [.str x tk])
    (hs : findIn K (.ref C) "__str__" = some (some (.builtin "BaseException.__str__"))) (hm : mroIn K C (.type "BaseException") = some true) (h : Q (.str x tk) s) : wpAny (model prog w) A (call (.type "str") [.ref e]) Q E s := by
  have ty : ∀ {M : Model}, Looks M s.heap (typeOf (.ref e)) (.ref C) := (Looks.ld he).andThen (by rw [hc]; exact .now)
  refine callType_codes (T := "str") (Bi := Builtin.«object.__init__») (Q₁ := fun r s₁ => ∃ y u, r = .str y u ∧ Q r s₁) PySem.F.called_str (PySem.F.typeCall_str_1 _) PySem.F.entry_object_init ?_ ?_
  · refine codeAny_of_tree ?_
    show wpAny _ A.in1.in1 (do checkBuiltinCall "str.__new__" ⟨[.type "str", .ref e], []⟩; again (.builtin "str.__new__" ⟨[.type "str", .ref e], []⟩)) _ _ s
    refine wpAny_bind (wpAny_of_eq (PySem.F.newCall_str_1 _) (wpAny_pure ⟨plainId_quiet (by decide +kernel) _, codeAny_builtin PySem.F.entry_str_new ?_⟩))
    rw [Around.under_plainId (by decide +kernel) _]
    rw [str_new_tree]
    refine wpAny_bind (wpAny_pure ?_)
    refine wpAny_bind (wpAny_of_eq isSubtype_str_str ?_)
    have key : wpAny (model prog w) A.in1.in1 (PySem.Builtin.Str.strOf (.ref e)) (fun r s₁ => ∃ y u, r = .str y u ∧ Q r s₁) E s := by
      unfold PySem.Builtin.Str.strOf
      rw [show isExactStr (.ref e) = false from rfl]
      refine wpAny_bind (m := cRoomFor _ _) (wpAny_cRoomFor hu ?_)
      refine wpAny_bind (m := callSpecial? (.ref e) (Str.ofString "__str__")) (wpAny_bind (wpAny_bind (ty.here ((looks_findIn X hs).here (wpAny_holding (wpAny_bind ((Looks.of_pure (PySem.F.excStr_ValueError.str.bind _)).here (wpAny_bind (wpAny_mono (Q := fun r s' => r = .str x tk ∧ Q r s') ?_ (fun r s' z => ?_) fun _ _ y => y)))))))))
      · refine wpAny_call (codeAny_call_builtin (by decide +kernel) PySem.F.entry_bexc_str (check_slot (i := "BaseException.__str__") (owner := "BaseException") (n := "__str__") (by decide +kernel) (by decide +kernel) (ty.andThen (looks_mroIn X hm)) (PySem.F.args_bexc_str _) ?_))
        exact own_excStr he hd h0 ht ⟨rfl, h⟩
      · obtain ⟨rfl, z⟩ := z
        exact wpAny_pure (wpAny_pure ⟨_, _, rfl, z⟩)
    exact wpAny_bind (wpAny_mono key (fun r s₁ hr => wpAny_pure hr) fun _ _ y => y)
  · rintro obj s₁ ⟨y, u, rfl, hq⟩
    exact ⟨typeIs_str _ _ _, PySem.F.args_object_init_2 _ _, object_init_meets PySem.F.called_str.init.lookup PySem.F.called_str.made (by decide) prog w A.in1 _ s₁ ⟨typeIs_str _ _ _, rfl, hq⟩⟩
end
end Mine
end
theorem Mine.forget_X2 : True ∧ True := by first | (walk1; all_goals trivial; done) | exact ⟨trivial, trivial⟩
section
namespace Mine
/-- the machine's counter of tokens never falls -/
theorem runs_toks {M : Model} {Γ : PySem.Ctx} {p : Pos} {t : Sem Fin} {fs : List Frame} {s : Shared} {e : End} {s' : Shared} (h : Runs M Γ p t fs s e s') : s.toks ≤ s'.toks := by
  induction h with
  | fresh _ ih => exact Nat.le_trans (Nat.le_succ _) ih
  | call _ _ a b => exact Nat.le_trans a b
  | resumeFresh _ _ _ _ a b => exact Nat.le_trans a b
  | resumeSuspended _ _ _ _ a b => exact Nat.le_trans a b
  | segRet _ _ a b => exact Nat.le_trans a b
  | segGen _ _ a b => exact Nat.le_trans a b
  | segSuspGen _ _ _ _ a b => exact Nat.le_trans a b
  | done => exact Nat.le_refl _
  | raise => exact Nat.le_refl _
  | yield => exact Nat.le_refl _
  | _ => assumption
theorem wakes_toks {M : Model} {Γ : PySem.Ctx} {p : Pos} {g : Nat} {r : Resume} {s : Shared} {res : GenResult} {s' : Shared} (h : Wakes M Γ p g r s res s') : s.toks ≤ s'.toks := by
  unfold Wakes at h
  split at h
  · exact h.elim
  · split at h
    · obtain ⟨e₁, s₁, hr, _, _, rfl⟩ := h
      have := runs_toks hr
      exact this
    · obtain ⟨_, rfl⟩ := h; exact Nat.le_refl _
    · obtain ⟨_, rfl⟩ := h; exact Nat.le_refl _
  · obtain ⟨e₁, s₁, hr, _, _, rfl⟩ := h
    have := runs_toks hr
    exact this
  · obtain ⟨_, rfl⟩ := h; exact Nat.le_refl _
  · obtain ⟨_, rfl⟩ := h; exact Nat.le_refl _
theorem wp_toks {α : Type} {M : Model} {Γ : PySem.Ctx} (t : Sem α) : ∀ {Q : α → Pos → Shared → Prop} {E : Value → Pos → Shared → Prop} {p : Pos} {s : Shared} (n : Nat), n ≤ s.toks → Sem.wp M Γ t Q E p s →
    Sem.wp M Γ t (fun a p' s' => n ≤ s'.toks ∧ Q a p' s') (fun e p' s' => n ≤ s'.toks ∧ E e p' s') p s := by
  induction t with
  | pure a => intro Q E p s n hn h; exact ⟨hn, h⟩
  | raise e => intro Q E p s n hn h; exact ⟨hn, h⟩
  | unsupported w => intro Q E p s n hn h; exact h.elim
  | finish w => intro Q E p s n hn h; exact h.elim
  | rule _ k ih => intro Q E p s n hn h; exact ih _ n hn h
  | «at» p' k ih => intro Q E p s n hn h; exact ih _ n hn h
  | load a part k ih => intro Q E p s n hn h; obtain ⟨o, ho, h⟩ := h; exact ⟨o, ho, ih _ n hn h⟩
  | update a part f k ih => intro Q E p s n hn h; exact ⟨h.1, ih _ n hn h.2⟩
  | loadIfAlive a k ih => intro Q E p s n hn h; exact ih _ n hn h
  | point l k ih => intro Q E p s n hn h; exact ih _ n hn h
  | register a k ih => intro Q E p s n hn h; exact h.elim
  | alloc o k ih => intro Q E p s n hn h; exact ih _ n hn h
  | fresh k ih => intro Q E p s n hn h; exact ih _ n (Nat.le_succ_of_le hn) h
  | ask k ih => intro Q E p s n hn h; exact ih _ n hn h
  | choose src m k ih => intro Q E p s n hn h; exact ⟨h.1, ih _ n hn h.2⟩
  | os q l k ih => intro Q E p s n hn h; exact ih _ n hn h
  | call c h g l k ih => intro Q E p s n hn h'; obtain ⟨r, s', hr, h'⟩ := h'; exact ⟨r, s', hr, ih _ n (Nat.le_trans hn (runs_toks hr)) h'⟩
  | handled own k ih => intro Q E p s n hn h; exact ih _ n hn h
  | genState g k ih => intro Q E p s n hn h; obtain ⟨st, hs, h⟩ := h; exact ⟨st, hs, ih _ n hn h⟩
  | newGen c k ih => intro Q E p s n hn h; exact ih _ n hn h
  | resume g r l k ih => intro Q E p s n hn h; obtain ⟨res, s', hr, h⟩ := h; exact ⟨res, s', hr, ih _ n (Nat.le_trans hn (wakes_toks hr)) h⟩
  | yield v g l k ih => intro Q E p s n hn h; exact h.elim
  | stack k ih => intro Q E p s n hn h; exact ih _ n hn h
  | fork c k ih => intro Q E p s n hn h; exact h.elim
  | thread k ih => intro Q E p s n hn h; exact ih _ n hn h
  | await _ k ih => intro Q E p s n hn h; exact h.elim
/-- what runs behind a tree may lean on the counter -/
theorem toks_on {α : Type} {M : Model} {A : Around} {t : Sem α} {Q : α → Shared → Prop} {E : Value → Shared → Prop} {s : Shared} (h : wpAny M A t (fun a s' => s.toks ≤ s'.toks → Q a s') E s) : wpAny M A t Q E s := fun Γ p hΓ =>
  Sem.wp_mono M Γ t (fun _ _ _ q => q.2 q.1) (fun _ _ _ q => q.2) p s (wp_toks t s.toks (Nat.le_refl _) (h Γ p hΓ))
end Mine
end
theorem Mine.forget_T0 : True ∧ True := by first | (walk1; all_goals trivial; done) | exact ⟨trivial, trivial⟩
section
namespace Mine
theorem ktsX_mem {env : Env} {L b : Addr} {outer : List Env} (hf : env.frame = some L) (hm : b ∈ (env :: outer).filterMap (·.frame)) : b = L ∨ b ∈ outer.filterMap (·.frame) := by
  obtain ⟨e, he, hf'⟩ := List.mem_filterMap.mp hm
  rcases List.mem_cons.mp he with rfl | he
  · exact .inl (Option.some.inj (hf.symm.trans hf')).symm
  · exact .inr (List.mem_filterMap.mpr ⟨e, he, hf'⟩)
section
variable {prog : Program} {w : World} {A₀ A : Around} {s : Shared} {base h₀ g₀ : Heap} {outer : List Env} {L : Addr} {m : Str → Option Value} {env : Env} {news : List (Addr × Obj)} {K : Frag} {p : Program} {loose : List Str} {mean : ExcName → Option Value} {mg mb : Str → Option Value}
    {R : Result → Shared → Prop} {name qual : Str} {params : Arguments} {body : List Stmt} {scope : Scope} {dV kV doc pm cdv ct oc : Value} {an od : Option Addr} {osl : Array (Option Value)} {f : Addr} {args : Args} {binds : List (Str × Value)}
theorem ktsX_ground (B : Below A₀ base outer h₀) (F : Fr h₀ L s.heap m) (N : News h₀ L s.heap news) (XB : K.In base) (TB : Top p loose mean mg mb base) (D : KtsDicts (outer.filterMap (·.frame)) h₀)
    (T0 : KtsTurn (outer.filterMap (·.frame)) g₀ h₀) (hA : A.frames = some (env :: outer)) (hf : env.frame = some L) (hke : env.scope.kind = .function) :
    Fr h₀ L (hideAll s.heap (news.map (·.1))) m ∧ Below A base (env :: outer) (hideAll s.heap (news.map (·.1))) ∧ h₀.StaysIn (hideAll s.heap (news.map (·.1))) ∧ KtsDicts ((env :: outer).filterMap (·.frame)) (hideAll s.heap (news.map (·.1))) ∧
      ∀ v s', LeaveS ((env :: outer).filterMap (·.frame)) A₀ base outer K p loose mean mg mb g₀ h₀ L m (hideAll s.heap (news.map (·.1))) R v s' → R (.ok (.ret v)) s' := by
  obtain ⟨FG, BG, st, -⟩ := groundX (R := R) B F N hA hf hke
  obtain ⟨oL, es, ep, hLg, hLd, hLk, hLf⟩ := FG.ns
  refine ⟨FG, BG, st, fun b hb => ?_, fun v s' hl => ?_⟩
  · rcases ktsX_mem hf hb with rfl | hb
    · exact ⟨oL, es, ep, hLg, hLd⟩
    · obtain ⟨o, es', n', ho', hd'⟩ := D b hb
      exact ⟨o, es', n', st b o ho', hd'⟩
  have nL₀ : h₀.get? L = none := kts_self F
  have hN : ∀ h' : Heap, h'.get? L = some oL → Heap.Ns h' L m := fun h' e => ⟨oL, es, ep, e, hLd, hLk, hLf⟩
  have hNs : ∀ (sl : Array (Option Value)) (h' : Heap), h'.get? L = some { oL with slots := sl } → Heap.Ns h' L m := fun sl h' e => ⟨_, es, ep, e, hLd, hLk, hLf⟩
  rcases hl with ⟨L', m', news', F', N', k⟩ | ⟨g', L', m', news', T', F', N', k⟩
  · refine k ⟨hN _ (F'.keep _ _ hLg), fun b o e => F'.keep b o (st b o e), F.above⟩ fun p hp => ⟨(N' p hp).1, fun q => ?_, ?_⟩
    · have := (N' p hp).2.2; rw [q, hLg] at this; cases this
    · cases q : h₀.get? p.1 with
      | none => rfl
      | some o => have := (N' p hp).2.2; rw [st _ _ q] at this; cases this
  obtain ⟨sl, hs⟩ := T'.up hLg
  obtain ⟨T₁, S₁⟩ := kts_turn_at (h := s'.heap) (fs := outer.filterMap (·.frame)) (g := h₀)
    (fun b hb => by
      obtain ⟨_, o, ho', _⟩ := B.frames.mem hb
      exact ⟨o, ho'⟩)
    (fun b o e nmem => F'.keep b o (T'.other b o (st b o e) (fun q => by
      rcases ktsX_mem hf q with z | z
      · rw [z, nL₀] at e
        cases e
      · exact nmem z)))
    (fun b o e hm => by
      obtain ⟨sl', hs'⟩ := T'.up (st b o e)
      exact ⟨sl', F'.keep _ _ hs'⟩)
  have B₃ : Below A₀ base outer (ktsHeap s'.heap (outer.filterMap (·.frame)) h₀) := ⟨B.stack, fun b o e => T₁.other b o (B.stays b o e) (fun hm => by
    rw [(B.frames.mem hm).1] at e
    cases e), B.frames.of_keeps fun b o e _ => by
    obtain ⟨sl', hs'⟩ := T₁.up e
    exact ⟨_, hs', rfl⟩⟩
  refine k _ (T0.trans T₁) ⟨hNs sl _ (F'.keep _ _ hs), S₁, by rw [T₁.size]; exact F.above⟩ (fun p hp => ⟨(N' p hp).1, fun q => ?_, ?_⟩) B₃ (XB.keeps B₃.stays) (TB.keeps B₃.stays) (D.turn T₁)
  · have := (N' p hp).2.2; rw [q, hs] at this; cases this
  · refine T₁.none_ _ ?_
    cases q : h₀.get? p.1 with
    | none => rfl
    | some o =>
      obtain ⟨sl', hs'⟩ := T'.up (st _ _ q)
      have := (N' p hp).2.2
      rw [hs'] at this
      cases this
theorem code_defSX (B : Below A₀ base outer h₀) (F : Fr h₀ L s.heap m) (X₀ : K.In h₀) (N : News h₀ L s.heap news) (T : Top p loose mean mg mb h₀) (XB : K.In base) (TB : Top p loose mean mg mb base) (D : KtsDicts (outer.filterMap (·.frame)) h₀)
    (T0 : KtsTurn (outer.filterMap (·.frame)) g₀ h₀) (hA : A.frames = some (env :: outer)) (hf : env.frame = some L) (hke : env.scope.kind = .function)
    (ho : K.lookup f = some ⟨oc, od, .func (fnOf name qual params body scope dV kV doc pm an cdv ct), osl⟩) (hcd : codeIn K cdv qual = true) (hroom : A.depth < recursionLimit)
    (hbind : BindsTo s (fnOf name qual params body scope dV kV doc pm an cdv ct) args binds) (hloc : ∀ y ∈ binds, scope.names.lookup y.1 = some .local)
    (h : ∀ g L' h₁, Fr h₀ L g m → Fr g L' h₁ (fun y => binds.reverse.lookup y) → News g L' h₁ news → Below A base (env :: outer) g → K.In g → Top p loose mean mg mb g → KtsDicts ((env :: outer).filterMap (·.frame)) g →
      wpAny (model prog w) (A.deeper (envOf qual scope L' f cdv)) (execs body (envOf qual scope L' f cdv))
        (fun fl s' => LeaveS ((env :: outer).filterMap (·.frame)) A₀ base outer K p loose mean mg mb g₀ h₀ L m g R (match fl with | .ret v => v | _ => .none) s')
        (fun e s' => wpAny (model prog w) (A.deeper (envOf qual scope L' f cdv)) (leaving (envOf qual scope L' f cdv) e) (fun _ s'' => R (.error e) s'') (fun e' s'' => R (.error e') s'') s')
        { s with heap := h₁, toks := s.toks + binds.length })
    (hco : scope.isCoroutine = false) (hgen : scope.isGenerator = false) (hk : scope.kind = .function)
    (hcell : ∀ x ∈ scope.names, x.2 ≠ .cell) : codeAny (model prog w) A (.call (.ref f) args) R s := by
  have X := X₀.keeps F.keep
  obtain ⟨FG, BG, st, DG, lv⟩ := ktsX_ground (R := R) (K := K) (p := p) (loose := loose) (mean := mean) (mg := mg) (mb := mb) B F N XB TB D T0 hA hf hke
  refine codeAny_call_def (fd := fnOf name qual params body scope dV kV doc pm an cdv ct) (body := body) (binds := binds) hroom (X _ _ ho) rfl (T.nolimit.keeps F.keep) (codeRec_of X hcd) rfl hbind hcell hloc (fun h₁ hns hk₁ => ?_) hco hgen hk
  exact wpAny_mono (h _ s.heap.objs.size h₁ FG ⟨hns, fun b o e => hk₁ b o (of_hideAll _ e), Nat.le_of_eq (hideAll_size _ _)⟩
    (fun p hp => ⟨hk₁ _ _ (N p hp).1, Nat.ne_of_lt (Heap.lt_size (N p hp).1), hideAll_none _ (List.mem_map_of_mem hp)⟩) BG (X₀.keeps st) (T.keeps st) DG) (fun fl s' hl => lv _ _ hl) fun _ _ y => y
theorem code_defSXC (B : Below A₀ base outer h₀) (F : Fr h₀ L s.heap m) (X₀ : K.In h₀) (N : News h₀ L s.heap news) (T : Top p loose mean mg mb h₀) (XB : K.In base) (TB : Top p loose mean mg mb base) (D : KtsDicts (outer.filterMap (·.frame)) h₀)
    (T0 : KtsTurn (outer.filterMap (·.frame)) g₀ h₀) (hA : A.frames = some (env :: outer)) (hf : env.frame = some L) (hke : env.scope.kind = .function)
    (ho : K.lookup f = some ⟨oc, od, .func (fnOf name qual params body scope dV kV doc pm an cdv ct), osl⟩) (hcd : codeIn K cdv qual = true) (hroom : A.depth < recursionLimit)
    (hbind : BindsTo s (fnOf name qual params body scope dV kV doc pm an cdv ct) args binds) (hkind : (binds.all fun y => scope.names.lookup y.1 == some .local || scope.names.lookup y.1 == some .cell) = true)
    (hnd : ((cellsFrom 0 scope.names []).map (·.1)).Nodup)
    (h : ∀ g L' h₁ tk cells, Fr h₀ L g m → Fr g L' h₁ (bindL (envOfC qual scope L' f cdv).kindOf binds fun _ => none) → News g L' h₁ (cells ++ news) →
      CellsAre (bindC (envOfC qual scope L' f cdv).kindOf binds fun _ => none) (cellsFrom (L' + 1) scope.names []) cells → Below A base (env :: outer) g → K.In g → Top p loose mean mg mb g → KtsDicts ((env :: outer).filterMap (·.frame)) g → (∀ q ∈ news, q.1 < L') → s.toks ≤ tk →
      wpAny (model prog w) (A.deeper (envOfC qual scope L' f cdv)) (execs body (envOfC qual scope L' f cdv))
        (fun fl s' => LeaveS ((env :: outer).filterMap (·.frame)) A₀ base outer K p loose mean mg mb g₀ h₀ L m g R (match fl with | .ret v => v | _ => .none) s')
        (fun e s' => wpAny (model prog w) (A.deeper (envOfC qual scope L' f cdv)) (leaving (envOfC qual scope L' f cdv) e) (fun _ s'' => R (.error e) s'') (fun e' s'' => R (.error e') s'') s')
        { s with heap := h₁, toks := tk })
    (hco : scope.isCoroutine = false) (hgen : scope.isGenerator = false) (hk : scope.kind = .function) : codeAny (model prog w) A (.call (.ref f) args) R s := by
  have X := X₀.keeps F.keep
  obtain ⟨FG, BG, st, DG, lv⟩ := ktsX_ground (R := R) (K := K) (p := p) (loose := loose) (mean := mean) (mg := mg) (mb := mb) B F N XB TB D T0 hA hf hke
  refine codeAny_call_function hroom (X _ _ ho) rfl hco hgen rfl (codeRec_of X hcd) (hbind _ _ _ _ ?_)
  refine toks_on (wpAny_newFunctionEnv_cells hk (kindsX hkind _) fun env' he s' x hle => ?_)
  subst he
  refine ⟨((T.nolimit.keeps F.keep)).keeps x.toInCall.keep, codeAny_func ?_⟩
  obtain ⟨h₁, tk, rfl, htk⟩ := x.done
  have hk₁ := x.toInCall.keep
  obtain ⟨cells, NC, Y⟩ := Cl.news (h₀ := s.heap) (Nat.le_refl _) fun n c hm => ⟨x.cell n c (lookup_of_mem_nodup (cellsFrom_names scope.names 0 (s.heap.objs.size + 1) [] [] rfl ▸ hnd) hm), x.above n c hm⟩
  refine wpAny_mono (h _ s.heap.objs.size h₁ tk cells FG ⟨x.toInCall.ns, fun b o e => hk₁ b o (of_hideAll _ e), Nat.le_of_eq (hideAll_size _ _)⟩ (fun q hq => ?_) Y BG (X₀.keeps st) (T.keeps st) DG (fun q hq => Heap.lt_size (N q hq).1) ?_) (fun fl s' hl => lv _ _ hl) fun _ _ y => y
  · rcases List.mem_append.mp hq with hq | hq
    · refine ⟨(NC q hq).1, (NC q hq).2.1, ?_⟩
      cases e : (hideAll s.heap (news.map (·.1))).get? q.1 with
      | none => rfl
      | some o => have := of_hideAll _ e; rw [(NC q hq).2.2] at this; cases this
    · exact ⟨hk₁ _ _ (N q hq).1, Nat.ne_of_lt (Heap.lt_size (N q hq).1), hideAll_none _ (List.mem_map_of_mem hq)⟩
  · exact hle
end
end Mine
end
theorem Mine.forget_K0 : True ∧ True := by first | (walk1; all_goals trivial; done) | exact ⟨trivial, trivial⟩
section
namespace Mine
theorem sub_three {prog : Program} {w : World} {A : Around} {E : Value → Shared → Prop} {s : Shared} {value slice : PySem.Expr} {l : Addr} {a b c : Str} {ta tb tc : Tok} {k : Int} {u : Tok} {Q : Value → Shared → Prop}
    (hl : s.heap.IsList l [Value.str a ta, .str b tb, .str c tc].toArray) (h0 : 0 ≤ k) (hx : k < 3) (ha : a.length = 3) (hb : b.length = 3) (hc : c.length = 3) (h : ∀ z t, z.length = 3 → z = (if k = 0 then a else if k = 1 then b else c) → Q (.str z t) s)
    (hs : subscripted slice false (.ref l) (.int k u) = operate [.ref l, .int k u] (getItem (.ref l) (.int k u)) := by with_unfolding_all rfl) :
    wpAny (model prog w) A (subscriptTail value slice (.ref l) (.int k u)) Q E s := by
  refine sub_made (vs := [.str a ta, .str b tb, .str c tc]) hl h0 (by omega) hx ?_ hs
  rcases (by omega : k = 0 ∨ k = 1 ∨ k = 2) with rfl | rfl | rfl
  · exact h a ta ha rfl
  · exact h b tb hb rfl
  · exact h c tc hc rfl
theorem k_if {c : Prop} [Decidable c] {P Q : Prop} (hc : c) (h : P) : if c then P else Q := by rw [if_pos hc]; exact h
section
local macro_rules | `(tactic| walk_at "subscriptTail") => `(tactic| (k_here; (with_reducible show wpAny _ _ (subscriptTail _ _ (Value.ref _) (Value.int _ _)) _ _ _); (with_unfolding_all refine' sub_three ?k1 ?k2 ?k3 ?l1 ?l2 ?l3 ?_ ?k6; (case k1 => is_list); (case l1 => decide); (case l2 => decide); (case l3 => decide); (case k2 => l_fact); (case k3 => l_fact); (case k6 => with_unfolding_all rfl); k_whole); intro zp tp hz3 hzp; (have hne := heard_ne hzp ‹_› ‹_› ‹_›)))
local macro_rules | `(tactic| walk_at "call ref") => `(tactic| (k_here; (with_reducible show wpAny _ _ (call (Value.ref 61) [Value.str (Str.ofString "257" ++ _) _]) _ _ _); (k_dflt (refine' use_back (parse_told _ _ _) ⟨?b, ?f, ?x, ?n, ?t, ?k, ?d, ?u⟩ ?p ?_; (case b => k_asm); (case f => k_asm); (case x => k_asm); (case n => with_reducible assumption); (case t => k_asm); (case k => exact rfl); (case d => ktr_room); (case u => ktr_units); (case p => exact ⟨(heard_all _ ‹_› ‹_› _ ‹_›).1, (heard_all _ ‹_› ‹_› _ ‹_›).2.1⟩); k_whole); intro t' h' tk' F' N'; (try dsimp only); (try k_sweep))))
local macro_rules | `(tactic| walk_at "call ref") => `(tactic| (k_here; (with_reducible show wpAny _ _ (call (Value.ref 61) [Value.str (Str.ofString "257 none") _]) _ _ _); (k_dflt (refine' use_back (parse_told _ _ _) ⟨?b, ?f, ?x, ?n, ?t, ?k, ?d, ?u⟩ ?p ?_; (case b => k_asm); (case f => k_asm); (case x => k_asm); (case n => with_reducible assumption); (case t => k_asm); (case k => exact rfl); (case d => ktr_room); (case u => ktr_units); (case p => exact heard_none.2); k_whole); intro t' h' tk' F' N'; (try dsimp only); (try k_sweep))))
local macro_rules | `(tactic| walk_at "ite") => `(tactic| (k_here; (with_reducible refine k_if (by with_reducible assumption) ?_)))
local macro_rules | `(tactic| walk_at "call type:str") => `(tactic| (k_here; (with_reducible show wpAny _ _ (call (Value.type "str") [Value.ref _]) _ _ _); (with_reducible rename Got _ _ _ _ _ => gX); obtain ⟨oe, ot, ws, nt, me, mt, c1, c2, c3, c4, c5⟩ := gX; k_dflt (refine' str_of_own ?u ?X ?he c1 c2 c3 ?ht ?s ?m ?_; (case u => k_units); (case X => k_in); (case he => exact News.get (by with_reducible assumption) me); (case ht => exact ⟨ot, nt, News.get (by with_reducible assumption) mt, c4, c5⟩); (case s => k_is); (case m => k_is); k_whole)))
/-- a call that may turn the slots of the frames below -/
noncomputable abbrev ToldS (w : World) (pre : Prop) (f : Addr) (vs : List Value) (V : Tok → Value) : Prop :=
  ∀ (mean : ExcName → Option Value) (mg mb : Str → Option Value) (dp un : Nat) (gd : Option (List Code)) (cn : Str) (cs : Scope) (a : Addr) (ccd : Value) (cl : List (Str × Addr)) (outer : List Env) (A₀ : Around) (base g₀ h₀ : Heap) (L : Addr) (m : Str → Option Value) (news : List (Addr × Obj)) (s : Shared) (Q R : Value → Shared → Prop),
    Below A₀ base outer h₀ → Fr h₀ L s.heap m → Frag.In (hd.heap_39 w.params) h₀ → News h₀ L s.heap news → Top topProg lo mean mg mb h₀ → Frag.In (hd.heap_39 w.params) base → Top topProg lo mean mg mb base →
    KtsDicts (outer.filterMap (·.frame)) h₀ → KtsTurn (outer.filterMap (·.frame)) g₀ h₀ → cs.kind = .function →
    dp + 170 < recursionLimit → un + 1200 < cLine → pre →
    (∀ t h₀' h' tk, KtsTurn (outer.filterMap (·.frame)) g₀ h₀' → Fr h₀' L h' m → News h₀' L h' news → Below A₀ base outer h₀' → Frag.In (hd.heap_39 w.params) h₀' → Top topProg lo mean mg mb h₀' → KtsDicts (outer.filterMap (·.frame)) h₀' → Q (V t) { s with heap := h', toks := tk }) →
      wpAny (model PySem.Challenge.rw_xe0044_01.row.prog w) (ktrTop dp un gd cn cs L a ccd cl outer) (call (.ref f) vs) Q R s
theorem heard_told (w : World) (st k : Int) (y : Str) (t1 t2 t3 : Tok) : ToldS w (0 ≤ st ∧ st < 5 ∧ y ∈ tails) 199 [.int st t1, .str y t2, .int k t3] (fun t => .str (amp st) t) := by
  delta ToldS
  k_fill
  intro mean mg mb dp un gd cn cs a ccd cl outer A₀ base g₀ h₀ L m news s Q R B F X N T XB TB D T0 hk hd hu hh hret
  obtain ⟨hh1, hh2, hh3⟩ := hh
  refine wpAny_call ?_
  k_dflt (refine' code_defSX ?k1 ?k2 ?k3 ?k4 ?k5 ?XB ?TB ?D ?T0 ?kA ?kF ?cK ?k6 ?k7 ?k8 ?k9 ?kB ?_ ?c2 ?c3 ?c4 ?c5; (case kA => exact rfl); (case kF => exact rfl); (case k2 => k_asm); (case k1 => k_asm); (case XB => assumption); (case TB => assumption); (case D => assumption); (case T0 => assumption); (case k3 => k_asm); (case k4 => k_asm); (case k5 => k_asm); (case k6 => k_is); (case k7 => k_is); (case k8 => k_room); (case k9 => exact BindsTo.of_eq rfl); (case kB => exact locs rfl); (case cK => assumption); (case c2 => exact rfl); (case c3 => exact rfl); (case c4 => exact rfl); (case c5 => decide); k_whole; intro g' L' h' FG' F' N' B' X' T' D'; (try dsimp only); (try k_lift B'); (try k_fold))
  have hy6 := tails_len y hh3
  k_steps
  · rename News _ L _ _ => kN
    rename KtsTurn _ g₀ _ => kT
    rw [(heard_all st hh1 hh2 y hh3).2.2.1]
    exact hret _ _ _ _ kT ‹_› (fun p hp => kN p (by simp [hp])) ‹_› ‹_› ‹_› ‹_›
  · have e : parseR (Str.ofString "257 none") = amp st := by rw [‹st = 0›]; exact heard_none.1
    rw [e]
    exact hret _ h₀ _ _ T0 ‹_› ‹_› B X T D
  · rw [(heard_all st hh1 hh2 y hh3).2.2.1]
    exact hret _ h₀ _ _ T0 ‹_› ‹_› B X T D
  · rw [(heard_all st hh1 hh2 y hh3).2.2.1]
    exact hret _ h₀ _ _ T0 ‹_› ‹_› B X T D
end
end Mine
end
theorem Mine.forget_H0 : True ∧ True := by first | (walk1; all_goals trivial; done) | exact ⟨trivial, trivial⟩
section
namespace Mine
theorem merge_empty {M : Model} {A : Around} {E : Value → Shared → Prop} {s : Shared} {d a : Addr} {od od' : Option Addr} {k n : Nat} {sl sl' : Array (Option Value)} {Q : Unit → Shared → Prop}
    (hd : s.heap.get? d = some ⟨.type "dict", od', .dict #[] n, sl'⟩) (ha : s.heap.get? a = some ⟨.type "dict", od, .dict #[] k, sl⟩) (hne : (a == sysModules) = false) (h : Q () s) : wpAny M A (mergeMapping d (.ref a) false) Q E s := by
  have ty : Looks M s.heap (typeOf (.ref a)) (.type "dict") := (Looks.ld ha).andThen .now
  have sub : Looks M s.heap (isInstance (.ref a) (.type "dict")) true := ty.andThen (Looks.of_pure (by rw [isSubtype_type]; kernel_rfl))
  have it : Looks M s.heap (specialOf (.ref a) "__iter__") (some (.builtin "dict.__iter__")) := ty.andThen (Looks.of_pure (by rw [typeLookup_type, builtinLookup_eq_fast]; kernel_rfl))
  unfold mergeMapping
  refine wpAny_bind (m := isInstance (.ref a) (.type "dict")) (sub.here ?_)
  refine wpAny_bind (m := specialOf (.ref a) "__iter__") (it.here ?_)
  simp only [beq_self_eq_true]
  refine wpAny_bind (wpAny_pure ?_)
  dsimp only
  rw [hne]
  refine wpAny_bind (m := dictEntries d) (wpAny_bind (wpAny_loadPart hd (wpAny_pure ?_)))
  refine wpAny_bind (m := dictEntries a) (wpAny_bind (wpAny_loadPart ha (wpAny_pure ?_)))
  refine wpAny_bind (wpAny_pure ?_)
  refine wpAny_bind (m := dictEntries a) (wpAny_bind (wpAny_loadPart ha (wpAny_pure ?_)))
  refine wpAny_bind (m := dictEpoch a) (wpAny_bind (wpAny_loadPart ha (wpAny_pure ?_)))
  exact wpAny_bind (wpAny_pure (wpAny_pure h))
theorem empty_of {prog : Program} {w : World} {K : Type} [DecidableEq K] {knd : KeyKind prog w K} {o : Obj} (h : o.IsDictOf knd []) : ∃ k, o.cls = .type "dict" ∧ o.data = .dict #[] k := by
  obtain ⟨es, ep, hE, hd, _, hp, _⟩ := h
  have he : es = #[] := by
    cases hl : es.toList with
    | nil => exact Array.toList_eq_nil_iff.mp hl
    | cons e r => rw [hl] at hp; cases hp
  subst he
  exact ⟨ep, hE.1, hd⟩
/-- {**a, **b} of two empty dicts -/
theorem dict_two {prog : Program} {w : World} {A : Around} {E : Value → Shared → Prop} {s : Shared} {h₀ : Heap} {L : Addr} {m : Str → Option Value} {news : List (Addr × Obj)} {Q : Value → Shared → Prop} {x y : PySem.Expr} {pos : Pos} {env : Env} {a b : Addr} {oa ob : Obj} {ka kb : Nat}
    (F : Fr h₀ L s.heap m) (N : News h₀ L s.heap news)
    (hx : ∀ (Q : Value → Shared → Prop) (h' : Heap), (∀ c o, s.heap.get? c = some o → h'.get? c = some o) → Fr h₀ L h' m → (Q (.ref a) { s with heap := h' }) → wpAny (model prog w) A (eval x env) Q E { s with heap := h' })
    (hy : ∀ (Q : Value → Shared → Prop) (h' : Heap), (∀ c o, s.heap.get? c = some o → h'.get? c = some o) → Fr h₀ L h' m → (Q (.ref b) { s with heap := h' }) → wpAny (model prog w) A (eval y env) Q E { s with heap := h' })
    (ha : s.heap.get? a = some oa) (ca : oa.cls = .type "dict") (da : oa.data = .dict #[] ka) (hb : s.heap.get? b = some ob) (cb : ob.cls = .type "dict") (db : ob.data = .dict #[] kb) (na : (a == sysModules) = false) (nb : (b == sysModules) = false)
    (h : ∀ D h', Fr h₀ L h' m → News h₀ L h' ((D, dictOf [] 0) :: news) → (∀ p ∈ news, p.1 < D) → Q (.ref D) { s with heap := h' }) :
    wpAny (model prog w) A (eval (.Dict [none, none] [x, y] pos) env) Q E s := by
  obtain ⟨_, _, _, _⟩ := oa
  obtain ⟨_, _, _, _⟩ := ob
  dsimp only at ca da cb db
  subst ca da cb db
  have ha' := Heap.get?_push_of_some (dictOf [] 0) ha
  have hb' := Heap.get?_push_of_some (dictOf [] 0) hb
  have hd' : (s.heap.push (dictOf [] 0)).get? s.heap.objs.size = some (dictOf [] 0) := Heap.get?_push_size _ rfl
  have up : ∀ c o, s.heap.get? c = some o → (s.heap.push (dictOf [] 0)).get? c = some o := fun c o e => Heap.get?_push_of_some _ e
  show wpAny (model prog w) A (do standAt pos; dictDisplay ((evalEachOpt [none, none] env).zip ((evalEach [x, y] env).map fun v => do let x ← v; standAt pos; pure x))) Q E s
  refine wpAny_bind (wpAny_standAt ?_)
  show wpAny (model prog w) A (dictDisplay [(none, do let v ← eval x env; standAt pos; pure v), (none, do let v ← eval y env; standAt pos; pure v)]) Q E s
  unfold dictDisplay
  simp only [List.forIn_cons, List.forIn_nil, List.isEmpty_nil, if_true, pure_bind, bind_pure_comp]
  refine wpAny_bind (wpAny_bind (wpAny_bind (wpAny_alloc (wpAny_bind (wpAny_holding (wpAny_bind (hx _ _ up (F.push _) (wpAny_map (wpAny_standAt ?_)))))))))
  refine wpAny_map (wpAny_onRaise (wpAny_tryCatch (wpAny_onRaise (wpAny_holding (merge_empty hd' ha' na ?_)))))
  refine wpAny_bind (wpAny_bind (wpAny_pure ?_))
  refine wpAny_bind (wpAny_holding (wpAny_bind (hy _ _ up (F.push _) (wpAny_map (wpAny_standAt ?_)))))
  refine wpAny_map (wpAny_onRaise (wpAny_tryCatch (wpAny_onRaise (wpAny_holding (merge_empty hd' hb' nb ?_)))))
  refine wpAny_pure (wpAny_bind (wpAny_pure (wpAny_pure ?_)))
  exact h s.heap.objs.size _ (F.push _) (N.push F _) (fun p hp => Heap.lt_size (N p hp).1)
end Mine
end
theorem Mine.forget_S0 : True ∧ True := by first | (walk1; all_goals trivial; done) | exact ⟨trivial, trivial⟩
section
namespace Mine
noncomputable def MoAt (q l : Addr) (h : Heap) : Prop := h.get? q = some (methO "list.append" l)
section
variable {M : Model} {A : Around} {E : Value → Shared → Prop} {s : Shared} {env : Env} {pos : Pos} {first : List Value} {Q : Value → Shared → Prop} {q l : Addr}
theorem keeps_mo (h : Heap) (X : MoAt q l h) : ∃ k, (k = Keeper.frame ∨ k = Keeper.machine ∨ k = Keeper.boundFrame) ∧ Looks M h (keeperOf (.ref q)) k :=
  ⟨.machine, .inr (.inl rfl), (Looks.ld (part := none) X).andThen .now⟩
theorem callWith_mo {e : PySem.Expr} {rest : List PySem.Expr} (_X : MoAt q l s.heap) (h : wpAny M A (spliced (backTo pos (starEach (e :: rest) env))) (fun vs s₁ => MoAt q l s₁.heap ∧ wpAny M A (call (.ref q) (first ++ vs)) Q E s₁) E s)
    (he : starEach (e :: rest) env = (false, eval e env) :: starEach rest env := by rfl) (hplain : (backTo pos (starEach rest env)).any (·.1) = false := by rfl) :
    wpAny M A (callWith pos (.ref q) first (backTo pos (starEach (e :: rest) env)) []) Q E s := by
  rw [he] at h ⊢
  exact callWith_of (by show ((false || (backTo pos (starEach rest env)).any (·.1)) || false) = false; rw [hplain]; rfl) keeps_mo (evalArgs_plain h)
theorem check_mo {h : Heap} {its : Array Value} {n : Nat} {x : Value} (hl : h.get? l = some (W.listOf its n)) : Looks M h (checkBoundCall "list.append" ⟨[.ref l, x], []⟩) () := by
  have ty : Looks M h (typeOf (.ref l)) (.type "list") := (Looks.ld hl).andThen .now
  have ni : Looks M h (isInstance (.ref l) (.type "module")) false := ty.andThen (Looks.of_pure (by rw [isSubtype_type]; kernel_rfl))
  have nt : Looks M h (isType (.ref l)) false := (Looks.ld hl).andThen .now
  intro A Q E s k q
  unfold checkBoundCall
  cases hs : Manifest.signature? "list.append" with
  | none => exact wpAny_pure q
  | some sig =>
    simp only [show builtinKind "list.append" = some .method from by decide +kernel]
    rw [if_neg (by decide)]
    refine wpAny_bind (m := isInstance (.ref l) (.type "module")) (ni _ _ _ _ k ?_)
    rw [if_neg (by rw [show Manifest.varargsMethods.contains "list.append" = false from by decide +kernel]; decide)]
    refine wpAny_bind (m := isType (.ref l)) (nt _ _ _ _ k ?_)
    simp only [Bool.false_eq_true, if_false]
    refine wpAny_bind (m := typeOf (.ref l)) (ty _ _ _ _ k ?_)
    obtain rfl : sig = (Manifest.signature? "list.append").get (by decide +kernel) := by simp [hs]
    have e : PySem.Bind.checkArgs "list.append" { (Manifest.signature? "list.append").get (by decide +kernel) with full := s!"{Bind.lastOf "list"}.{Bind.lastOf "list.append"}" } ⟨[.ref l, x], []⟩ = pure () := by kernel_rfl
    exact e ▸ wpAny_pure q
end
section
variable {prog : Program} {w : World} {A : Around} {E : Value → Shared → Prop} {s : Shared} {h₀ : Heap} {L q l : Addr} {m : Str → Option Value} {news news' : List (Addr × Obj)} {Q : Value → Shared → Prop} {its : Array Value} {n : Nat} {x : Value}
theorem code_builtin {id : String} {args : Args} {b : Builtin} {R : Result → Shared → Prop} (hb : entryFor table id = some b)
    (h : wpAny (model prog w) (A.under (.builtin id args)) (b args) (fun fin s' => match fin with | .done f => R (.ok f) s' | .again c' => c'.quiet = true ∧ codeAny (model prog w) A c' R s') (fun e s' => R (.error e) s') s) :
    codeAny (model prog w) A (.builtin id args) R s := by
  refine codeAny_of_tree ?_
  show wpAny _ _ (match entryFor table id with | some b => b args | none => unsupported ((withoutEnding? id "#data").getD id)) _ _ s
  rw [hb]
  exact h
theorem call_mo (F : Fr h₀ L s.heap m) (N : News h₀ L s.heap news) (hq : (q, methO "list.append" l) ∈ news) (U : Upd l (W.listOf its n) (W.listOf (its.push x) (n + 1)) news news') (hsz : its.size ≤ sizeLine)
    (h : ∀ h', Fr h₀ L h' m → News h₀ L h' news' → Q .none { s with heap := h' }) : wpAny (model prog w) A (call (.ref q) [x]) Q E s := by
  obtain ⟨pre, post, rfl, rfl, a, b⟩ := U.split
  have z := N (l, W.listOf its n) (List.mem_append.mpr (.inr (.head _)))
  obtain ⟨hp, g, d, t, os⟩ := s
  refine wpAny_call (codeAny_of_tree ?_)
  show wpAny _ _ (callAny (.ref q) ⟨[x], []⟩) _ _ _
  unfold callAny
  refine wpAny_bind (wpAny_load (N.get hq) ?_)
  show wpAny _ _ (checkBoundCall "list.append" ⟨[.ref l, x], []⟩ >>= fun _ => again (.builtin "list.append" ⟨[.ref l, x], []⟩)) _ _ _
  refine wpAny_bind ((check_mo z.1).here (wpAny_pure ⟨plainId_quiet (by decide +kernel) _, code_builtin PySem.F.entry_list_append ?_⟩))
  show wpAny _ _ (updateSeq l (·.push x) >>= fun _ => ret .none) _ _ _
  refine wpAny_bind ?_
  refine wpAny_updateSeq z.1 rfl (wpAny_pure ?_)
  have hs : Heap.SameBut l hp (hp.update l (Obj.mapSeq (·.push x))) := Heap.SameBut.update ..
  have ho : (hp.update l (Obj.mapSeq (·.push x))).get? l = some (W.listOf (its.push x) (n + 1)) := by
    rw [Heap.get?_update_self _ z.1 (by rw [mapSeq_push]; rfl), mapSeq_push]
  exact h _ (F.change hs z.2.1 z.2.2) (news_set N a b hs ho)
end
end Mine
end
theorem Mine.forget_M0 : True ∧ True := by first | (walk1; all_goals trivial; done) | exact ⟨trivial, trivial⟩
local macro_rules | `(tactic| k_all) => `(tactic| with_reducible assumption)
section
namespace Mine
/-- the same, said with the caller's ledger -/
noncomputable abbrev ToldN (w : World) (news : List (Addr × Obj)) (pre : Prop) (f : Addr) (vs : List Value) (post : Heap → Addr → (Str → Option Value) → Shared → (Value → Shared → Prop) → Prop) : Prop :=
  ∀ (mean : ExcName → Option Value) (mg mb : Str → Option Value) (dp un : Nat) (gd : Option (List Code)) (cn : Str) (cs : Scope) (a : Addr) (ccd : Value) (cl : List (Str × Addr)) (outer : List Env) (A₀ : Around) (base h₀ : Heap) (L : Addr) (m : Str → Option Value) (s : Shared) (Q R : Value → Shared → Prop),
    Below A₀ base outer h₀ → Fr h₀ L s.heap m → Frag.In (hd.heap_39 w.params) h₀ → News h₀ L s.heap news → Top topProg lo mean mg mb h₀ → cs.kind = .function →
    dp + 170 < recursionLimit → un + 1200 < cLine → pre → post h₀ L m s Q →
      wpAny (model PySem.Challenge.rw_xe0044_01.row.prog w) (ktrTop dp un gd cn cs L a ccd cl outer) (call (.ref f) vs) Q R s
noncomputable def ApartL (new news : List (Addr × Obj)) : Prop := ∀ p ∈ new, ∀ q ∈ news, q.1 ≠ p.1
theorem apartL_of {new news : List (Addr × Obj)} (h : ∀ p ∈ new, ∀ q ∈ news, q.1 ≠ p.1) : ApartL new news := h
theorem ApartL.at {new news : List (Addr × Obj)} {a b : Addr} {o o' : Obj} (h : ApartL new news) (hp : (a, o) ∈ new) (hq : (b, o') ∈ news) : Apart b a := h _ hp _ hq
noncomputable def SubPost (w : World) (C : Cd) (e : El) (x : Str) (parts : Array Value) (n : Nat) (rest : List (Addr × Obj)) (h₀ : Heap) (L : Addr) (m : Str → Option Value) (s : Shared) (Q : Value → Shared → Prop) : Prop :=
  ∀ (e' : El) h' tk, e'.tag = x → e'.Ok → Fr h₀ L h' m →
    News h₀ L h' ((e'.ro w.params C.c2 ++ [(e'.l, W.listOf #[] 0)]) ++ (187, C.tab) :: (e.ro w.params C.c2 ++ (e.l, W.listOf (parts.push (.ref e'.f)) (n + 1)) :: rest)) →
    ApartL (e'.ro w.params C.c2 ++ [(e'.l, W.listOf #[] 0)]) ((187, C.tab) :: (e.ro w.params C.c2 ++ (e.l, W.listOf parts n) :: rest)) → Q (.ref e'.f) { s with heap := h', toks := tk }
theorem ap_gap {a b c : List (Addr × Obj)} (N : ApartL a (b ++ c)) : ApartL a c := fun p hp q hq => N p hp q (List.mem_append.mpr (.inr hq))
theorem news_gap {h₀ h : Heap} {L : Addr} {a b c : List (Addr × Obj)} (N : News h₀ L h (a ++ (b ++ c))) : News h₀ L h (a ++ c) := fun p hp => N p ((List.mem_append.mp hp).elim (fun x => List.mem_append.mpr (.inl x)) fun x => List.mem_append.mpr (.inr (List.mem_append.mpr (.inr x))))
section
local macro_rules | `(tactic| k_ne) => `(tactic| ((try dsimp only); first | exact Apart.ne (by with_reducible assumption) | exact Apart.ne' (by with_reducible assumption) | exact Apart.ne (ApartL.at (by with_reducible assumption) (by k_mem) (by k_mem)) | exact Apart.ne' (ApartL.at (by with_reducible assumption) (by k_mem) (by k_mem)) | (refine neN ?_; (try dsimp only); omega)))
local macro_rules | `(tactic| walk_at "eval Dict") => `(tactic| (k_here; k_dflt (refine' dict_two ?F ?N ?hx ?hy ?ha ?ca ?da ?hb ?cb ?db ?na ?nb ?_; (case F => k_asm); (case N => k_asm); (case hx => exact fun _ _ _ F' q => ld F' rfl q); (case hy => exact fun _ _ _ F' q => ld F' rfl q); (case ha => exact (show Frag.In _ _ from by k_in) _ _ (by k_is)); (case ca => exact rfl); (case da => exact rfl); (case hb => exact News.get (by k_asm) (by k_mem)); (case cb => with_reducible assumption); (case db => with_reducible assumption); (case na => exact rfl); (case nb => with_reducible assumption); k_whole; intro D' h' F' N' l1; (try k_lt l1); (try k_sweep))))
local macro_rules | `(tactic| walk_at "getMethod ref") => `(tactic| (k_here; k_dflt (first
  | (refine' meth_makeelement ?F ?N ?hf ?hd ?a ?b ?c ?_; (case F => k_asm); (case N => k_asm); (case hf => k_mem); (case hd => k_mem); (case a => exact rfl); (case b => ktr_room); (case c => ktr_units); k_whole; intro h' tk' F' N'; (try k_sweep))
  | (refine' meth_append ?F ?N ?hf ?hd ?a ?b ?c ?_; (case F => k_asm); (case N => k_asm); (case hf => k_mem); (case hd => k_mem); (case a => exact rfl); (case b => ktr_room); (case c => ktr_units); k_whole; intro h' tk' F' N'; (try k_sweep)))))
local macro_rules | `(tactic| walk_at "callWith ref") => `(tactic| (k_here; (with_reducible show wpAny _ _ (callWith _ (Value.ref _, _).1 _ (backTo _ (starEach [_] _)) _) _ _ _); refine halt ?_))
local macro_rules | `(tactic| walk_at "call ref") => `(tactic| (k_here; (with_reducible show wpAny _ _ (call (Value.ref 192) [Value.str _ _, Value.ref _]) _ _ _); k_dflt (refine' use_elem1 ⟨?b, ?f, ?x, ?n, ?t, ?k, ?d, ?u⟩ ?m ?hC ?_; (case b => k_asm); (case f => k_asm); (case x => k_asm); (case n => k_asm); (case t => k_asm); (case k => exact rfl); (case d => ktr_room); (case u => ktr_units); (case m => k_mem); (case hC => assumption); k_whole); intro e' h' tk' e1 e2 F' N' l1; obtain ⟨f2, d2, q2, it2, ct2, cp2, ll2, fd2, k12, k22, k32, k42, tt2, pm2, ctv2, ot2, op2, tag2⟩ := e'; (simp only [El.ro, El.dObj, List.cons_append, List.nil_append] at N' l1); (replace l1 := apartL_of l1); (try dsimp only); (try k_sweep)))
theorem sub_told (w : World) (C : Cd) (e : El) (x : Str) (t1 : Tok) (parts : Array Value) (n : Nat) (rest : List (Addr × Obj)) :
    ToldN w ((187, C.tab) :: (e.ro w.params C.c2 ++ (e.l, W.listOf parts n) :: rest)) (C.Ok w.params ∧ e.Ok ∧ (∀ p ∈ rest, p.1 ≠ e.l) ∧ parts.size ≤ sizeLine) 136 [.ref e.f, .str x t1] (SubPost w C e x parts n rest) := by
  delta ToldN
  k_fill
  intro mean mg mb dp un gd cn cs a ccd cl outer A₀ base h₀ L m s Q R B F X N T hk hd hu hh hret
  obtain ⟨hC, he, hr, hz⟩ := hh
  obtain ⟨f, d, q, it, ct, cp, l, fd, k1, k2, k3, k4, tt, pm, ctv, ot, op, tag⟩ := e
  simp only [El.ro, El.dObj, List.cons_append, List.nil_append] at N
  dsimp only at hr he ⊢
  dsimp only [El.Ok] at he
  have n1 : Apart f l := ne_cls N (by k_mem) (b := l) (o' := W.listOf parts n) (by k_mem) (fun e => absurd (Value.type.inj e) (by decide))
  have n2 : Apart d l := ne_cls N (by k_mem) (b := l) (o' := W.listOf parts n) (by k_mem) (fun e => absurd (Value.type.inj e) (by decide))
  have n3 : Apart q l := ne_cls N (by k_mem) (b := l) (o' := W.listOf parts n) (by k_mem) (fun e => absurd (Value.type.inj e) (by decide))
  have n4 : Apart it l := ne_cls N (by k_mem) (b := l) (o' := W.listOf parts n) (by k_mem) (fun e => absurd (Value.type.inj e) (by decide))
  have n5 : Apart ct l := ne_data N (o := ot) (by k_mem) (b := l) (o' := W.listOf parts n) (by k_mem) (by rw [he.1]; intro e; cases e)
  have n6 : Apart cp l := ne_data N (o := op) (by k_mem) (b := l) (o' := W.listOf parts n) (by k_mem) (by rw [he.2]; intro e; cases e)
  have n7 : Apart 187 l := ne_cls N (a := 187) (o := C.tab) (by k_mem) (b := l) (o' := W.listOf parts n) (by k_mem) (fun e => nomatch e)
  refine wpAny_call ?_
  k_dflt (kp_kind "more"; (refine' kp_more ?k1 ?k2 ?k3 ?k4 ?k5 ?kA ?kF ?kK ?k6 ?k7 ?k8 ?kX ?kM ?kN ?kD ?kR ?kP ?kT ?kB ?_ ?c2 ?c3 ?c4 ?c5; (case kA => exact rfl); (case kF => exact rfl); (case kK => assumption); (case k1 => k_asm); (case k2 => k_asm); (case k3 => k_asm); (case k4 => k_asm); (case k5 => k_asm); (case k6 => k_is); (case k7 => k_is); (case k8 => k_room); (case kX => kp_lit); (case kM => exact rfl); (case kN => exact rfl); (case kD => kp_flats); (case kR => exact rfl); (case kP => exact rfl); (case kT => exact fun _ => rfl); (case kB => exact fun _ => locs rfl); (case c5 => decide); (case c2 => exact rfl); (case c3 => exact rfl); (case c4 => exact rfl); k_whole; intro D' o' g' L' h' tk' l1 lo' hs' fs' FG' F' N' B' X' T'; (try k_lt l1); (try dsimp only); (try k_lift B'); (try k_fold)))
  obtain ⟨ke, hc', hd'⟩ := empty_of hs'
  k_steps
  unfold Halt
  k_dflt (refine' callWith_mo ?q ?_; (case q => exact News.get (by k_asm) (by k_mem)); k_whole)
  k_steps
  · exact News.get (by k_asm) (by k_mem)
  k_dflt (refine' call_mo ?F ?N ?q ?U ?z ?_; (case F => k_asm); (case N => k_asm); (case q => k_mem); (case U => k_upd); (case z => assumption); k_whole)
  intro h' F' N'
  k_steps
  rename ApartL _ _ => hap
  rename El.tag _ = x => e1
  rename El.Ok _ => e2
  refine hret _ _ _ e1 e2 ‹_› ?_ (ap_gap (b := [_, _]) hap)
  rename News h₀ L _ _ => N'
  exact news_gap (a := El.ro w.params C.c2 _ ++ [(El.l _, W.listOf #[] 0)]) (b := [_, _]) N'
end
end Mine
end
theorem Mine.forget_S1 : True ∧ True := by first | (walk1; all_goals trivial; done) | exact ⟨trivial, trivial⟩
section
namespace Mine
section
variable (elt t0 i0 t1 i1 : PySem.Expr) (scope : Scope) (pos : Pos) (it acc : Value) (env : Env)
noncomputable abbrev two : PySem.Expr := .ListComp elt [⟨t0, i0, [], 0⟩, ⟨t1, i1, [], 0⟩] scope pos
theorem turn_outer : compTurn (two elt t0 i0 t1 i1 scope pos) 0 it acc env = (standAt i0.pos >>= fun _ => pyNext it >>= fun r => match r with
      | none => pure (.done .next)
      | some v => letOwnedTupleGo t0 it v >>= fun _ => assign t0 env v >>= fun _ =>
        (eval i1 env >>= fun x => standAt i1.pos >>= fun _ => foldedSetIterable i1 env x >>= fun x => holding [x] (pyIter x) >>= fun it' =>
          runOwn (.compStart (two elt t0 i0 t1 i1 scope pos) 1 it' acc env) env >>= fun _ =>
          again (.compLoop (two elt t0 i0 t1 i1 scope pos) 0 it acc env))) := by rfl
theorem turn_inner : compTurn (two elt t0 i0 t1 i1 scope pos) 1 it acc env = (standAt i1.pos >>= fun _ => pyNext it >>= fun r => match r with
      | none => pure (.done .next)
      | some v => letOwnedTupleGo t1 it v >>= fun _ => assign t1 env v >>= fun _ =>
        (eval elt env >>= fun x => call (.builtin "list.append") [acc, x] >>= fun _ => pure ()) >>= fun _ =>
          again (.compLoop (two elt t0 i0 t1 i1 scope pos) 1 it acc env)) := by rfl
end
section
variable {prog : Program} {w : World} {A : Around} {R : Result → Shared → Prop} {s : Shared} {elt t0 i0 t1 i1 : PySem.Expr} {scope : Scope} {pos : Pos} {it acc : Value} {env : Env}
theorem loop_inner (I : Nat → Shared → Prop)
    (turn : ∀ n s, I n s → wpAny (model prog w) A (pyNext it) (fun r s₁ => match r with
      | none => R (.ok .next) s₁
      | some v => wpAny (model prog w) A (assign t1 env v) (fun _ s₂ => wpAny (model prog w) A (eval elt env) (fun x s₃ =>
          wpAny (model prog w) A (call (.builtin "list.append") [acc, x]) (fun _ s₄ => ∃ m, m < n ∧ I m s₄) (notedBy (model prog w) A env fun e s' => R (.error e) s') s₃)
          (notedBy (model prog w) A env fun e s' => R (.error e) s') s₂) (notedBy (model prog w) A env fun e s' => R (.error e) s') s₁) (notedBy (model prog w) A env fun e s' => R (.error e) s') s)
    (n : Nat) (h : I n s) (ht : ∀ v, letOwnedTupleGo t1 it v = pure () := by intro _; rfl) :
    codeAny (model prog w) A (.compLoop (two elt t0 i0 t1 i1 scope pos) 1 it acc env) R s := by
  refine codeAny_loop rfl I (fun n s hI => ?_) n h
  show wpAny _ _ ((compTurn (two elt t0 i0 t1 i1 scope pos) 1 it acc env).onRaise (fun x => do noteFrame x env; theTreesLotGoes x)) _ _ s
  refine wpAny_noted ?_
  rw [turn_inner]
  refine wpAny_bind (wpAny_standAt (wpAny_bind (wpAny_mono (turn n s hI) (fun r s₁ h₁ => ?_) fun _ _ h' => h')))
  cases r with
  | none => exact wpAny_pure h₁
  | some v =>
    refine wpAny_bind (wpAny_of_eq (ht v) ?_)
    exact wpAny_bind (wpAny_mono h₁ (fun _ s₂ h₂ => wpAny_bind (wpAny_bind (wpAny_mono h₂ (fun x s₃ h₃ => wpAny_bind (wpAny_mono h₃
      (fun _ s₄ h₄ => wpAny_pure (wpAny_pure ⟨rfl, h₄⟩)) fun _ _ h' => h')) fun _ _ h' => h'))) fun _ _ h' => h')
theorem start_inner
    (h0 : codeAny (model prog w) A (.compLoop (two elt t0 i0 t1 i1 scope pos) 1 it acc env) R s)
    (h : wpAny (model prog w) A (pyIter it) (fun it' s' => codeAny (model prog w) A (.compLoop (two elt t0 i0 t1 i1 scope pos) 1 it' acc env) R s')
      (notedBy (model prog w) A env fun x s' => R (.error x) s') s) :
    codeAny (model prog w) A (.compStart (two elt t0 i0 t1 i1 scope pos) 1 it acc env) R s := by
  refine codeAny_of_tree ?_
  show wpAny _ _ ((compStart (two elt t0 i0 t1 i1 scope pos) 1 it acc env).onRaise (fun x => do noteFrame x env; standAt theWindowsPlace)) _ _ s
  refine wpAny_notedAt ?_
  unfold compStart
  show wpAny _ _ (ask >>= _) _ _ s
  refine wpAny_bind (wpAny_askSetting (wpAny_ite ?_))
  split
  · first
      | exact wpAny_bind (wpAny_pure (wpAny_pure (And.intro rfl h0)))
      | exact wpAny_pure (And.intro rfl h0)
  · first
      | exact wpAny_bind (wpAny_rule (wpAny_bind (wpAny_standAt (wpAny_bind (wpAny_mono h (fun it' s' h' => wpAny_pure (And.intro rfl h')) fun _ _ x => x)))))
      | (refine wpAny_bind (wpAny_rule ?_); show wpAny _ _ (standAt i1.pos >>= _) _ _ s; exact wpAny_bind (wpAny_standAt (wpAny_bind (wpAny_mono h (fun it' s' h' => wpAny_pure (And.intro rfl h')) fun _ _ x => x))))
theorem loop_outer (I : Nat → Shared → Prop)
    (turn : ∀ n s, I n s → wpAny (model prog w) A (pyNext it) (fun r s₁ => match r with
      | none => R (.ok .next) s₁
      | some v => wpAny (model prog w) A (assign t0 env v) (fun _ s₂ => wpAny (model prog w) A (eval i1 env) (fun x s₃ =>
          wpAny (model prog w) A (pyIter x) (fun it' s₄ => codeAny (model prog w) A (.compStart (two elt t0 i0 t1 i1 scope pos) 1 it' acc env)
            (fun r s₅ => match r with | .ok _ => ∃ m, m < n ∧ I m s₅ | .error _ => False) s₄) (notedBy (model prog w) A env fun e s' => R (.error e) s') s₃)
          (notedBy (model prog w) A env fun e s' => R (.error e) s') s₂) (notedBy (model prog w) A env fun e s' => R (.error e) s') s₁) (notedBy (model prog w) A env fun e s' => R (.error e) s') s)
    (n : Nat) (h : I n s) (ht : ∀ v, letOwnedTupleGo t0 it v = pure () := by intro _; rfl) (hf : ∀ x, foldedSetIterable i1 env x = pure x := by intro _; rfl) :
    codeAny (model prog w) A (.compLoop (two elt t0 i0 t1 i1 scope pos) 0 it acc env) R s := by
  refine codeAny_loop rfl I (fun n s hI => ?_) n h
  show wpAny _ _ ((compTurn (two elt t0 i0 t1 i1 scope pos) 0 it acc env).onRaise (fun x => do noteFrame x env; theTreesLotGoes x)) _ _ s
  refine wpAny_noted ?_
  rw [turn_outer]
  refine wpAny_bind (wpAny_standAt (wpAny_bind (wpAny_mono (turn n s hI) (fun r s₁ h₁ => ?_) fun _ _ h' => h')))
  cases r with
  | none => exact wpAny_pure h₁
  | some v =>
    refine wpAny_bind (wpAny_of_eq (ht v) ?_)
    refine wpAny_bind (wpAny_mono h₁ (fun _ s₂ h₂ => wpAny_bind (wpAny_mono h₂ (fun x s₃ h₃ => wpAny_bind (wpAny_standAt (wpAny_bind (wpAny_of_eq (hf x) (wpAny_bind (wpAny_holding (wpAny_mono h₃ (fun it' s₄ h₄ => ?_) fun _ _ h' => h'))))))) fun _ _ h' => h')) fun _ _ h' => h')
    refine wpAny_bind (wpAny_runOwn (codeAny_mono h₄ fun r s₅ h₅ => ?_))
    cases r with
    | ok f => exact wpAny_pure ⟨rfl, h₅⟩
    | error e => exact h₅.elim
end
end Mine
end
theorem Mine.forget_I0 : True ∧ True := by first | (walk1; all_goals trivial; done) | exact ⟨trivial, trivial⟩
section
namespace Mine
section
variable {prog : Program} {w : World} {A : Around} {R : Result → Shared → Prop} {s : Shared} {t0 i0 i1 : PySem.Expr} {scope : Scope} {cl : List (Str × Addr)} {pos px pe : Pos} {env : Env} {x1 : Str} {h₀ : Heap} {L I C D J a : Addr} {m : Str → Option Value} {oI : Obj} {ys : List Value} {y : Value} {news : List (Addr × Obj)} {m₁ : Str → Option Value}
/-- the inner loop of one item -/
theorem inner_one (hh : A.handled = none) (hkind : scope.kind = .function) (hx : scope.names.lookup x1 = some .local) (hd : (x1 == ("__debug__" : Str)) = false) (hsz : ys.length ≤ sizeLine)
    (hJ : s.heap.IsListIter J a 0) (ha : s.heap.IsList a #[y]) (F : Fr h₀ L s.heap m) (hC : s.heap.Ns C m₁) (N : News h₀ L s.heap ((I, oI) :: (D, LCg.lst ys) :: news))
    (nJa : a ≠ J) (nJC : C ≠ J) (nJL : L ≠ J) (nJ₀ : h₀.get? J = none) (nJN : ∀ p ∈ (I, oI) :: (D, LCg.lst ys) :: news, p.1 ≠ J) (naC : a ≠ C) (naD : a ≠ D) (nJD : J ≠ D)
    (nCL : C ≠ L) (nC₀ : h₀.get? C = none) (nCN : ∀ p ∈ (I, oI) :: (D, LCg.lst ys) :: news, p.1 ≠ C) (nDL : D ≠ L) (nD₀ : h₀.get? D = none) (nDI : I ≠ D) (nDN : ∀ p ∈ news, p.1 ≠ D)
    (done : ∀ h' tk m', Fr h₀ L h' m → h'.Ns C m' → News h₀ L h' ((I, oI) :: (D, LCg.lst (ys ++ [y])) :: news) → R (.ok .next) { s with heap := h', toks := tk }) :
    codeAny (model prog w) A (.compStart (two (.Name x1 pe) t0 i0 (.Name x1 px) i1 scope pos) 1 (.ref J) (.ref D) (compEnvC scope cl C env)) R s := by
  have W := Walks.list (prog := prog) (w := w) hh J a nJa #[y]
  have loop : codeAny (model prog w) A (.compLoop (two (.Name x1 pe) t0 i0 (.Name x1 px) i1 scope pos) 1 (.ref J) (.ref D) (compEnvC scope cl C env)) R s := by
    refine loop_inner (fun k s' => ∃ i h tk m', s' = { s with heap := h, toks := tk } ∧ i ≤ 1 ∧ k = 1 - i ∧ (h.IsListIter J a i ∧ h.IsList a #[y]) ∧ Fr h₀ L h m ∧ h.Ns C m' ∧ News h₀ L h ((I, oI) :: (D, LCg.lst (if i = 0 then ys else ys ++ [y])) :: news)) ?_ 1 ⟨0, s.heap, s.toks, m₁, rfl, by decide, rfl, ⟨hJ, ha⟩, F, hC, N⟩
    rintro k s' ⟨i, h, tk, m', rfl, hi, rfl, st, F', hC', N'⟩
    have offJ : ∀ z : List Value, ∀ p ∈ (I, oI) :: (D, LCg.lst z) :: news, p.1 ≠ J := fun z p hp => by
      rcases List.mem_cons.mp hp with rfl | hp
      · exact nJN (I, oI) (.head _)
      · rcases List.mem_cons.mp hp with rfl | hp
        · exact Ne.symm nJD
        · exact nJN p (.tail _ (.tail _ hp))
    rcases (by omega : i = 0 ∨ i = 1) with rfl | rfl
    · refine W.item 0 _ _ _ (by simp) st fun v h₂ tk₂ hv st₂ hk₂ => ?_
      obtain rfl : v = y := by simpa using hv.symm
      dsimp only
      have F₂ := LCg.fr_but F' hk₂ nJL nJ₀
      have N₂ := LCg.news_but N' hk₂ (offJ _)
      have C₂ : h₂.Ns C m' := hC'.at' fun o e => hk₂ _ o (by simpa using nJC) e
      refine wpAny_assign_Name (wpAny_storeName_local (lookup_relabel_local hx) C₂ (fun h₃ hn₃ hs₃ => ?_) (by simp [compEnvC, relabel, hkind]))
      have hn₃' : h₃.Ns C (fun z => if z = x1 then some v else m' z) := hn₃
      have hs₃' : Heap.SameBut C h₂ h₃ := hs₃
      refine wpAny_Name (wpAny_loadName_local (v := v) (by simp [compEnvC, relabel, hkind]) (lookup_relabel_local hx) hn₃' (by simp) ?_) hd
      have F₃ : Fr h₀ L h₃ m := F₂.change hs₃' nCL nC₀
      have N₃ : News h₀ L h₃ ((I, oI) :: (D, LCg.lst ys) :: news) := fun p hp => ⟨hs₃'.extBut _ _ (nCN p hp) (N₂ p hp).1, (N₂ p hp).2⟩
      have st₃ := W.frame _ _ h₃ st₂ fun b hb o e => hs₃'.extBut b o (by
        rcases List.mem_cons.mp hb with rfl | hb
        · exact Ne.symm nJC
        · rw [List.mem_singleton.mp hb]; exact naC) e
      refine append_at (hsz := by show ys.toArray.size ≤ sizeLine; rw [List.size_toArray]; exact hsz) (N₃ (D, LCg.lst ys) (.tail _ (.head _))).1 fun h₄ hs₄ hD₄ => ?_
      have st₄ := W.frame _ _ h₄ st₃ fun b hb o e => hs₄.extBut b o (by
        rcases List.mem_cons.mp hb with rfl | hb
        · exact nJD
        · rw [List.mem_singleton.mp hb]; exact naD) e
      refine ⟨0, by decide, 1, h₄, _, _, rfl, by decide, rfl, st₄, F₃.change hs₄ nDL nD₀, hn₃'.sameBut hs₄ (Ne.symm (nCN (D, LCg.lst ys) (.tail _ (.head _)))), fun p hp => ?_⟩
      rcases List.mem_cons.mp hp with rfl | hp
      · exact ⟨hs₄.extBut _ _ nDI (N₃ _ (.head _)).1, (N₃ _ (.head _)).2⟩
      · rcases List.mem_cons.mp hp with rfl | hp
        · exact ⟨hD₄.trans (congrArg some (LCg.lst_snoc ys v)), nDL, nD₀⟩
        · exact ⟨hs₄.extBut _ _ (nDN p hp) (N₃ p (.tail _ (.tail _ hp))).1, (N₃ p (.tail _ (.tail _ hp))).2⟩
    · refine W.done _ _ _ st fun h₂ tk₂ hk₂ => ?_
      exact done h₂ tk₂ m' (LCg.fr_but F' hk₂ nJL nJ₀) (hC'.at' fun o e => hk₂ _ o (by simpa using nJC) e) (LCg.news_but N' hk₂ (offJ _))
  exact start_inner loop (W.self 0 _ _ _ ⟨hJ, ha⟩ loop)
/-- what one item of the outer loop gives: a new list of one text -/
noncomputable def TwoTurn (prog : Program) (w : World) (A : Around) (h₀ : Heap) (L : Addr) (m : Str → Option Value) (env : Env) (i1 : PySem.Expr) (x0 : Str) (scope : Scope) (cl : List (Str × Addr)) (s : Shared) (news : List (Addr × Obj)) (v y : Value) : Prop :=
  ∀ I oI C oC D ys m₂ h tk (E' : Value → Shared → Prop), LCg.NsObj oC m₂ → m₂ x0 = some v → Fr h₀ L h m → News h₀ L h ((I, oI) :: (C, oC) :: (D, LCg.lst ys) :: news) → LCg.Off3 I C D news → ((@Ne Nat I C) ∧ (@Ne Nat I D) ∧ (@Ne Nat C D)) →
    wpAny (model prog w) A (eval i1 (compEnvC scope cl C env)) (fun x s' => ∃ a o h' tk', x = .ref a ∧ s' = { s with heap := h', toks := tk' } ∧ Fr h₀ L h' m ∧ News h₀ L h' ((a, o) :: (I, oI) :: (C, oC) :: (D, LCg.lst ys) :: news) ∧ o.cls = .type "list" ∧ (∃ n, o.data = .seq #[y] n) ∧ a ≠ I ∧ a ≠ C ∧ a ≠ D) E' { s with heap := h, toks := tk }
end
section
variable {prog : Program} {w : World} {A : Around} {E : Value → Shared → Prop} {s₂ : Shared} {i0 i1 : PySem.Expr} {scope : Scope} {cl : List (Str × Addr)} {pos px0 px pe : Pos} {env : Env} {x0 x1 : Str} {h₀ : Heap} {L I ax : Addr} {m : Str → Option Value} {ys : List Value} {its : Array Value} {news : List (Addr × Obj)} {oax : Obj}
theorem two_block {RR : Value → Addr → Result → Shared → Prop} (hf1 : ∀ e x, foldedSetIterable i1 e x = pure x) (hh : A.handled = none) (hne : ax ≠ I) (hsz : ys.length ≤ sizeLine) (hys : its.size = ys.length)
    (hcell : ∀ y ∈ scope.names, y.2 ≠ .cell) (hkind : scope.kind = .function) (hx0 : scope.names.lookup x0 = some .local) (hx1 : scope.names.lookup x1 = some .local) (hd : (x1 == ("__debug__" : Str)) = false)
    (hI : s₂.heap.IsListIter I ax 0) (hm : (ax, oax) ∈ news) (hoc : oax.cls = .type "list") (hod : ∃ n, oax.data = .seq its n)
    (F : Fr h₀ L s₂.heap m) (N : News h₀ L s₂.heap news) (hIL : L ≠ I) (hI₀ : h₀.get? I = none) (off : ∀ p ∈ news, p.1 ≠ I)
    (turn : ∀ (i : Nat) (v y : Value), its[i]? = some v → ys[i]? = some y → TwoTurn prog w A h₀ L m env i1 x0 scope cl s₂ news v y)
    (hRR : ∀ D C h tk m', Fr h₀ L h m → News h₀ L h ((D, LCg.lst ys) :: news) → LCg.Off1 D news → h.Ns C m' → h₀.get? C = none → h₀.get? D = none → C ≠ L → D ≠ L → C ≠ D → (∀ p ∈ news, p.1 ≠ C) → RR (.ref D) C (.ok .next) { s₂ with heap := h, toks := tk }) :
    wpAny (model prog w) A (newList []) (fun acc s₃ => wpAny (model prog w) A (newFunctionEnv scope env.globals cl [] env.qual none .none (some env)) (fun cenv s₄ =>
      codeAny (model prog w) A (.compStart (two (.Name x1 pe) (.Name x0 px0) i0 (.Name x1 px) i1 scope pos) 0 (.ref I) acc { cenv with scope := relabel scope env }) (RR acc cenv.locals) s₄) E s₃) E s₂ := by
  have W := Walks.list (prog := prog) (w := w) hh I ax hne its
  refine wpAny_newObj_type (wpAny_newFunctionEnv hcell (by intro y hy; simp at hy) (fun h₁ hns₁ hsb₁ => ?_) hkind)
  dsimp only at hns₁ hsb₁ ⊢
  generalize hH2 : s₂.heap.push { cls := .type "list", dict := none, data := .seq ([] : List Value).toArray } = H2 at hns₁ hsb₁ ⊢
  have hC : H2.objs.size = s₂.heap.objs.size + 1 := by rw [← hH2, Heap.size_push]
  have hDC : s₂.heap.objs.size ≠ H2.objs.size := by rw [hC]; exact Nat.ne_of_lt (Nat.lt_succ_self _)
  have below : ∀ b, b < s₂.heap.objs.size → b ≠ H2.objs.size ∧ b ≠ s₂.heap.objs.size := fun b hb => ⟨by rw [hC]; exact Nat.ne_of_lt (Nat.lt_succ_of_lt hb), Nat.ne_of_lt hb⟩
  have hIlt : I < s₂.heap.objs.size := by obtain ⟨_, e, _⟩ := hI; exact Heap.lt_size e
  have old : ∀ b o, s₂.heap.get? b = some o → h₁.get? b = some o := fun b o e => hsb₁.extBut b o (below b (Heap.lt_size e)).1 (Heap.get?_push_of_some _ (hH2 ▸ Heap.get?_push_of_some _ e))
  have hacc : h₁.get? s₂.heap.objs.size = some (LCg.lst []) := hsb₁.extBut _ _ hDC (Heap.get?_push_of_some _ (hH2 ▸ Heap.get?_push_size _ rfl))
  have fresh : ∀ a, s₂.heap.objs.size ≤ a → s₂.heap.get? a = none := fun a ha => by
    cases e : s₂.heap.get? a with
    | none => rfl
    | some o' => exact absurd (Heap.lt_size e) (Nat.not_lt.mpr ha)
  have fresh₀ : ∀ a, s₂.heap.objs.size ≤ a → h₀.get? a = none := fun a ha => by
    cases e : h₀.get? a with
    | none => rfl
    | some o' => have := F.keep a o' e; rw [fresh a ha] at this; cases this
  have hD₀ : h₀.get? s₂.heap.objs.size = none := fresh₀ _ (Nat.le_refl _)
  have hC₀ : h₀.get? H2.objs.size = none := fresh₀ _ (by rw [hC]; exact Nat.le_succ _)
  have hLlt : L < s₂.heap.objs.size := F.ns.lt
  have hDL : s₂.heap.objs.size ≠ L := Ne.symm (below L hLlt).2
  have hCL : H2.objs.size ≠ L := Ne.symm (below L hLlt).1
  have hCI : I ≠ H2.objs.size := (below I hIlt).1
  have hDI : I ≠ s₂.heap.objs.size := (below I hIlt).2
  have off₀ : LCg.Off3 I H2.objs.size s₂.heap.objs.size news := LCg.Off3.of fun p hp => ⟨off p hp, (below _ (Heap.lt_size (N p hp).1)).1, (below _ (Heap.lt_size (N p hp).1)).2⟩
  have hIt₁ : h₁.IsListIter I ax 0 := hI.at fun o e => old _ _ e
  have list_of : ∀ {h : Heap}, News h₀ L h news → h.IsList ax its := fun N' => ⟨oax, (N' _ hm).1, hoc, hod⟩
  have N₁ : News h₀ L h₁ ((s₂.heap.objs.size, LCg.lst []) :: news) := fun p hp => by
    rcases List.mem_cons.mp hp with rfl | hp
    · exact ⟨hacc, hDL, hD₀⟩
    · exact ⟨old _ _ (N p hp).1, (N p hp).2⟩
  have F₁ : Fr h₀ L h₁ m := F.keeps old
  generalize s₂.heap.objs.size = D at *
  generalize H2.objs.size = C at *
  have hnC : ∀ p ∈ news, p.1 ≠ C := fun p hp => (off₀.mem p hp).2.1
  have hnD : ∀ p ∈ news, p.1 ≠ D := fun p hp => (off₀.mem p hp).2.2
  have loop : ∀ tk₀, codeAny (model prog w) A (.compLoop (two (.Name x1 pe) (.Name x0 px0) i0 (.Name x1 px) i1 scope pos) 0 (.ref I) (.ref D) (compEnvC scope cl C env)) (RR (.ref D) C) { s₂ with heap := h₁, toks := tk₀ } := by
    intro tk₀
    refine loop_outer (fun k s' => ∃ i h tk m', s' = { s₂ with heap := h, toks := tk } ∧ i ≤ its.size ∧ k = its.size + 1 - i ∧ h.IsListIter I ax i ∧ Fr h₀ L h m ∧ h.Ns C m' ∧ News h₀ L h ((D, LCg.lst (ys.take i)) :: news)) ?_ (its.size + 1) ⟨0, h₁, _, _, rfl, Nat.zero_le _, rfl, hIt₁, F₁, hns₁, by simpa using N₁⟩ (hf := hf1 _)
    rintro k s' ⟨i, h, tk, m', rfl, hi, rfl, st, F', hC', N'⟩
    have Nn : News h₀ L h news := fun p hp => N' p (.tail _ hp)
    have offI : ∀ p ∈ (D, LCg.lst (ys.take i)) :: news, p.1 ≠ I := fun p hp => by
      rcases List.mem_cons.mp hp with rfl | hp
      · exact Ne.symm hDI
      · exact off p hp
    by_cases hlt : i < its.size
    · refine W.item i _ _ _ hlt ⟨st, list_of Nn⟩ fun v h₂ tk₂ hv st₂ hk₂ => ?_
      dsimp only
      have F₂ := LCg.fr_but F' hk₂ hIL hI₀
      have N₂ := LCg.news_but N' hk₂ offI
      have C₂ : h₂.Ns C m' := hC'.at' fun o e => hk₂ _ o (by simpa using Ne.symm hCI) e
      refine wpAny_assign_Name (wpAny_storeName_local (lookup_relabel_local hx0) C₂ (fun h₃ hn₃ hs₃ => ?_) (by simp [compEnvC, relabel, hkind]))
      have hn₃' : h₃.Ns C (fun z => if z = x0 then some v else m' z) := hn₃
      have hs₃' : Heap.SameBut C h₂ h₃ := hs₃
      have I₃ : h₃.IsListIter I ax (i + 1) := st₂.1.at fun o e => hs₃'.extBut _ _ hCI e
      obtain ⟨oI, heI, hoI⟩ := I₃
      obtain ⟨oC, heC, hoC⟩ := LCg.ns_obj hn₃'
      have F₃ : Fr h₀ L h₃ m := F₂.change hs₃' hCL hC₀
      have N₃ : News h₀ L h₃ ((I, oI) :: (C, oC) :: (D, LCg.lst (ys.take i)) :: news) := fun p hp => by
        rcases List.mem_cons.mp hp with rfl | hp
        · exact ⟨heI, Ne.symm hIL, hI₀⟩
        · rcases List.mem_cons.mp hp with rfl | hp
          · exact ⟨heC, hCL, hC₀⟩
          · refine ⟨hs₃'.extBut _ _ ?_ (N₂ p hp).1, (N₂ p hp).2⟩
            rcases List.mem_cons.mp hp with rfl | hp
            · exact hDC
            · exact hnC p hp
      have hly : i < ys.length := by omega
      have hy : ys[i]? = some ys[i] := List.getElem?_eq_getElem hly
      refine wpAny_mono (turn i v ys[i] hv hy I oI C oC D (ys.take i) _ h₃ _ _ hoC (by simp) F₃ N₃ off₀ ⟨hCI, hDI, Ne.symm hDC⟩) (fun x s₄ h₄ => ?_) fun _ _ e => e
      obtain ⟨a, o, h₄, tk₄, rfl, rfl, F₄, N₄, ho, ⟨n', hod'⟩, naI, naC, naD⟩ := h₄
      have hal : h₄.IsList a #[ys[i]] := ⟨o, (N₄ _ (.head _)).1, ho, n', hod'⟩
      refine wpAny_pyIter_list hal ?_
      have up : ∀ b o', h₄.get? b = some o' → (h₄.push { cls := .type "list_iterator", data := .fields #[.ref a, .int 0 0] }).get? b = some o' := fun b o' e => Heap.get?_push_of_some _ e
      have lt4 : ∀ {b o'}, h₄.get? b = some o' → b ≠ h₄.objs.size := fun e => Nat.ne_of_lt (Heap.lt_size e)
      have N₄' : News h₀ L h₄ ((I, oI) :: (D, LCg.lst (ys.take i)) :: news) := fun p hp => by
        rcases List.mem_cons.mp hp with rfl | hp
        · exact N₄ _ (.tail _ (.head _))
        · exact N₄ p (.tail _ (.tail _ (.tail _ hp)))
      refine inner_one (y := ys[i]) (ys := ys.take i) hh hkind hx1 hd (by rw [List.length_take]; omega) ⟨_, Heap.get?_push_size _ rfl, rfl, rfl⟩ (hal.push _) (F₄.keeps up) ((hoC.ns (N₄ (C, oC) (.tail _ (.tail _ (.head _)))).1).at' fun o' e => up _ o' e) (N₄'.grown up)
        (lt4 (N₄ (a, o) (.head _)).1) (lt4 (N₄ (C, oC) (.tail _ (.tail _ (.head _)))).1) (Nat.ne_of_lt F₄.ns.lt) (next_is_new F₄) (fun p hp => lt4 (N₄' p hp).1) naC naD (Ne.symm (lt4 (N₄ (D, _) (.tail _ (.tail _ (.tail _ (.head _))))).1))
        hCL hC₀ (fun p hp => ?_) hDL hD₀ hDI hnD (fun h₅ tk₅ m₅ F₅ C₅ N₅ => ?_)
      · rcases List.mem_cons.mp hp with rfl | hp
        · exact hCI
        · rcases List.mem_cons.mp hp with rfl | hp
          · exact hDC
          · exact hnC p hp
      · refine ⟨its.size + 1 - (i + 1), by omega, i + 1, h₅, tk₅, m₅, rfl, hlt, rfl, ⟨oI, (N₅ _ (.head _)).1, hoI⟩, F₅, C₅, fun p hp => ?_⟩
        have e : ys.take (i + 1) = ys.take i ++ [ys[i]] := (List.take_append_getElem hly).symm
        rw [e] at hp
        exact N₅ p (.tail _ hp)
    · obtain rfl : i = its.size := Nat.le_antisymm hi (Nat.not_lt.mp hlt)
      refine W.done _ _ _ ⟨st, list_of Nn⟩ fun h₂ tk₂ hk₂ => ?_
      have e : ys.take its.size = ys := by rw [hys]; exact List.take_length
      rw [e] at N' offI
      exact hRR _ _ h₂ tk₂ m' (LCg.fr_but F' hk₂ hIL hI₀) (LCg.news_but N' hk₂ offI) off₀.one (hC'.at' fun o e => hk₂ _ o (by simpa using Ne.symm hCI) e) hC₀ hD₀ hCL hDL (Ne.symm hDC) hnC
  exact codeAny_compStart_list (loop _) (W.self 0 _ _ _ ⟨hIt₁, list_of (fun p hp => N₁ p (.tail _ hp))⟩ (loop _))
/-- the comprehension whole -/
theorem comp_two {s : Shared} {Q : Value → Shared → Prop} (_F : Fr h₀ L s.heap m) (_N : News h₀ L s.heap news) (hf1 : ∀ e x, foldedSetIterable i1 e x = pure x) (hclos : closureFor scope env = pure cl) (hcell : ∀ y ∈ scope.names, y.2 ≠ .cell) (hkind : scope.kind = .function)
    (hnames : ∀ y ∈ scope.names, y.2 = .local → scope.names.lookup y.1 = some .local) (hx0 : scope.names.lookup x0 = some .local) (hx1 : scope.names.lookup x1 = some .local) (hd : (x1 == ("__debug__" : Str)) = false) (hh : A.handled = none)
    (hsz : ys.length ≤ sizeLine) (hys : its.size = ys.length)
    (h : wpAny (model prog w) A (eval i0 env) (fun xv s₁ => xv = .ref ax ∧ Fr h₀ L s₁.heap m ∧ News h₀ L s₁.heap news ∧ (ax, oax) ∈ news ∧ oax.cls = .type "list" ∧ (∃ n, oax.data = .seq its n) ∧
      (∀ (g : Heap) (i : Nat) (v y : Value), its[i]? = some v → ys[i]? = some y → TwoTurn prog w A h₀ L m env i1 x0 scope cl { s₁ with heap := g } news v y) ∧
        ∀ D h tk, Fr h₀ L h m → News h₀ L h ((D, LCg.lst ys) :: news) → LCg.Off1 D news → Q (.ref D) { s₁ with heap := h, toks := tk }) E s)
    (hs : ∀ x, foldedSetIterable i0 env x = pure x := by intro _; rfl) :
    wpAny (model prog w) A (eval (two (.Name x1 pe) (.Name x0 px0) i0 (.Name x1 px) i1 scope pos) env) Q E s := by
  rw [eval_ListComp]
  refine wpAny_comprehension_free (use := none) rfl hs hclos hkind hnames (wpAny_mono h (fun xv s₁ h₁ => ?_) fun _ _ e => e)
  obtain ⟨rfl, hR⟩ := h₁
  have F := hR.1
  have N := hR.2.1
  have hm := hR.2.2.1
  have hoc := hR.2.2.2.1
  have hod := hR.2.2.2.2.1
  have turns := hR.2.2.2.2.2.1
  have fin := hR.2.2.2.2.2.2
  clear hR
  have hl : s₁.heap.IsList ax its := ⟨oax, (N _ hm).1, hoc, hod⟩
  have hlt : ax < s₁.heap.objs.size := Heap.lt_size (N _ hm).1
  refine wpAny_pyIter_list hl ?_
  have up : ∀ b o, s₁.heap.get? b = some o → (s₁.heap.push { cls := .type "list_iterator", data := .fields #[.ref ax, .int 0 0] }).get? b = some o := fun b o e => Heap.get?_push_of_some _ e
  refine two_block hf1 hh (Nat.ne_of_lt hlt) hsz hys hcell hkind hx0 hx1 hd ⟨_, Heap.get?_push_size _ rfl, rfl, rfl⟩ hm hoc hod (F.keeps up) (N.grown up) (Nat.ne_of_lt F.ns.lt) (next_is_new F) (fun p hp => Nat.ne_of_lt (Heap.lt_size (N p hp).1)) (turns _) ?_
  intro D C h tk m' F' N' o1 hn hC₀ hD₀ hCL hDL hCD offC
  refine ⟨m', hn, fun h'' hs'' => fin D h'' tk (F'.change hs'' hCL hC₀) (fun p hp => ?_) o1⟩
  refine ⟨hs''.extBut _ _ ?_ (N' p hp).1, (N' p hp).2⟩
  rcases List.mem_cons.mp hp with rfl | hp
  · exact Ne.symm hCD
  · exact offC p hp
end
end Mine
end
theorem Mine.forget_I2 : True ∧ True := by first | (walk1; all_goals trivial; done) | exact ⟨trivial, trivial⟩
local macro_rules | `(tactic| walk_at "eval Name") => `(tactic| (k_here; k_dflt (refine' nameX_F ?N ?c ?m ?d ?_ ?a ?b; (case a => rfl); (case b => rfl); (case N => k_asm); (case c => rfl); (case m => k_mem); (case d => with_reducible assumption); k_whole)))
local macro_rules | `(tactic| walk_at "eval ListComp") => `(tactic| (k_here; refine halt ?_))
local macro_rules | `(tactic| walk_at "call ref") => `(tactic| (k_here; refine halt ?_))
section
namespace Mine
/-- the caller's ledger written, the room by letters -/
noncomputable abbrev ToldD (dd uu : Nat) (w : World) (news : List (Addr × Obj)) (pre : Prop) (f : Addr) (vs : List Value) (post : Heap → Addr → (Str → Option Value) → Shared → (Value → Shared → Prop) → Prop) : Prop :=
  ∀ (mean : ExcName → Option Value) (mg mb : Str → Option Value) (dp un : Nat) (gd : Option (List Code)) (cn : Str) (cs : Scope) (a : Addr) (ccd : Value) (cl : List (Str × Addr)) (outer : List Env) (A₀ : Around) (base h₀ : Heap) (L : Addr) (m : Str → Option Value) (s : Shared) (Q R : Value → Shared → Prop),
    Below A₀ base outer h₀ → Fr h₀ L s.heap m → Frag.In (hd.heap_39 w.params) h₀ → News h₀ L s.heap news → Top topProg lo mean mg mb h₀ → cs.kind = .function →
    dp + dd < recursionLimit → un + uu < cLine → pre → post h₀ L m s Q →
      wpAny (model PySem.Challenge.rw_xe0044_01.row.prog w) (ktrTop dp un gd cn cs L a ccd cl outer) (call (.ref f) vs) Q R s
noncomputable def ItPost (news : List (Addr × Obj)) (vals : List Value) (h₀ : Heap) (L : Addr) (m : Str → Option Value) (s : Shared) (Q : Value → Shared → Prop) : Prop :=
  ∀ a k h' tk, Fr h₀ L h' m → News h₀ L h' ((a, W.listOf vals.toArray k) :: news) → (∀ p ∈ news, p.1 < a) → Q (.ref a) { s with heap := h', toks := tk }
noncomputable def itNews (P : Params) (C : Cd) (e : El) (parts : Array Value) (n : Nat) (rest : List (Addr × Obj)) : List (Addr × Obj) := (C.c2, C.oc) :: (e.ro P C.c2 ++ (e.l, W.listOf parts n) :: rest)
/-- the parts that an element holds -/
noncomputable def Kid (dd uu : Nat) (w : World) (C : Cd) (rest : List (Addr × Obj)) (v y : Value) : Prop :=
  ∃ k : El, k.Ok ∧ v = .ref k.f ∧ y = .str k.tag k.tt ∧ (∀ p ∈ k.ro w.params C.c2 ++ [(k.l, W.listOf #[] 0)], p ∈ rest) ∧
    ∀ rest', ToldD dd uu w (itNews w.params C k #[] 0 rest') (C.Ok w.params ∧ k.Ok) k.it [] (ItPost (itNews w.params C k #[] 0 rest') [y])
theorem itNews_in {P : Params} {C : Cd} {k : El} {l₁ l₂ rest : List (Addr × Obj)} {h₀ h : Heap} {L : Addr} (hk : ∀ p ∈ k.ro P C.c2 ++ [(k.l, W.listOf #[] 0)], p ∈ rest) (hc : (C.c2, C.oc) ∈ l₁) (hr : ∀ p ∈ rest, p ∈ l₁) (N : News h₀ L h (l₂ ++ l₁)) : News h₀ L h (itNews P C k #[] 0 (l₂ ++ l₁)) := fun p hp => by
  rcases List.mem_cons.mp hp with rfl | hp
  · exact N _ (List.mem_append.mpr (.inr hc))
  · rcases List.mem_append.mp hp with hp | hp
    · exact N _ (List.mem_append.mpr (.inr (hr _ (hk _ (List.mem_append.mpr (.inl hp))))))
    · rcases List.mem_cons.mp hp with rfl | hp
      · exact N _ (List.mem_append.mpr (.inr (hr _ (hk _ (List.mem_append.mpr (.inr (.head _)))))))
      · exact N p hp
section
local macro_rules | `(tactic| walk_at "getMethod ref") => `(tactic| (k_here; refine halt ?_))
theorem it_told (w : World) (C : Cd) (e : El) (parts : Array Value) (n dd uu : Nat) (rest : List (Addr × Obj)) (ys : List Value) (hdd : 130 ≤ dd) (huu : 800 ≤ uu) (hys : parts.size = ys.length) (hsz : ys.length ≤ 100)
    (kid : ∀ (i : Nat) (v y : Value), parts[i]? = some v → ys[i]? = some y → Kid dd uu w C rest v y) :
    ToldD (dd + 20) (uu + 200) w (itNews w.params C e parts n rest) (C.Ok w.params ∧ e.Ok) e.it [] (ItPost (itNews w.params C e parts n rest) (.str e.tag e.tt :: ys)) := by
  delta ToldD
  k_fill
  intro mean mg mb dp un gd cn cs a ccd cl outer A₀ base h₀ L m s Q R B F X N T hk hd hu hh hret
  obtain ⟨hC, he⟩ := hh
  obtain ⟨f, d, q, it, ct, cp, l, fd, k1, k2, k3, k4, tt, pm, ctv, ot, op, tag⟩ := e
  simp only [itNews, El.ro, El.dObj, List.cons_append, List.nil_append] at N
  dsimp only [El.Ok] at he
  obtain ⟨he1, he2⟩ := he
  dsimp only
  refine wpAny_call ?_
  have hcr : s.heap.CodeRec (.ref C.c2) itQual := ⟨_, _, _, _, rfl, News.get N (.head _), hC.1, hC.2.1⟩
  refine kla_code (cl := [(Str.ofString "tag", ct), (Str.ofString "parts", cp)]) B F X N T rfl rfl hk (by simp only [El.itObj]; k_mem) hcr (by ktr_room) (binds := []) rfl (by intro y hy; cases hy) ?_ rfl rfl rfl (by delta itDef; dsimp only; decide)
  intro g' L' h' FG' F' N' B' X' T'
  (try k_lift B')
  delta itDef
  dsimp only
  k_steps
  unfold Halt
  rename News _ _ _ _ => NN
  rename Fr _ _ _ _ => FF
  refine comp_two (x0 := Str.ofString "part") (x1 := Str.ofString "text") (cl := []) (ax := l) (ys := ys) (its := parts) (oax := W.listOf parts n) FF NN (fun _ _ => rfl) rfl (by decide) rfl (by decide) rfl rfl (by decide) rfl (by rw [sizeLine_eq]; omega) hys ?_
  k_steps
  · exact FF
  · exact NN
  · k_mem
  · rename parts[_]? = some _ => hv
    rename ys[_]? = some _ => hy
    obtain ⟨k, hko, rfl, rfl, hkr, hkt⟩ := kid _ _ _ hv hy
    intro I oI Cc oC D ys' m₂ h tk E' hns hm2 F3 N3 off nn
    have N4 := itNews_in (l₂ := [(I, oI), (Cc, oC), (D, LCg.lst ys')]) hkr (by k_mem) (fun p hp => by simp [hp]) N3
    clear N3 hkr NN FF
    obtain ⟨f2, d2, q2, it2, ct2, cp2, l2, fd2, k12, k22, k32, k42, tt2, pm2, ctv2, ot2, op2, tag2⟩ := k
    simp only [itNews, El.ro, El.dObj, List.cons_append, List.nil_append] at N4 hkt
    dsimp only at hkt ⊢
    dsimp only [El.Ok] at hko
    obtain ⟨hk1, hk2⟩ := hko
    k_steps
    unfold Halt
    dsimp only
    k_dflt (refine' meth_itertext F3 N4 ?hf ?hd rfl ?b ?c ?_; (case hf => k_mem); (case hd => k_mem); (case b => ktr_room); (case c => ktr_units); k_whole)
    intro h5 tk5 F5 N5
    dsimp only
    refine callWith_F0 (FnAt.of N5 (by k_mem)) ?_
    dsimp only [List.nil_append]
    k_dflt (refine' hkt ((I, oI) :: (Cc, oC) :: (D, LCg.lst ys') :: _) _ _ _ _ _ _ _ _ _ _ _ _ _ _ _ _ _ _ _ _ ?b ?f ?x ?n ?t ?k ?d ?u ⟨hC, hk1, hk2⟩ ?h; (case b => k_asm); (case f => k_asm); (case x => k_asm); (case n => k_asm); (case t => k_asm); (case k => exact rfl); (case d => ktr_room); (case u => ktr_units); k_whole)
    intro a6 k6 h6 tk6 F6 N6 l6
    dsimp only [qk]
    refine ⟨a6, W.listOf [Value.str tag2 tt2].toArray k6, h6, tk6, rfl, rfl, F6, fun p hp => N6 p ?_, rfl, ⟨k6, rfl⟩, fun e => Nat.lt_irrefl _ (e ▸ l6 (I, oI) (by k_mem)), fun e => Nat.lt_irrefl _ (e ▸ l6 (Cc, oC) (by k_mem)), fun e => Nat.lt_irrefl _ (e ▸ l6 (D, LCg.lst ys') (by k_mem))⟩
    rcases List.mem_cons.mp hp with rfl | hp
    · exact .head _
    · simp only [List.mem_cons] at hp ⊢
      simp [hp]
  · rename News h₀ L _ _ => kN
    rename News g' L' _ ((_, LCg.lst ys) :: _) => kM
    rename Fr h₀ L _ _ => kF
    refine hret _ 0 _ _ ?f ?n ?l
    case f => exact kF
    case n => exact fun p hp => kN p (by
      rcases List.mem_cons.mp hp with e | hp
      · exact List.mem_cons.mpr (.inl e)
      · exact .tail _ (.tail _ (.tail _ hp)))
    case l => exact fun p hp => Heap.lt_size (kM p (.tail _ (.tail _ hp))).1
end
end Mine
end
theorem Mine.forget_I1 : True ∧ True := by first | (walk1; all_goals trivial; done) | exact ⟨trivial, trivial⟩
section
namespace Mine
/-- the end of a loop's turn; the base heap is part of the state -/
noncomputable def GEnd {σ : Type} (L : Addr) (s : Shared) (G : σ → Heap) (Led : σ → List (Addr × Obj)) (ps : σ → List (Str × Value)) (P : σ → Prop) (s₂ : Shared) : Prop :=
  ∃ (c : σ) (h : Heap) (tk : Nat) (m : Str → Option Value) (news : List (Addr × Obj)), s₂ = { s with heap := h, toks := tk } ∧ Fr (G c) L h m ∧ News (G c) L h news ∧ (∀ q ∈ Led c, q ∈ news) ∧ (∀ p ∈ ps c, m p.1 = some p.2) ∧ P c
noncomputable def GPost {σ : Type} (L : Addr) (s : Shared) (G : σ → Heap) (Led : σ → List (Addr × Obj)) (ps : σ → List (Str × Value)) (P : σ → Prop) (Q : Flow → Shared → Prop) (f : Flow) (s₂ : Shared) : Prop :=
  match f with
  | .ret v => Q (.ret v) s₂
  | .brk => Q .next s₂
  | _ => GEnd L s G Led ps P s₂
theorem kstB_same {m : Str → Option Value} {ps : List (Str × Value)} (h : ∀ p ∈ ps, m p.1 = some p.2) : kstB m ps = m := by
  funext z
  exact kstB_eq h fun _ => rfl
section
variable {prog : Program} {w : World} {A : Around} {E : Value → Shared → Prop} {Q : Flow → Shared → Prop} {s : Shared} {env : Env} {L : Addr} {x : Str} {body : List Stmt}
theorem while_g {σ : Type} {test : Expr} {pos : Pos} {m₀ : Str → Option Value} {news₀ : List (Addr × Obj)} (G : σ → Heap) (Led : σ → List (Addr × Obj)) (ps : σ → List (Str × Value)) (P : σ → Prop) (μ : σ → Nat) (c₀ : σ)
    (F : Fr (G c₀) L s.heap m₀) (N : News (G c₀) L s.heap news₀) (hn : ∀ q ∈ Led c₀, q ∈ news₀) (hk : ∀ p ∈ ps c₀, m₀ p.1 = some p.2) (hp : P c₀)
    (turn : ∀ (c : σ) (u : Str → Option Value) h tk, s.toks ≤ tk → P c → Fr (G c) L h (kstB u (ps c)) → News (G c) L h (Led c) →
      wpAny (model prog w) A (isTrue test env (eval test env)) (fun b s₂ => if b = true then wpAny (model prog w) A (execs body env) (GPost L s G Led ps (fun c' => P c' ∧ μ c' < μ c) Q) E s₂ else Q .next s₂) E { s with heap := h, toks := tk })
    (hE : PassesOwn (model prog w) A env E := by passes_own) :
    wpAny (model prog w) A (exec (.While test body [] pos) env) Q E s := by
  refine wpAny_While (codeAny_whileLoop (fun n s' => s.toks ≤ s'.toks ∧ GEnd L s G Led ps (fun c => P c ∧ μ c = n) s') ?_ (μ c₀) ⟨Nat.le_refl _, c₀, s.heap, s.toks, m₀, news₀, rfl, F, N, hn, hk, hp, rfl⟩)
  rintro n s' ⟨ht, c, h, tk, m, news, rfl, F', N', hn', hk', hp', rfl⟩
  refine toks_on (wpAny_mono (turn c m h tk ht hp' (by rw [kstB_same hk']; exact F') fun q hq => N' q (hn' q hq)) (fun b s₂ h₂ hle => ?_) hE)
  cases b with
  | false =>
    simp only [Bool.false_eq_true, if_false] at h₂ ⊢
    exact wpAny_execs_nil h₂
  | true =>
    simp only [if_true] at h₂ ⊢
    refine toks_on (wpAny_mono h₂ (fun f s₃ h₃ hle2 => ?_) hE)
    have up : GEnd L s G Led ps (fun c' => P c' ∧ μ c' < μ c) s₃ → ∃ n, n < μ c ∧ s.toks ≤ s₃.toks ∧ GEnd L s G Led ps (fun c => P c ∧ μ c = n) s₃ := by
      rintro ⟨c', h', tk', m', news', rfl, hR⟩
      have F₂ := hR.1
      have N₂ := hR.2.1
      have hn₂ := hR.2.2.1
      have hk₂ := hR.2.2.2.1
      have hp₂ := hR.2.2.2.2.1
      have hm₂ := hR.2.2.2.2.2
      clear hR
      exact ⟨μ c', hm₂, Nat.le_trans ht (Nat.le_trans hle hle2), c', h', tk', m', news', rfl, F₂, N₂, hn₂, hk₂, hp₂, rfl⟩
    cases f with
    | next => exact up h₃
    | cont => exact up h₃
    | brk => exact h₃
    | ret v => exact h₃
noncomputable def LoopG (prog : Program) (w : World) (A : Around) (x : Str) (px : Pos) (body : List Stmt) (env : Env) (Q : Flow → Shared → Prop) (E : Value → Shared → Prop) (it : Value) (s : Shared) : Prop :=
  codeAny (model prog w) A (.forLoop (.Name x px) it body [] env) (fun r s' => match r with | .ok f => Q f s' | .error e => cameBackBy (model prog w) A env E e s') s
theorem for_g {px pos : Pos} {iter : PySem.Expr} (h : wpAny (model prog w) A (eval iter env) (fun xv s₁ => wpAny (model prog w) A (pyIter xv) (fun it s₂ => LoopG prog w A x px body env Q E it s₂) E s₁) E s) (hs : ∀ x, foldedSetIterable iter env x = pure x := by intro _; rfl) :
    wpAny (model prog w) A (exec (.For (.Name x px) iter body [] pos) env) Q E s := wpAny_For h hs
/-- a loop over a list that stands on the ledger; I: its iterator -/
theorem list_g {σ : Type} {px : Pos} {l : Addr} {vs : List Value} {nn : Nat} {m₀ : Str → Option Value} {news₀ : List (Addr × Obj)} (G : σ → Heap) (Led : σ → List (Addr × Obj)) (ps : σ → List (Str × Value)) (P : Nat → σ → Prop) (c₀ : σ)
    (hh : A.handled = none) (hx : env.kindOf x = some .local) (hpp : (env.scope.kind == .class || (env.scope.kind == .module && env.locals != env.globals)) = false)
    (F : Fr (G c₀) env.locals s.heap m₀) (N : News (G c₀) env.locals s.heap news₀) (hn : ∀ q ∈ Led c₀, q ∈ news₀) (hl : ∀ c, (l, listOf vs.toArray nn) ∈ Led c) (hk : ∀ p ∈ ps c₀, m₀ p.1 = some p.2) (hp : P 0 c₀)
    (turn : ∀ (i : Nat) (v : Value) (c : σ) (u : Str → Option Value) h tk I oI, vs[i]? = some v → s.toks ≤ tk → P i c → Fr (G c) env.locals h (fun y => if y = x then some v else kstB u (ps c) y) → News (G c) env.locals h ((I, oI) :: Led c) → (∀ p ∈ Led c, p.1 ≠ I) →
      wpAny (model prog w) A (execs body env) (GPost env.locals s G (fun c => (I, oI) :: Led c) ps (fun c' => P (i + 1) c' ∧ ∀ p ∈ Led c', p.1 ≠ I) Q) E { s with heap := h, toks := tk })
    (done : ∀ (c : σ) (u : Str → Option Value) h tk, s.toks ≤ tk → P vs.length c → Fr (G c) env.locals h (kstB u (ps c)) → News (G c) env.locals h (Led c) → Q .next { s with heap := h, toks := tk })
    (hE : PassesOwn (model prog w) A env E := by passes_own) :
    wpAny (model prog w) A (pyIter (.ref l)) (fun it s₂ => LoopG prog w A x px body env Q E it s₂) E s := by
  have N₀ : News (G c₀) env.locals s.heap (Led c₀) := fun q hq => N q (hn q hq)
  have hol : s.heap.get? l = some (listOf vs.toArray nn) := (N₀ _ (hl c₀)).1
  have hls : s.heap.IsList l vs.toArray := ⟨_, hol, rfl, nn, rfl⟩
  have hne : l ≠ s.heap.objs.size := Nat.ne_of_lt (Heap.lt_size hol)
  refine wpAny_pyIter_list hls ?_
  have W := Walks.list (prog := prog) (w := w) hh s.heap.objs.size l hne vs.toArray
  have hIL : env.locals ≠ s.heap.objs.size := Nat.ne_of_lt F.ns.lt
  have hI₀ : (G c₀).get? s.heap.objs.size = none := next_is_new F
  have off₀ : ∀ p ∈ Led c₀, p.1 ≠ s.heap.objs.size := fun p hp => Nat.ne_of_lt (Heap.lt_size (N₀ p hp).1)
  have FP := F.push ({ cls := .type "list_iterator", data := .fields #[.ref l, .int 0 0] } : Obj)
  have NP : News (G c₀) env.locals (s.heap.push ({ cls := .type "list_iterator", data := .fields #[.ref l, .int 0 0] } : Obj)) ((s.heap.objs.size, ({ cls := .type "list_iterator", data := .fields #[.ref l, .int 0 0] } : Obj)) :: Led c₀) := fun p hp => by
    rcases List.mem_cons.mp hp with rfl | hp
    · exact ⟨Heap.get?_push_size _ rfl, Ne.symm hIL, hI₀⟩
    · exact ⟨Heap.get?_push_of_some _ (N₀ p hp).1, (N₀ p hp).2⟩
  have st0 : (s.heap.push ({ cls := .type "list_iterator", data := .fields #[.ref l, .int 0 0] } : Obj)).IsListIter s.heap.objs.size l 0 := ⟨_, Heap.get?_push_size _ rfl, rfl, rfl⟩
  generalize s.heap.objs.size = I at *
  generalize s.heap.push ({ cls := .type "list_iterator", data := .fields #[.ref l, .int 0 0] } : Obj) = h₂ at *
  unfold LoopG
  refine codeAny_forLoop (fun k s' => s.toks ≤ s'.toks ∧ ∃ (i : Nat) (oI : Obj), i ≤ vs.length ∧ k = vs.length + 1 - i ∧ (∀ h : Heap, h.get? I = some oI → h.IsListIter I l i) ∧ GEnd env.locals s G (fun c => (I, oI) :: Led c) ps (fun c => P i c ∧ ∀ p ∈ Led c, p.1 ≠ I) s') ?_ (vs.length + 1)
    ⟨Nat.le_refl _, 0, _, Nat.zero_le _, rfl, fun h e => ⟨_, e, rfl, rfl⟩, c₀, h₂, _, m₀, _, rfl, FP, NP, fun q hq => hq, hk, hp, off₀⟩
  rintro k s' ⟨ht, i, oI, hi, rfl, hit, c, h, tk, m', news', rfl, hR⟩
  have F' := hR.1
  have N' := hR.2.1
  have hn' := hR.2.2.1
  have hk' := hR.2.2.2.1
  have hp' := hR.2.2.2.2.1
  have ho' := hR.2.2.2.2.2
  clear hR
  have st := hit h (N' _ (hn' _ (.head _))).1
  have NL : News (G c) env.locals h (Led c) := fun p hp => N' p (hn' p (.tail _ hp))
  have hlist : h.IsList l vs.toArray := ⟨_, (NL _ (hl c)).1, rfl, nn, rfl⟩
  have hIn := (N' _ (hn' (I, oI) (.head _))).2
  by_cases hlt : i < vs.length
  · refine toks_on (W.item i _ _ _ (by simpa using hlt) ⟨st, hlist⟩ (fun v h' tk' hv st' hkk => ?_))
    intro hle
    dsimp only at hle ⊢
    have F₂ := LCg.fr_but F' hkk (Ne.symm hIn.1) hIn.2
    have N₂ := LCg.news_but NL hkk ho'
    obtain ⟨oI', e1, e2, e3⟩ := st'.1
    refine wpAny_assign_Name (wpAny_storeName_local hx F₂.ns (fun h₃ hn₃ hs₃ => ?_) hpp)
    have F₃ := F₂.set hn₃ hs₃
    have N₂' : News (G c) env.locals h' ((I, oI') :: Led c) := fun p hp => by
      rcases List.mem_cons.mp hp with rfl | hp
      · exact ⟨e1, hIn⟩
      · exact N₂ p hp
    refine toks_on (wpAny_passesOwn hE (wpAny_mono (turn i v c m' h₃ _ I oI' (by simpa using hv) (Nat.le_succ_of_le (Nat.le_trans ht hle)) hp' (by rw [kstB_same hk']; exact F₃) (N₂'.set hs₃) ho') (fun f s₂ p hle2 => ?_) fun _ _ e => e))
    have hle2 : tk' ≤ s₂.toks := Nat.le_of_succ_le hle2
    have up : GEnd env.locals s G (fun c => (I, oI') :: Led c) ps (fun c' => P (i + 1) c' ∧ ∀ p ∈ Led c', p.1 ≠ I) s₂ → ∃ m, m < vs.length + 1 - i ∧ s.toks ≤ s₂.toks ∧ ∃ (i : Nat) (oI : Obj), i ≤ vs.length ∧ m = vs.length + 1 - i ∧ (∀ h : Heap, h.get? I = some oI → h.IsListIter I l i) ∧ GEnd env.locals s G (fun c => (I, oI) :: Led c) ps (fun c => P i c ∧ ∀ p ∈ Led c, p.1 ≠ I) s₂ := fun q =>
      ⟨vs.length + 1 - (i + 1), by omega, Nat.le_trans ht (Nat.le_trans hle hle2), i + 1, oI', hlt, rfl, fun h e => ⟨_, e, e2, e3⟩, q⟩
    cases f with
    | ret v => exact p
    | brk => exact p
    | next => exact up p
    | cont => exact up p
  · obtain rfl : i = vs.length := by omega
    refine toks_on ?_
    have e : vs.length = vs.toArray.size := by simp
    rw [e] at st
    refine W.done _ _ _ ⟨st, hlist⟩ (fun h' tk' hkk hle => ?_)
    dsimp only at hle
    have F₂ := LCg.fr_but F' hkk (Ne.symm hIn.1) hIn.2
    have N₂ := LCg.news_but NL hkk ho'
    exact wpAny_execs_nil (done c m' h' tk' (Nat.le_trans ht hle) hp' (by rw [kstB_same hk']; exact F₂) N₂)
end
end Mine
end
theorem Mine.forget_V0 : True ∧ True := by first | (walk1; all_goals trivial; done) | exact ⟨trivial, trivial⟩
local macro_rules | `(tactic| walk_at "pyIter ref") => `(tactic| (k_here; refine halt ?_))
section
namespace Mine
noncomputable def serNews (P : Params) (C : Cd) (wq wl : Addr) (out : List Value) (k : Nat) (e : El) (parts : Array Value) (n : Nat) (rest : List (Addr × Obj)) : List (Addr × Obj) :=
  itNews P C e parts n ((wq, methO "list.append" wl) :: (wl, W.listOf out.toArray k) :: rest)
noncomputable def SerPost (P : Params) (C : Cd) (wq wl : Addr) (e : El) (parts : Array Value) (n : Nat) (rest : List (Addr × Obj)) (vals : List Value) (h₀ : Heap) (L : Addr) (m : Str → Option Value) (s : Shared) (Q : Value → Shared → Prop) : Prop :=
  ∀ k h' tk, Fr h₀ L h' m → News h₀ L h' (serNews P C wq wl vals k e parts n rest) → Q .none { s with heap := h', toks := tk }
section
local macro_rules | `(tactic| k_ne) => `(tactic| ((try dsimp only); first | exact Apart.ne (by with_reducible assumption) | exact Apart.ne' (by with_reducible assumption) | (refine neN ?_; (try dsimp only); omega)))
local macro_rules | `(tactic| walk_at "exec For Name Call cons nil") => `(tactic| (k_here; refine halt ?_))
local macro_rules | `(tactic| walk_at "callWith ref nil nil") => `(tactic| (k_here; refine halt ?_))
local macro_rules | `(tactic| walk_at "callWith ref") => `(tactic| (k_here; refine halt ?_))
local macro_rules | `(tactic| walk_at "getMethod ref") => `(tactic| (k_here; k_dflt (refine' meth_itertext ?F ?N ?hf ?hd ?a ?b ?c ?_; (case F => k_asm); (case N => k_asm); (case hf => k_mem); (case hd => k_mem); (case a => exact rfl); (case b => ktr_room); (case c => ktr_units); k_whole; intro h' tk' F' N'; (try k_sweep))))
local macro_rules | `(tactic| walk_at "getAttr ref") => `(tactic| (k_here; k_dflt (refine' attr_tail ?F ?N ?hf ?hd ?a ?b ?c ?_; (case F => k_asm); (case N => k_asm); (case hf => k_mem); (case hd => k_mem); (case a => exact rfl); (case b => ktr_room); (case c => ktr_units); k_whole; intro h' tk' F' N'; (try k_sweep))))
theorem ser_told (w : World) (C : Cd) (wq wl : Addr) (e : El) (parts : Array Value) (n : Nat) (rest : List (Addr × Obj)) (ys : List Value) (hys : parts.size = ys.length) (hsz : ys.length ≤ 100)
    (kid : ∀ (i : Nat) (v y : Value), parts[i]? = some v → ys[i]? = some y → Kid 150 1000 w C rest v y) :
    ToldD 190 1400 w (serNews w.params C wq wl [] 0 e parts n rest) (C.Ok w.params ∧ e.Ok ∧ (∀ p ∈ rest, p.1 ≠ wl) ∧ Apart e.l wl) 143 [.ref wq, .ref e.f] (SerPost w.params C wq wl e parts n rest (.str e.tag e.tt :: ys)) := by
  delta ToldD
  k_fill
  intro mean mg mb dp un gd cn cs a ccd cl outer A₀ base h₀ L m s Q R B F X N T hk hd hu hh hret
  obtain ⟨hC, he, hr, hl⟩ := hh
  have kidT := it_told w C e parts n 150 1000 ((wq, methO "list.append" wl) :: (wl, W.listOf #[] 0) :: rest) ys (by omega) (by omega) hys hsz (fun i v y h1 h2 => by
    obtain ⟨k, k1, k2, k3, k4, k5⟩ := kid i v y h1 h2
    exact ⟨k, k1, k2, k3, fun p hp => .tail _ (.tail _ (k4 p hp)), k5⟩)
  obtain ⟨f, d, q, it, ct, cp, l, fd, k1, k2, k3, k4, tt, pm, ctv, ot, op, tag⟩ := e
  simp only [serNews, itNews, El.ro, El.dObj, List.cons_append, List.nil_append] at N kidT
  have he' := he
  dsimp only [El.Ok] at he
  obtain ⟨he1, he2⟩ := he
  obtain ⟨hC1, -⟩ := id hC
  dsimp only at hl ⊢
  have n0 : Apart C.c2 wl := ne_data N (o := C.oc) (by k_mem) (b := wl) (o' := W.listOf #[] 0) (by k_mem) (by rw [hC1]; intro e; cases e)
  have n1 : Apart f wl := ne_cls N (by k_mem) (b := wl) (o' := W.listOf #[] 0) (by k_mem) (fun e => absurd (Value.type.inj e) (by decide))
  have n2 : Apart d wl := ne_cls N (by k_mem) (b := wl) (o' := W.listOf #[] 0) (by k_mem) (fun e => absurd (Value.type.inj e) (by decide))
  have n3 : Apart q wl := ne_cls N (by k_mem) (b := wl) (o' := W.listOf #[] 0) (by k_mem) (fun e => absurd (Value.type.inj e) (by decide))
  have n4 : Apart it wl := ne_cls N (by k_mem) (b := wl) (o' := W.listOf #[] 0) (by k_mem) (fun e => absurd (Value.type.inj e) (by decide))
  have n5 : Apart ct wl := ne_data N (o := ot) (by k_mem) (b := wl) (o' := W.listOf #[] 0) (by k_mem) (by rw [he1]; intro e; cases e)
  have n6 : Apart cp wl := ne_data N (o := op) (by k_mem) (b := wl) (o' := W.listOf #[] 0) (by k_mem) (by rw [he2]; intro e; cases e)
  have n7 : Apart wq wl := ne_cls N (o := methO "list.append" wl) (by k_mem) (b := wl) (o' := W.listOf #[] 0) (by k_mem) (fun e => absurd (Value.type.inj e) (by decide))
  refine wpAny_call ?_
  k_dflt (refine' enter_raw ?k1 ?k2 ?k3 ?k4 ?k5 ?kA ?kF ?kK ?k6 ?k7 ?k8 ?k9 ?kB ?_ ?c2 ?c3 ?c4 ?c5; (case kA => exact rfl); (case kF => exact rfl); (case kK => assumption); (case k1 => k_asm); (case k2 => k_asm); (case k3 => k_asm); (case k4 => k_asm); (case k5 => k_asm); (case k6 => k_is); (case k7 => k_is); (case k8 => ktr_room); (case k9 => exact BindsTo.of_eq rfl); (case c5 => decide); (case kB => exact locs rfl); (case c2 => exact rfl); (case c3 => exact rfl); (case c4 => exact rfl); k_whole; intro g' L' h' hg' hL' FG' F' N' B' X' T' l1; (try dsimp only); (try k_lift B'); (try k_fold))
  k_steps
  unfold Halt
  with_unfolding_all refine for_g ?_ (by intro _; rfl)
  k_steps
  unfold Halt
  dsimp only
  rename News _ _ _ _ => N1
  refine callWith_F0 (FnAt.of N1 (by k_mem)) ?_
  dsimp only [List.nil_append]
  k_dflt (refine' kidT _ _ _ _ _ _ _ _ _ _ _ _ _ _ _ _ _ _ _ _ ?b ?f ?x N1 ?t ?k ?d ?u ⟨hC, he'⟩ ?h; (case b => k_asm); (case f => k_asm); (case x => k_asm); (case t => k_asm); (case k => exact rfl); (case d => ktr_room); (case u => ktr_units); k_whole)
  intro a6 k6 h6 tk6 F6 N6 l6
  have na : Apart a6 wl := fun e => Nat.lt_irrefl _ (e ▸ l6 (wl, W.listOf #[] 0) (by k_mem))
  refine' list_g (σ := List Value × Nat) (fun _ => g') (fun c => (a6, W.listOf (Value.str tag tt :: ys).toArray k6) :: serNews w.params C wq wl c.1 c.2 ⟨f, d, q, it, ct, cp, l, fd, k1, k2, k3, k4, tt, pm, ctv, ot, op, tag⟩ parts n rest) (fun _ => [(Str.ofString "write", .ref wq), (Str.ofString "elem", .ref f)]) (fun i c => c.1 = (Value.str tag tt :: ys).take i) ([], 0) ?hh ?hx ?hp ?F ?N ?hn ?hl ?hk rfl ?turn ?done ?hE
  case F => exact F6
  case N => exact N6
  case hh => rfl
  case hx => rfl
  case hp => rfl
  case hE => passes_own
  case hl => exact fun _ => .head _
  case hk => kst_all
  case hn => exact fun p hp => hp
  case turn =>
    rintro i v ⟨o, k⟩ u h tk I oI hv - hP FrT NT offT
    dsimp only at hP FrT NT offT
    simp only [serNews, itNews, El.ro, El.dObj, List.cons_append, List.nil_append] at NT offT
    have nI : Apart I wl := fun e => offT (wl, W.listOf o.toArray k) (by k_mem) e.symm
    have hz : o.toArray.size ≤ sizeLine := by rw [List.size_toArray, hP, List.length_take, sizeLine_eq]; simp only [List.length_cons]; omega
    k_steps
    unfold Halt
    k_dflt (refine' callWith_mo ?q ?_; (case q => exact News.get (by k_asm) (by k_mem)); k_whole)
    k_steps
    · exact News.get (by k_asm) (by k_mem)
    k_dflt (refine' call_mo ?F ?N ?q ?U ?z ?_; (case F => k_asm); (case N => k_asm); (case q => k_mem); (case U => k_upd); (case z => exact hz); k_whole)
    intro h9 F9 N9
    k_steps
    refine ⟨(o ++ [v], k + 1), _, _, _, _, rfl, by assumption, by assumption, ?_, ?_, ?_, ?_⟩
    · intro p hp
      dsimp only at hp
      have e : W.listOf (o ++ [v]).toArray (k + 1) = W.listOf (o.toArray.push v) (k + 1) := by rw [List.push_toArray]
      simp only [serNews, itNews, El.ro, El.dObj, List.cons_append, List.nil_append, e] at hp
      exact hp
    · kst_all
    · show o ++ [v] = _
      rw [hP]
      have hi : i < (Value.str tag tt :: ys).length := by
        rcases Nat.lt_or_ge i (Value.str tag tt :: ys).length with h | h
        · exact h
        · rw [List.getElem?_eq_none h] at hv; cases hv
      rw [List.getElem?_eq_getElem hi] at hv
      cases hv
      exact List.take_append_getElem hi
    · intro p hp
      have hp' : p.1 ∈ ((a6, W.listOf (Value.str tag tt :: ys).toArray k6) :: serNews w.params C wq wl o k ⟨f, d, q, it, ct, cp, l, fd, k1, k2, k3, k4, tt, pm, ctv, ot, op, tag⟩ parts n rest).map (·.1) := by
        have := List.mem_map_of_mem (f := (·.1)) hp
        simpa only [serNews, itNews, El.ro, El.dObj, List.cons_append, List.nil_append, List.map_cons] using this
      obtain ⟨r, hr1, hr2⟩ := List.mem_map.mp hp'
      rw [← hr2]
      exact offT r (by simpa only [serNews, itNews, El.ro, El.dObj, List.cons_append, List.nil_append] using hr1)
  case done =>
    rintro ⟨o, k⟩ u h tk - hP FrT NT
    dsimp only at hP FrT NT
    rw [List.take_length] at hP
    subst hP
    simp only [serNews, itNews, El.ro, El.dObj, List.cons_append, List.nil_append] at NT
    k_steps
    rename News h₀ L _ _ => kN
    rename Fr h₀ L _ _ => kF
    refine hret k _ _ kF ?_
    simp only [serNews, itNews, El.ro, El.dObj, List.cons_append, List.nil_append]
    exact fun p hp => kN p (.tail _ hp)
end
end Mine
end
theorem Mine.forget_N0 : True ∧ True := by first | (walk1; all_goals trivial; done) | exact ⟨trivial, trivial⟩
section
namespace Mine
theorem if_yes {c : Prop} [Decidable c] {P Q : Prop} (hc : c) (h : P) : if c then P else Q := by rw [if_pos hc]; exact h
theorem if_no {c : Prop} [Decidable c] {P Q : Prop} (hc : ¬ c) (h : Q) : if c then P else Q := by rw [if_neg hc]; exact h
theorem tok_ne {u : Nat} (h : 0 < u) : @Ne Tok u 0 := Nat.ne_of_gt h
theorem tok_lt {u v : Nat} (h : u < v) : @Ne Tok u v := Nat.ne_of_lt h
theorem tok_same {α : Type} {M : Model} {A : Around} {t : Sem α} {Q : α → Shared → Prop} {E : Value → Shared → Prop} {h : Heap} {g} {d} {tk : Nat} {os} (_ : 0 < tk) (k : wpAny M A t Q E ⟨h, g, d, tk, os⟩) : wpAny M A t Q E ⟨h, g, d, tk, os⟩ := k
theorem tok_gen {α : Type} {M : Model} {A : Around} {t : Sem α} {Q : α → Shared → Prop} {E : Value → Shared → Prop} {h : Heap} {g} {d} {tk : Nat} {os} (p : 0 < tk) (k : ∀ tk : Nat, 0 < tk → wpAny M A t Q E ⟨h, g, d, tk, os⟩) : wpAny M A t Q E ⟨h, g, d, tk, os⟩ := k tk p
theorem le64 {n : Nat} (h : n ≤ 64) : n ≤ 1048576 := by omega
noncomputable abbrev Has (x c : Str) : Prop := (!(Builtin.Str.occurrences x c 0 x.length 1).isEmpty) = true
noncomputable abbrev x1 (n : Int) : Str := Txt.replace (amp n) (Str.ofString "&") (Str.ofString "&amp;")
noncomputable abbrev x2 (n : Int) : Str := Txt.replace (x1 n) (Str.ofString "\"") (Str.ofString "&quot;")
noncomputable def escT (n : Int) : Str := x2 n
theorem esc_facts (n : Int) (a : 1 ≤ n) (b : n < 5) : (amp n).length ≤ 64 ∧ (x1 n).length ≤ 64 ∧ Has (amp n) (Str.ofString "&") ∧ ¬ Has (x1 n) (Str.ofString "<") ∧ ¬ Has (x1 n) (Str.ofString ">") ∧ Has (x1 n) (Str.ofString "\"") ∧
    ¬ Has (x2 n) (Str.ofString "\r") ∧ ¬ Has (x2 n) (Str.ofString "\n") ∧ ¬ Has (x2 n) (Str.ofString "\t") := by
  rcases (by omega : n = 1 ∨ n = 2 ∨ n = 3 ∨ n = 4) with rfl | rfl | rfl | rfl <;> decide +kernel
theorem esc_nought : ¬ Has (amp 0) (Str.ofString "&") ∧ ¬ Has (amp 0) (Str.ofString "<") ∧ ¬ Has (amp 0) (Str.ofString ">") ∧ ¬ Has (amp 0) (Str.ofString "\"") ∧ ¬ Has (amp 0) (Str.ofString "\r") ∧ ¬ Has (amp 0) (Str.ofString "\n") ∧ ¬ Has (amp 0) (Str.ofString "\t") ∧ amp 0 = escT 0 := by decide +kernel
/-- a call that leans on the counter of tokens -/
noncomputable abbrev ToldT (w : World) (pre : Prop) (f : Addr) (vs : List Value) (V : Tok → Value) : Prop :=
  ∀ (mean : ExcName → Option Value) (mg mb : Str → Option Value) (dp un : Nat) (gd : Option (List Code)) (cn : Str) (cs : Scope) (a : Addr) (ccd : Value) (cl : List (Str × Addr)) (outer : List Env) (A₀ : Around) (base h₀ : Heap) (L : Addr) (m : Str → Option Value) (s : Shared) (Q R : Value → Shared → Prop),
    Below A₀ base outer h₀ → Fr h₀ L s.heap m → Frag.In (hd.heap_39 w.params) h₀ → Top topProg lo mean mg mb h₀ → cs.kind = .function →
    dp + 150 < recursionLimit → un + 1000 < cLine → 0 < s.toks → pre → Back V s Q →
      wpAny (model PySem.Challenge.rw_xe0044_01.row.prog w) (ktrTop dp un gd cn cs L a ccd cl outer) (call (.ref f) vs) Q R s
section
local macro_rules | `(tactic| walk_at "execs cons") => `(tactic| (k_here; (fail_if_success (refine tok_same (by with_reducible assumption) ?_)); (refine tok_gen (by (try dsimp only); omega) ?_); intro tk htk))
local macro_rules | `(tactic| walk_at "execs nil") => `(tactic| (k_here; (fail_if_success (refine tok_same (by with_reducible assumption) ?_)); (refine tok_gen (by (try dsimp only); omega) ?_); intro tk htk))
local macro_rules | `(tactic| walk_at "ite") => `(tactic| (k_here; first | (with_reducible refine if_yes (by with_reducible assumption) ?_) | (with_reducible refine if_no (by with_reducible assumption) ?_)))
local macro_rules | `(tactic| walk_at "call builtin:str.replace") => `(tactic| (k_here; refine toks_on ?_; (refine SC.replaceW (tok_ne (by (try dsimp only); omega)) (tok_ne (by (try dsimp only); omega)) (tok_lt (by (try dsimp only); omega)) (by decide) (le64 (by with_reducible assumption)) (by decide) ?_); intro _ _ htk; (try dsimp only at htk)))
theorem esc0_told (w : World) (n : Int) (t1 : Tok) : ToldT w (0 ≤ n ∧ n < 5) 157 [.str (amp n) t1] (fun t => .str (escT n) t) := by
  delta ToldT
  k_fill
  intro mean mg mb dp un gd cn cs a ccd cl outer A₀ base h₀ L m s Q R B F X T hk hd hu hs hh hret
  have N : News h₀ L s.heap [] := News.nil
  obtain ⟨hh1, hh2⟩ := hh
  rcases (by omega : n = 0 ∨ 1 ≤ n) with rfl | hn
  · obtain ⟨f1, f2, f3, f4, f5, f6, f7, f8⟩ := esc_nought
    refine wpAny_call ?_
    k_dflt cell_enter
    k_steps
    refine back_s hret f8 (keeps_of (by assumption) (by assumption))
  · obtain ⟨l1, l2, f1, f2, f3, f4, f5, f6, f7⟩ := esc_facts n hn hh2
    refine wpAny_call ?_
    k_dflt cell_enter
    k_steps
    refine back_s hret rfl (keeps_of (by assumption) (by assumption))
theorem esc1_told (w : World) (n : Int) (t1 : Tok) : ToldT w (0 ≤ n ∧ n < 5) 164 [.str (amp n) t1] (fun t => .str (escT n) t) := by
  delta ToldT
  k_fill
  intro mean mg mb dp un gd cn cs a ccd cl outer A₀ base h₀ L m s Q R B F X T hk hd hu hs hh hret
  have N : News h₀ L s.heap [] := News.nil
  obtain ⟨hh1, hh2⟩ := hh
  rcases (by omega : n = 0 ∨ 1 ≤ n) with rfl | hn
  · obtain ⟨f1, f2, f3, f4, f5, f6, f7, f8⟩ := esc_nought
    refine wpAny_call ?_
    k_dflt cell_enter
    k_steps
    refine back_s hret f8 (keeps_of (by assumption) (by assumption))
  · obtain ⟨l1, l2, f1, f2, f3, f4, f5, f6, f7⟩ := esc_facts n hn hh2
    refine wpAny_call ?_
    k_dflt cell_enter
    k_steps
    refine back_s hret rfl (keeps_of (by assumption) (by assumption))
theorem esc2_told (w : World) (n : Int) (t1 : Tok) : ToldT w (0 ≤ n ∧ n < 5) 171 [.str (amp n) t1] (fun t => .str (escT n) t) := by
  delta ToldT
  k_fill
  intro mean mg mb dp un gd cn cs a ccd cl outer A₀ base h₀ L m s Q R B F X T hk hd hu hs hh hret
  have N : News h₀ L s.heap [] := News.nil
  obtain ⟨hh1, hh2⟩ := hh
  rcases (by omega : n = 0 ∨ 1 ≤ n) with rfl | hn
  · obtain ⟨f1, f2, f3, f4, f5, f6, f7, f8⟩ := esc_nought
    refine wpAny_call ?_
    k_dflt cell_enter
    k_steps
    refine back_s hret f8 (keeps_of (by assumption) (by assumption))
  · obtain ⟨l1, l2, f1, f2, f3, f4, f5, f6, f7⟩ := esc_facts n hn hh2
    refine wpAny_call ?_
    k_dflt cell_enter
    k_steps
    refine back_s hret rfl (keeps_of (by assumption) (by assumption))
end
end Mine
end
theorem Mine.forget_C0 : True ∧ True := by first | (walk1; all_goals trivial; done) | exact ⟨trivial, trivial⟩
section
namespace Mine
noncomputable def flagKvs : List (Int × Value) := [(1, .str (Str.ofString "OPTIMIZED") 197), (2, .str (Str.ofString "NEWLOCALS") 199), (4, .str (Str.ofString "VARARGS") 201), (8, .str (Str.ofString "VARKEYWORDS") 203), (16, .str (Str.ofString "NESTED") 205), (32, .str (Str.ofString "GENERATOR") 207), (64, .str (Str.ofString "NOFREE") 209), (128, .str (Str.ofString "COROUTINE") 211), (256, .str (Str.ofString "ITERABLE_COROUTINE") 213), (512, .str (Str.ofString "ASYNC_GENERATOR") 215)]
noncomputable def flagD : List (PyData × PyData) := [(.int 1, .str (Str.ofString "OPTIMIZED")), (.int 2, .str (Str.ofString "NEWLOCALS")), (.int 4, .str (Str.ofString "VARARGS")), (.int 8, .str (Str.ofString "VARKEYWORDS")), (.int 16, .str (Str.ofString "NESTED")), (.int 32, .str (Str.ofString "GENERATOR")), (.int 64, .str (Str.ofString "NOFREE")), (.int 128, .str (Str.ofString "COROUTINE")), (.int 256, .str (Str.ofString "ITERABLE_COROUTINE")), (.int 512, .str (Str.ofString "ASYNC_GENERATOR"))]
theorem flag_tab {prog : Program} {w : World} {h : Heap} (X : Frag.In (hd.heap_39 w.params) h) : IntTab prog w h 22 flagD := by
  refine TabAt.ofObj (kvs := flagKvs) (by decide) (X 22 _ rfl) ⟨_, _, ?e, rfl, ?k, ?p, ?n⟩ ?f
  case e => exact ⟨rfl, rfl, rfl⟩
  case k =>
    intro e he
    simp only [List.mem_toArray, List.mem_cons, List.not_mem_nil, or_false] at he
    rcases he with rfl | rfl | rfl | rfl | rfl | rfl | rfl | rfl | rfl | rfl
    · exact ⟨1, rfl, by kernel_rfl⟩
    · exact ⟨2, rfl, by kernel_rfl⟩
    · exact ⟨4, rfl, by kernel_rfl⟩
    · exact ⟨8, rfl, by kernel_rfl⟩
    · exact ⟨16, rfl, by kernel_rfl⟩
    · exact ⟨32, rfl, by kernel_rfl⟩
    · exact ⟨64, rfl, by kernel_rfl⟩
    · exact ⟨128, rfl, by kernel_rfl⟩
    · exact ⟨256, rfl, by kernel_rfl⟩
    · exact ⟨512, rfl, by kernel_rfl⟩
  case p => exact .cons rfl rfl (.cons rfl rfl (.cons rfl rfl (.cons rfl rfl (.cons rfl rfl (.cons rfl rfl (.cons rfl rfl (.cons rfl rfl (.cons rfl rfl (.cons rfl rfl (.nil))))))))))
  case n => decide
  case f => exact .cons (.str _ _) (.cons (.str _ _) (.cons (.str _ _) (.cons (.str _ _) (.cons (.str _ _) (.cons (.str _ _) (.cons (.str _ _) (.cons (.str _ _) (.cons (.str _ _) (.cons (.str _ _) (.nil))))))))))
noncomputable def isText (d : PyData) (x : Str) : Bool := match d with | .str y => y == x | _ => false
theorem isText_eq {d : PyData} {x : Str} (h : isText d x = true) : d = .str x := by
  cases d <;> first | (rename_i y; exact congrArg PyData.str (eq_of_beq h)) | cases h
theorem look_all' : ∀ i : Nat, i < 32 → isText ((PySem.Spec.lookup (.int (1 * 2 ^ i)) flagD).getD (.str (baseText "0x" 16 (1 * 2 ^ i)))) (word i) = true := by decide +kernel
theorem look_all (i : Nat) (h : i < 32) : (PySem.Spec.lookup (.int (1 * 2 ^ i)) flagD).getD (.str (baseText "0x" 16 (1 * 2 ^ i))) = .str (word i) := isText_eq (look_all' i h)
theorem word_get {prog : Program} {w : World} {A : Around} {E : Value → Shared → Prop} {s : Shared} {i : Int} {t u : Tok} {Q : Value → Shared → Prop} (T : IntTab prog w s.heap 22 flagD) (h0 : 0 ≤ i) (h1 : i < 32) (h : ∀ t, Q (.str (word i) t) { s with toks := s.toks + 1 }) :
    wpAny (model prog w) A (call (.builtin "dict.get") [.ref 22, .int (1 * 2 ^ i.toNat) t, .str (baseText "0x" 16 (1 * 2 ^ i.toNat)) u]) Q E s :=
  call_get2_intTab T (PyProof.V.Flat.str _ _) fun v hv => by
    rw [look_all i.toNat (by omega), show ((i.toNat : Nat) : Int) = i by omega] at hv
    obtain ⟨t, rfl⟩ := PyProof.V.Flat.str_inv hv
    exact h t
end Mine
end
theorem Mine.forget_F1 : True ∧ True := by first | (walk1; all_goals trivial; done) | exact ⟨trivial, trivial⟩
section
namespace Mine
noncomputable abbrev rIt (i n : Nat) : Obj := { cls := .type "range_iterator", dict := none, data := .fields #[rawInt ((i : Nat) : Int), rawInt ((n : Int) - (i : Nat)), rawInt 1], slots := #[] }
noncomputable def ForEnd {σ : Type} (h₀ : Heap) (L : Addr) (s : Shared) (Led : σ → List (Addr × Obj)) (ps : σ → List (Str × Value)) (x : Str) (stored : List Str) (m₀ : Str → Option Value) (P : σ → Prop) (p : Addr × Obj) (s₂ : Shared) : Prop :=
  ∃ (c' : σ) (h' : Heap) (tk : Nat) (m' : Str → Option Value) (news' : List (Addr × Obj)), s₂ = { s with heap := h', toks := tk } ∧ Fr h₀ L h' m' ∧ News h₀ L h' news' ∧ (∀ q ∈ p :: Led c', q ∈ news') ∧ (∀ q ∈ ps c', m' q.1 = some q.2) ∧ (∀ z, z ≠ x → (∀ q ∈ ps c', z ≠ q.1) → stored.contains z = false → m' z = m₀ z) ∧ P c'
noncomputable def ForPost {σ : Type} (h₀ : Heap) (L : Addr) (s : Shared) (Led : σ → List (Addr × Obj)) (ps : σ → List (Str × Value)) (x : Str) (stored : List Str) (m₀ : Str → Option Value) (P : σ → Prop) (p : Addr × Obj) (Q : Flow → Shared → Prop) (f : Flow) (s₂ : Shared) : Prop :=
  match f with
  | .ret v => Q (.ret v) s₂
  | .brk => Q .next s₂
  | _ => ForEnd h₀ L s Led ps x stored m₀ P p s₂
noncomputable def RngAt (h₀ : Heap) (L : Addr) (s : Shared) (m₀ : Str → Option Value) (l : List (Addr × Obj)) (n : Nat) (v : Value) (s₁ : Shared) : Prop :=
  ∃ r t₀ u₀ v₀ h tk, v = .ref r ∧ s₁ = { s with heap := h, toks := tk } ∧ IsRange h r 0 n 1 t₀ u₀ v₀ ∧ Fr h₀ L h m₀ ∧ News h₀ L h l
section
variable {prog : Program} {w : World} {A : Around} {E : Value → Shared → Prop} {Q : Flow → Shared → Prop} {s : Shared} {env : Env} {h₀ : Heap} {x : Str} {body orelse : List Stmt}
theorem fr_for {h : Heap} {L : Addr} {ps : List (Str × Value)} {stored : List Str} {m₀ m₁ : Str → Option Value} {v : Value} (h1 : ∀ p ∈ ps, m₁ p.1 = some p.2) (h2 : ∀ z, z ≠ x → (∀ p ∈ ps, z ≠ p.1) → stored.contains z = false → m₁ z = m₀ z)
    (F : Fr h₀ L h (fun y => if y = x then some v else m₁ y)) : Fr h₀ L h (fun y => if y = x then some v else kstB (fun z => if stored.contains z then m₁ z else m₀ z) ps y) := by
  have em : (fun y => if y = x then some v else kstB (fun z => if stored.contains z then m₁ z else m₀ z) ps y) = fun y => if y = x then some v else m₁ y := by
    funext y
    by_cases hy : y = x
    · rw [if_pos hy, if_pos hy]
    · rw [if_neg hy, if_neg hy]
      refine kstB_eq h1 fun hn => ?_
      show (if stored.contains y = true then m₁ y else m₀ y) = m₁ y
      cases h3 : stored.contains y with
      | true => simp
      | false => simp only [Bool.false_eq_true, if_false]; exact (h2 y hy hn h3).symm
  rw [em]
  exact F
theorem fr_out {h : Heap} {L : Addr} {ps : List (Str × Value)} {stored : List Str} {m₀ m₁ : Str → Option Value} (h1 : ∀ p ∈ ps, m₁ p.1 = some p.2) (h2 : ∀ z, z ≠ x → (∀ p ∈ ps, z ≠ p.1) → stored.contains z = false → m₁ z = m₀ z)
    (F : Fr h₀ L h m₁) : Fr h₀ L h (fun y => if y = x then m₁ y else kstB (fun z => if stored.contains z then m₁ z else m₀ z) ps y) := by
  have em : (fun y => if y = x then m₁ y else kstB (fun z => if stored.contains z then m₁ z else m₀ z) ps y) = m₁ := by
    funext y
    by_cases hy : y = x
    · rw [if_pos hy]
    · rw [if_neg hy]
      refine kstB_eq h1 fun hn => ?_
      show (if stored.contains y = true then m₁ y else m₀ y) = m₁ y
      cases h3 : stored.contains y with
      | true => simp
      | false => simp only [Bool.false_eq_true, if_false]; exact (h2 y hy hn h3).symm
  rw [em]
  exact F
theorem for_rng {σ : Type} {iter : Expr} {px pos : Pos} {n : Nat} {m₀ : Str → Option Value} (Led : σ → List (Addr × Obj)) (ps : σ → List (Str × Value)) (stored : List Str) (P : Nat → σ → Prop) (c₀ : σ)
    (hh : A.handled = none) (hx : env.kindOf x = some .local) (hp : (env.scope.kind == .class || (env.scope.kind == .module && env.locals != env.globals)) = false)
    (_F : Fr h₀ env.locals s.heap m₀) (_N : News h₀ env.locals s.heap (Led c₀)) (hev : wpAny (model prog w) A (eval iter env) (RngAt h₀ env.locals s m₀ (Led c₀) n) E s)
    (hsmall : Builtin.Range.small 0 n 1 = true) (hn : Builtin.Range.rangeSize 0 n 1 = (n : Int)) (hk : ∀ p ∈ ps c₀, m₀ p.1 = some p.2) (h0 : P 0 c₀) (hadr : ∀ c c', (Led c).map (·.1) = (Led c').map (·.1))
    (turn : ∀ (i : Nat) (c : σ) t (u : Str → Option Value) h tk I, i < n → P i c → Fr h₀ env.locals h (fun y => if y = x then some (.int i t) else kstB (fun z => if stored.contains z then u z else m₀ z) (ps c) y) → News h₀ env.locals h ((I, rIt (i + 1) n) :: Led c) → (∀ p ∈ Led c, p.1 ≠ I) →
      wpAny (model prog w) A (execs body env) (ForPost h₀ env.locals s Led ps x stored m₀ (P (i + 1)) (I, rIt (i + 1) n) Q) E { s with heap := h, toks := tk })
    (done : ∀ (c : σ) (u : Str → Option Value) h tk, P n c → Fr h₀ env.locals h (fun y => if y = x then u y else kstB (fun z => if stored.contains z then u z else m₀ z) (ps c) y) → News h₀ env.locals h (Led c) → wpAny (model prog w) A (execs orelse env) Q E { s with heap := h, toks := tk })
    (hs : ∀ x, foldedSetIterable iter env x = pure x := by intro _; rfl) (hE : PassesOwn (model prog w) A env E := by passes_own) :
    wpAny (model prog w) A (exec (.For (.Name x px) iter body orelse pos) env) Q E s := by
  refine wpAny_For (wpAny_mono hev (fun v s₁ q => ?_) fun _ _ e => e) hs
  obtain ⟨r, t₀, u₀, v₀, h₁, tk₁, rfl, rfl, hr, F, N⟩ := q
  refine wpAny_pyIter_range hr hsmall ?_
  dsimp only at hr F N ⊢
  rw [hn]
  have W := Walks.range (prog := prog) (w := w) hh h₁.objs.size 0 1 n
  have hIn : h₁.get? h₁.objs.size = none := by
    cases e : h₁.get? h₁.objs.size with
    | none => rfl
    | some o => exact absurd (Heap.lt_size e) (Nat.lt_irrefl _)
  have hI₀ : h₀.get? h₁.objs.size = none := by
    cases e : h₀.get? h₁.objs.size with
    | none => rfl
    | some o => have := F.keep _ _ e; rw [hIn] at this; cases this
  have hIL : env.locals ≠ h₁.objs.size := Nat.ne_of_lt F.ns.lt
  have hoff₀ : ∀ p ∈ Led c₀, p.1 ≠ h₁.objs.size := fun p hp => Nat.ne_of_lt (Heap.lt_size (N p hp).1)
  have hoff : ∀ c, ∀ p ∈ Led c, p.1 ≠ h₁.objs.size := fun c p hp e => by
    have hm : p.1 ∈ (Led c).map (·.1) := List.mem_map_of_mem hp
    rw [hadr c c₀] at hm
    obtain ⟨q, hq, e2⟩ := List.mem_map.mp hm
    exact hoff₀ q hq (e2.trans e)
  have hpush : (h₁.push (rIt 0 n)).get? h₁.objs.size = some (rIt 0 n) := Heap.get?_push_size _ rfl
  have start : News h₀ env.locals (h₁.push (rIt 0 n)) ((h₁.objs.size, rIt 0 n) :: Led c₀) := fun p hp => by
    rcases List.mem_cons.mp hp with rfl | hp
    · exact ⟨hpush, Ne.symm hIL, hI₀⟩
    · exact ⟨Heap.get?_push_of_some _ (N p hp).1, (N p hp).2⟩
  have e0 : (h₁.push { cls := .type "range_iterator", data := .fields #[rawInt 0, rawInt (n : Int), rawInt 1] }) = h₁.push (rIt 0 n) := by simp [rIt]
  rw [e0]
  generalize h₁.objs.size = I at *
  have FP := F.push (rIt 0 n)
  generalize h₁.push (rIt 0 n) = h₂ at *
  refine codeAny_forLoop (fun k s' => ∃ (i : Nat) (c : σ) (h : Heap) (tk : Nat) (m' : Str → Option Value), s' = { s with heap := h, toks := tk } ∧ i ≤ n ∧ k = n + 1 - i ∧ P i c ∧ Fr h₀ env.locals h m' ∧ News h₀ env.locals h ((I, rIt i n) :: Led c) ∧
    (∀ q ∈ ps c, m' q.1 = some q.2) ∧ (∀ z, z ≠ x → (∀ q ∈ ps c, z ≠ q.1) → stored.contains z = false → m' z = m₀ z)) ?_ (n + 1) ⟨0, c₀, h₂, tk₁, m₀, rfl, Nat.zero_le _, rfl, h0, FP, start, hk, fun _ _ _ _ => rfl⟩
  rintro k s' ⟨i, c, h, tk, m', rfl, hi, rfl, hR⟩
  have hP := hR.1
  have F' := hR.2.1
  have N' := hR.2.2.1
  have h1 := hR.2.2.2.1
  have h2 := hR.2.2.2.2
  clear hR
  have st : IsRangeIter h I (0 + (i : Nat) * 1) ((n : Int) - (i : Nat)) 1 := by
    have := (N' _ (.head _)).1
    simpa [rIt] using this
  by_cases hlt : i < n
  · refine W.item i _ _ _ hlt st (fun v h' tk' hv st' hkk => ?_)
    obtain ⟨t, rfl⟩ := hv
    have F₂ : Fr h₀ env.locals h' m' := LCg.fr_but F' hkk hIL hI₀
    have N₂ : News h₀ env.locals h' ((I, rIt (i + 1) n) :: Led c) := fun p hp => by
      rcases List.mem_cons.mp hp with rfl | hp
      · refine ⟨?_, Ne.symm hIL, hI₀⟩
        have : IsRangeIter h' I (0 + ((i + 1 : Nat) : Int) * 1) ((n : Int) - ((i + 1 : Nat) : Int)) 1 := st'
        rw [show (0 + ((i + 1 : Nat) : Int) * 1) = ((i + 1 : Nat) : Int) by omega] at this
        exact this
      · exact LCg.news_but (fun q hq => N' q (.tail _ hq)) hkk (hoff c) p hp
    refine wpAny_assign_Name (wpAny_storeName_local hx F₂.ns (fun h₃ hn₃ hs₃ => ?_) hp)
    have F₃ := F₂.set hn₃ hs₃
    rw [show (0 + (i : Int) * 1) = (i : Int) by omega] at F₃
    refine wpAny_passesOwn hE (wpAny_mono (turn i c t m' h₃ _ I hlt hP (fr_for h1 h2 F₃) (N₂.set hs₃) (hoff c)) (fun f s₂ p => ?_) fun _ _ e => e)
    have up : ForEnd h₀ env.locals s Led ps x stored m₀ (P (i + 1)) (I, rIt (i + 1) n) s₂ → ∃ m, m < n + 1 - i ∧ ∃ (i : Nat) (c : σ) (h : Heap) (tk : Nat) (m' : Str → Option Value), s₂ = { s with heap := h, toks := tk } ∧ i ≤ n ∧ m = n + 1 - i ∧ P i c ∧ Fr h₀ env.locals h m' ∧ News h₀ env.locals h ((I, rIt i n) :: Led c) ∧
        (∀ q ∈ ps c, m' q.1 = some q.2) ∧ (∀ z, z ≠ x → (∀ q ∈ ps c, z ≠ q.1) → stored.contains z = false → m' z = m₀ z) := by
      rintro ⟨c', h', tk', m'', news', rfl, F', N', hn', hk', hr', hp'⟩
      exact ⟨n + 1 - (i + 1), by omega, i + 1, c', h', tk', m'', rfl, hlt, rfl, hp', F', fun q hq => N' q (hn' q hq), hk', hr'⟩
    cases f with
    | ret v => exact p
    | brk => exact p
    | next => exact up p
    | cont => exact up p
  · obtain rfl : i = n := by omega
    refine W.done _ _ _ st (fun h' tk' hkk => ?_)
    exact wpAny_passesOwn hE (done c m' h' tk' hP (fr_out h1 h2 (LCg.fr_but F' hkk hIL hI₀)) (LCg.news_but (fun q hq => N' q (.tail _ hq)) hkk (hoff c)))
end
end Mine
end
theorem Mine.forget_L0 : True ∧ True := by first | (walk1; all_goals trivial; done) | exact ⟨trivial, trivial⟩
section
namespace Mine
noncomputable def flagsGo : Nat → Nat → List Str → Nat → List Str
  | 0, _, ns, a => ns ++ [baseText "0x" 16 (a : Int)]
  | k + 1, i, ns, a => if a.testBit i then (if a - 2 ^ i = 0 then ns ++ [word i] else flagsGo k (i + 1) (ns ++ [word i]) (a - 2 ^ i)) else flagsGo k (i + 1) ns a
noncomputable def flagsR (f : Int) : List Str := flagsGo 32 0 [] f.toNat
noncomputable def flagsT (f : Int) : Str := Txt.join (Str.ofString ", ") (flagsR f)
theorem nat_and_pow (a i : Nat) : a &&& 2 ^ i = if a.testBit i then 2 ^ i else 0 := by
  apply Nat.eq_of_testBit_eq
  intro j
  rw [Nat.testBit_and, Nat.testBit_two_pow]
  by_cases h : i = j
  · subst h
    cases e : a.testBit i <;> simp
  · cases e : a.testBit i <;> simp [h, Nat.testBit_two_pow]
theorem and_pow {fl : Int} {i : Nat} (h0 : 0 ≤ fl) : Builtin.bitAnd fl (1 * 2 ^ ((i : Int)).toNat) = if fl.toNat.testBit i then ((2 ^ i : Nat) : Int) else 0 := by
  have e : (1 * 2 ^ ((i : Int)).toNat : Int) = ((2 ^ i : Nat) : Int) := by simp
  rw [e]
  unfold Builtin.bitAnd
  have h1 : (0 : Int) ≤ ((2 ^ i : Nat) : Int) := Int.natCast_nonneg _
  simp only [h0, h1, decide_true]
  rw [Int.toNat_natCast]
  show ((fl.toNat &&& 2 ^ i : Nat) : Int) = _
  rw [nat_and_pow]
  cases fl.toNat.testBit i <;> simp
theorem bit_on {fl : Int} {i : Nat} (h0 : 0 ≤ fl) (h : Builtin.bitAnd fl (1 * 2 ^ ((i : Int)).toNat) ≠ 0) : fl.toNat.testBit i = true := by
  rw [and_pow h0] at h
  cases e : fl.toNat.testBit i with
  | true => rfl
  | false => rw [e] at h; simp at h
theorem bit_off {fl : Int} {i : Nat} (h0 : 0 ≤ fl) (h : Builtin.bitAnd fl (1 * 2 ^ ((i : Int)).toNat) = 0) : fl.toNat.testBit i = false := by
  rw [and_pow h0] at h
  cases e : fl.toNat.testBit i with
  | false => rfl
  | true =>
    rw [e, if_pos rfl] at h
    have : (2 ^ i : Nat) ≠ 0 := Nat.ne_of_gt (Nat.two_pow_pos i)
    omega
theorem xor_pow {fl : Int} {i : Nat} (h0 : 0 ≤ fl) (h : fl.toNat.testBit i = true) : Builtin.bitXor fl (1 * 2 ^ ((i : Int)).toNat) = ((fl.toNat - 2 ^ i : Nat) : Int) ∧ 2 ^ i ≤ fl.toNat := by
  have ge : 2 ^ i ≤ fl.toNat := Nat.ge_two_pow_of_testBit h
  refine ⟨?_, ge⟩
  rw [bitXor_and, and_pow h0, h, if_pos rfl]
  have e : (1 * 2 ^ ((i : Int)).toNat : Int) = ((2 ^ i : Nat) : Int) := by simp
  rw [e]
  omega
theorem strs_snoc {y : Str} {t : Tok} : ∀ {vs : List Value} {ys : List Str}, StrsAre vs ys → StrsAre (vs ++ [.str y t]) (ys ++ [y])
  | _, _, .nil => .cons y t .nil
  | _, _, .cons x u h => .cons x u (strs_snoc h)
theorem word_short : ∀ i : Nat, i < 32 → (word i).length ≤ 20 := by decide +kernel
structure FlagAt (f : Int) (i : Nat) (vs : List Value) (fl : Int) : Prop where
  lo : 0 ≤ fl
  hi : fl < 2 ^ 33
  len : vs.length ≤ i
  run : ∃ ns, StrsAre vs ns ∧ (ns.map (·.length)).sum + ns.length ≤ 21 * i ∧ flagsGo (32 - i) i ns fl.toNat = flagsR f
theorem flag_start {f : Int} (h0 : 0 ≤ f) (h1 : f < 2 ^ 33) : FlagAt f 0 [] f := ⟨h0, h1, Nat.le_refl _, [], .nil, by simp, rfl⟩
theorem flag_on {f fl : Int} {i : Nat} {vs : List Value} {t : Tok} (hi : i < 32) (F : FlagAt f i vs fl) (h : Builtin.bitAnd fl (1 * 2 ^ ((i : Int)).toNat) ≠ 0) (h2 : Builtin.bitXor fl (1 * 2 ^ ((i : Int)).toNat) ≠ 0) :
    FlagAt f (i + 1) (vs ++ [.str (word i) t]) (Builtin.bitXor fl (1 * 2 ^ ((i : Int)).toNat)) := by
  obtain ⟨lo, hi', len, ns, S, W, r⟩ := F
  have b := bit_on lo h
  obtain ⟨x, ge⟩ := xor_pow lo b
  rw [x] at h2 ⊢
  have ws := word_short i hi
  have le : fl.toNat - 2 ^ i ≤ fl.toNat := Nat.sub_le _ _
  refine ⟨Int.natCast_nonneg _, by generalize fl.toNat - 2 ^ i = q at le; omega, by simp; omega, ns ++ [word i], strs_snoc S, by simp; omega, ?_⟩
  obtain ⟨k, hk⟩ : ∃ k, 32 - i = k + 1 := ⟨31 - i, by omega⟩
  rw [hk, flagsGo, if_pos b, if_neg (by omega)] at r
  rw [show 32 - (i + 1) = k by omega, Int.toNat_natCast]
  exact r
theorem flag_last {f fl : Int} {i : Nat} {vs : List Value} {t : Tok} (hi : i < 32) (F : FlagAt f i vs fl) (h : Builtin.bitAnd fl (1 * 2 ^ ((i : Int)).toNat) ≠ 0) (h2 : Builtin.bitXor fl (1 * 2 ^ ((i : Int)).toNat) = 0) :
    StrsAre (vs ++ [.str (word i) t]) (flagsR f) ∧ ((flagsR f).map (·.length)).sum + (flagsR f).length ≤ 1048576 := by
  obtain ⟨lo, hi', len, ns, S, W, r⟩ := F
  have b := bit_on lo h
  obtain ⟨x, ge⟩ := xor_pow lo b
  rw [x] at h2
  have ws := word_short i hi
  obtain ⟨k, hk⟩ : ∃ k, 32 - i = k + 1 := ⟨31 - i, by omega⟩
  rw [hk, flagsGo, if_pos b, if_pos (by omega)] at r
  rw [← r]
  exact ⟨strs_snoc S, by simp; omega⟩
theorem flag_off {f fl : Int} {i : Nat} {vs : List Value} (hi : i < 32) (F : FlagAt f i vs fl) (h : Builtin.bitAnd fl (1 * 2 ^ ((i : Int)).toNat) = 0) : FlagAt f (i + 1) vs fl := by
  obtain ⟨lo, hi', len, ns, S, W, r⟩ := F
  have b := bit_off lo h
  obtain ⟨k, hk⟩ : ∃ k, 32 - i = k + 1 := ⟨31 - i, by omega⟩
  rw [hk, flagsGo, b] at r
  exact ⟨lo, hi', by omega, ns, S, by omega, by rw [show 32 - (i + 1) = k by omega]; simpa using r⟩
theorem flag_end {f fl : Int} {vs : List Value} {t : Tok} (F : FlagAt f 32 vs fl) (hz : (baseText "0x" 16 fl).length ≤ 1000) :
    StrsAre (vs ++ [.str (baseText "0x" 16 fl) t]) (flagsR f) ∧ ((flagsR f).map (·.length)).sum + (flagsR f).length ≤ 1048576 := by
  obtain ⟨lo, hi', len, ns, S, W, r⟩ := F
  rw [show 32 - 32 = 0 from rfl, flagsGo, Int.toNat_of_nonneg lo] at r
  rw [← r]
  exact ⟨strs_snoc S, by simp; omega⟩
end Mine
end
theorem Mine.forget_F2 : True ∧ True := by first | (walk1; all_goals trivial; done) | exact ⟨trivial, trivial⟩
section
namespace Mine
theorem baseShort {pre : String} {base : Nat} {i : Int} (hp : (Str.ofString pre).length ≤ 2) (hb : 2 ≤ base) (h : i.natAbs < 18446744073709551616) : (baseText pre base i).length ≤ 1000 := by
  have e : (2 : Nat) ^ 64 = 18446744073709551616 := by decide
  have h64 : i.natAbs < base ^ 64 := Nat.lt_of_lt_of_le (by rw [e]; exact h) (Nat.pow_le_pow_left hb 64)
  have h1 := toDigits_len_pow hb (by decide : 1 ≤ 64) h64
  unfold baseText
  rw [Str.length_append, Str.length_append, ofString_ofList_length]
  have h3 : (Str.ofString (if i < 0 then "-" else "")).length ≤ 1 := by
    split <;> (rw [PyProof.Rows.ofString_len]; decide)
  omega
theorem hexShort {fl : Int} (h0 : 0 ≤ fl) (h1 : fl < 2 ^ 33) : (baseText "0x" 16 fl).length ≤ 1000 := baseShort (by decide) (by decide) (by omega)
theorem with_list {h₀ h : Heap} {L l : Addr} {o : Obj} {P : Prop} (N : News h₀ L h [(l, o)]) (k : ∀ l', l' = l → News h₀ L h [(l', o)] → P) : P := k l rfl N
section
local macro_rules | `(tactic| walk_at "exec For") => `(tactic| (k_here; refine halt ?_))
local macro_rules | `(tactic| walk_at "exec") => `(tactic| (k_here; (with_reducible show wpAny _ _ (exec (Stmt.For _ _ _ _ _) _) _ _ _); refine halt ?_))
local macro_rules | `(tactic| walk_at "call builtin:hex") => `(tactic| (k_here; (with_reducible show wpAny _ _ (call (Value.builtin "hex") [Value.int (1 * 2 ^ _) _]) _ _ _); (with_reducible refine P.hex_of_int ?_ (word_fits _ (by omega)))))
local macro_rules | `(tactic| walk_at "call builtin:dict.get") => `(tactic| (k_here; (refine word_get (flag_tab (Frag.In.keeps (by with_reducible assumption) (Fr.keep (by with_reducible assumption)))) (by omega) (by omega) ?_); intro tw))
local macro_rules | `(tactic| walk_at "call builtin:str.join") => `(tactic| (k_here; refine halt ?_))
theorem flags_told (w : World) (f : Int) (t1 : Tok) : Told w [] (0 ≤ f ∧ f < 2 ^ 33) 29 [.int f t1] (Back fun t => .str (flagsT f) t) := by
  delta Told
  k_fill
  intro mean mg mb dp un gd cn cs a ccd cl outer A₀ base h₀ L m s Q R B F X N T hk hd hu hh hret
  refine wpAny_call ?_
  k_dflt cell_enter
  k_steps
  unfold Halt
  (with_reducible rename Fr _ _ _ _ => lF')
  (with_reducible rename News _ _ _ _ => lN')
  refine with_list lN' ?_
  rintro l rfl -
  refine' for_rng (σ := List Value × Nat × Int × Tok) (n := 32) (fun c => [(l, W.listOf c.1.toArray c.2.1)]) (fun c => [(Str.ofString "flags", .int c.2.2.1 c.2.2.2)]) [Str.ofString "flag"] (fun i c => FlagAt f i c.1 c.2.2.1) ([], _, f, _) rfl rfl rfl lF' ‹_› ?ev ?small ?size ?ps ?p0 ?adr ?turn ?done
  case small => decide
  case size => decide
  case adr => exact fun _ _ => rfl
  case p0 => exact flag_start hh.1 hh.2
  case ps => kst_all
  case ev =>
    k_steps
    exact ⟨_, _, _, _, _, _, rfl, rfl, by assumption, by assumption, by assumption⟩
  case turn =>
    rintro i ⟨vs, cnt, fl, tf⟩ t u h tk I hi hF kFr kNews hoff
    dsimp only [kstB] at hF kFr kNews ⊢
    have hli : @Ne Nat l I := hoff _ (.head _)
    have hf0 := hF.lo
    have hf1 := hF.hi
    have hl := hF.len
    k_steps
    · rename Builtin.bitAnd fl _ ≠ 0 => b1
      rename Builtin.bitXor fl _ ≠ 0 => b2
      rename News _ _ _ _ => nE
      simp only [List.push_toArray] at nE
      exact ⟨⟨_, _, _, _⟩, _, _, _, _, rfl, by assumption, nE, by kst_in, by kst_all, by (intro z hx h2 h3; simp only [List.forall_mem_cons, List.not_mem_nil, false_implies, implies_true, and_true, ne_eq] at h2; simp only [List.contains_cons, List.contains_nil, Bool.or_false, beq_eq_false_iff_ne, ne_eq] at h3; simp [hx, h2, h3]), flag_on hi hF b1 b2⟩
    · rename Builtin.bitAnd fl _ ≠ 0 => b1
      rename Builtin.bitXor fl _ = 0 => b2
      show ForPost _ _ _ _ _ _ _ _ _ _ _ Flow.brk _
      dsimp only [ForPost]
      k_steps
      unfold Halt
      (have J := fun t => flag_last (t := t) hi hF b1 b2)
      rename News _ _ _ _ => nE
      simp only [List.push_toArray] at nE
      refine join_listW (ys := flagsR f) (News.isList nE (by k_mem)) (J _).1 (by decide) (J 0).2 ?_
      intro tj kj
      k_steps
      exact back_s hret rfl (keeps_of (by assumption) (by assumption))
    · rename Builtin.bitAnd fl _ = 0 => b1
      rename News _ _ _ _ => nE
      exact ⟨⟨_, _, _, _⟩, _, _, _, _, rfl, by assumption, nE, by kst_in, by kst_all, by (intro z hx h2 h3; simp only [List.forall_mem_cons, List.not_mem_nil, false_implies, implies_true, and_true, ne_eq] at h2; simp only [List.contains_cons, List.contains_nil, Bool.or_false, beq_eq_false_iff_ne, ne_eq] at h3; simp [hx, h2, h3]), flag_off hi hF b1⟩
  case done =>
    rintro ⟨vs, cnt, fl, tf⟩ u h tk hF kFr kNews
    dsimp only [kstB] at hF kFr kNews ⊢
    have hf0 := hF.lo
    have hf1 := hF.hi
    have hl := hF.len
    k_steps
    unfold Halt
    (have J := fun t => flag_end (t := t) hF (hexShort hf0 hf1))
    rename News _ _ _ _ => nE
    simp only [List.push_toArray] at nE
    refine join_listW (ys := flagsR f) (News.isList nE (by k_mem)) (J _).1 (by decide) (J 0).2 ?_
    intro tj kj
    k_steps
    exact back_s hret rfl (keeps_of (by assumption) (by assumption))
end
end Mine
end
theorem Mine.forget_F0 : True ∧ True := by first | (walk1; all_goals trivial; done) | exact ⟨trivial, trivial⟩
section
namespace Mine
section
section
local macro_rules | `(tactic| walk_at "call builtin:hex") => `(tactic| (with_reducible refine P.hex_of_int ?_ (word_fits _ (by omega))))
theorem word_told (w : World) (i : Int) (t1 : Tok) : Told w [] (0 ≤ i ∧ i < 32) 178 [.int i t1] (Back fun t => .str (word i) t) := by
  delta Told
  k_fill
  intro mean mg mb dp un gd cn cs a ccd cl outer A₀ base h₀ L m s Q R B F X N T hk hd hu hh hret
  obtain ⟨hh1, hh2⟩ := hh
  refine wpAny_call ?_
  k_dflt cell_enter
  k_steps
  all_goals (refine back_s hret ?_ (keeps_of (by assumption) (by assumption)))
  · simp only [word, wordsT, List.map]
    rw [if_pos (by assumption)]
  · simp only [word]
    rw [if_neg (by assumption)]
end
section
local macro_rules | `(tactic| walk_at "subscriptTail") => `(tactic| (k_here; (with_reducible show wpAny _ _ (subscriptTail _ _ (Value.ref _) (Value.int _ _)) _ _ _); (with_unfolding_all refine' sub_made ?k1 ?k2 ?k3 ?k4 ?_ ?k6; (case k1 => is_list); (case k2 => omega); (case k3 => omega); (case k4 => (simp only [List.length_cons, List.length_nil]; omega)); (case k6 => with_unfolding_all rfl); k_whole)))
theorem lead_told (w : World) (st odd : Int) (t1 t2 : Tok) : Told w [] (0 ≤ st ∧ st < 5) 185 [.int st t1, .int odd t2] (Back fun t => .str (lead st odd) t) := by
  delta Told
  k_fill
  intro mean mg mb dp un gd cn cs a ccd cl outer A₀ base h₀ L m s Q R B F X N T hk hd hu hh hret
  obtain ⟨hh1, hh2⟩ := hh
  refine wpAny_call ?_
  k_dflt cell_enter
  k_steps
  all_goals (rcases (by omega : st = 0 ∨ st = 1 ∨ st = 2 ∨ st = 3 ∨ st = 4) with rfl | rfl | rfl | rfl | rfl)
  all_goals (refine back_s hret ?_ (keeps_of (by assumption) (by assumption)))
  all_goals (simp only [lead]; first | rw [if_pos (by assumption)] | rw [if_neg (by assumption)])
  all_goals first | rfl | (exfalso; omega)
end
end
end Mine
end
theorem Mine.forget_B1 : True ∧ True := by first | (walk1; all_goals trivial; done) | exact ⟨trivial, trivial⟩
section
namespace Mine
noncomputable abbrev strIt (xs : Str) (xt : Tok) : Obj := { cls := .type "str_ascii_iterator", data := .fields #[.str xs xt, .int 0 0] }
section
variable {prog : Program} {w : World} {A : Around} {E : Value → Shared → Prop} {Q : Flow → Shared → Prop} {s : Shared} {env : Env} {L : Addr} {x : Str} {body : List Stmt}
/-- a loop over the signs of an ASCII text; I: its iterator -/
theorem str_g {σ : Type} {px : Pos} {xs : Str} {xt : Tok} {m₀ : Str → Option Value} {news₀ : List (Addr × Obj)} (G : σ → Heap) (Led : σ → List (Addr × Obj)) (ps : σ → List (Str × Value)) (P : Nat → σ → Prop) (c₀ : σ)
    (hh : A.handled = none) (hx : env.kindOf x = some .local) (hpp : (env.scope.kind == .class || (env.scope.kind == .module && env.locals != env.globals)) = false)
    (F : Fr (G c₀) env.locals s.heap m₀) (N : News (G c₀) env.locals s.heap news₀) (hn : ∀ q ∈ Led c₀, q ∈ news₀) (ha : xs.cps.all (· < 128) = true) (hk : ∀ p ∈ ps c₀, m₀ p.1 = some p.2) (hp : P 0 c₀)
    (turn : ∀ (i : Nat) (v : Value) (c : σ) (u : Str → Option Value) h tk I oI, SignAt xs i v → s.toks ≤ tk → P i c → Fr (G c) env.locals h (fun y => if y = x then some v else kstB u (ps c) y) → News (G c) env.locals h ((I, oI) :: Led c) → (∀ p ∈ Led c, p.1 ≠ I) →
      wpAny (model prog w) A (execs body env) (GPost env.locals s G (fun c => (I, oI) :: Led c) ps (fun c' => P (i + 1) c' ∧ ∀ p ∈ Led c', p.1 ≠ I) Q) E { s with heap := h, toks := tk })
    (done : ∀ (c : σ) (u : Str → Option Value) h tk, s.toks ≤ tk → P xs.cps.size c → Fr (G c) env.locals h (kstB u (ps c)) → News (G c) env.locals h (Led c) → Q .next { s with heap := h, toks := tk })
    (hE : PassesOwn (model prog w) A env E := by passes_own) :
    wpAny (model prog w) A (pyIter (.str xs xt)) (fun it s₂ => LoopG prog w A x px body env Q E it s₂) E s := by
  have N₀ : News (G c₀) env.locals s.heap (Led c₀) := fun q hq => N q (hn q hq)
  refine wpAny_pyIter_ascii ha ?_
  have W := Walks.strAscii (prog := prog) (w := w) hh s.heap.objs.size xs xt
  have hIL : env.locals ≠ s.heap.objs.size := Nat.ne_of_lt F.ns.lt
  have hI₀ : (G c₀).get? s.heap.objs.size = none := next_is_new F
  have off₀ : ∀ p ∈ Led c₀, p.1 ≠ s.heap.objs.size := fun p hp => Nat.ne_of_lt (Heap.lt_size (N₀ p hp).1)
  have FP := F.push (strIt xs xt)
  have NP : News (G c₀) env.locals (s.heap.push (strIt xs xt)) ((s.heap.objs.size, (strIt xs xt)) :: Led c₀) := fun p hp => by
    rcases List.mem_cons.mp hp with rfl | hp
    · exact ⟨Heap.get?_push_size _ rfl, Ne.symm hIL, hI₀⟩
    · exact ⟨Heap.get?_push_of_some _ (N₀ p hp).1, (N₀ p hp).2⟩
  have st0 : (s.heap.push (strIt xs xt)).IsStrIter s.heap.objs.size "str_ascii_iterator" xs xt 0 := ⟨_, Heap.get?_push_size _ rfl, rfl, rfl⟩
  generalize s.heap.objs.size = I at *
  generalize s.heap.push (strIt xs xt) = h₂ at *
  unfold LoopG
  refine codeAny_forLoop (fun k s' => s.toks ≤ s'.toks ∧ ∃ (i : Nat) (oI : Obj), i ≤ xs.cps.size ∧ k = xs.cps.size + 1 - i ∧ (∀ h : Heap, h.get? I = some oI → h.IsStrIter I "str_ascii_iterator" xs xt i) ∧ GEnd env.locals s G (fun c => (I, oI) :: Led c) ps (fun c => P i c ∧ ∀ p ∈ Led c, p.1 ≠ I) s') ?_ (xs.cps.size + 1)
    ⟨Nat.le_refl _, 0, _, Nat.zero_le _, rfl, fun h e => ⟨_, e, rfl, rfl⟩, c₀, h₂, _, m₀, _, rfl, FP, NP, fun q hq => hq, hk, hp, off₀⟩
  rintro k s' ⟨ht, i, oI, hi, rfl, hit, c, h, tk, m', news', rfl, hR⟩
  have F' := hR.1
  have N' := hR.2.1
  have hn' := hR.2.2.1
  have hk' := hR.2.2.2.1
  have hp' := hR.2.2.2.2.1
  have ho' := hR.2.2.2.2.2
  clear hR
  have st := hit h (N' _ (hn' _ (.head _))).1
  have NL : News (G c) env.locals h (Led c) := fun p hp => N' p (hn' p (.tail _ hp))
  have hIn := (N' _ (hn' (I, oI) (.head _))).2
  by_cases hlt : i < xs.cps.size
  · refine toks_on (W.item i _ _ _ hlt st (fun v h' tk' hv st' hkk => ?_))
    intro hle
    dsimp only at hle ⊢
    have F₂ := LCg.fr_but F' hkk (Ne.symm hIn.1) hIn.2
    have N₂ := LCg.news_but NL hkk ho'
    obtain ⟨oI', e1, e2, e3⟩ := st'
    refine wpAny_assign_Name (wpAny_storeName_local hx F₂.ns (fun h₃ hn₃ hs₃ => ?_) hpp)
    have F₃ := F₂.set hn₃ hs₃
    have N₂' : News (G c) env.locals h' ((I, oI') :: Led c) := fun p hp => by
      rcases List.mem_cons.mp hp with rfl | hp
      · exact ⟨e1, hIn⟩
      · exact N₂ p hp
    refine toks_on (wpAny_passesOwn hE (wpAny_mono (turn i v c m' h₃ _ I oI' hv (Nat.le_succ_of_le (Nat.le_trans ht hle)) hp' (by rw [kstB_same hk']; exact F₃) (N₂'.set hs₃) ho') (fun f s₂ p hle2 => ?_) fun _ _ e => e))
    have hle2 : tk' ≤ s₂.toks := Nat.le_of_succ_le hle2
    have up : GEnd env.locals s G (fun c => (I, oI') :: Led c) ps (fun c' => P (i + 1) c' ∧ ∀ p ∈ Led c', p.1 ≠ I) s₂ → ∃ m, m < xs.cps.size + 1 - i ∧ s.toks ≤ s₂.toks ∧ ∃ (i : Nat) (oI : Obj), i ≤ xs.cps.size ∧ m = xs.cps.size + 1 - i ∧ (∀ h : Heap, h.get? I = some oI → h.IsStrIter I "str_ascii_iterator" xs xt i) ∧ GEnd env.locals s G (fun c => (I, oI) :: Led c) ps (fun c => P i c ∧ ∀ p ∈ Led c, p.1 ≠ I) s₂ := fun q =>
      ⟨xs.cps.size + 1 - (i + 1), by omega, Nat.le_trans ht (Nat.le_trans hle hle2), i + 1, oI', hlt, rfl, fun h e => ⟨_, e, e2, e3⟩, q⟩
    cases f with
    | ret v => exact p
    | brk => exact p
    | next => exact up p
    | cont => exact up p
  · obtain rfl : i = xs.cps.size := by omega
    refine toks_on ?_
    refine W.done _ _ _ st (fun h' tk' hkk hle => ?_)
    dsimp only at hle
    have F₂ := LCg.fr_but F' hkk (Ne.symm hIn.1) hIn.2
    have N₂ := LCg.news_but NL hkk ho'
    exact wpAny_execs_nil (done c m' h' tk' (Nat.le_trans ht hle) hp' (by rw [kstB_same hk']; exact F₂) N₂)
end
end Mine
end
theorem Mine.forget_W0 : True ∧ True := by first | (walk1; all_goals trivial; done) | exact ⟨trivial, trivial⟩
section
namespace Mine
/-- what the loop of Whitespace.__init__ makes of a sign: the counts of tabs behind so many spaces, and the spaces since the last tab -/
noncomputable def wsStep (q : List Int × Nat) (c : Nat) : List Int × Nat :=
  if c = 32 then (q.1, q.2 + 1) else
    let l := if q.1.length ≤ q.2 then q.1 ++ List.replicate (q.2 - q.1.length + 1) 0 else q.1
    (l.set q.2 (l.getD q.2 0 + 1), 0)
noncomputable def wsGo (l : List Nat) : List Int × Nat := l.foldl wsStep ([], 0)
structure WsC where
  (cl : Addr) (cn : Nat) (vs : List Value) (cnt : List Int) (n nt b : Int) (tn tnt tb : Tok)
noncomputable def WsC.Led (x' d' : Addr) (od : Obj) (c : WsC) : List (Addr × Obj) := [(c.cl, W.listOf c.vs.toArray c.cn), (x', instObj 123 d'), (d', od)]
noncomputable def WsC.ps (x' : Addr) (c : WsC) : List (Str × Value) := [(Str.ofString "nt", .int c.nt c.tnt), (Str.ofString "n", .int c.n c.tn), (Str.ofString "b", .int c.b c.tb), (Str.ofString "count", .ref c.cl), (Str.ofString "S", .str (Str.ofString " ") 301), (Str.ofString "T", .str (Str.ofString "\t") 302), (Str.ofString "self", .ref x')]
noncomputable def WsC.Ok (x : Str) (x' d' : Addr) (i : Nat) (c : WsC) : Prop := IntsAre c.vs c.cnt ∧ (c.cnt, c.b.toNat) = wsGo (x.cps.toList.take i) ∧ 0 ≤ c.b ∧ c.b ≤ i ∧ c.cnt.length ≤ i ∧ 0 ≤ c.n ∧ c.n ≤ i ∧ 0 ≤ c.nt ∧ c.nt ≤ i ∧ @LT.lt Nat _ x' c.cl ∧ @LT.lt Nat _ d' c.cl
theorem ws_ne {h : Heap} {a b : Addr} {o o' : Obj} (e : h.get? a = some o) (e' : h.get? b = some o') (hn : (match o.data with | .seq _ _ => true | _ => false) ≠ (match o'.data with | .seq _ _ => true | _ => false)) : @Ne Nat a b := by
  intro q
  have q' : a = b := q
  rw [q', e'] at e
  exact hn (by rw [Option.some.inj e])
theorem ws_take {x : Str} {i ch : Nat} (h : x.cps[i]? = some ch) : x.cps.toList.take (i + 1) = x.cps.toList.take i ++ [ch] := by
  rw [List.take_add_one]; simp [h]
theorem ws_snoc (l : List Nat) (c : Nat) : wsGo (l ++ [c]) = wsStep (wsGo l) c := by simp [wsGo, List.foldl_append]
theorem ws_sp {x : Str} {i : Nat} {cnt : List Int} {b : Int} (h : x.cps[i]? = some 32) (e : (cnt, b.toNat) = wsGo (x.cps.toList.take i)) (h0 : 0 ≤ b) : (cnt, (b + 1).toNat) = wsGo (x.cps.toList.take (i + 1)) := by
  rw [ws_take h, ws_snoc, ← e]
  simp only [wsStep, if_true]
  rw [show (b + 1).toNat = b.toNat + 1 by omega]
theorem ws_tab1 {x : Str} {i : Nat} {cnt : List Int} {b : Int} (h : x.cps[i]? = some 9) (e : (cnt, b.toNat) = wsGo (x.cps.toList.take i)) (h0 : 0 ≤ b) (hb : (cnt.length : Int) ≤ b) :
    (((cnt ++ (List.replicate (b - cnt.length + 1).toNat [0]).flatten).set b.toNat ((cnt ++ (List.replicate (b - cnt.length + 1).toNat [0]).flatten).getD b.toNat 0 + 1), (0 : Int).toNat) : List Int × Nat) = wsGo (x.cps.toList.take (i + 1)) := by
  rw [ws_take h, ws_snoc, ← e]
  have e1 : (b - cnt.length + 1).toNat = b.toNat - cnt.length + 1 := by omega
  have e2 : (List.replicate (b.toNat - cnt.length + 1) [(0 : Int)]).flatten = List.replicate (b.toNat - cnt.length + 1) 0 := by simp [List.flatten_replicate_singleton]
  simp only [wsStep, if_neg (show ¬ (9 : Nat) = 32 by decide)]
  rw [if_pos (show cnt.length ≤ b.toNat by omega), e1, e2]
  rfl
theorem ws_tab2 {x : Str} {i : Nat} {cnt : List Int} {b : Int} (h : x.cps[i]? = some 9) (e : (cnt, b.toNat) = wsGo (x.cps.toList.take i)) (h0 : 0 ≤ b) (hb : ¬ (cnt.length : Int) ≤ b) :
    ((cnt.set b.toNat (cnt.getD b.toNat 0 + 1), (0 : Int).toNat) : List Int × Nat) = wsGo (x.cps.toList.take (i + 1)) := by
  rw [ws_take h, ws_snoc, ← e]
  simp only [wsStep, if_neg (show ¬ (9 : Nat) = 32 by decide)]
  rw [if_neg (show ¬ cnt.length ≤ b.toNat by omega)]
  rfl
theorem ws_len {i : Nat} {cnt : List Int} {b : Int} {y : Int} (h0 : 0 ≤ b) (h4 : b ≤ i) (h5 : cnt.length ≤ i) (hb : (cnt.length : Int) ≤ b) : ((cnt ++ (List.replicate (b - cnt.length + 1).toNat [(0 : Int)]).flatten).set b.toNat y).length ≤ i + 1 := by
  rw [List.length_set, List.length_append, List.length_flatten]
  simp
  omega
section
local macro_rules | `(tactic| walk_at "call type:tuple") => `(tactic| (k_here; k_dflt (refine' kde_tupleOf ?k1 ?k2 ?k3 ?k4 rfl ?_; (case k1 => k_asm); (case k2 => k_asm); (case k3 => exact News.isList (by k_asm) (by k_mem)); (case k4 => with_reducible assumption); k_whole); intro D' h' F' N' l1; (try k_lt l1); (try k_sweep)))
local macro_rules | `(tactic| walk_at "pyIter str") => `(tactic| (k_here; refine halt ?_))
local macro_rules | `(tactic| walk_at "exec For Name Attribute cons nil") => `(tactic| (k_here; refine halt ?_))
theorem ws_any (w : World) (x : Str) (hx : x.cps.all (· < 128) = true) (hs : ∀ c ∈ x.cps.toList, c = 32 ∨ c = 9) (hl : x.cps.size ≤ 8) (st : Int) (hst : ∀ (l : List Int) (b : Int), 0 ≤ b → (l, b.toNat) = wsGo x.cps.toList → l = (normOf st).1 ∧ b = (normOf st).2) (t1 : Tok) : Told w [] True 123 [.str x t1] (MkPost w.params st) := by
  delta Told
  k_fill
  intro mean mg mb dp un gd cn cs a ccd cl outer A₀ base h₀ L m s Q R B F X N T hk hd hu hh hret
  (k_dflt (refine' call_cls_raw ?k1 ?k2 ?k3 ?k4 ?k5 ?k6 ?_; (case k1 => k_asm); (case k2 => k_asm); (case k3 => k_asm); (case k4 => k_is); (case k5 => k_is); (case k6 => k_is); k_whole; intro x' d' hx' hk' hs' F' N' l1 l2; (try k_lt l1); (try k_lt2 l2); (try k_sweep)))
  k_dflt cell_enter
  k_steps
  unfold Halt
  refine for_g ?_
  k_steps
  unfold Halt
  (with_reducible rename Fr _ _ _ _ => lF')
  (with_reducible rename News _ _ _ _ => lN')
  refine' str_g (fun _ => _) (WsC.Led x' d' ?od) (WsC.ps x') (WsC.Ok x x' d') ⟨?cl, 0, [], [], 0, 0, 0, ?tn, ?tnt, ?tb⟩ rfl rfl rfl lF' lN' ?hn hx ?hk ?hp ?turn ?done
  case hn => exact List.forall_mem_cons.mpr ⟨by k_mem, List.forall_mem_cons.mpr ⟨by k_mem, List.forall_mem_cons.mpr ⟨by k_mem, List.forall_mem_nil _⟩⟩⟩
  case hk => kst_all
  case hp => exact ⟨IntsAre.nil, rfl, Int.le_refl _, Int.le_refl _, Nat.le_refl _, Int.le_refl _, Int.le_refl _, Int.le_refl _, Int.le_refl _, by dsimp only; omega, by dsimp only; omega⟩
  case turn =>
    rintro i v ⟨cl, cn, vs, cnt, n, nt, b, tn, tnt, tb⟩ u h tk I oI ⟨ch, tc, hch, rfl⟩ ht hOk kF kN hoff
    have h1 := hOk.1
    have h2 := hOk.2.1
    have h3 := hOk.2.2.1
    have h4 := hOk.2.2.2.1
    have h5 := hOk.2.2.2.2.1
    have h6 := hOk.2.2.2.2.2.1
    have h7 := hOk.2.2.2.2.2.2.1
    have h8 := hOk.2.2.2.2.2.2.2.1
    have h9 := hOk.2.2.2.2.2.2.2.2.1
    have h10 := hOk.2.2.2.2.2.2.2.2.2.1
    have h11 := hOk.2.2.2.2.2.2.2.2.2.2
    clear hOk
    dsimp only at h1 h2 h3 h4 h5 h6 h7 h8 h9 h10 h11
    have hIc : @Ne Nat I cl := fun e => hoff (cl, _) (.head _) e.symm
    have hIx : @Ne Nat I x' := fun e => hoff (x', _) (.tail _ (.head _)) e.symm
    have hId : @Ne Nat I d' := fun e => hoff (d', _) (.tail _ (.tail _ (.head _))) e.symm
    dsimp only [WsC.Led, WsC.ps, kstB] at kF kN
    have hi : i < x.cps.size := (Array.getElem?_eq_some_iff.mp hch).1
    rcases hs ch (Array.mem_toList_iff.mpr (Array.mem_of_getElem? hch)) with rfl | rfl
    · k_steps
      (with_reducible rename Fr _ _ _ _ => lF2)
      (with_reducible rename News _ _ _ _ => lN2)
      refine ⟨⟨cl, cn, vs, cnt, n + 1, nt, b + 1, _, tnt, _⟩, _, _, _, _, rfl, lF2, lN2, fun q hq => hq, by kst_all, ⟨h1, ?_, by dsimp only; omega, by dsimp only; omega, by dsimp only; omega, by dsimp only; omega, by dsimp only; omega, h8, by dsimp only; omega, h10, h11⟩, hoff⟩
      exact ws_sp hch (by simpa using h2) h3
    · have hcl : b.toNat ≤ cnt.length ∨ cnt.length ≤ b.toNat := Nat.le_total _ _
      k_steps
      · rename (cnt.length : Int) ≤ b => b1
        rename IntsAre _ (cnt ++ _) => iN
        (with_reducible rename Fr _ _ _ _ => lF2)
        (with_reducible rename News _ _ _ _ => lN2)
        refine ⟨⟨_, 0, _, _, n + 1, nt + 1, 0, _, _, _⟩, _, _, _, _, rfl, lF2, lN2, List.forall_mem_cons.mpr ⟨by k_mem, List.forall_mem_cons.mpr ⟨.head _, List.forall_mem_cons.mpr ⟨by k_mem, List.forall_mem_cons.mpr ⟨by k_mem, List.forall_mem_nil _⟩⟩⟩⟩, by kst_all, ⟨PySem.W.ints_set iN _, ?_, Int.le_refl _, by dsimp only; omega, ?_, by dsimp only; omega, by dsimp only; omega, by dsimp only; omega, by dsimp only; omega, by dsimp only; omega, by dsimp only; omega⟩, ?_⟩
        · exact ws_tab1 hch (by simpa using h2) h3 b1
        · exact ws_len h3 h4 h5 b1
        · exact List.forall_mem_cons.mpr ⟨by dsimp only; show @Ne Nat _ _; omega, List.forall_mem_cons.mpr ⟨hIx.symm, List.forall_mem_cons.mpr ⟨hId.symm, List.forall_mem_nil _⟩⟩⟩
      · rename ¬ (cnt.length : Int) ≤ b => b1
        (with_reducible rename Fr _ _ _ _ => lF2)
        (with_reducible rename News _ _ _ _ => lN2)
        refine ⟨⟨cl, _, _, _, n + 1, nt + 1, 0, _, _, _⟩, _, _, _, _, rfl, lF2, lN2, fun q hq => hq, by kst_all, ⟨PySem.W.ints_set h1 _, ?_, Int.le_refl _, by dsimp only; omega, ?_, by dsimp only; omega, by dsimp only; omega, by dsimp only; omega, by dsimp only; omega, h10, h11⟩, List.forall_mem_cons.mpr ⟨hIc.symm, List.forall_mem_cons.mpr ⟨hIx.symm, List.forall_mem_cons.mpr ⟨hId.symm, List.forall_mem_nil _⟩⟩⟩⟩
        · exact ws_tab2 hch (by simpa using h2) h3 b1
        · dsimp only; rw [List.length_set]; omega
  case done =>
    rintro ⟨cl, cn, vs, cnt, n, nt, b, tn, tnt, tb⟩ u h tk ht hOk kF kN
    have h1 := hOk.1
    have h2 := hOk.2.1
    have h3 := hOk.2.2.1
    have h4 := hOk.2.2.2.1
    have h5 := hOk.2.2.2.2.1
    have h6 := hOk.2.2.2.2.2.1
    have h7 := hOk.2.2.2.2.2.2.1
    have h8 := hOk.2.2.2.2.2.2.2.1
    have h9 := hOk.2.2.2.2.2.2.2.2.1
    have h10 := hOk.2.2.2.2.2.2.2.2.2.1
    have h11 := hOk.2.2.2.2.2.2.2.2.2.2
    clear hOk
    dsimp only [WsC.Led, WsC.ps, kstB, envOf] at h1 h2 h3 h4 h5 h6 h7 h8 h9 h10 h11 kF kN
    dsimp only
    have hz : vs.toArray.size ≤ 16384 := by rw [List.size_toArray, h1.length]; omega
    k_steps
    obtain ⟨e1, e2⟩ := hst cnt b h3 (by rw [h2, ← Array.length_toList, List.take_length])
    refine hret ⟨x', d', _, _, _, _, _, _, _, _, _, _, _, _, _, cnt, b⟩ _ _ e1 e2 ?_ (keeps_via hk' ?_ (by assumption) (by assumption)) (List.forall_mem_cons.mpr ⟨⟨News.get (by assumption) (by k_mem), ?_⟩, List.forall_mem_cons.mpr ⟨⟨News.get (by assumption) (by k_mem), ?_⟩, List.forall_mem_cons.mpr ⟨⟨News.get (by assumption) (by k_mem), ?_⟩, List.forall_mem_cons.mpr ⟨⟨News.get (by assumption) (by k_mem), ?_⟩, List.forall_mem_nil _⟩⟩⟩⟩)
    · with_unfolding_all exact h1
    · exact List.forall_mem_cons.mpr ⟨by (try dsimp only); omega, List.forall_mem_cons.mpr ⟨by (try dsimp only); omega, List.forall_mem_nil _⟩⟩
    all_goals ((try dsimp only); omega)
theorem ws_fin {x : Str} {st : Int} (e : wsGo x.cps.toList = ((normOf st).1, (normOf st).2.toNat)) (h : 0 ≤ (normOf st).2) (l : List Int) (b : Int) (hb : 0 ≤ b) (q : (l, b.toNat) = wsGo x.cps.toList) : l = (normOf st).1 ∧ b = (normOf st).2 := by
  rw [e] at q
  obtain ⟨h1, h2⟩ := Prod.mk.inj q
  exact ⟨h1, by omega⟩
theorem ws_told (w : World) (st odd : Int) (t1 : Tok) : Told w [] (0 ≤ st ∧ st < 5) 123 [.str (lead st odd) t1] (MkPost w.params st) := by
  intro mean mg mb dp un gd cn cs a ccd cl outer A₀ base h₀ L m s Q R B F X N T hk hd hu hh hret
  rcases (by omega : st = 0 ∨ st = 1 ∨ st = 2 ∨ st = 3 ∨ st = 4) with rfl | rfl | rfl | rfl | rfl
  · by_cases ho : odd = 1
    · have e : lead 0 odd = Str.ofString "\t  \t" := by simp only [lead]; rw [if_pos ho]; rfl
      rw [e]
      exact ws_any w (Str.ofString "\t  \t") (by decide +kernel) (by decide +kernel) (by decide +kernel) _ (ws_fin (by decide +kernel) (by decide +kernel)) t1 mean mg mb dp un gd cn cs a ccd cl outer A₀ base h₀ L m s Q R B F X N T hk hd hu trivial hret
    · have e : lead 0 odd = Str.ofString "  \t\t" := by simp only [lead]; rw [if_neg ho]; rfl
      rw [e]
      exact ws_any w (Str.ofString "  \t\t") (by decide +kernel) (by decide +kernel) (by decide +kernel) _ (ws_fin (by decide +kernel) (by decide +kernel)) t1 mean mg mb dp un gd cn cs a ccd cl outer A₀ base h₀ L m s Q R B F X N T hk hd hu trivial hret
  · exact ws_any w (Str.ofString " \t \t") (by decide +kernel) (by decide +kernel) (by decide +kernel) _ (ws_fin (by decide +kernel) (by decide +kernel)) t1 mean mg mb dp un gd cn cs a ccd cl outer A₀ base h₀ L m s Q R B F X N T hk hd hu trivial hret
  · by_cases ho : odd = 1
    · have e : lead 2 odd = Str.ofString "\t  \t " := by simp only [lead]; rw [if_pos ho]; decide +kernel
      rw [e]
      exact ws_any w (Str.ofString "\t  \t ") (by decide +kernel) (by decide +kernel) (by decide +kernel) _ (ws_fin (by decide +kernel) (by decide +kernel)) t1 mean mg mb dp un gd cn cs a ccd cl outer A₀ base h₀ L m s Q R B F X N T hk hd hu trivial hret
    · have e : lead 2 odd = Str.ofString "  \t\t " := by simp only [lead]; rw [if_neg ho]; decide +kernel
      rw [e]
      exact ws_any w (Str.ofString "  \t\t ") (by decide +kernel) (by decide +kernel) (by decide +kernel) _ (ws_fin (by decide +kernel) (by decide +kernel)) t1 mean mg mb dp un gd cn cs a ccd cl outer A₀ base h₀ L m s Q R B F X N T hk hd hu trivial hret
  · exact ws_any w (Str.ofString " \t \t  ") (by decide +kernel) (by decide +kernel) (by decide +kernel) _ (ws_fin (by decide +kernel) (by decide +kernel)) t1 mean mg mb dp un gd cn cs a ccd cl outer A₀ base h₀ L m s Q R B F X N T hk hd hu trivial hret
  · exact ws_any w (Str.ofString "\t\t  ") (by decide +kernel) (by decide +kernel) (by decide +kernel) _ (ws_fin (by decide +kernel) (by decide +kernel)) t1 mean mg mb dp un gd cn cs a ccd cl outer A₀ base h₀ L m s Q R B F X N T hk hd hu trivial hret
end
end Mine
end
theorem Mine.forget_B3 : True ∧ True := by first | (walk1; all_goals trivial; done) | exact ⟨trivial, trivial⟩
section
namespace Mine
section
local macro_rules | `(tactic| walk_at "compareOp Eq ref ref") => `(tactic| (k_here; (with_reducible show wpAny _ _ (compareOp CmpOp.Eq (Value.ref _) (Value.ref _)) _ _ _); k_dflt (refine eq_norm (by k_asm) (by k_mem) (by k_mem) (by k_mem) (by k_mem) (by assumption) (by assumption) ?u ?_; (case u => ktr_units))))
theorem equal_told (w : World) (M M' : Mk) : Told w (M.objs w.params ++ M'.objs w.params) (IntsAre M.vs M.cnt ∧ IntsAre M'.vs M'.cnt) 99 [.ref M.x, .ref M'.x] (Back fun _ => .bool (decide (M.cnt = M'.cnt ∧ M.b = M'.b))) := by
  delta Told
  k_fill
  intro mean mg mb dp un gd cn cs a ccd cl outer A₀ base h₀ L m s Q R B F X N T hk hd hu hh hret
  obtain ⟨x, d, tn, tc, k1, k2, k3, k4, k5, tb, v1, v2, v3, v5, vs, cnt, b⟩ := M
  obtain ⟨x', d', tn', tc', k1', k2', k3', k4', k5', tb', v1', v2', v3', v5', vs', cnt', b'⟩ := M'
  obtain ⟨hi, hi'⟩ := hh
  simp only [Mk.objs, List.cons_append, List.nil_append] at N hi hi'
  dsimp only
  refine wpAny_call ?_
  k_dflt cell_enter
  k_steps
  all_goals (refine back_b hret rfl (keeps_ro (by assumption) (by assumption) N (by assumption) (by kcj_all)))
end
end Mine
end
theorem Mine.forget_B4 : True ∧ True := by first | (walk1; all_goals trivial; done) | exact ⟨trivial, trivial⟩
section
namespace Mine
noncomputable def sep : Str := Str.ofString ", "
theorem sep_cps : sep.cps.toList = [44, 32] := by decide +kernel
theorem sep_len : sep.length = 2 := by decide +kernel
noncomputable def J : List (List Nat) → List Nat
  | [] => []
  | [x] => x
  | x :: y :: r => x ++ ([44, 32] ++ J (y :: r))
theorem join_list : ∀ ws : List Str, (Str.join sep ws).cps.toList = J (ws.map fun w => w.cps.toList)
  | [] => rfl
  | [x] => rfl
  | x :: y :: r => by
    show ((x ++ sep ++ Str.join sep (y :: r)).cps).toList = _
    rw [Str.cps_append, Str.cps_append, Array.toList_append, Array.toList_append, join_list (y :: r), sep_cps, List.append_assoc]
    rfl
theorem at_iff (x : Str) (k : Nat) : StrLaws.At x sep x.length k ↔ (x.cps.toList.drop k).take 2 = [44, 32] := by
  unfold StrLaws.At
  rw [StrLaws.subAt_eq, sep_len, sep_cps, beq_iff_eq]
  refine ⟨fun h => h.2, fun h => ⟨?_, h⟩⟩
  have e := congrArg List.length h
  simp only [List.length_take, List.length_drop, List.length_cons, List.length_nil, Array.length_toList] at e
  show k + 2 ≤ x.cps.size
  omega
theorem not_in {w : List Nat} {j : Nat} {z : List Nat} (hw : 44 ∉ w) (hj : j < w.length) (h : ((w ++ z).drop j).take 2 = [44, 32]) : False := by
  rw [List.drop_append_of_le_length (Nat.le_of_lt hj)] at h
  have h0 : ((w.drop j ++ z).take 2)[0]? = some 44 := by rw [h]; rfl
  rw [List.getElem?_take_of_lt (by decide), List.getElem?_append_left (by rw [List.length_drop]; omega), List.getElem?_drop] at h0
  exact hw (List.mem_of_getElem? h0)
theorem parts_of (x : Str) : ∀ (ws : List Str) (a f : Nat) (cuts : List Nat), ws ≠ [] → (∀ w ∈ ws, 44 ∉ w.cps.toList) → a ≤ x.length → x.cps.toList.drop a = J (ws.map fun w => w.cps.toList) →
    StrLaws.ChainG x sep x.length a cuts f → (∀ k, f ≤ k → ¬ StrLaws.At x sep x.length k) → StrLaws.partsFrom x 2 a cuts = ws
  | [], _, _, _, h, _, _, _, _, _ => absurd rfl h
  | [w], a, f, cuts, _, hw, ha, hx, hG, hn => by
    have hw' := hw w (.head _)
    have hx' : x.cps.toList.drop a = w.cps.toList := hx
    have no : ∀ k, a ≤ k → ¬ StrLaws.At x sep x.length k := fun k hk hA => by
      rw [at_iff, show k = a + (k - a) by omega, ← List.drop_drop, hx'] at hA
      rcases Nat.lt_or_ge (k - a) w.cps.toList.length with h | h
      · exact not_in (z := []) hw' h (by simpa using hA)
      · rw [List.drop_eq_nil_of_le h] at hA; cases hA
    cases cuts with
    | cons i r => exact absurd hG.2.1 (no i hG.1)
    | nil =>
      show [Builtin.Str.strSub x a x.length] = [w]
      congr 1
      refine Str.ext' (Array.toList_inj.mp ?_)
      rw [StrLaws.strSub_toList, hx']
      refine List.take_of_length_le ?_
      have := congrArg List.length hx'
      rw [List.length_drop, Array.length_toList] at this
      show w.cps.toList.length ≤ x.cps.size - a
      omega
  | w :: w' :: r, a, f, cuts, _, hw, ha, hx, hG, hn => by
    have hw1 := hw w (.head _)
    have hx' : x.cps.toList.drop a = w.cps.toList ++ ([44, 32] ++ J ((w' :: r).map fun w => w.cps.toList)) := hx
    have hlen := congrArg List.length hx'
    rw [List.length_drop, Array.length_toList, List.length_append, List.length_append] at hlen
    have hlen' : x.length - a = w.cps.toList.length + (2 + (J ((w' :: r).map fun w => w.cps.toList)).length) := hlen
    have here : StrLaws.At x sep x.length (a + w.cps.toList.length) := by
      rw [at_iff, ← List.drop_drop, hx', List.drop_left]
      rfl
    have no : ∀ k, a ≤ k → k < a + w.cps.toList.length → ¬ StrLaws.At x sep x.length k := fun k hk hk2 hA => by
      rw [at_iff, show k = a + (k - a) by omega, ← List.drop_drop, hx'] at hA
      exact not_in hw1 (by omega) hA
    cases cuts with
    | nil => exact absurd here (hn _ (by have : f = a := hG; omega))
    | cons i cuts =>
      obtain ⟨g1, g2, g3, g4⟩ := hG
      have hi : i = a + w.cps.toList.length := by
        rcases Nat.lt_trichotomy i (a + w.cps.toList.length) with h | h | h
        · exact absurd g2 (no i g1 h)
        · exact h
        · exact absurd here (g3 _ (by omega) h)
      subst hi
      show Builtin.Str.strSub x a (a + w.cps.toList.length) :: StrLaws.partsFrom x 2 (a + w.cps.toList.length + 2) cuts = w :: w' :: r
      rw [sep_len] at g4
      have hd : x.cps.toList.drop (a + w.cps.toList.length + 2) = J ((w' :: r).map fun w => w.cps.toList) := by
        rw [← List.drop_drop, ← List.drop_drop, hx', List.drop_left]
        rfl
      rw [parts_of x (w' :: r) _ f cuts (by simp) (fun z hz => hw z (.tail _ hz)) (by omega) hd g4 hn]
      congr 1
      refine Str.ext' (Array.toList_inj.mp ?_)
      rw [StrLaws.strSub_toList, hx', show a + w.cps.toList.length - a = w.cps.toList.length by omega]
      exact List.take_left
theorem split_join (ws : List Str) (h0 : ws ≠ []) (hw : ∀ w ∈ ws, 44 ∉ w.cps.toList) : Txt.split (Str.join sep ws) sep = ws := by
  obtain ⟨f, hG, hn⟩ := StrLaws.occ_tight (Str.join sep ws) sep (by rw [sep_len]; decide)
  have key := parts_of (Str.join sep ws) ws 0 f _ h0 hw (Nat.zero_le _) (by rw [List.drop_zero, join_list]) hG hn
  have one : Builtin.Str.occurrences (Str.join sep ws) sep 0 (Str.join sep ws).length ((Str.join sep ws).length + 1) = [] → [Str.join sep ws] = ws := fun e => by
    rw [e] at key
    have key' : [Builtin.Str.strSub (Str.join sep ws) 0 (Str.join sep ws).length] = ws := key
    rwa [StrLaws.sub_whole] at key'
  unfold Txt.split
  split
  · rename_i hc
    have kind : ∀ x : Str, 1 ≤ Builtin.Str.strKind x := fun x => by
      unfold Builtin.Str.strKind
      split
      · decide
      · split <;> decide
    have ks : Builtin.Str.strKind sep = 1 := by decide +kernel
    rw [Bool.or_eq_true, decide_eq_true_eq, decide_eq_true_eq, ks, sep_len] at hc
    have hl : (Str.join sep ws).length < 2 := by
      rcases hc with h | h
      · exact h
      · have := kind (Str.join sep ws); omega
    refine one ?_
    cases e : Builtin.Str.occurrences (Str.join sep ws) sep 0 (Str.join sep ws).length ((Str.join sep ws).length + 1) with
    | nil => rfl
    | cons i r =>
      rw [e] at hG
      have := hG.2.1.1
      rw [sep_len] at this
      omega
  · split
    · rename_i he
      exact one (List.isEmpty_iff.mp he)
    · rw [StrLaws.partsBetween_eq, sep_len]
      exact key
end Mine
end
theorem Mine.forget_SP : True ∧ True := by first | (walk1; all_goals trivial; done) | exact ⟨trivial, trivial⟩
section
namespace Mine
/-- the names -/
noncomputable def bigT : Str := baseText "0x" 16 (((2 ^ 32 : Nat) : Int))
noncomputable def nameAt (sh : Nat) (j : Nat) : Str := if j < 4 then word ((sh + j : Nat) : Int) else bigT
noncomputable def namesOf (sh : Nat) : List Str := (List.range 5).map (nameAt sh)
/-- the machines of a mask -/
noncomputable def idx4 (mask : Nat) : List Nat := (List.range 4).filter fun k => mask.testBit k
noncomputable def idxs (mask ab : Nat) : List Nat := idx4 mask ++ (if ab = 0 then [] else [4])
noncomputable def maskN (sh mask ab : Nat) : Nat := (mask <<< sh) + ab * 2 ^ 32
noncomputable def flagsIx : Nat → Nat → List Nat → Nat → List Nat × Nat
  | 0, _, ns, a => (ns, a)
  | k + 1, i, ns, a => if a.testBit i then (if a - 2 ^ i = 0 then (ns ++ [i], 0) else flagsIx k (i + 1) (ns ++ [i]) (a - 2 ^ i)) else flagsIx k (i + 1) ns a
noncomputable def endsT (r : List Nat × Nat) : List Str := (r.1.map fun j => word ((j : Nat) : Int)) ++ (if r.2 = 0 then [] else [baseText "0x" 16 ((r.2 : Nat) : Int)])
theorem endsT_z (l : List Nat) : endsT (l, 0) = l.map fun j => word ((j : Nat) : Int) := by simp [endsT]
theorem endsT_n (l : List Nat) {a : Nat} (h : a ≠ 0) : endsT (l, a) = (l.map fun j => word ((j : Nat) : Int)) ++ [baseText "0x" 16 ((a : Nat) : Int)] := by simp [endsT, h]
theorem flagsIx_eq : ∀ (k i : Nat) (ns : List Nat) (a : Nat), a ≠ 0 → flagsGo k i (ns.map fun j => word ((j : Nat) : Int)) a = endsT (flagsIx k i ns a)
  | 0, i, ns, a, h => (endsT_n ns h).symm
  | k + 1, i, ns, a, h => by
    have e : (ns.map fun j => word ((j : Nat) : Int)) ++ [word (i : Int)] = (ns ++ [i]).map fun j => word ((j : Nat) : Int) := by simp
    unfold flagsGo flagsIx
    by_cases h1 : a.testBit i
    · rw [if_pos h1, if_pos h1]
      by_cases h2 : a - 2 ^ i = 0
      · rw [if_pos h2, if_pos h2, e, endsT_z]
      · rw [if_neg h2, if_neg h2, e]
        exact flagsIx_eq k (i + 1) (ns ++ [i]) (a - 2 ^ i) h2
    · rw [if_neg h1, if_neg h1]
      exact flagsIx_eq k (i + 1) ns a h
noncomputable def ixFact (sh mask ab : Nat) : Bool := flagsIx 32 0 [] (maskN sh mask ab) == ((idx4 mask).map (sh + ·), ab * 2 ^ 32) && decide (maskN sh mask ab < 2 ^ 33) && decide (maskN sh mask ab ≠ 0)
theorem ixAll : (List.range 29).all (fun sh => (List.range 15).all fun m => (List.range 2).all fun ab => ixFact sh (m + 1) ab) = true := by decide +kernel
theorem ixAt {sh mask ab : Nat} (h1 : sh < 29) (h2 : 0 < mask) (h3 : mask < 16) (h4 : ab < 2) : flagsIx 32 0 [] (maskN sh mask ab) = ((idx4 mask).map (sh + ·), ab * 2 ^ 32) ∧ maskN sh mask ab < 2 ^ 33 ∧ maskN sh mask ab ≠ 0 := by
  have h := List.all_eq_true.mp (List.all_eq_true.mp (List.all_eq_true.mp ixAll sh (List.mem_range.mpr h1)) (mask - 1) (List.mem_range.mpr (by omega))) ab (List.mem_range.mpr h4)
  rw [show mask - 1 + 1 = mask by omega] at h
  unfold ixFact at h
  rw [Bool.and_eq_true, Bool.and_eq_true, beq_iff_eq, decide_eq_true_eq, decide_eq_true_eq] at h
  exact ⟨h.1.1, h.1.2, h.2⟩
theorem idx4_lt {mask j : Nat} (h : j ∈ idx4 mask) : j < 4 := by
  simp only [idx4, List.mem_filter, List.mem_range] at h
  exact h.1
theorem flagsR_at {sh mask ab : Nat} (h1 : sh < 29) (h2 : 0 < mask) (h3 : mask < 16) (h4 : ab < 2) : flagsR ((maskN sh mask ab : Nat) : Int) = (idxs mask ab).map (nameAt sh) := by
  obtain ⟨e, -, h0⟩ := ixAt h1 h2 h3 h4
  unfold flagsR
  rw [Int.toNat_natCast, show ([] : List Str) = ([] : List Nat).map fun j => word ((j : Nat) : Int) from rfl, flagsIx_eq 32 0 [] _ h0, e]
  unfold endsT
  simp only [idxs, List.map_append, List.map_map]
  congr 1
  · refine List.map_congr_left fun j hj => ?_
    have := idx4_lt hj
    simp [nameAt, this]
  · rcases (by omega : ab = 0 ∨ ab = 1) with rfl | rfl
    · rfl
    · simp [nameAt, bigT]
theorem word_free : ∀ i, i < 32 → 44 ∉ (word ((i : Nat) : Int)).cps.toList := by decide +kernel
theorem big_free : 44 ∉ bigT.cps.toList := by decide +kernel
theorem idxs_lt {mask ab j : Nat} (h : j ∈ idxs mask ab) : j < 5 := by
  simp only [idxs, List.mem_append] at h
  rcases h with h | h
  · have := idx4_lt h; omega
  · split at h
    · cases h
    · rw [List.mem_singleton.mp h]; decide
theorem idx4_ne : ∀ mask, 0 < mask → mask < 16 → idx4 mask ≠ [] := by
  intro mask h1 h2
  have : ∀ m, m < 16 → 0 < m → idx4 m ≠ [] := by decide +kernel
  exact this mask h2 h1
theorem split_at {sh mask ab : Nat} (h1 : sh < 29) (h2 : 0 < mask) (h3 : mask < 16) (h4 : ab < 2) : Txt.split (flagsT ((maskN sh mask ab : Nat) : Int)) (Str.ofString ", ") = (idxs mask ab).map (nameAt sh) := by
  unfold flagsT
  rw [flagsR_at h1 h2 h3 h4]
  show Txt.split (Builtin.Str.glued sep _) sep = _
  rw [StrLaws.glued_eq_join]
  refine split_join _ ?_ fun w hw => ?_
  · intro e
    have := List.map_eq_nil_iff.mp e
    simp only [idxs, List.append_eq_nil_iff] at this
    exact idx4_ne mask h2 h3 this.1
  · obtain ⟨j, hj, rfl⟩ := List.mem_map.mp hw
    unfold nameAt
    split
    · exact word_free _ (by omega)
    · exact big_free
theorem nameIx : ∀ sh, sh < 29 → ∀ j, j < 5 → (namesOf sh).idxOf (nameAt sh j) = j := by decide +kernel
theorem flags_len {sh mask ab : Nat} (h1 : sh < 29) (h2 : 0 < mask) (h3 : mask < 16) (h4 : ab < 2) : (flagsT ((maskN sh mask ab : Nat) : Int)).length ≤ 200 := by
  have key : ∀ ws : List Str, ws.length ≤ 5 → (∀ y ∈ ws, y.length ≤ 20) → (Str.join sep ws).length ≤ 200 := fun ws hl hw => by
    have := StrLaws.join_length_le sep ws
    have s := StrLaws.sumLen_le ws hw
    rw [sep_len] at this
    omega
  unfold flagsT
  rw [flagsR_at h1 h2 h3 h4]
  show (Builtin.Str.glued sep _).length ≤ _
  rw [StrLaws.glued_eq_join]
  refine key _ ?_ fun y hy => ?_
  · rw [List.length_map, idxs, List.length_append]
    have : (idx4 mask).length ≤ 4 := by
      have := List.length_filter_le (fun k => mask.testBit k) (List.range 4)
      simpa [idx4] using this
    split <;> simp <;> omega
  · obtain ⟨j, hj, rfl⟩ := List.mem_map.mp hy
    unfold nameAt
    split
    · exact word_short _ (by omega)
    · decide +kernel
end Mine
end
theorem Mine.forget_AB : True ∧ True := by first | (walk1; all_goals trivial; done) | exact ⟨trivial, trivial⟩
section
namespace Mine
noncomputable def runGet : Option Obj → Option (Arguments × Scope × List Stmt × (PySem.Expr × List Stmt × Pos) × List Stmt)
  | some ⟨_, _, .func fd, _⟩ => (match fd.body with
    | .stmts [a, b, c, d, e, .While t body _ p, g, h, i] => some (fd.params, fd.scope, [a, b, c, d, e], (t, body, p), [g, h, i])
    | _ => none)
  | _ => none
noncomputable def runDef (P : Params) : { x : Arguments × Scope × List Stmt × (PySem.Expr × List Stmt × Pos) × List Stmt // runGet ((hd.heap_39 P).lookup 204) = some x } := ⟨_, rfl⟩
noncomputable def runScope (P : Params) : Scope := (runDef P).1.2.1
noncomputable def runHead (P : Params) : List Stmt := (runDef P).1.2.2.1
noncomputable def runTest (P : Params) : PySem.Expr := (runDef P).1.2.2.2.1.1
noncomputable def runBody (P : Params) : List Stmt := (runDef P).1.2.2.2.1.2.1
noncomputable def runTail (P : Params) : List Stmt := (runDef P).1.2.2.2.2
/-- an abstract state of the ring -/
structure LogSt where
  (e : El) (ks : List El) (n : Nat) (tl : List Int)
noncomputable def LogSt.parts (z : LogSt) : Array Value := (z.ks.map fun k => Value.ref k.f).toArray
noncomputable def LogSt.obj (z : LogSt) : Addr × Obj := (z.e.l, W.listOf z.parts z.n)
structure LogOk (P : Params) (C : Cd) (rest : List (Addr × Obj)) (z : LogSt) : Prop where
  ok : z.e.Ok
  ro : ∀ p ∈ z.e.ro P C.c2, p ∈ rest
  kids : ∀ k ∈ z.ks, k.Ok ∧ ∀ p ∈ k.ro P C.c2 ++ [(k.l, W.listOf #[] 0)], p ∈ rest
  tags : (z.e :: z.ks).map (·.tag) = z.tl.map escT
structure MkOk (P : Params) (rest : List (Addr × Obj)) (M : Mk) (st : Int) : Prop where
  cnt : M.cnt = (normOf st).1
  b : M.b = (normOf st).2
  mints : IntsAre M.vs M.cnt
  objs : ∀ p ∈ M.objs P, p ∈ rest
/-- what does not change -/
structure RC where
  (L sl nl ml gl cl vl hand : Addr) (o1 o2 o3 o4 o5 : Obj) (nvs gvs : List Value) (nn gn : Nat) (C : Cd) (size : Int) (ts tt tsh : Tok) (tail : Str) (sh : Nat)
structure LS where
  (G : Heap) (svs mvs cvs vvs : List Value) (sn mn cn vn : Nat) (st counts movers : List Int) (Ms : List Mk) (pl : Int) (pt : Tok) (lg : List LogSt) (rest : List (Addr × Obj))
noncomputable def tlOf (lg : List LogSt) (rest : List (Addr × Obj)) : List (Addr × Obj) := lg.map LogSt.obj ++ rest
noncomputable def Led (R : RC) (c : LS) : List (Addr × Obj) :=
  (R.L + 1 + 1 + 1 + 1 + 1, R.o5) :: (R.L + 1 + 1 + 1 + 1, R.o4) :: (R.L + 1 + 1 + 1, R.o3) :: (R.L + 1 + 1, R.o2) :: (R.L + 1, R.o1) :: (R.nl, W.listOf R.nvs.toArray R.nn) :: (R.gl, W.listOf R.gvs.toArray R.gn) :: (187, R.C.tab) :: (R.C.c2, R.C.oc) ::
    (R.sl, W.listOf c.svs.toArray c.sn) :: (R.ml, W.listOf c.mvs.toArray c.mn) :: (R.cl, W.listOf c.cvs.toArray c.cn) :: (R.vl, W.listOf c.vvs.toArray c.vn) :: tlOf c.lg c.rest
noncomputable def psOf (R : RC) (c : LS) : List (Str × Value) :=
  [(Str.ofString "size", .int R.size R.ts), (Str.ofString "plan", .int c.pl c.pt), (Str.ofString "tail", .str R.tail R.tt), (Str.ofString "logs", .ref R.gl), (Str.ofString "counts", .ref R.cl), (Str.ofString "movers", .ref R.vl)]
/-- the facts of what does not change -/
structure ROk (P : Params) (R : RC) (es : List El) : Prop where
  c1 : R.o1.data = .cell (some (.ref R.sl))
  c2 : R.o2.data = .cell (some (.int R.sh R.tsh))
  c3 : R.o3.data = .cell (some (.ref R.hand))
  c4 : R.o4.data = .cell (some (.ref R.nl))
  c5 : R.o5.data = .cell (some (.ref R.ml))
  C : R.C.Ok P
  hand : R.hand = 157 ∨ R.hand = 164 ∨ R.hand = 171
  names : StrsAre R.nvs (namesOf R.sh)
  gvs : R.gvs = es.map fun e => Value.ref e.f
  es : es.length = 4
  sh : R.sh < 29
  size : R.size = 4 ∨ R.size = 5
  tail : R.tail ∈ tails
  a1 : R.sl < R.L
  a2 : 187 < R.L
  a3 : Apart 187 R.sl
  a4 : R.L + 1 + 1 + 1 + 1 + 1 < R.nl
  a5 : R.nl < R.ml
  a6 : R.ml < R.gl
  a7 : R.gl < R.C.c2
  a8 : R.C.c2 < R.cl
  a9 : R.cl < R.vl
structure LOk (P : Params) (R : RC) (es : List El) (c : LS) : Prop where
  svs : IntsAre c.svs c.st
  cvs : IntsAre c.cvs c.counts
  vvs : IntsAre c.vvs c.movers
  st4 : c.st.length = 4
  stb : ∀ x ∈ c.st, 0 ≤ x ∧ x < R.size
  mvs : c.mvs = c.Ms.map fun M => Value.ref M.x
  m4 : c.Ms.length = 4
  mks : ∀ (k : Nat) M x, c.Ms[k]? = some M → c.st[k]? = some x → MkOk P c.rest M x
  lg : c.lg.map (·.e) = es
  lgo : ∀ z ∈ c.lg, LogOk P R.C c.rest z
  lga : ∀ z ∈ c.lg, R.gl < z.e.l ∧ z.e.l < R.cl
  lgd : ∀ (i j : Nat) z z', c.lg[i]? = some z → c.lg[j]? = some z' → i ≠ j → @Ne Nat z.e.l z'.e.l
  lgr : ∀ z ∈ c.lg, ∀ p ∈ c.rest, p.1 ≠ z.e.l
  r1 : ∀ p ∈ tlOf c.lg c.rest, p.1 ≠ R.sl
  r2 : ∀ p ∈ tlOf c.lg c.rest, p.1 ≠ R.ml
  r3 : ∀ p ∈ tlOf c.lg c.rest, p.1 ≠ R.cl
  r4 : ∀ p ∈ tlOf c.lg c.rest, p.1 ≠ R.vl
  lens : c.movers.length = c.counts.length ∧ ∀ z ∈ c.lg, z.ks.length ≤ c.counts.length
  pl : 0 ≤ c.pl ∧ c.pl < 10 ^ 9
  c23 : c.counts.length ≤ 23
end Mine
end
theorem Mine.forget_R0 : True ∧ True := by first | (walk1; all_goals trivial; done) | exact ⟨trivial, trivial⟩
section
namespace Mine
section
variable {prog : Program} {w : World} {A : Around} {h₀ : Heap} {L : Addr} {m : Str → Option Value} {env : Env} {ct elt : PySem.Expr} {x : Str} {scope : Scope} {cl : List (Str × Addr)} {s : Shared} {S : List (Addr × Obj) → Prop} {P : Nat → Value → Prop} {Fin : List Value → List (Addr × Obj) → Prop}
/-- one item's end: all as it was -/
noncomputable def SameEnd (h₀ : Heap) (L : Addr) (m : Str → Option Value) (s : Shared) (news : List (Addr × Obj)) (s₂ : Shared) : Prop :=
  ∃ h tk, s₂ = { s with heap := h, toks := tk } ∧ Fr h₀ L h m ∧ News h₀ L h news
theorem SameEnd.mk' {news : List (Addr × Obj)} {h : Heap} {tk : Nat} {l : List (Addr × Obj)} (F : Fr h₀ L h m) (N : News h₀ L h l) (hs : ∀ p ∈ news, p ∈ l) : SameEnd h₀ L m s news { s with heap := h, toks := tk } := ⟨h, tk, rfl, F, fun p hp => N p (hs p hp)⟩
noncomputable def TestTurn (prog : Program) (w : World) (A : Around) (h₀ : Heap) (L : Addr) (m : Str → Option Value) (env : Env) (ct elt : PySem.Expr) (x : Str) (scope : Scope) (cl : List (Str × Addr)) (s : Shared) (news : List (Addr × Obj)) (v : Value) (p : Bool) (z : Int) : Prop :=
  ∀ I oI C oC D ys m₂ h tk (E' : Value → Shared → Prop), LCg.NsObj oC m₂ → m₂ x = some v → Fr h₀ L h m → News h₀ L h ((I, oI) :: (C, oC) :: (D, LCg.lst ys) :: news) → LCg.Off3 I C D news → ((@Ne Nat I C) ∧ (@Ne Nat I D) ∧ (@Ne Nat C D)) →
    wpAny (model prog w) A (PySem.isTrue ct (compEnvC scope cl C env) (eval ct (compEnvC scope cl C env))) (fun ok s' => if ok = true then
        p = true ∧ wpAny (model prog w) A (eval elt (compEnvC scope cl C env)) (fun y s'' => (∃ t, y = .int z t) ∧ SameEnd h₀ L m { s with heap := h, toks := tk } ((I, oI) :: (C, oC) :: (D, LCg.lst ys) :: news) s'') E' s'
        else p = false ∧ SameEnd h₀ L m { s with heap := h, toks := tk } ((I, oI) :: (C, oC) :: (D, LCg.lst ys) :: news) s') E' { s with heap := h, toks := tk }
theorem ints_snoc {z : Int} {t : Tok} : ∀ {vs : List Value} {ns : List Int}, IntsAre vs ns → IntsAre (vs ++ [.int z t]) (ns ++ [z])
  | _, _, .nil => .cons z t .nil
  | _, _, .cons n u h => .cons n u (ints_snoc h)
theorem rest_test {news : List (Addr × Obj)} (p : Nat → Bool) (z : Nat → Int) (n : Nat) (hS : S news) (turn : ∀ i v, i < n → P i v → TestTurn prog w A h₀ L m env ct elt x scope cl s news v (p i) (z i))
    (fin : ∀ ys, IntsAre ys (((List.range n).filter p).map z) → Fin ys news) :
    ∀ k i ys, i + k = n → IntsAre ys (((List.range i).filter p).map z) → LCt.CompRestT prog w A h₀ L m env ct elt x scope cl s S P Fin k i ys news := by
  intro k
  induction k with
  | zero => intro i ys hi hys; obtain rfl : i = n := by omega
            exact LCt.CompRestT.zero (fin ys hys)
  | succ k ih =>
    intro i ys hi hys
    refine LCt.CompRestT.succ fun v I oI C oC D m₂ h tk E' hP ho hx F N off ne => ?_
    refine wpAny_mono (turn i v (by omega) hP I oI C oC D ys m₂ h tk E' ho hx F N off ne) (fun ok s' hs' => ?_) fun _ _ e => e
    cases ok with
    | true =>
      simp only [if_true] at hs' ⊢
      obtain ⟨hp, hs'⟩ := hs'
      refine wpAny_mono hs' (fun y s'' hy => ?_) fun _ _ e => e
      obtain ⟨⟨t, rfl⟩, h', tk', rfl, F', N'⟩ := hy
      refine ⟨h', tk', news, rfl, F', N', off, hS, ih (i + 1) _ (by omega) ?_⟩
      rw [List.range_succ, List.filter_append, List.map_append]
      simp only [List.filter_cons, hp, if_true, List.filter_nil, List.map_cons, List.map_nil]
      exact ints_snoc hys
    | false =>
      simp only [Bool.false_eq_true, if_false] at hs' ⊢
      obtain ⟨hp, h', tk', rfl, F', N'⟩ := hs'
      refine ⟨h', tk', news, rfl, F', N', off, hS, ih (i + 1) _ (by omega) ?_⟩
      rw [List.range_succ, List.filter_append, List.map_append]
      simp only [List.filter_cons, hp, Bool.false_eq_true, if_false, List.filter_nil, List.map_nil, List.append_nil]
      exact hys
/-- a comprehension without a test, each item giving one value, all else as it was -/
noncomputable def PlainTurn (prog : Program) (w : World) (A : Around) (h₀ : Heap) (L : Addr) (m : Str → Option Value) (env : Env) (elt : PySem.Expr) (x : Str) (scope : Scope) (cl : List (Str × Addr)) (s : Shared) (news : List (Addr × Obj)) (v : Value) (V : Value → Prop) : Prop :=
  ∀ I oI C oC D ys m₂ h tk (E' : Value → Shared → Prop), LCg.NsObj oC m₂ → m₂ x = some v → Fr h₀ L h m → News h₀ L h ((I, oI) :: (C, oC) :: (D, LCg.lst ys) :: news) → LCg.Off3 I C D news → ((@Ne Nat I C) ∧ (@Ne Nat I D) ∧ (@Ne Nat C D)) →
    wpAny (model prog w) A (eval elt (compEnvC scope cl C env)) (fun y s'' => V y ∧ SameEnd h₀ L m { s with heap := h, toks := tk } ((I, oI) :: (C, oC) :: (D, LCg.lst ys) :: news) s'') E' { s with heap := h, toks := tk }
theorem rest_plain {news : List (Addr × Obj)} (V : Nat → Value → Prop) (J : Nat → List Value → Prop) (n : Nat) (hJ : ∀ i ys y, i < n → J i ys → V i y → J (i + 1) (ys ++ [y])) (hS : S news) (turn : ∀ i v, i < n → P i v → PlainTurn prog w A h₀ L m env elt x scope cl s news v (V i))
    (fin : ∀ ys, J n ys → Fin ys news) :
    ∀ k i ys, i + k = n → J i ys → LCg.CompRest prog w A h₀ L m env elt x scope cl s S P Fin k i ys news := by
  intro k
  induction k with
  | zero => intro i ys hi hys; obtain rfl : i = n := by omega
            exact LCg.CompRest.zero (fin ys hys)
  | succ k ih =>
    intro i ys hi hys
    refine LCg.CompRest.succ fun v I oI C oC D m₂ h tk E' hP ho hx F N off ne => ?_
    refine wpAny_mono (turn i v (by omega) hP I oI C oC D ys m₂ h tk E' ho hx F N off ne) (fun y s'' hy => ?_) fun _ _ e => e
    obtain ⟨hV, h', tk', rfl, F', N'⟩ := hy
    exact ⟨h', tk', news, rfl, F', N', off, hS, ih (i + 1) _ (by omega) (hJ i ys y (by omega) hys hV)⟩
/-- a comprehension whose items may leave new objects on the ledger -/
theorem rest_grow {σ : Type} (Ld : σ → List (Addr × Obj)) (J : Nat → List Value → σ → Prop) (n : Nat) (hS : ∀ c, S (Ld c))
    (turn : ∀ i v ys c, i < n → P i v → J i ys c → ∀ I oI C oC D m₂ h tk (E' : Value → Shared → Prop), LCg.NsObj oC m₂ → m₂ x = some v → Fr h₀ L h m → News h₀ L h ((I, oI) :: (C, oC) :: (D, LCg.lst ys) :: Ld c) → LCg.Off3 I C D (Ld c) → ((@Ne Nat I C) ∧ (@Ne Nat I D) ∧ (@Ne Nat C D)) →
      wpAny (model prog w) A (eval elt (compEnvC scope cl C env)) (fun y s'' => ∃ c', J (i + 1) (ys ++ [y]) c' ∧ LCg.Off3 I C D (Ld c') ∧ SameEnd h₀ L m { s with heap := h, toks := tk } ((I, oI) :: (C, oC) :: (D, LCg.lst ys) :: Ld c') s'') E' { s with heap := h, toks := tk })
    (fin : ∀ ys c, J n ys c → Fin ys (Ld c)) :
    ∀ k i ys c, i + k = n → J i ys c → LCg.CompRest prog w A h₀ L m env elt x scope cl s S P Fin k i ys (Ld c) := by
  intro k
  induction k with
  | zero => intro i ys c hi hys; obtain rfl : i = n := by omega
            exact LCg.CompRest.zero (fin ys c hys)
  | succ k ih =>
    intro i ys c hi hys
    refine LCg.CompRest.succ fun v I oI C oC D m₂ h tk E' hP ho hx F N off ne => ?_
    refine wpAny_mono (turn i v ys c (by omega) hP hys I oI C oC D m₂ h tk E' ho hx F N off ne) (fun y s'' hy => ?_) fun _ _ e => e
    obtain ⟨c', hJ, off', h', tk', rfl, F', N'⟩ := hy
    exact ⟨h', tk', Ld c', rfl, F', N', off', hS c', ih (i + 1) _ c' (by omega) hJ⟩
end
section
variable {prog : Program} {w : World} {A : Around} {E : Value → Shared → Prop} {h₀ : Heap} {L : Addr} {m : Str → Option Value} {env : Env} {ct elt iter : PySem.Expr} {x : Str} {px pos : Pos} {scope : Scope} {cl : List (Str × Addr)} {s : Shared} {news : List (Addr × Obj)} {Q : Value → Shared → Prop} {n : Nat}
theorem comp_range_test (p : Nat → Bool) (z : Nat → Int) (hh : A.handled = none) (F : Fr h₀ L s.heap m) (_N : News h₀ L s.heap news) (hclos : closureFor scope env = pure cl) (hcell : ∀ y ∈ scope.names, y.2 ≠ .cell) (hkind : scope.kind = .function)
    (hnames : ∀ y ∈ scope.names, y.2 = .local → scope.names.lookup y.1 = some .local) (hx : scope.names.lookup x = some .local)
    (hev : wpAny (model prog w) A (eval iter env) (RngAt h₀ L s m news n) E s) (hsmall : Builtin.Range.small 0 n 1 = true) (hn : Builtin.Range.rangeSize 0 n 1 = (n : Int)) (hsz : n ≤ sizeLine)
    (turn : ∀ g tk i t, i < n → TestTurn prog w A h₀ L m env ct elt x scope cl { s with heap := g, toks := tk } news (.int ((i : Nat) : Int) t) (p i) (z i))
    (fin : ∀ D h tk ys, IntsAre ys (((List.range n).filter p).map z) → Fr h₀ L h m → News h₀ L h ((D, LCg.lst ys) :: news) → LCg.Off1 D news → Q (.ref D) { s with heap := h, toks := tk })
    (hs : ∀ x, foldedSetIterable iter env x = pure x := by intro _; rfl) :
    wpAny (model prog w) A (eval (.ListComp elt [⟨.Name x px, iter, [ct], 0⟩] scope pos) env) Q E s := by
  refine LCt.ListComp_T F hclos hcell hkind hnames hx (wpAny_mono hev (fun v s₁ q => ?_) fun _ _ e => e) hs
  obtain ⟨r, t₀, u₀, v₀, h, tk, rfl, rfl, hr, F', N'⟩ := q
  refine LCt.CompSrcT.range (n := n) hh F' N' hr hsmall hn hsz fun g => ?_
  refine rest_test p z n trivial (fun i v hi hv => ?_) (fun ys hys D h' tk' F₂ N₂ o1 => fin D h' tk' ys hys F₂ N₂ o1) n 0 [] (by omega) .nil
  obtain ⟨t, rfl⟩ := hv
  rw [Int.zero_add]
  exact turn g tk i t hi
theorem comp_range_grow {σ : Type} (Ld : σ → List (Addr × Obj)) (J : Nat → List Value → σ → Prop) (c₀ : σ) (hh : A.handled = none) (F : Fr h₀ L s.heap m) (_N : News h₀ L s.heap (Ld c₀)) (hclos : closureFor scope env = pure cl) (hcell : ∀ y ∈ scope.names, y.2 ≠ .cell) (hkind : scope.kind = .function)
    (hnames : ∀ y ∈ scope.names, y.2 = .local → scope.names.lookup y.1 = some .local) (hx : scope.names.lookup x = some .local)
    (hev : wpAny (model prog w) A (eval iter env) (RngAt h₀ L s m (Ld c₀) n) E s) (hsmall : Builtin.Range.small 0 n 1 = true) (hn : Builtin.Range.rangeSize 0 n 1 = (n : Int)) (hsz : n ≤ sizeLine) (h0 : J 0 [] c₀)
    (turn : ∀ i t ys c, i < n → J i ys c → ∀ I oI C oC D m₂ h tk (E' : Value → Shared → Prop), LCg.NsObj oC m₂ → m₂ x = some (.int ((i : Nat) : Int) t) → Fr h₀ L h m → News h₀ L h ((I, oI) :: (C, oC) :: (D, LCg.lst ys) :: Ld c) → LCg.Off3 I C D (Ld c) → ((@Ne Nat I C) ∧ (@Ne Nat I D) ∧ (@Ne Nat C D)) →
      wpAny (model prog w) A (eval elt (compEnvC scope cl C env)) (fun y s'' => ∃ c', J (i + 1) (ys ++ [y]) c' ∧ LCg.Off3 I C D (Ld c') ∧ SameEnd h₀ L m { s with heap := h, toks := tk } ((I, oI) :: (C, oC) :: (D, LCg.lst ys) :: Ld c') s'') E' { s with heap := h, toks := tk })
    (fin : ∀ D h tk ys c, J n ys c → Fr h₀ L h m → News h₀ L h ((D, LCg.lst ys) :: Ld c) → LCg.Off1 D (Ld c) → Q (.ref D) { s with heap := h, toks := tk })
    (hs : ∀ x, foldedSetIterable iter env x = pure x := by intro _; rfl) :
    wpAny (model prog w) A (eval (.ListComp elt [⟨.Name x px, iter, [], 0⟩] scope pos) env) Q E s := by
  refine LCg.ListComp_U F hclos hcell hkind hnames hx (wpAny_mono hev (fun v s₁ q => ?_) fun _ _ e => e) hs
  obtain ⟨r, t₀, u₀, v₀, h, tk, rfl, rfl, hr, F', N'⟩ := q
  refine LCg.CompSrc.range (n := n) hh F' N' hr hsmall hn hsz fun g => ?_
  refine rest_grow Ld J n (fun _ => trivial) (fun i v ys c hi hv hJ => ?_) (fun ys c hys D h' tk' F₂ N₂ o1 => fin D h' tk' ys c hys F₂ N₂ o1) n 0 [] c₀ (by omega) h0
  obtain ⟨t, rfl⟩ := hv
  rw [Int.zero_add]
  exact turn i t ys c hi hJ
end
section
variable {w : World} {mean : ExcName → Option Value} {mg mb : Str → Option Value} {dp un : Nat} {gd : Option (List Code)} {cn : Str} {cs : Scope} {a : Addr} {ccd : Value} {cl : List (Str × Addr)} {outer : List Env} {A₀ : Around} {base h₀ : Heap} {L : Addr} {m : Str → Option Value} {s : Shared} {news E : List (Addr × Obj)} {Q R : Value → Shared → Prop}
theorem use_ro {f : Addr} {vs : List Value} {pre : Prop} {V : Tok → Value} (C : Told w E pre f vs (Back V)) (hE : ∀ p ∈ E, p ∈ news) (H : Here w mean mg mb dp un cs outer A₀ base h₀ L m s news) (hp : pre)
    (h : ∀ t h' tk, s.toks ≤ tk → Fr h₀ L h' m → News h₀ L h' news → Q (V t) { s with heap := h', toks := tk }) :
    wpAny (model PySem.Challenge.rw_xe0044_01.row.prog w) (ktrTop dp un gd cn cs L a ccd cl outer) (call (.ref f) vs) Q R s :=
  toks_on (C mean mg mb dp un gd cn cs a ccd cl outer A₀ base h₀ L m s _ R H.B H.F H.X (fun p hp => H.N p (hE p hp)) H.T H.k H.d H.u hp fun t h' tk k hle => h t h' tk hle (keeps_fr k H.F) (keeps_news k H.N))
end
end Mine
end
theorem Mine.forget_Y0 : True ∧ True := by first | (walk1; all_goals trivial; done) | exact ⟨trivial, trivial⟩
section
namespace Mine
/-- may machine k move -/
noncomputable def ablep (st : List Int) (k : Nat) : Bool := if k = 0 then st.getD 0 0 == st.getD 3 0 else st.getD k 0 != st.getD (k - 1) 0
noncomputable def maskOf (st : List Int) : Nat := (((List.range 4).filter (ablep st)).map (2 ^ ·)).sum
theorem mk_in {P : Params} {M : Mk} {news : List (Addr × Obj)} (h1 : (M.x, instObj 123 M.d) ∈ news)
    (h2 : (M.d, dictOf [⟨PyData.keyHash P (Str.ofString "raw"), .str (Str.ofString "raw") M.k1, M.v1⟩, ⟨PyData.keyHash P (Str.ofString "n"), .str (Str.ofString "n") M.k2, M.v2⟩, ⟨PyData.keyHash P (Str.ofString "nt"), .str (Str.ofString "nt") M.k3, M.v3⟩,
     ⟨PyData.keyHash P (Str.ofString "norm"), .str (Str.ofString "norm") M.k4, .ref M.tn⟩, ⟨PyData.keyHash P (Str.ofString "is_simple"), .str (Str.ofString "is_simple") M.k5, M.v5⟩] 5) ∈ news)
    (h3 : (M.tn, ({ cls := .type "tuple", data := .seq #[.ref M.tc, .int M.b M.tb] } : Obj)) ∈ news) (h4 : (M.tc, ({ cls := .type "tuple", data := .seq M.vs.toArray } : Obj)) ∈ news) : ∀ p ∈ M.objs P, p ∈ news := fun p hp => by
  simp only [Mk.objs, List.mem_cons, List.not_mem_nil, or_false] at hp
  rcases hp with rfl | rfl | rfl | rfl <;> assumption
theorem mk_sub {P : Params} {M M' : Mk} {news : List (Addr × Obj)} (h1 : ∀ p ∈ M.objs P, p ∈ news) (h2 : ∀ p ∈ M'.objs P, p ∈ news) : ∀ p ∈ M.objs P ++ M'.objs P, p ∈ news := fun p hp => (List.mem_append.mp hp).elim (h1 p) (h2 p)
theorem norm_inj {a b : Int} (ha : 0 ≤ a ∧ a < 5) (hb : 0 ≤ b ∧ b < 5) : ((normOf a).1 = (normOf b).1 ∧ (normOf a).2 = (normOf b).2) ↔ a = b := by
  obtain ⟨a1, a2⟩ := ha
  obtain ⟨b1, b2⟩ := hb
  rcases (by omega : a = 0 ∨ a = 1 ∨ a = 2 ∨ a = 3 ∨ a = 4) with rfl | rfl | rfl | rfl | rfl <;>
    rcases (by omega : b = 0 ∨ b = 1 ∨ b = 2 ∨ b = 3 ∨ b = 4) with rfl | rfl | rfl | rfl | rfl <;> decide
theorem mk_eq {P : Params} {rest : List (Addr × Obj)} {M M' : Mk} {a b : Int} (h : MkOk P rest M a) (h' : MkOk P rest M' b) (ha : 0 ≤ a ∧ a < 5) (hb : 0 ≤ b ∧ b < 5) : (M.cnt = M'.cnt ∧ M.b = M'.b) ↔ a = b := by
  rw [h.cnt, h'.cnt, h.b, h'.b]
  exact norm_inj ha hb
theorem able_fact {P : Params} {rest : List (Addr × Obj)} {M M' : Mk} {st : List Int} {i j : Nat} {x c : Bool} (h : MkOk P rest M (st.getD i 0)) (h' : MkOk P rest M' (st.getD j 0)) (hst : st.length = 4) (hb : ∀ x ∈ st, 0 ≤ x ∧ x < 5) (hi : i < 4) (hj : j < 4)
    (e : (decide (M.cnt = M'.cnt ∧ M.b = M'.b) == x) = c) : ((st.getD i 0 == st.getD j 0) == x) = c := by
  have key : ∀ k, k < 4 → 0 ≤ st.getD k 0 ∧ st.getD k 0 < 5 := fun k hk => by
    have hk' : k < st.length := by omega
    rw [List.getD_eq_getElem?_getD, List.getElem?_eq_getElem hk']
    exact hb _ (List.getElem_mem hk')
  rw [← e, show decide (M.cnt = M'.cnt ∧ M.b = M'.b) = decide (st.getD i 0 = st.getD j 0) from decide_eq_decide.mpr (mk_eq h h' (key i hi) (key j hj))]
  rfl
theorem able_z {st : List Int} {c : Bool} (e : ((st.getD 0 0 == st.getD 3 0) == ((0 : Int) == 0)) = c) : ablep st 0 = c := by
  rw [← e]
  unfold ablep
  cases (st.getD 0 0 == st.getD 3 0) <;> rfl
theorem able_s {st : List Int} {c : Bool} {k : Nat} {x : Bool} (hx : x = false) (e : ((st.getD (k + 1) 0 == st.getD k 0) == x) = c) : ablep st (k + 1) = c := by
  rw [← e, hx]
  show (st.getD (k + 1) 0 != st.getD k 0) = _
  unfold bne
  cases (st.getD (k + 1) 0 == st.getD k 0) <;> rfl
noncomputable def pick (b0 b1 b2 b3 : Bool) (k : Nat) : Bool := [b0, b1, b2, b3].getD k false
theorem pick_eq (st : List Int) : (List.range 4).filter (ablep st) = (List.range 4).filter (pick (ablep st 0) (ablep st 1) (ablep st 2) (ablep st 3)) := List.filter_congr fun k hk => by
  have hk := List.mem_range.mp hk
  rcases (by omega : k = 0 ∨ k = 1 ∨ k = 2 ∨ k = 3) with rfl | rfl | rfl | rfl <;> rfl
theorem mask_lt (st : List Int) : maskOf st < 16 := by
  unfold maskOf
  rw [pick_eq]
  have : ∀ a b c d : Bool, (((List.range 4).filter (pick a b c d)).map (2 ^ ·)).sum < 16 := by decide
  exact this _ _ _ _
theorem mask_sum (st : List Int) : (((List.range 4).filter fun k => ablep st k).map (fun k => ((2 ^ k : Nat) : Int))).sum = (maskOf st : Int) := by
  unfold maskOf
  show (((List.range 4).filter (ablep st)).map (fun k => ((2 ^ k : Nat) : Int))).sum = _
  rw [pick_eq]
  have : ∀ a b c d : Bool, (((List.range 4).filter (pick a b c d)).map (fun k => ((2 ^ k : Nat) : Int))).sum = ((((List.range 4).filter (pick a b c d)).map (2 ^ ·)).sum : Nat) := by decide
  exact this _ _ _ _
theorem mask_idx (st : List Int) : idx4 (maskOf st) = (List.range 4).filter (ablep st) := by
  unfold maskOf idx4
  rw [pick_eq]
  have : ∀ a b c d : Bool, ((List.range 4).filter fun k => ((((List.range 4).filter (pick a b c d)).map (2 ^ ·)).sum).testBit k) = (List.range 4).filter (pick a b c d) := by decide
  exact this _ _ _ _
theorem mask_val (sh mk ab : Nat) : (mk : Int) * 2 ^ ((sh : Nat) : Int).toNat + (ab : Int) * 2 ^ Int.toNat 32 = ((maskN sh mk ab : Nat) : Int) := by
  unfold maskN
  rw [Nat.shiftLeft_eq, Int.toNat_natCast, Int.natCast_add, Int.natCast_mul, Int.natCast_mul, Int.natCast_pow]
  rfl
theorem four_of {α : Type} {l : List α} (h : l.length = 4) : ∃ a b c d, l = [a, b, c, d] := by
  match l, h with
  | [a, b, c, d], _ => exact ⟨a, b, c, d, rfl⟩
/-- the statements of the loop's body -/
noncomputable def stGo : Nat → List Stmt → Stmt
  | 0, x :: _ => x
  | k + 1, _ :: r => stGo k r
  | _, [] => default
noncomputable def stAt (P : Params) (k : Nat) : Stmt := stGo k (runBody P)
noncomputable def EN (w : World) (L : Addr) : Env := envOfC (Str.ofString "_law_run") (runScope w.params) L 204 (.ref 203)
noncomputable def kset (m : Str → Option Value) (x : Str) (v : Value) : Str → Option Value := fun y => if y = x then some v else m y
noncomputable abbrev Post := Heap → Addr → (Str → Option Value) → Shared → (Flow → Shared → Prop) → Prop
/-- what a statement of _law_run does, from any place -/
noncomputable abbrev SX (w : World) (st : Env → Stmt) (ps : List (Str × Value)) (news : Addr → List (Addr × Obj)) (pre : Addr → Shared → Prop) (post : Post) : Prop :=
  ∀ (mean : ExcName → Option Value) (mg mb : Str → Option Value) (dp un : Nat) (gd : Option (List Code)) (outer : List Env) (A₀ : Around) (base h₀ : Heap) (L : Addr) (m : Str → Option Value) (s : Shared) (Q : Flow → Shared → Prop) (R : Value → Shared → Prop),
    Below A₀ base outer h₀ → Fr h₀ L s.heap m → (∀ p ∈ ps, m p.1 = some p.2) → Frag.In (hd.heap_39 w.params) h₀ → News h₀ L s.heap (news L) → Top topProg lo mean mg mb h₀ →
    dp + 200 < recursionLimit → un + 1500 < cLine → pre L s → post h₀ L m s Q →
      wpAny (model PySem.Challenge.rw_xe0044_01.row.prog w) (ktrTop dp un gd (Str.ofString "_law_run") (runScope w.params) L 204 (.ref 203) (cellsFrom (L + 1) (runScope w.params).names []) outer) (exec (st (EN w L)) (EN w L)) Q R s
/-- one local is set, all else stands -/
noncomputable abbrev Sets (x : Str) (V : Value → Prop) (news : Addr → List (Addr × Obj)) : Post := fun h₀ L m s Q => ∀ v h' tk', V v → Fr h₀ L h' (kset m x v) → News h₀ L h' (news L) → Q .next { s with heap := h', toks := tk' }
theorem kset_end {h₀ h' : Heap} {L : Addr} {m : Str → Option Value} {ps : List (Str × Value)} {x : Str} {v : Value} (hm : ∀ p ∈ ps, m p.1 = some p.2) (F : Fr h₀ L h' (fun y => if y = x then some v else kstB m ps y)) : Fr h₀ L h' (kset m x v) := by
  rw [kstB_same hm] at F
  exact F
theorem kfr_end {h₀ h' : Heap} {L : Addr} {m : Str → Option Value} {ps : List (Str × Value)} (hm : ∀ p ∈ ps, m p.1 = some p.2) (F : Fr h₀ L h' (kstB m ps)) : Fr h₀ L h' m := by
  rw [kstB_same hm] at F
  exact F
end Mine
end
theorem Mine.forget_R1 : True ∧ True := by first | (walk1; all_goals trivial; done) | exact ⟨trivial, trivial⟩
section
namespace Mine
theorem isStr_at (k : Str) : ∀ {vs : List Value} {ys : List Str}, StrsAre vs ys → ∀ (j : Nat) (h1 : j < vs.length) (h2 : j < ys.length), isStrOf k vs[j] = (ys[j] == k)
  | _, _, .nil, j, h1, _ => absurd h1 (by simp)
  | _, _, .cons n t h, 0, _, _ => by simp [isStrOf]
  | _, _, .cons n t h, j + 1, h1, h2 => by simpa using isStr_at k h j (by simpa using h1) (by simpa using h2)
theorem ne_lt_idx {k : Str} : ∀ {ns : List Str} {j : Nat}, j < ns.idxOf k → ∀ (h2 : j < ns.length), (ns[j] == k) = false
  | [], j, h, h2 => absurd h2 (by simp)
  | a :: r, 0, h, h2 => by
    rw [List.idxOf_cons] at h
    cases e : a == k with
    | true => simp [e] at h
    | false => simpa using e
  | a :: r, j + 1, h, h2 => by
    rw [List.idxOf_cons] at h
    cases e : a == k with
    | true => simp [e] at h
    | false =>
      simp only [e, cond_false] at h
      simpa using ne_lt_idx (ns := r) (by omega) (by simpa using h2)
theorem idxs_len (mk ab : Nat) : (idxs mk ab).length ≤ 5 := by
  rw [idxs, List.length_append]
  have h1 : (idx4 mk).length ≤ 4 := by simpa [idx4] using List.length_filter_le (fun k => mk.testBit k) (List.range 4)
  have h2 : (if ab = 0 then ([] : List Nat) else [4]).length ≤ 1 := by split <;> decide
  omega
theorem index_strs {prog : Program} {w : World} {A : Around} {E : Value → Shared → Prop} {s : Shared} {l : Addr} {vs : List Value} {ns : List Str} {k : Str} {t : Tok} {Q : Value → Shared → Prop} (hl : s.heap.IsList l vs.toArray) (hi : StrsAre vs ns)
    (hb : ns.length ≤ 100) (hk : k ∈ ns) (h : Q (.int (ns.idxOf k : Nat) s.toks) { s with toks := s.toks + 1 }) :
    wpAny (model prog w) A (call (.builtin "list.index") [.ref l, .str k t]) Q E s := by
  obtain ⟨⟨cls, dd, data, sl⟩, ho, hc, n, hd⟩ := id hl
  simp only at hc hd
  subst hc hd
  have hlen := StrsAre.length hi
  have hj : ns.idxOf k < ns.length := List.idxOf_lt_length_iff.mpr hk
  refine call_meets PySem.F.slot_list_index ⟨_, ho, rfl⟩ PySem.F.entry_list_index (PySem.F.args_list_index_2 _ _)
    (PySem.SeqAt.list_indexAt l vs.toArray n dd sl (.str k t) (isStrOf k) (ns.idxOf k) (by simpa [hlen] using hj) (by omega) ?_ ?_) ⟨ho, fun y hy => (eq_isStrOf k t hi y (by simpa using hy)).at _ _, h⟩
  · show isStrOf k vs[ns.idxOf k] = true
    rw [isStr_at k hi _ (by omega) hj]
    simpa using List.getElem_idxOf hj
  · intro j hjs hlt
    show isStrOf k vs[j] = false
    rw [isStr_at k hi j (by simpa using hjs) (by omega)]
    exact ne_lt_idx hlt _
theorem strs_at {vs : List Value} {ys : List Str} (h : StrsAre vs ys) : ∀ {i : Nat} {v : Value}, vs.toArray[i]? = some v → i < ys.length ∧ ∃ t, v = .str (ys.getD i Str.empty) t := by
  induction h with
  | nil => intro i v e; simp at e
  | cons n t h ih =>
    intro i v e
    cases i with
    | zero => simp at e; exact ⟨by simp, t, by simp [← e]⟩
    | succ i =>
      have := ih (i := i) (v := v) (by simpa using e)
      exact ⟨by simpa using this.1, by simpa using this.2⟩
section
local macro_rules | `(tactic| walk_at "call builtin:list.index") => `(tactic| (k_here; (with_reducible show wpAny _ _ (call (Value.builtin "list.index") [Value.ref _, Value.str _ _]) _ _ _); k_dflt (refine' index_strs ?k1 ?k2 ?k3 ?k4 ?_; (case k1 => is_list); (case k2 => with_reducible assumption); (case k3 => with_reducible assumption); (case k4 => with_reducible assumption); k_whole)))
local macro_rules | `(tactic| walk_at "exec Assign cons ListComp") => `(tactic| (k_here; refine halt ?_))
theorem s2_told (w : World) (nl : Addr) (nvs : List Value) (nn : Nat) (o4 : Obj) (fl : Str) (t0 : Tok) (sh mk ab : Nat) (NL : List (Addr × Obj))
    (c4 : o4.data = .cell (some (.ref nl))) (hn : StrsAre nvs (namesOf sh)) (hsh : sh < 29) (hab : ab < 2) (hfl : fl.length ≤ 200) (hsp : Txt.split fl (Str.ofString ", ") = (idxs mk ab).map (nameAt sh)) :
    SX w (fun _ => stAt w.params 2) [(Str.ofString "told", .str fl t0)] (fun L => (L + 1 + 1 + 1 + 1, o4) :: (nl, W.listOf nvs.toArray nn) :: NL) (fun _ _ => True)
      (fun h₀ L m s Q => ∀ D ys h' tk', IntsAre ys ((idxs mk ab).map (fun k => ((k : Nat) : Int))) → LCg.Off1 D ((L + 1 + 1 + 1 + 1, o4) :: (nl, W.listOf nvs.toArray nn) :: NL) → Fr h₀ L h' (kset m (Str.ofString "able") (.ref D)) → News h₀ L h' ((D, LCg.lst ys) :: (L + 1 + 1 + 1 + 1, o4) :: (nl, W.listOf nvs.toArray nn) :: NL) → Q .next { s with heap := h', toks := tk' }) := by
  delta SX
  k_fill
  intro mean mg mb dp un gd outer A₀ base h₀ L m s Q R B F hm X N T hd hu hpre hpost
  have h1 := hm _ (.head _)
  rw [← kstB_same hm] at F
  delta EN stAt runBody runScope runDef
  dsimp only [kstB, stGo] at F N hpost ⊢
  k_steps
  unfold Halt
  refine LCg.Assign_ListComp_U (F₀ := F) (by rfl) (by with_unfolding_all rfl) (by with_unfolding_all rfl) (by decide) (by rfl) (by decide) (by rfl) (by rfl) (by rfl) ?_
  k_steps
  rename StrsAre (strValues _) _ => hS
  rename List.map _ _ = Txt.split _ _ => hE
  rename Fr _ _ _ _ => F1
  rename News _ _ _ _ => N1
  rw [hE, hsp] at hS
  have hlen := StrsAre.length hS
  rw [List.length_map] at hlen
  have hil : (idxs mk ab).length ≤ 5 := idxs_len mk ab
  have hnl : (namesOf sh).length ≤ 100 := by simp [namesOf]
  refine LCg.CompSrc.ledger rfl F1 N1 (.head _) (by rw [sizeLine_eq]; simp; omega) fun g => rest_plain (fun i y => ∃ t, y = .int (((idxs mk ab).getD i 0 : Nat) : Int) t) (fun i ys => IntsAre ys (((idxs mk ab).take i).map fun k => ((k : Nat) : Int))) _ ?hJ (.inr ⟨_, .head _, rfl, _, rfl⟩) ?turn ?fin _ 0 [] (Nat.zero_add _) .nil
  case hJ =>
    rintro i ys y hi hys ⟨t, rfl⟩
    have hi : i < (idxs mk ab).length := by simpa [hlen] using hi
    rw [List.take_succ_eq_append_getElem hi, List.map_append]
    rw [List.getD_eq_getElem?_getD, List.getElem?_eq_getElem hi]
    exact ints_snoc hys
  case turn =>
    intro i v hi hv
    have hi : i < (idxs mk ab).length := by simpa [hlen] using hi
    obtain ⟨-, t, rfl⟩ := strs_at hS hv
    intro I oI Cc oC D ys m₂ h2 tk2 E' hns hm2 F3 N3 off nn
    clear F1 N1 hpost hv hS
    have hj : (idxs mk ab).getD i 0 < 5 := by
      rw [List.getD_eq_getElem?_getD, List.getElem?_eq_getElem hi]
      exact idxs_lt (List.getElem_mem hi)
    have hw : ((idxs mk ab).map (nameAt sh)).getD i Str.empty = nameAt sh ((idxs mk ab).getD i 0) := by
      rw [List.getD_eq_getElem?_getD, List.getD_eq_getElem?_getD, List.getElem?_map, List.getElem?_eq_getElem hi]
      rfl
    rw [hw] at hm2
    have hin : nameAt sh ((idxs mk ab).getD i 0) ∈ namesOf sh := List.mem_map.mpr ⟨_, List.mem_range.mpr hj, rfl⟩
    have hix := nameIx sh hsh _ hj
    k_steps
    · rw [hix]
    · exact ⟨_, _, rfl, F3, N3⟩
  case fin =>
    intro ys hys D h' tk' F2 N2 o1
    simp only [List.size_toArray, hlen, List.take_length] at hys
    refine hpost D ys h' tk' hys o1.2 (kset_end hm F2) fun p hp => N2 p ?_
    revert p
    exact all_cons (.head _) (fun p hp => .tail _ (.tail _ hp))
end
end Mine
end
theorem Mine.forget_R3 : True ∧ True := by first | (walk1; all_goals trivial; done) | exact ⟨trivial, trivial⟩
section
namespace Mine
/-- nothing is set -/
noncomputable abbrev Same (news : Addr → List (Addr × Obj)) : Post := fun h₀ L m s Q => ∀ h' tk', Fr h₀ L h' m → News h₀ L h' (news L) → Q .next { s with heap := h', toks := tk' }
section
theorem s3_told (w : World) (D : Addr) (ys : List Value) (ns : List Int) (ab : Nat) (tab : Tok) (NL : List (Addr × Obj)) (hi : IntsAre ys ns) (hl : ns.length ≤ 5) (hab : ab < 2) (hs : ns.Pairwise (fun a b => a ≤ b)) (hc : ns.count 4 = ab) :
    SX w (fun _ => stAt w.params 3) [(Str.ofString "able", .ref D), (Str.ofString "above", .int (ab : Int) tab)] (fun _ => (D, LCg.lst ys) :: NL) (fun _ _ => True) (Same (fun _ => (D, LCg.lst ys) :: NL)) := by
  delta SX Same
  k_fill
  intro mean mg mb dp un gd outer A₀ base h₀ L m s Q R B F hm X N T hd hu hpre hpost
  rw [← kstB_same hm] at F
  delta EN stAt runBody runScope runDef
  dsimp only [kstB, stGo] at F N hpost ⊢
  k_steps
  · rename News _ _ _ _ => N5
    exact hpost _ _ (kfr_end hm ‹_›) fun p hp => N5 p (.tail _ hp)
theorem s4_told (w : World) (D : Addr) (ys : List Value) (ns : List Int) (ab : Nat) (pl : Int) (tab tpl : Tok) (NL : List (Addr × Obj)) (hi : IntsAre ys ns) (hl : ns.length ≤ 5) (hab : ab < 2) (hla : ab < ns.length) (hp : 0 ≤ pl) (hp' : pl < 10 ^ 9) :
    SX w (fun _ => stAt w.params 4) [(Str.ofString "able", .ref D), (Str.ofString "above", .int (ab : Int) tab), (Str.ofString "plan", .int pl tpl)] (fun _ => (D, LCg.lst ys) :: NL) (fun _ _ => True)
      (Sets (Str.ofString "mover") (fun v => ∃ t, v = .int (ns.getD (pl.fmod ((ns.length : Int) - (ab : Int))).toNat 0) t) (fun _ => (D, LCg.lst ys) :: NL)) := by
  delta SX Sets
  k_fill
  intro mean mg mb dp un gd outer A₀ base h₀ L m s Q R B F hm X N T hd hu hpre hpost
  rw [← kstB_same hm] at F
  delta EN stAt runBody runScope runDef
  dsimp only [kstB, stGo] at F N hpost ⊢
  k_steps
  exact hpost _ _ _ ⟨_, rfl⟩ (kset_end hm ‹_›) ‹_›
theorem s5_told (w : World) (D : Addr) (ys : List Value) (ns : List Int) (ab : Nat) (pl : Int) (tab tpl : Tok) (NL : List (Addr × Obj)) (hi : IntsAre ys ns) (hl : ns.length ≤ 5) (hab : ab < 2) (hla : ab < ns.length) (hp : 0 ≤ pl) (hp' : pl < 10 ^ 9) :
    SX w (fun _ => stAt w.params 5) [(Str.ofString "able", .ref D), (Str.ofString "above", .int (ab : Int) tab), (Str.ofString "plan", .int pl tpl)] (fun _ => (D, LCg.lst ys) :: NL) (fun _ _ => True)
      (Sets (Str.ofString "plan") (fun v => ∃ t, v = .int (pl.fdiv ((ns.length : Int) - (ab : Int))) t) (fun _ => (D, LCg.lst ys) :: NL)) := by
  delta SX Sets
  k_fill
  intro mean mg mb dp un gd outer A₀ base h₀ L m s Q R B F hm X N T hd hu hpre hpost
  rw [← kstB_same hm] at F
  delta EN stAt runBody runScope runDef
  dsimp only [kstB, stGo] at F N hpost ⊢
  k_steps
  exact hpost _ _ _ ⟨_, rfl⟩ (kset_end hm ‹_›) ‹_›
end
end Mine
end
theorem Mine.forget_R4 : True ∧ True := by first | (walk1; all_goals trivial; done) | exact ⟨trivial, trivial⟩
section
namespace Mine
theorem amp_all : ∀ k, k < 5 → ((amp ((k : Nat) : Int)).length = 2 * k ∧ amp ((k : Nat) : Int) ++ Str.ofString "&\"" = amp ((k + 1 : Nat) : Int)) := by decide +kernel
theorem amp_facts (y : Int) (h0 : 0 ≤ y) (h1 : y < 5) : ((amp y).length : Int) = 2 * y ∧ amp y ++ Str.ofString "&\"" = amp (y + 1) ∧ Str.ofString "" = amp 0 := by
  obtain ⟨k, rfl⟩ : ∃ k : Nat, y = (k : Int) := ⟨y.toNat, by omega⟩
  obtain ⟨a, b⟩ := amp_all k (by omega)
  refine ⟨by omega, by rw [b]; rfl, by decide +kernel⟩
section
theorem s7a_told (w : World) (y : Int) (size : Int) (tn tm ts : Tok) (NL : List (Addr × Obj)) (hy : 0 ≤ y ∧ y < 5) (hs : size = 4 ∨ size = 5) :
    SX w (fun _ => stAt w.params 7) [(Str.ofString "mover", .int 0 tm), (Str.ofString "name", .str (amp y) tn), (Str.ofString "size", .int size ts)] (fun _ => NL) (fun _ _ => True)
      (Sets (Str.ofString "name") (fun v => ∃ t, v = .str (if y + 1 < size then amp (y + 1) else amp 0) t) (fun _ => NL)) := by
  delta SX Sets
  k_fill
  intro mean mg mb dp un gd outer A₀ base h₀ L m s Q R B F hm X N T hd hu hpre hpost
  rw [← kstB_same hm] at F
  delta EN stAt runBody runScope runDef
  dsimp only [kstB, stGo] at F N hpost ⊢
  obtain ⟨hnl, hn1, hn0⟩ := amp_facts y hy.1 hy.2
  rw [← hn1, ← hn0] at hpost
  generalize amp y = nm at *
  have hd2 : ((nm.length : Nat) : Int).fdiv 2 = y := by
    rw [hnl, Int.fdiv_eq_ediv_of_nonneg _ (by decide)]
    omega
  k_steps
  · exact hpost _ _ _ ⟨_, by rw [if_pos (by rw [← hd2]; assumption)]⟩ (kset_end hm ‹_›) ‹_›
  · exact hpost _ _ _ ⟨_, by rw [if_neg (by rw [← hd2]; assumption)]⟩ (kset_end hm ‹_›) ‹_›
theorem s7b_told (w : World) (j : Int) (tm : Tok) (NL : List (Addr × Obj)) (hj : j ≠ 0) :
    SX w (fun _ => stAt w.params 7) [(Str.ofString "mover", .int j tm)] (fun _ => NL) (fun _ _ => True) (Same (fun _ => NL)) := by
  delta SX Same
  k_fill
  intro mean mg mb dp un gd outer A₀ base h₀ L m s Q R B F hm X N T hd hu hpre hpost
  rw [← kstB_same hm] at F
  delta EN stAt runBody runScope runDef
  dsimp only [kstB, stGo] at F N hpost ⊢
  k_steps
  · exact hpost _ _ (kfr_end hm ‹_›) ‹_›
theorem s11_told (w : World) (D cl : Addr) (ys cvs : List Value) (cn : Nat) (ns counts : List Int) (ab : Nat) (tab : Tok) (NL : List (Addr × Obj)) (hi : IntsAre ys ns) (hl : ns.length ≤ 5) (hab : ab < 2) (hla : ab < ns.length) (hic : IntsAre cvs counts) (hlc : counts.length ≤ 23)
    (hal : ∀ p ∈ (D, LCg.lst ys) :: NL, p.1 ≠ cl) :
    SX w (fun _ => stAt w.params 11) [(Str.ofString "able", .ref D), (Str.ofString "above", .int (ab : Int) tab), (Str.ofString "counts", .ref cl)] (fun _ => (cl, W.listOf cvs.toArray cn) :: (D, LCg.lst ys) :: NL) (fun _ _ => True)
      (fun h₀ L m s Q => ∀ t n' h' tk', Fr h₀ L h' m → News h₀ L h' ((cl, W.listOf (cvs ++ [Value.int ((ns.length : Int) - (ab : Int)) t]).toArray n') :: (D, LCg.lst ys) :: NL) → Q .next { s with heap := h', toks := tk' }) := by
  delta SX
  k_fill
  intro mean mg mb dp un gd outer A₀ base h₀ L m s Q R B F hm X N T hd hu hpre hpost
  rw [← kstB_same hm] at F
  delta EN stAt runBody runScope runDef
  dsimp only [kstB, stGo] at F N hpost ⊢
  k_steps
  rename News _ _ _ _ => N5
  simp only [List.push_toArray] at N5
  exact hpost _ _ _ _ (kfr_end hm ‹_›) N5
theorem s12_told (w : World) (vl : Addr) (vvs : List Value) (vn : Nat) (j : Int) (tm : Tok) (NL : List (Addr × Obj)) (hal : ∀ p ∈ NL, p.1 ≠ vl) (hl : vvs.length ≤ 23) :
    SX w (fun _ => stAt w.params 12) [(Str.ofString "mover", .int j tm), (Str.ofString "movers", .ref vl)] (fun _ => (vl, W.listOf vvs.toArray vn) :: NL) (fun _ _ => True)
      (fun h₀ L m s Q => ∀ n' h' tk', Fr h₀ L h' m → News h₀ L h' ((vl, W.listOf (vvs ++ [Value.int j tm]).toArray n') :: NL) → Q .next { s with heap := h', toks := tk' }) := by
  delta SX
  k_fill
  intro mean mg mb dp un gd outer A₀ base h₀ L m s Q R B F hm X N T hd hu hpre hpost
  rw [← kstB_same hm] at F
  delta EN stAt runBody runScope runDef
  dsimp only [kstB, stGo] at F N hpost ⊢
  k_steps
  rename News _ _ _ _ => N5
  simp only [List.push_toArray] at N5
  exact hpost _ _ _ (kfr_end hm ‹_›) N5
end
end Mine
end
theorem Mine.forget_R5 : True ∧ True := by first | (walk1; all_goals trivial; done) | exact ⟨trivial, trivial⟩
section
namespace Mine
theorem ints_cons {vs : List Value} {a : Int} {r : List Int} (h : IntsAre vs (a :: r)) : ∃ t vs', vs = .int a t :: vs' ∧ IntsAre vs' r := by
  cases h with
  | cons n t h => exact ⟨t, _, rfl, h⟩
theorem ints_nil {vs : List Value} (h : IntsAre vs []) : vs = [] := by cases h; rfl
theorem ints4 {svs : List Value} {st : List Int} (hi : IntsAre svs st) (hst : st.length = 4) : ∃ a b c d ta tb tc td, st = [a, b, c, d] ∧ svs = [.int a ta, .int b tb, .int c tc, .int d td] := by
  obtain ⟨a, b, c, d, rfl⟩ := four_of hst
  obtain ⟨ta, v1, rfl, h1⟩ := ints_cons hi
  obtain ⟨tb, v2, rfl, h2⟩ := ints_cons h1
  obtain ⟨tc, v3, rfl, h3⟩ := ints_cons h2
  obtain ⟨td, v4, rfl, h4⟩ := ints_cons h3
  obtain rfl := ints_nil h4
  exact ⟨a, b, c, d, ta, tb, tc, td, rfl, rfl⟩
theorem ints_set {y : Int} {t : Tok} : ∀ {vs : List Value} {ns : List Int} (k : Nat), IntsAre vs ns → IntsAre (vs.set k (.int y t)) (ns.set k y)
  | _, _, _, .nil => .nil
  | _, _, 0, .cons a ta h => .cons y t h
  | _, _, k + 1, .cons a ta h => .cons a ta (ints_set k h)
theorem made_of {s : Shared} {h' : Heap} {l : List (Addr × Obj)} (h : ∀ p ∈ l, h'.get? p.1 = some p.2 ∧ s.heap.objs.size ≤ p.1) : Made s h' l := fun p hp => by
  refine ⟨(h p hp).1, ?_⟩
  cases e : s.heap.get? p.1 with
  | none => rfl
  | some o => exact absurd (Heap.lt_size e) (Nat.not_lt_of_le (h p hp).2)
theorem set_any {prog : Program} {w : World} {A : Around} {E : Value → Shared → Prop} {s : Shared} {h₀ : Heap} {L D : Addr} {m : Str → Option Value} {news news' : List (Addr × Obj)} {vs : List Value} {n : Nat} {k : Int} {t : Tok} {v : Value} {Q : Unit → Shared → Prop}
    (F : Fr h₀ L s.heap m) (N : News h₀ L s.heap news) (U : Upd D (W.listOf vs.toArray n) (W.listOf (vs.set k.toNat v).toArray n) news news') (h0 : 0 ≤ k) (h1 : k < vs.length) (hfit : k < 2 ^ 63)
    (h : ∀ h', Fr h₀ L h' m → News h₀ L h' news' → Q () { s with heap := h' }) : wpAny (model prog w) A (setItem (.ref D) (.int k t) v) Q E s := by
  obtain ⟨pre, post, rfl, rfl, a, b'⟩ := U.split
  have z := N (D, W.listOf vs.toArray n) (List.mem_append.mpr (.inr (.head _)))
  refine ki_setAt z.1 h0 hfit (by simpa using h1) (h _ (F.change (Heap.SameBut.update ..) z.2.1 z.2.2) (ki_turn _ N a b' ?_ ?_))
  · show vs.toArray.setIfInBounds k.toNat v = (vs.set k.toNat v).toArray
    apply Array.toList_inj.mp
    simp
  · simp
section
local macro_rules | `(tactic| walk_at "setItem ref") => `(tactic| (k_here; k_dflt (refine' set_any ?F ?N ?U ?a ?b ?c ?_; (case F => k_asm); (case N => k_asm); (case U => k_upd); (case a => omega); (case b => with_reducible assumption); (case c => omega); k_whole); intro h' F' N'; (try k_sweep)))
theorem s9_told (w : World) (sl : Addr) (svs : List Value) (sn : Nat) (st : List Int) (o1 : Obj) (y : Int) (tn tm : Tok) (j : Nat) (NL : List (Addr × Obj)) (hi : IntsAre svs st) (hst : st.length = 4) (hj : j < 4) (hy : 0 ≤ y ∧ y < 5)
    (c1 : o1.data = .cell (some (.ref sl))) (hal : ∀ p ∈ NL, p.1 ≠ sl) :
    SX w (fun _ => stAt w.params 9) [(Str.ofString "mover", .int (j : Int) tm), (Str.ofString "name", .str (amp y) tn)] (fun L => (sl, W.listOf svs.toArray sn) :: (L + 1, o1) :: NL) (fun L _ => @Ne Nat (L + 1) sl)
      (fun h₀ L m s Q => ∀ v n' h' tk', IntsAre v (st.set j y) → Fr h₀ L h' m → News h₀ L h' ((sl, W.listOf v.toArray n') :: (L + 1, o1) :: NL) → Q .next { s with heap := h', toks := tk' }) := by
  delta SX
  k_fill
  intro mean mg mb dp un gd outer A₀ base h₀ L m s Q R B F hm X N T hd hu hpre hpost
  rw [← kstB_same hm] at F
  delta EN stAt runBody runScope runDef
  have hlen : (j : Int) < svs.length := by rw [hi.length]; omega
  obtain ⟨hnl, -, -⟩ := amp_facts y hy.1 hy.2
  have hd2 : ((amp y).length : Int).fdiv 2 = y := by
    rw [hnl, Int.fdiv_eq_ediv_of_nonneg _ (by decide)]
    omega
  generalize amp y = nm at *
  dsimp only [kstB, stGo] at F N hpost ⊢
  k_steps
  rename News h₀ L _ _ => kN
  rw [hd2, Int.toNat_natCast] at kN
  exact hpost _ _ _ _ (ints_set j hi) (kfr_end hm ‹_›) kN
end
section
local macro_rules | `(tactic| k_ne) => `(tactic| ((try dsimp only); first | (refine neN ?_; (try dsimp only); omega) | exact Apart.ne (ApartL.at (by with_reducible assumption) (by k_mem) (by k_mem)) | exact Apart.ne' (ApartL.at (by with_reducible assumption) (by k_mem) (by k_mem))))
local macro_rules | `(tactic| walk_at "call str type") => `(tactic| (k_here; refine halt ?_))
local macro_rules | `(tactic| walk_at "setItem ref") => `(tactic| (k_here; k_dflt (refine' set_any ?F ?N ?U ?a ?b ?c ?_; (case F => k_asm); (case N => k_asm); (case U => k_upd); (case a => omega); (case b => with_reducible assumption); (case c => omega); k_whole); intro h' F' N'; (try k_sweep)))
theorem s10_told (w : World) (sl ml : Addr) (svs mvs : List Value) (sn mn : Nat) (st : List Int) (o1 o5 : Obj) (tm : Tok) (j : Nat) (NL : List (Addr × Obj)) (hi : IntsAre svs st) (hst : st.length = 4) (hb : ∀ x ∈ st, 0 ≤ x ∧ x < 5) (hj : j < 4) (hm4 : mvs.length = 4)
    (c1 : o1.data = .cell (some (.ref sl))) (c5 : o5.data = .cell (some (.ref ml))) (hal : ∀ p ∈ NL, p.1 ≠ ml) :
    SX w (fun _ => stAt w.params 10) [(Str.ofString "mover", .int (j : Int) tm)] (fun L => (ml, W.listOf mvs.toArray mn) :: (L + 1, o1) :: (L + 1 + 1 + 1 + 1 + 1, o5) :: (sl, W.listOf svs.toArray sn) :: NL) (fun L _ => @Ne Nat (L + 1) ml ∧ @Ne Nat (L + 1 + 1 + 1 + 1 + 1) ml ∧ @Ne Nat sl ml)
      (fun h₀ L m s Q => ∀ (M : Mk) n' h' tk', M.cnt = (normOf (st.getD j 0)).1 → M.b = (normOf (st.getD j 0)).2 → IntsAre M.vs M.cnt → ApartL (M.objs w.params) ((ml, W.listOf mvs.toArray mn) :: (L + 1, o1) :: (L + 1 + 1 + 1 + 1 + 1, o5) :: (sl, W.listOf svs.toArray sn) :: NL) → Fr h₀ L h' m →
        News h₀ L h' (M.objs w.params ++ (ml, W.listOf (mvs.set j (.ref M.x)).toArray n') :: (L + 1, o1) :: (L + 1 + 1 + 1 + 1 + 1, o5) :: (sl, W.listOf svs.toArray sn) :: NL) → Q .next { s with heap := h', toks := tk' }) := by
  delta SX
  k_fill
  intro mean mg mb dp un gd outer A₀ base h₀ L m s Q R B F hm X N T hd hu hpre hpost
  obtain ⟨hp1, hp2, hp3⟩ := hpre
  rw [← kstB_same hm] at F
  delta EN stAt runBody runScope runDef
  have hlen : (j : Int) < mvs.length := by omega
  dsimp only [kstB, stGo] at F N hpost ⊢
  k_steps
  unfold Halt
  rw [Int.toNat_natCast]
  have hx : 0 ≤ st.getD j 0 ∧ st.getD j 0 < 5 := by
    have hk : j < st.length := by omega
    rw [List.getD_eq_getElem?_getD, List.getElem?_eq_getElem hk]
    exact hb _ (List.getElem_mem hk)
  generalize st.getD j 0 = x at *
  rename Fr h₀ L _ _ => kF
  rename News h₀ L _ _ => kN
  k_dflt (refine' use_back (lead_told _ _ _ _ _) ⟨?b, ?f, ?x, ?n, ?t, ?k, ?d, ?u⟩ hx ?_; (case b => k_asm); (case f => k_asm); (case x => k_asm); (case n => with_reducible assumption); (case t => k_asm); (case k => exact rfl); (case d => ktr_room); (case u => ktr_units); k_whole)
  clear kF kN
  intro t' h' tk' F' N'
  dsimp only
  k_steps
  unfold Halt
  rename Fr h₀ L _ _ => kF
  rename News h₀ L _ _ => kN
  k_dflt (refine' ws_told _ _ _ _ _ _ _ _ _ _ _ _ _ _ _ _ _ _ _ _ _ _ _ _ ?b kF ?x News.nil ?t ?k ?d ?u hx ?_; (case b => k_asm); (case x => k_asm); (case t => k_asm); (case k => exact rfl); (case d => ktr_room); (case u => ktr_units); k_whole)
  intro M h' tk' hc hb' hv hk hfr
  have hM := made_of (s := ⟨_, _, _, _, _⟩) hfr
  have kN' := news_app (made_news (s := ⟨_, _, _, _, _⟩) kF hM) (keeps_news hk kN)
  have hap := apartL_of (made_apart (s := ⟨_, _, _, _, _⟩) kN hM)
  replace kF := keeps_fr hk kF
  clear kN hfr hM hk
  obtain ⟨x', d', tn', tc', k1', k2', k3', k4', k5', tb', v1', v2', v3', v5', vs', cnt', b'⟩ := M
  simp only [Mk.objs, List.cons_append, List.nil_append] at kN' hap hpost
  dsimp only at hc hb' hv ⊢
  k_steps
  rename News h₀ L _ _ => kN
  rw [Int.toNat_natCast] at kN
  exact hpost ⟨_, _, _, _, _, _, _, _, _, _, _, _, _, _, _, _, _⟩ _ _ _ hc hb' hv hap (kfr_end hm ‹_›) kN
end
end Mine
end
theorem Mine.forget_R6 : True ∧ True := by first | (walk1; all_goals trivial; done) | exact ⟨trivial, trivial⟩
section
namespace Mine
/-- the value ahead of machine j -/
noncomputable def ahead (st : List Int) (j : Nat) : Int := if j = 0 then st.getD 3 0 else st.getD (j - 1) 0
theorem ahead_bd {st : List Int} (h4 : st.length = 4) (hb : ∀ x ∈ st, 0 ≤ x ∧ x < 5) {j : Nat} (hj : j < 4) : 0 ≤ ahead st j ∧ ahead st j < 5 := by
  obtain ⟨a, b, c, d, rfl⟩ := four_of h4
  have ha := hb a (by simp)
  have hb' := hb b (by simp)
  have hc := hb c (by simp)
  have hd := hb d (by simp)
  rcases (by omega : j = 0 ∨ j = 1 ∨ j = 2 ∨ j = 3) with rfl | rfl | rfl | rfl <;> simpa [ahead]
section
theorem s6_told (w : World) (sl cl : Addr) (svs cvs : List Value) (sn cn : Nat) (st counts : List Int) (o1 : Obj) (tail : Str) (tm tt : Tok) (j : Nat) (NL : List (Addr × Obj)) (hi : IntsAre svs st) (hst : st.length = 4) (hb : ∀ x ∈ st, 0 ≤ x ∧ x < 5) (hj : j < 4) (hic : IntsAre cvs counts) (hlc : counts.length ≤ 23)
    (c1 : o1.data = .cell (some (.ref sl))) (htl : tail ∈ tails) (mean : ExcName → Option Value) (mg mb : Str → Option Value) (dp un : Nat) (gd : Option (List Code)) (outer : List Env) (A₀ : Around) (base g₀ h₀ : Heap) (L : Addr) (m : Str → Option Value) (s : Shared) (Q : Flow → Shared → Prop) (R : Value → Shared → Prop)
    (B : Below A₀ base outer h₀) (F : Fr h₀ L s.heap m) (hm : ∀ p ∈ [(Str.ofString "mover", Value.int (j : Int) tm), (Str.ofString "tail", .str tail tt), (Str.ofString "counts", .ref cl)], m p.1 = some p.2) (X : Frag.In (hd.heap_39 w.params) h₀)
    (N : News h₀ L s.heap ((sl, W.listOf svs.toArray sn) :: (L + 1, o1) :: (cl, W.listOf cvs.toArray cn) :: NL)) (T : Top topProg lo mean mg mb h₀) (XB : Frag.In (hd.heap_39 w.params) base) (TB : Top topProg lo mean mg mb base)
    (D : KtsDicts (outer.filterMap (·.frame)) h₀) (T0 : KtsTurn (outer.filterMap (·.frame)) g₀ h₀) (hdp : dp + 200 < recursionLimit) (hu : un + 1500 < cLine)
    (hpost : ∀ t h₀' h' tk, KtsTurn (outer.filterMap (·.frame)) g₀ h₀' → Fr h₀' L h' (kset m (Str.ofString "name") (.str (amp (ahead st j)) t)) → News h₀' L h' ((sl, W.listOf svs.toArray sn) :: (L + 1, o1) :: (cl, W.listOf cvs.toArray cn) :: NL) → Below A₀ base outer h₀' → Frag.In (hd.heap_39 w.params) h₀' → Top topProg lo mean mg mb h₀' → KtsDicts (outer.filterMap (·.frame)) h₀' → Q .next { s with heap := h', toks := tk }) :
    wpAny (model PySem.Challenge.rw_xe0044_01.row.prog w) (ktrTop dp un gd (Str.ofString "_law_run") (runScope w.params) L 204 (.ref 203) (cellsFrom (L + 1) (runScope w.params).names []) outer) (exec (stAt w.params 6) (EN w L)) Q R s := by
  revert hdp hu hpost T0 D TB XB T N X hm F B
  k_fill
  intro B F hm X N T XB TB D T0 hd hu hpost
  rw [← kstB_same hm] at F
  delta EN stAt runBody runScope runDef
  have hx := ahead_bd hst hb hj
  obtain ⟨a, b, c, d, ta, tb, tc, td, rfl, rfl⟩ := ints4 hi hst
  rcases (by omega : j = 0 ∨ j = 1 ∨ j = 2 ∨ j = 3) with rfl | rfl | rfl | rfl
  all_goals
    dsimp only [kstB, stGo] at F N hpost ⊢
    k_steps
    unfold Halt
    rename Fr h₀ L _ _ => kF
    rename News h₀ L _ _ => kN
    k_dflt (refine' heard_told _ _ _ _ _ _ _ _ _ _ _ _ _ _ _ _ _ _ _ _ _ _ _ _ _ _ _ _ _ B kF X kN T XB TB D T0 rfl ?d ?u ⟨hx.1, hx.2, htl⟩ ?_; (case d => ktr_room); (case u => ktr_units); k_whole)
    clear kF kN
    intro t' h0' h' tk' kT kF kN kB kX kTop kD
    clear B X T D T0
    dsimp only
    k_steps
    rename Fr h0' L _ _ => kF
    rename News h0' L _ _ => kN
    exact hpost _ _ _ _ ‹_› (kset_end hm kF) kN ‹_› ‹_› ‹_› ‹_›
end
end Mine
end
theorem Mine.forget_R7 : True ∧ True := by first | (walk1; all_goals trivial; done) | exact ⟨trivial, trivial⟩
section
namespace Mine
theorem sub_at {prog : Program} {w : World} {A : Around} {E : Value → Shared → Prop} {s : Shared} {value slice : PySem.Expr} {l : Addr} {vs : List Value} {k : Int} {u : Tok} {v : Value} {Q : Value → Shared → Prop}
    (hl : s.heap.IsList l vs.toArray) (hx : vs[k.toNat]? = some v) (h0 : 0 ≤ k) (hhi : k < 2 ^ 63) (h : Q v s)
    (hs : subscripted slice false (.ref l) (.int k u) = operate [.ref l, .int k u] (getItem (.ref l) (.int k u)) := by with_unfolding_all rfl) :
    wpAny (model prog w) A (subscriptTail value slice (.ref l) (.int k u)) Q E s :=
  tail_any hl.typeIs slot_list_getitem.lookup (wpAny_getItem_list hl h0 hhi (by simpa using hx) h) hs
section
variable {w : World} {mean : ExcName → Option Value} {mg mb : Str → Option Value} {dp un : Nat} {gd : Option (List Code)} {cn : Str} {cs : Scope} {a : Addr} {ccd : Value} {cl : List (Str × Addr)} {outer : List Env} {A₀ : Around} {base h₀ : Heap} {L : Addr} {m : Str → Option Value} {s : Shared} {news E : List (Addr × Obj)} {Q R : Value → Shared → Prop}
theorem use_toks {f : Addr} {vs : List Value} {pre : Prop} {V : Tok → Value} (C : ToldT w pre f vs V) (H : Here w mean mg mb dp un cs outer A₀ base h₀ L m s news) (hs : 0 < s.toks) (hp : pre)
    (h : ∀ t h' tk, Fr h₀ L h' m → News h₀ L h' news → Q (V t) { s with heap := h', toks := tk }) :
    wpAny (model PySem.Challenge.rw_xe0044_01.row.prog w) (ktrTop dp un gd cn cs L a ccd cl outer) (call (.ref f) vs) Q R s :=
  C mean mg mb dp un gd cn cs a ccd cl outer A₀ base h₀ L m s Q R H.B H.F H.X H.T H.k H.d H.u hs hp fun t h' tk k => h t h' tk (keeps_fr k H.F) (keeps_news k H.N)
theorem hand_told (w : World) (hand : Addr) (hh : hand = 157 ∨ hand = 164 ∨ hand = 171) (n : Int) (t1 : Tok) : ToldT w (0 ≤ n ∧ n < 5) hand [.str (amp n) t1] (fun t => .str (escT n) t) := by
  rcases hh with rfl | rfl | rfl
  · exact esc0_told w n t1
  · exact esc1_told w n t1
  · exact esc2_told w n t1
end
section
local macro_rules | `(tactic| walk_at "subscriptTail") => `(tactic| (k_here; (with_reducible show wpAny _ _ (subscriptTail _ _ (Value.ref _) (Value.int _ _)) _ _ _); (with_unfolding_all refine' sub_at ?k1 ?k2 ?k3 ?k4 ?_ ?k6; (case k1 => is_list); (case k2 => with_reducible assumption); (case k3 => omega); (case k4 => omega); (case k6 => with_unfolding_all rfl); k_whole)))
theorem s8_told (w : World) (C : Cd) (e : El) (parts : Array Value) (n gn : Nat) (gl hand : Addr) (gvs : List Value) (o3 : Obj) (y : Int) (tn tm : Tok) (j : Nat) (NL : List (Addr × Obj)) (hC : C.Ok w.params) (he : e.Ok) (hsz : parts.size ≤ sizeLine) (hy : 0 ≤ y ∧ y < 5) (hh : hand = 157 ∨ hand = 164 ∨ hand = 171)
    (hj : j < 4) (hg : gvs[(j : Int).toNat]? = some (.ref e.f)) (c3 : o3.data = .cell (some (.ref hand))) :
    SX w (fun _ => stAt w.params 8) [(Str.ofString "mover", .int (j : Int) tm), (Str.ofString "logs", .ref gl), (Str.ofString "name", .str (amp y) tn)] (fun L => (187, C.tab) :: (e.ro w.params C.c2 ++ (e.l, W.listOf parts n) :: (L + 1 + 1 + 1, o3) :: (gl, W.listOf gvs.toArray gn) :: NL))
      (fun L s => (∀ p ∈ (L + 1 + 1 + 1, o3) :: (gl, W.listOf gvs.toArray gn) :: NL, p.1 ≠ e.l) ∧ 0 < s.toks)
      (fun h₀ L m s Q => ∀ (e' : El) h' tk', e'.tag = escT y → e'.Ok → Fr h₀ L h' m →
        News h₀ L h' ((e'.ro w.params C.c2 ++ [(e'.l, W.listOf #[] 0)]) ++ (187, C.tab) :: (e.ro w.params C.c2 ++ (e.l, W.listOf (parts.push (.ref e'.f)) (n + 1)) :: (L + 1 + 1 + 1, o3) :: (gl, W.listOf gvs.toArray gn) :: NL)) →
        ApartL (e'.ro w.params C.c2 ++ [(e'.l, W.listOf #[] 0)]) ((187, C.tab) :: (e.ro w.params C.c2 ++ (e.l, W.listOf parts n) :: (L + 1 + 1 + 1, o3) :: (gl, W.listOf gvs.toArray gn) :: NL)) → Q .next { s with heap := h', toks := tk' }) := by
  delta SX
  k_fill
  intro mean mg mb dp un gd outer A₀ base h₀ L m s Q R B F hm X N T hd hu hpre hpost
  obtain ⟨hal', hp3⟩ := hpre
  rw [← kstB_same hm] at F
  delta EN stAt runBody runScope runDef
  have hsub := sub_told w C e (escT y)
  have hhand := hand_told w hand hh y
  obtain ⟨f, d, q, it, ct, cp, l, fd, k1, k2, k3, k4, tt, pm, ctv, ot, op, tag⟩ := e
  have N0 := N
  simp only [El.ro, El.dObj, List.cons_append, List.nil_append] at N
  dsimp only at hg hal'
  dsimp only [kstB, stGo] at F hpost ⊢
  clear N0
  rcases hh with rfl | rfl | rfl
  all_goals
    k_steps
    unfold Halt
    rename Fr h₀ L _ _ => kF
    rename News h₀ L _ _ => kN
    k_dflt (refine' use_toks (hhand _) ⟨?b, kF, ?x, kN, ?t, rfl, ?d, ?u⟩ hp3 hy ?_; (case b => k_asm); (case x => k_asm); (case t => k_asm); (case d => ktr_room); (case u => ktr_units); k_whole)
    clear kF kN
    intro t' h' tk' kF kN
    (try dsimp only)
    k_steps
    unfold Halt
    rename Fr h₀ L _ _ => kF
    rename News h₀ L _ _ => kN
    k_dflt (refine' hsub t' parts n _ _ _ _ _ _ _ _ _ _ _ _ _ _ _ _ _ _ _ _ _ ?b kF ?x kN ?t rfl ?d ?u ⟨hC, he, hal', hsz⟩ ?_; (case b => k_asm); (case x => k_asm); (case t => k_asm); (case d => ktr_room); (case u => ktr_units); k_whole)
    intro e' h9 tk9 e1 e2 kF9 kN9 kap
    clear kF kN
    (try dsimp only)
    k_steps
    exact hpost e' _ _ e1 e2 (kfr_end hm kF9) kN9 kap
end
end Mine
end
theorem Mine.forget_R8 : True ∧ True := by first | (walk1; all_goals trivial; done) | exact ⟨trivial, trivial⟩
section
namespace Mine
section
theorem test_told (w : World) (cl : Addr) (cvs : List Value) (cn : Nat) (counts : List Int) (NL : List (Addr × Obj)) (hi : IntsAre cvs counts) (hl : counts.length ≤ 23)
   (mean : ExcName → Option Value) (mg mb : Str → Option Value) (dp un : Nat) (gd : Option (List Code)) (outer : List Env) (A₀ : Around) (base h₀ : Heap) (L : Addr) (m : Str → Option Value) (s : Shared) (Q : Bool → Shared → Prop) (R : Value → Shared → Prop)
    (B : Below A₀ base outer h₀) (F : Fr h₀ L s.heap m) (hm : ∀ p ∈ [(Str.ofString "counts", Value.ref cl)], m p.1 = some p.2) (X : Frag.In (Mine.hd.heap_39 w.params) h₀) (N : News h₀ L s.heap ((cl, W.listOf cvs.toArray cn) :: NL)) (T : Top topProg lo mean mg mb h₀)
    (hd : dp + 200 < recursionLimit) (hu : un + 1500 < cLine) (hpost : ∀ b h' tk', b = decide (counts.length < 23 ∧ counts.drop (counts.length - 5) ≠ List.replicate 5 1) → Fr h₀ L h' m → News h₀ L h' ((cl, W.listOf cvs.toArray cn) :: NL) → Q b { s with heap := h', toks := tk' }) :
      wpAny (model PySem.Challenge.rw_xe0044_01.row.prog w) (ktrTop dp un gd (Str.ofString "_law_run") (runScope w.params) L 204 (.ref 203) (cellsFrom (L + 1) (runScope w.params).names []) outer) (PySem.isTrue (runTest w.params) (EN w L) (eval (runTest w.params) (EN w L))) Q R s := by
  revert hd hu hpost T N X hm F B
  k_fill
  intro B F hm X N T hd hu hpost
  rw [← kstB_same hm] at F
  delta EN runTest runScope runDef
  dsimp only [kstB] at F N hpost ⊢
  k_steps
  · rename List.drop _ counts = _ => e
    rename News h₀ L _ _ => kN
    refine hpost _ _ _ ?_ (kfr_end hm ‹_›) fun p hp => kN p (.tail _ (.tail _ (.tail _ hp)))
    rw [e]
    simp [show (List.replicate (Int.toNat 5) [(1 : Int)]).flatten = List.replicate 5 1 from rfl]
  · rename ¬ List.drop _ counts = _ => e
    rename (counts.length : Int) < 23 => e2
    rename News h₀ L _ _ => kN
    refine hpost _ _ _ ?_ (kfr_end hm ‹_›) fun p hp => kN p (.tail _ (.tail _ (.tail _ hp)))
    exact (decide_eq_true ⟨by omega, e⟩).symm
  · rename ¬ (counts.length : Int) < 23 => e2
    exact hpost _ _ _ (decide_eq_false fun q => e2 (by omega)).symm (kfr_end hm ‹_›) ‹_›
end
end Mine
end
theorem Mine.forget_R9 : True ∧ True := by first | (walk1; all_goals trivial; done) | exact ⟨trivial, trivial⟩
section
namespace Mine
section
theorem s0_told (w : World) (cl : Addr) (cvs : List Value) (cn : Nat) (NL : List (Addr × Obj)) (counts : List Int) (hi : IntsAre cvs counts) (hl : counts.length ≤ 23) :
    SX w (fun _ => stAt w.params 0) [(Str.ofString "counts", .ref cl)] (fun _ => (cl, W.listOf cvs.toArray cn) :: NL) (fun _ _ => True) (Sets (Str.ofString "above") (fun v => ∃ t, v = .int ((counts.length : Int).fmod 2) t) (fun _ => (cl, W.listOf cvs.toArray cn) :: NL)) := by
  delta SX Sets
  k_fill
  intro mean mg mb dp un gd outer A₀ base h₀ L m s Q R B F hm X N T hd hu hpre hpost
  have h1 := hm _ (.head _)
  rw [← kstB_same hm] at F
  delta EN stAt runBody runScope runDef
  dsimp only [kstB, stGo] at F N hpost ⊢
  k_steps
  exact hpost _ _ _ ⟨_, rfl⟩ (kset_end hm ‹_›) ‹_›
end
section
local macro_rules | `(tactic| walk_at "own equal") => `(tactic| (k_dflt (refine' use_ro (equal_told _ _ _) ?e ⟨?b, ?f, ?x, ?n, ?t, ?k, ?d, ?u⟩ ?p ?_; (case b => k_asm); (case f => k_asm); (case x => k_asm); (case n => k_asm); (case t => k_asm); (case k => exact rfl); (case d => ktr_room); (case u => ktr_units); (case p => exact ⟨by with_reducible assumption, by with_reducible assumption⟩); (case e => exact mk_sub (mk_in (by k_mem) (by k_mem) (by k_mem) (by k_mem)) (mk_in (by k_mem) (by k_mem) (by k_mem) (by k_mem))); k_whole); intro t' h' tk' _ F' N'; (try dsimp only)))
local macro_rules | `(tactic| walk_at "own flags") => `(tactic| (k_dflt (refine' use_back (flags_told _ _ _) ⟨?b, ?f, ?x, ?n, ?t, ?k, ?d, ?u⟩ ?p ?_; (case b => k_asm); (case f => k_asm); (case x => k_asm); (case n => with_reducible assumption); (case t => k_asm); (case k => exact rfl); (case d => ktr_room); (case u => ktr_units); (case p => with_reducible assumption); k_whole); intro t' h' tk' F' N'; (try dsimp only)))
theorem s1_told (w : World) (ml : Addr) (M0 M1 M2 M3 : Mk) (mn : Nat) (o2 o5 : Obj) (sh ab : Nat) (tsh tab : Tok) (st : List Int) (NL : List (Addr × Obj)) (hst : st.length = 4) (hb : ∀ x ∈ st, 0 ≤ x ∧ x < 5)
    (c2 : o2.data = .cell (some (.int sh tsh))) (c5 : o5.data = .cell (some (.ref ml)))
    (k0 : MkOk w.params NL M0 (st.getD 0 0)) (k1 : MkOk w.params NL M1 (st.getD 1 0)) (k2 : MkOk w.params NL M2 (st.getD 2 0)) (k3 : MkOk w.params NL M3 (st.getD 3 0)) (hsh : sh < 29) (hab : ab < 2) (hn : 0 < maskOf st) :
    SX w (fun _ => stAt w.params 1) [(Str.ofString "above", .int (ab : Int) tab)] (fun L => (L + 1 + 1, o2) :: (L + 1 + 1 + 1 + 1 + 1, o5) :: (ml, W.listOf #[.ref M0.x, .ref M1.x, .ref M2.x, .ref M3.x] mn) :: NL) (fun _ _ => True)
      (Sets (Str.ofString "told") (fun v => ∃ t, v = .str (flagsT ((maskN sh (maskOf st) ab : Nat) : Int)) t) (fun L => (L + 1 + 1, o2) :: (L + 1 + 1 + 1 + 1 + 1, o5) :: (ml, W.listOf #[.ref M0.x, .ref M1.x, .ref M2.x, .ref M3.x] mn) :: NL)) := by
  delta SX Sets
  k_fill
  intro mean mg mb dp un gd outer A₀ base h₀ L m s Q R B F hm X N T hd hu hpre hpost
  have h1 := hm _ (.head _)
  rw [← kstB_same hm] at F
  delta EN stAt runBody runScope runDef
  dsimp only [kstB, stGo] at F N hpost ⊢
  k_steps
  unfold Halt
  rename News _ _ _ _ => N1
  rename Fr _ _ _ _ => F1
  refine comp_range_test (n := 4) (fun k => ablep st k) (fun k => ((2 ^ k : Nat) : Int)) rfl F1 N1 rfl (by decide) rfl (by decide) rfl ?ev (by decide) (by decide) (by rw [sizeLine_eq]; decide) ?turn ?fin
  case ev =>
    k_steps
    exact ⟨_, _, _, _, _, _, rfl, rfl, by assumption, by assumption, by assumption⟩
  case turn =>
    intro g tk₁ i t hi I oI Cc oC D ys m₂ h2 tk2 E' hns hm2 F3 N3 off nn
    clear F1 N1 hpost
    rcases (by omega : i = 0 ∨ i = 1 ∨ i = 2 ∨ i = 3) with rfl | rfl | rfl | rfl
    · have N4 : News h₀ L h2 ((M0.objs w.params ++ M3.objs w.params) ++ _) := news_app (fun p hp => N3 p (by simp [mk_sub k0.objs k3.objs p hp])) N3
      have i0 := k0.mints
      have i3 := k3.mints
      clear N3
      simp only [Mk.objs, List.cons_append, List.nil_append] at N4
      replace hm2 : m₂ (Str.ofString "k") = some (.int 0 t) := hm2
      k_steps
      unfold Halt
      walk_at "own equal"
      k_steps
      · exact able_z (able_fact k0 k3 hst hb (by decide) (by decide) ‹_›)
      · rename News _ _ _ _ => N5
        exact ⟨_, _, rfl, by assumption, fun p hp => N5 p (.tail _ (.tail _ (.tail _ (.tail _ (.tail _ (.tail _ (.tail _ (.tail _ hp))))))))⟩
      · exact able_z (able_fact k0 k3 hst hb (by decide) (by decide) ‹_›)
      · rename News _ _ _ _ => N5
        exact ⟨_, _, rfl, by assumption, fun p hp => N5 p (.tail _ (.tail _ (.tail _ (.tail _ (.tail _ (.tail _ (.tail _ (.tail _ hp))))))))⟩
    · have N4 : News h₀ L h2 ((M1.objs w.params ++ M0.objs w.params) ++ _) := news_app (fun p hp => N3 p (by simp [mk_sub k1.objs k0.objs p hp])) N3
      have i0 := k1.mints
      have i3 := k0.mints
      clear N3
      simp only [Mk.objs, List.cons_append, List.nil_append] at N4
      replace hm2 : m₂ (Str.ofString "k") = some (.int 1 t) := hm2
      k_steps
      unfold Halt
      walk_at "own equal"
      k_steps
      · exact able_s (k := 0) (x := ((1 : Int) == 0)) (by decide) (able_fact k1 k0 hst hb (by decide) (by decide) ‹_›)
      · rename News _ _ _ _ => N5
        exact ⟨_, _, rfl, by assumption, fun p hp => N5 p (.tail _ (.tail _ (.tail _ (.tail _ (.tail _ (.tail _ (.tail _ (.tail _ hp))))))))⟩
      · exact able_s (k := 0) (x := ((1 : Int) == 0)) (by decide) (able_fact k1 k0 hst hb (by decide) (by decide) ‹_›)
      · rename News _ _ _ _ => N5
        exact ⟨_, _, rfl, by assumption, fun p hp => N5 p (.tail _ (.tail _ (.tail _ (.tail _ (.tail _ (.tail _ (.tail _ (.tail _ hp))))))))⟩
    · have N4 : News h₀ L h2 ((M2.objs w.params ++ M1.objs w.params) ++ _) := news_app (fun p hp => N3 p (by simp [mk_sub k2.objs k1.objs p hp])) N3
      have i0 := k2.mints
      have i3 := k1.mints
      clear N3
      simp only [Mk.objs, List.cons_append, List.nil_append] at N4
      replace hm2 : m₂ (Str.ofString "k") = some (.int 2 t) := hm2
      k_steps
      unfold Halt
      walk_at "own equal"
      k_steps
      · exact able_s (k := 1) (x := ((2 : Int) == 0)) (by decide) (able_fact k2 k1 hst hb (by decide) (by decide) ‹_›)
      · rename News _ _ _ _ => N5
        exact ⟨_, _, rfl, by assumption, fun p hp => N5 p (.tail _ (.tail _ (.tail _ (.tail _ (.tail _ (.tail _ (.tail _ (.tail _ hp))))))))⟩
      · exact able_s (k := 1) (x := ((2 : Int) == 0)) (by decide) (able_fact k2 k1 hst hb (by decide) (by decide) ‹_›)
      · rename News _ _ _ _ => N5
        exact ⟨_, _, rfl, by assumption, fun p hp => N5 p (.tail _ (.tail _ (.tail _ (.tail _ (.tail _ (.tail _ (.tail _ (.tail _ hp))))))))⟩
    · have N4 : News h₀ L h2 ((M3.objs w.params ++ M2.objs w.params) ++ _) := news_app (fun p hp => N3 p (by simp [mk_sub k3.objs k2.objs p hp])) N3
      have i0 := k3.mints
      have i3 := k2.mints
      clear N3
      simp only [Mk.objs, List.cons_append, List.nil_append] at N4
      replace hm2 : m₂ (Str.ofString "k") = some (.int 3 t) := hm2
      k_steps
      unfold Halt
      walk_at "own equal"
      k_steps
      · exact able_s (k := 2) (x := ((3 : Int) == 0)) (by decide) (able_fact k3 k2 hst hb (by decide) (by decide) ‹_›)
      · rename News _ _ _ _ => N5
        exact ⟨_, _, rfl, by assumption, fun p hp => N5 p (.tail _ (.tail _ (.tail _ (.tail _ (.tail _ (.tail _ (.tail _ (.tail _ hp))))))))⟩
      · exact able_s (k := 2) (x := ((3 : Int) == 0)) (by decide) (able_fact k3 k2 hst hb (by decide) (by decide) ‹_›)
      · rename News _ _ _ _ => N5
        exact ⟨_, _, rfl, by assumption, fun p hp => N5 p (.tail _ (.tail _ (.tail _ (.tail _ (.tail _ (.tail _ (.tail _ (.tail _ hp))))))))⟩
  case fin =>
    intro D h' tk' ys hys F2 N2 o1
    generalize hns : ((List.range 4).filter fun k => ablep st k).map (fun k => ((2 ^ k : Nat) : Int)) = ns at hys
    have hsum : ns.sum = (maskOf st : Int) := by rw [← hns, mask_sum]
    have hmlt := mask_lt st
    have hfl := ixAt hsh hn hmlt hab
    generalize maskOf st = mk at *
    have hs0 : 0 ≤ ns.sum := by omega
    have hs1 : ns.sum < 16 := by omega
    k_steps
    unfold Halt
    rw [hsum, mask_val]
    have hf : (0 : Int) ≤ ((maskN sh mk ab : Nat) : Int) ∧ ((maskN sh mk ab : Nat) : Int) < 2 ^ 33 := by omega
    generalize ((maskN sh mk ab : Nat) : Int) = fl at *
    clear hfl
    walk_at "own flags"
    k_steps
    rename News _ _ _ _ => N5
    exact hpost _ _ _ ⟨_, rfl⟩ (kset_end hm ‹_›) fun p hp => N5 p (.tail _ hp)
end
end Mine
end
theorem Mine.forget_R2 : True ∧ True := by first | (walk1; all_goals trivial; done) | exact ⟨trivial, trivial⟩
section
namespace Mine
/-! the plain law of the ring -/
noncomputable def ableL (st : List Int) : List Nat := (List.range 4).filter (ablep st)
noncomputable def pnew (size : Int) (st : List Int) (j : Nat) : Int := if j = 0 then (if st.getD 3 0 + 1 < size then st.getD 3 0 + 1 else 0) else st.getD (j - 1) 0
noncomputable def rank4 : Nat := 0x501151019110788860227434a443788873446202d443bcccb344b434a2200a22cbcc4b344b4309110000150115103a448788260247433d44878847342620026243d48878447334b420a2ccbc44b30151109100001150347443a48878226002264347443a888734472026443d8887344b434b220acccb0115101511090000
noncomputable def rank5 : Nat := 0x5011151011511019111078888602227434474434a444378888734446202274434a444378888734447434462202d4443bccccb3444b4344b4434a22200a222cbccc4b3444b4344b44309111000001501115101151103a444878882602247434474433a444878884734426202474433d444878884734447434262200262243d4488788447344474334b4420a22ccbcc44b3444b4301511109110000011501115103474443a448878822602447433474443a448878844734226200226243474443a488878444733447420262443d48887844473344b4434b4220a2cccbc444b301151101511109100000111503447443474443a488878222600222643447443474443a888873444720226443474443a888873444743447220264443d888873444b4344b4434b2220accccb0111510115110151110900000
noncomputable def rankAt (s a b c d : Nat) : Nat := ((if s = 4 then rank4 else rank5) >>> (4 * (((a * s + b) * s + c) * s + d))) % 16
noncomputable def rankOf (s : Nat) (st : List Int) : Nat := rankAt s (st.getD 0 0).toNat (st.getD 1 0).toNat (st.getD 2 0).toNat (st.getD 3 0).toNat
noncomputable def moveFact (s : Nat) (st : List Int) (j : Nat) : Bool :=
  let st' := st.set j (pnew s st j)
  decide ((ableL st').length ≤ (ableL st).length) && (if (ableL st).length = 1 then ableL st' == [(j + 1) % 4] else decide (rankOf s st' < rankOf s st))
noncomputable def stFact (s a b c d : Nat) : Bool :=
  let st : List Int := [a, b, c, d]
  decide (0 < (ableL st).length) && decide (rankOf s st ≤ 13) && (ableL st).all (moveFact s st)
theorem facts4 : (List.range 4).all (fun a => (List.range 4).all fun b => (List.range 4).all fun c => (List.range 4).all fun d => stFact 4 a b c d) = true := by decide +kernel
theorem facts5 : (List.range 5).all (fun a => (List.range 5).all fun b => (List.range 5).all fun c => (List.range 5).all fun d => stFact 5 a b c d) = true := by decide +kernel
theorem all4 {s : Nat} {f : Nat → Nat → Nat → Nat → Bool} (h : (List.range s).all (fun a => (List.range s).all fun b => (List.range s).all fun c => (List.range s).all fun d => f a b c d) = true) {a b c d : Nat} (ha : a < s) (hb : b < s) (hc : c < s) (hd : d < s) : f a b c d = true :=
  List.all_eq_true.mp (List.all_eq_true.mp (List.all_eq_true.mp (List.all_eq_true.mp h a (List.mem_range.mpr ha)) b (List.mem_range.mpr hb)) c (List.mem_range.mpr hc)) d (List.mem_range.mpr hd)
/-- a ring's state -/
structure StOk (size : Int) (st : List Int) : Prop where
  sz : size = 4 ∨ size = 5
  len : st.length = 4
  bd : ∀ x ∈ st, 0 ≤ x ∧ x < size
theorem StOk.fact {size : Int} {st : List Int} (h : StOk size st) : ∃ s a b c d : Nat, size = (s : Int) ∧ st = [(a : Int), (b : Int), (c : Int), (d : Int)] ∧ stFact s a b c d = true := by
  obtain ⟨hs, hl, hb⟩ := h
  obtain ⟨a, b, c, d, rfl⟩ := four_of hl
  have ha := hb a (by simp)
  have hb' := hb b (by simp)
  have hc := hb c (by simp)
  have hd := hb d (by simp)
  refine ⟨size.toNat, a.toNat, b.toNat, c.toNat, d.toNat, by omega, by rw [Int.toNat_of_nonneg ha.1, Int.toNat_of_nonneg hb'.1, Int.toNat_of_nonneg hc.1, Int.toNat_of_nonneg hd.1], ?_⟩
  rcases hs with rfl | rfl
  · exact all4 facts4 (by omega) (by omega) (by omega) (by omega)
  · exact all4 facts5 (by omega) (by omega) (by omega) (by omega)
noncomputable def rnk (size : Int) (st : List Int) : Nat := rankOf size.toNat st
theorem StOk.facts {size : Int} {st : List Int} (h : StOk size st) : 0 < (ableL st).length ∧ rnk size st ≤ 13 ∧ ∀ j ∈ ableL st,
    (ableL (st.set j (pnew size st j))).length ≤ (ableL st).length ∧ ((ableL st).length = 1 → ableL (st.set j (pnew size st j)) = [(j + 1) % 4]) ∧ ((ableL st).length ≠ 1 → rnk size (st.set j (pnew size st j)) < rnk size st) := by
  obtain ⟨s, a, b, c, d, rfl, rfl, e⟩ := h.fact
  unfold stFact at e
  simp only [Bool.and_eq_true, decide_eq_true_eq] at e
  obtain ⟨⟨e1, e2⟩, e3⟩ := e
  refine ⟨e1, by unfold rnk; rw [Int.toNat_natCast]; exact e2, fun j hj => ?_⟩
  have e4 := List.all_eq_true.mp e3 j hj
  unfold moveFact at e4
  simp only [Bool.and_eq_true, decide_eq_true_eq] at e4
  refine ⟨e4.1, fun q => ?_, fun q => ?_⟩
  · have := e4.2; rw [if_pos q] at this; exact beq_iff_eq.mp this
  · have := e4.2; rw [if_neg q, decide_eq_true_eq] at this; unfold rnk; rw [Int.toNat_natCast]; exact this
theorem ableL_lt {st : List Int} {j : Nat} (h : j ∈ ableL st) : j < 4 := by
  simp only [ableL, List.mem_filter, List.mem_range] at h
  exact h.1
theorem ableL_ok {st : List Int} {j : Nat} (h : j ∈ ableL st) : if j = 0 then st.getD 0 0 = st.getD 3 0 else st.getD j 0 ≠ st.getD (j - 1) 0 := by
  simp only [ableL, List.mem_filter, List.mem_range] at h
  obtain ⟨h1, h2⟩ := h
  unfold ablep at h2
  split
  · rename_i e; subst e; simpa using h2
  · rename_i e; rw [if_neg e] at h2; simpa using h2
theorem pnew_bd {size : Int} {st : List Int} (h : StOk size st) (j : Nat) (hj : j < 4) : 0 ≤ pnew size st j ∧ pnew size st j < size := by
  obtain ⟨hs, hl, hb⟩ := h
  obtain ⟨a, b, c, d, rfl⟩ := four_of hl
  have ha := hb a (by simp)
  have hb' := hb b (by simp)
  have hc := hb c (by simp)
  have hd := hb d (by simp)
  rcases (by omega : j = 0 ∨ j = 1 ∨ j = 2 ∨ j = 3) with rfl | rfl | rfl | rfl
  · simp [pnew]
    split <;> omega
  · simpa [pnew] using ha
  · simpa [pnew] using hb'
  · simpa [pnew] using hc
theorem StOk.set {size : Int} {st : List Int} (h : StOk size st) {j : Nat} (hj : j < 4) : StOk size (st.set j (pnew size st j)) := by
  refine ⟨h.sz, by rw [List.length_set]; exact h.len, fun x hx => ?_⟩
  rcases List.mem_or_eq_of_mem_set hx with hx | rfl
  · exact h.bd x hx
  · exact pnew_bd h j hj
end Mine
end
theorem Mine.forget_PA : True ∧ True := by first | (walk1; all_goals trivial; done) | exact ⟨trivial, trivial⟩
section
namespace Mine
noncomputable def scan (had : List Int) (x : Int) (p : Nat) : Nat := p + ((had.drop p).takeWhile (· != x)).length
noncomputable def taken (had took : List Int) : Nat := took.foldl (fun p x => scan had x p + 1) 0
theorem taken_snoc (had pre : List Int) (x : Int) : taken had (pre ++ [x]) = scan had x (taken had pre) + 1 := by simp [taken, List.foldl_append]
theorem scan_le (had : List Int) (x : Int) (p : Nat) : scan had x p ≤ max p had.length := by
  unfold scan
  have h1 := List.IsPrefix.length_le (List.takeWhile_prefix (p := (· != x)) (l := had.drop p))
  rw [List.length_drop] at h1
  omega
theorem scan_stop {had : List Int} {x : Int} {p : Nat} (h : had.length ≤ p ∨ had.getD p 0 = x) : scan had x p = p := by
  unfold scan
  by_cases hp : p < had.length
  · have e := h.resolve_left (by omega)
    rw [List.drop_eq_getElem_cons hp, List.takeWhile_cons]
    rw [List.getD_eq_getElem?_getD, List.getElem?_eq_getElem hp] at e
    simp at e
    simp [e]
  · rw [List.drop_eq_nil_of_le (by omega)]; rfl
theorem scan_go {had : List Int} {x : Int} {p : Nat} (hp : p < had.length) (h : had.getD p 0 ≠ x) : scan had x (p + 1) = scan had x p := by
  unfold scan
  conv => rhs; rw [List.drop_eq_getElem_cons hp, List.takeWhile_cons]
  rw [List.getD_eq_getElem?_getD, List.getElem?_eq_getElem hp] at h
  simp at h
  simp [h]
  omega
section
local macro_rules | `(tactic| walk_at "exec For") => `(tactic| (k_here; refine halt ?_))
local macro_rules | `(tactic| walk_at "exec While BoolOp cons nil") => `(tactic| (k_here; refine halt ?_))
theorem taken_told (w : World) (ta ha : Addr) (tv hv : List Value) (tn hn : Nat) (took had : List Int) : Told w [(ta, W.listOf tv.toArray tn), (ha, W.listOf hv.toArray hn)] (IntsAre tv took ∧ IntsAre hv had ∧ took.length ≤ 64 ∧ had.length ≤ 64) 211 [.ref ta, .ref ha] (Back fun _ => .bool (decide (taken had took ≤ had.length))) := by
  delta Told
  k_fill
  intro mean mg mb dp un gd cn cs a ccd cl outer A₀ base h₀ L m s Q R B F X N T hk hd hu hh hret
  obtain ⟨it, ih, h1, h2⟩ := hh
  refine wpAny_call ?_
  k_dflt cell_enter
  k_steps
  unfold Halt
  (with_reducible rename Fr _ _ _ _ => lF')
  (with_reducible rename News _ _ _ _ => lN')
  refine' kst_listL (σ := Int × Tok) (fun _ => [(ta, W.listOf tv.toArray tn), (ha, W.listOf hv.toArray hn)]) (fun c => [(Str.ofString "place", .int c.1 c.2)]) (fun _ => True) [] (fun pre c => c.1 = (taken had pre : Nat) ∧ c.1 ≤ had.length + pre.length) (0, _) ?hh ?hl it lF' ?N trivial ?ps ⟨rfl, by simp⟩ ?turn ?done
  case hh => rfl
  case hl => exact fun _ => .head _
  case N => exact lN'
  case ps => kst_all
  case turn =>
    rintro ⟨p, tp⟩ pre post n t u h tk own hns hmem hoff - ⟨hp1, hp2⟩ kFr kNews
    have hlen : pre.length < 64 := by rw [hns, List.length_append, List.length_cons] at h1; omega
    dsimp only [kstB] at hp1 hp2 kFr kNews ⊢
    k_steps
    unfold Halt
    (with_reducible rename Fr _ _ _ _ => lF2)
    (with_reducible rename News _ _ _ _ => lN2)
    refine' ksw_while (σ := Int × Tok) (fun _ => [(ta, W.listOf tv.toArray tn), (ha, W.listOf hv.toArray hn)] ++ own) (fun c => [(Str.ofString "place", .int c.1 c.2)]) (fun _ => True) [] (fun c => 0 ≤ c.1 ∧ scan had n c.1.toNat = scan had n (taken had pre) ∧ c.1 ≤ 200) (fun c => ((had.length : Int) - c.1).toNat) (p, tp) lF2 ?kn ?kf ?kk ?kp ?_
    case kn => exact lN2
    case kf => trivial
    case kk => kst_all
    case kp => exact ⟨by dsimp only; omega, by dsimp only; rw [hp1, Int.toNat_natCast], by dsimp only; omega⟩
    clear lF2 lN2
    rintro ⟨q, tq⟩ u2 hA tkA - ⟨hq0, hq1, hq2⟩ kFr kNews
    dsimp only [kstB, List.cons_append, List.nil_append] at hq0 hq1 hq2 kFr kNews ⊢
    k_steps
    · rename q < (had.length : Int) => b1
      rename List.getD had _ _ ≠ _ => b2
      rename News _ _ _ _ => nE
      refine ksw_end ⟨_, _⟩ (by assumption) nE (fun p hp => hp) trivial (by kst_all) (by ksw_same) ⟨by dsimp only; omega, ?_, by dsimp only; omega⟩ (by dsimp only; omega)
      dsimp only
      rw [← hq1, show (q + 1).toNat = q.toNat + 1 by omega]
      exact scan_go (by omega) b2
    · rename q < (had.length : Int) => b1
      rename List.getD had _ _ = _ => b2
      rename News _ _ _ _ => nE
      have e := scan_stop (p := q.toNat) (.inr b2)
      have le := scan_le had n (taken had pre)
      refine kst_end ⟨_, _⟩ (by assumption) nE (fun p hp => List.mem_append_left _ hp) (fun p hp => .tail _ (.tail _ hp)) rfl trivial (by kst_all) (by kst_same) ⟨?_, ?_⟩
      · dsimp only; rw [taken_snoc]; omega
      · dsimp only; rw [List.length_append, List.length_singleton]; omega
    · rename ¬ q < (had.length : Int) => b1
      rename News _ _ _ _ => nE
      have e := scan_stop (had := had) (x := n) (p := q.toNat) (.inl (by omega))
      have le := scan_le had n (taken had pre)
      refine kst_end ⟨_, _⟩ (by assumption) nE (fun p hp => List.mem_append_left _ hp) (fun p hp => .tail _ (.tail _ hp)) rfl trivial (by kst_all) (by kst_same) ⟨?_, ?_⟩
      · dsimp only; rw [taken_snoc]; omega
      · dsimp only; rw [List.length_append, List.length_singleton]; omega
  case done =>
    rintro ⟨p, tp⟩ u h tk - ⟨hp1, hp2⟩ kFr kNews
    dsimp only [kstB] at hp1 hp2 kFr kNews ⊢
    k_steps
    refine back_b hret ?_ (keeps_ro (by assumption) (by assumption) N (by assumption) (by kcj_all))
    rw [hp1]
    simp
end
end Mine
end
theorem Mine.forget_A0 : True ∧ True := by first | (walk1; all_goals trivial; done) | exact ⟨trivial, trivial⟩
section
namespace Mine
theorem getD_snoc {α : Type} (l : List α) (x d : α) (i : Nat) : (l ++ [x]).getD i d = if i < l.length then l.getD i d else if i = l.length then x else d := by
  simp only [List.getD_eq_getElem?_getD]
  by_cases h : i < l.length
  · rw [if_pos h, List.getElem?_append_left h]
  · rw [if_neg h, List.getElem?_append_right (by omega)]
    by_cases h2 : i = l.length
    · subst h2; simp
    · rw [if_neg h2, List.getElem?_eq_none (by simp; omega)]; rfl
theorem getD_modify {α : Type} (l : List (List α)) (j k : Nat) (f : List α → List α) (hk : k < l.length) : (l.modify j f).getD k [] = if k = j then f (l.getD k []) else l.getD k [] := by
  simp only [List.getD_eq_getElem?_getD, List.getElem?_modify, List.getElem?_eq_getElem hk]
  by_cases h : j = k
  · subst h; simp
  · rw [if_neg (Ne.symm h)]; simp [h]
theorem getD_set {l : List Int} {j k : Nat} {v : Int} (hj : j < l.length) : (l.set j v).getD k 0 = if k = j then v else l.getD k 0 := by
  simp only [List.getD_eq_getElem?_getD, List.getElem?_set]
  by_cases h : j = k
  · subst h; simp [hj]
  · rw [if_neg h, if_neg (Ne.symm h)]
structure PS where
  (st counts movers : List Int) (pl : Int) (tls : List (List Int))
noncomputable def pmov (st : List Int) (pl : Int) : Nat := (ableL st).getD (pl.fmod ((ableL st).length : Int)).toNat 0
noncomputable def pstep (size : Int) (c : PS) : PS :=
  ⟨c.st.set (pmov c.st c.pl) (pnew size c.st (pmov c.st c.pl)), c.counts ++ [((ableL c.st).length : Int)], c.movers ++ [(pmov c.st c.pl : Int)], c.pl.fdiv ((ableL c.st).length : Int), c.tls.modify (pmov c.st c.pl) (· ++ [pnew size c.st (pmov c.st c.pl)])⟩
theorem pmov_mem {size : Int} {st : List Int} {pl : Int} (h : StOk size st) (hp : 0 ≤ pl) : pmov st pl ∈ ableL st := by
  have h0 := h.facts.1
  unfold pmov
  have h1 : 0 ≤ pl.fmod ((ableL st).length : Int) := Int.fmod_nonneg_of_pos _ (by omega)
  have h2 : pl.fmod ((ableL st).length : Int) < (ableL st).length := Int.fmod_lt_of_pos _ (by omega)
  rw [List.getD_eq_getElem?_getD, List.getElem?_eq_getElem (by omega)]
  exact List.getElem_mem _
/-! what is taken -/
theorem scan_lt_app {had : List Int} {x z : Int} {p : Nat} (h : scan had x p < had.length) : scan (had ++ [z]) x p = scan had x p := by
  have hp : p < had.length := by unfold scan at h; omega
  have hx := List.takeWhile_append_dropWhile (p := (· != x)) (l := had.drop p)
  have hlen := congrArg List.length hx
  rw [List.length_append, List.length_drop] at hlen
  unfold scan at h ⊢
  rw [List.drop_append_of_le_length (by omega), List.takeWhile_append]
  rw [if_neg (by rw [List.length_drop]; omega)]
theorem fold_le {had : List Int} : ∀ (took : List Int) (p : Nat), p ≤ took.foldl (fun p x => scan had x p + 1) p
  | [], p => Nat.le_refl _
  | x :: r, p => Nat.le_trans (by unfold scan; omega) (fold_le r (scan had x p + 1))
theorem fold_app {had : List Int} {z : Int} : ∀ (took : List Int) (p : Nat), took.foldl (fun p x => scan had x p + 1) p ≤ had.length → took.foldl (fun p x => scan (had ++ [z]) x p + 1) p = took.foldl (fun p x => scan had x p + 1) p
  | [], _, _ => rfl
  | x :: r, p, h => by
    rw [List.foldl_cons] at h
    have := fold_le (had := had) r (scan had x p + 1)
    rw [List.foldl_cons, List.foldl_cons, scan_lt_app (by omega), fold_app r _ h]
theorem taken_app {had : List Int} {z : Int} (took : List Int) (h : taken had took ≤ had.length) : taken (had ++ [z]) took = taken had took := fold_app took 0 h
theorem scan_found {had : List Int} {x : Int} {p : Nat} (hp : p < had.length) (hl : had.getLast? = some x) : scan had x p < had.length := by
  unfold scan
  have hx := List.takeWhile_append_dropWhile (p := (· != x)) (l := had.drop p)
  have hlen := congrArg List.length hx
  rw [List.length_append, List.length_drop] at hlen
  have : (had.drop p).dropWhile (· != x) ≠ [] := by
    intro e
    rw [e, List.append_nil] at hx
    have hm : x ∈ had.drop p := by
      have : (had.drop p).getLast? = some x := by rw [List.getLast?_drop, if_neg (by omega), hl]
      exact List.mem_of_getLast? this
    rw [← hx] at hm
    have := (List.all_eq_true.mp (List.all_takeWhile (p := (· != x)) (l := had.drop p))) x hm
    simp at this
  have := List.length_pos_iff.mpr this
  omega
structure Inv (size : Int) (hs : List Int) (c : PS) : Prop where
  ok : StOk size c.st
  pl : 0 ≤ c.pl ∧ c.pl < 10 ^ 9
  len : c.movers.length = c.counts.length
  mv : ∀ x ∈ c.movers, 0 ≤ x ∧ x < 4
  dec : ∀ i, i + 1 < c.counts.length → c.counts.getD (i + 1) 0 ≤ c.counts.getD i 0
  last : ∀ i, i + 1 = c.counts.length → ((ableL c.st).length : Int) ≤ c.counts.getD i 0
  ones : ∃ a, a ≤ 13 ∧ a ≤ c.counts.length ∧ (∀ i, a ≤ i → i < c.counts.length → c.counts.getD i 0 = 1) ∧ ((ableL c.st).length = 1 ∨ (a = c.counts.length ∧ a + rnk size c.st ≤ 13))
  round : ∀ i, i + 1 < c.counts.length → c.counts.getD i 0 = 1 → c.movers.getD (i + 1) 0 = (c.movers.getD i 0 + 1) % 4
  rlast : ∀ i, i + 1 = c.counts.length → c.counts.getD i 0 = 1 → ∃ j : Nat, ableL c.st = [j] ∧ (j : Int) = (c.movers.getD i 0 + 1) % 4
  tlen : c.tls.length = 4
  t0 : c.tls.getD 0 [] = (List.range (c.movers.count 0 + 1)).map fun k => (hs.getD 0 0 + ((k : Nat) : Int)) % size
  s0 : c.st.getD 0 0 = (hs.getD 0 0 + (c.movers.count 0 : Nat)) % size
  tk : ∀ k, k < 4 → (c.tls.getD k []).length = c.movers.count (k : Int) + 1 ∧ (c.tls.getD k []).head? = some (hs.getD k 0 % size) ∧ (c.tls.getD k []).getLast? = some (c.st.getD k 0)
  tb : ∀ k, k < 4 → ∀ x ∈ c.tls.getD k [], 0 ≤ x ∧ x < size
  tak : ∀ k, k < 3 → taken (c.tls.getD k []) (c.tls.getD (k + 1) []).tail ≤ (c.tls.getD k []).length ∧ (taken (c.tls.getD k []) (c.tls.getD (k + 1) []).tail = (c.tls.getD k []).length → c.st.getD (k + 1) 0 = c.st.getD k 0)
theorem Inv.step {size : Int} {hs : List Int} {c : PS} (h : Inv size hs c) : Inv size hs (pstep size c) := by
  have hj := pmov_mem h.ok h.pl.1
  have hf := h.ok.facts
  have hj4 := ableL_lt hj
  obtain ⟨f1, f2, f3⟩ := hf
  obtain ⟨g1, g2, g3⟩ := f3 _ hj
  have hab := ableL_ok hj
  have hsl := h.ok.len
  have hbd := h.ok.bd
  unfold pstep
  generalize hjj : pmov c.st c.pl = j at *
  have hset : ∀ k, (c.st.set j (pnew size c.st j)).getD k 0 = if k = j then pnew size c.st j else c.st.getD k 0 := fun k => getD_set (by omega)
  have hmod : ∀ k, k < 4 → (c.tls.modify j (· ++ [pnew size c.st j])).getD k [] = if k = j then c.tls.getD k [] ++ [pnew size c.st j] else c.tls.getD k [] := fun k hk => getD_modify _ _ _ _ (by rw [h.tlen]; exact hk)
  have hcnt : ∀ k : Nat, (c.movers ++ [(j : Int)]).count (k : Int) = c.movers.count (k : Int) + if k = j then 1 else 0 := fun k => by
    rw [List.count_append, List.count_singleton]
    congr 1
    by_cases e : k = j
    · subst e; simp
    · rw [if_neg e, if_neg]; simp; omega
  refine ⟨h.ok.set hj4, ?_, by simp [h.len], ?_, ?_, ?_, ?_, ?_, ?_, by simp [h.tlen], ?_, ?_, ?_, ?_, ?_⟩
  · have hp := h.pl
    refine ⟨Int.fdiv_nonneg hp.1 (by omega), Int.lt_of_le_of_lt ?_ hp.2⟩
    rw [Int.fdiv_eq_ediv_of_nonneg _ (by omega)]
    exact Int.ediv_le_self _ hp.1
  · intro x hx
    rcases List.mem_append.mp hx with hx | hx
    · exact h.mv x hx
    · rw [List.mem_singleton.mp hx]; omega
  · intro i hi
    rw [List.length_append, List.length_singleton] at hi
    rw [getD_snoc, getD_snoc, if_pos (by omega : i < c.counts.length)]
    by_cases e : i + 1 < c.counts.length
    · rw [if_pos e]; exact h.dec i e
    · rw [if_neg e, if_pos (by omega)]; exact h.last i (by omega)
  · intro i hi
    rw [List.length_append, List.length_singleton] at hi
    rw [getD_snoc, if_neg (by omega), if_pos (by omega)]
    dsimp only
    omega
  · obtain ⟨a, a1, a2, a3, a4⟩ := h.ones
    by_cases e : (ableL c.st).length = 1
    · refine ⟨a, a1, by simp; omega, fun i h1 h2 => ?_, .inl (by dsimp only; rw [g2 e]; rfl)⟩
      rw [List.length_append, List.length_singleton] at h2
      rw [getD_snoc]
      by_cases e' : i < c.counts.length
      · rw [if_pos e']; exact a3 i h1 e'
      · rw [if_neg e', if_pos (by omega), e]; rfl
    · rcases a4 with a4 | ⟨a4, a5⟩
      · exact absurd a4 e
      · have := g3 e
        refine ⟨c.counts.length + 1, by omega, by simp, fun i h1 h2 => ?_, .inr ⟨by simp, by dsimp only; omega⟩⟩
        rw [List.length_append, List.length_singleton] at h2
        omega
  · intro i hi h1
    rw [List.length_append, List.length_singleton] at hi
    have hi' : i < c.counts.length := by omega
    rw [getD_snoc, if_pos hi'] at h1
    rw [getD_snoc, getD_snoc, h.len, if_pos hi']
    by_cases e : i + 1 < c.counts.length
    · rw [if_pos e]; exact h.round i e h1
    · rw [if_neg e, if_pos (by omega)]
      obtain ⟨q, q1, q2⟩ := h.rlast i (by omega) h1
      rw [q1] at hj
      rw [List.mem_singleton.mp hj]
      exact q2
  · intro i hi h1
    rw [List.length_append, List.length_singleton] at hi
    rw [getD_snoc, if_neg (by omega), if_pos (by omega)] at h1
    have e : (ableL c.st).length = 1 := by omega
    refine ⟨(j + 1) % 4, g2 e, ?_⟩
    rw [getD_snoc, h.len, if_neg (by omega), if_pos (by omega)]
    omega
  · have e0 := hmod 0 (by decide)
    have e1 := hcnt 0
    rw [show ((0 : Nat) : Int) = 0 from rfl] at e1
    rw [e0, e1]
    by_cases e : 0 = j
    · subst e
      rw [if_pos rfl, if_pos rfl, List.range_succ, List.map_append, ← h.t0]
      congr 1
      show [pnew size c.st 0] = [_]
      congr 1
      rw [if_pos rfl] at hab
      have hb := hbd (c.st.getD 0 0) (by
        obtain ⟨a, b, d, e, hst⟩ := four_of hsl
        rw [hst]; simp)
      have hs0 := h.s0
      unfold pnew
      rw [if_pos rfl, ← hab]
      rw [hs0] at hb ⊢
      dsimp only
      rw [Int.natCast_add]
      rcases h.ok.sz with e | e <;> (rw [e] at hb ⊢; split <;> omega)
    · rw [if_neg e, if_neg e, Nat.add_zero]; exact h.t0
  · have e1 := hcnt 0
    rw [show ((0 : Nat) : Int) = 0 from rfl] at e1
    dsimp only
    rw [hset, e1]
    by_cases e : 0 = j
    · subst e
      rw [if_pos rfl, if_pos rfl]
      rw [if_pos rfl] at hab
      have hb := hbd (c.st.getD 0 0) (by
        obtain ⟨a, b, d, e, hst⟩ := four_of hsl
        rw [hst]; simp)
      have hs0 := h.s0
      unfold pnew
      rw [if_pos rfl, ← hab]
      rw [hs0] at hb ⊢
      rw [Int.natCast_add]
      rcases h.ok.sz with e | e <;> (rw [e] at hb ⊢; split <;> omega)
    · rw [if_neg e, if_neg e, Nat.add_zero]; exact h.s0
  · intro k hk
    obtain ⟨k1, k2, k3⟩ := h.tk k hk
    dsimp only
    rw [hmod k hk, hcnt k, hset k]
    by_cases e : k = j
    · rw [if_pos e, if_pos e, if_pos e]
      refine ⟨by rw [List.length_append, List.length_singleton]; omega, ?_, by simp⟩
      rw [List.head?_append, k2]; rfl
    · rw [if_neg e, if_neg e, if_neg e]
      exact ⟨k1, k2, k3⟩
  · intro k hk x hx
    dsimp only at hx
    rw [hmod k hk] at hx
    by_cases e : k = j
    · rw [if_pos e] at hx
      rcases List.mem_append.mp hx with hx | hx
      · exact h.tb k hk x hx
      · rw [List.mem_singleton.mp hx]
        exact pnew_bd h.ok j hj4
    · rw [if_neg e] at hx
      exact h.tb k hk x hx
  · intro k hk
    obtain ⟨t1, t2⟩ := h.tak k hk
    obtain ⟨k1, -, k3⟩ := h.tk k (by omega)
    obtain ⟨l1, -, l3⟩ := h.tk (k + 1) (by omega)
    dsimp only
    rw [hmod k (by omega), hmod (k + 1) (by omega), hset k, hset (k + 1)]
    by_cases e : k = j
    · rw [if_pos e, if_neg (by omega), if_pos e, if_neg (by omega)]
      rw [taken_app _ t1, List.length_append, List.length_singleton]
      exact ⟨by omega, fun q => by omega⟩
    · rw [if_neg e, if_neg e]
      by_cases e2 : k + 1 = j
      · rw [if_pos e2, if_pos e2]
        rw [← e2, if_neg (by omega), Nat.add_sub_cancel] at hab
        have hv : pnew size c.st j = c.st.getD k 0 := by rw [← e2, pnew, if_neg (by omega), Nat.add_sub_cancel]
        rw [hv]
        have hne : taken (c.tls.getD k []) (c.tls.getD (k + 1) []).tail < (c.tls.getD k []).length := by
          rcases Nat.lt_or_eq_of_le t1 with q | q
          · exact q
          · exact absurd (t2 q) hab
        have htl : (c.tls.getD (k + 1) [] ++ [c.st.getD k 0]).tail = (c.tls.getD (k + 1) []).tail ++ [c.st.getD k 0] := by
          rw [List.tail_append_of_ne_nil]
          intro q; rw [q] at l1; simp at l1
        rw [htl, taken_snoc]
        have := scan_found (x := c.st.getD k 0) hne k3
        exact ⟨by omega, fun _ => rfl⟩
      · rw [if_neg e2, if_neg e2]
        exact ⟨t1, t2⟩
end Mine
end
theorem Mine.forget_PB : True ∧ True := by first | (walk1; all_goals trivial; done) | exact ⟨trivial, trivial⟩
section
namespace Mine
theorem kset_hit {m : Str → Option Value} {x : Str} {v : Value} : kset m x v x = some v := if_pos rfl
theorem kset_miss {m : Str → Option Value} {x y : Str} {v u : Value} (ne : y ≠ x) (h : m y = some u) : kset m x v y = some u := by
  show (if y = x then some v else m y) = _
  rw [if_neg ne]; exact h
theorem ks_nil {m : Str → Option Value} : ∀ p ∈ ([] : List (Str × Value)), m p.1 = some p.2 := fun _ h => nomatch h
theorem ks_cons {m : Str → Option Value} {x : Str} {v : Value} {r : List (Str × Value)} (h : m x = some v) (t : ∀ p ∈ r, m p.1 = some p.2) : ∀ p ∈ (x, v) :: r, m p.1 = some p.2 := fun p hp => by
  revert p
  exact all_cons (h) (fun p hp => t p hp)
/-- the ledger without an address -/
noncomputable def dr (a : Addr) (l : List (Addr × Obj)) : List (Addr × Obj) := l.filter fun p => !(Nat.beq p.1 a)
theorem mem_dr {a : Addr} {l : List (Addr × Obj)} {p : Addr × Obj} : p ∈ dr a l ↔ p ∈ l ∧ p.1 ≠ a := by
  unfold dr
  rw [List.mem_filter]
  refine and_congr_right fun _ => ?_
  cases e : Nat.beq p.1 a with
  | true => simp [Nat.eq_of_beq_eq_true e]
  | false => simp; exact Nat.ne_of_beq_eq_false e
theorem dr_in {a : Addr} {l : List (Addr × Obj)} {p : Addr × Obj} (h : p ∈ l) (n : p.1 ≠ a) : p ∈ dr a l := mem_dr.mpr ⟨h, n⟩
theorem dr_off {a : Addr} {l : List (Addr × Obj)} : ∀ p ∈ dr a l, p.1 ≠ a := fun _ h => (mem_dr.mp h).2
theorem news_sub {h₀ h : Heap} {L : Addr} {l r : List (Addr × Obj)} (N : News h₀ L h l) (hs : ∀ p ∈ r, p ∈ l) : News h₀ L h r := fun p hp => N p (hs p hp)
/-- what stands -/
noncomputable def Fx (R : RC) : List (Addr × Obj) :=
  [(R.L + 1 + 1 + 1 + 1 + 1, R.o5), (R.L + 1 + 1 + 1 + 1, R.o4), (R.L + 1 + 1 + 1, R.o3), (R.L + 1 + 1, R.o2), (R.L + 1, R.o1), (R.nl, W.listOf R.nvs.toArray R.nn), (R.gl, W.listOf R.gvs.toArray R.gn), (187, R.C.tab), (R.C.c2, R.C.oc)]
noncomputable def Mx (R : RC) (c : LS) : List (Addr × Obj) := [(R.sl, W.listOf c.svs.toArray c.sn), (R.ml, W.listOf c.mvs.toArray c.mn), (R.cl, W.listOf c.cvs.toArray c.cn), (R.vl, W.listOf c.vvs.toArray c.vn)]
noncomputable def LedK (R : RC) (c : LS) : List (Addr × Obj) := Fx R ++ (Mx R c ++ (c.lg.map LogSt.obj ++ c.rest))
noncomputable def ads (R : RC) (es : List El) : List Addr := R.sl :: R.ml :: R.cl :: R.vl :: es.map (·.l)
noncomputable def view (c : LS) : PS := ⟨c.st, c.counts, c.movers, c.pl, c.lg.map (·.tl)⟩
structure RK (P : Params) (R : RC) (es : List El) : Prop where
  c1 : R.o1.data = .cell (some (.ref R.sl))
  c2 : R.o2.data = .cell (some (.int R.sh R.tsh))
  c3 : R.o3.data = .cell (some (.ref R.hand))
  c4 : R.o4.data = .cell (some (.ref R.nl))
  c5 : R.o5.data = .cell (some (.ref R.ml))
  C : R.C.Ok P
  hand : R.hand = 157 ∨ R.hand = 164 ∨ R.hand = 171
  names : StrsAre R.nvs (namesOf R.sh)
  gvs : R.gvs = es.map fun e => Value.ref e.f
  e4 : es.length = 4
  sh : R.sh < 29
  tail : R.tail ∈ tails
  nd : (ads R es).Nodup
structure LK (P : Params) (R : RC) (es : List El) (c : LS) : Prop where
  svs : IntsAre c.svs c.st
  cvs : IntsAre c.cvs c.counts
  vvs : IntsAre c.vvs c.movers
  mvs : c.mvs = c.Ms.map fun M => Value.ref M.x
  m4 : c.Ms.length = 4
  mks : ∀ (k : Nat) M, c.Ms[k]? = some M → MkOk P c.rest M (c.st.getD k 0)
  lg : c.lg.map (·.e) = es
  lgo : ∀ z ∈ c.lg, LogOk P R.C c.rest z ∧ z.ks.length ≤ c.counts.length
  c23 : c.counts.length ≤ 23
  off : ∀ p ∈ Fx R ++ c.rest, p.1 ∉ ads R es
theorem MkOk.mono {P : Params} {rest rest' : List (Addr × Obj)} {M : Mk} {x : Int} (h : MkOk P rest M x) (hs : ∀ p ∈ rest, p ∈ rest') : MkOk P rest' M x := ⟨h.cnt, h.b, h.mints, fun p hp => hs p (h.objs p hp)⟩
theorem LogOk.mono {P : Params} {C : Cd} {rest rest' : List (Addr × Obj)} {z : LogSt} (h : LogOk P C rest z) (hs : ∀ p ∈ rest, p ∈ rest') : LogOk P C rest' z := ⟨h.ok, fun p hp => hs p (h.ro p hp), fun k hk => ⟨(h.kids k hk).1, fun p hp => hs p ((h.kids k hk).2 p hp)⟩, h.tags⟩
/-- the places of a statement -/
structure Pl (w : World) (mean : ExcName → Option Value) (mg mb : Str → Option Value) (dp un : Nat) (outer : List Env) (A₀ : Around) (base g₀ h₀ : Heap) : Prop where
  B : Below A₀ base outer h₀
  X : Frag.In (hd.heap_39 w.params) h₀
  T : Top topProg lo mean mg mb h₀
  XB : Frag.In (hd.heap_39 w.params) base
  TB : Top topProg lo mean mg mb base
  D : KtsDicts (outer.filterMap (·.frame)) h₀
  T0 : KtsTurn (outer.filterMap (·.frame)) g₀ h₀
  d : dp + 200 < recursionLimit
  u : un + 1500 < cLine
noncomputable abbrev runTop (w : World) (dp un : Nat) (gd : Option (List Code)) (L : Addr) (outer : List Env) : Around := ktrTop dp un gd (Str.ofString "_law_run") (runScope w.params) L 204 (.ref 203) (cellsFrom (L + 1) (runScope w.params).names []) outer
theorem execs_toks {M : Model} {A : Around} {E : Value → Shared → Prop} {env : Env} {s : Shared} {st : Stmt} {rest : List Stmt} {Q : Flow → Shared → Prop}
    (h : wpAny M A (exec st env) (fun f s' => s.toks ≤ s'.toks → match f with | .next => wpAny M A (execs rest env) Q E s' | f => Q f s') E s) : wpAny M A (execs (st :: rest) env) Q E s := wpAny_execs_cons (toks_on h)
section
variable {w : World} {mean : ExcName → Option Value} {mg mb : Str → Option Value} {dp un : Nat} {gd : Option (List Code)} {outer : List Env} {A₀ : Around} {base g₀ h₀ : Heap} {L : Addr} {m : Str → Option Value} {s : Shared} {Q : Flow → Shared → Prop} {E : Value → Shared → Prop}
theorem use_s {st : Env → Stmt} {rs : List Stmt} {ps : List (Str × Value)} {news : Addr → List (Addr × Obj)} {pre : Addr → Shared → Prop} {post : Post} (S : SX w st ps news pre post) (H : Pl w mean mg mb dp un outer A₀ base g₀ h₀) (F : Fr h₀ L s.heap m) (hm : ∀ p ∈ ps, m p.1 = some p.2)
    (N : News h₀ L s.heap (news L)) (hp : pre L s) (h : post h₀ L m s (fun f s' => s.toks ≤ s'.toks → match f with | .next => wpAny (model PySem.Challenge.rw_xe0044_01.row.prog w) (runTop w dp un gd L outer) (execs rs (EN w L)) Q E s' | f => Q f s')) :
    wpAny (model PySem.Challenge.rw_xe0044_01.row.prog w) (runTop w dp un gd L outer) (execs (st (EN w L) :: rs) (EN w L)) Q E s :=
  execs_toks (S mean mg mb dp un gd outer A₀ base h₀ L m s _ E H.B F hm H.X N H.T H.d H.u hp h)
end
theorem off1_ne {D : Addr} : ∀ {l : List (Addr × Obj)}, LCg.Off1 D l → ∀ p ∈ l, p.1 ≠ D
  | [], _, _, h => nomatch h
  | q :: r, h, p, hp => by
    revert p
    exact all_cons (h.1) (fun p hp => off1_ne h.2 p hp)
theorem kset_id {m : Str → Option Value} {x : Str} {v : Value} (h : m x = some v) : kset m x v = m := by
  funext y
  show (if y = x then some v else m y) = m y
  split
  · rename_i e; rw [e, h]
  · rfl
/-- statement 7, whoever moves -/
theorem s7_told (w : World) (size : Int) (st : List Int) (j : Nat) (tn tm ts : Tok) (NL : List (Addr × Obj)) (hy : 0 ≤ ahead st j ∧ ahead st j < 5) (hs : size = 4 ∨ size = 5) :
    SX w (fun _ => stAt w.params 7) [(Str.ofString "mover", .int (j : Int) tm), (Str.ofString "name", .str (amp (ahead st j)) tn), (Str.ofString "size", .int size ts)] (fun _ => NL) (fun _ _ => True)
      (Sets (Str.ofString "name") (fun v => ∃ t, v = .str (amp (pnew size st j)) t) (fun _ => NL)) := by
  intro mean mg mb dp un gd outer A₀ base h₀ L m s Q R B F hm X N T hd hu hpre hpost
  by_cases e : j = 0
  · subst e
    refine s7a_told w (ahead st 0) size tn tm ts NL hy hs mean mg mb dp un gd outer A₀ base h₀ L m s Q R B F hm X N T hd hu hpre ?_
    rintro v h' tk' ⟨t, rfl⟩ F' N'
    refine hpost _ h' tk' ⟨t, ?_⟩ F' N'
    unfold pnew ahead
    rw [if_pos rfl, if_pos rfl]
    split <;> rfl
  · refine s7b_told w (j : Int) tm NL (by omega) mean mg mb dp un gd outer A₀ base h₀ L m s Q R B F (fun p hp => hm p (by rw [List.mem_singleton.mp hp]; exact .head _)) X N T hd hu hpre ?_
    intro h' tk' F' N'
    have hn : m (Str.ofString "name") = some (.str (amp (ahead st j)) tn) := hm (Str.ofString "name", .str (amp (ahead st j)) tn) (.tail _ (.head _))
    refine hpost (.str (amp (ahead st j)) tn) h' tk' ⟨tn, ?_⟩ (by rw [kset_id hn]; exact F') N'
    unfold pnew ahead
    rw [if_neg e, if_neg e]
theorem body_list (P : Params) : runBody P = [stAt P 0, stAt P 1, stAt P 2, stAt P 3, stAt P 4, stAt P 5, stAt P 6, stAt P 7, stAt P 8, stAt P 9, stAt P 10, stAt P 11, stAt P 12] := rfl
theorem ab_eq (n : Nat) : ((n : Int)).fmod 2 = ((n % 2 : Nat) : Int) := by rw [Int.fmod_eq_emod_of_nonneg _ (by decide)]; rfl
theorem idxs_eq {st : List Int} (ab : Nat) : idxs (maskOf st) ab = ableL st ++ (if ab = 0 then [] else [4]) := by rw [idxs, mask_idx]; rfl
theorem mask_pos {size : Int} {st : List Int} (h : StOk size st) : 0 < maskOf st := by
  have h1 := h.facts.1
  rcases Nat.eq_zero_or_pos (maskOf st) with e | e
  · exfalso
    have := mask_idx st
    rw [e] at this
    have h2 : ableL st = [] := by rw [ableL, ← this]; decide
    rw [h2] at h1
    exact Nat.lt_irrefl _ h1
  · exact e
/-- the able ones' list -/
theorem able_list {size : Int} {st : List Int} (h : StOk size st) {ab : Nat} (hab : ab < 2) {pl : Int} : ((idxs (maskOf st) ab).map fun k => ((k : Nat) : Int)).length = (ableL st).length + ab ∧ ((idxs (maskOf st) ab).map fun k => ((k : Nat) : Int)).Pairwise (fun a b => a ≤ b) ∧
    ((idxs (maskOf st) ab).map fun k => ((k : Nat) : Int)).count 4 = ab ∧ ((idxs (maskOf st) ab).map fun k => ((k : Nat) : Int)).getD (pl.fmod ((((idxs (maskOf st) ab).map fun k => ((k : Nat) : Int)).length : Int) - (ab : Int))).toNat 0 = (pmov st pl : Nat) := by
  have h0 := h.facts.1
  have hl : ((idxs (maskOf st) ab).map fun k => ((k : Nat) : Int)).length = (ableL st).length + ab := by
    rw [List.length_map, idxs_eq, List.length_append]
    rcases (by omega : ab = 0 ∨ ab = 1) with rfl | rfl <;> rfl
  refine ⟨hl, ?_, ?_, ?_⟩
  · rw [idxs_eq]
    have h1 : ∀ a b c d e : Bool, (((List.range 4).filter (pick a b c d)) ++ (if e then [] else [4]) |>.map fun k => ((k : Nat) : Int)).Pairwise (fun a b => a ≤ b) := by decide
    have h2 := h1 (ablep st 0) (ablep st 1) (ablep st 2) (ablep st 3) (decide (ab = 0))
    rw [← pick_eq] at h2
    simpa [ableL] using h2
  · rw [idxs_eq]
    have h1 : ∀ a b c d : Bool, (((List.range 4).filter (pick a b c d)).map fun k => ((k : Nat) : Int)).count 4 = 0 := by decide
    have h2 := h1 (ablep st 0) (ablep st 1) (ablep st 2) (ablep st 3)
    rw [← pick_eq] at h2
    rw [List.map_append, List.count_append]
    unfold ableL
    rw [h2]
    rcases (by omega : ab = 0 ∨ ab = 1) with rfl | rfl <;> rfl
  · rw [hl, show (((ableL st).length + ab : Nat) : Int) - (ab : Int) = (ableL st).length by omega]
    have h1 : 0 ≤ pl.fmod ((ableL st).length : Int) := Int.fmod_nonneg_of_pos _ (by omega)
    have h2 : pl.fmod ((ableL st).length : Int) < (ableL st).length := Int.fmod_lt_of_pos _ (by omega)
    unfold pmov
    rw [idxs_eq, List.map_append, List.getD_eq_getElem?_getD, List.getElem?_append_left (by rw [List.length_map]; omega), List.getElem?_map, List.getD_eq_getElem?_getD, List.getElem?_eq_getElem (by omega)]
    rfl
end Mine
end
theorem Mine.forget_RA : True ∧ True := by first | (walk1; all_goals trivial; done) | exact ⟨trivial, trivial⟩
section
namespace Mine
noncomputable def has (l : List (Addr × Obj)) (a : Addr) : Prop := ∃ o, (a, o) ∈ l
theorem has_upd {l : List (Addr × Obj)} {a b : Addr} (o : Obj) (h : has l a) : has ((b, o) :: dr b l) a := by
  obtain ⟨o', h⟩ := h
  by_cases e : a = b
  · exact ⟨o, by rw [e]; exact .head _⟩
  · exact ⟨o', .tail _ (dr_in h e)⟩
theorem has_app {l r : List (Addr × Obj)} {a : Addr} (h : has l a) : has (r ++ l) a := h.elim fun o h => ⟨o, List.mem_append_right _ h⟩
theorem has_cons {l : List (Addr × Obj)} {a : Addr} {p : Addr × Obj} (h : has l a) : has (p :: l) a := h.elim fun o h => ⟨o, .tail _ h⟩
theorem has_ne {E l : List (Addr × Obj)} {a : Addr} (h : has l a) (n : ∀ p ∈ E, ∀ q ∈ l, q.1 ≠ p.1) : ∀ p ∈ E, p.1 ≠ a := fun p hp e => h.elim fun o h => n p hp _ h e.symm
theorem in_upd {l : List (Addr × Obj)} {b : Addr} {o : Obj} {p : Addr × Obj} (h : p ∈ l) (n : p.1 ≠ b) : p ∈ (b, o) :: dr b l := .tail _ (dr_in h n)
section
variable {w : World} {mean : ExcName → Option Value} {mg mb : Str → Option Value} {dp un : Nat} {gd : Option (List Code)} {outer : List Env} {A₀ : Around} {base g₀ : Heap} {R : RC} {es : List El} {c : LS} {hs : List Int} {m : Str → Option Value} {s : Shared} {Q : Flow → Shared → Prop} {E : Value → Shared → Prop}
local macro_rules | `(tactic| kst_all) => `(tactic| repeat' (first | exact ks_nil | (refine ks_cons ?_ ?_) | exact kset_hit | (refine kset_miss (by decide) ?_) | assumption))
theorem body_told (K : RK w.params R es) (k : LK w.params R es c) (V : Inv R.size hs (view c)) (hg : c.counts.length < 23) (H : Pl w mean mg mb dp un outer A₀ base g₀ c.G) (F : Fr c.G R.L s.heap m) (hm : ∀ p ∈ psOf R c, m p.1 = some p.2) (N : News c.G R.L s.heap (LedK R c)) (hs0 : 0 < s.toks)
    (h : ∀ c' h' tk' m', LK w.params R es c' → view c' = pstep R.size (view c) → (∀ p ∈ c.rest, p ∈ c'.rest) → Pl w mean mg mb dp un outer A₀ base g₀ c'.G → Fr c'.G R.L h' m' → (∀ p ∈ psOf R c', m' p.1 = some p.2) → News c'.G R.L h' (LedK R c') → Q .next { s with heap := h', toks := tk' }) :
    wpAny (model PySem.Challenge.rw_xe0044_01.row.prog w) (runTop w dp un gd R.L outer) (execs (runBody w.params) (EN w R.L)) Q E s := by
  obtain ⟨G, svs, mvs, cvs, vvs, sn, mn, cn, vn, st, counts, movers, Ms, pl, pt, lg, rest⟩ := c
  obtain ⟨hsvs, hcvs, hvvs, hmvs, hm4, hmks, hlg, hlgo, hc23, hoff⟩ := k
  obtain ⟨k1, k2, k3, k4, k5, kC, khand, knames, kgvs, kes, ksh, ktail, knd⟩ := K
  have Vok := V.ok
  have Vpl := V.pl
  have Vlen := V.len
  dsimp only [view] at Vlen hsvs hcvs hvvs hmvs hm4 hmks hlg hlgo hc23 hoff Vok Vpl hg H F N h hm
  have h5 : ∀ x ∈ st, 0 ≤ x ∧ x < 5 := fun x hx => ⟨(Vok.bd x hx).1, Int.lt_of_lt_of_le (Vok.bd x hx).2 (by rcases Vok.sz with e | e <;> omega)⟩
  have hst4 := Vok.len
  have hc : m (Str.ofString "counts") = some (.ref R.cl) := hm (Str.ofString "counts", .ref R.cl) (mem_at 4 rfl)
  have hv : m (Str.ofString "movers") = some (.ref R.vl) := hm (Str.ofString "movers", .ref R.vl) (mem_at 5 rfl)
  have hp : m (Str.ofString "plan") = some (.int pl pt) := hm (Str.ofString "plan", .int pl pt) (mem_at 1 rfl)
  have hz : m (Str.ofString "size") = some (.int R.size R.ts) := hm (Str.ofString "size", .int R.size R.ts) (mem_at 0 rfl)
  have htl : m (Str.ofString "tail") = some (.str R.tail R.tt) := hm (Str.ofString "tail", .str R.tail R.tt) (mem_at 2 rfl)
  have hlo : m (Str.ofString "logs") = some (.ref R.gl) := hm (Str.ofString "logs", .ref R.gl) (mem_at 3 rfl)
  clear hm
  rw [body_list]
  have X0 : ∃ X, X = LedK R ⟨G, svs, mvs, cvs, vvs, sn, mn, cn, vn, st, counts, movers, Ms, pl, pt, lg, rest⟩ := ⟨_, rfl⟩
  obtain ⟨X, hX⟩ := X0
  rw [← hX] at N
  have xf : ∀ p ∈ Fx R, p ∈ X := fun p hp => by rw [hX]; exact List.mem_append_left _ hp
  have xs : (R.sl, W.listOf svs.toArray sn) ∈ X := by rw [hX]; exact List.mem_append_right _ (List.mem_append_left _ (mem_at 0 rfl))
  have xm : (R.ml, W.listOf mvs.toArray mn) ∈ X := by rw [hX]; exact List.mem_append_right _ (List.mem_append_left _ (mem_at 1 rfl))
  have xc : (R.cl, W.listOf cvs.toArray cn) ∈ X := by rw [hX]; exact List.mem_append_right _ (List.mem_append_left _ (mem_at 2 rfl))
  have xv : (R.vl, W.listOf vvs.toArray vn) ∈ X := by rw [hX]; exact List.mem_append_right _ (List.mem_append_left _ (mem_at 3 rfl))
  have xl : ∀ z ∈ lg, z.obj ∈ X := fun z hz => by rw [hX]; exact List.mem_append_right _ (List.mem_append_right _ (List.mem_append_left _ (List.mem_map_of_mem hz)))
  have xr : ∀ p ∈ rest, p ∈ X := fun p hp => by rw [hX]; exact List.mem_append_right _ (List.mem_append_right _ (List.mem_append_right _ hp))
  -- 0: above
  refine use_s (st := fun _ => stAt w.params 0) (s0_told w R.cl cvs cn X counts hcvs hc23) H F (by kst_all) (news_sub N (fun p hp => by rcases List.mem_cons.mp hp with rfl | hp <;> assumption)) trivial ?_
  rintro v h1 tk1 ⟨t, rfl⟩ F1 N1 ht1
  dsimp only at ht1 ⊢
  replace N1 := news_sub N1 (r := X) (fun p hp => .tail _ hp)
  rw [ab_eq] at F1
  have hab : counts.length % 2 < 2 := Nat.mod_lt _ (by decide)
  generalize counts.length % 2 = ab at *
  have hmp := mask_pos Vok
  have hml := mask_lt st
  have hR := able_list (pl := pl) Vok hab
  have al1 := hR.1
  have al2 := hR.2.1
  have al3 := hR.2.2.1
  have al4 := hR.2.2.2
  clear hR
  -- 1: told
  obtain ⟨M0, M1, M2, M3, rfl⟩ := four_of hm4
  have q0 := (hmks 0 M0 rfl).mono xr
  have q1 := (hmks 1 M1 rfl).mono xr
  have q2 := (hmks 2 M2 rfl).mono xr
  have q3 := (hmks 3 M3 rfl).mono xr
  refine use_s (st := fun _ => stAt w.params 1) (s1_told w R.ml M0 M1 M2 M3 mn R.o2 R.o5 R.sh ab R.tsh t st X hst4 h5 k2 k5 q0 q1 q2 q3 ksh hab hmp) H F1 (by kst_all) (news_sub N1 (fun p hp => ?_)) trivial ?_
  · revert p
    exact all_cons (xf _ (mem_at 3 rfl)) (all_cons (xf _ (mem_at 0 rfl))  (all_cons (by rw [hmvs] at xm; exact xm)   (fun p hp => hp)))
  rintro v h2 tk2 ⟨t2, rfl⟩ F2 N2 ht2
  dsimp only at ht2 ⊢
  replace N2 := news_sub N2 (r := X) (fun p hp => .tail _ (.tail _ (.tail _ hp)))
  -- 2: able
  refine use_s (st := fun _ => stAt w.params 2) (s2_told w R.nl R.nvs R.nn R.o4 _ t2 R.sh (maskOf st) ab X k4 knames ksh hab (flags_len ksh hmp hml hab) (split_at ksh hmp hml hab)) H F2 (by kst_all) (news_sub N2 (fun p hp => ?_)) trivial ?_
  · revert p
    exact all_cons (xf _ (mem_at 1 rfl)) (all_cons (xf _ (mem_at 5 rfl))  (fun p hp => hp))
  rintro D ys h3 tk3 hys hoD F3 N3 ht3
  dsimp only at ht3 ⊢
  replace N3 := news_sub N3 (r := (D, LCg.lst ys) :: X) (fun p hp => by
    revert p
    exact all_cons (.head _) (fun p hp => .tail _ (.tail _ (.tail _ hp))))
  have hD : ∀ p ∈ X, p.1 ≠ D := fun p hp => off1_ne hoD.2.2 p hp
  clear hoD
  have hl5 : ((idxs (maskOf st) ab).map fun k => ((k : Nat) : Int)).length ≤ 5 := by rw [List.length_map]; exact idxs_len _ _
  have f0 := Vok.facts.1
  generalize hns : ((idxs (maskOf st) ab).map fun k => ((k : Nat) : Int)) = ns at *
  -- 3, 4, 5
  refine use_s (st := fun _ => stAt w.params 3) (s3_told w D ys ns ab t X hys hl5 hab al2 al3) H F3 (by kst_all) N3 trivial ?_
  rintro h4 tk4 F4 N4 ht4
  dsimp only at ht4 ⊢
  refine use_s (st := fun _ => stAt w.params 4) (s4_told w D ys ns ab pl t pt X hys hl5 hab (by omega) Vpl.1 Vpl.2) H F4 (by kst_all) N4 trivial ?_
  rintro v h5' tk5 ⟨tm, rfl⟩ F5 N5 ht5
  dsimp only at ht5 ⊢
  rw [al4] at F5
  refine use_s (st := fun _ => stAt w.params 5) (s5_told w D ys ns ab pl t pt X hys hl5 hab (by omega) Vpl.1 Vpl.2) H F5 (by kst_all) N5 trivial ?_
  rintro v h6 tk6 ⟨tp, rfl⟩ F6 N6 ht6
  dsimp only at ht6 ⊢
  have hj := pmov_mem Vok Vpl.1
  have hj4 := ableL_lt hj
  have hv := pnew_bd Vok _ hj4
  have epl : (ns.length : Int) - (ab : Int) = (ableL st).length := by omega
  rw [epl] at F6
  unfold pstep at h
  dsimp only [view] at h
  generalize pmov st pl = j at *
  -- 6: name
  have hy := ahead_bd hst4 h5 hj4
  refine execs_toks (s6_told w R.sl R.cl svs cvs sn cn st counts R.o1 R.tail tm R.tt j ((D, LCg.lst ys) :: X) hsvs hst4 h5 hj4 hcvs hc23 k1 ktail mean mg mb dp un gd outer A₀ base g₀ G R.L _ _ _ _ H.B F6 (by kst_all) H.X (news_sub N6 (fun p hp => ?_)) H.T H.XB H.TB H.D H.T0 H.d H.u ?_)
  · revert p
    exact all_cons (.tail _ xs) (all_cons (.tail _ (xf _ (mem_at 4 rfl)))  (all_cons (.tail _ xc)   (fun p hp => hp)))
  rintro t6 G' h7 tk7 hT0 F7 N7 hB hX' hT hD' ht7
  dsimp only at ht7 ⊢
  replace N7 := news_sub N7 (r := (D, LCg.lst ys) :: X) (fun p hp => .tail _ (.tail _ (.tail _ hp)))
  replace H : Pl w mean mg mb dp un outer A₀ base g₀ G' := ⟨hB, hX', hT, H.XB, H.TB, hD', hT0, H.d, H.u⟩
  clear hB hX' hT hD' hT0 F N N1 N2 N3 N4 N5 N6 F1 F2 F3 F4 F5 F6
  -- 7: the first one's
  refine use_s (st := fun _ => stAt w.params 7) (s7_told w R.size st j t6 tm R.ts ((D, LCg.lst ys) :: X) hy Vok.sz) H F7 (by kst_all) N7 trivial ?_
  rintro v h8 tk8 ⟨t7, rfl⟩ F8 N8 ht8
  dsimp only at ht8 ⊢
  have hy5 : 0 ≤ pnew R.size st j ∧ pnew R.size st j < 5 := ⟨hv.1, Int.lt_of_lt_of_le hv.2 (by rcases Vok.sz with e | e <;> omega)⟩
  generalize pnew R.size st j = y at *
  -- 8: the log
  have hlgl : lg.length = 4 := by rw [← kes, ← hlg, List.length_map]
  obtain ⟨z, hzj⟩ : ∃ z, lg[j]? = some z := ⟨lg[j]'(by omega), List.getElem?_eq_getElem (by omega)⟩
  have zmem : z ∈ lg := List.mem_of_getElem? hzj
  have zo := (hlgo z zmem).1
  have zk := (hlgo z zmem).2
  have zad : z.e.l ∈ es.map (·.l) := List.mem_map.mpr ⟨z.e, by rw [← hlg]; exact List.mem_map_of_mem zmem, rfl⟩
  have zads : z.e.l ∈ ads R es := .tail _ (.tail _ (.tail _ (.tail _ zad)))
  have hgz : R.gvs[(j : Int).toNat]? = some (.ref z.e.f) := by
    rw [kgvs, ← hlg, Int.toNat_natCast, List.getElem?_map, List.getElem?_map, hzj]; rfl
  have hR : (R.sl ≠ R.ml ∧ R.sl ≠ R.cl ∧ R.sl ≠ R.vl ∧ R.sl ∉ es.map (·.l)) ∧ (R.ml ≠ R.cl ∧ R.ml ≠ R.vl ∧ R.ml ∉ es.map (·.l)) ∧ (R.cl ≠ R.vl ∧ R.cl ∉ es.map (·.l)) ∧ R.vl ∉ es.map (·.l) ∧ (es.map (·.l)).Nodup := by
    unfold ads at knd
    simp only [List.nodup_cons, List.mem_cons, not_or] at knd
    exact ⟨⟨knd.1.1, knd.1.2.1, knd.1.2.2.1, knd.1.2.2.2⟩, ⟨knd.2.1.1, knd.2.1.2.1, knd.2.1.2.2⟩, ⟨knd.2.2.1.1, knd.2.2.1.2⟩, knd.2.2.2.1, knd.2.2.2.2⟩
  have nd1 := hR.1
  have nd2 := hR.2.1
  have nd3 := hR.2.2.1
  have nd4 := hR.2.2.2.1
  have nd5 := hR.2.2.2.2
  clear hR
  have zne : ∀ {a : Addr}, a ∉ es.map (·.l) → a ≠ z.e.l := fun h e => h (e ▸ zad)
  have foff : ∀ p ∈ Fx R, p.1 ∉ ads R es := fun p hp => hoff p (List.mem_append_left _ hp)
  have fne : ∀ p ∈ Fx R, ∀ a ∈ ads R es, p.1 ≠ a := fun p hp a ha e => foff p hp (e ▸ ha)
  have asl : R.sl ∈ ads R es := .head _
  have aml : R.ml ∈ ads R es := .tail _ (.head _)
  have acl : R.cl ∈ ads R es := .tail _ (.tail _ (.head _))
  have avl : R.vl ∈ ads R es := .tail _ (.tail _ (.tail _ (.head _)))
  have e1 : (R.L + 1, R.o1) ∈ Fx R := mem_at 4 rfl
  have e3 : (R.L + 1 + 1 + 1, R.o3) ∈ Fx R := mem_at 2 rfl
  have e5 : (R.L + 1 + 1 + 1 + 1 + 1, R.o5) ∈ Fx R := mem_at 0 rfl
  have eg : (R.gl, W.listOf R.gvs.toArray R.gn) ∈ Fx R := mem_at 6 rfl
  have e187 : (187, R.C.tab) ∈ Fx R := mem_at 7 rfl
  refine use_s (st := fun _ => stAt w.params 8) (s8_told w R.C z.e z.parts z.n R.gn R.gl R.hand R.gvs R.o3 y t7 tm j (dr z.e.l ((D, LCg.lst ys) :: X)) kC zo.ok (by rw [LogSt.parts, List.size_toArray, List.length_map, sizeLine_eq]; omega) hy5 khand hj4 hgz k3) H F8 (by kst_all) (news_sub N8 (fun p hp => ?_)) ⟨?_, by dsimp only; omega⟩ ?_
  · revert p
    exact all_cons (.tail _ (xf _ e187)) (all_app (fun p hp => .tail _ (xr _ (zo.ro p hp)))  (all_cons (.tail _ (xl z zmem))   (all_cons (.tail _ (xf _ e3))    (all_cons (.tail _ (xf _ eg))     (fun p hp => (mem_dr.mp hp).1)))))
  · intro p hp
    revert p
    exact all_cons (fne _ e3 _ zads) (all_cons (fne _ eg _ zads)  (fun p hp => dr_off p hp))
  rintro e' h9 tk9 etag eok F9 N9 hap ht9
  dsimp only at ht9 ⊢
  generalize hE' : e'.ro w.params R.C.c2 ++ [(e'.l, W.listOf #[] 0)] = E' at *
  have hap' : ∀ p ∈ E', ∀ q ∈ (D, LCg.lst ys) :: X, q.1 ≠ p.1 := fun p hp q hq => by
    by_cases e : q.1 = z.e.l
    · rw [e]
      exact hap p hp (z.e.l, W.listOf z.parts z.n) (.tail _ (List.mem_append_right _ (.head _)))
    · exact hap p hp q (.tail _ (List.mem_append_right _ (.tail _ (.tail _ (.tail _ (dr_in hq e))))))
  clear hap
  generalize hX2 : E' ++ (z.e.l, W.listOf (z.parts.push (.ref e'.f)) (z.n + 1)) :: dr z.e.l ((D, LCg.lst ys) :: X) = X2
  replace N9 := news_sub N9 (r := X2) (fun p hp => by
    rw [← hX2] at hp
    revert p
    exact all_app (fun p hp => List.mem_append_left _ hp) (all_cons (List.mem_append_right _ (.tail _ (List.mem_append_right _ (.head _))))  (fun p hp => List.mem_append_right _ (.tail _ (List.mem_append_right _ (.tail _ (.tail _ (.tail _ hp))))))))
  have to2 : ∀ p ∈ (D, LCg.lst ys) :: X, p.1 ≠ z.e.l → p ∈ X2 := fun p hp n => by
    rw [← hX2]; exact List.mem_append_right _ (.tail _ (dr_in hp n))
  -- 9: the state
  refine use_s (st := fun _ => stAt w.params 9) (s9_told w R.sl svs sn st R.o1 y t7 tm j (dr R.sl X2) hsvs hst4 hj4 hy5 k1 dr_off) H F9 (by kst_all) (news_sub N9 (fun p hp => ?_)) (fne _ e1 _ asl) ?_
  · revert p
    exact all_cons (to2 _ (.tail _ xs) (zne nd1.2.2.2)) (all_cons (to2 _ (.tail _ (xf _ e1)) (fne _ e1 _ zads))  (fun p hp => (mem_dr.mp hp).1))
  rintro v9 n9 h10 tk10 hi9 F10 N10 ht10
  dsimp only at ht10 ⊢
  generalize hX3 : (R.sl, W.listOf v9.toArray n9) :: dr R.sl X2 = X3
  replace N10 := news_sub N10 (r := X3) (fun p hp => by
    rw [← hX3] at hp
    revert p
    exact all_cons (.head _) (fun p hp => .tail _ (.tail _ hp)))
  have to3 : ∀ p ∈ X2, p.1 ≠ R.sl → p ∈ X3 := fun p hp n => by rw [← hX3]; exact in_upd hp n
  -- 10: the mark
  have hst4' : (st.set j y).length = 4 := by rw [List.length_set]; exact hst4
  have h5' : ∀ x ∈ st.set j y, 0 ≤ x ∧ x < 5 := fun x hx => by
    rcases List.mem_or_eq_of_mem_set hx with hx | rfl
    · exact h5 x hx
    · exact hy5
  refine use_s (st := fun _ => stAt w.params 10) (s10_told w R.sl R.ml v9 mvs n9 mn (st.set j y) R.o1 R.o5 tm j (dr R.ml X3) hi9 hst4' h5' hj4 (by rw [hmvs]; rfl) k1 k5 dr_off) H F10 (by kst_all) (news_sub N10 (fun p hp => ?_)) ⟨fne _ e1 _ aml, fne _ e5 _ aml, nd1.1⟩ ?_
  · revert p
    exact all_cons (to3 _ (to2 _ (.tail _ xm) (zne nd2.2.2)) (Ne.symm nd1.1)) (all_cons (to3 _ (to2 _ (.tail _ (xf _ e1)) (fne _ e1 _ zads)) (fne _ e1 _ asl))  (all_cons (to3 _ (to2 _ (.tail _ (xf _ e5)) (fne _ e5 _ zads)) (fne _ e5 _ asl))   (all_cons (by rw [← hX3]; exact .head _)    (fun p hp => (mem_dr.mp hp).1))))
  rintro M n10 h11 tk11 hMc hMb hMi hapM F11 N11 ht11
  dsimp only at ht11 ⊢
  rw [getD_set (by omega), if_pos rfl] at hMc hMb
  generalize hX4 : M.objs w.params ++ (R.ml, W.listOf (mvs.set j (.ref M.x)).toArray n10) :: dr R.ml X3 = X4
  replace N11 := news_sub N11 (r := X4) (fun p hp => by
    rw [← hX4] at hp
    revert p
    exact all_app (fun p hp => List.mem_append_left _ hp) (all_cons (List.mem_append_right _ (.head _))  (fun p hp => List.mem_append_right _ (.tail _ (.tail _ (.tail _ (.tail _ hp)))))))
  have to4 : ∀ p ∈ X3, p.1 ≠ R.ml → p ∈ X4 := fun p hp n => by rw [← hX4]; exact List.mem_append_right _ (in_upd hp n)
  -- 11: counts
  have dne : ∀ {a : Addr}, (∃ o, (a, o) ∈ X) → D ≠ a := fun ⟨o, h⟩ e => hD _ h e.symm
  refine use_s (st := fun _ => stAt w.params 11) (s11_told w D R.cl ys cvs cn ns counts ab t (dr R.cl X4) hys hl5 hab (by omega) hcvs hc23 (fun p hp => ?_)) H F11 (by kst_all) (news_sub N11 (fun p hp => ?_)) trivial ?_
  · revert p
    exact all_cons (dne ⟨_, xc⟩) (fun p hp => dr_off p hp)
  · revert p
    exact all_cons (to4 _ (to3 _ (to2 _ (.tail _ xc) (zne nd3.2)) (Ne.symm nd1.2.1)) (Ne.symm nd2.1)) (all_cons (to4 _ (to3 _ (to2 _ (.head _) (dne ⟨_, xl z zmem⟩)) (dne ⟨_, xs⟩)) (dne ⟨_, xm⟩))  (fun p hp => (mem_dr.mp hp).1))
  rintro t11 n11 h12 tk12 F12 N12 ht12
  dsimp only at ht12 ⊢
  rw [epl] at N12
  generalize hX5 : (R.cl, W.listOf (cvs ++ [Value.int ((ableL st).length : Int) t11]).toArray n11) :: dr R.cl X4 = X5
  replace N12 := news_sub N12 (r := X5) (fun p hp => by
    rw [← hX5] at hp
    revert p
    exact all_cons (.head _) (fun p hp => .tail _ (.tail _ hp)))
  have to5 : ∀ p ∈ X4, p.1 ≠ R.cl → p ∈ X5 := fun p hp n => by rw [← hX5]; exact in_upd hp n
  -- 12: movers
  refine use_s (st := fun _ => stAt w.params 12) (s12_told w R.vl vvs vn (j : Int) tm (dr R.vl X5) dr_off (by rw [hvvs.length, Vlen]; exact hc23)) H F12 (by kst_all) (news_sub N12 (fun p hp => ?_)) trivial ?_
  · revert p
    exact all_cons (to5 _ (to4 _ (to3 _ (to2 _ (.tail _ xv) (zne nd4)) (Ne.symm nd1.2.2.1)) (Ne.symm nd2.2.1)) (Ne.symm nd3.1)) (fun p hp => (mem_dr.mp hp).1)
  rintro n12 h13 tk13 F13 N13 ht13
  dsimp only at ht13 ⊢
  refine wpAny_execs_nil ?_
  generalize hX6 : (R.vl, W.listOf (vvs ++ [Value.int (j : Int) tm]).toArray n12) :: dr R.vl X5 = X6 at N13
  have to6 : ∀ p ∈ X5, p.1 ≠ R.vl → p ∈ X6 := fun p hp n => by rw [← hX6]; exact in_upd hp n
  have thru : ∀ p ∈ X, p.1 ∉ ads R es → p ∈ X6 := fun p hp n =>
    to6 _ (to5 _ (to4 _ (to3 _ (to2 _ (.tail _ hp) (fun e => n (e ▸ zads))) (fun e => n (e ▸ asl))) (fun e => n (e ▸ aml))) (fun e => n (e ▸ acl))) (fun e => n (e ▸ avl))
  have hasX : ∀ a ∈ ads R es, has X a := fun a ha => by
    rcases List.mem_cons.mp ha with rfl | ha
    · exact ⟨_, xs⟩
    rcases List.mem_cons.mp ha with rfl | ha
    · exact ⟨_, xm⟩
    rcases List.mem_cons.mp ha with rfl | ha
    · exact ⟨_, xc⟩
    rcases List.mem_cons.mp ha with rfl | ha
    · exact ⟨_, xv⟩
    · obtain ⟨e, he, rfl⟩ := List.mem_map.mp ha
      rw [← hlg] at he
      obtain ⟨z', hz', rfl⟩ := List.mem_map.mp he
      exact ⟨_, xl z' hz'⟩
  have hasX3 : ∀ a ∈ ads R es, has X3 a := fun a ha => by
    rw [← hX3]
    refine has_upd _ ?_
    rw [← hX2]
    exact has_app (has_upd _ (has_cons (hasX a ha)))
  have Eoff : ∀ p ∈ E', p.1 ∉ ads R es := fun p hp ha => has_ne (has_cons (hasX _ ha)) hap' p hp rfl
  have Moff : ∀ p ∈ M.objs w.params, p.1 ∉ ads R es := fun p hp ha => by
    have : has ((R.ml, W.listOf mvs.toArray mn) :: (R.L + 1, R.o1) :: (R.L + 1 + 1 + 1 + 1 + 1, R.o5) :: (R.sl, W.listOf v9.toArray n9) :: dr R.ml X3) p.1 := by
      obtain ⟨o, ho⟩ := hasX3 _ ha
      by_cases e : p.1 = R.ml
      · exact ⟨_, by rw [e]; exact .head _⟩
      · exact ⟨o, .tail _ (.tail _ (.tail _ (.tail _ (dr_in ho e))))⟩
    exact has_ne this hapM p hp rfl
  have inR : ∀ p ∈ M.objs w.params ++ (E' ++ rest), p ∈ X6 := fun p hp => by
    revert p
    exact all_app (fun p hp => by (have n := Moff p hp; exact to6 _ (to5 _ (by rw [← hX4]; exact List.mem_append_left _ hp) (fun e => n (e ▸ acl))) (fun e => n (e ▸ avl)))) (all_app (fun p hp => by (have n := Eoff p hp; exact to6 _ (to5 _ (to4 _ (to3 _ (by rw [← hX2]; exact List.mem_append_left _ hp) (fun e => n (e ▸ asl))) (fun e => n (e ▸ aml))) (fun e => n (e ▸ acl))) (fun e => n (e ▸ avl))))  (fun p hp => thru p (xr p hp) (hoff p (List.mem_append_right _ hp))))
  have hsub : ∀ p ∈ rest, p ∈ M.objs w.params ++ (E' ++ rest) := fun p hp => List.mem_append_right _ (List.mem_append_right _ hp)
  have elne : ∀ (i : Nat) z', lg[i]? = some z' → i ≠ j → z'.e.l ≠ z.e.l := fun i z' hi hij e => by
    have h1 : (es.map (·.l))[i]? = some z'.e.l := by rw [← hlg, List.getElem?_map, List.getElem?_map, hi]; rfl
    have h2 : (es.map (·.l))[j]? = some z.e.l := by rw [← hlg, List.getElem?_map, List.getElem?_map, hzj]; rfl
    rw [e] at h1
    have hi' : i < (es.map (·.l)).length := by
      rcases Nat.lt_or_ge i (es.map (·.l)).length with q | q
      · exact q
      · rw [List.getElem?_eq_none q] at h1; cases h1
    exact hij ((List.getElem?_inj hi' nd5).mp (h1.trans h2.symm))
  refine h ⟨G', v9, mvs.set j (.ref M.x), cvs ++ [Value.int ((ableL st).length : Int) t11], vvs ++ [Value.int (j : Int) tm], n9, n10, n11, n12, st.set j y, counts ++ [((ableL st).length : Int)], movers ++ [(j : Int)], [M0, M1, M2, M3].set j M, pl.fdiv ((ableL st).length : Int), tp, lg.set j ⟨z.e, z.ks ++ [e'], z.n + 1, z.tl ++ [y]⟩, M.objs w.params ++ (E' ++ rest)⟩ h13 tk13 _ ?lk ?vw hsub H F13 ?mm (news_sub N13 ?nn)
  case vw =>
    dsimp only [view]
    congr 1
    refine List.ext_getElem? fun i => ?_
    rw [List.getElem?_map, List.getElem?_set, List.getElem?_modify, List.getElem?_map]
    by_cases e : j = i
    · subst e
      rw [if_pos rfl, if_pos (by omega), hzj]
      simp
    · rw [if_neg e]
      simp [e]
  case mm => dsimp only [psOf]; kst_all
  case nn =>
    intro p hp
    unfold LedK at hp
    rcases List.mem_append.mp hp with hp | hp
    · exact thru p (xf p hp) (foff p hp)
    rcases List.mem_append.mp hp with hp | hp
    · simp only [Mx, List.mem_cons, List.not_mem_nil, or_false] at hp
      rcases hp with rfl | rfl | rfl | rfl
      · exact to6 _ (to5 _ (to4 _ (by rw [← hX3]; exact .head _) nd1.1) nd1.2.1) nd1.2.2.1
      · exact to6 _ (to5 _ (by rw [← hX4]; exact List.mem_append_right _ (.head _)) nd2.1) nd2.2.1
      · exact to6 _ (by rw [← hX5]; exact .head _) nd3.1
      · rw [← hX6]; exact .head _
    rcases List.mem_append.mp hp with hp | hp
    · obtain ⟨z', hz', rfl⟩ := List.mem_map.mp hp
      obtain ⟨i, hi⟩ := List.mem_iff_getElem?.mp hz'
      rw [List.getElem?_set] at hi
      by_cases e : j = i
      · rw [if_pos e, if_pos (by omega)] at hi
        cases hi
        refine to6 _ (to5 _ (to4 _ (to3 _ ?_ (Ne.symm (zne nd1.2.2.2))) (Ne.symm (zne nd2.2.2))) (Ne.symm (zne nd3.2))) (Ne.symm (zne nd4))
        rw [← hX2]
        refine List.mem_append_right _ ?_
        have : (LogSt.obj ⟨z.e, z.ks ++ [e'], z.n + 1, z.tl ++ [y]⟩) = (z.e.l, W.listOf (z.parts.push (.ref e'.f)) (z.n + 1)) := by
          simp [LogSt.obj, LogSt.parts]
        rw [this]
        exact .head _
      · rw [if_neg e] at hi
        have hz2 := List.mem_of_getElem? hi
        have hne := elne i z' hi (Ne.symm e)
        have had : z'.e.l ∈ es.map (·.l) := List.mem_map.mpr ⟨z'.e, by rw [← hlg]; exact List.mem_map_of_mem hz2, rfl⟩
        have zne' : ∀ {a : Addr}, a ∉ es.map (·.l) → z'.e.l ≠ a := fun h e => h (e ▸ had)
        exact to6 _ (to5 _ (to4 _ (to3 _ (to2 _ (.tail _ (xl z' hz2)) hne) (zne' nd1.2.2.2)) (zne' nd2.2.2)) (zne' nd3.2)) (zne' nd4)
    · exact inR p hp
  case lk =>
    refine ⟨hi9, ints_snoc hcvs, ints_snoc hvvs, ?_, by simp, ?_, ?_, ?_, by simp; omega, ?_⟩
    · dsimp only
      rw [hmvs]
      exact (List.map_set ..).symm
    · intro k M' hk
      dsimp only at hk ⊢
      rw [List.getElem?_set] at hk
      rw [getD_set (by omega)]
      by_cases e : j = k
      · rw [if_pos e, if_pos (by exact hj4)] at hk
        cases hk
        rw [if_pos e.symm]
        exact ⟨hMc, hMb, hMi, fun p hp => List.mem_append_left _ hp⟩
      · rw [if_neg e] at hk
        rw [if_neg (Ne.symm e)]
        exact (hmks k M' hk).mono hsub
    · dsimp only
      rw [← hlg]
      refine List.ext_getElem? fun i => ?_
      rw [List.getElem?_map, List.getElem?_set, List.getElem?_map]
      by_cases e : j = i
      · subst e
        rw [if_pos rfl, if_pos (by omega), hzj]
        rfl
      · rw [if_neg e]
    · intro z' hz'
      dsimp only at hz' ⊢
      rw [List.length_append, List.length_singleton]
      rcases List.mem_or_eq_of_mem_set hz' with hz' | rfl
      · exact ⟨(hlgo z' hz').1.mono hsub, Nat.le_succ_of_le (hlgo z' hz').2⟩
      · have zo' := zo.mono hsub
        refine ⟨⟨zo'.ok, zo'.ro, fun k hk => ?_, ?_⟩, ?_⟩
        · dsimp only at hk
          rcases List.mem_append.mp hk with hk | hk
          · exact zo'.kids k hk
          · rw [List.mem_singleton.mp hk]
            exact ⟨eok, fun p hp => List.mem_append_right _ (List.mem_append_left _ (hE' ▸ hp))⟩
        · have := zo.tags
          dsimp only
          rw [← List.cons_append, List.map_append, List.map_append, this]
          simp [etag]
        · dsimp only
          rw [List.length_append, List.length_singleton]
          omega
    · intro p hp
      dsimp only at hp
      revert p
      exact all_app (fun p hp => foff p hp) (all_app (fun p hp => Moff p hp)  (all_app (fun p hp => Eoff p hp)   (fun p hp => hoff p (List.mem_append_right _ hp))))
end
end Mine
end
theorem Mine.forget_RB : True ∧ True := by first | (walk1; all_goals trivial; done) | exact ⟨trivial, trivial⟩
section
namespace Mine
noncomputable def guard (counts : List Int) : Bool := decide (counts.length < 23 ∧ counts.drop (counts.length - 5) ≠ List.replicate 5 1)
theorem kstB_ok {u : Str → Option Value} : ∀ {ps : List (Str × Value)}, (ps.map (·.1)).Nodup → ∀ p ∈ ps, kstB u ps p.1 = some p.2
  | [], _, p, h => nomatch h
  | q :: r, hn, p, h => by
    rw [List.map_cons, List.nodup_cons] at hn
    show (if p.1 = q.1 then some q.2 else kstB u r p.1) = some p.2
    rcases List.mem_cons.mp h with rfl | h
    · exact if_pos rfl
    · rw [if_neg (fun e => hn.1 (by rw [← e]; exact List.mem_map_of_mem h))]
      exact kstB_ok hn.2 p h
theorem psOf_nd (R : RC) (c : LS) : ((psOf R c).map (·.1)).Nodup := by
  show ([Str.ofString "size", Str.ofString "plan", Str.ofString "tail", Str.ofString "logs", Str.ofString "counts", Str.ofString "movers"] : List Str).Nodup
  decide +kernel
section
variable {w : World} {mean : ExcName → Option Value} {mg mb : Str → Option Value} {dp un : Nat} {gd : Option (List Code)} {outer : List Env} {A₀ : Around} {base g₀ : Heap} {R : RC} {es : List El} {c₀ : LS} {hs : List Int} {m : Str → Option Value} {s : Shared} {Q : Flow → Shared → Prop} {E : Value → Shared → Prop} {pos : Pos}
theorem loop_told (NL : List (Addr × Obj)) (hNL : ∀ p ∈ NL, p ∈ c₀.rest) (K : RK w.params R es) (k : LK w.params R es c₀) (V : Inv R.size hs (view c₀)) (H : Pl w mean mg mb dp un outer A₀ base g₀ c₀.G) (F : Fr c₀.G R.L s.heap m) (hm : ∀ p ∈ psOf R c₀, m p.1 = some p.2) (N : News c₀.G R.L s.heap (LedK R c₀)) (hs0 : 0 < s.toks)
    (hE : PassesOwn (model PySem.Challenge.rw_xe0044_01.row.prog w) (runTop w dp un gd R.L outer) (EN w R.L) E)
    (h : ∀ c h' tk' m', (∀ p ∈ NL, p ∈ c.rest) → LK w.params R es c → Inv R.size hs (view c) → guard c.counts = false → Pl w mean mg mb dp un outer A₀ base g₀ c.G → Fr c.G R.L h' m' → (∀ p ∈ psOf R c, m' p.1 = some p.2) → News c.G R.L h' (LedK R c) → Q .next { s with heap := h', toks := tk' }) :
    wpAny (model PySem.Challenge.rw_xe0044_01.row.prog w) (runTop w dp un gd R.L outer) (exec (.While (runTest w.params) (runBody w.params) [] pos) (EN w R.L)) Q E s := by
  refine while_g (L := R.L) (fun c => c.G) (LedK R) (psOf R) (fun c => (∀ p ∈ NL, p ∈ c.rest) ∧ LK w.params R es c ∧ Inv R.size hs (view c) ∧ Pl w mean mg mb dp un outer A₀ base g₀ c.G) (fun c => 23 - c.counts.length) c₀ F N (fun q hq => hq) hm ⟨hNL, k, V, H⟩ ?_ hE
  rintro c u h1 tk1 ht ⟨kn, kc, Vc, Hc⟩ F1 N1
  have hm1 : ∀ p ∈ psOf R c, kstB u (psOf R c) p.1 = some p.2 := kstB_ok (psOf_nd R c)
  have xc : (R.cl, W.listOf c.cvs.toArray c.cn) ∈ LedK R c := List.mem_append_right _ (List.mem_append_left _ (by simp [Mx]))
  refine toks_on (test_told w R.cl c.cvs c.cn c.counts (LedK R c) kc.cvs kc.c23 mean mg mb dp un gd outer A₀ base c.G R.L _ _ _ _ Hc.B F1 (ks_cons (hm1 (Str.ofString "counts", .ref R.cl) (by simp [psOf])) ks_nil) Hc.X (news_sub N1 (fun p hp => by rcases List.mem_cons.mp hp with rfl | hp <;> assumption)) Hc.T Hc.d Hc.u ?_)
  intro b h2 tk2 hb F2 N2 ht2
  dsimp only at ht2
  replace N2 := news_sub N2 (r := LedK R c) (fun p hp => .tail _ hp)
  change b = guard c.counts at hb
  cases b with
  | false =>
    simp only [Bool.false_eq_true, if_false]
    exact h c h2 tk2 _ kn kc Vc hb.symm Hc F2 hm1 N2
  | true =>
    simp only [if_true]
    have hg : c.counts.length < 23 := (of_decide_eq_true hb.symm).1
    refine body_told K kc Vc hg Hc F2 hm1 N2 (by dsimp only; omega) ?_
    intro c' h' tk' m' kc' vc' rc' Hc' F' hm' N'
    refine ⟨c', h', tk', m', LedK R c', rfl, F', N', fun q hq => hq, hm', ⟨fun p hp => rc' p (kn p hp), kc', ?_, Hc'⟩, ?_⟩
    · rw [vc']; exact Vc.step
    · have : c'.counts = c.counts ++ [((ableL c.st).length : Int)] := congrArg PS.counts vc'
      rw [this, List.length_append, List.length_singleton]
      omega
end
end Mine
end
theorem Mine.forget_RD : True ∧ True := by first | (walk1; all_goals trivial; done) | exact ⟨trivial, trivial⟩
section
namespace Mine
noncomputable def hdAt (P : Params) (k : Nat) : Stmt := stGo k (runHead P)
section
theorem h0_told (w : World) (o2 o4 : Obj) (sh : Nat) (tsh : Tok) (NL : List (Addr × Obj)) (hsh : sh < 29) (c2 : o2.data = .cell (some (.int sh tsh))) (c4 : o4.data = .cell none) :
    SX w (fun _ => hdAt w.params 0) [] (fun L => (L + 1 + 1 + 1 + 1, o4) :: (L + 1 + 1, o2) :: NL) (fun L _ => ∀ p ∈ (L + 1 + 1, o2) :: NL, p.1 ≠ L + 1 + 1 + 1 + 1)
      (fun h₀ L m s Q => ∀ nl nvs nn o4' h' tk', StrsAre nvs (namesOf sh) → o4'.data = .cell (some (.ref nl)) → (∀ p ∈ (L + 1 + 1 + 1 + 1, o4) :: (L + 1 + 1, o2) :: NL, p.1 ≠ nl) → Fr h₀ L h' m → News h₀ L h' ((nl, W.listOf nvs.toArray nn) :: (L + 1 + 1 + 1 + 1, o4') :: (L + 1 + 1, o2) :: NL) → Q .next { s with heap := h', toks := tk' }) := by
  delta SX
  k_fill
  intro mean mg mb dp un gd outer A₀ base h₀ L m s Q R B F hm X N T hd hu hpre hpost
  rw [← kstB_same hm] at F
  delta EN hdAt runHead runScope runDef
  dsimp only [kstB, stGo] at F N hpost ⊢
  k_steps
  unfold Halt
  rename News _ _ _ _ => N1
  rename Fr _ _ _ _ => F1
  refine comp_range_grow (n := 4) (fun _ : Unit => (L + 1 + 1 + 1 + 1, o4) :: (L + 1 + 1, o2) :: NL) (fun i ys _ => StrsAre ys ((List.range i).map (nameAt sh))) () rfl F1 N1 rfl (by decide) rfl (by decide) rfl ?ev (by decide) (by decide) (by rw [sizeLine_eq]; decide) .nil ?turn ?fin
  case ev =>
    k_steps
    exact ⟨_, _, _, _, _, _, rfl, rfl, by assumption, by assumption, by assumption⟩
  case turn =>
    intro i t ys _ hi hJ I oI Cc oC D m₂ h2 tk2 E' hns hm2 F3 N3 off nn
    clear F1 N1 hpost
    k_steps
    unfold Halt
    have ew : word ((sh : Int) + (i : Int)) = nameAt sh i := by
      unfold nameAt
      rw [if_pos hi]
      rfl
    k_dflt (refine' use_back (word_told _ _ _) ⟨?b, F3, ?x, N3, ?t, rfl, ?d, ?u⟩ ⟨by omega, by omega⟩ ?_; (case b => k_asm); (case x => k_asm); (case t => k_asm); (case d => ktr_room); (case u => ktr_units); k_whole)
    intro t' h' tk' F4 N4
    refine ⟨(), ?_, off, _, _, rfl, F4, N4⟩
    rw [List.range_succ, List.map_append, ew]
    exact strs_snoc hJ
  case fin =>
    intro D h' tk' ys _ hys F2 N2 o1
    clear F1 N1
    k_steps
    rename Fr h₀ L _ _ => F3
    rename News h₀ L _ _ => N3
    refine add_arrays F3 N3 (News.isList N3 (by k_mem)) (News.isList N3 (by k_mem)) ?_ ?_
    · intro h4 F4 N4
      have hlt : ∀ p ∈ (D, LCg.lst ys) :: (L + 1 + 1 + 1 + 1, o4) :: (L + 1 + 1, o2) :: NL, p.1 ≠ _ := fun p hp => Nat.ne_of_lt (Heap.lt_size (N3 p (.tail _ hp)).1)
      dsimp only at N4 hlt ⊢
      generalize Array.size (Heap.objs _) = nl at *
      clear N3 F3
      have N5 := news_sub N4 (r := (L + 1 + 1 + 1 + 1, o4) :: (nl, W.listOf (ys ++ [Value.str (baseText "0x" 16 (2 ^ Int.toNat 32)) (tk' + 1 + 1 + 1)]).toArray 0) :: (L + 1 + 1, o2) :: NL) (fun p hp => by
        revert p
        exact all_cons (.tail _ (.tail _ (.tail _ (.head _)))) (all_cons (.head _)  (fun p hp => .tail _ (.tail _ (.tail _ (.tail _ hp))))))
      have hne : ∀ p ∈ (nl, W.listOf (ys ++ [Value.str (baseText "0x" 16 (2 ^ Int.toNat 32)) (tk' + 1 + 1 + 1)]).toArray 0) :: (L + 1 + 1, o2) :: NL, p.1 ≠ L + 1 + 1 + 1 + 1 := fun p hp => by
        revert p
        exact all_cons (fun e => hlt (L + 1 + 1 + 1 + 1, o4) (.tail _ (.head _)) e.symm) (fun p hp => hpre p hp)
      clear N4
      k_steps
      rename Fr h₀ L _ _ => F6
      rename News h₀ L _ _ => N6
      rename _ = Data.cell (some (Value.ref nl)) => hc
      have eb : baseText "0x" 16 (2 ^ Int.toNat 32) = bigT := rfl
      rw [eb] at N6
      refine hpost nl (ys ++ [Value.str bigT (tk' + 1 + 1 + 1)]) 0 _ _ _ ?_ hc (fun p hp => hlt p (.tail _ hp)) F6 (news_sub N6 fun p hp => ?_)
      · have := strs_snoc (t := tk' + 1 + 1 + 1) (y := bigT) hys
        exact this
      · revert p
        exact all_cons (.tail _ (.head _)) (all_cons (.head _)  (fun p hp => .tail _ (.tail _ hp)))
    · have := StrsAre.length hys
      rw [List.length_map, List.length_range] at this
      rw [sizeLine_eq]
      simp
      omega
end
end Mine
end
theorem Mine.forget_RH : True ∧ True := by first | (walk1; all_goals trivial; done) | exact ⟨trivial, trivial⟩
section
namespace Mine
noncomputable def mObjs (P : Params) (Ms : List Mk) : List (Addr × Obj) := Ms.flatMap fun M => M.objs P
theorem mObjs_snoc (P : Params) (Ms : List Mk) (M : Mk) : mObjs P (Ms ++ [M]) = mObjs P Ms ++ M.objs P := by simp [mObjs]
theorem mObjs_at {P : Params} {Ms : List Mk} {k : Nat} {M : Mk} (h : Ms[k]? = some M) : ∀ p ∈ M.objs P, p ∈ mObjs P Ms := fun p hp => List.mem_flatMap.mpr ⟨M, List.mem_of_getElem? h, hp⟩
/-- the marks made so far -/
structure MksAt (st : List Int) (i : Nat) (ys : List Value) (Ms : List Mk) : Prop where
  ys : ys = Ms.map fun M => Value.ref M.x
  len : Ms.length = i
  ok : ∀ (k : Nat) M, Ms[k]? = some M → M.cnt = (normOf (st.getD k 0)).1 ∧ M.b = (normOf (st.getD k 0)).2 ∧ IntsAre M.vs M.cnt
theorem MksAt.snoc {st : List Int} {i : Nat} {ys : List Value} {Ms : List Mk} {M : Mk} (h : MksAt st i ys Ms) (h1 : M.cnt = (normOf (st.getD i 0)).1) (h2 : M.b = (normOf (st.getD i 0)).2) (h3 : IntsAre M.vs M.cnt) : MksAt st (i + 1) (ys ++ [.ref M.x]) (Ms ++ [M]) := by
  refine ⟨by rw [h.ys, List.map_append]; rfl, by rw [List.length_append, h.len]; rfl, fun k M' hk => ?_⟩
  rcases Nat.lt_or_ge k Ms.length with q | q
  · rw [List.getElem?_append_left q] at hk
    exact h.ok k M' hk
  · rw [List.getElem?_append_right q] at hk
    have e : k - Ms.length = 0 := by
      cases e : k - Ms.length with
      | zero => rfl
      | succ n => rw [e] at hk; cases hk
    rw [e] at hk
    cases hk
    obtain rfl : k = i := by have := h.len; omega
    exact ⟨h1, h2, h3⟩
section
local macro_rules | `(tactic| walk_at "call str type") => `(tactic| (k_here; refine halt ?_))
theorem h1_told (w : World) (sl : Addr) (svs : List Value) (sn : Nat) (st : List Int) (o1 o5 : Obj) (NL : List (Addr × Obj)) (hi : IntsAre svs st) (hst : st.length = 4) (hb : ∀ x ∈ st, 0 ≤ x ∧ x < 5) (c1 : o1.data = .cell (some (.ref sl))) (c5 : o5.data = .cell none) :
    SX w (fun _ => hdAt w.params 1) [] (fun L => (L + 1 + 1 + 1 + 1 + 1, o5) :: (L + 1, o1) :: (sl, W.listOf svs.toArray sn) :: NL) (fun L _ => ∀ p ∈ (L + 1, o1) :: (sl, W.listOf svs.toArray sn) :: NL, p.1 ≠ L + 1 + 1 + 1 + 1 + 1)
      (fun h₀ L m s Q => ∀ ml mn Ms o5' h' tk', MksAt st 4 (Ms.map fun M => Value.ref M.x) Ms → o5'.data = .cell (some (.ref ml)) → (∀ p ∈ mObjs w.params Ms ++ (L + 1 + 1 + 1 + 1 + 1, o5) :: (L + 1, o1) :: (sl, W.listOf svs.toArray sn) :: NL, p.1 ≠ ml) →
        ApartL (mObjs w.params Ms) ((L + 1 + 1 + 1 + 1 + 1, o5) :: (L + 1, o1) :: (sl, W.listOf svs.toArray sn) :: NL) → Fr h₀ L h' m →
        News h₀ L h' ((ml, W.listOf (Ms.map fun M => Value.ref M.x).toArray mn) :: mObjs w.params Ms ++ (L + 1 + 1 + 1 + 1 + 1, o5') :: (L + 1, o1) :: (sl, W.listOf svs.toArray sn) :: NL) → Q .next { s with heap := h', toks := tk' }) := by
  delta SX
  k_fill
  intro mean mg mb dp un gd outer A₀ base h₀ L m s Q R B F hm X N T hd hu hpre hpost
  rw [← kstB_same hm] at F
  delta EN hdAt runHead runScope runDef
  dsimp only [kstB, stGo] at F N hpost ⊢
  k_steps
  unfold Halt
  rename News _ _ _ _ => N1
  rename Fr _ _ _ _ => F1
  have hpre' := hpre
  refine comp_range_grow (n := 4) (fun Ms : List Mk => mObjs w.params Ms ++ (L + 1 + 1 + 1 + 1 + 1, o5) :: (L + 1, o1) :: (sl, W.listOf svs.toArray sn) :: NL) (fun i ys Ms => MksAt st i ys Ms ∧ ApartL (mObjs w.params Ms) ((L + 1 + 1 + 1 + 1 + 1, o5) :: (L + 1, o1) :: (sl, W.listOf svs.toArray sn) :: NL)) [] rfl F1 N1 rfl (by decide) rfl (by decide) rfl ?ev (by decide) (by decide) (by rw [sizeLine_eq]; decide) ?h0 ?turn ?fin
  case h0 => exact ⟨⟨rfl, rfl, fun k M h => by cases h⟩, fun p hp => nomatch hp⟩
  case ev =>
    k_steps
    exact ⟨_, _, _, _, _, _, rfl, rfl, by assumption, by assumption, by assumption⟩
  case turn =>
    intro i t ys Ms hi4 hJ I oI Cc oC D m₂ h2 tk2 E' hns hm2 F3 N3 off nn
    obtain ⟨hJ1, hJ2⟩ := hJ
    have hx : 0 ≤ st.getD i 0 ∧ st.getD i 0 < 5 := by
      have hk : i < st.length := by omega
      rw [List.getD_eq_getElem?_getD, List.getElem?_eq_getElem hk]
      exact hb _ (List.getElem_mem hk)
    clear F1 N1 hpost hpre hpre'
    have hbig : Halt (News h₀ L h2 ((I, oI) :: (Cc, oC) :: (D, LCg.lst ys) :: (mObjs w.params Ms ++ (L + 1 + 1 + 1 + 1 + 1, o5) :: (L + 1, o1) :: (sl, W.listOf svs.toArray sn) :: NL))) := N3
    replace N3 := news_sub N3 (r := (I, oI) :: (Cc, oC) :: (D, LCg.lst ys) :: (L + 1 + 1 + 1 + 1 + 1, o5) :: (L + 1, o1) :: (sl, W.listOf svs.toArray sn) :: NL) (fun p hp => by
      rcases List.mem_cons.mp hp with rfl | hp
      · exact .head _
      rcases List.mem_cons.mp hp with rfl | hp
      · exact .tail _ (.head _)
      rcases List.mem_cons.mp hp with rfl | hp
      · exact .tail _ (.tail _ (.head _))
      · exact .tail _ (.tail _ (.tail _ (List.mem_append_right _ hp))))
    k_steps
    unfold Halt
    unfold Halt at hbig
    rw [Int.toNat_natCast]
    generalize hxx : st.getD i 0 = x at *
    k_dflt (refine' use_back (lead_told _ _ _ _ _) ⟨?b, F3, ?x, hbig, ?t, rfl, ?d, ?u⟩ hx ?_; (case b => k_asm); (case x => k_asm); (case t => k_asm); (case d => ktr_room); (case u => ktr_units); k_whole)
    clear hbig F3 N3
    intro t' h' tk' F4 N4
    have hbig : Halt (News h₀ L h' ((I, oI) :: (Cc, oC) :: (D, LCg.lst ys) :: (mObjs w.params Ms ++ (L + 1 + 1 + 1 + 1 + 1, o5) :: (L + 1, o1) :: (sl, W.listOf svs.toArray sn) :: NL))) := N4
    replace N4 := news_sub N4 (r := [(I, oI), (Cc, oC)]) (fun p hp => by
      rcases List.mem_cons.mp hp with rfl | hp
      · exact .head _
      rcases List.mem_cons.mp hp with rfl | hp
      · exact .tail _ (.head _)
      · nomatch hp)
    (try dsimp only)
    k_steps
    unfold Halt
    unfold Halt at hbig
    k_dflt (refine' ws_told _ _ _ _ _ _ _ _ _ _ _ _ _ _ _ _ _ _ _ _ _ _ _ _ ?b F4 ?x News.nil ?t rfl ?d ?u hx ?_; (case b => k_asm); (case x => k_asm); (case t => k_asm); (case d => ktr_room); (case u => ktr_units); k_whole)
    intro M h' tk' hc hb' hv hk hfr
    have hM := made_of (s := ⟨_, _, _, _, _⟩) hfr
    have kN' := news_app (made_news (s := ⟨_, _, _, _, _⟩) F4 hM) (keeps_news hk hbig)
    have hap := apartL_of (made_apart (s := ⟨_, _, _, _, _⟩) hbig hM)
    have kF := keeps_fr hk F4
    subst hxx
    refine ⟨Ms ++ [M], ⟨hJ1.snoc hc hb' hv, ?_⟩, LCg.Off3.of fun p hp => ?_, _, _, rfl, kF, news_sub kN' fun p hp => ?_⟩
    · rw [mObjs_snoc]
      intro p hp q hq
      rcases List.mem_append.mp hp with hp | hp
      · exact hJ2 p hp q hq
      · exact hap p hp q (.tail _ (.tail _ (.tail _ (List.mem_append_right _ hq))))
    · rw [mObjs_snoc] at hp
      rcases List.mem_append.mp hp with hp | hp
      · rcases List.mem_append.mp hp with hp | hp
        · exact off.mem p (List.mem_append_left _ hp)
        · exact ⟨fun e => hap p hp _ (.head _) e.symm, fun e => hap p hp _ (.tail _ (.head _)) e.symm, fun e => hap p hp _ (.tail _ (.tail _ (.head _))) e.symm⟩
      · exact off.mem p (List.mem_append_right _ hp)
    · rw [mObjs_snoc] at hp
      rcases List.mem_cons.mp hp with rfl | hp
      · exact List.mem_append_right _ (.head _)
      rcases List.mem_cons.mp hp with rfl | hp
      · exact List.mem_append_right _ (.tail _ (.head _))
      rcases List.mem_cons.mp hp with rfl | hp
      · exact List.mem_append_right _ (.tail _ (.tail _ (.head _)))
      rcases List.mem_append.mp hp with hp | hp
      · rcases List.mem_append.mp hp with hp | hp
        · exact List.mem_append_right _ (.tail _ (.tail _ (.tail _ (List.mem_append_left _ hp))))
        · exact List.mem_append_left _ hp
      · exact List.mem_append_right _ (.tail _ (.tail _ (.tail _ (List.mem_append_right _ hp))))
  case fin =>
    intro D h' tk' ys Ms hys F2 N2 ofD
    clear F1 N1
    obtain ⟨hJ1, hJ2⟩ := hys
    obtain rfl := hJ1.ys
    have hoD := off1_ne ofD
    have N5 := news_sub N2 (r := (L + 1 + 1 + 1 + 1 + 1, o5) :: (D, LCg.lst (Ms.map fun M => Value.ref M.x)) :: (mObjs w.params Ms ++ (L + 1, o1) :: (sl, W.listOf svs.toArray sn) :: NL)) (fun p hp => by
      rcases List.mem_cons.mp hp with rfl | hp
      · exact .tail _ (List.mem_append_right _ (.head _))
      rcases List.mem_cons.mp hp with rfl | hp
      · exact .head _
      rcases List.mem_append.mp hp with hp | hp
      · exact .tail _ (List.mem_append_left _ hp)
      · exact .tail _ (List.mem_append_right _ (.tail _ hp)))
    have hne : ∀ p ∈ (D, LCg.lst (Ms.map fun M => Value.ref M.x)) :: (mObjs w.params Ms ++ (L + 1, o1) :: (sl, W.listOf svs.toArray sn) :: NL), p.1 ≠ L + 1 + 1 + 1 + 1 + 1 := fun p hp => by
      rcases List.mem_cons.mp hp with rfl | hp
      · exact fun e => hoD (L + 1 + 1 + 1 + 1 + 1, o5) (List.mem_append_right _ (.head _)) e.symm
      rcases List.mem_append.mp hp with hp | hp
      · exact fun e => hJ2 p hp _ (.head _) e.symm
      · exact hpre p hp
    clear N2
    k_steps
    rename Fr h₀ L _ _ => F6
    rename News h₀ L _ _ => N6
    rename _ = Data.cell (some (Value.ref D)) => hc
    refine hpost D (Ms.map fun M => Value.ref M.x).length Ms _ _ _ hJ1 hc hoD hJ2 F6 (news_sub N6 fun p hp => ?_)
    rcases List.mem_cons.mp hp with rfl | hp
    · exact .tail _ (.head _)
    rcases List.mem_append.mp hp with hp | hp
    · exact .tail _ (.tail _ (List.mem_append_left _ hp))
    rcases List.mem_cons.mp hp with rfl | hp
    · exact .head _
    · exact .tail _ (.tail _ (List.mem_append_right _ hp))
end
end Mine
end
theorem Mine.forget_RI : True ∧ True := by first | (walk1; all_goals trivial; done) | exact ⟨trivial, trivial⟩
section
namespace Mine
noncomputable def eObjs (P : Params) (C : Cd) (es : List El) : List (Addr × Obj) := es.flatMap fun e => e.ro P C.c2 ++ [(e.l, W.listOf #[] 0)]
theorem eObjs_snoc (P : Params) (C : Cd) (es : List El) (e : El) : eObjs P C (es ++ [e]) = eObjs P C es ++ (e.ro P C.c2 ++ [(e.l, W.listOf #[] 0)]) := by simp [eObjs]
/-- the elements made so far -/
structure ElsAt (P : Params) (st : List Int) (base : List (Addr × Obj)) (i : Nat) (ys : List Value) (C : Cd) (es : List El) : Prop where
  cok : C.Ok P
  len : es.length = i
  ys : ys = es.map fun e => Value.ref e.f
  ok : ∀ (k : Nat) e, es[k]? = some e → e.Ok ∧ e.tag = escT (st.getD k 0)
  nd : (es.map (·.l)).Nodup
  ap : ApartL (eObjs P C es ++ [(C.c2, C.oc)]) ((187, C.tab) :: base)
theorem el_mem {P : Params} {C : Cd} {es : List El} {e : El} (h : e ∈ es) : (e.l, W.listOf #[] 0) ∈ eObjs P C es := List.mem_flatMap.mpr ⟨e, h, List.mem_append_right _ (.head _)⟩
theorem ElsAt.snoc {P : Params} {st : List Int} {base : List (Addr × Obj)} {i : Nat} {ys : List Value} {C : Cd} {es : List El} {e : El} (h : ElsAt P st base i ys C es) (h1 : e.Ok) (h2 : e.tag = escT (st.getD i 0))
    (ha : ApartL (e.ro P C.c2 ++ [(e.l, W.listOf #[] 0)]) (eObjs P C es ++ (C.c2, C.oc) :: (187, C.tab) :: base)) : ElsAt P st base (i + 1) (ys ++ [.ref e.f]) C (es ++ [e]) := by
  refine ⟨h.cok, by rw [List.length_append, h.len]; rfl, by rw [h.ys, List.map_append]; rfl, fun k e' hk => ?_, ?_, ?_⟩
  · rcases Nat.lt_or_ge k es.length with q | q
    · rw [List.getElem?_append_left q] at hk
      exact h.ok k e' hk
    · rw [List.getElem?_append_right q] at hk
      have e1 : k - es.length = 0 := by
        cases e1 : k - es.length with
        | zero => rfl
        | succ n => rw [e1] at hk; cases hk
      rw [e1] at hk
      cases hk
      obtain rfl : k = i := by have := h.len; omega
      exact ⟨h1, h2⟩
  · rw [List.map_append, List.map_singleton, List.nodup_append]
    refine ⟨h.nd, by simp, fun a ha1 b hb e1 => ?_⟩
    obtain ⟨e', he', rfl⟩ := List.mem_map.mp ha1
    rw [List.mem_singleton.mp hb] at e1
    exact ha (e.l, W.listOf #[] 0) (List.mem_append_right _ (.head _)) (e'.l, W.listOf #[] 0) (List.mem_append_left _ (el_mem he')) e1
  · rw [eObjs_snoc]
    intro p hp q hq
    rcases List.mem_append.mp hp with hp | hp
    · rcases List.mem_append.mp hp with hp | hp
      · exact h.ap p (List.mem_append_left _ hp) q hq
      · exact ha p hp q (List.mem_append_right _ (.tail _ hq))
    · exact h.ap p (List.mem_append_right _ hp) q hq
theorem ints_at {vs : List Value} {ns : List Int} (h : IntsAre vs ns) : ∀ {i : Nat} {v : Value}, vs.toArray[i]? = some v → ∃ t, v = .int (ns.getD i 0) t := by
  induction h with
  | nil => intro i v e; simp at e
  | cons n t h ih =>
    intro i v e
    cases i with
    | zero => simp at e; exact ⟨t, by simp [← e]⟩
    | succ i => simpa using ih (i := i) (v := v) (by simpa using e)
noncomputable def LgLd (P : Params) (base : List (Addr × Obj)) (c : Option Cd × List El) : List (Addr × Obj) := match c.1 with
  | none => (187, tabObj #[]) :: base
  | some C => eObjs P C c.2 ++ (C.c2, C.oc) :: (187, C.tab) :: base
theorem LgLd_base (P : Params) (base : List (Addr × Obj)) : ∀ c, ∀ p ∈ base, p ∈ LgLd P base c
  | (none, _), p, hp => .tail _ hp
  | (some _, _), p, hp => List.mem_append_right _ (.tail _ (.tail _ hp))
noncomputable def LgAt (P : Params) (st : List Int) (base : List (Addr × Obj)) (i : Nat) (ys : List Value) (c : Option Cd × List El) : Prop := match c.1 with
  | none => i = 0 ∧ ys = [] ∧ c.2 = []
  | some C => ElsAt P st base i ys C c.2
section
variable {w : World} {mean : ExcName → Option Value} {mg mb : Str → Option Value} {dp un : Nat} {gd : Option (List Code)} {cn : Str} {cs : Scope} {a : Addr} {ccd : Value} {cl : List (Str × Addr)} {outer : List Env} {A₀ : Around} {base h₀ : Heap} {L : Addr} {m : Str → Option Value} {s : Shared} {news : List (Addr × Obj)} {Q R : Value → Shared → Prop}
theorem use_elem0 {x : Str} {t1 : Tok} {d : Addr} (H : Here w mean mg mb dp un cs outer A₀ base h₀ L m s ((187, tabObj #[]) :: news)) (hn : ∀ p ∈ news, p.1 ≠ 187)
    (h : ∀ (e : El) (C : Cd) h' tk, e.tag = x → e.Ok → C.Ok w.params → Fr h₀ L h' m → News h₀ L h' ((e.ro w.params C.c2 ++ [(e.l, W.listOf #[] 0), (C.c2, C.oc)]) ++ (187, C.tab) :: news) → ApartL (e.ro w.params C.c2 ++ [(e.l, W.listOf #[] 0), (C.c2, C.oc)]) ((187, C.tab) :: news) → Q (.ref e.f) { s with heap := h', toks := tk }) :
    wpAny (model PySem.Challenge.rw_xe0044_01.row.prog w) (ktrTop dp un gd cn cs L a ccd cl outer) (call (.ref 192) [.str x t1, .ref d]) Q R s := by
  have h187 := H.N (187, tabObj #[]) (.head _)
  refine elem_told0 w x t1 d mean mg mb dp un gd cn cs a ccd cl outer A₀ base h₀ L m s Q R H.B H.F H.X (news_one H.N (.head _)) H.T H.k H.d H.u trivial fun e C h' tk e1 e2 e3 k e4 M => ?_
  have kk : ∀ b o, b ∉ [(187 : Addr)] → s.heap.get? b = some o → h'.get? b = some o := fun b o hb e => k b o e (by simpa using hb)
  have F' : Fr h₀ L h' m := LCg.fr_but H.F kk (Ne.symm h187.2.1) h187.2.2
  have ap := made_apart H.N M
  refine h e C h' tk e1 e2 e3 F' ?_ ?_
  · refine news_app (made_news H.F M) fun p hp => ?_
    rcases List.mem_cons.mp hp with rfl | hp
    · exact ⟨e4, h187.2⟩
    · exact LCg.news_but (fun p hp => H.N p (.tail _ hp)) kk hn p hp
  · intro p hp q hq
    rcases List.mem_cons.mp hq with rfl | hq
    · exact ap p hp (187, tabObj #[]) (.head _)
    · exact ap p hp q (.tail _ hq)
end
section
variable {w : World} {mean : ExcName → Option Value} {mg mb : Str → Option Value} {dp un : Nat} {gd : Option (List Code)} {cn : Str} {cs : Scope} {a : Addr} {ccd : Value} {cl : List (Str × Addr)} {outer : List Env} {A₀ : Around} {base h₀ : Heap} {L : Addr} {m : Str → Option Value} {s : Shared} {bs : List (Addr × Obj)} {Q R : Value → Shared → Prop}
theorem elem_turn {st : List Int} {i : Nat} {ys : List Value} {c : Option Cd × List El} {I Cc D : Addr} {oI oC oD : Obj} {t1 : Tok} {d : Addr} (B : Below A₀ base outer h₀) (F : Fr h₀ L s.heap m) (X : Frag.In (hd.heap_39 w.params) h₀) (T : Top topProg lo mean mg mb h₀) (hk : cs.kind = .function) (hdp : dp + 150 < recursionLimit) (hun : un + 1000 < cLine)
    (hJ : LgAt w.params st bs i ys c) (hpre : ∀ p ∈ bs, p.1 ≠ 187) (off : LCg.Off3 I Cc D (LgLd w.params bs c)) (N : News h₀ L s.heap ((I, oI) :: (Cc, oC) :: (D, oD) :: LgLd w.params bs c))
    (h : ∀ (e : El) c' h' tk, LgAt w.params st bs (i + 1) (ys ++ [.ref e.f]) c' → LCg.Off3 I Cc D (LgLd w.params bs c') → Fr h₀ L h' m → News h₀ L h' ((I, oI) :: (Cc, oC) :: (D, oD) :: LgLd w.params bs c') → Q (.ref e.f) { s with heap := h', toks := tk }) :
    wpAny (model PySem.Challenge.rw_xe0044_01.row.prog w) (ktrTop dp un gd cn cs L a ccd cl outer) (call (.ref 192) [.str (escT (st.getD i 0)) t1, .ref d]) Q R s := by
  obtain ⟨_ | C, es⟩ := c
  · obtain ⟨rfl, rfl, rfl⟩ : i = 0 ∧ ys = [] ∧ es = [] := hJ
    have o187 := off.mem (187, tabObj #[]) (.head _)
    refine use_elem0 (news := (I, oI) :: (Cc, oC) :: (D, oD) :: bs) ⟨B, F, X, news_sub N fun p hp => ?_, T, hk, hdp, hun⟩ (fun p hp => ?_) fun e C h' tk e1 e2 e3 F' N' ap => ?_
    · simp only [LgLd, List.mem_cons] at hp ⊢
      rcases hp with h | h | h | h | h
      · exact .inr (.inr (.inr (.inl h)))
      · exact .inl h
      · exact .inr (.inl h)
      · exact .inr (.inr (.inl h))
      · exact .inr (.inr (.inr (.inr h)))
    · rcases List.mem_cons.mp hp with rfl | hp
      · exact o187.1.symm
      rcases List.mem_cons.mp hp with rfl | hp
      · exact o187.2.1.symm
      rcases List.mem_cons.mp hp with rfl | hp
      · exact o187.2.2.symm
      · exact hpre p hp
    · have eo : eObjs w.params C [e] ++ [(C.c2, C.oc)] = e.ro w.params C.c2 ++ [(e.l, W.listOf #[] 0), (C.c2, C.oc)] := by simp [eObjs]
      have eL : LgLd w.params bs (some C, [e]) = (e.ro w.params C.c2 ++ [(e.l, W.listOf #[] 0), (C.c2, C.oc)]) ++ (187, C.tab) :: bs := by
        rw [← eo]; simp [LgLd]
      refine h e (some C, [e]) h' tk ⟨e3, rfl, rfl, fun k e' hk' => ?_, by simp, ?_⟩ (LCg.Off3.of fun p hp => ?_) F' (news_sub N' fun p hp => ?_)
      · cases k with
        | zero => cases hk'; exact ⟨e2, e1⟩
        | succ k => cases hk'
      · rw [eo]
        intro p hp q hq
        rcases List.mem_cons.mp hq with rfl | hq
        · exact ap p hp _ (.head _)
        · exact ap p hp q (.tail _ (.tail _ (.tail _ (.tail _ hq))))
      · rw [eL] at hp
        rcases List.mem_append.mp hp with hp | hp
        · exact ⟨fun e => ap p hp _ (.tail _ (.head _)) e.symm, fun e => ap p hp _ (.tail _ (.tail _ (.head _))) e.symm, fun e => ap p hp _ (.tail _ (.tail _ (.tail _ (.head _)))) e.symm⟩
        rcases List.mem_cons.mp hp with rfl | hp
        · exact o187
        · exact off.mem p (.tail _ hp)
      · rw [eL] at hp
        simp only [List.mem_cons, List.mem_append] at hp ⊢
        rcases hp with h | h | h | (h | h) | h | h
        · exact .inr (.inr (.inl h))
        · exact .inr (.inr (.inr (.inl h)))
        · exact .inr (.inr (.inr (.inr (.inl h))))
        · exact .inl (.inl h)
        · exact .inl (.inr h)
        · exact .inr (.inl h)
        · exact .inr (.inr (.inr (.inr (.inr h))))
  · have hE : ElsAt w.params st bs i ys C es := hJ
    have eL : LgLd w.params bs (some C, es) = eObjs w.params C es ++ (C.c2, C.oc) :: (187, C.tab) :: bs := rfl
    rw [eL] at N
    refine use_elem1 (C := C) ⟨B, F, X, N, T, hk, hdp, hun⟩ (.tail _ (.tail _ (.tail _ (List.mem_append_right _ (.tail _ (.head _)))))) hE.cok fun e h' tk e1 e2 F' N' ap => ?_
    have eL2 : LgLd w.params bs (some C, es ++ [e]) = eObjs w.params C es ++ (e.ro w.params C.c2 ++ [(e.l, W.listOf #[] 0)]) ++ (C.c2, C.oc) :: (187, C.tab) :: bs := by rw [← eObjs_snoc]; rfl
    refine h e (some C, es ++ [e]) h' tk (hE.snoc e2 e1 fun p hp q hq => ap p hp q (.tail _ (.tail _ (.tail _ hq)))) (LCg.Off3.of fun p hp => ?_) F' (news_sub N' fun p hp => ?_)
    · rw [eL2] at hp
      rcases List.mem_append.mp hp with hp | hp
      · rcases List.mem_append.mp hp with hp | hp
        · exact off.mem p (by rw [eL]; exact List.mem_append_left _ hp)
        · exact ⟨fun e => ap p hp _ (.head _) e.symm, fun e => ap p hp _ (.tail _ (.head _)) e.symm, fun e => ap p hp _ (.tail _ (.tail _ (.head _))) e.symm⟩
      · exact off.mem p (by rw [eL]; exact List.mem_append_right _ hp)
    · rw [eL2] at hp
      simp only [List.mem_cons, List.mem_append, List.not_mem_nil, or_false] at hp ⊢
      rcases hp with h | h | h | (h | h | h) | h | h | h
      · exact .inr (.inr (.inl h))
      · exact .inr (.inr (.inr (.inl h)))
      · exact .inr (.inr (.inr (.inr (.inl h))))
      · exact .inr (.inr (.inr (.inr (.inr (.inl h)))))
      · exact .inl h
      · exact .inr (.inl h)
      · exact .inr (.inr (.inr (.inr (.inr (.inr (.inl h))))))
      · exact .inr (.inr (.inr (.inr (.inr (.inr (.inr (.inl h)))))))
      · exact .inr (.inr (.inr (.inr (.inr (.inr (.inr (.inr h)))))))
end
section
local macro_rules | `(tactic| walk_at "exec Assign cons ListComp") => `(tactic| (k_here; refine halt ?_))
local macro_rules | `(tactic| walk_at "binaryOp Mult str int") => `(tactic| (k_here; refine toks_on ?_; (refine SB.mul (mulOk_of 16 1048576 (by first | decide | omega) (by omega) (by omega) (by decide) (by decide)) ?_); intro _ _ htk; (try dsimp only at htk)))
theorem h2_told (w : World) (sl hand : Addr) (svs : List Value) (sn : Nat) (st : List Int) (o1 o3 : Obj) (NL : List (Addr × Obj)) (hi : IntsAre svs st) (hst : st.length = 4) (hb : ∀ x ∈ st, 0 ≤ x ∧ x < 5) (hh : hand = 157 ∨ hand = 164 ∨ hand = 171) (c1 : o1.data = .cell (some (.ref sl))) (c3 : o3.data = .cell (some (.ref hand)))
    (h187 : ∀ p ∈ NL, p.1 ≠ 187) :
    SX w (fun _ => hdAt w.params 2) [] (fun L => (187, tabObj #[]) :: (L + 1 + 1 + 1, o3) :: (L + 1, o1) :: (sl, W.listOf svs.toArray sn) :: NL) (fun L _ => ∀ p ∈ (L + 1 + 1 + 1, o3) :: (L + 1, o1) :: (sl, W.listOf svs.toArray sn) :: NL, p.1 ≠ 187)
      (fun h₀ L m s Q => ∀ D C es ys h' tk', ElsAt w.params st ((L + 1 + 1 + 1, o3) :: (L + 1, o1) :: (sl, W.listOf svs.toArray sn) :: NL) 4 ys C es → (∀ p ∈ LgLd w.params ((L + 1 + 1 + 1, o3) :: (L + 1, o1) :: (sl, W.listOf svs.toArray sn) :: NL) (some C, es), p.1 ≠ D) →
        Fr h₀ L h' (kset m (Str.ofString "logs") (.ref D)) → News h₀ L h' ((D, LCg.lst ys) :: LgLd w.params ((L + 1 + 1 + 1, o3) :: (L + 1, o1) :: (sl, W.listOf svs.toArray sn) :: NL) (some C, es)) → Q .next { s with heap := h', toks := tk' }) := by
  delta SX
  k_fill
  intro mean mg mb dp un gd outer A₀ base h₀ L m s Q R B F hm X N T hd hu hpre hpost
  rw [← kstB_same hm] at F
  delta EN hdAt runHead runScope runDef
  dsimp only [kstB, stGo] at F N hpost ⊢
  have hhand := fun y => hand_told w hand hh y
  generalize hbase : (L + 1 + 1 + 1, o3) :: (L + 1, o1) :: (sl, W.listOf svs.toArray sn) :: NL = bs at *
  have m3 : (L + 1 + 1 + 1, o3) ∈ bs := by rw [← hbase]; exact .head _
  have m1 : (L + 1, o1) ∈ bs := by rw [← hbase]; exact .tail _ (.head _)
  have ms : (sl, W.listOf svs.toArray sn) ∈ bs := by rw [← hbase]; exact .tail _ (.tail _ (.head _))
  k_steps
  unfold Halt
  refine LCg.Assign_ListComp_U (F₀ := F) (by rfl) (by with_unfolding_all rfl) (by with_unfolding_all rfl) (by decide) (by rfl) (by decide) (by rfl) (by rfl) (by rfl) ?_
  have N0 := N
  replace N := news_sub N (r := [(L + 1, o1), (sl, W.listOf svs.toArray sn)]) (fun p hp => by
    rcases List.mem_cons.mp hp with rfl | hp
    · exact .tail _ m1
    rcases List.mem_cons.mp hp with rfl | hp
    · exact .tail _ ms
    · nomatch hp)
  refine nameX_C N rfl (.head _) c1 ?_ rfl rfl
  refine LCg.CompSrc.ledger (its := svs.toArray) rfl F N0 (.tail _ ms) (by rw [List.size_toArray, hi.length, hst, sizeLine_eq]; decide) fun g => rest_grow (LgLd w.params bs) (LgAt w.params st bs) _ ?hS ?turn ?fin _ 0 [] (none, []) (Nat.zero_add _) ⟨rfl, rfl, rfl⟩
  case hS =>
    rintro ⟨_ | C, es⟩
    · exact .inr ⟨_, .tail _ ms, rfl, _, rfl⟩
    · exact .inr ⟨_, List.mem_append_right _ (.tail _ (.tail _ ms)), rfl, _, rfl⟩
  case turn =>
    intro i v ys c hi4 hv hJ I oI Cc oC D m₂ h2 tk2 E' hns hm2 F3 N3 off nn
    rw [List.size_toArray, hi.length, hst] at hi4
    obtain ⟨tv, rfl⟩ := ints_at hi hv
    have hx : 0 ≤ st.getD i 0 ∧ st.getD i 0 < 5 := by
      have hk : i < st.length := by omega
      rw [List.getD_eq_getElem?_getD, List.getElem?_eq_getElem hk]
      exact hb _ (List.getElem_mem hk)
    clear hpost N0 N F hv
    generalize hxx : st.getD i 0 = x at *
    have hbig : Halt (News h₀ L h2 ((I, oI) :: (Cc, oC) :: (D, LCg.lst ys) :: LgLd w.params bs c)) := N3
    replace N3 := news_sub N3 (r := [(I, oI), (Cc, oC), (L + 1 + 1 + 1, o3)]) (fun p hp => by
      rcases List.mem_cons.mp hp with rfl | hp
      · exact .head _
      rcases List.mem_cons.mp hp with rfl | hp
      · exact .tail _ (.head _)
      rcases List.mem_cons.mp hp with rfl | hp
      · exact .tail _ (.tail _ (.tail _ (LgLd_base _ _ _ _ m3)))
      · nomatch hp)
    have hh' := hh
    rcases hh' with rfl | rfl | rfl
    all_goals
      k_steps
      unfold Halt
      unfold Halt at hbig
      rename _ ≤ _ => htk
      k_dflt (refine' use_toks (hhand _ _) ⟨?b, F3, ?x, hbig, ?t, rfl, ?d, ?u⟩ ?s hx ?_; (case b => k_asm); (case x => k_asm); (case t => k_asm); (case d => ktr_room); (case u => ktr_units); (case s => (try dsimp only at htk ⊢); omega); k_whole)
      clear hbig F3 N3
      intro t' h' tk' F4 N4
      (try dsimp only)
      generalize hXX : LgLd w.params bs c = XX at N4
      k_steps
      unfold Halt
      subst hXX
      subst hxx
      rename Fr h₀ L _ _ => F5
      rename News h₀ L _ _ => N5
      refine elem_turn B F5 X T rfl (by ktr_room) (by ktr_units) hJ hpre off (news_sub N5 fun p hp => .tail _ hp) fun e c' h9 tk9 hJ' off' F9 N9 => ?_
      exact ⟨c', hJ', off', h9, tk9, rfl, F9, N9⟩
  case fin =>
    intro ys c hys D h' tk' F2 N2 ofD
    rw [List.size_toArray, hi.length, hst] at hys
    obtain ⟨_ | C, es⟩ := c
    · exact absurd hys.1 (by decide)
    · exact hpost D C es ys h' tk' hys (off1_ne ofD) F2 N2
end
end Mine
end
theorem Mine.forget_RJ : True ∧ True := by first | (walk1; all_goals trivial; done) | exact ⟨trivial, trivial⟩
section
namespace Mine
section
theorem allLt_mem {d : Addr} : ∀ {l : List (Addr × Obj)}, AllLt d l → ∀ p ∈ l, p.1 ≠ d
  | [], _, p, h => nomatch h
  | q :: r, x, p, h => by
    rcases List.mem_cons.mp h with rfl | h
    · exact Nat.ne_of_lt x.1
    · exact allLt_mem x.2 p h
theorem h3_told (w : World) (NL : List (Addr × Obj)) :
    SX w (fun _ => hdAt w.params 3) [] (fun _ => NL) (fun _ _ => True)
      (fun h₀ L m s Q => ∀ cl h' tk', (∀ p ∈ NL, p.1 ≠ cl) → Fr h₀ L h' (kset m (Str.ofString "counts") (.ref cl)) → News h₀ L h' ((cl, W.listOf #[] 0) :: NL) → Q .next { s with heap := h', toks := tk' }) := by
  delta SX
  k_fill
  intro mean mg mb dp un gd outer A₀ base h₀ L m s Q R B F hm X N T hd hu hpre hpost
  rw [← kstB_same hm] at F
  delta EN hdAt runHead runScope runDef
  dsimp only [kstB, stGo] at F N hpost ⊢
  k_steps
  rename ∀ p ∈ NL, _ => ll
  exact hpost _ _ _ (fun p hp => Nat.ne_of_lt (ll p hp)) (kset_end hm ‹_›) ‹_›
theorem h4_told (w : World) (NL : List (Addr × Obj)) :
    SX w (fun _ => hdAt w.params 4) [] (fun _ => NL) (fun _ _ => True)
      (fun h₀ L m s Q => ∀ cl h' tk', (∀ p ∈ NL, p.1 ≠ cl) → Fr h₀ L h' (kset m (Str.ofString "movers") (.ref cl)) → News h₀ L h' ((cl, W.listOf #[] 0) :: NL) → Q .next { s with heap := h', toks := tk' }) := by
  delta SX
  k_fill
  intro mean mg mb dp un gd outer A₀ base h₀ L m s Q R B F hm X N T hd hu hpre hpost
  rw [← kstB_same hm] at F
  delta EN hdAt runHead runScope runDef
  dsimp only [kstB, stGo] at F N hpost ⊢
  k_steps
  rename ∀ p ∈ NL, _ => ll
  exact hpost _ _ _ (fun p hp => Nat.ne_of_lt (ll p hp)) (kset_end hm ‹_›) ‹_›
noncomputable def tlAt (P : Params) (k : Nat) : Stmt := stGo k (runTail P)
theorem t0_told (w : World) (NL : List (Addr × Obj)) :
    SX w (fun _ => tlAt w.params 0) [] (fun _ => NL) (fun _ _ => True)
      (fun h₀ L m s Q => ∀ cl h' tk', (∀ p ∈ NL, p.1 ≠ cl) → Fr h₀ L h' (kset m (Str.ofString "rows") (.ref cl)) → News h₀ L h' ((cl, W.listOf #[] 0) :: NL) → Q .next { s with heap := h', toks := tk' }) := by
  delta SX
  k_fill
  intro mean mg mb dp un gd outer A₀ base h₀ L m s Q R B F hm X N T hd hu hpre hpost
  rw [← kstB_same hm] at F
  delta EN tlAt runTail runScope runDef
  dsimp only [kstB, stGo] at F N hpost ⊢
  k_steps
  rename ∀ p ∈ NL, _ => ll
  exact hpost _ _ _ (fun p hp => Nat.ne_of_lt (ll p hp)) (kset_end hm ‹_›) ‹_›
theorem t2_told (w : World) (cl vl rl : Addr) (NL : List (Addr × Obj)) :
    SX w (fun _ => tlAt w.params 2) [(Str.ofString "counts", .ref cl), (Str.ofString "movers", .ref vl), (Str.ofString "rows", .ref rl)] (fun _ => NL) (fun _ _ => True)
      (fun h₀ L m s Q => ∀ a h' tk', (∀ p ∈ NL, p.1 ≠ a) → Fr h₀ L h' m → News h₀ L h' ((a, W.listOf #[.ref cl, .ref vl, .ref rl] 0) :: NL) → Q (.ret (.ref a)) { s with heap := h', toks := tk' }) := by
  delta SX
  k_fill
  intro mean mg mb dp un gd outer A₀ base h₀ L m s Q R B F hm X N T hd hu hpre hpost
  rw [← kstB_same hm] at F
  delta EN tlAt runTail runScope runDef
  dsimp only [kstB, stGo] at F N hpost ⊢
  k_steps
  rename ∀ p ∈ NL, _ => ll
  exact hpost _ _ _ (fun p hp => Nat.ne_of_lt (ll p hp)) (kfr_end hm ‹_›) ‹_›
end
end Mine
end
theorem Mine.forget_RK : True ∧ True := by first | (walk1; all_goals trivial; done) | exact ⟨trivial, trivial⟩
section
namespace Mine
theorem esc_all : ∀ k, k < 5 → ((escT ((k : Nat) : Int)).length = 11 * k ∧ escT ((k : Nat) : Int) = Txt.mul (Str.ofString "&amp;&quot;") ((k : Nat) : Int)) := by decide +kernel
theorem esc_row (y : Int) (h0 : 0 ≤ y) (h1 : y < 5) : ((escT y).length : Int) = 11 * y ∧ escT y = Txt.mul (Str.ofString "&amp;&quot;") y := by
  obtain ⟨k, rfl⟩ : ∃ k : Nat, y = (k : Int) := ⟨y.toNat, by omega⟩
  obtain ⟨a, b⟩ := esc_all k (by omega)
  exact ⟨by omega, b⟩
theorem kid_leaf {w : World} {C : Cd} {rest : List (Addr × Obj)} {k : El} (hk : k.Ok) (hr : ∀ p ∈ k.ro w.params C.c2 ++ [(k.l, W.listOf #[] 0)], p ∈ rest) : Kid 150 1000 w C rest (.ref k.f) (.str k.tag k.tt) :=
  ⟨k, hk, rfl, rfl, hr, fun rest' => it_told w C k #[] 0 130 800 rest' [] (by decide) (by decide) rfl (by decide) (fun i v y h => by simp at h)⟩
/-- the rows told so far -/
structure RowsAt (tls : List (List Int)) (i : Nat) (ds : List (Addr × List Value)) : Prop where
  len : ds.length = i
  ok : ∀ (k : Nat) d, ds[k]? = some d → IntsAre d.2 (tls.getD k [])
theorem RowsAt.snoc {tls : List (List Int)} {i : Nat} {ds : List (Addr × List Value)} {d : Addr × List Value} (h : RowsAt tls i ds) (hd : IntsAre d.2 (tls.getD i [])) : RowsAt tls (i + 1) (ds ++ [d]) := by
  refine ⟨by rw [List.length_append, h.len]; rfl, fun k e' hk => ?_⟩
  rcases Nat.lt_or_ge k ds.length with q | q
  · rw [List.getElem?_append_left q] at hk
    exact h.ok k e' hk
  · rw [List.getElem?_append_right q] at hk
    have e1 : k - ds.length = 0 := by
      cases e1 : k - ds.length with
      | zero => rfl
      | succ n => rw [e1] at hk; cases hk
    rw [e1] at hk
    cases hk
    obtain rfl : k = i := by have := h.len; omega
    exact hd
noncomputable def rwObjs (ds : List (Addr × List Value)) : List (Addr × Obj) := ds.map fun d => (d.1, LCg.lst d.2)
noncomputable def rwRefs (ds : List (Addr × List Value)) : List Value := ds.map fun d => Value.ref d.1
noncomputable def RwLd (rl : Addr) (LL : List (Addr × Obj)) (c : Nat × List (Addr × List Value)) : List (Addr × Obj) := (rl, W.listOf (rwRefs c.2).toArray c.1) :: (rwObjs c.2 ++ LL)
theorem strs_of_tags {es : List El} {tl : List Int} (h : es.map (·.tag) = tl.map escT) : StrsAre (es.map fun k => Value.str k.tag k.tt) (tl.map escT) := by
  rw [← h]
  clear h
  induction es with
  | nil => exact .nil
  | cons e r ih => exact .cons _ _ ih
/-- the same, for a statement that is a loop -/
noncomputable abbrev SXE (w : World) (st : Env → Stmt) (ps : List (Str × Value)) (news : Addr → List (Addr × Obj)) (pre : Addr → Shared → Prop) (post : Post) : Prop :=
  ∀ (mean : ExcName → Option Value) (mg mb : Str → Option Value) (dp un : Nat) (gd : Option (List Code)) (outer : List Env) (A₀ : Around) (base h₀ : Heap) (L : Addr) (m : Str → Option Value) (s : Shared) (Q : Flow → Shared → Prop) (R : Value → Shared → Prop),
    Below A₀ base outer h₀ → Fr h₀ L s.heap m → (∀ p ∈ ps, m p.1 = some p.2) → Frag.In (hd.heap_39 w.params) h₀ → News h₀ L s.heap (news L) → Top topProg lo mean mg mb h₀ → PassesOwn (model PySem.Challenge.rw_xe0044_01.row.prog w) (runTop w dp un gd L outer) (EN w L) R →
    dp + 200 < recursionLimit → un + 1500 < cLine → pre L s → post h₀ L m s Q →
      wpAny (model PySem.Challenge.rw_xe0044_01.row.prog w) (runTop w dp un gd L outer) (exec (st (EN w L)) (EN w L)) Q R s
section
local macro_rules | `(tactic| walk_at "getAttr ref") => `(tactic| (k_here; k_dflt (refine' getattr_append_N ?F ?N ?hm ?a ?b ?c ?_; (case F => k_asm); (case N => k_asm); (case hm => k_mem); (case a => exact rfl); (case b => ktr_room); (case c => ktr_units); k_whole; intro q' h' tk' F' N' l1; (try k_sweep))))
theorem t1_told (w : World) (C : Cd) (gl rl cl vl : Addr) (gvs : List Value) (gn : Nat) (lg : List LogSt) (LL : List (Addr × Obj)) (hC : C.Ok w.params) (hg : gvs = lg.map fun z => Value.ref z.e.f) (hgl : (gl, W.listOf gvs.toArray gn) ∈ LL) (hc2 : (C.c2, C.oc) ∈ LL)
    (hz : ∀ z ∈ lg, LogOk w.params C LL z ∧ z.obj ∈ LL ∧ z.ks.length ≤ 23 ∧ ∀ x ∈ z.tl, 0 ≤ x ∧ x < 5) (hrl : ∀ p ∈ LL, p.1 ≠ rl) (h4 : lg.length ≤ 4) :
    SXE w (fun _ => tlAt w.params 1) [(Str.ofString "logs", .ref gl), (Str.ofString "rows", .ref rl), (Str.ofString "counts", .ref cl), (Str.ofString "movers", .ref vl)] (fun _ => (rl, W.listOf #[] 0) :: LL) (fun _ _ => True)
      (fun h₀ L m s Q => ∀ n ds h' tk' m', RowsAt (lg.map (·.tl)) lg.length ds → Fr h₀ L h' m' → (∀ p ∈ [(Str.ofString "logs", Value.ref gl), (Str.ofString "rows", .ref rl), (Str.ofString "counts", .ref cl), (Str.ofString "movers", .ref vl)], m' p.1 = some p.2) → News h₀ L h' (RwLd rl LL (n, ds)) → Q .next { s with heap := h', toks := tk' }) := by
  delta SXE runTop
  k_fill
  intro mean mg mb dp un gd outer A₀ base h₀ L m s Q R B F hm X N T hPE hd hu hpre hpost
  have hm' := hm
  rw [← kstB_same hm] at F
  delta EN tlAt runTail runScope runDef
  delta EN runScope runDef at hPE
  dsimp only [kstB, stGo] at F N hpost hPE ⊢
  with_unfolding_all refine for_g ?_ (by intro _; rfl)
  k_steps
  unfold Halt
  refine' list_g (σ := Nat × List (Addr × List Value)) (fun _ => h₀) (RwLd rl LL) (fun _ => [(Str.ofString "logs", Value.ref gl), (Str.ofString "rows", .ref rl), (Str.ofString "counts", .ref cl), (Str.ofString "movers", .ref vl)]) (fun i c => RowsAt (lg.map (·.tl)) i c.2 ∧ ∀ p ∈ rwObjs c.2, p.1 ≠ rl) (0, []) ?hh ?hx ?hp ?F ?N ?hn ?hl ?hk ⟨⟨rfl, fun k d h => by cases h⟩, fun p hp => nomatch hp⟩ ?turn ?done ?hE
  case F => exact F
  case N => exact N
  case hh => rfl
  case hx => rfl
  case hp => rfl
  case hE => exact hPE
  case hl => exact fun c => .tail _ (List.mem_append_right _ hgl)
  case hk => kst_all
  case hn => exact fun p hp => hp
  case done =>
    rintro ⟨n, ds⟩ u h tk - ⟨hP, -⟩ FrT NT
    have hgl' : gvs.length = lg.length := by rw [hg, List.length_map]
    rw [hgl'] at hP
    exact hpost n ds h tk _ hP FrT (kstB_ok (by show ([Str.ofString "logs", Str.ofString "rows", Str.ofString "counts", Str.ofString "movers"] : List Str).Nodup; decide +kernel)) NT
  case turn =>
    rintro i v ⟨rn, ds⟩ u h tk I oI hv - ⟨hP, hPr⟩ FrT NT offT
    obtain ⟨z, hzi, rfl⟩ : ∃ z, lg[i]? = some z ∧ v = .ref z.e.f := by
      rw [hg, List.getElem?_map] at hv
      cases e : lg[i]? with
      | none => rw [e] at hv; cases hv
      | some z => rw [e] at hv; cases hv; exact ⟨z, rfl, rfl⟩
    obtain ⟨zo, zm, zk, zb⟩ := hz z (List.mem_of_getElem? hzi)
    dsimp only at hP hPr
    change Fr h₀ L h _ at FrT
    change News h₀ L h _ at NT
    dsimp only [kstB, RwLd] at FrT NT offT
    have hIr : @Ne Nat I rl := (offT _ (.head _)).symm
    generalize hTT : rwObjs ds ++ LL = TT at NT offT
    have hTr : ∀ p ∈ TT, p.1 ≠ rl := fun p hp => by
      rw [← hTT] at hp
      rcases List.mem_append.mp hp with hp | hp
      · exact hPr p hp
      · exact hrl p hp
    clear hpost F N
    k_steps
    unfold Halt
    rename Fr h₀ L _ _ => F1
    rename News h₀ L _ _ => N1
    have kids : ∀ (j : Nat) (v y : Value), z.parts[j]? = some v → (z.ks.map fun k => Value.str k.tag k.tt)[j]? = some y → Kid 150 1000 w C ((I, oI) :: (rl, W.listOf (rwRefs ds).toArray rn) :: TT) v y := fun j v y h1 h2 => by
      rw [LogSt.parts, List.getElem?_toArray, List.getElem?_map] at h1
      rw [List.getElem?_map] at h2
      cases e : z.ks[j]? with
      | none => rw [e] at h1; cases h1
      | some k =>
        rw [e] at h1 h2
        cases h1
        cases h2
        obtain ⟨q1, q2⟩ := zo.kids k (List.mem_of_getElem? e)
        exact kid_leaf q1 fun p hp => .tail _ (.tail _ (by rw [← hTT]; exact List.mem_append_right _ (q2 p hp)))
    rename _ < _ ∧ _ < _ ∧ AllLt _ TT => lw
    have hLT : ∀ p ∈ LL, p ∈ TT := fun p hp => by rw [← hTT]; exact List.mem_append_right _ hp
    have hTw := allLt_mem lw.2.2
    have hIw : @Ne Nat I _ := Nat.ne_of_lt lw.1
    have hrw : @Ne Nat rl _ := Nat.ne_of_lt lw.2.1
    k_dflt (refine' ser_told w C _ _ z.e z.parts z.n ((I, oI) :: (rl, W.listOf (rwRefs ds).toArray rn) :: TT) (z.ks.map fun k => Value.str k.tag k.tt) ?sz ?ln kids _ _ _ _ _ _ _ _ _ _ _ _ _ _ _ _ _ _ _ _ ?b F1 ?x ?n ?t rfl ?d ?u ⟨hC, zo.ok, ?r, ?ap⟩ ?_; (case b => k_asm); (case x => k_asm); (case t => k_asm); (case d => ktr_room); (case u => ktr_units); k_whole)
    case sz => rw [LogSt.parts, List.size_toArray, List.length_map, List.length_map]
    case ln => rw [List.length_map]; omega
    case ap => exact hTw _ (hLT _ zm)
    case r =>
      intro p hp
      rcases List.mem_cons.mp hp with rfl | hp
      · exact hIw
      rcases List.mem_cons.mp hp with rfl | hp
      · exact hrw
      · exact hTw p hp
    case n =>
      refine news_sub N1 fun p hp => ?_
      rcases List.mem_cons.mp hp with rfl | hp
      · exact .tail _ (.tail _ (.tail _ (.tail _ (hLT _ hc2))))
      rcases List.mem_append.mp hp with hp | hp
      · exact .tail _ (.tail _ (.tail _ (.tail _ (hLT _ (zo.ro p hp)))))
      rcases List.mem_cons.mp hp with rfl | hp
      · exact .tail _ (.tail _ (.tail _ (.tail _ (hLT _ zm))))
      · exact hp
    intro k h9 tk9 F9 N9
    have hS := strs_of_tags zo.tags
    rw [List.map_cons] at hS
    generalize hvals : Value.str z.e.tag z.e.tt :: z.ks.map (fun k => Value.str k.tag k.tt) = vals at *
    replace N9 := news_sub N9 (r := (_, W.listOf vals.toArray k) :: (I, oI) :: (rl, W.listOf (rwRefs ds).toArray rn) :: TT) (fun p hp => by
      rcases List.mem_cons.mp hp with rfl | hp
      · exact .tail _ (List.mem_append_right _ (.tail _ (.tail _ (.head _))))
      · exact .tail _ (List.mem_append_right _ (.tail _ (.tail _ (.tail _ hp)))))
    clear F1 N1 kids
    (try dsimp only)
    k_steps
    unfold Halt
    have hvl : vals.length = z.tl.length := by have := StrsAre.length hS; rwa [List.length_map] at this
    have hvs : vals.length ≤ 24 := by rw [← hvals]; simp; omega
    refine LCg.ListComp_U F9 rfl (by decide) rfl (by decide) rfl (nameX_L F9 rfl ?_ rfl rfl) (by intro _; rfl)
    refine LCg.CompSrc.ledger (its := vals.toArray) rfl F9 N9 (.head _) (by rw [List.size_toArray, sizeLine_eq]; omega) fun g => rest_plain (fun i y => ∃ t, y = .int (z.tl.getD i 0) t) (fun i ys => IntsAre ys (z.tl.take i)) _ ?hJ (.inr ⟨_, .head _, rfl, _, rfl⟩) ?turn ?fin _ 0 [] (Nat.zero_add _) .nil
    case hJ =>
      rintro j ys y hj hys ⟨t, rfl⟩
      rw [List.size_toArray, hvl] at hj
      rw [List.take_succ_eq_append_getElem hj, List.getD_eq_getElem?_getD, List.getElem?_eq_getElem hj]
      exact ints_snoc hys
    case turn =>
      intro j v hj hvj
      obtain ⟨hj2, t, rfl⟩ := strs_at hS hvj
      rw [List.length_map] at hj2
      intro I2 oI2 Cc oC D ys m₂ h2 tk2 E' hns hm2 F3 N3 off nn
      clear F9 N9
      have hw : (z.tl.map escT).getD j Str.empty = escT (z.tl.getD j 0) := by
        rw [List.getD_eq_getElem?_getD, List.getElem?_map, List.getElem?_eq_getElem hj2, List.getD_eq_getElem?_getD, List.getElem?_eq_getElem hj2]; rfl
      have hx := zb (z.tl.getD j 0) (by rw [List.getD_eq_getElem?_getD, List.getElem?_eq_getElem hj2]; exact List.getElem_mem _)
      rw [hw] at hm2
      obtain ⟨r1, r2⟩ := esc_row _ hx.1 hx.2
      generalize z.tl.getD j 0 = y at *
      have hd2 : ((escT y).length : Int).fdiv 11 = y := by
        rw [r1, Int.fdiv_eq_ediv_of_nonneg _ (by decide)]
        omega
      generalize escT y = x at *
      k_steps
      · rw [hd2]
      · exact ⟨_, _, rfl, F3, N3⟩
    case fin =>
      intro ys hys D h' tk' F2 N2 o1
      clear F9 N9
      have hDr : @Ne Nat D rl := (off1_ne o1 (rl, W.listOf (rwRefs ds).toArray rn) (.tail _ (.tail _ (.head _)))).symm
      have hDI : @Ne Nat D I := (off1_ne o1 (I, oI) (.tail _ (.head _))).symm
      have hDT : ∀ p ∈ TT, p.1 ≠ D := fun p hp => off1_ne o1 p (.tail _ (.tail _ (.tail _ hp)))
      have hil : i < 4 := by
        rcases Nat.lt_or_ge i lg.length with q | q
        · omega
        · rw [List.getElem?_eq_none q] at hzi; cases hzi
      have hds : (rwRefs ds).length ≤ 23 := by rw [rwRefs, List.length_map, hP.len]; omega
      k_steps
      rename Fr h₀ L _ _ => F8
      rename News h₀ L _ _ => N8
      have er : rwRefs (ds ++ [(D, ys)]) = rwRefs ds ++ [Value.ref D] := by simp [rwRefs]
      have eo : rwObjs (ds ++ [(D, ys)]) = rwObjs ds ++ [(D, LCg.lst ys)] := by simp [rwObjs]
      rw [List.size_toArray, hvl, List.take_length] at hys
      have hget : (lg.map (·.tl)).getD i [] = z.tl := by rw [List.getD_eq_getElem?_getD, List.getElem?_map, hzi]; rfl
      refine ⟨(rn + 1, ds ++ [(D, ys)]), _, _, _, _, rfl, F8, N8, fun p hp => ?_, by kst_all, ⟨hP.snoc (by rw [hget]; exact hys), fun p hp => ?_⟩, fun p hp => ?_⟩
      · dsimp only [RwLd] at hp
        rw [er, eo] at hp
        rcases List.mem_cons.mp hp with rfl | hp
        · exact .tail _ (.tail _ (.head _))
        rcases List.mem_cons.mp hp with rfl | hp
        · rw [List.push_toArray]
          exact .tail _ (.tail _ (.tail _ (.head _)))
        rcases List.mem_append.mp hp with hp | hp
        · rcases List.mem_append.mp hp with hp | hp
          · exact .tail _ (.tail _ (.tail _ (.tail _ (by rw [← hTT]; exact List.mem_append_left _ hp))))
          · rw [List.mem_singleton.mp hp]; exact .head _
        · exact .tail _ (.tail _ (.tail _ (.tail _ (hLT p hp))))
      · dsimp only at hp
        rw [eo] at hp
        rcases List.mem_append.mp hp with hp | hp
        · exact hPr p hp
        · rw [List.mem_singleton.mp hp]; exact hDr
      · dsimp only [RwLd] at hp
        rw [eo] at hp
        rcases List.mem_cons.mp hp with rfl | hp
        · exact hIr.symm
        rcases List.mem_append.mp hp with hp | hp
        · rcases List.mem_append.mp hp with hp | hp
          · exact offT p (.tail _ (by rw [← hTT]; exact List.mem_append_left _ hp))
          · rw [List.mem_singleton.mp hp]; exact hDI
        · exact offT p (.tail _ (hLT p hp))
end
end Mine
end
theorem Mine.forget_RL : True ∧ True := by first | (walk1; all_goals trivial; done) | exact ⟨trivial, trivial⟩
section
namespace Mine
noncomputable def runPos (P : Params) : Pos := (runDef P).1.2.2.2.1.2.2
theorem head_list (P : Params) : runHead P = [hdAt P 0, hdAt P 1, hdAt P 2, hdAt P 3, hdAt P 4] := rfl
theorem tail_list (P : Params) : runTail P = [tlAt P 0, tlAt P 1, tlAt P 2] := rfl
noncomputable def runAll (P : Params) : List Stmt := [hdAt P 0, hdAt P 1, hdAt P 2, hdAt P 3, hdAt P 4, .While (runTest P) (runBody P) [] (runPos P), tlAt P 0, tlAt P 1, tlAt P 2]
noncomputable def lgOf (es : List El) (st : List Int) : List LogSt := List.zipWith (fun e x => (⟨e, [], 0, [x]⟩ : LogSt)) es st
theorem lgOf_e {es : List El} {st : List Int} (h : es.length = st.length) : (lgOf es st).map (·.e) = es := by
  refine List.ext_getElem? fun i => ?_
  rw [lgOf, List.getElem?_map, List.getElem?_zipWith]
  rcases Nat.lt_or_ge i es.length with q | q
  · rw [List.getElem?_eq_getElem q, List.getElem?_eq_getElem (by omega)]; rfl
  · rw [List.getElem?_eq_none q]; rfl
theorem lgOf_tl {es : List El} {st : List Int} (h : es.length = st.length) : (lgOf es st).map (·.tl) = st.map fun x => [x] := by
  refine List.ext_getElem? fun i => ?_
  rw [lgOf, List.getElem?_map, List.getElem?_zipWith, List.getElem?_map]
  rcases Nat.lt_or_ge i es.length with q | q
  · rw [List.getElem?_eq_getElem q, List.getElem?_eq_getElem (by omega)]; rfl
  · rw [List.getElem?_eq_none q, List.getElem?_eq_none (by omega)]; rfl
theorem lgOf_at {es : List El} {st : List Int} {z : LogSt} (h : es.length = st.length) (hz : z ∈ lgOf es st) : ∃ (k : Nat) (e : El), es[k]? = some e ∧ k < st.length ∧ z = ⟨e, [], 0, [st.getD k 0]⟩ := by
  obtain ⟨i, hi⟩ := List.mem_iff_getElem?.mp hz
  rw [lgOf, List.getElem?_zipWith] at hi
  rcases Nat.lt_or_ge i es.length with q | q
  · rw [List.getElem?_eq_getElem q, List.getElem?_eq_getElem (by omega)] at hi
    cases hi
    exact ⟨i, es[i], List.getElem?_eq_getElem q, by omega, by rw [List.getD_eq_getElem?_getD, List.getElem?_eq_getElem (by omega)]; rfl⟩
  · rw [List.getElem?_eq_none q] at hi; cases hi
theorem inv_start {size : Int} {hs st : List Int} {pl : Int} (hok : StOk size st) (hp : 0 ≤ pl ∧ pl < 10 ^ 9) (hst : ∀ k, k < 4 → st.getD k 0 = hs.getD k 0 % size) : Inv size hs ⟨st, [], [], pl, st.map fun x => [x]⟩ := by
  have hl := hok.len
  obtain ⟨a, b, c, d, rfl⟩ := four_of hl
  have h0 := hst 0 (by decide)
  have h1 := hst 1 (by decide)
  have h2 := hst 2 (by decide)
  have h3 := hst 3 (by decide)
  simp only [List.getD_cons_zero, List.getD_cons_succ] at h0 h1 h2 h3
  refine ⟨hok, hp, rfl, fun x h => (nomatch h), fun i h => by simp at h, fun i h => by simp at h, ⟨0, by decide, Nat.le_refl _, fun i _ h => by simp at h, .inr ⟨rfl, by rw [Nat.zero_add]; exact hok.facts.2.1⟩⟩, fun i h => by simp at h, fun i h => by simp at h, rfl, ?_, ?_, ?_, ?_, ?_⟩
  · show [a] = [_]
    congr 1
    rw [h0]; simp
  · show a = _
    rw [h0]; simp
  · intro k hk
    rcases (by omega : k = 0 ∨ k = 1 ∨ k = 2 ∨ k = 3) with rfl | rfl | rfl | rfl <;> refine ⟨rfl, ?_, rfl⟩
    · show some a = _; rw [h0]
    · show some b = _; rw [h1]
    · show some c = _; rw [h2]
    · show some d = _; rw [h3]
  · intro k hk x hx
    have key : ∀ y ∈ [a, b, c, d], 0 ≤ y ∧ y < size := hok.bd
    rcases (by omega : k = 0 ∨ k = 1 ∨ k = 2 ∨ k = 3) with rfl | rfl | rfl | rfl
    · rw [List.mem_singleton.mp (show x ∈ [a] from hx)]; exact key a (by simp)
    · rw [List.mem_singleton.mp (show x ∈ [b] from hx)]; exact key b (by simp)
    · rw [List.mem_singleton.mp (show x ∈ [c] from hx)]; exact key c (by simp)
    · rw [List.mem_singleton.mp (show x ∈ [d] from hx)]; exact key d (by simp)
  · intro k hk
    rcases (by omega : k = 0 ∨ k = 1 ∨ k = 2) with rfl | rfl | rfl <;> exact ⟨show (0 : Nat) ≤ 1 by decide, fun q => absurd (show (0 : Nat) = 1 from q) (by decide)⟩
theorem ro_ne {P : Params} {c2 : Addr} {e : El} (he : e.Ok) {its : Array Value} {n : Nat} : ∀ p ∈ e.ro P c2, p.2 ≠ W.listOf its n := fun p hp q => by
  simp only [El.ro, List.mem_cons, List.not_mem_nil, or_false] at hp
  rcases hp with rfl | rfl | rfl | rfl | rfl | rfl
  · exact absurd (Value.type.inj (congrArg Obj.cls q)) (by decide)
  · exact absurd (Value.type.inj (congrArg Obj.cls q)) (by decide)
  · exact absurd (Value.type.inj (congrArg Obj.cls q)) (by decide)
  · exact absurd (Value.type.inj (congrArg Obj.cls q)) (by decide)
  · have := he.1.symm.trans (congrArg Obj.data q); cases this
  · have := he.2.symm.trans (congrArg Obj.data q); cases this
theorem news_ne {h₀ h : Heap} {L a b : Addr} {o o' : Obj} {news : List (Addr × Obj)} (N : News h₀ L h news) (h1 : (a, o) ∈ news) (h2 : (b, o') ∈ news) (hne : o ≠ o') : a ≠ b := fun e => by
  subst e
  have e1 := (N _ h1).1
  rw [(N _ h2).1] at e1
  exact hne (Option.some.inj e1).symm
theorem use_se {w : World} {mean : ExcName → Option Value} {mg mb : Str → Option Value} {dp un : Nat} {gd : Option (List Code)} {outer : List Env} {A₀ : Around} {base g₀ h₀ : Heap} {L : Addr} {m : Str → Option Value} {s : Shared} {Q : Flow → Shared → Prop} {E : Value → Shared → Prop}
    {st : Env → Stmt} {rs : List Stmt} {ps : List (Str × Value)} {news : Addr → List (Addr × Obj)} {pre : Addr → Shared → Prop} {post : Post} (S : SXE w st ps news pre post) (H : Pl w mean mg mb dp un outer A₀ base g₀ h₀) (F : Fr h₀ L s.heap m) (hm : ∀ p ∈ ps, m p.1 = some p.2)
    (N : News h₀ L s.heap (news L)) (hE : PassesOwn (model PySem.Challenge.rw_xe0044_01.row.prog w) (runTop w dp un gd L outer) (EN w L) E) (hp : pre L s) (h : post h₀ L m s (fun f s' => s.toks ≤ s'.toks → match f with | .next => wpAny (model PySem.Challenge.rw_xe0044_01.row.prog w) (runTop w dp un gd L outer) (execs rs (EN w L)) Q E s' | f => Q f s')) :
    wpAny (model PySem.Challenge.rw_xe0044_01.row.prog w) (runTop w dp un gd L outer) (execs (st (EN w L) :: rs) (EN w L)) Q E s :=
  execs_toks (S mean mg mb dp un gd outer A₀ base h₀ L m s _ E H.B F hm H.X N H.T hE H.d H.u hp h)
section
variable {w : World} {mean : ExcName → Option Value} {mg mb : Str → Option Value} {dp un : Nat} {gd : Option (List Code)} {outer : List Env} {A₀ : Around} {base g₀ h₀ : Heap} {L : Addr} {m : Str → Option Value} {s : Shared} {Q : Flow → Shared → Prop} {E : Value → Shared → Prop}
local macro_rules | `(tactic| kst_all) => `(tactic| repeat' (first | exact ks_nil | (refine ks_cons ?_ ?_) | exact kset_hit | (refine kset_miss (by decide) ?_) | assumption))
theorem run_body (sl hand : Addr) (svs : List Value) (sn sh : Nat) (st hs : List Int) (size plan : Int) (tail : Str) (ts tp tsh tt : Tok) (o1 o2 o3 o4 o5 : Obj) (NL : List (Addr × Obj)) (hi : IntsAre svs st) (hok : StOk size st) (hp : 0 ≤ plan ∧ plan < 10 ^ 9) (hsh : sh < 29) (htl : tail ∈ tails) (hh : hand = 157 ∨ hand = 164 ∨ hand = 171)
    (hst : ∀ k, k < 4 → st.getD k 0 = hs.getD k 0 % size) (h187 : ∀ p ∈ (sl, W.listOf svs.toArray sn) :: NL, p.1 ≠ 187) (hsl : ∀ p ∈ NL, p.1 ≠ sl) (hlt : ∀ p ∈ (187, tabObj #[]) :: (sl, W.listOf svs.toArray sn) :: NL, p.1 < L)
    (c1 : o1.data = .cell (some (.ref sl))) (c2 : o2.data = .cell (some (.int (sh : Int) tsh))) (c3 : o3.data = .cell (some (.ref hand))) (c4 : o4.data = .cell none) (c5 : o5.data = .cell none)
    (m1 : m (Str.ofString "size") = some (.int size ts)) (m2 : m (Str.ofString "plan") = some (.int plan tp)) (m3 : m (Str.ofString "tail") = some (.str tail tt))
    (H : Pl w mean mg mb dp un outer A₀ base g₀ h₀) (F : Fr h₀ L s.heap m) (N : News h₀ L s.heap ((L + 1 + 1 + 1 + 1 + 1, o5) :: (L + 1 + 1 + 1 + 1, o4) :: (L + 1 + 1 + 1, o3) :: (L + 1 + 1, o2) :: (L + 1, o1) :: (187, tabObj #[]) :: (sl, W.listOf svs.toArray sn) :: NL)) (hs0 : 0 < s.toks)
    (hE : PassesOwn (model PySem.Challenge.rw_xe0044_01.row.prog w) (runTop w dp un gd L outer) (EN w L) E)
    (h : ∀ (ret cl vl rl : Addr) (cvs vvs : List Value) (cn vn rn : Nat) (ds : List (Addr × List Value)) (ps : Array Value) (c : PS) (g' h' : Heap) (tk : Nat) (m' : Str → Option Value), Inv size hs c → guard c.counts = false → c.counts.length ≤ 23 → IntsAre cvs c.counts → IntsAre vvs c.movers → RowsAt c.tls 4 ds → Pl w mean mg mb dp un outer A₀ base g₀ g' → Fr g' L h' m' →
      News g' L h' ((ret, W.listOf #[.ref cl, .ref vl, .ref rl] 0) :: (cl, W.listOf cvs.toArray cn) :: (vl, W.listOf vvs.toArray vn) :: (rl, W.listOf (rwRefs ds).toArray rn) :: (rwObjs ds ++ (187, tabObj ps) :: NL)) → Q (.ret (.ref ret)) { s with heap := h', toks := tk }) :
    wpAny (model PySem.Challenge.rw_xe0044_01.row.prog w) (runTop w dp un gd L outer) (execs (runAll w.params) (EN w L)) Q E s := by
  unfold runAll
  have h5 : ∀ x ∈ st, 0 ≤ x ∧ x < 5 := fun x hx => ⟨(hok.bd x hx).1, Int.lt_of_lt_of_le (hok.bd x hx).2 (by rcases hok.sz with e | e <;> omega)⟩
  have hst4 := hok.len
  generalize hX0 : (L + 1 + 1 + 1 + 1 + 1, o5) :: (L + 1 + 1 + 1 + 1, o4) :: (L + 1 + 1 + 1, o3) :: (L + 1 + 1, o2) :: (L + 1, o1) :: (187, tabObj #[]) :: (sl, W.listOf svs.toArray sn) :: NL = X0 at N
  have nlt : ∀ {x : Addr} {k : Nat}, x < L → x ≠ L + k := fun h e => by
    have h' : @LT.lt Nat _ _ L := h
    rw [e] at h'
    exact absurd h' (by omega)
  have lo : ∀ p ∈ (187, tabObj #[]) :: (sl, W.listOf svs.toArray sn) :: NL, ∀ k : Nat, p.1 ≠ L + k := fun p hp k => nlt (hlt p hp)
  have x5 : (L + 1 + 1 + 1 + 1 + 1, o5) ∈ X0 := by rw [← hX0]; exact mem_at 0 rfl
  have x4 : (L + 1 + 1 + 1 + 1, o4) ∈ X0 := by rw [← hX0]; exact mem_at 1 rfl
  have x3 : (L + 1 + 1 + 1, o3) ∈ X0 := by rw [← hX0]; exact mem_at 2 rfl
  have x2 : (L + 1 + 1, o2) ∈ X0 := by rw [← hX0]; exact mem_at 3 rfl
  have x1 : (L + 1, o1) ∈ X0 := by rw [← hX0]; exact mem_at 4 rfl
  have x187 : (187, tabObj #[]) ∈ X0 := by rw [← hX0]; exact mem_at 5 rfl
  have xs : (sl, W.listOf svs.toArray sn) ∈ X0 := by rw [← hX0]; exact mem_at 6 rfl
  have xn : ∀ p ∈ NL, p ∈ X0 := fun p hp => by rw [← hX0]; exact .tail _ (.tail _ (.tail _ (.tail _ (.tail _ (.tail _ (.tail _ hp))))))
  -- names
  refine use_s (st := fun _ => hdAt w.params 0) (h0_told w o2 o4 sh tsh (dr (L + 1 + 1 + 1 + 1) X0) hsh c2 c4) H F ks_nil (news_sub N (fun p hp => ?_)) (fun p hp => ?_) ?_
  · revert p
    exact all_cons (x4) (all_cons (x2)  (fun p hp => (mem_dr.mp hp).1))
  · revert p
    exact all_cons (fun e => absurd (show @Eq Nat (L + 1 + 1) (L + 1 + 1 + 1 + 1) from e) (by omega)) (fun p hp => dr_off p hp)
  rintro nl nvs nn o4' ha tka hnv c4' hnl Fa Na hta
  dsimp only at hta ⊢
  generalize hX1 : (nl, W.listOf nvs.toArray nn) :: (L + 1 + 1 + 1 + 1, o4') :: dr (L + 1 + 1 + 1 + 1) X0 = X1
  replace Na := news_sub Na (r := X1) (fun p hp => by
    rw [← hX1] at hp
    revert p
    exact all_cons (.head _) (all_cons (.tail _ (.head _))  (fun p hp => .tail _ (.tail _ (.tail _ hp)))))
  have nl0 : ∀ p ∈ X0, p.1 ≠ nl := fun p hp => by
    by_cases e : p.1 = L + 1 + 1 + 1 + 1
    · rw [e]; exact hnl (L + 1 + 1 + 1 + 1, o4) (.head _)
    · exact hnl p (.tail _ (.tail _ (dr_in hp e)))
  have to1 : ∀ p ∈ X0, p.1 ≠ L + 1 + 1 + 1 + 1 → p ∈ X1 := fun p hp n => by rw [← hX1]; exact .tail _ (in_upd hp n)
  have nX : ∀ {i j : Nat}, i ≠ j → Nat.add L i ≠ Nat.add L j := fun h e => h (Nat.add_left_cancel e)
  -- marks
  refine use_s (st := fun _ => hdAt w.params 1) (h1_told w sl svs sn st o1 o5 (dr (L + 1 + 1 + 1 + 1 + 1) X1) hi hst4 h5 c1 c5) H Fa ks_nil (news_sub Na (fun p hp => ?_)) (fun p hp => ?_) ?_
  · revert p
    exact all_cons (to1 _ x5 (nX (i := 5) (j := 4) (by decide))) (all_cons (to1 _ x1 (nX (i := 1) (j := 4) (by decide)))  (all_cons (to1 _ xs (lo _ (.tail _ (.head _)) 4))   (fun p hp => (mem_dr.mp hp).1)))
  · revert p
    exact all_cons (nX (i := 1) (j := 5) (by decide)) (all_cons (lo _ (.tail _ (.head _)) 5)  (fun p hp => dr_off p hp))
  rintro ml mn Ms o5' hb tkb hMs c5' hml hapM Fb Nb htb
  dsimp only at htb ⊢
  generalize hX2 : (ml, W.listOf (Ms.map fun M => Value.ref M.x).toArray mn) :: (mObjs w.params Ms ++ (L + 1 + 1 + 1 + 1 + 1, o5') :: dr (L + 1 + 1 + 1 + 1 + 1) X1) = X2
  replace Nb := news_sub Nb (r := X2) (fun p hp => by
    rw [← hX2] at hp
    revert p
    exact all_cons (.head _) (all_app (fun p hp => .tail _ (List.mem_append_left _ hp))  (all_cons (.tail _ (List.mem_append_right _ (.head _)))   (fun p hp => .tail _ (List.mem_append_right _ (.tail _ (.tail _ (.tail _ hp))))))))
  have to2 : ∀ p ∈ X1, p.1 ≠ L + 1 + 1 + 1 + 1 + 1 → p ∈ X2 := fun p hp n => by rw [← hX2]; exact .tail _ (List.mem_append_right _ (in_upd hp n))
  have h01 : ∀ {a}, has X0 a → has X1 a := fun h => by rw [← hX1]; exact has_cons (has_upd _ h)
  have h12 : ∀ {a}, has X1 a → has X2 a := fun h => by rw [← hX2]; exact has_cons (has_app (has_upd _ h))
  have ml1 : ∀ a, has X1 a → a ≠ ml := fun a ⟨o, ho⟩ e => by
    by_cases q : a = L + 1 + 1 + 1 + 1 + 1
    · exact hml (L + 1 + 1 + 1 + 1 + 1, o5) (List.mem_append_right _ (.head _)) (by rw [← q]; exact e)
    · exact hml _ (List.mem_append_right _ (.tail _ (.tail _ (.tail _ (dr_in ho q))))) e
  have mM1 : ∀ a, has X1 a → ∀ p ∈ mObjs w.params Ms, a ≠ p.1 := fun a ⟨o, ho⟩ p hp e => by
    by_cases q : a = L + 1 + 1 + 1 + 1 + 1
    · exact hapM p hp (L + 1 + 1 + 1 + 1 + 1, o5) (.head _) (by rw [← q]; exact e)
    · exact hapM p hp _ (.tail _ (.tail _ (.tail _ (dr_in ho q)))) e
  have hx : ∀ {p : Addr × Obj}, p ∈ X0 → has X0 p.1 := fun h => ⟨_, h⟩
  -- logs
  have x2s : (sl, W.listOf svs.toArray sn) ∈ X2 := to2 _ (to1 _ xs (lo _ (.tail _ (.head _)) 4)) (lo _ (.tail _ (.head _)) 5)
  have x2_1 : (L + 1, o1) ∈ X2 := to2 _ (to1 _ x1 (nX (i := 1) (j := 4) (by decide))) (nX (i := 1) (j := 5) (by decide))
  have x2_3 : (L + 1 + 1 + 1, o3) ∈ X2 := to2 _ (to1 _ x3 (nX (i := 3) (j := 4) (by decide))) (nX (i := 3) (j := 5) (by decide))
  have x2_187 : (187, tabObj #[]) ∈ X2 := to2 _ (to1 _ x187 (lo _ (.head _) 4)) (lo _ (.head _) 5)
  have l187 : ∀ k : Nat, (L + k : Nat) ≠ 187 := fun k e => lo _ (.head _) k e.symm
  have s187 : sl ≠ 187 := h187 _ (.head _)
  have b187 : ∀ p ∈ (L + 1 + 1 + 1, o3) :: (L + 1, o1) :: (sl, W.listOf svs.toArray sn) :: dr 187 X2, p.1 ≠ 187 := fun p hp => by
    revert p
    exact all_cons (l187 3) (all_cons (l187 1)  (all_cons (s187)   (fun p hp => dr_off p hp)))
  refine use_s (st := fun _ => hdAt w.params 2) (h2_told w sl hand svs sn st o1 o3 (dr 187 X2) hi hst4 h5 hh c1 c3 dr_off) H Fb ks_nil (news_sub Nb (fun p hp => ?_)) b187 ?_
  · revert p
    exact all_cons (x2_187) (all_cons (x2_3)  (all_cons (x2_1)   (all_cons (x2s)    (fun p hp => (mem_dr.mp hp).1))))
  rintro gl C es ys hc tkc hEs hgl Fc Nc htc
  dsimp only at htc ⊢
  generalize hbs : (L + 1 + 1 + 1, o3) :: (L + 1, o1) :: (sl, W.listOf svs.toArray sn) :: dr 187 X2 = bs at *
  have b2 : ∀ p ∈ X2, p.1 ≠ 187 → p ∈ bs := fun p hp n => by rw [← hbs]; exact .tail _ (.tail _ (.tail _ (dr_in hp n)))
  obtain ⟨eC, elen, eys, eok, eNd, eap⟩ := hEs
  generalize hX3 : (gl, LCg.lst ys) :: LgLd w.params bs (some C, es) = X3 at Nc
  have elE : ∀ e ∈ es, (e.l, W.listOf #[] 0) ∈ eObjs w.params C es := fun e he => el_mem he
  have g3 : ∀ p ∈ LgLd w.params bs (some C, es), p ∈ X3 := fun p hp => by rw [← hX3]; exact .tail _ hp
  have e3 : ∀ p ∈ eObjs w.params C es, p ∈ X3 := fun p hp => g3 p (List.mem_append_left _ hp)
  have c3' : (C.c2, C.oc) ∈ X3 := g3 _ (List.mem_append_right _ (.head _))
  have t3 : (187, C.tab) ∈ X3 := g3 _ (List.mem_append_right _ (.tail _ (.head _)))
  have b3 : ∀ p ∈ bs, p ∈ X3 := fun p hp => g3 _ (LgLd_base _ _ _ p hp)
  have gl3 : (gl, LCg.lst ys) ∈ X3 := by rw [← hX3]; exact .head _
  -- counts, movers
  refine use_s (st := fun _ => hdAt w.params 3) (h3_told w X3) H Fc ks_nil Nc trivial ?_
  rintro cl hd' tkd hcl Fd Nd htd
  dsimp only at htd ⊢
  refine use_s (st := fun _ => hdAt w.params 4) (h4_told w ((cl, W.listOf #[] 0) :: X3)) H Fd ks_nil Nd trivial ?_
  rintro vl he tke hvl Fe Ne' hte
  dsimp only at hte ⊢
  have Nall := Ne'
  -- what stands apart
  have cv3 : ∀ p ∈ X3, p.1 ≠ cl ∧ p.1 ≠ vl := fun p hp => ⟨hcl p hp, hvl p (.tail _ hp)⟩
  have ebs : ∀ p ∈ bs, ∀ e ∈ es, p.1 ≠ e.l := fun p hp e he => eap (e.l, W.listOf #[] 0) (List.mem_append_left _ (elE e he)) p (.tail _ hp)
  have els : ∀ {a : Addr}, (∀ e ∈ es, a ≠ e.l) → a ∉ es.map (·.l) := fun h ha => by
    obtain ⟨e, he, rfl⟩ := List.mem_map.mp ha
    exact h e he rfl
  have offB : ∀ p ∈ X2, p.1 ≠ 187 → p.1 ≠ sl → p.1 ≠ ml → p.1 ∉ sl :: ml :: cl :: vl :: es.map (·.l) := fun p hp n1 n2 n3 hm => by
    have hb := b2 p hp n1
    have hcv := cv3 p (b3 p hb)
    simp only [List.mem_cons] at hm
    rcases hm with h | h | h | h | h
    · exact n2 h
    · exact n3 h
    · exact hcv.1 h
    · exact hcv.2 h
    · exact els (ebs p hb) h
  have mls : (ml, W.listOf (Ms.map fun M => Value.ref M.x).toArray mn) ∈ X2 := by rw [← hX2]; exact .head _
  have slml : sl ≠ ml := ml1 _ (h01 (hx xs))
  have m187 : ml ≠ 187 := fun e => ml1 _ (h01 (hx x187)) e.symm
  have slb : (sl, W.listOf svs.toArray sn) ∈ bs := b2 _ x2s s187
  have mlb := b2 _ mls m187
  have nd : (sl :: ml :: cl :: vl :: es.map (·.l)).Nodup := by
    simp only [List.nodup_cons, List.mem_cons, not_or]
    refine ⟨⟨slml, (cv3 _ (b3 _ slb)).1, (cv3 _ (b3 _ slb)).2, els (ebs _ slb)⟩, ⟨(cv3 _ (b3 _ mlb)).1, (cv3 _ (b3 _ mlb)).2, els (ebs _ mlb)⟩, ⟨hvl _ (.head _), els fun e he q => hcl _ (e3 _ (elE e he)) q.symm⟩, els fun e he q => hvl _ (.tail _ (e3 _ (elE e he))) q.symm, eNd⟩
  have eL : ∀ p ∈ eObjs w.params C es ++ [(C.c2, C.oc)], p.1 ≠ sl ∧ p.1 ≠ ml := fun p hp => ⟨fun e => eap p hp _ (.tail _ slb) e.symm, fun e => eap p hp _ (.tail _ mlb) e.symm⟩
  have offE : ∀ p ∈ eObjs w.params C es ++ [(C.c2, C.oc)], p.2 ≠ W.listOf #[] 0 → p.1 ∉ sl :: ml :: cl :: vl :: es.map (·.l) := fun p hp hne hm => by
    have hp3 : p ∈ X3 := by
      rcases List.mem_append.mp hp with h | h
      · exact e3 p h
      · rw [List.mem_singleton.mp h]; exact c3'
    simp only [List.mem_cons] at hm
    rcases hm with h | h | h | h | h
    · exact (eL p hp).1 h
    · exact (eL p hp).2 h
    · exact (cv3 p hp3).1 h
    · exact (cv3 p hp3).2 h
    · exact els (fun e he => news_ne Nc hp3 (e3 _ (elE e he)) hne) h
  -- the loop
  have hlen : es.length = st.length := by rw [elen, hst4]
  generalize hro : es.flatMap (fun e => e.ro w.params C.c2) = RO
  have roE : ∀ p ∈ RO, p ∈ eObjs w.params C es ∧ p.2 ≠ W.listOf #[] 0 := fun p hp => by
    rw [← hro] at hp
    obtain ⟨e, he, hp⟩ := List.mem_flatMap.mp hp
    obtain ⟨k, hk⟩ := List.mem_iff_getElem?.mp he
    exact ⟨List.mem_flatMap.mpr ⟨e, he, List.mem_append_left _ hp⟩, ro_ne (eok k e hk).1 p hp⟩
  have nl2 : (nl, W.listOf nvs.toArray nn) ∈ X1 := by rw [← hX1]; exact .head _
  have o42 : (L + 1 + 1 + 1 + 1, o4') ∈ X1 := by rw [← hX1]; exact .tail _ (.head _)
  have nl5 : nl ≠ L + 1 + 1 + 1 + 1 + 1 := (nl0 _ x5).symm
  have x2_4 : (L + 1 + 1 + 1 + 1, o4') ∈ X2 := to2 _ o42 (nX (i := 4) (j := 5) (by decide))
  have x2_n : (nl, W.listOf nvs.toArray nn) ∈ X2 := to2 _ nl2 nl5
  have x2_5 : (L + 1 + 1 + 1 + 1 + 1, o5') ∈ X2 := by rw [← hX2]; exact .tail _ (List.mem_append_right _ (.head _))
  have x2_2 : (L + 1 + 1, o2) ∈ X2 := to2 _ (to1 _ x2 (nX (i := 2) (j := 4) (by decide))) (nX (i := 2) (j := 5) (by decide))
  have cellOff : ∀ (k : Nat) (o : Obj), (L + k, o) ∈ X2 → has X1 (L + k) → (L + k) ∉ sl :: ml :: cl :: vl :: es.map (·.l) := fun k o h2 h1 => offB (L + k, o) h2 (l187 k) (fun e => lo _ (.tail _ (.head _)) k e.symm) (ml1 _ h1)
  have mO : ∀ p ∈ mObjs w.params Ms, p ∈ X2 ∧ p.1 ≠ 187 := fun p hp => ⟨by rw [← hX2]; exact .tail _ (List.mem_append_left _ hp), fun e => mM1 _ (h01 (hx x187)) p hp e.symm⟩
  have nO : ∀ p ∈ NL, p ∈ X2 ∧ p.1 ≠ 187 := fun p hp => ⟨to2 _ (to1 _ (xn p hp) (lo _ (.tail _ (.tail _ hp)) 4)) (lo _ (.tail _ (.tail _ hp)) 5), h187 p (.tail _ hp)⟩
  have restOff : ∀ p ∈ RO ++ (mObjs w.params Ms ++ NL), p.1 ∉ sl :: ml :: cl :: vl :: es.map (·.l) := fun p hp => by
    revert p
    exact all_app (fun p hp => offE p (List.mem_append_left _ (roE p hp).1) (roE p hp).2) (all_app (fun p hp => offB p (mO p hp).1 (mO p hp).2 (fun e => mM1 _ (h01 (hx xs)) p hp e.symm) (fun e => hml p (List.mem_append_left _ hp) e))  (fun p hp => offB p (nO p hp).1 (nO p hp).2 (hsl p hp) (ml1 _ (h01 (hx (xn p hp))))))
  have rest3 : ∀ p ∈ RO ++ (mObjs w.params Ms ++ NL), p ∈ X3 := fun p hp => by
    revert p
    exact all_app (fun p hp => e3 p (roE p hp).1) (all_app (fun p hp => b3 p (b2 p (mO p hp).1 (mO p hp).2))  (fun p hp => b3 p (b2 p (nO p hp).1 (nO p hp).2)))
  have K : RK w.params ⟨L, sl, nl, ml, gl, cl, vl, hand, o1, o2, o3, o4', o5', nvs, ys, nn, ys.length, C, size, ts, tt, tsh, tail, sh⟩ es :=
    ⟨c1, c2, c3, c4', c5', eC, hh, hnv, eys, by rw [elen], hsh, htl, nd⟩
  have fxOff : ∀ p ∈ Fx ⟨L, sl, nl, ml, gl, cl, vl, hand, o1, o2, o3, o4', o5', nvs, ys, nn, ys.length, C, size, ts, tt, tsh, tail, sh⟩, p ∈ X3 ∧ p.1 ∉ sl :: ml :: cl :: vl :: es.map (·.l) := fun p hp => by
    revert p
    unfold Fx
    refine all_cons ?_ ?_
    · exact ⟨b3 _ (b2 _ x2_5 (l187 5)), cellOff 5 _ x2_5 (h01 (hx x5))⟩
    refine all_cons ?_ ?_
    · exact ⟨b3 _ (b2 _ x2_4 (l187 4)), cellOff 4 _ x2_4 (h01 (hx x4))⟩
    refine all_cons ?_ ?_
    · exact ⟨b3 _ (b2 _ x2_3 (l187 3)), cellOff 3 _ x2_3 (h01 (hx x3))⟩
    refine all_cons ?_ ?_
    · exact ⟨b3 _ (b2 _ x2_2 (l187 2)), cellOff 2 _ x2_2 (h01 (hx x2))⟩
    refine all_cons ?_ ?_
    · exact ⟨b3 _ (b2 _ x2_1 (l187 1)), cellOff 1 _ x2_1 (h01 (hx x1))⟩
    refine all_cons ?_ ?_
    · have n187 : nl ≠ 187 := (nl0 _ x187).symm
      exact ⟨b3 _ (b2 _ x2_n n187), offB _ x2_n n187 (nl0 _ xs).symm (ml1 _ ⟨_, nl2⟩)⟩
    refine all_cons ?_ ?_
    · refine ⟨gl3, fun hm => ?_⟩
      simp only [List.mem_cons] at hm
      rcases hm with h | h | h | h | h
      · exact hgl _ (LgLd_base _ _ _ _ slb) h.symm
      · exact hgl _ (LgLd_base _ _ _ _ mlb) h.symm
      · exact (cv3 _ gl3).1 h
      · exact (cv3 _ gl3).2 h
      · exact els (fun e he q => hgl _ (List.mem_append_left _ (elE e he)) q.symm) h
    refine all_cons ?_ ?_
    · refine ⟨t3, fun hm => ?_⟩
      simp only [List.mem_cons] at hm
      rcases hm with h | h | h | h | h
      · exact s187 h.symm
      · exact m187 h.symm
      · exact (cv3 _ t3).1 h
      · exact (cv3 _ t3).2 h
      · exact els (fun e he => eap (e.l, W.listOf #[] 0) (List.mem_append_left _ (elE e he)) _ (.head _)) h
    refine all_cons ?_ ?_
    · exact ⟨c3', offE _ (List.mem_append_right _ (.head _)) (fun e => by have := eC.1.symm.trans (congrArg Obj.data e); cases this)⟩
    exact fun _ h => nomatch h
  have k : LK w.params ⟨L, sl, nl, ml, gl, cl, vl, hand, o1, o2, o3, o4', o5', nvs, ys, nn, ys.length, C, size, ts, tt, tsh, tail, sh⟩ es ⟨h₀, svs, Ms.map fun M => Value.ref M.x, [], [], sn, mn, 0, 0, st, [], [], Ms, plan, tp, lgOf es st, RO ++ (mObjs w.params Ms ++ NL)⟩ := by
    refine ⟨hi, .nil, .nil, rfl, hMs.len, fun k M hk => ?_, lgOf_e hlen, fun z hz => ?_, Nat.zero_le _, fun p hp => ?_⟩
    · obtain ⟨q1, q2, q3⟩ := hMs.ok k M hk
      exact ⟨q1, q2, q3, fun p hp => List.mem_append_right _ (List.mem_append_left _ (mObjs_at hk p hp))⟩
    · obtain ⟨k, e, hk, hkl, rfl⟩ := lgOf_at hlen hz
      obtain ⟨q1, q2⟩ := eok k e hk
      refine ⟨⟨q1, fun p hp => List.mem_append_left _ (by rw [← hro]; exact List.mem_flatMap.mpr ⟨e, List.mem_of_getElem? hk, hp⟩), (fun k hk => nomatch hk), ?_⟩, Nat.le_refl _⟩
      show [e.tag] = [escT (st.getD k 0)]
      rw [q2]
    · revert p
      exact all_app (fun p hp => (fxOff p hp).2) (fun p hp => restOff p hp)
  have V : Inv size hs (view ⟨h₀, svs, Ms.map fun M => Value.ref M.x, [], [], sn, mn, 0, 0, st, [], [], Ms, plan, tp, lgOf es st, RO ++ (mObjs w.params Ms ++ NL)⟩) := by
    unfold view
    dsimp only
    rw [lgOf_tl hlen]
    exact inv_start hok hp hst
  refine execs_toks (loop_told NL (fun p hp => List.mem_append_right _ (List.mem_append_right _ hp)) K k V H (m := kset (kset (kset m (Str.ofString "logs") (.ref gl)) (Str.ofString "counts") (.ref cl)) (Str.ofString "movers") (.ref vl)) Fe (by dsimp only [psOf]; kst_all) (news_sub Nall fun p hp => ?_) (by dsimp only; omega) hE ?_)
  · rcases List.mem_append.mp hp with hp | hp
    · exact .tail _ (.tail _ (fxOff p hp).1)
    rcases List.mem_append.mp hp with hp | hp
    · simp only [Mx, List.mem_cons, List.not_mem_nil, or_false] at hp
      rcases hp with rfl | rfl | rfl | rfl
      · exact .tail _ (.tail _ (b3 _ slb))
      · exact .tail _ (.tail _ (b3 _ mlb))
      · exact .tail _ (.head _)
      · exact .head _
    rcases List.mem_append.mp hp with hp | hp
    · obtain ⟨z, hz, rfl⟩ := List.mem_map.mp hp
      obtain ⟨k, e, hk, hkl, rfl⟩ := lgOf_at hlen hz
      exact .tail _ (.tail _ (e3 _ (elE e (List.mem_of_getElem? hk))))
    · exact .tail _ (.tail _ (rest3 p hp))
  rintro c hf tkf mf kn kc Vc gc Hc Ff hmf Nf htf
  dsimp only at htf ⊢
  generalize hRR : (⟨L, sl, nl, ml, gl, cl, vl, hand, o1, o2, o3, o4', o5', nvs, ys, nn, ys.length, C, size, ts, tt, tsh, tail, sh⟩ : RC) = RR at kc Vc hmf Nf
  have rr1 : RR.L = L := by rw [← hRR]
  have rr2 : RR.gl = gl ∧ RR.cl = cl ∧ RR.vl = vl ∧ RR.gvs = ys ∧ RR.gn = ys.length ∧ RR.C = C ∧ RR.size = size := by rw [← hRR]; exact ⟨rfl, rfl, rfl, rfl, rfl, rfl, rfl⟩
  have r1 := rr2.1
  have r2 := rr2.2.1
  have r3 := rr2.2.2.1
  have r4 := rr2.2.2.2.1
  have r5 := rr2.2.2.2.2.1
  have r6 := rr2.2.2.2.2.2.1
  have r7 := rr2.2.2.2.2.2.2
  clear rr2
  rw [r7] at Vc
  have q1 : (gl, W.listOf ys.toArray ys.length) ∈ LedK RR c := by rw [← r1, ← r4]; rw [show RR.gvs.length = RR.gn by rw [r5, r4]]; exact List.mem_append_left _ (mem_at 6 rfl)
  have q2 : (C.c2, C.oc) ∈ LedK RR c := by rw [← r6]; exact List.mem_append_left _ (mem_at 8 rfl)
  have q187 : (187, tabObj C.ps) ∈ LedK RR c := by rw [← r6]; exact List.mem_append_left _ (mem_at 7 rfl)
  have q3 : (cl, W.listOf c.cvs.toArray c.cn) ∈ LedK RR c := by rw [← r2]; exact List.mem_append_right _ (List.mem_append_left _ (mem_at 2 rfl))
  have q4 : (vl, W.listOf c.vvs.toArray c.vn) ∈ LedK RR c := by rw [← r3]; exact List.mem_append_right _ (List.mem_append_left _ (mem_at 3 rfl))
  have q5 : ∀ p ∈ c.rest, p ∈ LedK RR c := fun p hp => List.mem_append_right _ (List.mem_append_right _ (List.mem_append_right _ hp))
  have q6 : ∀ z ∈ c.lg, z.obj ∈ LedK RR c := fun z hz => List.mem_append_right _ (List.mem_append_right _ (List.mem_append_left _ (List.mem_map_of_mem hz)))
  have hmf' : ∀ p ∈ [(Str.ofString "logs", Value.ref gl), (Str.ofString "counts", .ref cl), (Str.ofString "movers", .ref vl)], mf p.1 = some p.2 := by
    refine ks_cons ?_ (ks_cons ?_ (ks_cons ?_ ks_nil))
    · rw [← r1]; exact hmf (Str.ofString "logs", .ref RR.gl) (mem_at 3 rfl)
    · rw [← r2]; exact hmf (Str.ofString "counts", .ref RR.cl) (mem_at 4 rfl)
    · rw [← r3]; exact hmf (Str.ofString "movers", .ref RR.vl) (mem_at 5 rfl)
  clear hmf
  have hlgs : c.lg.map (·.e) = es := kc.lg
  have hlgl : c.lg.length = 4 := by rw [← elen, ← hlgs, List.length_map]
  generalize hLL : LedK RR c = LL at *
  have Vt := Vc.tb
  have Vtl : (c.lg.map (·.tl)).length = 4 := Vc.tlen
  change Fr c.G L hf mf at Ff
  change News c.G RR.L hf LL at Nf
  rw [rr1] at Nf
  -- the rows
  refine use_s (st := fun _ => tlAt w.params 0) (t0_told w LL) Hc Ff ks_nil Nf trivial ?_
  rintro rl hg tkg hrl Fg Ng htg
  dsimp only at htg ⊢
  have hmg : ∀ p ∈ [(Str.ofString "logs", Value.ref gl), (Str.ofString "rows", .ref rl), (Str.ofString "counts", .ref cl), (Str.ofString "movers", .ref vl)], kset mf (Str.ofString "rows") (.ref rl) p.1 = some p.2 := by
    have u1 := hmf' (Str.ofString "logs", .ref gl) (mem_at 0 rfl)
    have u2 := hmf' (Str.ofString "counts", .ref cl) (mem_at 1 rfl)
    have u3 := hmf' (Str.ofString "movers", .ref vl) (mem_at 2 rfl)
    dsimp only at u1 u2 u3
    kst_all
  refine use_se (st := fun _ => tlAt w.params 1) (t1_told w C gl rl cl vl ys ys.length c.lg LL eC (by rw [eys, ← hlgs, List.map_map]; rfl) q1 q2 (fun z hz => ?_) hrl (by omega)) Hc Fg hmg Ng hE trivial ?_
  · have hz' := kc.lgo z hz
    rw [r6] at hz'
    refine ⟨hz'.1.mono q5, q6 z hz, Nat.le_trans hz'.2 kc.c23, fun x hx => ?_⟩
    obtain ⟨i, hi⟩ := List.mem_iff_getElem?.mp hz
    have hi4 : i < 4 := by
      rcases Nat.lt_or_ge i c.lg.length with q | q
      · omega
      · rw [List.getElem?_eq_none q] at hi; cases hi
    have hb := Vt i hi4 x (by
      show x ∈ (c.lg.map (·.tl)).getD i []
      rw [List.getD_eq_getElem?_getD, List.getElem?_map, hi]
      exact hx)
    exact ⟨hb.1, Int.lt_of_lt_of_le hb.2 (by rcases hok.sz with e | e <;> omega)⟩
  rintro rn ds hh' tkh mh hds Fh hmh Nh hth
  dsimp only at hth ⊢
  rw [hlgl] at hds
  refine use_s (st := fun _ => tlAt w.params 2) (t2_told w cl vl rl (RwLd rl LL (rn, ds))) Hc Fh (ks_cons (hmh (Str.ofString "counts", .ref cl) (mem_at 2 rfl)) (ks_cons (hmh (Str.ofString "movers", .ref vl) (mem_at 3 rfl)) (ks_cons (hmh (Str.ofString "rows", .ref rl) (mem_at 1 rfl)) ks_nil))) Nh trivial ?_
  rintro ret hi' tki hret Fi Ni hti
  dsimp only
  refine h ret cl vl rl c.cvs c.vvs c.cn c.vn rn ds C.ps (view c) c.G hi' tki mh Vc gc kc.c23 kc.cvs kc.vvs hds Hc Fi (news_sub Ni fun p hp => ?_)
  revert p
  exact all_cons (.head _) (all_cons (.tail _ (.tail _ (List.mem_append_right _ q3)))  (all_cons (.tail _ (.tail _ (List.mem_append_right _ q4)))   (all_cons (.tail _ (.head _))    (all_app (fun p hp => .tail _ (.tail _ (List.mem_append_left _ hp)))     (all_cons (.tail _ (.tail _ (List.mem_append_right _ q187)))      (fun p hp => .tail _ (.tail _ (List.mem_append_right _ (q5 p (kn p hp))))))))))
end
end Mine
end
theorem Mine.forget_RM : True ∧ True := by first | (walk1; all_goals trivial; done) | exact ⟨trivial, trivial⟩
section
namespace Mine
theorem cells5 {cm : Str → Option Value} {n1 n2 n3 n4 n5 : Str} {a1 a2 a3 a4 a5 : Addr} {cells : List (Addr × Obj)} (Y : CellsAre cm [(n1, a1), (n2, a2), (n3, a3), (n4, a4), (n5, a5)] cells) :
    ∃ o1 o2 o3 o4 o5, cells = [(a1, o1), (a2, o2), (a3, o3), (a4, o4), (a5, o5)] ∧ o1.data = .cell (cm n1) ∧ o2.data = .cell (cm n2) ∧ o3.data = .cell (cm n3) ∧ o4.data = .cell (cm n4) ∧ o5.data = .cell (cm n5) := by
  cases Y with | cons h1 Y =>
  cases Y with | cons h2 Y =>
  cases Y with | cons h3 Y =>
  cases Y with | cons h4 Y =>
  cases Y with | cons h5 Y =>
  cases Y
  exact ⟨_, _, _, _, _, rfl, h1, h2, h3, h4, h5⟩
section
variable {w : World} {mean : ExcName → Option Value} {mg mb : Str → Option Value} {dp un : Nat} {gd : Option (List Code)} {cn : Str} {cs : Scope} {a : Addr} {ccd : Value} {cl : List (Str × Addr)} {outer : List Env} {A₀ : Around} {base g₀ h₀ : Heap} {L : Addr} {m : Str → Option Value} {s : Shared} {Q E : Value → Shared → Prop}
theorem run_told (sl hand : Addr) (svs : List Value) (sn sh : Nat) (st hs : List Int) (size plan : Int) (tail : Str) (ts tp tsh tt : Tok) (NL : List (Addr × Obj)) (hi : IntsAre svs st) (hok : StOk size st) (hp : 0 ≤ plan ∧ plan < 10 ^ 9) (hsh : sh < 29) (htl : tail ∈ tails) (hh : hand = 157 ∨ hand = 164 ∨ hand = 171)
    (hst : ∀ k, k < 4 → st.getD k 0 = hs.getD k 0 % size) (h187 : ∀ p ∈ (sl, W.listOf svs.toArray sn) :: NL, p.1 ≠ 187) (hsl : ∀ p ∈ NL, p.1 ≠ sl)
    (B : Below A₀ base outer h₀) (F : Fr h₀ L s.heap m) (X : Frag.In (hd.heap_39 w.params) h₀) (N : News h₀ L s.heap ((187, tabObj #[]) :: (sl, W.listOf svs.toArray sn) :: NL)) (T : Top topProg lo mean mg mb h₀) (XB : Frag.In (hd.heap_39 w.params) base) (TB : Top topProg lo mean mg mb base)
    (D : KtsDicts (outer.filterMap (·.frame)) h₀) (T0 : KtsTurn (outer.filterMap (·.frame)) g₀ h₀) (hk : cs.kind = .function) (hd : dp + 300 < recursionLimit) (hu : un + 3000 < cLine) (hs0 : 0 < s.toks)
    (h : ∀ (ret cl vl rl : Addr) (cvs vvs : List Value) (cn vn rn : Nat) (ds : List (Addr × List Value)) (ps : Array Value) (c : PS) (h₀' h' : Heap) (tk : Nat), Inv size hs c → guard c.counts = false → c.counts.length ≤ 23 → IntsAre cvs c.counts → IntsAre vvs c.movers → RowsAt c.tls 4 ds → KtsTurn (outer.filterMap (·.frame)) g₀ h₀' → Fr h₀' L h' m →
      News h₀' L h' ((ret, W.listOf #[.ref cl, .ref vl, .ref rl] 0) :: (cl, W.listOf cvs.toArray cn) :: (vl, W.listOf vvs.toArray vn) :: (rl, W.listOf (rwRefs ds).toArray rn) :: (rwObjs ds ++ (187, tabObj ps) :: NL)) → Below A₀ base outer h₀' → Frag.In (Mine.hd.heap_39 w.params) h₀' → Top topProg lo mean mg mb h₀' → KtsDicts (outer.filterMap (·.frame)) h₀' →
        Q (.ref ret) { s with heap := h', toks := tk }) :
    wpAny (model PySem.Challenge.rw_xe0044_01.row.prog w) (ktrTop dp un gd cn cs L a ccd cl outer) (call (.ref 204) [.ref sl, .int size ts, .int plan tp, .int (sh : Int) tsh, .str tail tt, .ref hand]) Q E s := by
  revert hd hu T0 D TB XB T N X F B
  k_fill
  intro B F X N T XB TB D T0 hd hu
  refine wpAny_call ?_
  k_dflt (refine' code_defSXC ?k1 ?k2 ?k3 ?k4 ?k5 ?XB ?TB ?D ?T0 ?kA ?kF ?cK ?k6 ?k7 ?k8 ?k9 ?kB ?kD ?_ ?c2 ?c3 ?c4; (case kA => exact rfl); (case kF => exact rfl); (case k2 => k_asm); (case k1 => k_asm); (case XB => assumption); (case TB => assumption); (case D => assumption); (case T0 => assumption); (case k3 => k_asm); (case k4 => k_asm); (case k5 => k_asm); (case k6 => k_is); (case k7 => k_is); (case k8 => ktr_room); (case k9 => exact BindsTo.of_eq rfl); (case kB => exact rfl); (case kD => decide +kernel); (case cK => assumption); (case c2 => exact rfl); (case c3 => exact rfl); (case c4 => exact rfl); k_whole)
  intro g L' h' tk' cells FG F' N' Y B' X' T' D' l1 htk
  obtain ⟨oM, oN, oH, oS, oT, rfl, d1, d2, d3, d4, d5⟩ := cells5 Y
  have e1 := cell_of d1 (b := none) (by kernel_rfl)
  have e2 := cell_of d2 (b := none) (by kernel_rfl)
  have e3 := cell_of d3 (b := (some (.ref hand))) (by kernel_rfl)
  have e4 := cell_of d4 (b := (some (.int (sh : Int) tsh))) (by kernel_rfl)
  have e5 := cell_of d5 (b := (some (.ref sl))) (by kernel_rfl)
  clear d1 d2 d3 d4 d5 Y
  (try k_lift B')
  refine run_body (s := ⟨h', s.gens, s.drawn, tk', s.os⟩) (m := bindL _ _ _) (outer := envX cn cs L a ccd cl :: outer) (A₀ := ktrTop dp un gd cn cs L a ccd cl outer) (base := base) (g₀ := g) (h₀ := g) (dp := dp + 1) (un := un + 3) (gd := gd) sl hand svs sn sh st hs size plan tail ts tp tsh tt oT oS oH oN oM NL hi hok hp hsh htl hh hst h187 hsl l1 e5 e4 e3 e2 e1 ?m1 ?m2 ?m3 ⟨B', X', T', XB, TB, D', KtsTurn.refl, by omega, by omega⟩ F' N' (by dsimp only; omega) ?pe ?hh
  case m1 => kernel_rfl
  case m2 => kernel_rfl
  case m3 => kernel_rfl
  case pe => passes_own
  case hh =>
    intro ret cl' vl rl cvs vvs cn' vn rn ds ps c g' h9 tk9 m9 V9 gc lc i1 i2 i3 H9 F9 N9
    exact leaveS_r F9 N9 H9.T0 fun h₀' T0' F0 N0 B0 X0 Tp0 D0 => h ret cl' vl rl cvs vvs cn' vn rn ds ps c h₀' h9 tk9 V9 gc lc i1 i2 i3 T0' F0 N0 B0 X0 Tp0 D0
end
end Mine
end
theorem Mine.forget_RN : True ∧ True := by first | (walk1; all_goals trivial; done) | exact ⟨trivial, trivial⟩
section
namespace Mine
section
variable {prog : Program} {w : World} {A : Around} {R : Result → Shared → Prop} {s : Shared} {elt t0 i0 : PySem.Expr} {scope : Scope} {pos : Pos} {it acc : Value} {env : Env}
theorem loop_go (I : Nat → Shared → Prop)
    (turn : ∀ n s, I n s → wpAny (model prog w) A (pyNext it) (fun r s₁ => match r with
      | none => R (.ok .next) s₁
      | some v => wpAny (model prog w) A (letOwnedTupleGo t0 it v) (fun _ s₁' => wpAny (model prog w) A (assign t0 env v) (fun _ s₂ => wpAny (model prog w) A (eval elt env) (fun x s₃ =>
          wpAny (model prog w) A (call (.builtin "list.append") [acc, x]) (fun _ s₄ => ∃ m, m < n ∧ I m s₄) (notedBy (model prog w) A env fun e s' => R (.error e) s') s₃)
          (notedBy (model prog w) A env fun e s' => R (.error e) s') s₂) (notedBy (model prog w) A env fun e s' => R (.error e) s') s₁') (notedBy (model prog w) A env fun e s' => R (.error e) s') s₁) (notedBy (model prog w) A env fun e s' => R (.error e) s') s)
    (n : Nat) (h : I n s) :
    codeAny (model prog w) A (.compLoop (.ListComp elt [⟨t0, i0, [], 0⟩] scope pos) 0 it acc env) R s := by
  refine codeAny_loop rfl I (fun n s hI => ?_) n h
  show wpAny _ _ ((compTurn (.ListComp elt [⟨t0, i0, [], 0⟩] scope pos) 0 it acc env).onRaise (fun x => do noteFrame x env; theTreesLotGoes x)) _ _ s
  refine wpAny_noted ?_
  rw [compTurn_list]
  refine wpAny_bind (wpAny_standAt (wpAny_bind (wpAny_mono (turn n s hI) (fun r s₁ h₁ => ?_) fun _ _ h' => h')))
  cases r with
  | none => exact wpAny_pure h₁
  | some v =>
    refine wpAny_bind (wpAny_mono h₁ (fun _ s₁' h₁' => wpAny_bind (wpAny_mono h₁' (fun _ s₂ h₂ => wpAny_bind (wpAny_tests_nil ?_)) fun _ _ h' => h')) fun _ _ h' => h')
    exact wpAny_bind (wpAny_bind (wpAny_mono h₂ (fun x s₃ h₃ => wpAny_bind (wpAny_mono h₃ (fun _ s₄ h₄ => wpAny_pure (wpAny_pure ⟨rfl, h₄⟩)) fun _ _ h' => h')) fun _ _ h' => h'))
end
section
variable {prog : Program} {w : World} {A : Around} {E : Value → Shared → Prop} {s₂ : Shared} {elt i0 : PySem.Expr} {scope : Scope} {cl : List (Str × Addr)} {pos px pv pt : Pos} {kt : Nat} {env : Env} {xi xv : Str} {h₀ : Heap} {L e it l : Addr} {m : Str → Option Value} {items : Array Value} {news : List (Addr × Obj)} {ol : Obj}
/-- one item of the enumeration -/
noncomputable def EnTurn (prog : Program) (w : World) (A : Around) (h₀ : Heap) (L : Addr) (m : Str → Option Value) (env : Env) (elt : PySem.Expr) (xi xv : Str) (scope : Scope) (cl : List (Str × Addr)) (e it : Addr) (s : Shared) (news : List (Addr × Obj)) (i : Nat) (v : Value) (V : Value → Prop) : Prop :=
  ∀ oe oit C oC D ys m₂ t h tk (E' : Value → Shared → Prop), LCg.NsObj oC m₂ → m₂ xi = some (.int ((i : Nat) : Int) t) → m₂ xv = some v → Fr h₀ L h m → News h₀ L h ((e, oe) :: (it, oit) :: (C, oC) :: (D, LCg.lst ys) :: news) →
    wpAny (model prog w) A (eval elt (compEnvC scope cl C env)) (fun y s'' => V y ∧ SameEnd h₀ L m { s with heap := h, toks := tk } ((e, oe) :: (it, oit) :: (C, oC) :: (D, LCg.lst ys) :: news) s'') E' { s with heap := h, toks := tk }
theorem enum_block {RR : Value → Addr → Result → Shared → Prop} (V : Nat → Value → Prop) (J : Nat → List Value → Prop) (hJ : ∀ i ys y, i < items.size → J i ys → V i y → J (i + 1) (ys ++ [y])) (hJ0 : J 0 []) (hJl : ∀ i ys, J i ys → ys.length = i)
    (hh : A.handled = none) (hei : e ≠ it) (hle : l ≠ e) (hli : l ≠ it) (hsz : items.size ≤ sizeLine)
    (hcell : ∀ y ∈ scope.names, y.2 ≠ .cell) (hkind : scope.kind = .function) (hxi : scope.names.lookup xi = some .local) (hxv : scope.names.lookup xv = some .local) (hne : xi ≠ xv)
    (hE : ∃ old, IsEnum s₂.heap e it 0 old) (hI : s₂.heap.IsListIter it l 0) (hm : (l, ol) ∈ news) (hoc : ol.cls = .type "list") (hod : ∃ n, ol.data = .seq items n)
    (F : Fr h₀ L s₂.heap m) (N : News h₀ L s₂.heap news) (heL : L ≠ e) (he₀ : h₀.get? e = none) (hIL : L ≠ it) (hI₀ : h₀.get? it = none) (offe : ∀ p ∈ news, p.1 ≠ e) (offi : ∀ p ∈ news, p.1 ≠ it)
    (turn : ∀ (i : Nat) (v : Value), items[i]? = some v → EnTurn prog w A h₀ L m env elt xi xv scope cl e it s₂ news i v (V i))
    (hRR : ∀ D C h tk m' ys, J items.size ys → Fr h₀ L h m → News h₀ L h ((D, LCg.lst ys) :: news) → LCg.Off1 D news → h.Ns C m' → h₀.get? C = none → h₀.get? D = none → C ≠ L → D ≠ L → C ≠ D → (∀ p ∈ news, p.1 ≠ C) → RR (.ref D) C (.ok .next) { s₂ with heap := h, toks := tk }) :
    wpAny (model prog w) A (newList []) (fun acc s₃ => wpAny (model prog w) A (newFunctionEnv scope env.globals cl [] env.qual none .none (some env)) (fun cenv s₄ =>
      codeAny (model prog w) A (.compStart (.ListComp elt [⟨.Tuple [.Name xi px, .Name xv pv] kt pt, i0, [], 0⟩] scope pos) 0 (.ref e) acc { cenv with scope := relabel scope env }) (RR acc cenv.locals) s₄) E s₃) E s₂ := by
  have W := WalksT.enumerate (prog := prog) (w := w) hh e it l hei hle hli items
  refine wpAny_newObj_type (wpAny_newFunctionEnv hcell (by intro y hy; simp at hy) (fun h₁ hns₁ hsb₁ => ?_) hkind)
  dsimp only at hns₁ hsb₁ ⊢
  generalize hH2 : s₂.heap.push { cls := .type "list", dict := none, data := .seq ([] : List Value).toArray } = H2 at hns₁ hsb₁ ⊢
  have hC : H2.objs.size = s₂.heap.objs.size + 1 := by rw [← hH2, Heap.size_push]
  have hDC : s₂.heap.objs.size ≠ H2.objs.size := by rw [hC]; exact Nat.ne_of_lt (Nat.lt_succ_self _)
  have below : ∀ b, b < s₂.heap.objs.size → b ≠ H2.objs.size ∧ b ≠ s₂.heap.objs.size := fun b hb => ⟨by rw [hC]; exact Nat.ne_of_lt (Nat.lt_succ_of_lt hb), Nat.ne_of_lt hb⟩
  have hilt : it < s₂.heap.objs.size := by obtain ⟨_, e, _⟩ := hI; exact Heap.lt_size e
  have helt : e < s₂.heap.objs.size := by obtain ⟨_, e⟩ := hE; exact Heap.lt_size e
  have old : ∀ b o, s₂.heap.get? b = some o → h₁.get? b = some o := fun b o e => hsb₁.extBut b o (below b (Heap.lt_size e)).1 (Heap.get?_push_of_some _ (hH2 ▸ Heap.get?_push_of_some _ e))
  have hacc : h₁.get? s₂.heap.objs.size = some (LCg.lst []) := hsb₁.extBut _ _ hDC (Heap.get?_push_of_some _ (hH2 ▸ Heap.get?_push_size _ rfl))
  have fresh : ∀ a, s₂.heap.objs.size ≤ a → s₂.heap.get? a = none := fun a ha => by
    cases e : s₂.heap.get? a with
    | none => rfl
    | some o' => exact absurd (Heap.lt_size e) (Nat.not_lt.mpr ha)
  have fresh₀ : ∀ a, s₂.heap.objs.size ≤ a → h₀.get? a = none := fun a ha => by
    cases e : h₀.get? a with
    | none => rfl
    | some o' => have := F.keep a o' e; rw [fresh a ha] at this; cases this
  have hD₀ : h₀.get? s₂.heap.objs.size = none := fresh₀ _ (Nat.le_refl _)
  have hC₀ : h₀.get? H2.objs.size = none := fresh₀ _ (by rw [hC]; exact Nat.le_succ _)
  have hLlt : L < s₂.heap.objs.size := F.ns.lt
  have hDL : s₂.heap.objs.size ≠ L := Ne.symm (below L hLlt).2
  have hCL : H2.objs.size ≠ L := Ne.symm (below L hLlt).1
  have hCi : it ≠ H2.objs.size := (below it hilt).1
  have hDi : it ≠ s₂.heap.objs.size := (below it hilt).2
  have hCe : e ≠ H2.objs.size := (below e helt).1
  have hDe : e ≠ s₂.heap.objs.size := (below e helt).2
  have off₀ : ∀ p ∈ news, p.1 ≠ H2.objs.size ∧ p.1 ≠ s₂.heap.objs.size := fun p hp => below _ (Heap.lt_size (N p hp).1)
  have hE₁ : ∃ old, IsEnum h₁ e it 0 old := hE.elim fun x hx => ⟨x, old _ _ hx⟩
  have hIt₁ : h₁.IsListIter it l 0 := hI.at fun o e => old _ _ e
  have list_of : ∀ {h : Heap}, News h₀ L h news → h.IsList l items := fun N' => ⟨ol, (N' _ hm).1, hoc, hod⟩
  have N₁ : News h₀ L h₁ ((s₂.heap.objs.size, LCg.lst []) :: news) := fun p hp => by
    rcases List.mem_cons.mp hp with rfl | hp
    · exact ⟨hacc, hDL, hD₀⟩
    · exact ⟨old _ _ (N p hp).1, (N p hp).2⟩
  have F₁ : Fr h₀ L h₁ m := F.keeps old
  generalize s₂.heap.objs.size = D at *
  generalize H2.objs.size = C at *
  have hnC : ∀ p ∈ news, p.1 ≠ C := fun p hp => (off₀ p hp).1
  have hnD : ∀ p ∈ news, p.1 ≠ D := fun p hp => (off₀ p hp).2
  have oneD : LCg.Off1 D news := by
    clear N N₁ turn hRR hm offe offi off₀ hnC list_of
    induction news with
    | nil => trivial
    | cons p r ih => exact ⟨hnD p (.head _), ih fun q hq => hnD q (.tail _ hq)⟩
  have loop : ∀ tk₀, codeAny (model prog w) A (.compLoop (.ListComp elt [⟨.Tuple [.Name xi px, .Name xv pv] kt pt, i0, [], 0⟩] scope pos) 0 (.ref e) (.ref D) (compEnvC scope cl C env)) (RR (.ref D) C) { s₂ with heap := h₁, toks := tk₀ } := by
    intro tk₀
    refine loop_go (fun k s' => ∃ i h tk m' ys, s' = { s₂ with heap := h, toks := tk } ∧ i ≤ items.size ∧ k = items.size + 1 - i ∧ (∃ old, IsEnum h e it i old) ∧ h.IsListIter it l i ∧ Fr h₀ L h m ∧ h.Ns C m' ∧ News h₀ L h ((D, LCg.lst ys) :: news) ∧ J i ys) ?_ (items.size + 1) ⟨0, h₁, _, _, [], rfl, Nat.zero_le _, rfl, hE₁, hIt₁, F₁, hns₁, N₁, hJ0⟩
    rintro k s' ⟨i, h, tk, m', ys, rfl, hi, rfl, hR⟩
    have hEn := hR.1
    have st := hR.2.1
    have F' := hR.2.2.1
    have hC' := hR.2.2.2.1
    have N' := hR.2.2.2.2.1
    have hJi := hR.2.2.2.2.2
    clear hR
    have Nn : News h₀ L h news := fun p hp => N' p (.tail _ hp)
    have ND : ∀ p ∈ (D, LCg.lst ys) :: news, p.1 ∉ [e, it] := fun p hp hm => by
      have h2 : p.1 = e ∨ p.1 = it := by simpa using hm
      rcases List.mem_cons.mp hp with rfl | hp
      · exact h2.elim (fun x => hDe x.symm) fun x => hDi x.symm
      · exact h2.elim (offe p hp) (offi p hp)
    have news2 : ∀ {h h' : Heap}, News h₀ L h ((D, LCg.lst ys) :: news) → (∀ b o, b ∉ [e, it] → h.get? b = some o → h'.get? b = some o) → News h₀ L h' ((D, LCg.lst ys) :: news) := fun N hk p hp => ⟨hk _ _ (ND p hp) (N p hp).1, (N p hp).2⟩
    have fr2 : ∀ {h h' : Heap}, Fr h₀ L h m → (∀ b o, b ∉ [e, it] → h.get? b = some o → h'.get? b = some o) → Fr h₀ L h' m := fun F hk => ⟨F.ns.at' fun o q => hk _ o (by simp [heL, hIL]) q, fun b o q => hk b o (fun hm => by
      have h2 : b = e ∨ b = it := by simpa using hm
      rcases h2 with h2 | h2
      · rw [h2, he₀] at q; cases q
      · rw [h2, hI₀] at q; cases q) (F.keep b o q), F.above⟩
    have ns2 : ∀ {h h' : Heap} {q : Str → Option Value}, h.Ns C q → (∀ b o, b ∉ [e, it] → h.get? b = some o → h'.get? b = some o) → h'.Ns C q := fun n hk => n.at' fun o x => hk _ o (by simp [Ne.symm hCe, Ne.symm hCi]) x
    by_cases hlt : i < items.size
    · refine W.item i _ _ _ hlt ⟨hEn, st, list_of Nn⟩ fun T vals h₂ tk₂ hP hge hT hMid hk₂ => ?_
      obtain ⟨t, x, hx, rfl⟩ := hP
      dsimp only
      have F₂ := fr2 F' hk₂
      have N₂ := news2 N' hk₂
      have C₂ := ns2 hC' hk₂
      refine W.go _ _ _ i T _ _ _ hMid fun h₃ st₃ hk₃ => ?_
      have F₃ := fr2 F₂ hk₃
      have N₃ := news2 N₂ hk₃
      have C₃ := ns2 C₂ hk₃
      have hT₃ : h₃.IsTuple T #[.int ((i : Nat) : Int) t, x] := by
        obtain ⟨o, ho, r⟩ := hT
        exact ⟨o, hk₃ _ _ (W.apart _ _ _ hMid) ho, r⟩
      dsimp only
      refine wpAny_assign_Tuple (s := { s₂ with heap := h₃, toks := tk₂ }) hh hT₃ rfl rfl fun h₄ he₄ => ?_
      have up₄ : ∀ b o, h₃.get? b = some o → h₄.get? b = some o := fun b o x => he₄ b o (Nat.ne_of_lt (Heap.lt_size x)) x
      have F₄ : Fr h₀ L h₄ m := F₃.keeps up₄
      have N₄ : News h₀ L h₄ ((D, LCg.lst ys) :: news) := N₃.grown up₄
      have C₄ : h₄.Ns C m' := C₃.at' fun o x => up₄ _ o x
      have st₄ := W.frame _ _ h₄ st₃ fun b _ o x => up₄ b o x
      refine assignInOrder_cons (wpAny_assign_Name (wpAny_storeName_local (lookup_relabel_local hxi) C₄ (fun h₅ hn₅ hs₅ => ?_) (by simp [compEnvC, relabel, hkind])))
      refine assignInOrder_cons (wpAny_assign_Name (wpAny_storeName_local (lookup_relabel_local hxv) hn₅ (fun h₆ hn₆ hs₆ => assignInOrder_nil ?_) (by simp [compEnvC, relabel, hkind])))
      have hn₆' : h₆.Ns C (fun z => if z = xv then some x else if z = xi then some (.int ((i : Nat) : Int) t) else m' z) := hn₆
      have hs₅' : Heap.SameBut C h₄ h₅ := hs₅
      have hs₆' : Heap.SameBut C h₅ h₆ := hs₆
      have sb : ∀ b o, b ≠ C → h₄.get? b = some o → h₆.get? b = some o := fun b o n x => hs₆'.extBut b o n (hs₅'.extBut b o n x)
      have wrC : ∀ b ∈ [e, it, l], b ≠ C := fun b hb => by
        have h2 : b = e ∨ b = it ∨ b = l := by simpa using hb
        rcases h2 with rfl | rfl | rfl
        · exact hCe
        · exact hCi
        · exact hnC _ hm
      have st₆ := W.frame _ _ h₆ st₄ fun b hb o x => sb b o (wrC b hb) x
      obtain ⟨⟨old6, hE₆⟩, hI₆, hL₆⟩ := st₆
      obtain ⟨oit, heI, hoI⟩ := hI₆
      obtain ⟨oC, heC, hoC⟩ := LCg.ns_obj hn₆'
      have F₆ : Fr h₀ L h₆ m := (F₄.change hs₅' hCL hC₀).change hs₆' hCL hC₀
      have N₆ : News h₀ L h₆ ((e, _) :: (it, oit) :: (C, oC) :: (D, LCg.lst ys) :: news) := fun p hp => by
        rcases List.mem_cons.mp hp with rfl | hp
        · exact ⟨hE₆, Ne.symm heL, he₀⟩
        rcases List.mem_cons.mp hp with rfl | hp
        · exact ⟨heI, Ne.symm hIL, hI₀⟩
        rcases List.mem_cons.mp hp with rfl | hp
        · exact ⟨heC, hCL, hC₀⟩
        · refine ⟨sb _ _ ?_ (N₄ p hp).1, (N₄ p hp).2⟩
          rcases List.mem_cons.mp hp with rfl | hp
          · exact hDC
          · exact hnC p hp
      refine wpAny_mono (turn i x hx _ oit C oC D ys _ t h₆ _ _ hoC (by simp [hne]) (by simp) F₆ N₆) (fun y s₇ h₇ => ?_) fun _ _ e => e
      obtain ⟨hV, h₇, tk₇, rfl, F₇, N₇⟩ := h₇
      have zD := (N₇ (D, LCg.lst ys) (.tail _ (.tail _ (.tail _ (.head _))))).1
      refine append_at (hsz := by show ys.toArray.size ≤ sizeLine; rw [List.size_toArray, hJl _ _ hJi]; exact Nat.le_trans hi hsz) zD fun h₈ hs₈ hD₈ => ?_
      refine ⟨items.size + 1 - (i + 1), by omega, i + 1, h₈, tk₇, _, ys ++ [y], rfl, hlt, rfl, ⟨old6, hs₈.extBut _ _ hDe (N₇ _ (.head _)).1⟩, ⟨oit, hs₈.extBut _ _ hDi (N₇ _ (.tail _ (.head _))).1, hoI⟩, F₇.change hs₈ hDL hD₀, (hoC.ns (N₇ (C, oC) (.tail _ (.tail _ (.head _)))).1).sameBut hs₈ (Ne.symm hDC), fun p hp => ?_, hJ i ys y hlt hJi hV⟩
      rcases List.mem_cons.mp hp with rfl | hp
      · exact ⟨hD₈.trans (congrArg some (LCg.lst_snoc ys y)), hDL, hD₀⟩
      · exact ⟨hs₈.extBut _ _ (hnD p hp) (N₇ p (.tail _ (.tail _ (.tail _ (.tail _ hp))))).1, (N₇ p (.tail _ (.tail _ (.tail _ (.tail _ hp))))).2⟩
    · obtain rfl : i = items.size := Nat.le_antisymm hi (Nat.not_lt.mp hlt)
      refine W.done _ _ _ ⟨hEn, st, list_of Nn⟩ fun h₂ tk₂ hk₂ => ?_
      exact hRR _ _ h₂ tk₂ m' ys hJi (fr2 F' hk₂) (news2 N' hk₂) oneD (ns2 hC' hk₂) hC₀ hD₀ hCL hDL (Ne.symm hDC) hnC
  exact codeAny_compStart_list (loop _) (W.self 0 _ _ _ ⟨hE₁, hIt₁, list_of (fun p hp => N₁ p (.tail _ hp))⟩ (loop _))
/-- what the enumeration's call gives -/
noncomputable def EnSrc (prog : Program) (w : World) (A : Around) (h₀ : Heap) (L : Addr) (m : Str → Option Value) (env : Env) (elt : PySem.Expr) (xi xv : Str) (scope : Scope) (cl : List (Str × Addr)) (n : Nat) (V : Nat → Value → Prop) (J : Nat → List Value → Prop) (Q : Value → Shared → Prop) (x : Value) (s₁ : Shared) : Prop :=
  ∃ (items : Array Value) (e it l : Addr) (ol : Obj) (news : List (Addr × Obj)), items.size = n ∧ x = .ref e ∧ e ≠ it ∧ l ≠ e ∧ l ≠ it ∧ (∃ old, IsEnum s₁.heap e it 0 old) ∧ s₁.heap.IsListIter it l 0 ∧ (l, ol) ∈ news ∧ ol.cls = .type "list" ∧ (∃ n, ol.data = .seq items n) ∧ Fr h₀ L s₁.heap m ∧ News h₀ L s₁.heap news ∧ L ≠ e ∧ h₀.get? e = none ∧ L ≠ it ∧ h₀.get? it = none ∧ (∀ p ∈ news, p.1 ≠ e) ∧ (∀ p ∈ news, p.1 ≠ it) ∧
    (∀ (i : Nat) (v : Value), items[i]? = some v → EnTurn prog w A h₀ L m env elt xi xv scope cl e it s₁ news i v (V i)) ∧
    ∀ D h tk ys, J n ys → Fr h₀ L h m → News h₀ L h ((D, LCg.lst ys) :: news) → LCg.Off1 D news → Q (.ref D) { s₁ with heap := h, toks := tk }
theorem comp_enum {s : Shared} {Q : Value → Shared → Prop} (n : Nat) (V : Nat → Value → Prop) (J : Nat → List Value → Prop) (hJ : ∀ i ys y, i < n → J i ys → V i y → J (i + 1) (ys ++ [y])) (hJ0 : J 0 []) (hJl : ∀ i ys, J i ys → ys.length = i) (hh : A.handled = none) (hsz : n ≤ sizeLine)
    (hclos : closureFor scope env = pure cl) (hcell : ∀ y ∈ scope.names, y.2 ≠ .cell) (hkind : scope.kind = .function)
    (hnames : ∀ y ∈ scope.names, y.2 = .local → scope.names.lookup y.1 = some .local) (hxi : scope.names.lookup xi = some .local) (hxv : scope.names.lookup xv = some .local) (hne : xi ≠ xv)
    (h : wpAny (model prog w) A (eval i0 env) (EnSrc prog w A h₀ L m env elt xi xv scope cl n V J Q) E s)
    (hs : ∀ x, foldedSetIterable i0 env x = pure x := by intro _; rfl) :
    wpAny (model prog w) A (eval (.ListComp elt [⟨.Tuple [.Name xi px, .Name xv pv] kt pt, i0, [], 0⟩] scope pos) env) Q E s := by
  rw [eval_ListComp]
  refine wpAny_comprehension_free (use := none) rfl hs hclos hkind hnames (wpAny_mono h (fun x s₁ h₁ => ?_) fun _ _ e => e)
  obtain ⟨items, e, it, l, ol, news, rfl, rfl, hR⟩ := h₁
  have hei := hR.1
  have hle := hR.2.1
  have hli := hR.2.2.1
  obtain ⟨old, hE⟩ := hR.2.2.2.1
  have hI := hR.2.2.2.2.1
  have hm := hR.2.2.2.2.2.1
  have hoc := hR.2.2.2.2.2.2.1
  have hod := hR.2.2.2.2.2.2.2.1
  have F := hR.2.2.2.2.2.2.2.2.1
  have N := hR.2.2.2.2.2.2.2.2.2.1
  have heL := hR.2.2.2.2.2.2.2.2.2.2.1
  have he₀ := hR.2.2.2.2.2.2.2.2.2.2.2.1
  have hIL := hR.2.2.2.2.2.2.2.2.2.2.2.2.1
  have hI₀ := hR.2.2.2.2.2.2.2.2.2.2.2.2.2.1
  have offe := hR.2.2.2.2.2.2.2.2.2.2.2.2.2.2.1
  have offi := hR.2.2.2.2.2.2.2.2.2.2.2.2.2.2.2.1
  have turn := hR.2.2.2.2.2.2.2.2.2.2.2.2.2.2.2.2.1
  have fin := hR.2.2.2.2.2.2.2.2.2.2.2.2.2.2.2.2.2
  clear hR
  refine wpAny_pyIter_enum hE ?_
  refine enum_block V J hJ hJ0 hJl hh hei hle hli hsz hcell hkind hxi hxv hne ⟨old, hE⟩ hI hm hoc hod F N heL he₀ hIL hI₀ offe offi turn ?_
  intro D C h tk m' ys hys F' N' o1 hn hC₀ hD₀ hCL hDL hCD offC
  refine ⟨m', hn, fun h'' hs'' => fin D h'' tk ys hys (F'.change hs'' hCL hC₀) (fun p hp => ?_) o1⟩
  refine ⟨hs''.extBut _ _ ?_ (N' p hp).1, (N' p hp).2⟩
  rcases List.mem_cons.mp hp with rfl | hp
  · exact Ne.symm hCD
  · exact offC p hp
end
end Mine
end
theorem Mine.forget_LW0 : True ∧ True := by first | (walk1; all_goals trivial; done) | exact ⟨trivial, trivial⟩
section
namespace Mine
noncomputable def lawGet : Option Obj → Option (Scope × List Stmt)
  | some ⟨_, _, .func fd, _⟩ => (match fd.body with
    | .stmts l => some (fd.scope, l)
    | _ => none)
  | _ => none
noncomputable def lawDef (P : Params) : { x : Scope × List Stmt // lawGet ((hd.heap_39 P).lookup 216) = some x } := ⟨_, rfl⟩
noncomputable def lawScope (P : Params) : Scope := (lawDef P).1.1
noncomputable def lawBody (P : Params) : List Stmt := (lawDef P).1.2
noncomputable def lwAt (P : Params) (k : Nat) : Stmt := stGo k (lawBody P)
noncomputable def LN (w : World) (L fa : Addr) (cd : Value) : Env := envOfC (Str.ofString "law") (lawScope w.params) L fa cd
noncomputable abbrev lawTop (w : World) (dp un : Nat) (gd : Option (List Code)) (L fa : Addr) (cd : Value) (outer : List Env) : Around := ktrTop dp un gd (Str.ofString "law") (lawScope w.params) L fa cd (cellsFrom (L + 1) (lawScope w.params).names []) outer
/-- what a statement of law does, from any place -/
noncomputable abbrev LX (w : World) (st : Env → Stmt) (ps : List (Str × Value)) (news : Addr → List (Addr × Obj)) (pre : Heap → Addr → Shared → Prop) (post : Post) : Prop :=
  ∀ (mean : ExcName → Option Value) (mg mb : Str → Option Value) (dp un : Nat) (gd : Option (List Code)) (fa : Addr) (cd : Value) (outer : List Env) (A₀ : Around) (base h₀ : Heap) (L : Addr) (m : Str → Option Value) (s : Shared) (Q : Flow → Shared → Prop) (R : Value → Shared → Prop),
    Below A₀ base outer h₀ → Fr h₀ L s.heap m → (∀ p ∈ ps, m p.1 = some p.2) → Frag.In (hd.heap_39 w.params) h₀ → News h₀ L s.heap (news L) → Top topProg lo mean mg mb h₀ →
    dp + 400 < recursionLimit → un + 4000 < cLine → pre h₀ L s → post h₀ L m s Q →
      wpAny (model PySem.Challenge.rw_xe0044_01.row.prog w) (lawTop w dp un gd L fa cd outer) (exec (st (LN w L fa cd)) (LN w L fa cd)) Q R s
theorem law_list (P : Params) : lawBody P = [lwAt P 0, lwAt P 1, lwAt P 2, lwAt P 3, lwAt P 4, lwAt P 5, lwAt P 6, lwAt P 7, lwAt P 8, lwAt P 9] := rfl
theorem sum_bd : ∀ {xs : List Int}, (∀ x ∈ xs, 0 ≤ x ∧ x < 10 ^ 6) → 0 ≤ xs.sum ∧ xs.sum ≤ xs.length * 10 ^ 6
  | [], _ => by simp
  | a :: r, h => by
    have h1 := h a (.head _)
    have h2 := sum_bd fun x hx => h x (.tail _ hx)
    rw [List.sum_cons, List.length_cons]
    omega
section
local macro_rules | `(tactic| walk_at "exec Assign cons ListComp") => `(tactic| (k_here; refine halt ?_))
local macro_rules | `(tactic| walk_at "call type:enumerate") => `(tactic| (k_here; refine halt ?_))
theorem l0_told (w : World) (al : Addr) (avs : List Value) (ans : List Int) (o1 o2 : Obj) (NL : List (Addr × Obj)) (hi : IntsAre avs ans) (hl : ans.length ≤ 63) (c1 : o1.data = .cell (some (.ref al))) (c2 : o2.data = .cell none) :
    LX w (fun _ => lwAt w.params 0) [] (fun L => (L + 1 + 1, o2) :: (L + 1, o1) :: NL) (fun h₀ L _ => h₀.IsList al avs.toArray ∧ ∀ p ∈ (L + 1, o1) :: NL, p.1 ≠ L + 1 + 1)
      (fun h₀ L m s Q => ∀ hl hvs hs hn o2' h' tk', IntsAre hvs hs → hs.length = 6 → (∀ x ∈ hs, 0 ≤ x ∧ x < 10 ^ 9) → o2'.data = .cell (some (.ref hl)) → (∀ p ∈ (L + 1 + 1, o2) :: (L + 1, o1) :: NL, p.1 ≠ hl) → Fr h₀ L h' m → News h₀ L h' ((hl, W.listOf hvs.toArray hn) :: (L + 1 + 1, o2') :: (L + 1, o1) :: NL) → Q .next { s with heap := h', toks := tk' }) := by
  delta LX lawTop
  k_fill
  intro mean mg mb dp un gd fa cd outer A₀ base h₀ L m s Q R B F hm X N T hd hu hpre hpost
  obtain ⟨hal, hp2⟩ := hpre
  rw [← kstB_same hm] at F
  delta LN lwAt lawBody lawScope lawDef
  dsimp only [kstB, stGo] at F N hpost ⊢
  k_steps
  unfold Halt
  refine wpAny_Assign_Name ?_ (by with_unfolding_all rfl)
  refine comp_enum (h₀ := h₀) (L := L) (m := m) 6 (fun i y => ∃ x t, y = .int x t ∧ 0 ≤ x ∧ x < 10 ^ 9) (fun i ys => ∃ xs, IntsAre ys xs ∧ xs.length = i ∧ ∀ x ∈ xs, 0 ≤ x ∧ x < 10 ^ 9) ?hJ ⟨[], .nil, rfl, fun x h => nomatch h⟩ ?hJl rfl (by rw [sizeLine_eq]; decide) rfl (by decide) rfl (by decide) rfl rfl (by decide) ?src (by intro _; rfl)
  case hJ =>
    rintro i ys y hi ⟨xs, h1, h2, h3⟩ ⟨x, t, rfl, h4⟩
    refine ⟨xs ++ [x], ints_snoc h1, by rw [List.length_append, h2]; rfl, fun z hz => ?_⟩
    rcases List.mem_append.mp hz with hz | hz
    · exact h3 z hz
    · rw [List.mem_singleton.mp hz]; exact h4
  case hJl =>
    rintro i ys ⟨xs, h1, h2, -⟩
    rw [h1.length, h2]
  case src =>
    k_steps
    unfold Halt
    rename Fr h₀ L _ _ => F1
    rename News h₀ L _ _ => N1
    refine call_enumerate_list (News.isList N1 (.head _)) fun h2 he hit hsz hk => ?_
    have F2 := F1.keeps hk
    have N2 := N1.grown hk
    have hlt := fun (p : Addr × Obj) hp => Heap.lt_size (N1 p hp).1
    have hLs := F1.ns.lt
    have hf0 := F1.fresh
    have hf1 := Heap.get?_none_of_le (h := h₀) (Nat.le_trans F1.above (Nat.le_succ_of_le (Nat.le_of_lt hLs)))
    dsimp only at he hit hsz F2 N2 hlt hLs hf0 hf1 ⊢
    refine ⟨_, _, _, _, _, _, rfl, rfl, Nat.succ_ne_self _, Nat.ne_of_lt (Nat.lt_succ_of_lt (hlt _ (.head _))), Nat.ne_of_lt (hlt _ (.head _)), ⟨_, he⟩, hit, .head _, rfl, ⟨_, rfl⟩, F2, N2, Nat.ne_of_lt (Nat.lt_succ_of_lt hLs), hf1, Nat.ne_of_lt hLs, hf0, fun p hp => Nat.ne_of_lt (Nat.lt_succ_of_lt (hlt p hp)), fun p hp => Nat.ne_of_lt (hlt p hp), ?turn, ?fin⟩
    case turn =>
      intro i v hv
      have hb : i < 6 ∧ ∃ b tb, v = .int b tb ∧ 0 ≤ b ∧ b ≤ 306 := by
        rcases Nat.lt_or_ge i 6 with q | q
        · refine ⟨q, ?_⟩
          rcases (by omega : i = 0 ∨ i = 1 ∨ i = 2 ∨ i = 3 ∨ i = 4 ∨ i = 5) with rfl | rfl | rfl | rfl | rfl | rfl <;> (cases hv; exact ⟨_, _, rfl, by decide, by decide⟩)
        · rw [Array.getElem?_eq_none (by simpa using q)] at hv; cases hv
      clear hv
      obtain ⟨hi6, b, tb, rfl, hb0, hb1⟩ := hb
      clear hpost F1 N1 F2 N2 he hit hsz hlt hLs hf0 hf1 hk
      intro oe oit Cc oC D ys m₂ t h3 tk3 E' hns hxi hxv F3 N3
      k_steps
      unfold Halt
      refine LCg.ListComp_U F3 rfl (by decide) rfl (by decide) rfl ?isrc (by intro _; rfl)
      case isrc =>
        k_steps
        have hpick := hi.pick (some ((i : Nat) : Int)) none (some 6)
        have hpl := length_pickNums_le hi (some ((i : Nat) : Int)) none (some 6)
        generalize pickNums ans (some ((i : Nat) : Int)) none (some 6) = pn at *
        have hps : (slicePick avs.toArray (some ((i : Nat) : Int)) none (some 6)).size = pn.length := by rw [← hpick.length, Array.length_toList]
        rename Fr h₀ L _ _ => F4
        rename News h₀ L _ _ => N4
        clear F3 N3
        (try dsimp only at N4 ⊢)
        refine LCg.CompSrc.ledger rfl F4 N4 (.head _) (by rw [hps, sizeLine_eq]; omega) fun g => rest_plain (fun j y => ∃ x t, y = .int x t ∧ 0 ≤ x ∧ x < 10 ^ 6) (fun j zs => ∃ xs, IntsAre zs xs ∧ xs.length = j ∧ ∀ x ∈ xs, 0 ≤ x ∧ x < 10 ^ 6) _ ?hJ2 (.inr ⟨_, .head _, rfl, _, rfl⟩) ?turn2 ?fin2 _ 0 [] (Nat.zero_add _) ⟨[], .nil, rfl, fun x h => nomatch h⟩
        case hJ2 =>
          rintro j zs y hj ⟨xs, h1, h2, h3⟩ ⟨x, t, rfl, h4⟩
          refine ⟨xs ++ [x], ints_snoc h1, by rw [List.length_append, h2]; rfl, fun z hz => ?_⟩
          rcases List.mem_append.mp hz with hz | hz
          · exact h3 z hz
          · rw [List.mem_singleton.mp hz]; exact h4
        case turn2 =>
          intro j v hj hv
          obtain ⟨tv, rfl⟩ := ints_at (vs := (slicePick avs.toArray (some ((i : Nat) : Int)) none (some 6)).toList) hpick (by simpa using hv)
          intro I2 oI2 Cc2 oC2 D2 zs m₃ h5 tk5 E2 hns2 hm3 F5 N5 off nn
          clear F4 N4 hv
          k_steps
          · exact ⟨_, _, rfl, F5, N5⟩
        case fin2 =>
          rintro zs ⟨xs, h1, h2, h3⟩ D2 h' tk' F5 N5 o1
          have hsum := sum_bd h3
          have hxl : xs.length ≤ 63 := by rw [h2, hps]; omega
          clear F4 N4
          k_steps
          all_goals first
            | omega
            | (rename News h₀ L _ _ => N6
               exact SameEnd.mk' ‹_› N6 (fun p hp => .tail _ (.tail _ hp)))
    case fin =>
      rintro D h' tk' ys ⟨xs, h1, h2, h3⟩ F' N' hoD
      have hD := off1_ne hoD
      clear hoD F1 N1 F2 N2 he hit hsz hlt hLs hf0 hf1 hk
      have N5 := news_sub N' (r := (L + 1 + 1, o2) :: (D, LCg.lst ys) :: (L + 1, o1) :: NL) (fun p hp => by
        revert p
        exact all_cons (.tail _ (.tail _ (.head _))) (all_cons (.head _)  (fun p hp => .tail _ (.tail _ (.tail _ hp)))))
      have hne : ∀ p ∈ (D, LCg.lst ys) :: (L + 1, o1) :: NL, p.1 ≠ L + 1 + 1 := fun p hp => by
        revert p
        exact all_cons (fun e => hD (L + 1 + 1, o2) (.tail _ (.head _)) e.symm) (fun p hp => hp2 p hp)
      clear N'
      k_steps
      rename Fr h₀ L _ _ => F6
      rename News h₀ L _ _ => N6
      rename _ = Data.cell (some (Value.ref D)) => hc
      refine hpost D ys xs ys.length _ _ _ h1 h2 h3 hc (fun p hp => hD p (.tail _ hp)) F6 (news_sub N6 fun p hp => ?_)
      revert p
      exact all_cons (.tail _ (.head _)) (all_cons (.head _)  (fun p hp => .tail _ (.tail _ hp)))
end
end Mine
end
theorem Mine.forget_LW1 : True ∧ True := by first | (walk1; all_goals trivial; done) | exact ⟨trivial, trivial⟩
section
namespace Mine
section
local macro_rules | `(tactic| walk_at "exec Assign cons ListComp") => `(tactic| (k_here; refine halt ?_))
theorem l1_told (w : World) (hl : Addr) (hvs : List Value) (hs : List Int) (hn : Nat) (o2 : Obj) (NL : List (Addr × Obj)) (hi : IntsAre hvs hs) (h6 : hs.length = 6) (c2 : o2.data = .cell (some (.ref hl))) :
    LX w (fun _ => lwAt w.params 1) [] (fun L => (hl, W.listOf hvs.toArray hn) :: (L + 1 + 1, o2) :: NL) (fun _ _ _ => True)
      (Sets (Str.ofString "dress") (fun v => ∃ t, v = .int (hs.getD 5 0) t) (fun L => (hl, W.listOf hvs.toArray hn) :: (L + 1 + 1, o2) :: NL)) := by
  delta LX lawTop Sets
  k_fill
  intro mean mg mb dp un gd fa cd outer A₀ base h₀ L m s Q R B F hm X N T hd hu hpre hpost
  rw [← kstB_same hm] at F
  delta LN lwAt lawBody lawScope lawDef
  dsimp only [kstB, stGo] at F N hpost ⊢
  k_steps
  exact hpost _ _ _ ⟨_, rfl⟩ (kset_end hm ‹_›) ‹_›
theorem l2_told (w : World) (o3 : Obj) (d : Int) (td : Tok) (NL : List (Addr × Obj)) (hd0 : 0 ≤ d ∧ d < 10 ^ 9) (c3 : o3.data = .cell none) :
    LX w (fun _ => lwAt w.params 2) [(Str.ofString "dress", .int d td)] (fun L => (L + 1 + 1 + 1, o3) :: NL) (fun _ L _ => ∀ p ∈ NL, p.1 ≠ L + 1 + 1 + 1)
      (fun h₀ L m s Q => ∀ o3' t h' tk', o3'.data = .cell (some (.int (4 + d.fmod 2) t)) → Fr h₀ L h' m → News h₀ L h' ((L + 1 + 1 + 1, o3') :: NL) → Q .next { s with heap := h', toks := tk' }) := by
  delta LX lawTop
  k_fill
  intro mean mg mb dp un gd fa cd outer A₀ base h₀ L m s Q R B F hm X N T hd hu hpre hpost
  rw [← kstB_same hm] at F
  delta LN lwAt lawBody lawScope lawDef
  dsimp only [kstB, stGo] at F N hpost ⊢
  k_steps
  rename _ = Data.cell (some (Value.int _ _)) => hc
  exact hpost _ _ _ _ hc (kfr_end hm ‹_›) ‹_›
theorem l4_told (w : World) (d : Int) (td : Tok) (NL : List (Addr × Obj)) (hd0 : 0 ≤ d ∧ d < 10 ^ 9) :
    LX w (fun _ => lwAt w.params 4) [(Str.ofString "dress", .int d td)] (fun _ => NL) (fun _ _ _ => True)
      (Sets (Str.ofString "hand") (fun v => ∃ hand : Addr, v = .ref hand ∧ (hand = 157 ∨ hand = 164 ∨ hand = 171)) (fun _ => NL)) := by
  delta LX lawTop Sets
  k_fill
  intro mean mg mb dp un gd fa cd outer A₀ base h₀ L m s Q R B F hm X N T hd hu hpre hpost
  rw [← kstB_same hm] at F
  delta LN lwAt lawBody lawScope lawDef
  dsimp only [kstB, stGo] at F N hpost ⊢
  k_steps
  rename News h₀ L _ _ => N1
  rename Fr h₀ L _ _ => F1
  have hk0 : 0 ≤ (d.fdiv 232).fmod 3 := Int.fmod_nonneg_of_pos _ (by decide)
  have hk1 : (d.fdiv 232).fmod 3 < 3 := Int.fmod_lt_of_pos _ (by decide)
  refine sub_made (vs := [.ref 157, .ref 164, .ref 171]) (News.isList N1 (.head _)) hk0 (by omega) (by simpa using hk1) ?_ (by with_unfolding_all rfl)
  generalize (d.fdiv 232).fmod 3 = k at *
  obtain ⟨hand, hv, hh⟩ : ∃ hand : Addr, [Value.ref 157, .ref 164, .ref 171].getD k.toNat .none = .ref hand ∧ (hand = 157 ∨ hand = 164 ∨ hand = 171) := by
    rcases (by omega : k = 0 ∨ k = 1 ∨ k = 2) with rfl | rfl | rfl
    · exact ⟨157, rfl, .inl rfl⟩
    · exact ⟨164, rfl, .inr (.inl rfl)⟩
    · exact ⟨171, rfl, .inr (.inr rfl)⟩
  rw [hv]
  clear hv
  k_steps
  rename News h₀ L _ _ => N2
  exact hpost _ _ _ ⟨hand, rfl, hh⟩ (kset_end hm ‹_›) fun p hp => N2 p (.tail _ hp)
theorem l3_told (w : World) (hl : Addr) (hvs : List Value) (hs : List Int) (hn : Nat) (o2 o3 : Obj) (size : Int) (ts : Tok) (NL : List (Addr × Obj)) (hi : IntsAre hvs hs) (h6 : hs.length = 6) (hsz : size = 4 ∨ size = 5) (c2 : o2.data = .cell (some (.ref hl))) (c3 : o3.data = .cell (some (.int size ts))) :
    LX w (fun _ => lwAt w.params 3) [] (fun L => (hl, W.listOf hvs.toArray hn) :: (L + 1 + 1, o2) :: (L + 1 + 1 + 1, o3) :: NL) (fun _ _ _ => True)
      (fun h₀ L m s Q => ∀ D ys h' tk', IntsAre ys ((hs.take 4).map fun x => x.fmod size) → (∀ p ∈ (hl, W.listOf hvs.toArray hn) :: (L + 1 + 1, o2) :: (L + 1 + 1 + 1, o3) :: NL, p.1 ≠ D) → Fr h₀ L h' (kset m (Str.ofString "states") (.ref D)) → News h₀ L h' ((D, LCg.lst ys) :: (hl, W.listOf hvs.toArray hn) :: (L + 1 + 1, o2) :: (L + 1 + 1 + 1, o3) :: NL) → Q .next { s with heap := h', toks := tk' }) := by
  delta LX lawTop
  k_fill
  intro mean mg mb dp un gd fa cd outer A₀ base h₀ L m s Q R B F hm X N T hd hu hpre hpost
  rw [← kstB_same hm] at F
  delta LN lwAt lawBody lawScope lawDef
  dsimp only [kstB, stGo] at F N hpost ⊢
  k_steps
  unfold Halt
  refine LCg.Assign_ListComp_U (F₀ := F) (by rfl) (by with_unfolding_all rfl) (by with_unfolding_all rfl) (by decide) (by rfl) (by decide) (by rfl) (by rfl) (by rfl) ?_
  k_steps
  rename IntsAre _ (List.map _ _) => hI
  rename News h₀ L _ _ => N2
  rename (@Ne Nat _ _) ∧ _ => o1
  refine hpost _ _ _ _ hI (fun p hp => off1_ne (l := (hl, W.listOf hvs.toArray hn) :: (L + 1 + 1, o2) :: (L + 1 + 1 + 1, o3) :: NL) o1.2 p hp) (kset_end hm ‹_›) fun p hp => N2 p ?_
  revert p
  exact all_cons (.head _) (fun p hp => .tail _ (.tail _ hp))
end
end Mine
end
theorem Mine.forget_LW2 : True ∧ True := by first | (walk1; all_goals trivial; done) | exact ⟨trivial, trivial⟩
section
namespace Mine
theorem turn_nil {g h : Heap} (T : KtsTurn [] g h) : (∀ b o, g.get? b = some o → h.get? b = some o) ∧ g.objs.size = h.objs.size ∧ ∀ b, h.get? b = none → g.get? b = none := by
  refine ⟨fun b o e => T.other b o e (fun q => nomatch q), T.size.symm, fun b e => ?_⟩
  cases q : g.get? b with
  | none => rfl
  | some o => have := T.other b o q (fun q => nomatch q); rw [e] at this; cases this
theorem sub_tails {prog : Program} {w : World} {A : Around} {E : Value → Shared → Prop} {s : Shared} {value slice : PySem.Expr} {l : Addr} {t0 t1 t2 t3 : Tok} {k : Int} {u : Tok} {Q : Value → Shared → Prop}
    (hl : s.heap.IsList l [Value.str (Str.ofString "") t0, .str (Str.ofString " is it") t1, .str (Str.ofString "x") t2, .str (Str.ofString " \"\"") t3].toArray) (h0 : 0 ≤ k) (hx : k < 4) (h : ∀ y t, y ∈ tails → Q (.str y t) s)
    (hs : subscripted slice false (.ref l) (.int k u) = operate [.ref l, .int k u] (getItem (.ref l) (.int k u)) := by with_unfolding_all rfl) :
    wpAny (model prog w) A (subscriptTail value slice (.ref l) (.int k u)) Q E s := by
  refine sub_made (vs := [Value.str (Str.ofString "") t0, .str (Str.ofString " is it") t1, .str (Str.ofString "x") t2, .str (Str.ofString " \"\"") t3]) hl h0 (by omega) (by simpa using hx) ?_ hs
  rcases (by omega : k = 0 ∨ k = 1 ∨ k = 2 ∨ k = 3) with rfl | rfl | rfl | rfl
  · exact h _ t0 (mem_at 0 rfl)
  · exact h _ t1 (mem_at 1 rfl)
  · exact h _ t2 (mem_at 2 rfl)
  · exact h _ t3 (mem_at 3 rfl)
section
theorem l5_told (w : World) (hl sl hand : Addr) (hvs svs : List Value) (hs st : List Int) (hn sn : Nat) (o2 o3 o4 o5 o6 : Obj) (size d : Int) (ts td : Tok) (NL : List (Addr × Obj)) (hi : IntsAre hvs hs) (h6 : hs.length = 6) (hb : ∀ x ∈ hs, 0 ≤ x ∧ x < 10 ^ 9) (hi' : IntsAre svs st) (hok : StOk size st) (hst : ∀ k, k < 4 → st.getD k 0 = hs.getD k 0 % size)
    (hd0 : 0 ≤ d ∧ d < 10 ^ 9) (hh : hand = 157 ∨ hand = 164 ∨ hand = 171) (c2 : o2.data = .cell (some (.ref hl))) (c3 : o3.data = .cell (some (.int size ts))) (c4 : o4.data = .cell none) (c5 : o5.data = .cell none) (c6 : o6.data = .cell none)
    (mean : ExcName → Option Value) (mg mb : Str → Option Value) (dp un : Nat) (gd : Option (List Code)) (fa : Addr) (cd : Value) (A₀ : Around) (h₀ : Heap) (L : Addr) (m : Str → Option Value) (s : Shared) (Q : Flow → Shared → Prop) (R : Value → Shared → Prop)
    (B : Below A₀ h₀ [] h₀) (F : Fr h₀ L s.heap m) (hm : ∀ p ∈ [(Str.ofString "dress", Value.int d td), (Str.ofString "states", .ref sl), (Str.ofString "hand", .ref hand)], m p.1 = some p.2) (X : Frag.In (Mine.hd.heap_39 w.params) h₀)
    (N : News h₀ L s.heap ((L + 1 + 1 + 1 + 1 + 1 + 1, o6) :: (L + 1 + 1 + 1 + 1 + 1, o5) :: (L + 1 + 1 + 1 + 1, o4) :: (L + 1 + 1 + 1, o3) :: (L + 1 + 1, o2) :: (hl, W.listOf hvs.toArray hn) :: (187, tabObj #[]) :: (sl, W.listOf svs.toArray sn) :: NL)) (T : Top topProg lo mean mg mb h₀)
    (hdp : dp + 400 < recursionLimit) (hu : un + 4000 < cLine)
    (e187 : ∀ p ∈ (sl, W.listOf svs.toArray sn) :: (L + 1 + 1 + 1 + 1 + 1 + 1, o6) :: (L + 1 + 1 + 1 + 1 + 1, o5) :: (L + 1 + 1 + 1 + 1, o4) :: (L + 1 + 1 + 1, o3) :: (L + 1 + 1, o2) :: (hl, W.listOf hvs.toArray hn) :: NL, p.1 ≠ 187)
    (esl : ∀ p ∈ (L + 1 + 1 + 1 + 1 + 1 + 1, o6) :: (L + 1 + 1 + 1 + 1 + 1, o5) :: (L + 1 + 1 + 1 + 1, o4) :: (L + 1 + 1 + 1, o3) :: (L + 1 + 1, o2) :: (hl, W.listOf hvs.toArray hn) :: NL, p.1 ≠ sl)
    (eN : ∀ p ∈ NL, p.1 ≠ L + 1 + 1 + 1 + 1 ∧ p.1 ≠ L + 1 + 1 + 1 + 1 + 1 ∧ p.1 ≠ L + 1 + 1 + 1 + 1 + 1 + 1)
    (hpost : ∀ (cl vl rl : Addr) (cvs vvs : List Value) (cn vn rn : Nat) (ds : List (Addr × List Value)) (ps : Array Value) (c : PS) (o4' o5' o6' : Obj) (h' : Heap) (tk : Nat), Inv size hs c → guard c.counts = false → c.counts.length ≤ 23 → IntsAre cvs c.counts → IntsAre vvs c.movers → RowsAt c.tls 4 ds → o4'.data = .cell (some (.ref cl)) → o5'.data = .cell (some (.ref vl)) → o6'.data = .cell (some (.ref rl)) → Fr h₀ L h' m →
      News h₀ L h' ((L + 1 + 1 + 1 + 1 + 1 + 1, o6') :: (L + 1 + 1 + 1 + 1 + 1, o5') :: (L + 1 + 1 + 1 + 1, o4') :: (cl, W.listOf cvs.toArray cn) :: (vl, W.listOf vvs.toArray vn) :: (rl, W.listOf (rwRefs ds).toArray rn) :: (rwObjs ds ++ (187, tabObj ps) :: (L + 1 + 1 + 1, o3) :: (L + 1 + 1, o2) :: (hl, W.listOf hvs.toArray hn) :: NL)) → Q .next { s with heap := h', toks := tk }) :
    wpAny (model PySem.Challenge.rw_xe0044_01.row.prog w) (lawTop w dp un gd L fa cd []) (exec (lwAt w.params 5) (LN w L fa cd)) Q R s := by
  revert hdp hu T N X hm F B
  delta lawTop
  k_fill
  intro B F hm X N T hd hu
  rw [← kstB_same hm] at F
  delta LN lwAt lawBody lawScope lawDef
  dsimp only [kstB, stGo] at F N ⊢
  k_steps
  rename News h₀ L _ _ => N1
  rename Fr h₀ L _ _ => F1
  have hk0 : 0 ≤ (d.fdiv 58).fmod 4 := Int.fmod_nonneg_of_pos _ (by decide)
  have hk1 : (d.fdiv 58).fmod 4 < 4 := Int.fmod_lt_of_pos _ (by decide)
  have hq0 : 0 ≤ (d.fdiv 2).fmod 29 := Int.fmod_nonneg_of_pos _ (by decide)
  have hq1 : (d.fdiv 2).fmod 29 < 29 := Int.fmod_lt_of_pos _ (by decide)
  refine sub_tails (News.isList N1 (.head _)) hk0 hk1 (fun y t hy => ?_) (by with_unfolding_all rfl)
  generalize (d.fdiv 58).fmod 4 = kk at *
  generalize (d.fdiv 2).fmod 29 = q at *
  obtain ⟨sh, rfl⟩ : ∃ sh : Nat, q = (sh : Int) := ⟨q.toNat, by omega⟩
  k_steps
  unfold Halt
  rename News h₀ L _ _ => N2
  rename Fr h₀ L _ _ => F2
  have hp4 : 0 ≤ hs.getD (Int.toNat 4) 0 ∧ hs.getD (Int.toNat 4) 0 < 10 ^ 9 := by
    rw [List.getD_eq_getElem?_getD, List.getElem?_eq_getElem (by rw [h6]; decide)]
    exact hb _ (List.getElem_mem _)
  refine run_told (outer := []) (g₀ := h₀) sl hand svs sn sh st hs size (hs.getD (Int.toNat 4) 0) y _ _ _ _ ((L + 1 + 1 + 1 + 1 + 1 + 1, o6) :: (L + 1 + 1 + 1 + 1 + 1, o5) :: (L + 1 + 1 + 1 + 1, o4) :: (L + 1 + 1 + 1, o3) :: (L + 1 + 1, o2) :: (hl, W.listOf hvs.toArray hn) :: NL) hi' hok hp4 (by omega) hy hh hst e187 esl B F2 X (news_sub N2 fun p hp => ?nn) T X T (fun b hb => nomatch hb) KtsTurn.refl rfl (by omega) (by omega) (by dsimp only; omega) ?post
  case nn =>
    revert p
    exact all_cons (mem_at 7 rfl) (all_cons (mem_at 8 rfl) (all_cons (mem_at 1 rfl) (all_cons (mem_at 2 rfl) (all_cons (mem_at 3 rfl) (all_cons (mem_at 4 rfl) (all_cons (mem_at 5 rfl) (all_cons (mem_at 6 rfl) fun p hp => .tail _ (.tail _ (.tail _ (.tail _ (.tail _ (.tail _ (.tail _ (.tail _ (.tail _ (hp))))))))))))))))
  case post =>
    intro ret cl vl rl cvs vvs cn vn rn ds ps c h₀' h9 tk9 V gc lc i1 i2 i3 T0' F9 N9 B9 X9 Tp9 D9
    obtain ⟨k1, k2, k3⟩ := turn_nil T0'
    have F10 : Fr h₀ L h9 _ := ⟨F9.ns, fun b o e => F9.keep b o (k1 b o e), k2 ▸ F9.above⟩
    have N10 : News h₀ L h9 _ := fun p hp => ⟨(N9 p hp).1, (N9 p hp).2.1, k3 _ (N9 p hp).2.2⟩
    clear F9 N9 B9 X9 Tp9 D9 N2 F2
    have nX : ∀ {i j : Nat}, i ≠ j → Nat.add L i ≠ Nat.add L j := fun h e => h (Nat.add_left_cancel e)
    have cl4 : ∀ {o : Obj} {v : Option Value} {its : Array Value} {n : Nat}, o.data = .cell v → W.listOf its n ≠ o := fun h e => by rw [← e] at h; cases h
    have m4 : (L + 1 + 1 + 1 + 1, o4) ∈ (ret, W.listOf #[Value.ref cl, .ref vl, .ref rl] 0) :: (cl, W.listOf cvs.toArray cn) :: (vl, W.listOf vvs.toArray vn) :: (rl, W.listOf (rwRefs ds).toArray rn) :: (rwObjs ds ++ (187, tabObj ps) :: (L + 1 + 1 + 1 + 1 + 1 + 1, o6) :: (L + 1 + 1 + 1 + 1 + 1, o5) :: (L + 1 + 1 + 1 + 1, o4) :: (L + 1 + 1 + 1, o3) :: (L + 1 + 1, o2) :: (hl, W.listOf hvs.toArray hn) :: NL) := .tail _ (.tail _ (.tail _ (.tail _ (List.mem_append_right _ (.tail _ (.tail _ (.tail _ (.head _))))))))
    have m5 : (L + 1 + 1 + 1 + 1 + 1, o5) ∈ (ret, W.listOf #[Value.ref cl, .ref vl, .ref rl] 0) :: (cl, W.listOf cvs.toArray cn) :: (vl, W.listOf vvs.toArray vn) :: (rl, W.listOf (rwRefs ds).toArray rn) :: (rwObjs ds ++ (187, tabObj ps) :: (L + 1 + 1 + 1 + 1 + 1 + 1, o6) :: (L + 1 + 1 + 1 + 1 + 1, o5) :: (L + 1 + 1 + 1 + 1, o4) :: (L + 1 + 1 + 1, o3) :: (L + 1 + 1, o2) :: (hl, W.listOf hvs.toArray hn) :: NL) := .tail _ (.tail _ (.tail _ (.tail _ (List.mem_append_right _ (.tail _ (.tail _ (.head _)))))))
    have m6 : (L + 1 + 1 + 1 + 1 + 1 + 1, o6) ∈ (ret, W.listOf #[Value.ref cl, .ref vl, .ref rl] 0) :: (cl, W.listOf cvs.toArray cn) :: (vl, W.listOf vvs.toArray vn) :: (rl, W.listOf (rwRefs ds).toArray rn) :: (rwObjs ds ++ (187, tabObj ps) :: (L + 1 + 1 + 1 + 1 + 1 + 1, o6) :: (L + 1 + 1 + 1 + 1 + 1, o5) :: (L + 1 + 1 + 1 + 1, o4) :: (L + 1 + 1 + 1, o3) :: (L + 1 + 1, o2) :: (hl, W.listOf hvs.toArray hn) :: NL) := .tail _ (.tail _ (.tail _ (.tail _ (List.mem_append_right _ (.tail _ (.head _))))))
    generalize hXX : (cl, W.listOf cvs.toArray cn) :: (vl, W.listOf vvs.toArray vn) :: (rl, W.listOf (rwRefs ds).toArray rn) :: (rwObjs ds ++ (187, tabObj ps) :: (L + 1 + 1 + 1, o3) :: (L + 1 + 1, o2) :: (hl, W.listOf hvs.toArray hn) :: NL) = XX at hpost
    have hxx : ∀ p ∈ XX, p.1 ≠ L + 1 + 1 + 1 + 1 ∧ p.1 ≠ L + 1 + 1 + 1 + 1 + 1 ∧ p.1 ≠ L + 1 + 1 + 1 + 1 + 1 + 1 := fun p hp => by
      have lists : ∀ {its : Array Value} {n : Nat} {a : Addr}, (a, W.listOf its n) ∈ _ → a ≠ L + 1 + 1 + 1 + 1 ∧ a ≠ L + 1 + 1 + 1 + 1 + 1 ∧ a ≠ L + 1 + 1 + 1 + 1 + 1 + 1 := fun h => ⟨news_ne N10 h m4 (cl4 c4), news_ne N10 h m5 (cl4 c5), news_ne N10 h m6 (cl4 c6)⟩
      rw [← hXX] at hp
      revert p
      exact all_cons (lists (.tail _ (.head _))) (all_cons (lists (.tail _ (.tail _ (.head _))))  (all_cons (lists (.tail _ (.tail _ (.tail _ (.head _)))))   (all_app (fun p hp => by (obtain ⟨d', hd', rfl⟩ := List.mem_map.mp hp; exact lists (its := d'.2.toArray) (n := d'.2.length) (.tail _ (.tail _ (.tail _ (.tail _ (List.mem_append_left _ hp)))))))    (all_cons (⟨fun e => e187 (L + 1 + 1 + 1 + 1, o4) (mem_at 3 rfl) e.symm, fun e => e187 (L + 1 + 1 + 1 + 1 + 1, o5) (mem_at 2 rfl) e.symm, fun e => e187 (L + 1 + 1 + 1 + 1 + 1 + 1, o6) (mem_at 1 rfl) e.symm⟩)     (all_cons (⟨nX (i := 3) (j := 4) (by decide), nX (i := 3) (j := 5) (by decide), nX (i := 3) (j := 6) (by decide)⟩)      (all_cons (⟨nX (i := 2) (j := 4) (by decide), nX (i := 2) (j := 5) (by decide), nX (i := 2) (j := 6) (by decide)⟩)       (all_cons (lists (.tail _ (.tail _ (.tail _ (.tail _ (List.mem_append_right _ (.tail _ (.tail _ (.tail _ (.tail _ (.tail _ (.tail _ (.head _)))))))))))))        (fun p hp => eN p hp))))))))
    have r4 : @Ne Nat ret (L + 1 + 1 + 1 + 1) := news_ne N10 (.head _) m4 (cl4 c4)
    have r5 : @Ne Nat ret (L + 1 + 1 + 1 + 1 + 1) := news_ne N10 (.head _) m5 (cl4 c5)
    have r6 : @Ne Nat ret (L + 1 + 1 + 1 + 1 + 1 + 1) := news_ne N10 (.head _) m6 (cl4 c6)
    have x4 : ∀ p ∈ XX, p.1 ≠ L + 1 + 1 + 1 + 1 := fun p hp => (hxx p hp).1
    have x5 : ∀ p ∈ XX, p.1 ≠ L + 1 + 1 + 1 + 1 + 1 := fun p hp => (hxx p hp).2.1
    have x6 : ∀ p ∈ XX, p.1 ≠ L + 1 + 1 + 1 + 1 + 1 + 1 := fun p hp => (hxx p hp).2.2
    have N11 := news_sub N10 (r := (ret, W.listOf #[Value.ref cl, .ref vl, .ref rl] 0) :: (L + 1 + 1 + 1 + 1 + 1 + 1, o6) :: (L + 1 + 1 + 1 + 1 + 1, o5) :: (L + 1 + 1 + 1 + 1, o4) :: XX) (fun p hp => by
      revert p
      refine all_cons (.head _) (all_cons m6 (all_cons m5 (all_cons m4 (fun p hp => ?_))))
      rw [← hXX] at hp
      revert p
      exact all_cons (.tail _ (.head _)) (all_cons (.tail _ (.tail _ (.head _))) (all_cons (.tail _ (.tail _ (.tail _ (.head _)))) (all_app (fun p hp => .tail _ (.tail _ (.tail _ (.tail _ (List.mem_append_left _ hp))))) (all_cons (.tail _ (.tail _ (.tail _ (.tail _ (List.mem_append_right _ (.head _)))))) (fun p hp => .tail _ (.tail _ (.tail _ (.tail _ (List.mem_append_right _ (.tail _ (.tail _ (.tail _ (.tail _ hp))))))))))))))
    clear N10 m4 m5 m6 hxx
    (try dsimp only)
    k_steps
    rename _ = Data.cell (some (Value.ref cl)) => q4
    rename _ = Data.cell (some (Value.ref vl)) => q5
    rename _ = Data.cell (some (Value.ref rl)) => q6
    rename News h₀ L _ _ => N12
    rw [← hXX] at N12
    exact hpost cl vl rl cvs vvs cn vn rn ds ps c _ _ _ _ _ V gc lc i1 i2 i3 q4 q5 q6 (kfr_end hm ‹_›) fun p hp => N12 p (.tail _ hp)
end
end Mine
end
theorem Mine.forget_LW3 : True ∧ True := by first | (walk1; all_goals trivial; done) | exact ⟨trivial, trivial⟩
section
namespace Mine
noncomputable def RngFrom (h₀ : Heap) (L : Addr) (s : Shared) (m₀ : Str → Option Value) (l : List (Addr × Obj)) (a b : Int) (v : Value) (s₁ : Shared) : Prop :=
  ∃ r t₀ u₀ v₀ h tk, v = .ref r ∧ s₁ = { s with heap := h, toks := tk } ∧ IsRange h r a b 1 t₀ u₀ v₀ ∧ Fr h₀ L h m₀ ∧ News h₀ L h l
section
variable {prog : Program} {w : World} {A : Around} {E : Value → Shared → Prop} {h₀ : Heap} {L : Addr} {m : Str → Option Value} {env : Env} {ct elt iter : PySem.Expr} {x : Str} {px pos : Pos} {scope : Scope} {cl : List (Str × Addr)} {s : Shared} {news : List (Addr × Obj)} {Q : Value → Shared → Prop} {n : Nat} {a b : Int}
theorem comp_from_test (p : Nat → Bool) (z : Nat → Int) (hh : A.handled = none) (F : Fr h₀ L s.heap m) (_N : News h₀ L s.heap news) (hclos : closureFor scope env = pure cl) (hcell : ∀ y ∈ scope.names, y.2 ≠ .cell) (hkind : scope.kind = .function)
    (hnames : ∀ y ∈ scope.names, y.2 = .local → scope.names.lookup y.1 = some .local) (hx : scope.names.lookup x = some .local)
    (hev : wpAny (model prog w) A (eval iter env) (RngFrom h₀ L s m news a b) E s) (hsmall : Builtin.Range.small a b 1 = true) (hn : Builtin.Range.rangeSize a b 1 = (n : Int)) (hsz : n ≤ sizeLine)
    (turn : ∀ g tk i t, i < n → TestTurn prog w A h₀ L m env ct elt x scope cl { s with heap := g, toks := tk } news (.int (a + ((i : Nat) : Int)) t) (p i) (z i))
    (fin : ∀ D h tk ys, IntsAre ys (((List.range n).filter p).map z) → Fr h₀ L h m → News h₀ L h ((D, LCg.lst ys) :: news) → LCg.Off1 D news → Q (.ref D) { s with heap := h, toks := tk })
    (hs : ∀ x, foldedSetIterable iter env x = pure x := by intro _; rfl) :
    wpAny (model prog w) A (eval (.ListComp elt [⟨.Name x px, iter, [ct], 0⟩] scope pos) env) Q E s := by
  refine LCt.ListComp_T F hclos hcell hkind hnames hx (wpAny_mono hev (fun v s₁ q => ?_) fun _ _ e => e) hs
  obtain ⟨r, t₀, u₀, v₀, h, tk, rfl, rfl, hr, F', N'⟩ := q
  refine LCt.CompSrcT.range (n := n) hh F' N' hr hsmall hn hsz fun g => ?_
  refine rest_test p z n trivial (fun i v hi hv => ?_) (fun ys hys D h' tk' F₂ N₂ o1 => fin D h' tk' ys hys F₂ N₂ o1) n 0 [] (by omega) .nil
  obtain ⟨t, rfl⟩ := hv
  exact turn g tk i t hi
end
theorem rng1 : ∀ n : Nat, n < 31 → Builtin.Range.small 1 ((n + 1 : Nat) : Int) 1 = true ∧ Builtin.Range.rangeSize 1 ((n + 1 : Nat) : Int) 1 = (n : Int) := by decide
section
theorem l6_told (w : World) (cl : Addr) (cvs : List Value) (counts : List Int) (cn : Nat) (o4 : Obj) (NL : List (Addr × Obj)) (hi : IntsAre cvs counts) (h23 : counts.length ≤ 23) (c4 : o4.data = .cell (some (.ref cl)))
    (hlast : counts.drop (counts.length - 5) = List.replicate 5 1) (hdec : ∀ i, i + 1 < counts.length → counts.getD (i + 1) 0 ≤ counts.getD i 0) :
    LX w (fun _ => lwAt w.params 6) [] (fun L => (L + 1 + 1 + 1 + 1, o4) :: (cl, W.listOf cvs.toArray cn) :: NL) (fun _ _ _ => True)
      (Same (fun L => (L + 1 + 1 + 1 + 1, o4) :: (cl, W.listOf cvs.toArray cn) :: NL)) := by
  delta LX lawTop Same
  k_fill
  intro mean mg mb dp un gd fa cd outer A₀ base h₀ L m s Q R B F hm X N T hd hu hpre hpost
  rw [← kstB_same hm] at F
  delta LN lwAt lawBody lawScope lawDef
  dsimp only [kstB, stGo] at F N hpost ⊢
  have h5 : 5 ≤ counts.length := by
    have := congrArg List.length hlast
    rw [List.length_drop, List.length_replicate] at this
    omega
  k_steps
  · unfold Halt
    obtain ⟨n, hn⟩ : ∃ n, counts.length = n + 1 := ⟨counts.length - 1, by omega⟩
    obtain ⟨hr1, hr2⟩ := rng1 n (by omega)
    rw [← hn] at hr1 hr2
    rename News h₀ L _ _ => N1
    rename Fr h₀ L _ _ => F1
    replace N1 := news_sub N1 (r := (L + 1 + 1 + 1 + 1, o4) :: (cl, W.listOf cvs.toArray cn) :: NL) (fun p hp => .tail _ (.tail _ (.tail _ hp)))
    refine comp_from_test (a := 1) (b := counts.length) (n := n) (fun _ => false) (fun i => 1 + (i : Int)) rfl F1 N1 rfl (by decide) rfl (by decide) rfl ?ev hr1 hr2 (by rw [sizeLine_eq]; omega) ?turn ?fin (by intro _; rfl)
    case ev =>
      k_steps
      exact ⟨_, _, _, _, _, _, rfl, rfl, by assumption, by assumption, by assumption⟩
    case turn =>
      intro g tk₁ i t hin I oI Cc oC D ys m₂ h2 tk2 E' hns hm2 F3 N3 off nn
      clear F1 N1 hpost
      have hdi := hdec i (by omega)
      have e1 : (1 + ((i : Nat) : Int) - 1).toNat = i := by omega
      have e2 : (1 + ((i : Nat) : Int)).toNat = i + 1 := by omega
      k_steps
      all_goals first
        | exact ⟨_, _, rfl, F3, N3⟩
        | (exfalso
           rename List.getD counts _ _ < List.getD counts _ _ => hlt
           rw [e1, e2] at hlt
           omega)
    case fin =>
      intro D h' tk' ys hys F2 N2 o1
      clear F1 N1
      k_steps
      · rename News h₀ L _ _ => N3
        exact hpost _ _ (kfr_end hm ‹_›) fun p hp => N3 p (.tail _ (.tail _ hp))
      · exfalso
        rename decide _ = false => hf
        simp at hf
  · rename ¬ List.drop _ counts = _ => e
    exact absurd hlast e
end
end Mine
end
theorem Mine.forget_LW4 : True ∧ True := by first | (walk1; all_goals trivial; done) | exact ⟨trivial, trivial⟩
local macro_rules | `(tactic| walk_at "subscriptTail") => `(tactic| (k_here; (with_reducible show wpAny _ _ (subscriptTail _ _ (Value.ref _) (Value.int _ _)) _ _ _); (with_unfolding_all refine' sub_at ?k1 ?k2 ?k3 ?k4 ?_ ?k6; (case k1 => is_list); (case k2 => with_reducible assumption); (case k3 => omega); (case k4 => omega); (case k6 => with_unfolding_all rfl); k_whole)))
section
namespace Mine
section
variable {prog : Program} {w : World} {A : Around} {E : Value → Shared → Prop} {h₀ : Heap} {L : Addr} {m : Str → Option Value} {env : Env} {elt iter : PySem.Expr} {x : Str} {px pos : Pos} {scope : Scope} {cl : List (Str × Addr)} {s : Shared} {news : List (Addr × Obj)} {Q : Value → Shared → Prop} {n : Nat}
/-- a comprehension over a range, an int an item -/
theorem comp_ints (z : Nat → Int) (hh : A.handled = none) (F : Fr h₀ L s.heap m) (N : News h₀ L s.heap news) (hclos : closureFor scope env = pure cl) (hcell : ∀ y ∈ scope.names, y.2 ≠ .cell) (hkind : scope.kind = .function)
    (hnames : ∀ y ∈ scope.names, y.2 = .local → scope.names.lookup y.1 = some .local) (hx : scope.names.lookup x = some .local)
    (hev : wpAny (model prog w) A (eval iter env) (RngAt h₀ L s m news n) E s) (hsmall : Builtin.Range.small 0 n 1 = true) (hn : Builtin.Range.rangeSize 0 n 1 = (n : Int)) (hsz : n ≤ sizeLine)
    (turn : ∀ i t, i < n → ∀ I oI C oC D ys m₂ h tk (E' : Value → Shared → Prop), LCg.NsObj oC m₂ → m₂ x = some (.int ((i : Nat) : Int) t) → Fr h₀ L h m → News h₀ L h ((I, oI) :: (C, oC) :: (D, LCg.lst ys) :: news) →
      wpAny (model prog w) A (eval elt (compEnvC scope cl C env)) (fun y s'' => (∃ t, y = .int (z i) t) ∧ SameEnd h₀ L m { s with heap := h, toks := tk } ((I, oI) :: (C, oC) :: (D, LCg.lst ys) :: news) s'') E' { s with heap := h, toks := tk })
    (fin : ∀ D h tk ys, IntsAre ys ((List.range n).map z) → Fr h₀ L h m → News h₀ L h ((D, LCg.lst ys) :: news) → LCg.Off1 D news → Q (.ref D) { s with heap := h, toks := tk })
    (hs : ∀ x, foldedSetIterable iter env x = pure x := by intro _; rfl) :
    wpAny (model prog w) A (eval (.ListComp elt [⟨.Name x px, iter, [], 0⟩] scope pos) env) Q E s := by
  refine comp_range_grow (fun _ : Unit => news) (fun i ys _ => IntsAre ys ((List.range i).map z)) () hh F N hclos hcell hkind hnames hx hev hsmall hn hsz .nil (fun i t ys _ hi hJ I oI C oC D m₂ h tk E' hns hm2 F3 N3 off nn => ?_) (fun D h tk ys _ hys F2 N2 o1 => fin D h tk ys hys F2 N2 o1) hs
  refine wpAny_mono (turn i t hi I oI C oC D ys m₂ h tk E' hns hm2 F3 N3) (fun y s' hy => ?_) fun _ _ e => e
  obtain ⟨⟨t', rfl⟩, hse⟩ := hy
  refine ⟨(), ?_, off, hse⟩
  rw [List.range_succ, List.map_append]
  exact ints_snoc hJ
end
section
theorem l7_told (w : World) (vl : Addr) (vvs : List Value) (movers : List Int) (vn : Nat) (o5 : Obj) (NL : List (Addr × Obj)) (hi : IntsAre vvs movers) (h5 : 5 ≤ movers.length) (h23 : movers.length ≤ 23) (hb : ∀ x ∈ movers, 0 ≤ x ∧ x < 4) (c5 : o5.data = .cell (some (.ref vl)))
    (hmv : movers.drop (movers.length - 5) = (List.range 5).map fun k => (movers.getD (movers.length - 5) 0 + ((k : Nat) : Int)) % 4) :
    LX w (fun _ => lwAt w.params 7) [] (fun L => (L + 1 + 1 + 1 + 1 + 1, o5) :: (vl, W.listOf vvs.toArray vn) :: NL) (fun _ _ _ => True)
      (Same (fun L => (L + 1 + 1 + 1 + 1 + 1, o5) :: (vl, W.listOf vvs.toArray vn) :: NL)) := by
  delta LX lawTop Same
  k_fill
  intro mean mg mb dp un gd fa cd outer A₀ base h₀ L m s Q R B F hm X N T hd hu hpre hpost
  rw [← kstB_same hm] at F
  delta LN lwAt lawBody lawScope lawDef
  dsimp only [kstB, stGo] at F N hpost ⊢
  k_steps
  unfold Halt
  rename News h₀ L _ _ => N1
  rename Fr h₀ L _ _ => F1
  refine comp_ints (n := 5) (fun k => (movers.getD (movers.length - 5) 0 + ((k : Nat) : Int)) % 4) rfl F1 N1 rfl (by decide) rfl (by decide) rfl ?ev (by decide) (by decide) (by rw [sizeLine_eq]; decide) ?turn ?fin (by intro _; rfl)
  case ev =>
    k_steps
    exact ⟨_, _, _, _, _, _, rfl, rfl, by assumption, by assumption, by assumption⟩
  case turn =>
    intro i t hi5 I oI Cc oC D ys m₂ h2 tk2 E' hns hm2 F3 N3
    clear F1 N1 hpost
    have e1 : (-5 + (movers.length : Int)).toNat = movers.length - 5 := by omega
    k_steps
    · rw [e1, Int.fmod_eq_emod_of_nonneg _ (by decide)]
    · exact ⟨_, _, rfl, F3, N3⟩
  case fin =>
    intro D h' tk' ys hys F2 N2 o1
    clear F1 N1
    k_steps
    rename News h₀ L _ _ => N3
    exact hpost _ _ (kfr_end hm ‹_›) fun p hp => N3 p (.tail _ (.tail _ hp))
end
theorem rng0 : ∀ n : Nat, n < 31 → Builtin.Range.small 0 (n : Int) 1 = true ∧ Builtin.Range.rangeSize 0 (n : Int) 1 = (n : Int) := by decide
section
theorem l8_told (w : World) (hl vl rl D0 : Addr) (hvs vvs rvs r0 : List Value) (hs movers row0 : List Int) (hn vn rn : Nat) (o2 o3 o5 o6 : Obj) (size : Int) (ts : Tok) (NL : List (Addr × Obj)) (hi : IntsAre hvs hs) (h6 : hs.length = 6) (hb : ∀ x ∈ hs, 0 ≤ x ∧ x < 10 ^ 9) (hsz : size = 4 ∨ size = 5) (hi5 : IntsAre vvs movers) (h23 : movers.length ≤ 23)
    (c2 : o2.data = .cell (some (.ref hl))) (c3 : o3.data = .cell (some (.int size ts))) (c5 : o5.data = .cell (some (.ref vl))) (c6 : o6.data = .cell (some (.ref rl))) (h4 : rvs.length = 4) (hr0 : rvs[(0 : Int).toNat]? = some (.ref D0)) (hi0 : IntsAre r0 row0)
    (hrow : row0 = (List.range (movers.count 0 + 1)).map fun k => (hs.getD 0 0 + ((k : Nat) : Int)) % size) :
    LX w (fun _ => lwAt w.params 8) [] (fun L => (L + 1 + 1 + 1 + 1 + 1 + 1, o6) :: (L + 1 + 1 + 1 + 1 + 1, o5) :: (L + 1 + 1 + 1, o3) :: (L + 1 + 1, o2) :: (hl, W.listOf hvs.toArray hn) :: (vl, W.listOf vvs.toArray vn) :: (rl, W.listOf rvs.toArray rn) :: (D0, LCg.lst r0) :: NL) (fun _ _ _ => True)
      (Same (fun L => (L + 1 + 1 + 1 + 1 + 1 + 1, o6) :: (L + 1 + 1 + 1 + 1 + 1, o5) :: (L + 1 + 1 + 1, o3) :: (L + 1 + 1, o2) :: (hl, W.listOf hvs.toArray hn) :: (vl, W.listOf vvs.toArray vn) :: (rl, W.listOf rvs.toArray rn) :: (D0, LCg.lst r0) :: NL)) := by
  delta LX lawTop Same
  k_fill
  intro mean mg mb dp un gd fa cd outer A₀ base h₀ L m s Q R B F hm X N T hd hu hpre hpost
  rw [← kstB_same hm] at F
  delta LN lwAt lawBody lawScope lawDef
  dsimp only [kstB, stGo] at F N hpost ⊢
  have hcnt : movers.count 0 ≤ 23 := Nat.le_trans List.count_le_length h23
  obtain ⟨hr1, hr2⟩ := rng0 (movers.count 0 + 1) (by omega)
  k_steps
  unfold Halt
  rename News h₀ L _ _ => N1
  rename Fr h₀ L _ _ => F1
  have hs0 : 0 ≤ hs.getD 0 0 ∧ hs.getD 0 0 < 10 ^ 9 := by
    rw [List.getD_eq_getElem?_getD, List.getElem?_eq_getElem (by omega)]
    exact hb _ (List.getElem_mem _)
  refine comp_ints (n := movers.count 0 + 1) (fun k => (hs.getD 0 0 + ((k : Nat) : Int)) % size) rfl F1 N1 rfl (by decide) rfl (by decide) rfl ?ev hr1 hr2 (by rw [sizeLine_eq]; omega) ?turn ?fin (by intro _; rfl)
  case ev =>
    k_steps
    exact ⟨_, _, _, _, _, _, rfl, rfl, by assumption, by assumption, by assumption⟩
  case turn =>
    intro i t hi5 I oI Cc oC D ys m₂ h2 tk2 E' hns hm2 F3 N3
    clear F1 N1 hpost
    k_steps
    · rw [Int.fmod_eq_emod_of_nonneg _ (by omega)]
      rfl
    · exact ⟨_, _, rfl, F3, N3⟩
  case fin =>
    intro D h' tk' ys hys F2 N2 o1
    clear F1 N1
    k_steps
    rename News h₀ L _ _ => N3
    exact hpost _ _ (kfr_end hm ‹_›) fun p hp => N3 p (.tail _ hp)
end
end Mine
end
theorem Mine.forget_LW5 : True ∧ True := by first | (walk1; all_goals trivial; done) | exact ⟨trivial, trivial⟩
section
namespace Mine
section
theorem l9_told (w : World) (hl vl rl D0 D1 D2 D3 : Addr) (hvs vvs rvs r0 r1 r2 r3 : List Value) (hs movers row0 row1 row2 row3 : List Int) (hn vn rn n0 n1 n2 n3 : Nat) (o2 o3 o5 o6 : Obj) (size : Int) (ts : Tok) (NL : List (Addr × Obj)) (hi : IntsAre hvs hs) (h6 : hs.length = 6) (hb : ∀ x ∈ hs, 0 ≤ x ∧ x < 10 ^ 9) (hsz : size = 4 ∨ size = 5) (hi5 : IntsAre vvs movers) (h23 : movers.length ≤ 23)
    (c2 : o2.data = .cell (some (.ref hl))) (c3 : o3.data = .cell (some (.int size ts))) (c5 : o5.data = .cell (some (.ref vl))) (c6 : o6.data = .cell (some (.ref rl)))
    (q0 : rvs[(0 : Int).toNat]? = some (.ref D0)) (q1 : rvs[(1 : Int).toNat]? = some (.ref D1)) (q2 : rvs[(2 : Int).toNat]? = some (.ref D2)) (q3 : rvs[(3 : Int).toNat]? = some (.ref D3)) (i0 : IntsAre r0 row0) (i1 : IntsAre r1 row1) (i2 : IntsAre r2 row2) (i3 : IntsAre r3 row3)
    (l0 : row0.length ≤ 24) (l1 : row1.length = movers.count 1 + 1) (l2 : row2.length = movers.count 2 + 1) (l3 : row3.length = movers.count 3 + 1) (f1 : row1.getD 0 0 = hs.getD 1 0 % size) (f2 : row2.getD 0 0 = hs.getD 2 0 % size) (f3 : row3.getD 0 0 = hs.getD 3 0 % size)
    (t1 : taken row0 (row1.drop 1) ≤ row0.length) (t2 : taken row1 (row2.drop 1) ≤ row1.length) (t3 : taken row2 (row3.drop 1) ≤ row2.length) :
    LX w (fun _ => lwAt w.params 9) [] (fun L => (L + 1 + 1 + 1 + 1 + 1 + 1, o6) :: (L + 1 + 1 + 1 + 1 + 1, o5) :: (L + 1 + 1 + 1, o3) :: (L + 1 + 1, o2) :: (hl, W.listOf hvs.toArray hn) :: (vl, W.listOf vvs.toArray vn) :: (rl, W.listOf rvs.toArray rn) :: (D0, W.listOf r0.toArray n0) :: (D1, W.listOf r1.toArray n1) :: (D2, W.listOf r2.toArray n2) :: (D3, W.listOf r3.toArray n3) :: NL) (fun _ _ _ => True)
      (fun h₀ L m s Q => ∀ h' tk', Fr h₀ L h' m → News h₀ L h' NL → Q (.ret (.bool true)) { s with heap := h', toks := tk' }) := by
  delta LX lawTop
  k_fill
  intro mean mg mb dp un gd fa cd outer A₀ base h₀ L m s Q R B F hm X N T hd hu hpre hpost
  rw [← kstB_same hm] at F
  delta LN lwAt lawBody lawScope lawDef
  dsimp only [kstB, stGo] at F N hpost ⊢
  have b1 : row1.length ≤ 24 := by rw [l1]; have := List.count_le_length (a := (1 : Int)) (l := movers); omega
  have b2 : row2.length ≤ 24 := by rw [l2]; have := List.count_le_length (a := (2 : Int)) (l := movers); omega
  have b3 : row3.length ≤ 24 := by rw [l3]; have := List.count_le_length (a := (3 : Int)) (l := movers); omega
  k_steps
  unfold Halt
  rename News h₀ L _ _ => N1
  rename Fr h₀ L _ _ => F1
  refine comp_from_test (a := 1) (b := 4) (n := 3) (fun _ => false) (fun i => 1 + (i : Int)) rfl F1 N1 rfl (by decide) rfl (by decide) rfl ?ev (by decide) (by decide) (by rw [sizeLine_eq]; decide) ?turn ?fin (by intro _; rfl)
  case ev =>
    k_steps
    rename News h₀ L _ _ => N2
    exact ⟨_, _, _, _, _, _, rfl, rfl, by assumption, by assumption, N2⟩
  case turn =>
    intro g tk₁ i t hin I oI Cc oC D ys m₂ h2 tk2 E' hns hm2 F3 N3 off nn
    clear F1 N1 hpost
    rcases (by omega : i = 0 ∨ i = 1 ∨ i = 2) with rfl | rfl | rfl
    · replace hm2 : m₂ (Str.ofString "k") = some (.int 1 t) := hm2
      have qq : rvs[((1 : Int) - 1).toNat]? = some (.ref D0) := q0
      k_steps
      all_goals first
        | (exfalso; rename (row1.length : Int) ≠ _ => hf; exact hf (by rw [l1]; rfl))
        | (exfalso; rename List.getD row1 _ _ ≠ _ => hf; exact hf (by rw [Int.fmod_eq_emod_of_nonneg _ (by omega)]; exact f1))
        | skip
      unfold Halt
      rename News h₀ L _ _ => N5
      rename Fr h₀ L _ _ => F5
      rename IntsAre _ (List.drop _ _) => hdr
      refine use_ro (taken_told w _ D0 _ _ 0 n0 _ row0) (fun p hp => ?_) ⟨B, F5, X, N5, T, rfl, by ktr_room, by ktr_units⟩ ⟨hdr, i0, by rw [List.length_drop]; omega, by omega⟩ ?_
      · revert p
        exact all_cons (.head _) (fun p hp => by rw [List.mem_singleton.mp hp]; simp)
      intro t' h' tk' _ F6 N6
      rw [decide_eq_true (show taken row0 (List.drop _ row1) ≤ row0.length from t1)]
      clear F5 N5
      (try dsimp only)
      k_steps
      · trivial
      · exact ⟨_, _, rfl, F6, fun p hp => N6 p (.tail _ hp)⟩
    · replace hm2 : m₂ (Str.ofString "k") = some (.int 2 t) := hm2
      have qq : rvs[((2 : Int) - 1).toNat]? = some (.ref D1) := q1
      k_steps
      all_goals first
        | (exfalso; rename (row2.length : Int) ≠ _ => hf; exact hf (by rw [l2]; rfl))
        | (exfalso; rename List.getD row2 _ _ ≠ _ => hf; exact hf (by rw [Int.fmod_eq_emod_of_nonneg _ (by omega)]; exact f2))
        | skip
      unfold Halt
      rename News h₀ L _ _ => N5
      rename Fr h₀ L _ _ => F5
      rename IntsAre _ (List.drop _ _) => hdr
      refine use_ro (taken_told w _ D1 _ _ 0 n1 _ row1) (fun p hp => ?_) ⟨B, F5, X, N5, T, rfl, by ktr_room, by ktr_units⟩ ⟨hdr, i1, by rw [List.length_drop]; omega, by omega⟩ ?_
      · revert p
        exact all_cons (.head _) (fun p hp => by rw [List.mem_singleton.mp hp]; simp)
      intro t' h' tk' _ F6 N6
      rw [decide_eq_true (show taken row1 (List.drop _ row2) ≤ row1.length from t2)]
      clear F5 N5
      (try dsimp only)
      k_steps
      · trivial
      · exact ⟨_, _, rfl, F6, fun p hp => N6 p (.tail _ hp)⟩
    · replace hm2 : m₂ (Str.ofString "k") = some (.int 3 t) := hm2
      have qq : rvs[((3 : Int) - 1).toNat]? = some (.ref D2) := q2
      k_steps
      all_goals first
        | (exfalso; rename (row3.length : Int) ≠ _ => hf; exact hf (by rw [l3]; rfl))
        | (exfalso; rename List.getD row3 _ _ ≠ _ => hf; exact hf (by rw [Int.fmod_eq_emod_of_nonneg _ (by omega)]; exact f3))
        | skip
      unfold Halt
      rename News h₀ L _ _ => N5
      rename Fr h₀ L _ _ => F5
      rename IntsAre _ (List.drop _ _) => hdr
      refine use_ro (taken_told w _ D2 _ _ 0 n2 _ row2) (fun p hp => ?_) ⟨B, F5, X, N5, T, rfl, by ktr_room, by ktr_units⟩ ⟨hdr, i2, by rw [List.length_drop]; omega, by omega⟩ ?_
      · revert p
        exact all_cons (.head _) (fun p hp => by rw [List.mem_singleton.mp hp]; simp)
      intro t' h' tk' _ F6 N6
      rw [decide_eq_true (show taken row2 (List.drop _ row3) ≤ row2.length from t3)]
      clear F5 N5
      (try dsimp only)
      k_steps
      · trivial
      · exact ⟨_, _, rfl, F6, fun p hp => N6 p (.tail _ hp)⟩
  case fin =>
    intro D h' tk' ys hys F2 N2 o1
    clear F1 N1
    k_steps
    rename News h₀ L _ _ => N3
    exact hpost _ _ (kfr_end hm ‹_›) fun p hp => N3 p (by simp [hp])
end
end Mine
end
theorem Mine.forget_LW6 : True ∧ True := by first | (walk1; all_goals trivial; done) | exact ⟨trivial, trivial⟩
section
namespace Mine
theorem getD_drop (l : List Int) (a i : Nat) : (l.drop a).getD i 0 = l.getD (a + i) 0 := by
  simp only [List.getD_eq_getElem?_getD, List.getElem?_drop]
theorem ext_getD {l r : List Int} (hl : l.length = r.length) (h : ∀ i, i < l.length → l.getD i 0 = r.getD i 0) : l = r := by
  refine List.ext_getElem hl fun i h1 h2 => ?_
  have := h i h1
  rw [List.getD_eq_getElem?_getD, List.getD_eq_getElem?_getD, List.getElem?_eq_getElem h1, List.getElem?_eq_getElem h2] at this
  exact this
theorem getD_map_range {z : Nat → Int} {n i : Nat} (hi : i < n) : ((List.range n).map z).getD i 0 = z i := by
  rw [List.getD_eq_getElem?_getD, List.getElem?_map, List.getElem?_range hi]; rfl
theorem ends_counts {size : Int} {hs : List Int} {c : PS} (V : Inv size hs c) (g : guard c.counts = false) : c.counts.drop (c.counts.length - 5) = List.replicate 5 1 := by
  have g' : ¬ (c.counts.length < 23 ∧ c.counts.drop (c.counts.length - 5) ≠ List.replicate 5 1) := of_decide_eq_false g
  rcases Nat.lt_or_ge c.counts.length 23 with q | q
  · rcases Decidable.em (c.counts.drop (c.counts.length - 5) = List.replicate 5 1) with e | e
    · exact e
    · exact absurd ⟨q, e⟩ g'
  · obtain ⟨a, a1, a2, a3, -⟩ := V.ones
    refine ext_getD (by rw [List.length_drop, List.length_replicate]; omega) fun i hi => ?_
    rw [List.length_drop] at hi
    rw [getD_drop, a3 _ (by omega) (by omega)]
    rw [List.getD_eq_getElem?_getD, List.getElem?_replicate, if_pos (by omega)]
    rfl
theorem ends_len {counts : List Int} (h : counts.drop (counts.length - 5) = List.replicate 5 1) : 5 ≤ counts.length := by
  have := congrArg List.length h
  rw [List.length_drop, List.length_replicate] at this
  omega
theorem ends_movers {size : Int} {hs : List Int} {c : PS} (V : Inv size hs c) (h : c.counts.drop (c.counts.length - 5) = List.replicate 5 1) :
    c.movers.drop (c.movers.length - 5) = (List.range 5).map fun k => (c.movers.getD (c.movers.length - 5) 0 + ((k : Nat) : Int)) % 4 := by
  have h5 := ends_len h
  have hl := V.len
  have one : ∀ i, i < 5 → c.counts.getD (c.counts.length - 5 + i) 0 = 1 := fun i hi => by
    rw [← getD_drop, h, List.getD_eq_getElem?_getD, List.getElem?_replicate, if_pos hi]
    rfl
  have key : ∀ i, i < 5 → c.movers.getD (c.counts.length - 5 + i) 0 = (c.movers.getD (c.counts.length - 5) 0 + ((i : Nat) : Int)) % 4 := by
    intro i
    induction i with
    | zero =>
      intro _
      have hb := V.mv (c.movers.getD (c.counts.length - 5) 0) (by
        rw [List.getD_eq_getElem?_getD, List.getElem?_eq_getElem (by omega)]
        exact List.getElem_mem _)
      rw [Nat.add_zero]
      omega
    | succ i ih =>
      intro hi
      have e := V.round (c.counts.length - 5 + i) (by omega) (one i (by omega))
      rw [← Nat.add_assoc, e, ih (by omega)]
      omega
  refine ext_getD (by rw [List.length_drop, List.length_map, List.length_range]; omega) fun i hi => ?_
  rw [List.length_drop] at hi
  rw [getD_drop, hl, key i (by omega), getD_map_range (by omega)]
theorem ends_row {size : Int} {hs : List Int} {c : PS} (V : Inv size hs c) (k : Nat) (hk : k < 4) : (c.tls.getD k []).length = c.movers.count (k : Int) + 1 ∧ (c.tls.getD k []).getD 0 0 = hs.getD k 0 % size := by
  obtain ⟨h1, h2, -⟩ := V.tk k hk
  refine ⟨h1, ?_⟩
  cases e : c.tls.getD k [] with
  | nil => rw [e] at h1; simp at h1
  | cons a r => rw [e] at h2; simpa using h2
theorem ends_taken {size : Int} {hs : List Int} {c : PS} (V : Inv size hs c) (k : Nat) (hk : k < 3) : taken (c.tls.getD k []) ((c.tls.getD (k + 1) []).drop 1) ≤ (c.tls.getD k []).length := by
  have := (V.tak k hk).1
  rwa [← List.drop_one] at this
/-- the ring's first states -/
theorem st_ok {hs : List Int} (h6 : hs.length = 6) {size : Int} (hs4 : size = 4 ∨ size = 5) : StOk size ((hs.take 4).map fun x => x.fmod size) ∧ ∀ k, k < 4 → ((hs.take 4).map fun x => x.fmod size).getD k 0 = hs.getD k 0 % size := by
  refine ⟨⟨hs4, by rw [List.length_map, List.length_take, h6]; rfl, fun x hx => ?_⟩, fun k hk => ?_⟩
  · obtain ⟨y, -, rfl⟩ := List.mem_map.mp hx
    exact ⟨Int.fmod_nonneg_of_pos _ (by omega), Int.fmod_lt_of_pos _ (by omega)⟩
  · rw [List.getD_eq_getElem?_getD, List.getElem?_map, List.getElem?_take_of_lt hk, List.getD_eq_getElem?_getD, List.getElem?_eq_getElem (by omega)]
    show Int.fmod _ size = _ % size
    exact Int.fmod_eq_emod_of_nonneg _ (by omega)
end Mine
end
theorem Mine.forget_PE : True ∧ True := by first | (walk1; all_goals trivial; done) | exact ⟨trivial, trivial⟩
section
namespace Mine
section
variable {w : World} {mean : ExcName → Option Value} {mg mb : Str → Option Value} {dp un : Nat} {gd : Option (List Code)} {fa : Addr} {cd : Value} {outer : List Env} {A₀ : Around} {base h₀ : Heap} {L : Addr} {m : Str → Option Value} {s : Shared} {Q : Flow → Shared → Prop} {E : Value → Shared → Prop}
theorem use_l {st : Env → Stmt} {rs : List Stmt} {ps : List (Str × Value)} {news : Addr → List (Addr × Obj)} {pre : Heap → Addr → Shared → Prop} {post : Post} (S : LX w st ps news pre post) (B : Below A₀ base outer h₀) (F : Fr h₀ L s.heap m) (hm : ∀ p ∈ ps, m p.1 = some p.2) (X : Frag.In (hd.heap_39 w.params) h₀)
    (N : News h₀ L s.heap (news L)) (T : Top topProg lo mean mg mb h₀) (hdp : dp + 400 < recursionLimit) (hu : un + 4000 < cLine) (hp : pre h₀ L s) (h : post h₀ L m s (fun f s' => match f with | .next => wpAny (model PySem.Challenge.rw_xe0044_01.row.prog w) (lawTop w dp un gd L fa cd outer) (execs rs (LN w L fa cd)) Q E s' | f => Q f s')) :
    wpAny (model PySem.Challenge.rw_xe0044_01.row.prog w) (lawTop w dp un gd L fa cd outer) (execs (st (LN w L fa cd) :: rs) (LN w L fa cd)) Q E s :=
  wpAny_execs_cons (S mean mg mb dp un gd fa cd outer A₀ base h₀ L m s _ E B F hm X N T hdp hu hp h)
local macro_rules | `(tactic| kst_all) => `(tactic| repeat' (first | exact ks_nil | (refine ks_cons ?_ ?_) | exact kset_hit | (refine kset_miss (by decide) ?_) | assumption))
theorem law_body (al : Addr) (avs : List Value) (ans : List Int) (o1 o2 o3 o4 o5 o6 : Obj) (hi : IntsAre avs ans) (h63 : ans.length ≤ 63) (hal : h₀.IsList al avs.toArray) (c1 : o1.data = .cell (some (.ref al))) (c2 : o2.data = .cell none) (c3 : o3.data = .cell none) (c4 : o4.data = .cell none) (c5 : o5.data = .cell none) (c6 : o6.data = .cell none)
    (B : Below A₀ h₀ [] h₀) (F : Fr h₀ L s.heap m) (X : Frag.In (hd.heap_39 w.params) h₀) (T : Top topProg lo mean mg mb h₀) (hdp : dp + 400 < recursionLimit) (hu : un + 4000 < cLine) (h187 : @LT.lt Nat _ 187 L)
    (N : News h₀ L s.heap [(L + 1 + 1 + 1 + 1 + 1 + 1, o6), (L + 1 + 1 + 1 + 1 + 1, o5), (L + 1 + 1 + 1 + 1, o4), (L + 1 + 1 + 1, o3), (L + 1 + 1, o2), (L + 1, o1), (187, tabObj #[])])
    (h : ∀ h' tk m', (∃ ps, h'.get? 187 = some (tabObj ps)) → Fr h₀ L h' m' → Q (.ret (.bool true)) { s with heap := h', toks := tk }) :
    wpAny (model PySem.Challenge.rw_xe0044_01.row.prog w) (lawTop w dp un gd L fa cd []) (execs (lawBody w.params) (LN w L fa cd)) Q E s := by
  rw [law_list]
  have nX : ∀ {i j : Nat}, i ≠ j → Nat.add L i ≠ Nat.add L j := fun h e => h (Nat.add_left_cancel e)
  have l187 : ∀ k : Nat, Nat.add L k ≠ 187 := fun k e => by
    have e' : L + k = 187 := e
    exact absurd h187 (by have := Nat.le_add_right L k; rw [e'] at this; exact Nat.not_lt_of_le this)
  generalize hX0 : [(L + 1 + 1 + 1 + 1 + 1 + 1, o6), (L + 1 + 1 + 1 + 1 + 1, o5), (L + 1 + 1 + 1 + 1, o4), (L + 1 + 1 + 1, o3), (L + 1 + 1, o2), (L + 1, o1), (187, tabObj #[])] = X0 at N
  have x6 : (L + 1 + 1 + 1 + 1 + 1 + 1, o6) ∈ X0 := by rw [← hX0]; exact mem_at 0 rfl
  have x5 : (L + 1 + 1 + 1 + 1 + 1, o5) ∈ X0 := by rw [← hX0]; exact mem_at 1 rfl
  have x4 : (L + 1 + 1 + 1 + 1, o4) ∈ X0 := by rw [← hX0]; exact mem_at 2 rfl
  have x3 : (L + 1 + 1 + 1, o3) ∈ X0 := by rw [← hX0]; exact mem_at 3 rfl
  have x2 : (L + 1 + 1, o2) ∈ X0 := by rw [← hX0]; exact mem_at 4 rfl
  have x1 : (L + 1, o1) ∈ X0 := by rw [← hX0]; exact mem_at 5 rfl
  have x187 : (187, tabObj #[]) ∈ X0 := by rw [← hX0]; exact mem_at 6 rfl
  -- heaps
  refine use_l (st := fun _ => lwAt w.params 0) (l0_told w al avs ans o1 o2 (dr (L + 1 + 1) X0) hi h63 c1 c2) B F ks_nil X (news_sub N fun p hp => ?_) T hdp hu ⟨hal, fun p hp => ?_⟩ ?_
  · revert p
    exact all_cons (x2) (all_cons (x1)  (fun p hp => (mem_dr.mp hp).1))
  · revert p
    exact all_cons (nX (i := 1) (j := 2) (by decide)) (fun p hp => dr_off p hp)
  rintro hl hvs hs hn o2' ha tka hhv h6 hb c2' hhl Fa Na
  dsimp only
  generalize hX1 : (hl, W.listOf hvs.toArray hn) :: (L + 1 + 1, o2') :: dr (L + 1 + 1) X0 = X1
  replace Na := news_sub Na (r := X1) (fun p hp => by
    rw [← hX1] at hp
    revert p
    exact all_cons (.head _) (all_cons (.tail _ (.head _))  (fun p hp => .tail _ (.tail _ (.tail _ hp)))))
  have to1 : ∀ p ∈ X0, p.1 ≠ L + 1 + 1 → p ∈ X1 := fun p hp n => by rw [← hX1]; exact .tail _ (in_upd hp n)
  have hl0 : ∀ p ∈ X0, p.1 ≠ hl := fun p hp => by
    by_cases e : p.1 = L + 1 + 1
    · rw [e]; exact hhl (L + 1 + 1, o2) (.head _)
    · exact hhl p (.tail _ (.tail _ (dr_in hp e)))
  have hl1 : (hl, W.listOf hvs.toArray hn) ∈ X1 := by rw [← hX1]; exact .head _
  have o21 : (L + 1 + 1, o2') ∈ X1 := by rw [← hX1]; exact .tail _ (.head _)
  have hd5 : 0 ≤ hs.getD 5 0 ∧ hs.getD 5 0 < 10 ^ 9 := by
    rw [List.getD_eq_getElem?_getD, List.getElem?_eq_getElem (by rw [h6]; decide)]
    exact hb _ (List.getElem_mem _)
  -- dress
  refine use_l (st := fun _ => lwAt w.params 1) (l1_told w hl hvs hs hn o2' X1 hhv h6 c2') B Fa ks_nil X (news_sub Na fun p hp => ?_) T hdp hu trivial ?_
  · revert p
    exact all_cons (hl1) (all_cons (o21)  (fun p hp => hp))
  rintro v hb' tkb ⟨td, rfl⟩ Fb Nb
  dsimp only
  replace Nb := news_sub Nb (r := X1) (fun p hp => .tail _ (.tail _ hp))
  generalize hdd : hs.getD 5 0 = d at *
  -- size
  have x1_3 : (L + 1 + 1 + 1, o3) ∈ X1 := to1 _ x3 (nX (i := 3) (j := 2) (by decide))
  refine use_l (st := fun _ => lwAt w.params 2) (l2_told w o3 d td (dr (L + 1 + 1 + 1) X1) hd5 c3) B Fb (by kst_all) X (news_sub Nb fun p hp => ?_) T hdp hu dr_off ?_
  · revert p
    exact all_cons (x1_3) (fun p hp => (mem_dr.mp hp).1)
  rintro o3' ts hc tkc c3' Fc Nc
  dsimp only
  generalize hX2 : (L + 1 + 1 + 1, o3') :: dr (L + 1 + 1 + 1) X1 = X2 at Nc
  have to2 : ∀ p ∈ X1, p.1 ≠ L + 1 + 1 + 1 → p ∈ X2 := fun p hp n => by rw [← hX2]; exact in_upd hp n
  have o32 : (L + 1 + 1 + 1, o3') ∈ X2 := by rw [← hX2]; exact .head _
  have hl2 : (hl, W.listOf hvs.toArray hn) ∈ X2 := to2 _ hl1 (fun e => hl0 _ x3 e.symm)
  have o22 : (L + 1 + 1, o2') ∈ X2 := to2 _ o21 (nX (i := 2) (j := 3) (by decide))
  have hsz : 4 + d.fmod 2 = 4 ∨ 4 + d.fmod 2 = 5 := by
    have h0 : 0 ≤ d.fmod 2 := Int.fmod_nonneg_of_pos _ (by decide)
    have h1 : d.fmod 2 < 2 := Int.fmod_lt_of_pos _ (by decide)
    omega
  generalize 4 + d.fmod 2 = size at *
  obtain ⟨hok, hst⟩ := st_ok h6 hsz
  -- states
  refine use_l (st := fun _ => lwAt w.params 3) (l3_told w hl hvs hs hn o2' o3' size ts X2 hhv h6 hsz c2' c3') B Fc ks_nil X (news_sub Nc fun p hp => ?_) T hdp hu trivial ?_
  · revert p
    exact all_cons (hl2) (all_cons (o22)  (all_cons (o32)   (fun p hp => hp)))
  rintro sl svs hd' tkd hsv hD Fd Nd
  dsimp only
  replace Nd := news_sub Nd (r := (sl, LCg.lst svs) :: X2) (fun p hp => by
    revert p
    exact all_cons (.head _) (fun p hp => .tail _ (.tail _ (.tail _ (.tail _ hp)))))
  have hD2 : ∀ p ∈ X2, p.1 ≠ sl := fun p hp => hD p (.tail _ (.tail _ (.tail _ hp)))
  generalize (hs.take 4).map (fun x => x.fmod size) = st at *
  -- hand
  refine use_l (st := fun _ => lwAt w.params 4) (l4_told w d td ((sl, LCg.lst svs) :: X2) hd5) B Fd (by kst_all) X Nd T hdp hu trivial ?_
  rintro v he tke ⟨hand, rfl, hh⟩ Fe Ne'
  dsimp only
  -- the run
  have x2_6 : (L + 1 + 1 + 1 + 1 + 1 + 1, o6) ∈ X2 := to2 _ (to1 _ x6 (nX (i := 6) (j := 2) (by decide))) (nX (i := 6) (j := 3) (by decide))
  have x2_5 : (L + 1 + 1 + 1 + 1 + 1, o5) ∈ X2 := to2 _ (to1 _ x5 (nX (i := 5) (j := 2) (by decide))) (nX (i := 5) (j := 3) (by decide))
  have x2_4 : (L + 1 + 1 + 1 + 1, o4) ∈ X2 := to2 _ (to1 _ x4 (nX (i := 4) (j := 2) (by decide))) (nX (i := 4) (j := 3) (by decide))
  have x2_1 : (L + 1, o1) ∈ X2 := to2 _ (to1 _ x1 (nX (i := 1) (j := 2) (by decide))) (nX (i := 1) (j := 3) (by decide))
  have x2_187 : (187, tabObj #[]) ∈ X2 := to2 _ (to1 _ x187 (fun e => l187 2 e.symm)) (fun e => l187 3 e.symm)
  have hl187 : hl ≠ 187 := (hl0 _ x187).symm
  have sl187 : sl ≠ 187 := (hD2 _ x2_187).symm
  refine wpAny_execs_cons (l5_told w hl sl hand hvs svs hs st hn svs.length o2' o3' o4 o5 o6 size d ts td [(L + 1, o1)] hhv h6 hb hsv hok hst hd5 hh c2' c3' c4 c5 c6 mean mg mb dp un gd fa cd A₀ h₀ L _ _ _ _ B Fe (by kst_all) X (news_sub Ne' fun p hp => ?_) T hdp hu (fun p hp => ?_) (fun p hp => ?_) (fun p hp => ?_) ?_)
  · revert p
    exact all_cons (.tail _ x2_6) (all_cons (.tail _ x2_5) (all_cons (.tail _ x2_4) (all_cons (.tail _ o32) (all_cons (.tail _ o22) (all_cons (.tail _ hl2) (all_cons (.tail _ x2_187) (all_cons (.head _) (all_cons (.tail _ x2_1) (fun _ h => nomatch h)))))))))
  · revert p
    exact all_cons (sl187) (all_cons (l187 6) (all_cons (l187 5) (all_cons (l187 4) (all_cons (l187 3) (all_cons (l187 2) (all_cons (hl187) (all_cons (l187 1) (fun _ h => nomatch h))))))))
  · revert p
    exact all_cons (hD2 _ x2_6) (all_cons (hD2 _ x2_5) (all_cons (hD2 _ x2_4) (all_cons (hD2 _ o32) (all_cons (hD2 _ o22) (all_cons (hD2 _ hl2) (all_cons (hD2 _ x2_1) (fun _ h => nomatch h)))))))
  · rw [List.mem_singleton.mp hp]
    exact ⟨nX (i := 1) (j := 4) (by decide), nX (i := 1) (j := 5) (by decide), nX (i := 1) (j := 6) (by decide)⟩
  rintro cl vl rl cvs vvs cn vn rn ds ps c o4' o5' o6' hf tkf V gc lc i1 i2 i3 d4 d5 d6 Ff Nf
  dsimp only
  have e5 := ends_counts V gc
  have h5 := ends_len e5
  have em := ends_movers V e5
  have hml := V.len
  generalize hXf : (L + 1 + 1 + 1 + 1 + 1 + 1, o6') :: (L + 1 + 1 + 1 + 1 + 1, o5') :: (L + 1 + 1 + 1 + 1, o4') :: (cl, W.listOf cvs.toArray cn) :: (vl, W.listOf vvs.toArray vn) :: (rl, W.listOf (rwRefs ds).toArray rn) :: (rwObjs ds ++ (187, tabObj ps) :: (L + 1 + 1 + 1, o3') :: (L + 1 + 1, o2') :: (hl, W.listOf hvs.toArray hn) :: [(L + 1, o1)]) = Xf at Nf
  have y6 : (L + 1 + 1 + 1 + 1 + 1 + 1, o6') ∈ Xf := by rw [← hXf]; exact .head _
  have y5 : (L + 1 + 1 + 1 + 1 + 1, o5') ∈ Xf := by rw [← hXf]; exact .tail _ (.head _)
  have y4 : (L + 1 + 1 + 1 + 1, o4') ∈ Xf := by rw [← hXf]; exact .tail _ (.tail _ (.head _))
  have y3 : (L + 1 + 1 + 1, o3') ∈ Xf := by rw [← hXf]; exact .tail _ (.tail _ (.tail _ (.tail _ (.tail _ (.tail _ (List.mem_append_right _ (.tail _ (.head _))))))))
  have y2 : (L + 1 + 1, o2') ∈ Xf := by rw [← hXf]; exact .tail _ (.tail _ (.tail _ (.tail _ (.tail _ (.tail _ (List.mem_append_right _ (.tail _ (.tail _ (.head _)))))))))
  have yh : (hl, W.listOf hvs.toArray hn) ∈ Xf := by rw [← hXf]; exact .tail _ (.tail _ (.tail _ (.tail _ (.tail _ (.tail _ (List.mem_append_right _ (.tail _ (.tail _ (.tail _ (.head _))))))))))
  have y187 : (187, tabObj ps) ∈ Xf := by rw [← hXf]; exact .tail _ (.tail _ (.tail _ (.tail _ (.tail _ (.tail _ (List.mem_append_right _ (.head _)))))))
  have yc : (cl, W.listOf cvs.toArray cn) ∈ Xf := by rw [← hXf]; exact .tail _ (.tail _ (.tail _ (.head _)))
  have yv : (vl, W.listOf vvs.toArray vn) ∈ Xf := by rw [← hXf]; exact .tail _ (.tail _ (.tail _ (.tail _ (.head _))))
  have yr : (rl, W.listOf (rwRefs ds).toArray rn) ∈ Xf := by rw [← hXf]; exact .tail _ (.tail _ (.tail _ (.tail _ (.tail _ (.head _)))))
  have yd : ∀ d' ∈ ds, (d'.1, LCg.lst d'.2) ∈ Xf := fun d' hd' => by
    have : (d'.1, LCg.lst d'.2) ∈ rwObjs ds := List.mem_map.mpr ⟨d', hd', rfl⟩
    rw [← hXf]
    exact .tail _ (.tail _ (.tail _ (.tail _ (.tail _ (.tail _ (List.mem_append_left _ this))))))
  clear hXf
  obtain ⟨d0, d1, d2, d3, rfl⟩ := four_of i3.len
  have j0 := i3.ok 0 d0 rfl
  have j1 := i3.ok 1 d1 rfl
  have j2 := i3.ok 2 d2 rfl
  have j3 := i3.ok 3 d3 rfl
  have y0 := yd d0 (mem_at 0 rfl)
  have y1 := yd d1 (mem_at 1 rfl)
  have yy2 := yd d2 (mem_at 2 rfl)
  have yy3 := yd d3 (mem_at 3 rfl)
  obtain ⟨w0, g0⟩ := ends_row V 0 (by decide)
  obtain ⟨w1, g1⟩ := ends_row V 1 (by decide)
  obtain ⟨w2, g2⟩ := ends_row V 2 (by decide)
  obtain ⟨w3, g3⟩ := ends_row V 3 (by decide)
  have u1 := ends_taken V 0 (by decide)
  have u2 := ends_taken V 1 (by decide)
  have u3 := ends_taken V 2 (by decide)
  have V0 := V.t0
  have hmc : c.movers.count 0 ≤ 23 := Nat.le_trans List.count_le_length (by rw [hml]; exact lc)
  -- the ifs
  refine use_l (st := fun _ => lwAt w.params 6) (l6_told w cl cvs c.counts cn o4' Xf i1 lc d4 e5 V.dec) B Ff ks_nil X (news_sub Nf fun p hp => ?_) T hdp hu trivial ?_
  · revert p
    exact all_cons (y4) (all_cons (yc)  (fun p hp => hp))
  rintro h7 tk7 F7 N7
  dsimp only
  replace N7 := news_sub N7 (r := Xf) (fun p hp => .tail _ (.tail _ hp))
  refine use_l (st := fun _ => lwAt w.params 7) (l7_told w vl vvs c.movers vn o5' Xf i2 (by rw [hml]; exact h5) (by rw [hml]; exact lc) V.mv d5 em) B F7 ks_nil X (news_sub N7 fun p hp => ?_) T hdp hu trivial ?_
  · revert p
    exact all_cons (y5) (all_cons (yv)  (fun p hp => hp))
  rintro h8 tk8 F8 N8
  dsimp only
  replace N8 := news_sub N8 (r := Xf) (fun p hp => .tail _ (.tail _ hp))
  refine use_l (st := fun _ => lwAt w.params 8) (l8_told w hl vl rl d0.1 hvs vvs (rwRefs [d0, d1, d2, d3]) d0.2 hs c.movers (c.tls.getD 0 []) hn vn rn o2' o3' o5' o6' size ts Xf hhv h6 hb hsz i2 (by rw [hml]; exact lc) c2' c3' d5 d6 rfl rfl j0 V0) B F8 ks_nil X (news_sub N8 fun p hp => ?_) T hdp hu trivial ?_
  · revert p
    exact all_cons y6 (all_cons y5 (all_cons y3 (all_cons y2 (all_cons yh (all_cons yv (all_cons yr (all_cons y0 fun _ hp => hp)))))))
  rintro h9 tk9 F9 N9
  dsimp only
  replace N9 := news_sub N9 (r := Xf) (fun p hp => .tail _ (.tail _ (.tail _ (.tail _ (.tail _ (.tail _ (.tail _ (.tail _ hp))))))))
  refine use_l (st := fun _ => lwAt w.params 9) (l9_told w hl vl rl d0.1 d1.1 d2.1 d3.1 hvs vvs (rwRefs [d0, d1, d2, d3]) d0.2 d1.2 d2.2 d3.2 hs c.movers (c.tls.getD 0 []) (c.tls.getD 1 []) (c.tls.getD 2 []) (c.tls.getD 3 []) hn vn rn d0.2.length d1.2.length d2.2.length d3.2.length o2' o3' o5' o6' size ts [(187, tabObj ps)] hhv h6 hb hsz i2 (by rw [hml]; exact lc) c2' c3' d5 d6 rfl rfl rfl rfl j0 j1 j2 j3 (by rw [w0]; exact Nat.succ_le_succ hmc) w1 w2 w3 g1 g2 g3 u1 u2 u3) B F9 ks_nil X (news_sub N9 fun p hp => ?_) T hdp hu trivial ?_
  · revert p
    exact all_cons (y6) (all_cons (y5) (all_cons (y3) (all_cons (y2) (all_cons (yh) (all_cons (yv) (all_cons (yr) (all_cons (y0) (all_cons (y1) (all_cons (yy2) (all_cons (yy3) (all_cons (y187) (fun _ h => nomatch h))))))))))))
  rintro h10 tk10 F10 N10
  exact h h10 tk10 _ ⟨ps, (N10 _ (.head _)).1⟩ F10
end
end Mine
end
theorem Mine.forget_LW7 : True ∧ True := by first | (walk1; all_goals trivial; done) | exact ⟨trivial, trivial⟩
section
namespace Mine
theorem final : PySem.Challenge.rw_xe0044_01.Holds := by
  refine holds_law said39 fun said => ?_
  refine holds_open (q := hd.view_39) (loose := [Str.ofString "COMPILER_FLAG_NAMES", Str.ofString "Whitespace", Str.ofString "SubElement"]) (Xt := fun s => xlAt hd.view_39 [] s && recOk (RowW.records PySem.Challenge.rw_xe0044_01.row.toRowW) s) (XP := XL hd.view_39 []) (Yf := (kmHook hd.heap_39 as39 as39_is [187]).obs) (Ya := (kmHook hd.heap_39 as39 as39_is [187]).val) (YP := (kmHook hd.heap_39 as39 as39_is [187]).says) (N := 3260) (byRow2 "special-get-raises" left_f left_t) (kmHook hd.heap_39 as39 as39_is [187]).of (kmHook hd.heap_39 as39 as39_is [187]).keeps (fun s e => xl_of s (Bool.and_eq_true_iff.mp e).1) XL.keeps (by rfl) (by rfl) (by rfl) (fun s e => recFacts_of (Bool.and_eq_true_iff.mp e).2) (by rfl) said looks39 bare39 wit39 ?hc
  k_go0
  rename IntsAre _ _ => kI
  rename ¬ _ < _ => kC
  rename News _ _ _ _ => kN
  rename Fr _ _ _ _ => kF
  rename Below _ _ _ _ => kB
  rename Frag.In _ _ => kX
  rename Top topProg _ _ _ _ _ => kT
  refine law_body (dp := 302) (un := 7) (gd := some []) _ _ _ _ _ _ _ _ _ kI ?k63 lifted ?c1 ?c2 ?c3 ?c4 ?c5 ?c6 kB kF kX kT ?dp ?un ?k187 kN ?post
  case k63 => omega
  case c1 => exact cell_of (by assumption) (by kernel_rfl)
  case c2 => exact cell_of (by assumption) (by kernel_rfl)
  case c3 => exact cell_of (by assumption) (by kernel_rfl)
  case c4 => exact cell_of (by assumption) (by kernel_rfl)
  case c5 => exact cell_of (by assumption) (by kernel_rfl)
  case c6 => exact cell_of (by assumption) (by kernel_rfl)
  case dp => decide
  case un => decide
  case k187 => assumption
  case post =>
    intro h' tk m' hps F'
    refine ⟨?_, hps, trivial⟩
    k_steps
end Mine
end
theorem Mine.forget_ZF : True ∧ True := by first | (walk1; all_goals trivial; done) | exact ⟨trivial, trivial⟩
theorem PySem.Challenge.cw_xe0044_01_holds : PySem.Challenge.rw_xe0044_01.Holds := by
  exact Mine.final
