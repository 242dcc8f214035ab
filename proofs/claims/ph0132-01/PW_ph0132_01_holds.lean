import PyProof.Rows.All
import Wide.All
import OpenK.AllK
import Wide.FinOn
import KE.KLam
import KE.KEqDict
import Lean
import PySem.Challenge.RW_ph0132_01
set_option autoImplicit false
set_option Elab.async false
set_option linter.unusedSectionVars false
set_option linter.unusedVariables false
set_option genInjectivity false
set_option genSizeOf false
noncomputable section
namespace Mine
theorem gl {α:Sort _}(x:α) {G:Prop}(k:∀ y,y = x→G):G:=k x rfl
theorem gr {α:Sort _}(x:α) {G:Prop}(k:∀ y,x = y→G):G:=k x rfl
section
variable {G:Prop}{A1 A2 A3 A4 A5 A6 A7 A8 A9 A10 A11 A12 A13 A14 A15 A16 A17 A18 A19 A20 A21 A22 A23 A24:Sort _}{a0 b0 c0 d0 p0 q0 r0 s0 t0 u0 v0 w0:Prop}{p1 q1 r1 s1 t1 u1 v1:A1→Prop}{p2 q2 r2 s2 t2 u2:A1→A2→Prop}{p3 q3 r3 s3 t3 u3:A1→A2→A3→Prop}{p4 q4 r4 s4 t4 u4 v4:A1→A2→A3→A4→Prop}{p5:A1→A2→A3→A4→A5→Prop}{p6:A1→A2→A3→A4→A5→A6→Prop}{p8 q8 r8 s8 t8:A1→A2→A3→A4→A5→A6→A7→A8→Prop}{p9 q9:A1→A2→A3→A4→A5→A6→A7→A8→A9→Prop}{p11:A1→A2→A3→A4→A5→A6→A7→A8→A9→A10→A11→Prop}{p18:A1→A2→A3→A4→A5→A6→A7→A8→A9→A10→A11→A12→A13→A14→A15→A16→A17→A18→Prop}{p19:A1→A2→A3→A4→A5→A6→A7→A8→A9→A10→A11→A12→A13→A14→A15→A16→A17→A18→A19→Prop}{p24:A1→A2→A3→A4→A5→A6→A7→A8→A9→A10→A11→A12→A13→A14→A15→A16→A17→A18→A19→A20→A21→A22→A23→A24→Prop}
theorem ex0111 (h:p0∧∃ x,q1 x∧r1 x) (k:p0→∀ x,q1 x→r1 x→G):G:=by obtain ⟨h0,x,h1,h2⟩:=h;exact k h0 x h1 h2
theorem ex0112 (h:p0∧∃ x,q1 x∧r1 x∧s1 x) (k:p0→∀ x,q1 x→r1 x→s1 x→G):G:=by obtain ⟨h0,x,h1,h2,h3⟩:=h;exact k h0 x h1 h2 h3
theorem ex0123 (h:p0∧∃ x y,q2 x y∧r2 x y∧s2 x y∧t2 x y) (k:p0→∀ x y,q2 x y→r2 x y→s2 x y→t2 x y→G):G:=by obtain ⟨h0,x,y,h1,h2,h3,h4⟩:=h;exact k h0 x y h1 h2 h3 h4
theorem ex02 (h:p0∧q0∧r0) (k:p0→q0→r0→G):G:=by obtain ⟨h0,h1,h2⟩:=h;exact k h0 h1 h2
theorem ex0222 (h:p0∧q0∧∃ x y,r2 x y∧s2 x y∧t2 x y) (k:p0→q0→∀ x y,r2 x y→s2 x y→t2 x y→G):G:=by obtain ⟨h0,h1,x,y,h2,h3,h4⟩:=h;exact k h0 h1 x y h2 h3 h4
theorem ex0233 (h:p0∧q0∧∃ x y z,r3 x y z∧s3 x y z∧t3 x y z∧u3 x y z) (k:p0→q0→∀ x y z,r3 x y z→s3 x y z→t3 x y z→u3 x y z→G):G:=by obtain ⟨h0,h1,x,y,z,h2,h3,h4,h5⟩:=h;exact k h0 h1 x y z h2 h3 h4 h5
theorem ex03 (h:p0∧q0∧r0∧s0) (k:p0→q0→r0→s0→G):G:=by obtain ⟨h0,h1,h2,h3⟩:=h;exact k h0 h1 h2 h3
theorem ex04 (h:p0∧q0∧r0∧s0∧t0) (k:p0→q0→r0→s0→t0→G):G:=by obtain ⟨h0,h1,h2,h3,h4⟩:=h;exact k h0 h1 h2 h3 h4
theorem ex05 (h:p0∧q0∧r0∧s0∧t0∧u0) (k:p0→q0→r0→s0→t0→u0→G):G:=by obtain ⟨h0,h1,h2,h3,h4,h5⟩:=h;exact k h0 h1 h2 h3 h4 h5
theorem ex06 (h:p0∧q0∧r0∧s0∧t0∧u0∧v0) (k:p0→q0→r0→s0→t0→u0→v0→G):G:=by obtain ⟨h0,h1,h2,h3,h4,h5,h6⟩:=h;exact k h0 h1 h2 h3 h4 h5 h6
theorem ex08 (h:p0∧q0∧r0∧s0∧t0∧u0∧v0∧w0∧a0) (k:p0→q0→r0→s0→t0→u0→v0→w0→a0→G):G:=by obtain ⟨h0,h1,h2,h3,h4,h5,h6,h7,h8⟩:=h;exact k h0 h1 h2 h3 h4 h5 h6 h7 h8
theorem ex09 (h:p0∧q0∧r0∧s0∧t0∧u0∧v0∧w0∧a0∧b0) (k:p0→q0→r0→s0→t0→u0→v0→w0→a0→b0→G):G:=by obtain ⟨h0,h1,h2,h3,h4,h5,h6,h7,h8,h9⟩:=h;exact k h0 h1 h2 h3 h4 h5 h6 h7 h8 h9
theorem ex0_11 (h:p0∧q0∧r0∧s0∧t0∧u0∧v0∧w0∧a0∧b0∧c0∧d0) (k:p0→q0→r0→s0→t0→u0→v0→w0→a0→b0→c0→d0→G):G:=by obtain ⟨h0,h1,h2,h3,h4,h5,h6,h7,h8,h9,h10,h11⟩:=h;exact k h0 h1 h2 h3 h4 h5 h6 h7 h8 h9 h10 h11
theorem ex11 (h:∃ x,p1 x∧q1 x) (k:∀ x,p1 x→q1 x→G):G:=by obtain ⟨x,h0,h1⟩:=h;exact k x h0 h1
theorem ex111 (h:∃ x,p1 x∧∃ y,q2 x y) (k:∀ x,p1 x→∀ y,q2 x y→G):G:=by obtain ⟨x,h0,y,h1⟩:=h;exact k x h0 y h1
theorem ex11_0 (h:∃ x1 x2 x3 x4 x5 x6 x7 x8 x9 x10 x11,p11 x1 x2 x3 x4 x5 x6 x7 x8 x9 x10 x11) (k:∀ x1 x2 x3 x4 x5 x6 x7 x8 x9 x10 x11,p11 x1 x2 x3 x4 x5 x6 x7 x8 x9 x10 x11→G):G:=by obtain ⟨x1,x2,x3,x4,x5,x6,x7,x8,x9,x10,x11,h0⟩:=h;exact k x1 x2 x3 x4 x5 x6 x7 x8 x9 x10 x11 h0
theorem ex12 (h:∃ x,p1 x∧q1 x∧r1 x) (k:∀ x,p1 x→q1 x→r1 x→G):G:=by obtain ⟨x,h0,h1,h2⟩:=h;exact k x h0 h1 h2
theorem ex121 (h:∃ x,p1 x∧q1 x∧∃ y,r2 x y) (k:∀ x,p1 x→q1 x→∀ y,r2 x y→G):G:=by obtain ⟨x,h0,h1,y,h2⟩:=h;exact k x h0 h1 y h2
theorem ex13 (h:∃ x,p1 x∧q1 x∧r1 x∧s1 x) (k:∀ x,p1 x→q1 x→r1 x→s1 x→G):G:=by obtain ⟨x,h0,h1,h2,h3⟩:=h;exact k x h0 h1 h2 h3
theorem ex14 (h:∃ x,p1 x∧q1 x∧r1 x∧s1 x∧t1 x) (k:∀ x,p1 x→q1 x→r1 x→s1 x→t1 x→G):G:=by obtain ⟨x,h0,h1,h2,h3,h4⟩:=h;exact k x h0 h1 h2 h3 h4
theorem ex16 (h:∃ x,p1 x∧q1 x∧r1 x∧s1 x∧t1 x∧u1 x∧v1 x) (k:∀ x,p1 x→q1 x→r1 x→s1 x→t1 x→u1 x→v1 x→G):G:=by obtain ⟨x,h0,h1,h2,h3,h4,h5,h6⟩:=h;exact k x h0 h1 h2 h3 h4 h5 h6
theorem ex18_0 (h:∃ x1 x2 x3 x4 x5 x6 x7 x8 x9 x10 x11 x12 x13 x14 x15 x16 x17 x18,p18 x1 x2 x3 x4 x5 x6 x7 x8 x9 x10 x11 x12 x13 x14 x15 x16 x17 x18) (k:∀ x1 x2 x3 x4 x5 x6 x7 x8 x9 x10 x11 x12 x13 x14 x15 x16 x17 x18,p18 x1 x2 x3 x4 x5 x6 x7 x8 x9 x10 x11 x12 x13 x14 x15 x16 x17 x18→G):G:=by obtain ⟨x1,x2,x3,x4,x5,x6,x7,x8,x9,x10,x11,x12,x13,x14,x15,x16,x17,x18,h0⟩:=h;exact k x1 x2 x3 x4 x5 x6 x7 x8 x9 x10 x11 x12 x13 x14 x15 x16 x17 x18 h0
theorem ex19_0 (h:∃ x1 x2 x3 x4 x5 x6 x7 x8 x9 x10 x11 x12 x13 x14 x15 x16 x17 x18 x19,p19 x1 x2 x3 x4 x5 x6 x7 x8 x9 x10 x11 x12 x13 x14 x15 x16 x17 x18 x19) (k:∀ x1 x2 x3 x4 x5 x6 x7 x8 x9 x10 x11 x12 x13 x14 x15 x16 x17 x18 x19,p19 x1 x2 x3 x4 x5 x6 x7 x8 x9 x10 x11 x12 x13 x14 x15 x16 x17 x18 x19→G):G:=by obtain ⟨x1,x2,x3,x4,x5,x6,x7,x8,x9,x10,x11,x12,x13,x14,x15,x16,x17,x18,x19,h0⟩:=h;exact k x1 x2 x3 x4 x5 x6 x7 x8 x9 x10 x11 x12 x13 x14 x15 x16 x17 x18 x19 h0
theorem ex20 (h:∃ x y,p2 x y) (k:∀ x y,p2 x y→G):G:=by obtain ⟨x,y,h0⟩:=h;exact k x y h0
theorem ex21 (h:∃ x y,p2 x y∧q2 x y) (k:∀ x y,p2 x y→q2 x y→G):G:=by obtain ⟨x,y,h0,h1⟩:=h;exact k x y h0 h1
theorem ex22 (h:∃ x y,p2 x y∧q2 x y∧r2 x y) (k:∀ x y,p2 x y→q2 x y→r2 x y→G):G:=by obtain ⟨x,y,h0,h1,h2⟩:=h;exact k x y h0 h1 h2
theorem ex23 (h:∃ x y,p2 x y∧q2 x y∧r2 x y∧s2 x y) (k:∀ x y,p2 x y→q2 x y→r2 x y→s2 x y→G):G:=by obtain ⟨x,y,h0,h1,h2,h3⟩:=h;exact k x y h0 h1 h2 h3
theorem ex25 (h:∃ x y,p2 x y∧q2 x y∧r2 x y∧s2 x y∧t2 x y∧u2 x y) (k:∀ x y,p2 x y→q2 x y→r2 x y→s2 x y→t2 x y→u2 x y→G):G:=by obtain ⟨x,y,h0,h1,h2,h3,h4,h5⟩:=h;exact k x y h0 h1 h2 h3 h4 h5
theorem ex30 (h:∃ x y z,p3 x y z) (k:∀ x y z,p3 x y z→G):G:=by obtain ⟨x,y,z,h0⟩:=h;exact k x y z h0
theorem ex31 (h:∃ x y z,p3 x y z∧q3 x y z) (k:∀ x y z,p3 x y z→q3 x y z→G):G:=by obtain ⟨x,y,z,h0,h1⟩:=h;exact k x y z h0 h1
theorem ex32 (h:∃ x y z,p3 x y z∧q3 x y z∧r3 x y z) (k:∀ x y z,p3 x y z→q3 x y z→r3 x y z→G):G:=by obtain ⟨x,y,z,h0,h1,h2⟩:=h;exact k x y z h0 h1 h2
theorem ex34 (h:∃ x y z,p3 x y z∧q3 x y z∧r3 x y z∧s3 x y z∧t3 x y z) (k:∀ x y z,p3 x y z→q3 x y z→r3 x y z→s3 x y z→t3 x y z→G):G:=by obtain ⟨x,y,z,h0,h1,h2,h3,h4⟩:=h;exact k x y z h0 h1 h2 h3 h4
theorem ex35 (h:∃ x y z,p3 x y z∧q3 x y z∧r3 x y z∧s3 x y z∧t3 x y z∧u3 x y z) (k:∀ x y z,p3 x y z→q3 x y z→r3 x y z→s3 x y z→t3 x y z→u3 x y z→G):G:=by obtain ⟨x,y,z,h0,h1,h2,h3,h4,h5⟩:=h;exact k x y z h0 h1 h2 h3 h4 h5
theorem ex40 (h:∃ x y z w,p4 x y z w) (k:∀ x y z w,p4 x y z w→G):G:=by obtain ⟨x,y,z,w,h0⟩:=h;exact k x y z w h0
theorem ex42 (h:∃ x y z w,p4 x y z w∧q4 x y z w∧r4 x y z w) (k:∀ x y z w,p4 x y z w→q4 x y z w→r4 x y z w→G):G:=by obtain ⟨x,y,z,w,h0,h1,h2⟩:=h;exact k x y z w h0 h1 h2
theorem ex43 (h:∃ x y z w,p4 x y z w∧q4 x y z w∧r4 x y z w∧s4 x y z w) (k:∀ x y z w,p4 x y z w→q4 x y z w→r4 x y z w→s4 x y z w→G):G:=by obtain ⟨x,y,z,w,h0,h1,h2,h3⟩:=h;exact k x y z w h0 h1 h2 h3
theorem ex46 (h:∃ x y z w,p4 x y z w∧q4 x y z w∧r4 x y z w∧s4 x y z w∧t4 x y z w∧u4 x y z w∧v4 x y z w) (k:∀ x y z w,p4 x y z w→q4 x y z w→r4 x y z w→s4 x y z w→t4 x y z w→u4 x y z w→v4 x y z w→G):G:=by obtain ⟨x,y,z,w,h0,h1,h2,h3,h4,h5,h6⟩:=h;exact k x y z w h0 h1 h2 h3 h4 h5 h6
theorem ex50 (h:∃ x y z w u,p5 x y z w u) (k:∀ x y z w u,p5 x y z w u→G):G:=by obtain ⟨x,y,z,w,u,h0⟩:=h;exact k x y z w u h0
theorem ex60 (h:∃ x y z w u v,p6 x y z w u v) (k:∀ x y z w u v,p6 x y z w u v→G):G:=by obtain ⟨x,y,z,w,u,v,h0⟩:=h;exact k x y z w u v h0
theorem ex80 (h:∃ x1 x2 x3 x4 x5 x6 x7 x8,p8 x1 x2 x3 x4 x5 x6 x7 x8) (k:∀ x1 x2 x3 x4 x5 x6 x7 x8,p8 x1 x2 x3 x4 x5 x6 x7 x8→G):G:=by obtain ⟨x1,x2,x3,x4,x5,x6,x7,x8,h0⟩:=h;exact k x1 x2 x3 x4 x5 x6 x7 x8 h0
theorem ex82 (h:∃ x1 x2 x3 x4 x5 x6 x7 x8,p8 x1 x2 x3 x4 x5 x6 x7 x8∧q8 x1 x2 x3 x4 x5 x6 x7 x8∧r8 x1 x2 x3 x4 x5 x6 x7 x8) (k:∀ x1 x2 x3 x4 x5 x6 x7 x8,p8 x1 x2 x3 x4 x5 x6 x7 x8→q8 x1 x2 x3 x4 x5 x6 x7 x8→r8 x1 x2 x3 x4 x5 x6 x7 x8→G):G:=by obtain ⟨x1,x2,x3,x4,x5,x6,x7,x8,h0,h1,h2⟩:=h;exact k x1 x2 x3 x4 x5 x6 x7 x8 h0 h1 h2
theorem ex84 (h:∃ x1 x2 x3 x4 x5 x6 x7 x8,p8 x1 x2 x3 x4 x5 x6 x7 x8∧q8 x1 x2 x3 x4 x5 x6 x7 x8∧r8 x1 x2 x3 x4 x5 x6 x7 x8∧s8 x1 x2 x3 x4 x5 x6 x7 x8∧t8 x1 x2 x3 x4 x5 x6 x7 x8) (k:∀ x1 x2 x3 x4 x5 x6 x7 x8,p8 x1 x2 x3 x4 x5 x6 x7 x8→q8 x1 x2 x3 x4 x5 x6 x7 x8→r8 x1 x2 x3 x4 x5 x6 x7 x8→s8 x1 x2 x3 x4 x5 x6 x7 x8→t8 x1 x2 x3 x4 x5 x6 x7 x8→G):G:=by obtain ⟨x1,x2,x3,x4,x5,x6,x7,x8,h0,h1,h2,h3,h4⟩:=h;exact k x1 x2 x3 x4 x5 x6 x7 x8 h0 h1 h2 h3 h4
theorem ex90 (h:∃ x1 x2 x3 x4 x5 x6 x7 x8 x9,p9 x1 x2 x3 x4 x5 x6 x7 x8 x9) (k:∀ x1 x2 x3 x4 x5 x6 x7 x8 x9,p9 x1 x2 x3 x4 x5 x6 x7 x8 x9→G):G:=by obtain ⟨x1,x2,x3,x4,x5,x6,x7,x8,x9,h0⟩:=h;exact k x1 x2 x3 x4 x5 x6 x7 x8 x9 h0
theorem ex91 (h:∃ x1 x2 x3 x4 x5 x6 x7 x8 x9,p9 x1 x2 x3 x4 x5 x6 x7 x8 x9∧q9 x1 x2 x3 x4 x5 x6 x7 x8 x9) (k:∀ x1 x2 x3 x4 x5 x6 x7 x8 x9,p9 x1 x2 x3 x4 x5 x6 x7 x8 x9→q9 x1 x2 x3 x4 x5 x6 x7 x8 x9→G):G:=by obtain ⟨x1,x2,x3,x4,x5,x6,x7,x8,x9,h0,h1⟩:=h;exact k x1 x2 x3 x4 x5 x6 x7 x8 x9 h0 h1
end
theorem ex24 {G:Prop}{A1 A2:Sort _}{P1 P2 P3 P4 P5:A1→A2→Prop}(h:∃ x y,P1 x y∧P2 x y∧P3 x y∧P4 x y∧P5 x y) (k:∀ x y,P1 x y→P2 x y→P3 x y→P4 x y→P5 x y→G):G:=by obtain ⟨x,y,h0,h1,h2,h3,h4⟩:=h;exact k x y h0 h1 h2 h3 h4
theorem ex27 {G:Prop}{A1 A2:Sort _}{P1 P2 P3 P4 P5 P6 P7 P8:A1→A2→Prop}(h:∃ x y,P1 x y∧P2 x y∧P3 x y∧P4 x y∧P5 x y∧P6 x y∧P7 x y∧P8 x y) (k:∀ x y,P1 x y→P2 x y→P3 x y→P4 x y→P5 x y→P6 x y→P7 x y→P8 x y→G):G:=by obtain ⟨x,y,h0,h1,h2,h3,h4,h5,h6,h7⟩:=h;exact k x y h0 h1 h2 h3 h4 h5 h6 h7
theorem ex37 {G:Prop}{A1 A2 A3:Sort _}{P1 P2 P3 P4 P5 P6 P7 P8:A1→A2→A3→Prop}(h:∃ x y z,P1 x y z∧P2 x y z∧P3 x y z∧P4 x y z∧P5 x y z∧P6 x y z∧P7 x y z∧P8 x y z) (k:∀ x y z,P1 x y z→P2 x y z→P3 x y z→P4 x y z→P5 x y z→P6 x y z→P7 x y z→P8 x y z→G):G:=by obtain ⟨x,y,z,h0,h1,h2,h3,h4,h5,h6,h7⟩:=h;exact k x y z h0 h1 h2 h3 h4 h5 h6 h7
theorem g5v {β:Type}{A0 A1 A2 A3 A4:Type}(X:β) {F:A0→A1→A2→A3→A4→β}(x0:A0) (x1:A1) (x2:A2) (x3:A3) (x4:A4) (e:X = F x0 x1 x2 x3 x4) {G:Prop}(k:∀ x0 x1 x2 x3 x4,X = F x0 x1 x2 x3 x4→G):G:=k x0 x1 x2 x3 x4 e
theorem g8v {β:Type}{A0 A1 A2 A3 A4 A5 A6 A7:Type}(X:β) {F:A0→A1→A2→A3→A4→A5→A6→A7→β}(x0:A0) (x1:A1) (x2:A2) (x3:A3) (x4:A4) (x5:A5) (x6:A6) (x7:A7) (e:X = F x0 x1 x2 x3 x4 x5 x6 x7) {G:Prop}(k:∀ x0 x1 x2 x3 x4 x5 x6 x7,X = F x0 x1 x2 x3 x4 x5 x6 x7→G):G:=k x0 x1 x2 x3 x4 x5 x6 x7 e
theorem g18v {β:Type}{A0 A1 A2 A3 A4 A5 A6 A7 A8 A9 A10 A11 A12 A13 A14 A15 A16 A17:Type}(X:β) {F:A0→A1→A2→A3→A4→A5→A6→A7→A8→A9→A10→A11→A12→A13→A14→A15→A16→A17→β}(x0:A0) (x1:A1) (x2:A2) (x3:A3) (x4:A4) (x5:A5) (x6:A6) (x7:A7) (x8:A8) (x9:A9) (x10:A10) (x11:A11) (x12:A12) (x13:A13) (x14:A14) (x15:A15) (x16:A16) (x17:A17) (e:X = F x0 x1 x2 x3 x4 x5 x6 x7 x8 x9 x10 x11 x12 x13 x14 x15 x16 x17) {G:Prop}(k:∀ x0 x1 x2 x3 x4 x5 x6 x7 x8 x9 x10 x11 x12 x13 x14 x15 x16 x17,X = F x0 x1 x2 x3 x4 x5 x6 x7 x8 x9 x10 x11 x12 x13 x14 x15 x16 x17→G):G:=k x0 x1 x2 x3 x4 x5 x6 x7 x8 x9 x10 x11 x12 x13 x14 x15 x16 x17 e
theorem mc {α:Type}{a b:α}{l:List α}(h:a ∈ b::l):b = a ∨ a ∈ l:=(List.mem_cons.mp h).imp_left Eq.symm
theorem mcI {α:Type}{a b:α}{l:List α}:a ∈ b::l ↔ b = a ∨ a ∈ l:=List.mem_cons.trans (or_congr_left eq_comm)
theorem ms {α:Type}{a b:α}(h:a ∈ [b]):b = a:=(List.mem_singleton.mp h).symm
theorem fn {α:Type}{P:α→Prop}:∀ x ∈ ([]:List α),P x:=fun _ h=>absurd h List.not_mem_nil
theorem fm {α:Type}{P:α→Prop}{a:α}{l:List α}(h:P a) (k:∀ x ∈ l,P x):∀ x ∈ a::l,P x:=fun _ q=>(mc q).elim (fun e=>e ▸ h) (k _)
section
variable {a b c d i j k m n x:Nat}
theorem ar2 (h:i < n):n - i = n - (i + 1) + 1:=(Nat.sub_add_cancel (Nat.sub_pos_of_lt h)).symm
theorem ar3 (h:i < n):n - 1 - i + 1 = n - i:=by rw [Nat.sub_right_comm];exact Nat.sub_add_cancel (Nat.sub_pos_of_lt h)
theorem ar4 (h:i < n):n - 1 - i < n:=Nat.lt_of_le_of_lt (Nat.sub_le _ _) (Nat.sub_lt (Nat.zero_lt_of_lt h) Nat.one_pos)
theorem ar5 (h:a ≤ b) (k:b ≤ c):c - a = b - a + (c - b):=by rw [Nat.add_comm];exact (Nat.sub_add_sub_cancel k h).symm
theorem mid_lt (h:a < b) (k:¬ a + 1 = b):a < (a + b) / 2∧(a + b) / 2 < b:=by omega
theorem ar6 (h:a ≤ b) (k:b ≤ c):a + (b - a) + (c - b) = c:=by rw [Nat.add_sub_cancel' h,Nat.add_sub_cancel' k]
theorem ar8 (h:c - a ≤ k + 1) (h1:a < b) (h2:b < c):b - a ≤ k∧c - b ≤ k:=⟨Nat.le_of_lt_succ (Nat.lt_of_lt_of_le (Nat.sub_lt_sub_right (Nat.le_of_lt h1) h2) h),Nat.le_of_lt_succ (Nat.lt_of_lt_of_le (Nat.sub_lt_sub_left (Nat.lt_trans h1 h2) h1) h)⟩
end
theorem lk {κ:Type} [BEq κ] [LawfulBEq κ] {α:Type}{P:κ→α→Prop}{k:κ}{d:α}{l:List (κ × α)}(h:P k d) (t:∀ x e,l.lookup x = some e→P x e):∀ x e,((k,d)::l).lookup x = some e→P x e:=fun x e q=>by
 rw [List.lookup_cons] at q
 by_cases hx:(x == k) = true
 ·rw [hx] at q;cases q;rw [beq_iff_eq.mp hx];exact h
 ·simp only [hx] at q;exact t x e q
theorem lkn {κ:Type} [BEq κ] {α:Type}{P:κ→α→Prop}:∀ x e,([]:List (κ × α)).lookup x = some e→P x e:=nofun
end Mine
open PySem PySem.W PyProof.Rows
namespace Mine
theorem runs_size {M:Model}{Γ:Ctx}{p:Pos}{t:Sem Fin}{fs:List Frame}{s s':Shared}{e:End}(h:Runs M Γ p t fs s e s'):s.heap.objs.size ≤ s'.heap.objs.size:=by
 induction h <;> (try simp only [Shared.setGen,Heap.size_push,Heap.size_after_update] at *) <;> lia
theorem wakes_size {M:Model}{Γ:Ctx}{p:Pos}{g:Nat}{r:Resume}{s s':Shared}{res:GenResult}(h:Wakes M Γ p g r s res s'):s.heap.objs.size ≤ s'.heap.objs.size:=by
 unfold Wakes at h
 split at h
 ·exact h.elim
 ·split at h
  ·obtain ⟨e₁,s₁,hr,_,_,rfl⟩:=h;exact (runs_size hr:(s.setGen g .running).heap.objs.size ≤ s₁.heap.objs.size)
  ·rw [h.2];exact Nat.le_refl _
  ·rw [h.2];exact Nat.le_refl _
 ·obtain ⟨e₁,s₁,hr,_,_,rfl⟩:=h;exact (runs_size hr:(s.setGen g .running).heap.objs.size ≤ s₁.heap.objs.size)
 ·rw [h.2];exact Nat.le_refl _
 ·rw [h.2];exact Nat.le_refl _
theorem wp_size {α:Type}(M:Model) (Γ:Ctx) (n:Nat) (t:Sem α):∀ (Q:α→Pos→Shared→Prop) (E:Value→Pos→Shared→Prop) (p:Pos) (s:Shared),n ≤ s.heap.objs.size→Sem.wp M Γ t Q E p s →
  Sem.wp M Γ t (fun a p' s'=>n ≤ s'.heap.objs.size∧Q a p' s') (fun e p' s'=>n ≤ s'.heap.objs.size∧E e p' s') p s:=by
 induction t with
 | pure a=>intro Q E p s hn h;exact ⟨hn,h⟩
 | raise e=>intro Q E p s hn h;exact ⟨hn,h⟩
 | unsupported _=>intro Q E p s _ h;exact h
 | finish _=>intro Q E p s _ h;exact h
 | rule _ k ih=>intro Q E p s hn h;exact ih () Q E p s hn h
 | «at» p' k ih=>intro Q E p s hn h;exact ih () Q E p' s hn h
 | load a _ k ih=>intro Q E p s hn h;obtain ⟨o,ho,h⟩:=h;exact ⟨o,ho,ih o Q E p s hn h⟩
 | update a _ f k ih=>intro Q E p s hn h;exact ⟨h.1,ih () Q E p _ (by simpa using hn) h.2⟩
 | loadIfAlive a k ih=>intro Q E p s hn h;exact ih _ Q E p s hn h
 | point _ k ih=>intro Q E p s hn h;exact ih () Q E p s hn h
 | register _ _=>intro Q E p s _ h;exact h
 | alloc o k ih=>intro Q E p s hn h;exact ih _ Q E p _ (by simp only [Heap.size_push];exact Nat.le_succ_of_le hn) h
 | fresh k ih=>intro Q E p s hn h;exact ih _ Q E p _ hn h
 | ask k ih=>intro Q E p s hn h;exact ih _ Q E p s hn h
 | choose src m k ih=>intro Q E p s hn h;exact ⟨h.1,ih _ Q E p _ hn h.2⟩
 | os q _ k ih=>intro Q E p s hn h;exact ih _ Q E p _ hn h
 | call c hd _ _ k ih=>intro Q E p s hn h;obtain ⟨r,s',hr,h⟩:=h;exact ⟨r,s',hr,ih r Q E p s' (Nat.le_trans hn (runs_size hr)) h⟩
 | handled own k ih=>intro Q E p s hn h;exact ih _ Q E p s hn h
 | genState g k ih=>intro Q E p s hn h;obtain ⟨st,hs,h⟩:=h;exact ⟨st,hs,ih _ Q E p s hn h⟩
 | newGen c k ih=>intro Q E p s hn h;exact ih _ Q E p _ hn h
 | resume g r _ k ih=>intro Q E p s hn h;obtain ⟨res,s',hw,h⟩:=h;exact ⟨res,s',hw,ih res Q E p s' (Nat.le_trans hn (wakes_size hw)) h⟩
 | yield _ _ _ _=>intro Q E p s _ h;exact h
 | stack k ih=>intro Q E p s hn h;exact ih _ Q E p s hn h
 | fork _ _=>intro Q E p s _ h;exact h
 | thread k ih=>intro Q E p s hn h;exact ih _ Q E p s hn h
 | await _ _ _ _ _=>intro Q E p s _ h;exact h
theorem with_size {α:Type}{M:Model}{A:Around}{s:Shared}{t:Sem α}{Q:α→Shared→Prop}{E:Value→Shared→Prop}
  (h:wpAny M A t (fun a s'=>s.heap.objs.size ≤ s'.heap.objs.size→Q a s') E s):wpAny M A t Q E s:=
 fun Γ p hΓ=>Sem.wp_mono M Γ t (fun _ _ _ x=>x.2 x.1) (fun _ _ _ x=>x.2) p s (wp_size M Γ _ t _ _ p s (Nat.le_refl _) (h Γ p hΓ))
theorem code_size {M:Model}{A:Around}{s:Shared}{c:Code}{R:Result→Shared→Prop}(h:codeAny M A c (fun r s'=>s.heap.objs.size ≤ s'.heap.objs.size→R r s') s):codeAny M A c R s:=
 fun Γ p hc hΓ=>by obtain ⟨r,s',hr,hR⟩:=h Γ p hc hΓ;exact ⟨r,s',hr,hR (runs_size hr)⟩
end Mine
namespace Mine
abbrev D:=PyData
class Wd where
 hs:Str→Int
variable [Wd]
structure WW where
 w:World
 eq:∀ k,hashStr w k = Wd.hs k
instance:Coe WW World:=⟨fun x=>x.w⟩
abbrev opq (a:Addr):D:=.dict [(.int (a:Int),.none)]
noncomputable def tabs:List Addr:=[30,37,107,114]
noncomputable def N0:Nat:=150
theorem tabs_lt {a:Addr}(h:N0 ≤ a):a ∉ tabs:=by
 intro hm
 simp only [tabs,List.mem_cons,List.not_mem_nil,or_false] at hm
 simp only [N0] at h
 rcases hm with rfl | rfl | rfl | rfl <;> exact absurd h (by decide)
abbrev tbl (ps:Array Value):Obj:={ cls:=.none,data:=.fields ps }
structure Step (X:List Addr) (h h':Heap):Prop where
 keep:∀ a o,h.get? a = some o→a ∉ X→a ∉ tabs→h'.get? a = some o
 tab:∀ t ∈ tabs,∀ ps,h.get? t = some (tbl ps)→∃ more,h'.get? t = some (tbl (ps ++ more))
 size:h.objs.size ≤ h'.objs.size
namespace Step
variable {X Y:List Addr}{h h' h'':Heap}
theorem refl (X:List Addr) (h:Heap):Step X h h:=⟨fun _ _ e _ _=>e,fun _ _ ps e=>⟨#[],by simpa using e⟩,Nat.le_refl _⟩
theorem trans (a:Step X h h') (b:Step X h' h''):Step X h h'':=
 ⟨fun x o e n m=>b.keep x o (a.keep x o e n m) n m,fun t ht ps e=>by
  obtain ⟨m1,e1⟩:=a.tab t ht ps e
  obtain ⟨m2,e2⟩:=b.tab t ht _ e1
  exact ⟨m1 ++ m2,by rw [e2,Array.append_assoc]⟩,Nat.le_trans a.size b.size⟩
theorem mono (a:Step X h h') (s:∀ x ∈ X,x ∈ Y ∨ h.objs.size ≤ x):Step Y h h':=
 ⟨fun x o e n m=>a.keep x o e (fun hx=>(s x hx).elim n fun hs=>Nat.lt_irrefl _ (Nat.lt_of_lt_of_le (Heap.lt_size e) hs)) m,a.tab,a.size⟩
theorem of_keeps (k:∀ b o,h.get? b = some o→h'.get? b = some o) (z:h.objs.size ≤ h'.objs.size):Step X h h':=
 ⟨fun a o e _ _=>k a o e,fun t _ ps e=>⟨#[],by simpa using k _ _ e⟩,z⟩
theorem of_sameBut {a:Addr}(hs:Heap.SameBut a h h') (ha:a ∈ X) (hn:N0 ≤ a):Step X h h':=
 ⟨fun b o e nb _=>(hs.2 b (fun q=>nb (q ▸ ha))).trans e,fun t ht ps e=>⟨#[],by
  rw [hs.2 t (fun q=>tabs_lt hn (q ▸ ht)),e];simp⟩,Nat.le_of_eq hs.1.symm⟩
theorem push (o:Obj):Step X h (h.push o):=of_keeps (fun _ _ e=>Heap.get?_push_of_some o e) (by simp)
end Step
mutual
inductive V (h:Heap) (H:List Addr):Value→D→Prop
 | none:V h H .none .none
 | bool (b):V h H (.bool b) (.bool b)
 | int (i t):V h H (.int i t) (.int i)
 | str (x t):V h H (.str x t) (.str x)
 | list {a vs n xs}:h.get? a = some { cls:=.type "list",data:=.seq vs n }→a ∉ H→N0 ≤ a→VL h H vs.toList xs→V h H (.ref a) (.list xs)
 | tuple {a o vs n xs}:h.get? a = some o→o.cls = .type "tuple"→o.data = .seq vs n→a ∉ H→N0 ≤ a→VL h H vs.toList xs→V h H (.ref a) (.tuple xs)
 | dict {a es n kvs}:h.get? a = some { cls:=.type "dict",data:=.dict es n }→a ∉ H→N0 ≤ a→VD h H es.toList kvs→(kvs.map (·.1)).Nodup→V h H (.ref a) (.dict kvs)
 | opq (a):V h H (.ref a) (opq a)
inductive VL (h:Heap) (H:List Addr):List Value→List D→Prop
 | nil:VL h H [] []
 | cons {v vs d ds}:V h H v d→VL h H vs ds→VL h H (v::vs) (d::ds)
inductive VD (h:Heap) (H:List Addr):List DictEntry→List (D × D)→Prop
 | nil:VD h H [] []
 | cons {e r k t d ds}:e.key = .str k t→e.hash = Wd.hs k→V h H e.val d→VD h H r ds→VD h H (e::r) ((.str k,d)::ds)
end
section
variable {h h':Heap}{H H' X:List Addr}
theorem VL.ind {M:List Value→List D→Prop}(n:M [] []) (c:∀ v d vs ds,V h H v d→VL h H vs ds→M vs ds→M (v::vs) (d::ds)) {vs:List Value}{ds:List D}(x:VL h H vs ds):M vs ds:=
 VL.rec (motive_1:=fun _ _ _=>True) (motive_2:=fun vs ds _=>M vs ds) (motive_3:=fun _ _ _=>True) trivial (fun _=>trivial) (fun _ _=>trivial) (fun _ _=>trivial) (by intros;trivial) (by intros;trivial) (by intros;trivial) (fun _=>trivial) n (fun a b _ ih=>c _ _ _ _ a b ih) trivial (by intros;trivial) x
section
variable (st:Step X h h') (sub:∀ x ∈ X,x ∈ H) (hh:∀ x ∈ H',x ∈ H ∨ h.objs.size ≤ x)
include st sub hh
theorem V.step {v:Value}{d:D}(x:V h H v d):V h' H' v d:=
 V.rec (motive_1:=fun v d _=>V h' H' v d) (motive_2:=fun vs ds _=>VL h' H' vs ds) (motive_3:=fun es kv _=>VD h' H' es kv) .none .bool .int .str
  (fun e n g _ ih=>.list (st.keep _ _ e (fun q=>n (sub _ q)) (tabs_lt g)) (fun q=>(hh _ q).elim n fun z=>Nat.lt_irrefl _ (Nat.lt_of_lt_of_le (Heap.lt_size e) z)) g ih)
  (fun e c1 c2 n g _ ih=>.tuple (st.keep _ _ e (fun q=>n (sub _ q)) (tabs_lt g)) c1 c2 (fun q=>(hh _ q).elim n fun z=>Nat.lt_irrefl _ (Nat.lt_of_lt_of_le (Heap.lt_size e) z)) g ih)
  (fun e n g _ q ih=>.dict (st.keep _ _ e (fun q=>n (sub _ q)) (tabs_lt g)) (fun q=>(hh _ q).elim n fun z=>Nat.lt_irrefl _ (Nat.lt_of_lt_of_le (Heap.lt_size e) z)) g ih q) .opq .nil (fun _ _ a b=>.cons a b) .nil (fun k q _ _ a b=>.cons k q a b) x
theorem VL.step {vs:List Value}{ds:List D}(x:VL h H vs ds):VL h' H' vs ds:=VL.ind .nil (fun _ _ _ _ a _ ih=>.cons (a.step st sub hh) ih) x
theorem VD.step {vs:List DictEntry}{ds:List (D × D)}(x:VD h H vs ds):VD h' H' vs ds:=
 VD.rec (motive_1:=fun _ _ _=>True) (motive_2:=fun _ _ _=>True) (motive_3:=fun es kv _=>VD h' H' es kv) trivial (fun _=>trivial) (fun _ _=>trivial) (fun _ _=>trivial) (by intros;trivial) (by intros;trivial) (by intros;trivial) (fun _=>trivial) trivial (by intros;trivial) .nil (fun k q a _ _ b=>.cons k q (a.step st sub hh) b) x
end
theorem V.grow (st:Step [] h h') {v:Value}{d:D}(x:V h H v d):V h' H v d:=x.step st (fun _ q=>(nomatch q)) (fun _ q=>.inl q)
theorem VL.grow (st:Step [] h h') {v:List Value}{d:List D}(x:VL h H v d):VL h' H v d:=x.step st (fun _ q=>(nomatch q)) (fun _ q=>.inl q)
theorem V.less {v:Value}{d:D}(x:V h H v d) (hh:∀ x ∈ H',x ∈ H ∨ h.objs.size ≤ x):V h H' v d:=x.step (X:=[]) (Step.refl [] h) (fun _ q=>(nomatch q)) hh
theorem VL.length {vs:List Value}{ds:List D}(x:VL h H vs ds):vs.length = ds.length:=VL.ind (M:=fun vs ds=>vs.length = ds.length) rfl (fun _ _ _ _ _ _ ih=>congrArg (· + 1) ih) x
theorem VL.get {vs:List Value}{ds:List D}(x:VL h H vs ds) {i:Nat}{d:D}(e:ds[i]? = some d):∃ v,vs[i]? = some v∧V h H v d:=by
 refine VL.ind (M:=fun vs ds=>∀ (i:Nat) (d:D),ds[i]? = some d→∃ v,vs[i]? = some v∧V h H v d) (fun _ _ e=>by simp at e) (fun v d vs ds a _ ih i d' e=>?_) x i d e
 cases i with
 | zero=>obtain rfl:=Option.some.inj e;exact ⟨_,rfl,a⟩
 | succ i=>exact ih i d' e
theorem VL.append {vs ws:List Value}{ds es:List D}(x:VL h H vs ds) (y:VL h H ws es):VL h H (vs ++ ws) (ds ++ es):=VL.ind (M:=fun vs ds=>VL h H (vs ++ ws) (ds ++ es)) y (fun _ _ _ _ a _ ih=>.cons a ih) x
theorem VL.reverse {vs:List Value}{ds:List D}(x:VL h H vs ds):VL h H vs.reverse ds.reverse:=VL.ind (M:=fun vs ds=>VL h H vs.reverse ds.reverse) .nil (fun _ _ _ _ a _ ih=>by rw [List.reverse_cons,List.reverse_cons];exact ih.append (.cons a .nil)) x
theorem V.reads {v:Value}{d:D}(x:V h H v d):d.canLay0 = true→∃ as,Reads h v d as:=
 V.rec (motive_1:=fun v d _=>d.canLay0 = true→∃ as,Reads h v d as) (motive_2:=fun vs ds _=>PyData.canLayAll0 ds = true→∃ as,ReadsAll h vs ds as) (motive_3:=fun _ _ _=>True) (fun _=>⟨_,.none⟩) (fun b _=>⟨_,.bool b⟩) (fun i t _=>⟨_,.int i t⟩) (fun x t _=>⟨_,.str x t⟩)
  (fun e _ _ _ ih q=>(ih (by simpa [PyData.canLay0] using q)).elim fun _ r=>⟨_,.list e rfl rfl r⟩) (fun e c1 c2 _ _ _ ih q=>(ih (by simpa [PyData.canLay0] using q)).elim fun _ r=>⟨_,.tuple e c1 c2 r⟩)
  (fun _ _ _ _ _ _ q=>by simp [PyData.canLay0] at q) (fun _ q=>by simp [PyData.canLay0] at q) (fun _=>⟨_,.nil⟩)
  (fun _ _ i1 i2 q=>by
   have q':=(by simpa [PyData.canLayAll0] using q:_∧_)
   exact (i1 q'.1).elim fun _ r1=>(i2 q'.2).elim fun _ r2=>⟨_,.cons r1 r2⟩) trivial (by intros;trivial) x
theorem V.intI {v:Value}{i:Int}(x:V h H v (.int i)):∃ t,v = .int i t:=by cases x;exact ⟨_,rfl⟩
theorem V.strI {v:Value}{y:Str}(x:V h H v (.str y)):∃ t,v = .str y t:=by cases x;exact ⟨_,rfl⟩
theorem V.boolI {v:Value}{b:Bool}(x:V h H v (.bool b)):v = .bool b:=by cases x;rfl
theorem V.noneI {v:Value}(x:V h H v .none):v = .none:=by cases x;rfl
theorem VL.nilI {vs:List Value}(x:VL h H vs []):vs = []:=by cases x;rfl
theorem VL.consI {vs:List Value}{d:D}{ds:List D}(x:VL h H vs (d::ds)):∃ v ws,vs = v::ws∧V h H v d∧VL h H ws ds:=by cases x;exact ⟨_,_,rfl,‹_›,‹_›⟩
theorem VL.one {vs:List Value}{d:D}(x:VL h H vs [d]):∃ v,vs = [v]∧V h H v d:=by
 refine ex22 x.consI fun v ws zq1 a b=>?_;subst zq1
 obtain rfl:=b.nilI
 exact ⟨v,rfl,a⟩
theorem VL.pair {vs:List Value}{d e:D}(x:VL h H vs [d,e]):∃ v w,vs = [v,w]∧V h H v d∧V h H w e:=by
 refine ex22 x.consI fun v ws zq1 a b=>?_;subst zq1
 refine ex11 b.one fun w zq1 c=>?_;subst zq1
 exact ⟨v,w,rfl,a,c⟩
end
theorem lenS {α:Type}{n:Nat}{vs:List α}(h:vs.length = n + 1):∃ a t,vs = a::t∧t.length = n:=by
 cases vs with
 | nil=>cases h
 | cons a t=>exact ⟨a,t,rfl,Nat.succ.inj h⟩
theorem len1 {α:Type}{vs:List α}(h:vs.length = 1):∃ a,vs = [a]:=by
 refine ex21 (lenS h) fun a t zq1 q=>?_;subst zq1
 obtain rfl:=List.eq_nil_of_length_eq_zero q
 exact ⟨a,rfl⟩
theorem len2 {α:Type}{vs:List α}(h:vs.length = 2):∃ a b,vs = [a,b]:=by
 refine ex21 (lenS h) fun a t zq1 q=>?_;subst zq1
 obtain ⟨b,rfl⟩:=len1 q
 exact ⟨a,b,rfl⟩
theorem len3 {α:Type}{vs:List α}(h:vs.length = 3):∃ a b c,vs = [a,b,c]:=by
 refine ex21 (lenS h) fun a t zq1 q=>?_;subst zq1
 refine ex20 (len2 q) fun b c zq1=>?_;subst zq1
 exact ⟨a,b,c,rfl⟩
theorem len4 {α:Type}{vs:List α}(h:vs.length = 4):∃ a b c d,vs = [a,b,c,d]:=by
 refine ex21 (lenS h) fun a t zq1 q=>?_;subst zq1
 refine ex30 (len3 q) fun b c d zq1=>?_;subst zq1
 exact ⟨a,b,c,d,rfl⟩
theorem len6 {α:Type}{vs:List α}(h:vs.length = 6):∃ a b c d e f,vs = [a,b,c,d,e,f]:=by
 refine ex21 (lenS h) fun a t zq1 q=>?_;subst zq1
 refine ex21 (lenS q) fun b u zq1 q2=>?_;subst zq1
 refine ex40 (len4 q2) fun c d e f zq1=>?_;subst zq1
 exact ⟨a,b,c,d,e,f,rfl⟩
structure SStep (X:List Addr) (s s':Shared):Prop where
 st:Step X s.heap s'.heap
 os:s'.os = s.os
 gens:AllBare s.gens→AllBare s'.gens
namespace SStep
variable {X Y:List Addr}{s s' s'':Shared}
theorem refl (X:List Addr) (s:Shared):SStep X s s:=⟨Step.refl _ _,rfl,id⟩
theorem trans (a:SStep X s s') (b:SStep X s' s''):SStep X s s'':=⟨a.st.trans b.st,b.os.trans a.os,fun g=>b.gens (a.gens g)⟩
theorem mono (a:SStep X s s') (q:∀ x ∈ X,x ∈ Y ∨ s.heap.objs.size ≤ x):SStep Y s s':=⟨a.st.mono q,a.os,a.gens⟩
theorem toks (s:Shared) (t:Nat):SStep X s { s with toks:=t }:=⟨Step.refl _ _,rfl,id⟩
theorem heap {h:Heap}(st:Step X s.heap h) (t:Nat):SStep X s { s with heap:=h,toks:=t }:=⟨st,rfl,id⟩
theorem heap' {h:Heap}(st:Step X s.heap h):SStep X s { s with heap:=h }:=⟨st,rfl,id⟩
end SStep
end Mine
namespace Mine
variable [Wd]
noncomputable def biL:List Str:=["divmod", "reversed", "len", "iter", "isinstance", "tuple", "zip", "list", "enumerate", "range", "sum", "min", "ZeroDivisionError"]
noncomputable def globL:List (Str × Addr):=[("_div2n1n",21),("_div3n2n",28),("_int2digits",35),("_digits2int",42),("_divmod_pos",49),("int_divmod",56),("_netrclex",94),
 ("add_func_stats",105),("add_callers",112),("_law_lexer",119),("_law_file",124),("_law_play",129),("_law_free",134),("_law_overlap",139),("_law_entry",144),("law",149)]
noncomputable def stOf (i:Nat):Stmt:=(PySem.Challenge.pw_ph0132_01.main.body[i]?).getD (.Pass ⟨0,0,0,0⟩)
noncomputable def mtOf (i:Nat):Stmt:=match stOf 9 with
 | .ClassDef _ _ _ body _ _ _ _ _ _ _=>(body[i]?).getD (.Pass ⟨0,0,0,0⟩)
 | _=>.Pass ⟨0,0,0,0⟩
noncomputable def fdOf (st:Stmt) (q:Str) (c:Addr) (m:Value):FuncData:=match st with
 | .FunctionDef name args body _ _ _ scope _ _ _=>{ name,qualname:=q,params:=args,body:=.stmts body,scope,globals:=mainGlobals,closure:=[],defaults:=.none,kwdefaults:=.none,doc:=.none,pyModule:=m,annotations:=none,code:=.ref c,closureTuple:=.none,builtins:=builtinsNs }
 | _=>default
noncomputable def FnAt (h:Heap) (st:Stmt) (q:Str) (f c:Addr):Prop:=
 (∃ m,h.get? f = some { cls:=.type "function",data:=.func (fdOf st q c m) })∧h.CodeRec (.ref c) q
structure Gl where
 h:Heap
 K:List (Addr × Obj):=[]
structure Sc extends Scope where
 fv:List (Str × Value):=[]
structure ClsF (K:Frag):Prop where
 ga:findIn K (.ref 94) "__getattribute__" = some (some (.builtin "object.__getattribute__"))
 gat:findIn K (.ref 94) "__getattr__" = some none
 sa:findIn K (.ref 94) "__setattr__" = some (some (.builtin "object.__setattr__"))
 init:findIn K (.ref 94) "__init__" = some (some (.ref 70))
 rc:findIn K (.ref 94) "_read_char" = some (some (.ref 77))
 gt:findIn K (.ref 94) "get_token" = some (some (.ref 84))
 pt:findIn K (.ref 94) "push_token" = some (some (.ref 91))
 n1:findIn K (.ref 94) "lineno" = some none
 n2:findIn K (.ref 94) "instream" = some none
 n3:findIn K (.ref 94) "whitespace" = some none
 n4:findIn K (.ref 94) "pushback" = some none
 n5:findIn K (.ref 94) "read" = some none
 mks:makesIn K 94 = true
 po:plainOver K 94 = true
 hd:hasDictIn K 94 = true
 t1:typeIn K (.ref 70) = some (.type "function")
 t2:typeIn K (.ref 77) = some (.type "function")
 t3:typeIn K (.ref 84) = some (.type "function")
 t4:typeIn K (.ref 91) = some (.type "function")
 fg:specialIn K (.ref 77) "__get__" = some (some (.builtin "function.__get__"))
 ft:takesIn K (.ref 77) = some false
 ky:keepIn K (.ref 94) = true
structure Top1 (h₁:Gl):Prop where
 glob:∃ mg,h₁.h.Ns mainGlobals mg∧(∀ p ∈ globL,mg p.1 = some (.ref p.2))∧(∃ t,mg "_DIV_LIMIT" = some (.int 4000 t))∧(∀ n ∈ biL,mg n = none)∧mg "__builtins__" = some (.ref 4)
 bi:∃ mb,h₁.h.Ns builtinsNs mb∧∀ n ∈ biL,mb n = bootBuiltins n
 lim:h₁.h.NoLimit
 bmod:∃ ob,h₁.h.get? 4 = some ob∧ob.cls = .type "module"∧ob.dict = some builtinsNs∧ob.data = .plain
 fDiv2:FnAt h₁.h (stOf 2) "_div2n1n" 21 20
 fDiv3:FnAt h₁.h (stOf 3) "_div3n2n" 28 27
 fI2d:FnAt h₁.h (stOf 4) "_int2digits" 35 34
 fD2i:FnAt h₁.h (stOf 5) "_digits2int" 42 41
 fDpos:FnAt h₁.h (stOf 6) "_divmod_pos" 49 48
 fDm:FnAt h₁.h (stOf 7) "int_divmod" 56 55
 fInit:FnAt h₁.h (mtOf 0) "_netrclex.__init__" 70 69
 fRead:FnAt h₁.h (mtOf 1) "_netrclex._read_char" 77 76
 fGet:FnAt h₁.h (mtOf 2) "_netrclex.get_token" 84 83
 fPush:FnAt h₁.h (mtOf 3) "_netrclex.push_token" 91 90
 fAdd:FnAt h₁.h (stOf 11) "add_func_stats" 105 104
 fCal:FnAt h₁.h (stOf 12) "add_callers" 112 111
 fLex:FnAt h₁.h (stOf 14) "_law_lexer" 119 118
 fFile:FnAt h₁.h (stOf 15) "_law_file" 124 123
 fPlay:FnAt h₁.h (stOf 16) "_law_play" 129 128
 fFree:FnAt h₁.h (stOf 17) "_law_free" 134 133
 fOver:FnAt h₁.h (stOf 18) "_law_overlap" 139 138
 fEntry:FnAt h₁.h (stOf 19) "_law_entry" 144 143
 fLaw:FnAt h₁.h (stOf 20) "law" 149 148
 hI2d:CodeHd h₁.h 34 30
 hD2i:CodeHd h₁.h 41 37
 hCal:CodeHd h₁.h 111 107
 hLex:CodeHd h₁.h 118 114
 cls:∃ K:Frag,ClsF K∧∀ a o,K.lookup a = some o→a < N0∧a ∉ tabs∧h₁.h.get? a = some o
noncomputable def Kp (h₁:Gl) (h:Heap):Prop:=∀ a o,h₁.h.get? a = some o→a < N0→a ∉ tabs→h.get? a = some o
theorem Kp.ns {h₁:Gl}{h:Heap}(k:Kp h₁ h) {a:Addr}{m}(n:h₁.h.Ns a m) (l:a < N0) (t:a ∉ tabs):h.Ns a m:=
 let ⟨o,es,ep,e,r⟩:=n;⟨o,es,ep,k a o e l t,r⟩
noncomputable def TabAt (h:Heap) (H:List Addr) (t:Addr) (line col:Int) (q:Str):Prop:=
 h.get? t = some (tbl #[]) ∨ ∃ c o vs tk,h.get? t = some (tbl #[rawInt line,rawInt col,.ref c])∧c ∉ H∧N0 ≤ c∧h.get? c = some o∧o.data = .fields vs∧vs[1]? = some (.str q tk)
structure TabOK (h:Heap) (H:List Addr):Prop where
 i2d:TabAt h H 30 32 4 "_int2digits.<locals>.inner"
 d2i:TabAt h H 37 47 4 "_digits2int.<locals>.inner"
 cal:TabAt h H 107 132 42 "add_callers.<locals>.<genexpr>"
 lex:TabAt h H 114 142 17 "_law_lexer.<locals>.<lambda>"
structure Inv (h₁:Gl) (H:List Addr) (s:Shared):Prop where
 kp:Kp h₁ s.heap
 tab:TabOK s.heap H
 bare:AllBare s.gens
 hok:∀ a ∈ H,N0 ≤ a∧a < s.heap.objs.size
 size:N0 ≤ s.heap.objs.size
 fix:∀ p ∈ h₁.K,s.heap.get? p.1 = some p.2∧p.1 ∉ H∧N0 ≤ p.1
theorem TabAt.less {h:Heap}{H H':List Addr}{t:Addr}{line col:Int}{q:Str}(x:TabAt h H t line col q) (hh:∀ x ∈ H',x ∈ H ∨ h.objs.size ≤ x):TabAt h H' t line col q:=by
 rcases x with e | ⟨c,o,vs,tk,e1,e2,e3,e4,e6,e7⟩
 ·exact .inl e
 ·exact .inr ⟨c,o,vs,tk,e1,(fun q=>(hh c q).elim e2 fun z=>Nat.lt_irrefl _ (Nat.lt_of_lt_of_le (Heap.lt_size e4) z)),e3,e4,e6,e7⟩
theorem TabOK.less {h:Heap}{H H':List Addr}(x:TabOK h H) (hh:∀ x ∈ H',x ∈ H ∨ h.objs.size ≤ x):TabOK h H':=⟨x.i2d.less hh,x.d2i.less hh,x.cal.less hh,x.lex.less hh⟩
theorem TabAt.kept {h h':Heap}{H:List Addr}{t:Addr}{line col:Int}{q:Str}(x:TabAt h H t line col q) (hk:∀ b o,h.get? b = some o→b ∉ H→h'.get? b = some o) (ht:t ∉ H):TabAt h' H t line col q:=by
 rcases x with e | ⟨c,o,vs,tk,e1,e2,e3,e4,e6,e7⟩
 ·exact .inl (hk _ _ e ht)
 ·exact .inr ⟨c,o,vs,tk,hk _ _ e1 ht,e2,e3,hk _ _ e4 e2,e6,e7⟩
theorem TabOK.kept {h h':Heap}{H:List Addr}(x:TabOK h H) (hk:∀ b o,h.get? b = some o→b ∉ H→h'.get? b = some o) (hH:∀ a ∈ H,N0 ≤ a):TabOK h' H:=
 have n:∀ t ∈ tabs,t ∉ H:=fun t ht q=>tabs_lt (hH t q) ht
 ⟨x.i2d.kept hk (n _ (by decide)),x.d2i.kept hk (n _ (by decide)),x.cal.kept hk (n _ (by decide)),x.lex.kept hk (n _ (by decide))⟩
section
variable {h₁:Gl}{H H' X:List Addr}{s s':Shared}
theorem Inv.kept (I:Inv h₁ H s) (hk:∀ b o,s.heap.get? b = some o→b ∉ H→s'.heap.get? b = some o) (hz:s.heap.objs.size ≤ s'.heap.objs.size) (hg:AllBare s'.gens):Inv h₁ H s':=
 ⟨fun a o e l t=>hk a o (I.kp a o e l t) fun q=>Nat.lt_irrefl _ (Nat.lt_of_lt_of_le l (I.hok a q).1),I.tab.kept hk fun a q=>(I.hok a q).1,hg,
  fun a q=>⟨(I.hok a q).1,Nat.lt_of_lt_of_le (I.hok a q).2 hz⟩,Nat.le_trans I.size hz,fun p hp=>let ⟨a,b,c⟩:=I.fix p hp;⟨hk _ _ a b,b,c⟩⟩
theorem Inv.grown (I:Inv h₁ H s) {h':Heap}{t:Nat}(hk:∀ b o,s.heap.get? b = some o→h'.get? b = some o) (hz:s.heap.objs.size ≤ h'.objs.size):Inv h₁ H { s with heap:=h',toks:=t }:=
 I.kept (fun b o e _=>hk b o e) hz I.bare
theorem Inv.toks (I:Inv h₁ H s) (t:Nat):Inv h₁ H { s with toks:=t }:=I.kept (fun _ _ e _=>e) (Nat.le_refl _) I.bare
theorem Inv.less (I:Inv h₁ H s) (hh:∀ x ∈ H',x ∈ H ∨ s.heap.objs.size ≤ x) (hb:∀ a ∈ H',N0 ≤ a∧a < s.heap.objs.size):Inv h₁ H' s:=
 ⟨I.kp,I.tab.less hh,I.bare,hb,I.size,fun p hp=>let ⟨a,b,c⟩:=I.fix p hp;⟨a,(fun q=>(hh _ q).elim b fun z=>Nat.lt_irrefl _ (Nat.lt_of_lt_of_le (Heap.lt_size a) z)),c⟩⟩
end
noncomputable def isCal (s:Scope):Bool:=(s.names.lookup (Str.ofString "new_callers")).isSome
structure EnvOK (sc:Sc) (env:Env) (vars:List (Str × D)) (h:Heap) (H:List Addr):Prop where
 scope:env.scope = sc.toScope
 kind:sc.kind = .function
 glob:env.globals = mainGlobals
 bi:env.builtins = builtinsNs
 low:N0 ≤ env.locals
 lt:∀ n c,env.cells.lookup n = some c→c < h.objs.size
 code:isCal sc.toScope = true→env.code = .ref 111∧env.qual = Str.ofString "add_callers" ++ ".<locals>."
 ns:∃ m,h.Ns env.locals m∧(∀ x d,vars.lookup x = some d→sc.names.lookup x = some .local→∃ v,m x = some v∧V h H v d)∧∀ x v,sc.fv.lookup x = some v→sc.names.lookup x = some .local→m x = some v
 cel:∀ x d,vars.lookup x = some d→sc.names.lookup x ≠ some .local→(sc.names.lookup x = some .cell ∨ (sc.names.lookup x = some .free∧(x == ("__classdict__":Str)) = false)) ∧
  ∃ c v,env.cells.lookup x = some c∧N0 ≤ c∧h.IsCell c (some v)∧V h H v d
 raw:∀ x v,sc.fv.lookup x = some v→sc.names.lookup x ≠ some .local→(sc.names.lookup x = some .cell ∨ (sc.names.lookup x = some .free∧(x == ("__classdict__":Str)) = false))∧∃ c,env.cells.lookup x = some c∧N0 ≤ c∧h.IsCell c (some v)
theorem ns_step {X:List Addr}{h h':Heap}{a:Addr}{m}(n:h.Ns a m) (st:Step X h h') (hx:a ∉ X) (hn:N0 ≤ a):h'.Ns a m:=
 let ⟨o,es,ep,e,r⟩:=n;⟨o,es,ep,st.keep a o e hx (tabs_lt hn),r⟩
theorem cell_step {X:List Addr}{h h':Heap}{a:Addr}{v}(n:h.IsCell a v) (st:Step X h h') (hx:a ∉ X) (hn:N0 ≤ a):h'.IsCell a v:=
 let ⟨o,e,r⟩:=n;⟨o,st.keep a o e hx (tabs_lt hn),r⟩
section
variable {sc:Sc}{env:Env}{vars:List (Str × D)}{h h':Heap}{H H' X:List Addr}
theorem EnvOK.step (x:EnvOK sc env vars h H) (st:Step X h h') (sub:∀ x ∈ X,x ∈ H) (hl:env.locals ∉ X) (hc:∀ n c,env.cells.lookup n = some c→c ∉ X) (hh:∀ x ∈ H',x ∈ H ∨ h.objs.size ≤ x):EnvOK sc env vars h' H':=by
 obtain ⟨a1,a2,a3,a4,a5,a6,a7,⟨m,hm,hv,hr⟩,hcel,hraw⟩:=x
 refine ⟨a1,a2,a3,a4,a5,fun n c e=>Nat.lt_of_lt_of_le (a6 n c e) st.size,a7,⟨m,ns_step hm st hl a5,fun y d e k=>?_,hr⟩,fun y d e k=>?_,fun y v e kd=>?_⟩
 ·refine ex11 (hv y d e k) fun v e1 e2=>?_
  exact ⟨v,e1,e2.step st sub hh⟩
 ·refine ex0123 (hcel y d e k) fun q c v e1 e2 e3 e4=>?_
  exact ⟨q,c,v,e1,e2,cell_step e3 st (hc y c e1) e2,e4.step st sub hh⟩
 ·refine ex0112 (hraw y v e kd) fun q c e1 e2 e3=>?_
  exact ⟨q,c,e1,e2,cell_step e3 st (hc y c e1) e2⟩
theorem EnvOK.grow (x:EnvOK sc env vars h H) (st:Step [] h h'):EnvOK sc env vars h' H:=x.step st (fun _ q=>(nomatch q)) (fun q=>(nomatch q)) (fun _ _ _ q=>(nomatch q)) (fun _ q=>.inl q)
theorem EnvOK.weak {vars':List (Str × D)}(x:EnvOK sc env vars h H) (hw:∀ y d,vars'.lookup y = some d→vars.lookup y = some d):EnvOK sc env vars' h H:=
 ⟨x.scope,x.kind,x.glob,x.bi,x.low,x.lt,x.code,let ⟨m,hm,hv,hr⟩:=x.ns;⟨m,hm,fun y d e k=>hv y d (hw y d e) k,hr⟩,fun y d e k=>x.cel y d (hw y d e) k,x.raw⟩
end
structure Room (r:Nat) (A:Around):Prop where
 hd:A.handled = none
 dp:A.depth + r < 980
 un:A.units + 16 * r < 9700
theorem Room.limit {r:Nat}{A:Around}(x:Room r A):A.depth < recursionLimit:=by have:=x.dp;simp only [recursionLimit];lia
theorem Room.units {r:Nat}{A:Around}(x:Room r A):A.units + 64 < cLine:=by have:=x.un;simp only [cLine];lia
theorem Room.deeper {r:Nat}{A:Around}(x:Room (r + 1) A) (env:Env):Room r (A.deeper env):=
 ⟨x.hd,(by have:=x.dp;show A.depth + 1 + r < 980;lia),(by have:=x.un;show A.units + 3 + 16 * r < 9700;lia)⟩
theorem Room.in1 {r:Nat}{A:Around}(x:Room (r + 1) A):Room r A.in1:=
 ⟨x.hd,(by have:=x.dp;show A.depth + r < 980;lia),(by have:=x.un;show A.units + 1 + 16 * r < 9700;lia)⟩
theorem Room.less {r q:Nat}{A:Around}(x:Room r A) (h:q ≤ r):Room q A:=
 ⟨x.hd,by have:=x.dp;lia,by have:=x.un;lia⟩
abbrev EVP (h₁:Gl) (r:Nat) (sc:Sc) (vars:List (Str × D)) (e:Expr) (d:D):Prop:=
 ∀ (prog:Program) (w:WW) (A:Around) (env:Env) (s:Shared) (H:List Addr) (Q:Value→Shared→Prop) (E:Value→Shared→Prop),
  Top1 h₁→Room r A→Inv h₁ H s→EnvOK sc env vars s.heap H →
  (∀ v s',SStep [] s s'→Inv h₁ H s'→V s'.heap H v d→Q v s')→wpAny (model prog w) A (eval e env) Q E s
abbrev TSP (h₁:Gl) (r:Nat) (sc:Sc) (vars:List (Str × D)) (e:Expr) (b:Bool):Prop:=
 ∀ (prog:Program) (w:WW) (A:Around) (env:Env) (s:Shared) (H:List Addr) (Q:Bool→Shared→Prop) (E:Value→Shared→Prop),
  Top1 h₁→Room r A→Inv h₁ H s→EnvOK sc env vars s.heap H →
  (∀ s',SStep [] s s'→Inv h₁ H s'→Q b s')→wpAny (model prog w) A (isTrue e env (eval e env)) Q E s
section
variable {h₁:Gl}{r:Nat}{sc:Sc}{vars:List (Str × D)}
theorem EVP.name {x:Str}{pos:Pos}{d:D}(hx:vars.lookup x = some d) (hd:(x == ("__debug__":Str)) = false:=by rfl):EVP h₁ r sc vars (.Name x pos) d:=by
 intro prog w A env s H Q E T R I O k
 by_cases hl:sc.names.lookup x = some .local
 ·refine ex12 O.ns fun m hm hv _=>?_
  refine ex11 (hv x d hx hl) fun v e1 e2=>?_
  refine wpAny_Name (wpAny_loadName_local (by rw [O.scope];exact O.kind) (by show env.scope.names.lookup x = _;rw [O.scope];exact hl) hm e1 ?_) hd
  exact k _ _ (SStep.refl _ _) I e2
 ·refine ex0123 (O.cel x d hx hl) fun q c v e1 e2 e3 e4=>?_
  rcases q with q | ⟨q,q2⟩
  ·exact wpAny_Name (wpAny_loadName_cell (by rw [O.scope];exact O.kind) (by show env.scope.names.lookup x = _;rw [O.scope];exact q) e1 e3 (k _ _ (SStep.refl _ _) I e4)) hd
  ·exact wpAny_Name (wpAny_loadName_free (by rw [O.scope];exact O.kind) (by show env.scope.names.lookup x = _;rw [O.scope];exact q) e1 e3 (k _ _ (SStep.refl _ _) I e4) q2) hd
theorem EVP.const_int {i:Int}{n:Nat}{pos:Pos}:EVP h₁ r sc vars (.Constant (.int i) n pos) (.int i):=
 fun _ _ _ _ _ _ _ _ _ _ I _ k=>wpAny_Constant_int (k _ _ (SStep.toks _ _) (I.toks _) (.int _ _))
theorem EVP.const_str {x:Str}{n:Nat}{pos:Pos}:EVP h₁ r sc vars (.Constant (.str x) n pos) (.str x):=
 fun _ _ _ _ _ _ _ _ _ _ I _ k=>wpAny_Constant_str (k _ _ (SStep.toks _ _) (I.toks _) (.str _ _))
theorem EVP.const_none {n:Nat}{pos:Pos}:EVP h₁ r sc vars (.Constant .none n pos) .none:=
 fun _ _ _ _ _ _ _ _ _ _ I _ k=>wpAny_Constant_none (k _ _ (SStep.refl _ _) I .none)
abbrev IOp (op:Operator) (a b c:Int):Prop:=
 ∀ (prog:Program) (w:WW) (A:Around) (s:Shared) (t u:Tok) (Q:Value→Shared→Prop) (E:Value→Shared→Prop),
  Q (.int c s.toks) { s with toks:=s.toks + 1 }→wpAny (model prog w) A (binaryOp op (.int a t) (.int b u)) Q E s
theorem IOp.add {a b:Int}:IOp .Add a b (a + b):=by intro _ _ _ _ _ _ _ _ h;with_reducible exact add_int h
theorem IOp.sub {a b:Int}:IOp .Sub a b (a - b):=by intro _ _ _ _ _ _ _ _ h;with_reducible exact sub_int h
theorem IOp.mul {a b:Int}(hm:IntMulOk a b):IOp .Mult a b (a * b):=by intro _ _ _ _ _ _ _ _ h;with_reducible exact mul_int h hm
theorem IOp.mod {a b:Int}(hb:b ≠ 0):IOp .Mod a b (a.fmod b):=by intro _ _ _ _ _ _ _ _ h;with_reducible exact mod_int' hb h
theorem IOp.div {a b:Int}(hb:b ≠ 0) (hp:Builtin.divisionGoesByPylong a b = false):IOp .FloorDiv a b (a.fdiv b):=by intro _ _ _ _ _ _ _ _ h;with_reducible exact floordiv_int hb h (.inl hp)
theorem IOp.shl {a n:Int}(hn:0 ≤ n) (hz:(Builtin.Int.intBits a:Int) + n ≤ 2 ^ 27):IOp .LShift a n (a * 2 ^ n.toNat):=by intro _ _ _ _ _ _ _ _ h;with_reducible exact lshift_int hn hz h
theorem IOp.shr {a n:Int}(hn:0 ≤ n):IOp .RShift a n (a.fdiv (2 ^ n.toNat)):=by intro _ _ _ _ _ _ _ _ h;with_reducible exact rshift_int hn h
theorem IOp.pow {a n:Int}(hn:0 ≤ n) (hz:(Builtin.Int.intBits a:Int) * n ≤ 2 ^ 27):IOp .Pow a n (a ^ n.toNat):=by intro _ _ _ _ _ _ _ _ h;with_reducible exact pow_int hn hz h
theorem IOp.and {a b:Int}:IOp .BitAnd a b (Builtin.bitAnd a b):=by intro _ _ _ _ _ _ _ _ h;with_reducible exact and_int h
theorem IOp.or {a b:Int}:IOp .BitOr a b (Builtin.bitOr a b):=by intro _ _ _ _ _ _ _ _ h;with_reducible exact or_int h
theorem IOp.xor {a b:Int}:IOp .BitXor a b (Builtin.bitXor a b):=by intro _ _ _ _ _ _ _ _ h;with_reducible exact xor_int h
theorem EVP.binop {l rr:Expr}{op:Operator}{pos:Pos}{a b c:Int}(hl:EVP h₁ r sc vars l (.int a)) (hr:EVP h₁ r sc vars rr (.int b)) (ho:IOp op a b c):EVP h₁ r sc vars (.BinOp l op rr pos) (.int c):=by
 intro prog w A env s H Q E T R I O k
 with_reducible refine wpAny_BinOp (hl prog w A env s H _ E T R I O fun v s₁ st I₁ hv=>?_)
 obtain ⟨_,rfl⟩:=V.intI hv
 with_reducible refine hr prog w A env s₁ H _ E T R I₁ (O.grow st.st) fun v' s₂ st₂ I₂ hv₂=>?_
 obtain ⟨_,rfl⟩:=V.intI hv₂
 with_reducible refine ho prog w A s₂ _ _ _ E ?_
 exact k _ _ (st.trans (st₂.trans (SStep.toks s₂ _))) (I₂.toks _) (.int _ _)
end
end Mine
namespace Mine
variable [Wd]
section
variable {h₁:Gl}{r:Nat}{sc:Sc}{vars:List (Str × D)}
theorem EnvOK.kindOf {env:Env}{h:Heap}{H:List Addr}(O:EnvOK sc env vars h H) {x:Str}{k:Option NameKind}(hk:sc.names.lookup x = k):env.kindOf x = k:=by
 show env.scope.names.lookup x = k
 rw [O.scope];exact hk
theorem EnvOK.kfun {env:Env}{h:Heap}{H:List Addr}(O:EnvOK sc env vars h H):env.scope.kind = .function:=by rw [O.scope];exact O.kind
abbrev NameIs (h₁:Gl) (sc:Sc) (x:Str) (f:Value):Prop:=
 ∀ (prog:Program) (w:WW) (A:Around) (env:Env) (s:Shared) (H:List Addr) (vars:List (Str × D)) (pos:Pos) (Q:Value→Shared→Prop) (E:Value→Shared→Prop),
  Top1 h₁→Inv h₁ H s→EnvOK sc env vars s.heap H→Q f s→wpAny (model prog w) A (eval (.Name x pos) env) Q E s
theorem NameIs.glob {x:Str}{a:Addr}(hm:(x,a) ∈ globL) (hk:sc.names.lookup x = some .globalImplicit) (hd:(x == ("__debug__":Str)) = false:=by rfl):NameIs h₁ sc x (.ref a):=by
 intro prog w A env s H vars pos Q E T I O k
 refine ex12 T.glob fun mg g1 g2 _=>?_
 with_reducible refine Calls.Name_function_global O.kfun (O.kindOf hk) (Calls.loadGlobal_global (mg:=mg) ?_ (g2 _ hm) k) hd
 rw [O.glob]
 exact I.kp.ns g1 (by decide) (by decide)
theorem NameIs.bi {x:Str}{f:Value}(hm:x ∈ biL) (hb:bootBuiltins x = some f) (hk:sc.names.lookup x = some .globalImplicit) (hd:(x == ("__debug__":Str)) = false:=by rfl):NameIs h₁ sc x f:=by
 intro prog w A env s H vars pos Q E T I O k
 refine ex14 T.glob fun mg g1 _ _ g4 _=>?_
 refine ex11 T.bi fun mb b1 b2=>?_
 with_reducible refine Calls.Name_function_global O.kfun (O.kindOf hk) (Calls.loadGlobal_builtin (mg:=mg) (mb:=mb) ?_ (g4 _ hm) ?_ ((b2 _ hm).trans hb) k) hd
 ·rw [O.glob];exact I.kp.ns g1 (by decide) (by decide)
 ·rw [O.bi];exact I.kp.ns b1 (by decide) (by decide)
theorem EVP.limit {pos:Pos}(hk:sc.names.lookup (Str.ofString "_DIV_LIMIT") = some .globalImplicit):EVP h₁ r sc vars (.Name "_DIV_LIMIT" pos) (.int 4000):=by
 intro prog w A env s H Q E T R I O k
 refine ex13 T.glob fun mg g1 _ zq1 _=>?_;obtain ⟨t,g3⟩:=zq1
 have hd:((Str.ofString "_DIV_LIMIT") == ("__debug__":Str)) = false:=rfl
 with_reducible refine Calls.Name_function_global O.kfun (O.kindOf hk) (Calls.loadGlobal_global (mg:=mg) ?_ g3 (k _ _ (SStep.refl _ _) I (.int _ t))) hd
 rw [O.glob]
 exact I.kp.ns g1 (by decide) (by decide)
theorem starEach_cons {e:Expr}{rest:List Expr}{env:Env}(h:isStarred e = false):starEach (e::rest) env = (false,eval e env)::starEach rest env:=by
 cases e <;> first | rfl | cases h
theorem backTo_cons {pos:Pos}{t:Sem Value}{rest:List (Bool × Sem Value)}:backTo pos ((false,t)::rest) = (false,t)::backTo pos rest:=rfl
abbrev EVS (h₁:Gl) (r:Nat) (sc:Sc) (vars:List (Str × D)) (es:List Expr) (ds:List D):Prop:=
 (∀ (env:Env) (pos:Pos),(backTo pos (starEach es env)).any (·.1) = false)∧∀ (prog:Program) (w:WW) (A:Around) (env:Env) (pos:Pos) (s:Shared) (H:List Addr) (Q:List Value→Shared→Prop) (E:Value→Shared→Prop),
  Top1 h₁→Room r A→Inv h₁ H s→EnvOK sc env vars s.heap H →
  (∀ vs s',SStep [] s s'→Inv h₁ H s'→VL s'.heap H vs ds→Q vs s')→wpAny (model prog w) A (spliced (backTo pos (starEach es env))) Q E s
theorem EVS.nil:EVS h₁ r sc vars [] []:=⟨fun _ _=>rfl,by
 intro prog w A env pos s H Q E T R I O k
 exact Calls.spliced_nil (k _ _ (SStep.refl _ _) I .nil)⟩
theorem EVS.cons {e:Expr}{es:List Expr}{d:D}{ds:List D}(he:EVP h₁ r sc vars e d) (hs:EVS h₁ r sc vars es ds) (hn:isStarred e = false:=by rfl):EVS h₁ r sc vars (e::es) (d::ds):=by
 refine ⟨fun env pos=>?_,?_⟩
 ·rw [starEach_cons hn,backTo_cons];exact hs.1 env pos
 ·intro prog w A env pos s H Q E T R I O k
  rw [starEach_cons hn,backTo_cons]
  with_reducible refine Calls.spliced_cons (he prog w A env s H _ E T R I O fun v s₁ st I₁ hv=>?_)
  with_reducible refine hs.2 prog w A env pos s₁ H _ E T R I₁ (O.grow st.st) fun vs s₂ st₂ I₂ hvs=>?_
  exact k _ _ (st.trans st₂) I₂ (.cons (hv.grow st₂.st) hvs)
theorem evalArgs_of {M:Model}{A:Around}{E:Value→Shared→Prop}{s:Shared}{f:Value}{args:List (Bool × Sem Value)}{Q:Args→Shared→Prop}(hp:args.any (·.1) = false) (h:wpAny M A (spliced args) (fun vs s'=>Q ⟨vs,[]⟩ s') E s):wpAny M A (evalArgs f true args []) Q E s:=by
 cases args with
 | nil=>
  unfold evalArgs
  show wpAny M A (spliced [] >>= _) Q E s
  refine wpAny_bind (wpAny_mono h (fun vs s' h'=>?_) fun _ _ x=>x)
  refine wpAny_bind (wpAny_pure ?_)
  refine wpAny_holding ?_
  exact wpAny_bind (wpAny_pure (wpAny_bind (wpAny_pure (wpAny_pure h'))))
 | cons p rest=>
  obtain ⟨b,x⟩:=p
  cases b with
  | true=>cases hp
  | false=>exact Calls.evalArgs_plain h
end
end Mine
open PySem.SeqAt
namespace Mine
variable [Wd]
section
variable {h₁:Gl}{r:Nat}{sc:Sc}{vars:List (Str × D)}
theorem V.asList {h:Heap}{H:List Addr}{v:Value}{l:List D}(x:V h H v (.list l)):∃ a o vs n,v = .ref a∧h.get? a = some o∧o.cls = .type "list"∧o.data = .seq vs n∧a ∉ H∧N0 ≤ a∧VL h H vs.toList l:=by
 cases x with
 | list e n g l'=>exact ⟨_,_,_,_,rfl,e,rfl,rfl,n,g,l'⟩
theorem V.asTuple {h:Heap}{H:List Addr}{v:Value}{l:List D}(x:V h H v (.tuple l)):∃ a o vs n,v = .ref a∧h.get? a = some o∧o.cls = .type "tuple"∧o.data = .seq vs n∧a ∉ H∧N0 ≤ a∧VL h H vs.toList l:=by
 cases x with
 | tuple e c1 c2 n g l'=>exact ⟨_,_,_,_,rfl,e,c1,c2,n,g,l'⟩
theorem V.asListX {h:Heap}{H:List Addr}{v:Value}{l:List D}(x:V h H v (.list l)):∃ a vs n,v = .ref a∧h.get? a = some { cls:=.type "list",data:=.seq vs n }∧a ∉ H∧N0 ≤ a∧VL h H vs.toList l:=by
 cases x with
 | list e n g l'=>exact ⟨_,_,_,rfl,e,n,g,l'⟩
noncomputable def strKeys (l:List (D × D)):Prop:=∀ p ∈ l,∃ k,p.1 = .str k
theorem V.asDictX {h:Heap}{H:List Addr}{v:Value}{l:List (D × D)}(x:V h H v (.dict l)) (hk:strKeys l):∃ a es n,v = .ref a∧h.get? a = some { cls:=.type "dict",data:=.dict es n }∧a ∉ H∧N0 ≤ a∧VD h H es.toList l∧(l.map (·.1)).Nodup:=by
 cases x with
 | dict e n g l' q=>exact ⟨_,_,_,rfl,e,n,g,l',q⟩
 | opq a=>obtain ⟨k,e⟩:=hk _ (.head _);cases e
abbrev CallOK (h₁:Gl) (r:Nat) (f:Value) (ds:List D) (d:D):Prop:=
 ∀ (prog:Program) (w:WW) (A:Around) (s:Shared) (H:List Addr) (vs:List Value) (Q:Value→Shared→Prop) (E:Value→Shared→Prop),
  Top1 h₁→Room r A→Inv h₁ H s→VL s.heap H vs ds→(∀ v s',SStep [] s s'→Inv h₁ H s'→V s'.heap H v d→Q v s')→wpAny (model prog w) A (call f vs) Q E s
abbrev KeepOK (h₁:Gl) (f:Value):Prop:=Top1 h₁→∀ (M:Model) (h:Heap),Kp h₁ h→∃ k,(k = Keeper.frame ∨ k = Keeper.machine ∨ k = Keeper.boundFrame)∧Looks M h (keeperOf f) k
theorem KeepOK.builtin {id:String}:KeepOK h₁ (.builtin id):=fun _ _ _ _=>⟨.machine,.inr (.inl rfl),Looks.of_pure rfl⟩
theorem KeepOK.type {id:String}:KeepOK h₁ (.type id):=fun _ _ _ _=>⟨.machine,.inr (.inl rfl),Looks.of_pure rfl⟩
theorem KeepOK.fn {st:Stmt}{q:Str}{f c:Addr}(hf:Top1 h₁→FnAt h₁.h st q f c) (hl:f < N0:=by decide) (ht:f ∉ tabs:=by decide):KeepOK h₁ (.ref f):=by
 intro T M h k
 obtain ⟨⟨m,e⟩,_⟩:=hf T
 exact ⟨.frame,.inl rfl,(Looks.ld (part:=none) (k _ _ e hl ht)).andThen .now⟩
theorem EVP.call {x:Str}{f:Value}{p pos:Pos}{args:List Expr}{ds:List D}{d:D}(hn:NameIs h₁ sc x f) (hk:KeepOK h₁ f) (ha:EVS h₁ r sc vars args ds) (hc:CallOK h₁ r f ds d):EVP h₁ r sc vars (.Call (.Name x p) args [] pos) d:=by
 intro prog w A env s H Q E T R I O k
 with_reducible refine wpAny_Call_NameR (hn prog w A env s H vars p _ E T I O ?_)
 have hp:((backTo pos (starEach args env)).any (·.1) || ([]:List (Option Str × Sem Value)).any (·.1.isNone)) = false:=by rw [ha.1 env pos];rfl
 with_reducible refine callWith_of (P:=Kp h₁) hp (hk T _) (evalArgs_of (ha.1 env pos) (ha.2 prog w A env pos s H _ E T R I O fun vs s₁ st I₁ hvs=>⟨I₁.kp,?_⟩))
 show wpAny (model prog w) A (PySem.call f vs) Q E s₁
 with_reducible refine hc prog w A s₁ H vs Q E T R I₁ hvs fun v s₂ st₂ I₂ hv=>?_
 exact k _ _ (st.trans st₂) I₂ hv
abbrev COp (op:CmpOp) (d1 d2:D) (b:Bool):Prop:=
 ∀ (prog:Program) (w:WW) (A:Around) (s:Shared) (H:List Addr) (v1 v2:Value) (Q:Value→Shared→Prop) (E:Value→Shared→Prop),
  Room 0 A→V s.heap H v1 d1→V s.heap H v2 d2→Q (.bool b) s→wpAny (model prog w) A (compareOp op v1 v2) Q E s
theorem COp.ne {d1 d2:D}(h1:shaped d1 = true) (h2:shaped d2 = true):COp .NotEq d1 d2 (!PyData.eqv d1 d2):=by
 intro prog w A s H v1 v2 Q E R x1 x2 k
 obtain ⟨_,r1⟩:=x1.reads (canLay_of_shaped h1)
 obtain ⟨_,r2⟩:=x2.reads (canLay_of_shaped h2)
 with_reducible exact compareNe_shaped r1 r2 h1 h2 R.units k
theorem COp.eqI {a b:Int}:COp .Eq (.int a) (.int b) (a == b):=by
 intro prog w A s H v1 v2 Q E R x1 x2 k;obtain ⟨_,rfl⟩:=V.intI x1;obtain ⟨_,rfl⟩:=V.intI x2;with_reducible exact eq_int k
theorem COp.neI {a b:Int}:COp .NotEq (.int a) (.int b) (a != b):=by
 intro prog w A s H v1 v2 Q E R x1 x2 k;obtain ⟨_,rfl⟩:=V.intI x1;obtain ⟨_,rfl⟩:=V.intI x2;with_reducible exact ne_int k
theorem COp.ltI {a b:Int}:COp .Lt (.int a) (.int b) (decide (a < b)):=by
 intro prog w A s H v1 v2 Q E R x1 x2 k;obtain ⟨_,rfl⟩:=V.intI x1;obtain ⟨_,rfl⟩:=V.intI x2;with_reducible exact lt_int k
theorem COp.leI {a b:Int}:COp .LtE (.int a) (.int b) (decide (a ≤ b)):=by
 intro prog w A s H v1 v2 Q E R x1 x2 k;obtain ⟨_,rfl⟩:=V.intI x1;obtain ⟨_,rfl⟩:=V.intI x2;with_reducible exact le_int k
theorem COp.eqS {a b:Str}:COp .Eq (.str a) (.str b) (a == b):=by
 intro prog w A s H v1 v2 Q E R x1 x2 k;obtain ⟨_,rfl⟩:=V.strI x1;obtain ⟨_,rfl⟩:=V.strI x2;with_reducible exact eq_str k
theorem EVP.cmp {l rr:Expr}{op:CmpOp}{pos:Pos}{d1 d2:D}{b:Bool}(hl:EVP h₁ r sc vars l d1) (hr:EVP h₁ r sc vars rr d2) (ho:COp op d1 d2 b) (hm:behindInMarks op rr = false:=by rfl):EVP h₁ r sc vars (.Compare l [op] [rr] pos) (.bool b):=by
 intro prog w A env s H Q E T R I O k
 with_reducible refine wpAny_Compare1 (hl prog w A env s H _ E T R I O fun v s₁ st I₁ hv=>?_) hm
 with_reducible refine hr prog w A env s₁ H _ E T R I₁ (O.grow st.st) fun v' s₂ st₂ I₂ hv₂=>?_
 with_reducible refine ho prog w A s₂ H _ _ _ E (R.less (Nat.zero_le _)) (hv.grow st₂.st) hv₂ ?_
 exact k _ _ (st.trans st₂) I₂ (.bool b)
theorem TSP.cmp {l rr:Expr}{op:CmpOp}{pos:Pos}{d1 d2:D}{b:Bool}(hl:EVP h₁ r sc vars l d1) (hr:EVP h₁ r sc vars rr d2) (ho:COp op d1 d2 b) (hm:behindInMarks op rr = false:=by rfl):TSP h₁ r sc vars (.Compare l [op] [rr] pos) b:=by
 intro prog w A env s H Q E T R I O k
 with_reducible refine wpAny_isTrue_Compare1 (hl prog w A env s H _ E T R I O fun v s₁ st I₁ hv=>?_) hm
 with_reducible refine hr prog w A env s₁ H _ E T R I₁ (O.grow st.st) fun v' s₂ st₂ I₂ hv₂=>?_
 with_reducible refine ho prog w A s₂ H _ _ _ E (R.less (Nat.zero_le _)) (hv.grow st₂.st) hv₂ ?_
 with_reducible refine wpAny_truthy_bool ?_
 exact k _ (st.trans st₂) I₂
abbrev Tru (d:D) (b:Bool):Prop:=∀ (prog:Program) (w:WW) (A:Around) (s:Shared) (H:List Addr) (v:Value) (Q:Bool→Shared→Prop) (E:Value→Shared→Prop),V s.heap H v d→(∀ t,Q b { s with toks:=t })→wpAny (model prog w) A (truthy v) Q E s
theorem Tru.bool {b:Bool}:Tru (.bool b) b:=by intro prog w A s H v Q E x k;obtain rfl:=V.boolI x;with_reducible exact wpAny_truthy_bool (k s.toks)
theorem Tru.list {l:List D}(hl:(l.length:Int) < 2 ^ 63):Tru (.list l) (!l.isEmpty):=by
 intro prog w A s H v Q E x k
 refine ex46 x.asList fun a o vs n zq1 e c dd _ _ l'=>?_;subst zq1
 have hlen:vs.size = l.length:=by have:=l'.length;simpa using this
 have e2:(!l.isEmpty) = !vs.isEmpty:=by
  have:vs.isEmpty = decide (vs.size = 0):=rfl
  rw [this,hlen];cases l <;> rfl
 rw [e2] at k
 have hL:s.heap.IsList a vs:=⟨o,e,c,_,dd⟩
 have hz:(vs.size:Int) < 2 ^ 63:=by rw [hlen];exact hl
 with_reducible exact wpAny_truthy_list hL hz (k _)
theorem Tru.int {i:Int}:Tru (.int i) (i != 0):=by
 intro prog w A s H v Q E x k;obtain ⟨_,rfl⟩:=V.intI x;with_reducible exact truthy_int (k s.toks)
abbrev plainTest (e:Expr):Prop:=isTrue e = fun _ whole=>do let v ← whole;standAt e.pos;holding [v] (truthy v)
theorem isTrue_plainTest {e:Expr}{env:Env}{whole:Sem Value}(h:plainTest e):isTrue e env whole = (do let v ← whole;standAt e.pos;holding [v] (truthy v)):=congrFun (congrFun h env) whole
theorem TSP.value {e:Expr}{d:D}{b:Bool}(he:EVP h₁ r sc vars e d) (ht:Tru d b) (hp:plainTest e:=by rfl):TSP h₁ r sc vars e b:=by
 intro prog w A env s H Q E T R I O k
 with_reducible refine wpAny_isTrue_value (he prog w A env s H _ E T R I O fun v s₁ st I₁ hv=>?_) (isTrue_plainTest hp)
 with_reducible refine ht prog w A s₁ H v Q E hv fun t=>?_
 exact k _ (st.trans (SStep.toks s₁ t)) (I₁.toks _)
theorem TSP.or2 {a b:Expr}{pos:Pos}{x y:Bool}(ha:TSP h₁ r sc vars a x) (hb:x = false→TSP h₁ r sc vars b y):TSP h₁ r sc vars (.BoolOp .Or [a,b] pos) (x || y):=by
 intro prog w A env s H Q E T R I O k
 with_reducible refine wpAny_isTrue_BoolOp (wpAny_allTrue_Or_cons (ha prog w A env s H _ E T R I O fun s₁ st I₁=>?_))
 cases x with
 | true=>exact k _ st I₁
 | false=>
  simp only [Bool.false_eq_true,if_false]
  with_reducible refine wpAny_allTrue_Or_cons (hb rfl prog w A env s₁ H _ E T R I₁ (O.grow st.st) fun s₂ st₂ I₂=>?_)
  cases y with
  | true=>exact k _ (st.trans st₂) I₂
  | false=>
   simp only [Bool.false_eq_true,if_false]
   with_reducible refine wpAny_allTrue_Or_nil ?_
   exact k _ (st.trans st₂) I₂
theorem TSP.and2 {a b:Expr}{pos:Pos}{x y:Bool}(ha:TSP h₁ r sc vars a x) (hb:x = true→TSP h₁ r sc vars b y):TSP h₁ r sc vars (.BoolOp .And [a,b] pos) (x && y):=by
 intro prog w A env s H Q E T R I O k
 with_reducible refine wpAny_isTrue_BoolOp (wpAny_allTrue_And_cons (ha prog w A env s H _ E T R I O fun s₁ st I₁=>?_))
 cases x with
 | false=>exact k _ st I₁
 | true=>
  simp only [if_true]
  with_reducible refine wpAny_allTrue_And_cons (hb rfl prog w A env s₁ H _ E T R I₁ (O.grow st.st) fun s₂ st₂ I₂=>?_)
  cases y with
  | false=>exact k _ (st.trans st₂) I₂
  | true=>
   simp only [if_true]
   with_reducible refine wpAny_allTrue_And_nil ?_
   exact k _ (st.trans st₂) I₂
theorem EVP.ifexp {t a b:Expr}{pos:Pos}{x:Bool}{d:D}(ht:TSP h₁ r sc vars t x) (ha:x = true→EVP h₁ r sc vars a d) (hb:x = false→EVP h₁ r sc vars b d):EVP h₁ r sc vars (.IfExp t a b pos) d:=by
 intro prog w A env s H Q E T R I O k
 with_reducible refine wpAny_IfExp (ht prog w A env s H _ E T R I O fun s₁ st I₁=>?_)
 cases x with
 | true=>
  simp only [if_true]
  with_reducible exact ha rfl prog w A env s₁ H _ E T R I₁ (O.grow st.st) fun v s₂ st₂ I₂ hv=>k _ _ (st.trans st₂) I₂ hv
 | false=>
  simp only [Bool.false_eq_true,if_false]
  with_reducible exact hb rfl prog w A env s₁ H _ E T R I₁ (O.grow st.st) fun v s₂ st₂ I₂ hv=>k _ _ (st.trans st₂) I₂ hv
theorem EVP.neg {e:Expr}{pos:Pos}{a:Int}(he:EVP h₁ r sc vars e (.int a)):EVP h₁ r sc vars (.UnaryOp .USub e pos) (.int (-a)):=by
 intro prog w A env s H Q E T R I O k
 with_reducible refine wpAny_UnaryOp (he prog w A env s H _ E T R I O fun v s₁ st I₁ hv=>?_)
 obtain ⟨_,rfl⟩:=V.intI hv
 with_reducible refine neg_int ?_
 exact k _ _ (st.trans (SStep.toks s₁ _)) (I₁.toks _) (.int _ _)
theorem EVP.inv {e:Expr}{pos:Pos}{a:Int}(he:EVP h₁ r sc vars e (.int a)):EVP h₁ r sc vars (.UnaryOp .Invert e pos) (.int (-a - 1)):=by
 intro prog w A env s H Q E T R I O k
 with_reducible refine wpAny_UnaryOp (he prog w A env s H _ E T R I O fun v s₁ st I₁ hv=>?_)
 obtain ⟨_,rfl⟩:=V.intI hv
 with_reducible refine invert_int ?_
 exact k _ _ (st.trans (SStep.toks s₁ _)) (I₁.toks _) (.int _ _)
theorem V.newTuple {h:Heap}{H:List Addr}{vs:List Value}{ds:List D}(x:VL h H vs ds) (hH:∀ a ∈ H,a < h.objs.size) (hn:N0 ≤ h.objs.size):V (h.push { cls:=.type "tuple",data:=.seq vs.toArray }) H (.ref h.objs.size) (.tuple ds):=
 .tuple (Heap.get?_push_size _ rfl) rfl rfl (fun q=>Nat.lt_irrefl _ (hH _ q)) hn (VL.grow (Step.push _) (by simpa using x))
theorem V.newList {h:Heap}{H:List Addr}{vs:List Value}{ds:List D}(x:VL h H vs ds) (hH:∀ a ∈ H,a < h.objs.size) (hn:N0 ≤ h.objs.size):V (h.push { cls:=.type "list",data:=.seq vs.toArray }) H (.ref h.objs.size) (.list ds):=
 .list (Heap.get?_push_size _ rfl) (fun q=>Nat.lt_irrefl _ (hH _ q)) hn (VL.grow (Step.push _) (by simpa using x))
theorem Inv.pushed {H:List Addr}{s:Shared}(I:Inv h₁ H s) (o:Obj):Inv h₁ H { s with heap:=s.heap.push o }:=I.kept (fun _ _ e _=>Heap.get?_push_of_some o e) (by simp) I.bare
theorem EVP.tuple {es:List Expr}{n:Nat}{pos:Pos}{ds:List D}(he:EVS h₁ r sc vars es ds) (hz:ds.length ≤ 1000:=by simp only [List.length_cons,List.length_nil];decide):EVP h₁ r sc vars (.Tuple es n pos) (.tuple ds):=by
 intro prog w A env s H Q E T R I O k
 with_reducible refine wpAny_Tuple (he.2 prog w A env pos s H _ E T R I O fun vs s₁ st I₁ hvs=>⟨?_,?_⟩)
 ·rw [hvs.length];exact Nat.le_trans hz (by decide)
 ·exact k _ _ (st.trans (SStep.heap' (Step.push _))) (I₁.pushed _) (V.newTuple hvs (fun a q=>(I₁.hok a q).2) I₁.size)
theorem EVP.list {es:List Expr}{pos:Pos}{ds:List D}(he:EVS h₁ r sc vars es ds) (hz:ds.length ≤ 1000:=by simp only [List.length_cons,List.length_nil];decide):EVP h₁ r sc vars (.List es pos) (.list ds):=by
 intro prog w A env s H Q E T R I O k
 with_reducible refine wpAny_List (he.2 prog w A env pos s H _ E T R I O fun vs s₁ st I₁ hvs=>⟨?_,?_⟩)
 ·rw [hvs.length];exact Nat.le_trans hz (by decide)
 ·exact k _ _ (st.trans (SStep.heap' (Step.push _))) (I₁.pushed _) (V.newList hvs (fun a q=>(I₁.hok a q).2) I₁.size)
end
end Mine
namespace Mine
variable [Wd]
structure Wr (sc:Sc) (env:Env) (h:Heap) (H:List Addr):Prop where
 loc:env.locals ∈ H
 cel:∀ x,(x,NameKind.cell) ∈ sc.names→∃ c v₀,env.cells.lookup x = some c∧N0 ≤ c∧c ∈ H∧h.IsCell c v₀
 inj:∀ x y c,env.cells.lookup x = some c→env.cells.lookup y = some c→x = y
structure Fm (sc:Sc) (env:Env) (vars:List (Str × D)) (h:Heap) (H:List Addr):Prop where
 ok:EnvOK sc env vars h H
 w:Wr sc env h H
noncomputable def wr (sc:Sc) (env:Env):List Addr:=env.locals::sc.names.filterMap fun p=>if p.2 = .cell then env.cells.lookup p.1 else none
inductive Out where
 | next (vars:List (Str × D))
 | brk (vars:List (Str × D))
 | cont (vars:List (Str × D))
 | ret (d:D)
noncomputable def OutOK (sc:Sc) (env:Env) (h:Heap) (H:List Addr):Out→Flow→Prop
 | .next vars,.next=>Fm sc env vars h H
 | .brk vars,.brk=>Fm sc env vars h H
 | .cont vars,.cont=>Fm sc env vars h H
 | .ret d,.ret v=>V h H v d
 | _,_=>False
abbrev SX (h₁:Gl) (r:Nat) (sc:Sc) (vars:List (Str × D)) (body:List Stmt) (Φ:Out→Prop):Prop:=
 ∀ (prog:Program) (w:WW) (A:Around) (env:Env) (s:Shared) (H:List Addr) (Q:Flow→Shared→Prop) (E:Value→Shared→Prop),
  Top1 h₁→Room r A→Inv h₁ H s→Fm sc env vars s.heap H →
  (∀ o f s',Φ o→SStep (wr sc env) s s'→Inv h₁ H s'→OutOK sc env s'.heap H o f→Q f s')→wpAny (model prog w) A (execs body env) Q E s
abbrev SX1 (h₁:Gl) (r:Nat) (sc:Sc) (vars:List (Str × D)) (st:Stmt) (Φ:Out→Prop):Prop:=
 ∀ (prog:Program) (w:WW) (A:Around) (env:Env) (s:Shared) (H:List Addr) (Q:Flow→Shared→Prop) (E:Value→Shared→Prop),
  Top1 h₁→Room r A→Inv h₁ H s→Fm sc env vars s.heap H →
  (∀ o f s',Φ o→SStep (wr sc env) s s'→Inv h₁ H s'→OutOK sc env s'.heap H o f→Q f s')→wpAny (model prog w) A (exec st env) Q E s
section
variable {h₁:Gl}{r:Nat}{sc:Sc}{vars:List (Str × D)}{env:Env}{H:List Addr}
theorem wr_mem {x:Addr}(hx:x ∈ wr sc env):x = env.locals ∨ ∃ n,(n,NameKind.cell) ∈ sc.names∧env.cells.lookup n = some x:=by
 rcases mc hx with rfl | hx
 ·exact .inl rfl
 ·refine ex11 (List.mem_filterMap.mp hx) fun zq1 hm e=>?_;obtain ⟨y,k⟩:=zq1
  by_cases hk:k = .cell
  ·subst hk;simp only [if_true] at e;exact .inr ⟨y,hm,e⟩
  ·simp only [hk,if_false] at e;cases e
theorem wr_cell {n:Str}{c:Addr}(hm:(n,NameKind.cell) ∈ sc.names) (e:env.cells.lookup n = some c):c ∈ wr sc env:=
 List.mem_cons_of_mem _ (List.mem_filterMap.mpr ⟨_,hm,by simpa using e⟩)
theorem wr_sub {h:Heap}(w:Wr sc env h H):∀ x ∈ wr sc env,x ∈ H:=by
 intro x hx
 rcases wr_mem hx with rfl | ⟨n,hm,e⟩
 ·exact w.loc
 ·refine ex23 (w.cel n hm) fun c v₀ e1 _ e3 _=>?_
  rw [e1] at e;cases e;exact e3
theorem lookup_mem {α:Type}{x:Str}{k:α}:∀ {l:List (Str × α)},l.lookup x = some k→(x,k) ∈ l
 | [],e=>by cases e
 | (y,j)::l,e=>by
  rw [List.lookup_cons] at e
  by_cases h:(x == y) = true
  ·rw [h] at e;cases e;rw [beq_iff_eq.mp h];exact .head _
  ·simp only [h] at e;exact .tail _ (lookup_mem e)
theorem lookup_put {x y:Str}{d:D}:((x,d)::vars).lookup y = if y = x then some d else vars.lookup y:=by
 rw [List.lookup_cons]
 by_cases h:y = x
 ·subst h;simp
 ·have:(y == x) = false:=by simpa using h
  rw [this];simp [h]
theorem cell_ne_ns {h:Heap}{c L:Addr}{v m}(hc:h.IsCell c v) (hn:h.Ns L m):c ≠ L:=by
 rintro rfl
 refine ex11 hc fun o e d=>?_
 refine ex32 hn fun o' es ep e' d' _=>?_
 rw [e] at e';cases e';rw [d] at d';cases d'
noncomputable def stoK (sc:Sc) (x:Str):Option NameKind:=match sc.fv.lookup x with
 | none=>sc.names.lookup x
 | some _=>none
theorem stoK_names {sc:Sc}{x:Str}{k:NameKind}(h:stoK sc x = some k):sc.names.lookup x = some k∧sc.fv.lookup x = none:=by
 unfold stoK at h
 cases q:sc.fv.lookup x with
 | none=>rw [q] at h;exact ⟨h,rfl⟩
 | some v=>rw [q] at h;cases h
abbrev Sto (sc:Sc) (x:Str):Prop:=stoK sc x = some .local ∨ stoK sc x = some .cell
theorem store {prog:Program}{w:WW}{A:Around}{s:Shared}{x:Str}{v:Value}{d:D}{Q:Unit→Shared→Prop}{E:Value→Shared→Prop}(hs:Sto sc x) (I:Inv h₁ H s) (F:Fm sc env vars s.heap H) (hv:V s.heap H v d)
  (k:∀ s',SStep (wr sc env) s s'→Inv h₁ H s'→Fm sc env ((x,d)::vars) s'.heap H→Q () s'):wpAny (model prog w) A (storeName env x v) Q E s:=by
 obtain ⟨O,W⟩:=F
 refine ex12 O.ns fun m hm hvs hrs=>?_
 rcases hs with hk | hk
 ·obtain ⟨hk,hfv⟩:=stoK_names hk
  have hp:(env.scope.kind == .class || (env.scope.kind == .module && env.locals != env.globals)) = false:=by rw [O.kfun];rfl
  with_reducible refine wpAny_storeName_local (O.kindOf hk) hm (fun h' hn' hs'=>?_) hp
  have st:Step (wr sc env) s.heap h':=Step.of_sameBut hs' (.head _) O.low
  have st1:Step [env.locals] s.heap h':=Step.of_sameBut hs' (.head _) O.low
  have sub:∀ y ∈ [env.locals],y ∈ H:=fun y q=>by rcases ms q with rfl;exact W.loc
  have keep:∀ y c z,env.cells.lookup y = some c→s.heap.IsCell c z→h'.IsCell c z:=fun y c z _ hc=>hc.sameBut hs' (cell_ne_ns hc hm)
  refine k _ (SStep.heap st _) (I.kept (fun b o e nb=>(hs'.2 b (fun q=>nb (q ▸ W.loc))).trans e) (Nat.le_of_eq hs'.1.symm) I.bare) ⟨⟨O.scope,O.kind,O.glob,O.bi,O.low,fun n c e=>Nat.lt_of_lt_of_le (O.lt n c e) (Nat.le_of_eq hs'.1.symm),O.code,⟨_,hn',fun y d' e kd=>?_,fun y u e kd=>?_⟩,fun y d' e kd=>?_,fun y u e kd=>?_⟩,⟨W.loc,fun y hy=>?_,W.inj⟩⟩
  ·rw [lookup_put] at e
   by_cases hy:y = x
   ·subst hy;simp only [if_true] at e;cases e
    exact ⟨v,by simp,hv.step st1 sub fun _ q=>.inl q⟩
   ·simp only [hy,if_false] at e
    refine ex11 (hvs y d' e kd) fun u e1 e2=>?_
    exact ⟨u,by simpa [hy] using e1,e2.step st1 sub fun _ q=>.inl q⟩
  ·have hy:y ≠ x:=fun q=>by subst q;rw [hfv] at e;cases e
   simpa [hy] using hrs y u e kd
  ·rw [lookup_put] at e
   by_cases hy:y = x
   ·subst hy;exact absurd hk kd
   ·simp only [hy,if_false] at e
    refine ex0123 (O.cel y d' e kd) fun q c u e1 e2 e3 e4=>?_
    exact ⟨q,c,u,e1,e2,keep y c _ e1 e3,e4.step st1 sub fun _ q=>.inl q⟩
  ·refine ex0112 (O.raw y u e kd) fun q c e1 e2 e3=>?_
   exact ⟨q,c,e1,e2,keep y c _ e1 e3⟩
  ·refine ex23 (W.cel y hy) fun c v₀ e1 e2 e3 e4=>?_
   exact ⟨c,v₀,e1,e2,e3,keep y c _ e1 e4⟩
 ·obtain ⟨hk,hfv⟩:=stoK_names hk
  refine ex23 (W.cel x (lookup_mem hk)) fun c v₀ c1 c2 c3 c4=>?_
  with_reducible refine wpAny_storeName_cell O.kfun (O.kindOf hk) c1 c4 fun h' hc' hs'=>?_
  have st:Step (wr sc env) s.heap h':=Step.of_sameBut hs' (wr_cell (lookup_mem hk) c1) c2
  have st1:Step [c] s.heap h':=Step.of_sameBut hs' (.head _) c2
  have sub:∀ y ∈ [c],y ∈ H:=fun y q=>by rcases ms q with rfl;exact c3
  refine k _ (SStep.heap' st) (I.kept (fun b o e nb=>(hs'.2 b (fun q=>nb (q ▸ c3))).trans e) (Nat.le_of_eq hs'.1.symm) I.bare) ⟨⟨O.scope,O.kind,O.glob,O.bi,O.low,fun n c e=>Nat.lt_of_lt_of_le (O.lt n c e) (Nat.le_of_eq hs'.1.symm),O.code,⟨m,hm.sameBut hs' (Ne.symm (cell_ne_ns c4 hm)),fun y d' e kd=>?_,hrs⟩,fun y d' e kd=>?_,fun y u e kd=>?_⟩,⟨W.loc,fun y hy=>?_,W.inj⟩⟩
  ·rw [lookup_put] at e
   by_cases hy:y = x
   ·subst hy;rw [hk] at kd;cases kd
   ·simp only [hy,if_false] at e
    refine ex11 (hvs y d' e kd) fun u e1 e2=>?_
    exact ⟨u,e1,e2.step st1 sub fun _ q=>.inl q⟩
  ·rw [lookup_put] at e
   by_cases hy:y = x
   ·subst hy;simp only [if_true] at e;cases e
    exact ⟨.inl hk,c,v,c1,c2,hc',hv.step st1 sub fun _ q=>.inl q⟩
   ·simp only [hy,if_false] at e
    refine ex0123 (O.cel y d' e kd) fun q c' u e1 e2 e3 e4=>?_
    have hne:c' ≠ c:=fun q=>hy (W.inj y x c (q ▸ e1) c1)
    exact ⟨q,c',u,e1,e2,e3.sameBut hs' hne,e4.step st1 sub fun _ q=>.inl q⟩
  ·refine ex0112 (O.raw y u e kd) fun q c' e1 e2 e3=>?_
   have hne:c' ≠ c:=fun q=>by
    have hy:y = x:=W.inj y x c (q ▸ e1) c1
    subst hy;rw [hfv] at e;cases e
   exact ⟨q,c',e1,e2,e3.sameBut hs' hne⟩
  ·by_cases hyx:y = x
   ·subst hyx;exact ⟨c,_,c1,c2,c3,hc'⟩
   ·refine ex23 (W.cel y hy) fun c' v₁ e1 e2 e3 e4=>?_
    have hne:c' ≠ c:=fun q=>hyx (W.inj y x c (q ▸ e1) c1)
    exact ⟨c',v₁,e1,e2,e3,e4.sameBut hs' hne⟩
theorem Wr.grow {h h':Heap}(W:Wr sc env h H) (st:Step [] h h'):Wr sc env h' H:=
 ⟨W.loc,fun x hx=>let ⟨c,v₀,e1,e2,e3,e4⟩:=W.cel x hx;⟨c,v₀,e1,e2,e3,cell_step e4 st (fun q=>(nomatch q)) e2⟩,W.inj⟩
theorem Fm.grow {h h':Heap}(F:Fm sc env vars h H) (st:Step [] h h'):Fm sc env vars h' H:=⟨F.ok.grow st,F.w.grow st⟩
theorem SStep.up {X:List Addr}{s s':Shared}(st:SStep [] s s'):SStep X s s':=st.mono fun _ q=>(nomatch q)
theorem SX.nil {Φ:Out→Prop}(h:Φ (.next vars)):SX h₁ r sc vars [] Φ:=by
 intro prog w A env s H Q E T R I F k
 with_reducible refine wpAny_execs_nil ?_
 exact k _ _ _ h (SStep.refl _ _) I F
theorem SX.seq {st:Stmt}{rest:List Stmt}{Φ Ψ:Out→Prop}(h:SX1 h₁ r sc vars st Ψ) (hn:∀ vs,Ψ (.next vs)→SX h₁ r sc vs rest Φ) (ho:∀ o,Ψ o→(∀ vs,o ≠ .next vs)→Φ o):SX h₁ r sc vars (st::rest) Φ:=by
 intro prog w A env s H Q E T R I F k
 with_reducible refine wpAny_execs_cons (h prog w A env s H _ E T R I F fun o f s₁ ho' st₁ I₁ ok=>?_)
 cases o with
 | next vs=>
  cases f <;> first | (exact ok.elim) | skip
  have F₁:Fm sc env vs s₁.heap H:=ok
  with_reducible exact hn vs ho' prog w A env s₁ H _ E T R I₁ F₁ fun o f s₂ h₂ st₂ I₂ ok₂=>k o f s₂ h₂ (st₁.trans st₂) I₂ ok₂
 | brk vs=>
  cases f <;> first | (exact ok.elim) | skip
  exact k _ _ _ (ho _ ho' fun _ q=>nomatch q) st₁ I₁ ok
 | cont vs=>
  cases f <;> first | (exact ok.elim) | skip
  exact k _ _ _ (ho _ ho' fun _ q=>nomatch q) st₁ I₁ ok
 | ret d=>
  cases f <;> first | (exact ok.elim) | skip
  exact k _ _ _ (ho _ ho' fun _ q=>nomatch q) st₁ I₁ ok
theorem SX.step {st:Stmt}{rest:List Stmt}{Φ:Out→Prop}{vs:List (Str × D)}(h:SX1 h₁ r sc vars st (· = .next vs)) (hn:SX h₁ r sc vs rest Φ):SX h₁ r sc vars (st::rest) Φ:=
 SX.seq h (fun vs' e=>by cases e;exact hn) fun o e n=>absurd e (n _)
theorem SX.mono {body:List Stmt}{Φ Ψ:Out→Prop}(h:SX h₁ r sc vars body Φ) (hw:∀ o,Φ o→Ψ o):SX h₁ r sc vars body Ψ:=by
 intro prog w A env s H Q E T R I F k
 exact h prog w A env s H Q E T R I F fun o f s' p=>k o f s' (hw o p)
noncomputable def noSwap:Expr→Bool
 | .ListComp .. | .SetComp .. | .DictComp ..=>false
 | _=>true
theorem swaps_no {value:Expr}{t:Option Expr}{n:Nat}{env:Env}(h:noSwap value = true):swapsWith value t n env = pure false:=by
 cases value <;> first | rfl | cases h
theorem SX1.assign {x:Str}{p pos:Pos}{e:Expr}{d:D}(he:EVP h₁ r sc vars e d) (hs:Sto sc x) (hn:noSwap e = true:=by rfl):SX1 h₁ r sc vars (.Assign [.Name x p] e pos) (· = .next ((x,d)::vars)):=by
 intro prog w A env s H Q E T R I F k
 with_reducible refine wpAny_Assign_Name (he prog w A env s H _ E T R I F.ok fun v s₁ st I₁ hv=>?_) (swaps_no hn)
 with_reducible refine store hs I₁ (F.grow st.st) hv fun s₂ st₂ I₂ F₂=>?_
 exact k _ _ _ rfl (st.up.trans st₂) I₂ F₂
theorem SX1.ret {e:Expr}{pos:Pos}{d:D}(he:EVP h₁ r sc vars e d):SX1 h₁ r sc vars (.Return (some e) pos) (· = .ret d):=by
 intro prog w A env s H Q E T R I F k
 with_reducible refine wpAny_Return_some (he prog w A env s H _ E T R I F.ok fun v s₁ st I₁ hv=>?_)
 exact k _ _ _ rfl st.up I₁ hv
theorem SX1.ite {t:Expr}{body orelse:List Stmt}{pos:Pos}{b:Bool}{Φ:Out→Prop}(ht:TSP h₁ r sc vars t b) (hb:b = true→SX h₁ r sc vars body Φ) (ho:b = false→SX h₁ r sc vars orelse Φ):SX1 h₁ r sc vars (.If t body orelse pos) Φ:=by
 intro prog w A env s H Q E T R I F k
 with_reducible refine wpAny_If (ht prog w A env s H _ E T R I F.ok fun s₁ st I₁=>?_)
 cases b with
 | true=>
  simp only [if_true]
  with_reducible exact hb rfl prog w A env s₁ H Q E T R I₁ (F.grow st.st) fun o f s₂ p st₂ I₂ ok=>k o f s₂ p (st.up.trans st₂) I₂ ok
 | false=>
  simp only [Bool.false_eq_true,if_false]
  with_reducible exact ho rfl prog w A env s₁ H Q E T R I₁ (F.grow st.st) fun o f s₂ p st₂ I₂ ok=>k o f s₂ p (st.up.trans st₂) I₂ ok
abbrev IIp (op:Operator) (a b c:Int):Prop:=
 ∀ (prog:Program) (w:WW) (A:Around) (s:Shared) (t u:Tok) (Q:Value→Shared→Prop) (E:Value→Shared→Prop),
  Q (.int c s.toks) { s with toks:=s.toks + 1 }→wpAny (model prog w) A (inplaceOp op (.int a t) (.int b u)) Q E s
theorem IIp.add {a b:Int}:IIp .Add a b (a + b):=by intro _ _ _ _ _ _ _ _ h;with_reducible exact iadd_int h
theorem IIp.sub {a b:Int}:IIp .Sub a b (a - b):=by intro _ _ _ _ _ _ _ _ h;with_reducible exact isub_int h
theorem IIp.shl {a n:Int}(hn:0 ≤ n) (hz:(Builtin.Int.intBits a:Int) + n ≤ 2 ^ 27):IIp .LShift a n (a * 2 ^ n.toNat):=by intro _ _ _ _ _ _ _ _ h;with_reducible exact ilshift_int hn hz h
theorem IIp.shr {a n:Int}(hn:0 ≤ n):IIp .RShift a n (a.fdiv (2 ^ n.toNat)):=by intro _ _ _ _ _ _ _ _ h;with_reducible exact irshift_int hn h
theorem loadVar {prog:Program}{w:WW}{A:Around}{s:Shared}{x:Str}{d:D}{Q:Value→Shared→Prop}{E:Value→Shared→Prop}(O:EnvOK sc env vars s.heap H) (hx:vars.lookup x = some d) (k:∀ v,V s.heap H v d→Q v s):wpAny (model prog w) A (loadName env x) Q E s:=by
 by_cases hl:sc.names.lookup x = some .local
 ·refine ex12 O.ns fun m hm hv _=>?_
  refine ex11 (hv x d hx hl) fun v e1 e2=>?_
  with_reducible exact wpAny_loadName_local O.kfun (O.kindOf hl) hm e1 (k _ e2)
 ·refine ex0123 (O.cel x d hx hl) fun q c v e1 e2 e3 e4=>?_
  rcases q with q | ⟨q,q2⟩
  ·with_reducible exact wpAny_loadName_cell O.kfun (O.kindOf q) e1 e3 (k _ e4)
  ·with_reducible exact wpAny_loadName_free O.kfun (O.kindOf q) e1 e3 (k _ e4) q2
theorem SX1.aug {x:Str}{p pos:Pos}{op:Operator}{e:Expr}{a b c:Int}(hx:vars.lookup x = some (.int a)) (he:EVP h₁ r sc vars e (.int b)) (ho:IIp op a b c) (hs:Sto sc x):SX1 h₁ r sc vars (.AugAssign (.Name x p) op e pos) (· = .next ((x,.int c)::vars)):=by
 intro prog w A env s H Q E T R I F k
 with_reducible refine wpAny_AugAssign_Name (loadVar F.ok hx fun v hv=>?_)
 obtain ⟨_,rfl⟩:=V.intI hv
 with_reducible refine he prog w A env s H _ E T R I F.ok fun v s₁ st I₁ hv=>?_
 obtain ⟨_,rfl⟩:=V.intI hv
 with_reducible refine ho prog w A s₁ _ _ _ E ?_
 with_reducible refine store hs (I₁.toks _) ((F.grow st.st).grow (Step.refl _ _)) (.int c _) fun s₂ st₂ I₂ F₂=>?_
 exact k _ _ _ rfl (st.up.trans ((SStep.toks s₁ _).trans st₂)) I₂ F₂
end
end Mine
namespace Mine
variable [Wd]
section
variable {h₁:Gl}{r:Nat}{sc:Sc}{vars:List (Str × D)}
theorem CallOK.divmod {a b:Int}(hb:b ≠ 0) (hp:Builtin.divisionGoesByPylong a b = false):CallOK h₁ r (.builtin "divmod") [.int a,.int b] (.tuple [.int (a.fdiv b),.int (a.fmod b)]):=by
 intro prog w A s H vs Q E T R I x k
 replace x:=VL.consI x
 refine ex22 x fun _ _ zq1 x1 x2=>?_;subst zq1
 ·
  replace x2:=VL.consI x2
  obtain ⟨_,_,rfl,x2,x3⟩:=x2
  ·
   obtain rfl:=VL.nilI x3;obtain ⟨_,rfl⟩:=V.intI x1;obtain ⟨_,rfl⟩:=V.intI x2
   with_reducible refine divmod_int hb ?_ (.inl hp)
   refine k _ _ ⟨Step.push _,rfl,id⟩ (I.kept (fun _ _ e _=>Heap.get?_push_of_some _ e) (by simp) I.bare) ?_
   exact V.newTuple (h:=s.heap) (.cons (.int _ _) (.cons (.int _ _) .nil)) (fun a q=>(I.hok a q).2) I.size
noncomputable def notSuper:Expr→Bool
 | .Call ..=>false
 | _=>true
theorem attributeBase_of {o:Expr}{name:Str}{env:Env}{t:Sem Value}(h:notSuper o = true):attributeBase o name env t = t:=by
 cases o <;> first | rfl | cases h
theorem mcall {M:Model}{A:Around}{E:Value→Shared→Prop}{s:Shared}{env:Env}{o:Expr}{name:Str}{apos pos:Pos}{args:List Expr}{Q:Value→Shared→Prop}(ho:notSuper o = true) (hl:(apos.endLine == pos.line) = true)
  (ha:∀ env pos,(backTo pos (starEach args env)).any (·.1) = false) (hn:args.length < 28)
  (h:wpAny M A (eval o env) (fun ov s₁=>wpAny M A (getMethod ov name (do return (← importBound o env).getD true)) (fun fx s₂=>wpAny M A (callWith pos fx.1 fx.2 (backTo pos (starEach args env)) []) Q E s₂) E s₁) E s) :
  wpAny M A (eval (.Call (.Attribute o name apos) args [] pos) env) Q E s:=by
 have e0:eval (.Call (.Attribute o name apos) args [] pos) env = (do
  let ov ← attributeBase o name env (eval o env)
  standAt apos.atName
  methodCall o name apos pos env ov (args.length + 0) (backTo pos (starEach args env)) []):=rfl
 rw [e0,attributeBase_of ho]
 have few:methodCallForm (args.length + 0) (backTo pos (starEach args env)) [] = true:=by
  have h1:(backTo pos (starEach args env)).all (fun x=>!x.1) = true:=by
   rw [List.all_eq_not_any_not]
   have:=ha env pos
   simpa using this
  simp only [methodCallForm,List.all_nil,List.isEmpty_nil,if_true,Bool.and_true,Nat.add_zero,Bool.and_eq_true,decide_eq_true_eq]
  exact ⟨h1,by omega⟩
 refine wpAny_bind (wpAny_mono h (fun ov s₁ h₁=>wpAny_bind (wpAny_standAt ?_)) fun _ _ x=>x)
 unfold methodCall
 rw [few]
 refine wpAny_bind (wpAny_holding ?_)
 show wpAny M A (getMethod ov name (do return (← importBound o env).getD true)) _ E s₁
 refine wpAny_mono h₁ (fun fx s₂ h₂=>?_) fun _ _ x=>x
 obtain ⟨f,first⟩:=fx
 have hp:methodCallPos true o env apos pos = pure pos:=by
  unfold methodCallPos
  rw [hl];rfl
 show wpAny M A (methodCallPos true o env apos pos >>= fun callPos=>callWith callPos f first (backTo pos (starEach args env)) []) Q E s₂
 rw [hp]
 exact wpAny_bind (wpAny_pure h₂)
abbrev MethOK (h₁:Gl) (r:Nat) (name:Str) (d0:D) (ds:List D) (d:D):Prop:=
 ∃ id:String,(∀ (M:Model) (A:Around) (s:Shared) (H:List Addr) (v:Value) (pl:Sem Bool) (Q:Value × List Value→Shared→Prop) (E:Value→Shared→Prop),V s.heap H v d0→Q (.builtin id,[v]) s→wpAny M A (getMethod v name pl) Q E s) ∧
  CallOK h₁ r (.builtin id) (d0::ds) d
theorem EVP.meth {o:Expr}{name:Str}{apos pos:Pos}{args:List Expr}{d0 d:D}{ds:List D}(ho:EVP h₁ r sc vars o d0) (ha:EVS h₁ r sc vars args ds) (hm:MethOK h₁ r name d0 ds d)
  (hs:notSuper o = true:=by rfl) (hl:(apos.endLine == pos.line) = true:=by rfl) (hn:args.length < 28:=by decide):EVP h₁ r sc vars (.Call (.Attribute o name apos) args [] pos) d:=by
 intro prog w A env s H Q E T R I O k
 refine ex11 hm fun id hg hc=>?_
 with_reducible refine mcall hs hl ha.1 hn (ho prog w A env s H _ E T R I O fun ov s₁ st I₁ hv=>?_)
 with_reducible refine hg _ A s₁ H ov _ _ E hv ?_
 have hp:((backTo pos (starEach args env)).any (·.1) || ([]:List (Option Str × Sem Value)).any (·.1.isNone)) = false:=by rw [ha.1 env pos];rfl
 show wpAny (model prog w) A (callWith pos (.builtin id) [ov] (backTo pos (starEach args env)) []) Q E s₁
 with_reducible refine callWith_of (P:=Kp h₁) hp (KeepOK.builtin T _) (evalArgs_of (ha.1 env pos) (ha.2 prog w A env pos s₁ H _ E T R I₁ (O.grow st.st) fun vs s₂ st₂ I₂ hvs=>⟨I₂.kp,?_⟩))
 show wpAny (model prog w) A (PySem.call (.builtin id) (ov::vs)) Q E s₂
 with_reducible refine hc prog w A s₂ H (ov::vs) Q E T R I₂ (.cons (hv.grow st₂.st) hvs) fun v s₃ st₃ I₃ hv=>?_
 exact k _ _ (st.trans (st₂.trans st₃)) I₃ hv
theorem MethOK.bit_length {a:Int}:MethOK h₁ r (Str.ofString "bit_length") (.int a) [] (.int (Builtin.Int.intBits a)):=by
 refine ⟨"int.bit_length",?_,?_⟩
 ·intro M A s H v pl Q E x k
  obtain ⟨_,rfl⟩:=V.intI x
  with_reducible exact getMethod_int_bit_length k
 ·intro prog w A s H vs Q E T R I x k
  replace x:=VL.consI x
  refine ex22 x fun _ _ zq1 x1 x2=>?_;subst zq1
  ·
   obtain rfl:=VL.nilI x2;obtain ⟨_,rfl⟩:=V.intI x1
   with_reducible refine call_int_bit_length ?_
   exact k _ _ (SStep.toks s _) (I.toks _) (.int _ _)
noncomputable def isName:Expr→Bool
 | .Name ..=>true
 | _=>false
noncomputable def nmOf:Expr→Str
 | .Name x _=>x
 | _=>Str.empty
noncomputable def puts (vars:List (Str × D)):List (Str × D)→List (Str × D)
 | []=>vars
 | p::r=>puts (p::vars) r
theorem isNameI {e:Expr}(h:isName e = true):∃ x p,e = .Name x p:=by cases e <;> first | exact ⟨_,_,rfl⟩ | cases h
theorem assignEach_names {env:Env}{elts:List Expr}:elts.all isName = true→(assignEach elts env).length = elts.length∧(assignEach elts env).findIdx? (·.1) = none:=by
 induction elts with
 | nil=>exact fun _=>⟨rfl,rfl⟩
 | cons e r ih=>
  intro h
  rw [List.all_cons,Bool.and_eq_true] at h
  obtain ⟨x,p,rfl⟩:=isNameI h.1
  have e1:assignEach (.Name x p::r) env = (false,assign (.Name x p) env)::assignEach r env:=rfl
  rw [e1]
  exact ⟨congrArg Nat.succ (ih h.2).1,by rw [List.findIdx?_cons,(ih h.2).2];rfl⟩
theorem assignNames {prog:Program}{w:WW}{A:Around}{env:Env}{H:List Addr}{Q:Unit→Shared→Prop}{E:Value→Shared→Prop}:∀ {elts:List Expr}{vs:List Value}{ds:List D}{vars:List (Str × D)}{s:Shared},elts.all isName = true→elts.length = vs.length →
  (∀ e ∈ elts,Sto sc (nmOf e))→Inv h₁ H s→Fm sc env vars s.heap H→VL s.heap H vs ds →
  (∀ s',SStep (wr sc env) s s'→Inv h₁ H s'→Fm sc env (puts vars ((elts.map nmOf).zip ds)) s'.heap H→Q () s')→wpAny (model prog w) A (assignInOrder ((assignEach elts env).map (·.2)) vs) Q E s:=by
 intro elts
 induction elts with
 | nil=>
  intro vs ds vars s _ hl _ I F _ k
  obtain rfl:=List.eq_nil_of_length_eq_zero hl.symm
  show wpAny (model prog w) A (assignInOrder [] []) _ E _
  with_reducible refine wpAny_assignInOrder_none ?_
  exact k _ (SStep.refl _ _) I F
 | cons e r ih=>
  intro vs ds vars s hn hl hs I F xs k
  rw [List.all_cons,Bool.and_eq_true] at hn
  obtain ⟨x',p,rfl⟩:=isNameI hn.1
  obtain ⟨d,ds',rfl⟩:=List.exists_cons_of_length_eq_add_one (hl.trans xs.length).symm
  refine ex22 xs.consI fun v ws zq x x2=>?_;subst zq
  have e1:assignEach (.Name x' p::r) env = (false,assign (.Name x' p) env)::assignEach r env:=rfl
  rw [e1,List.map_cons]
  with_reducible refine wpAny_assignInOrder_more (PyProof.Rows.assign_Name (store (hs (.Name x' p) (List.Mem.head _)) I F x fun s₁ st₁ I₁ F₁=>?_))
  have xs':=x2.step st₁.st (wr_sub F.w) fun _ q=>.inl q
  refine ih hn.2 (Nat.succ.inj hl) (fun e he=>hs e (.tail _ he)) I₁ F₁ xs' fun s₂ st₂ I₂ F₂=>?_
  exact k _ (st₁.trans st₂) I₂ F₂
noncomputable def notTup:Expr→Bool
 | .Tuple ..=>false
 | _=>true
theorem swapped_none {elts:List Expr}{k:Nat}{p:Pos}{value:Expr}{env:Env}(h:notTup value = true):swappedStores [.Tuple elts k p] value env = pure none:=by
 cases value <;> first | rfl | cases h
theorem Inv.extBut {H:List Addr}{s:Shared}{h':Heap}(I:Inv h₁ H s) (hx:Heap.ExtBut s.heap.objs.size s.heap h') (hz:s.heap.objs.size ≤ h'.objs.size):Inv h₁ H { s with heap:=h' }:=
 I.kept (fun b o e _=>hx b o (Nat.ne_of_lt (Heap.lt_size e)) e) hz I.bare
theorem Step.extBut {X:List Addr}{h h':Heap}(hx:Heap.ExtBut h.objs.size h h') (hz:h.objs.size ≤ h'.objs.size):Step X h h':=
 Step.of_keeps (fun b o e=>hx b o (Nat.ne_of_lt (Heap.lt_size e)) e) hz
theorem unpackNames {prog:Program}{w:WW}{A:Around}{env:Env}{H:List Addr}{s:Shared}{v:Value}{elts:List Expr}{n:Nat}{tp:Pos}{ds:List D}{Q:Unit→Shared→Prop}{E:Value→Shared→Prop}(R:Room r A) (I:Inv h₁ H s) (F:Fm sc env vars s.heap H) (hv:V s.heap H v (.tuple ds))
  (hl:elts.length = ds.length) (hs:∀ e ∈ elts,Sto sc (nmOf e)) (hn:elts.all isName = true)
  (k:∀ s',SStep (wr sc env) s s'→Inv h₁ H s'→Fm sc env (puts vars ((elts.map nmOf).zip ds)) s'.heap H→Q () s'):wpAny (model prog w) A (assign (.Tuple elts n tp) env v) Q E s:=by
 refine ex46 hv.asTuple fun a o vs m zq1 e1 e2 e3 e4 e5 e6=>?_;subst zq1
 have hT:s.heap.IsTuple a vs:=⟨o,e1,e2,_,e3⟩
 have hz:vs.size = ds.length:=by have:=e6.length;simpa using this
 have ha:=assignEach_names (env:=env) hn
 rw [arm_assign_Tuple]
 refine wpAny_bind (wpAny_standAt ?_)
 unfold unpack
 have hlen:(assignEach elts env).length = vs.size:=by rw [ha.1,hz,hl]
 rw [hlen,ha.2]
 refine wpAny_bind (wpAny_holding (with_size (wpAny_unpackItems_tuple R.hd hT fun h' hx hz'=>?_)))
 have st:Step [] s.heap h':=Step.extBut hx hz'
 refine assignNames hn (by rw [hl,← hz];simp) hs (I.extBut hx hz') (F.grow st) (e6.grow st) fun s₂ st₂ I₂ F₂=>?_
 exact k _ ((SStep.heap' st).up.trans st₂) I₂ F₂
theorem SX1.unpack {elts:List Expr}{n:Nat}{tp pos:Pos}{e:Expr}{ds:List D}(he:EVP h₁ r sc vars e (.tuple ds)) (hl:elts.length = ds.length) (hs:∀ e ∈ elts,Sto sc (nmOf e)) (hn:elts.all isName = true:=by rfl)
  (hw:notTup e = true:=by rfl) (hns:noSwap e = true:=by rfl):SX1 h₁ r sc vars (.Assign [.Tuple elts n tp] e pos) (· = .next (puts vars ((elts.map nmOf).zip ds))):=by
 intro prog w A env s H Q E T R I F k
 have hsw:swapsWithSole [.Tuple elts n tp] e pos.line env = pure false:=by
  show swapsWith e (some (.Tuple elts n tp)) pos.line env = pure false
  exact swaps_no hns
 with_reducible refine Assign_Tuple (he prog w A env s H _ E T R I F.ok fun v s₁ st I₁ hv=>?_) hsw (swapped_none hw)
 with_reducible refine unpackNames R I₁ (F.grow st.st) hv hl hs hn fun s₂ st₂ I₂ F₂=>?_
 exact k _ _ _ rfl (st.up.trans st₂) I₂ F₂
theorem swap_fm {f:Expr→Option Str}{a b:Expr}{x y:Str}(h1:f a = some x) (h2:f b = some y):[a,b].filterMap f = [x,y]:=by rw [List.filterMap_cons_some h1,List.filterMap_cons_some h2,List.filterMap_nil]
theorem swap_names {env:Env}{x y:Str}{px py tp vp:Pos}{n m:Nat}{a b:Expr}(k1:env.kindOf x = some .local) (k2:env.kindOf y = some .local) (k3:env.blockKind = .function) (hne:(x == y) = false) (hline:px.line = py.line) (hc:foldedForSure 8 a = false) (hc2:constantsAlone 8 a = false) (hsa:isStarred a = false) (hsb:isStarred b = false) :
  swappedStores [.Tuple [.Name x px,.Name y py] n tp] (.Tuple [a,b] m vp) env = pure (some [x,y]):=by
 have c1:(if (env.kindOf x == some .local && px.line == px.line) = true then some x else none) = some x:=if_pos (by rw [k1,beq_self_eq_true px.line];rfl)
 have c2:(if (env.kindOf y == some .local && py.line == px.line) = true then some y else none) = some y:=if_pos (by rw [k2,hline,beq_self_eq_true py.line];rfl)
 have hyx:(y == x) = false:=beq_eq_false_iff_ne.mpr fun e=>by rw [e,beq_self_eq_true] at hne;cases hne
 have e2:[x,y].eraseDups = [x,y]:=by simp only [List.eraseDups_cons,List.eraseDups_nil,List.filter_cons,List.filter_nil,hyx,Bool.not_false,if_true]
 unfold swappedStores
 refine (if_neg (fun h=>?g1)).trans ((if_neg (fun h=>?g2)).trans ((if_neg (fun h=>?g3)).trans ((if_neg (fun h=>?g4)).trans ((if_neg (fun h=>?g5)).trans ?g6))))
 case g1=>rw [k3] at h;exact Bool.false_ne_true h
 case g2=>
  have h':(isStarred a || (isStarred b || false)) = true:=h
  rw [hsa,hsb] at h';cases h'
 case g3=>
  rw [swap_fm c1 c2,e2] at h
  exact Bool.false_ne_true h
 case g4=>
  have h':(foldedForSure 8 a && _) = true:=h
  rw [hc] at h';cases h'
 case g5=>
  have h':(constantsAlone 8 a && _) = true:=h
  rw [hc2] at h';cases h'
 case g6=>exact congrArg (fun l=>pure (some l)) (swap_fm c1 c2)
theorem SX1.swap2 {x y:Str}{px py tp pos vp:Pos}{n m:Nat}{a b:Expr}{d1 d2:D}(ha:EVP h₁ r sc vars a d1) (hb:EVP h₁ r sc vars b d2) (hx:stoK sc x = some .local) (hy:stoK sc y = some .local)
  (hne:(x == y) = false) (hline:px.line = py.line) (hc:foldedForSure 8 a = false) (hc2:constantsAlone 8 a = false) (hsa:isStarred a = false:=by rfl) (hsb:isStarred b = false:=by rfl) :
  SX1 h₁ r sc vars (.Assign [.Tuple [.Name x px,.Name y py] n tp] (.Tuple [a,b] m vp) pos) (· = .next ((x,d1)::(y,d2)::vars)):=by
 intro prog w A env s H Q E T R I F k
 have hsw:=swap_names (tp:=tp) (vp:=vp) (n:=n) (m:=m) (F.ok.kindOf (stoK_names hx).1) (F.ok.kindOf (stoK_names hy).1) (by unfold Env.blockKind;rw [F.ok.kfun];rfl) hne hline hc hc2 hsa hsb
 have hsw':swapsWithSole [.Tuple [.Name x px,.Name y py] n tp] (.Tuple [a,b] m vp) pos.line env = pure false:=rfl
 have hT:=EVP.tuple (n:=m) (pos:=vp) (EVS.cons ha (EVS.cons hb EVS.nil hsb) hsa)
 with_reducible refine PyProof.Rows.Assign_Tuple_swapped (names:=[x,y]) (hT prog w A env s H _ E T R I F.ok fun v s₁ st I₁ hv=>?_) hsw' hsw
 refine ex46 hv.asTuple fun t o vs mm zq1 e1 e2 e3 e4 e5 e6=>?_;subst zq1
 have hTu:s₁.heap.IsTuple t vs:=⟨o,e1,e2,_,e3⟩
 have hz:vs.size = 2:=by have:=e6.length;simpa using this
 have hlen:([x,y]:List Str).length = vs.size:=by rw [hz];rfl
 rw [hlen]
 refine with_size (wpAny_unpackItems_tuple R.hd hTu fun h' hx' hz'=>?_)
 have st2:Step [] s₁.heap h':=Step.extBut hx' hz'
 obtain ⟨l⟩:=vs
 replace e6:=VL.consI e6
 refine ex22 e6 fun _ _ zq1 v1 r1=>?_;subst zq1
 ·
  replace r1:=VL.consI r1
  refine ex22 r1 fun _ _ zq1 v2 r2=>?_;subst zq1
  ·
   obtain rfl:=VL.nilI r2
   show wpAny (model prog w) A (assignInOrder [bindName env y,bindName env x] [_,_]) _ E _
   have F₁:=(F.grow st.st).grow st2
   have I₂:=I₁.extBut hx' hz'
   with_reducible refine wpAny_assignInOrder_more (wpAny_bindName (store (d:=d2) (.inl hy) I₂ F₁ (v2.grow st2) fun s₃ st₃ I₃ F₃=>?_))
   have v1':=(v1.grow st2).step st₃.st (wr_sub F₁.w) fun _ q=>.inl q
   with_reducible refine wpAny_assignInOrder_more (wpAny_bindName (store (d:=d1) (.inl hx) I₃ F₃ v1' fun s₄ st₄ I₄ F₄=>?_))
   with_reducible refine wpAny_assignInOrder_none ?_
   exact k _ _ _ rfl ((st.trans (SStep.heap' st2)).up.trans (st₃.trans st₄)) I₄ F₄
theorem SX1.while_ {test:Expr}{body:List Stmt}{pos:Pos}{Φ:Out→Prop}(P:Nat→List (Str × D)→Prop)
  (turn:∀ n vs,P n vs→∃ b,TSP h₁ r sc vs test b∧(b = false→Φ (.next vs))∧(b = true→SX h₁ r sc vs body fun o=>∃ vs' m,o = .next vs'∧m < n∧P m vs'))
  (n:Nat) (h:P n vars):SX1 h₁ r sc vars (.While test body [] pos) Φ:=by
 intro prog w A env s H Q E T R I F k
 with_reducible refine wpAny_While ?_
 refine codeAny_whileLoop (fun n s'=>∃ vs,P n vs∧SStep (wr sc env) s s'∧Inv h₁ H s'∧Fm sc env vs s'.heap H) ?_ n ⟨vars,h,SStep.refl _ _,I,F⟩
 intro n s' zq
 refine ex13 zq fun vs hP st I' F'=>?_
 refine ex12 (turn n vs hP) fun b ht h0 h1=>?_
 with_reducible refine ht prog w A env s' H _ _ T R I' F'.ok fun s₁ st₁ I₁=>?_
 cases b with
 | false=>
  simp only [Bool.false_eq_true,if_false]
  with_reducible refine wpAny_execs_nil ?_
  exact k _ _ _ (h0 rfl) (st.trans st₁.up) I₁ (F'.grow st₁.st)
 | true=>
  simp only [if_true]
  with_reducible refine h1 rfl prog w A env s₁ H _ _ T R I₁ (F'.grow st₁.st) fun o f s₂ p st₂ I₂ ok=>?_
  refine ex22 p fun vs' m zq1 hm hP'=>?_;subst zq1
  cases f <;> first | (exact ok.elim) | skip
  exact ⟨m,hm,vs',hP',st.trans (st₁.up.trans st₂),I₂,ok⟩
inductive BR (h:Heap) (H:List Addr):List (Str × Value)→List (Str × D)→Prop
 | nil:BR h H [] []
 | cons {x v d l m}:V h H v d→BR h H l m→BR h H ((x,v)::l) ((x,d)::m)
theorem BR.zip {h:Heap}{H:List Addr}{xs:List Str}{vs:List Value}{ds:List D}(x:VL h H vs ds):BR h H (xs.zip vs) (xs.zip ds):=
 VL.ind (M:=fun vs ds=>∀ xs:List Str,BR h H (xs.zip vs) (xs.zip ds)) (fun xs=>by rw [List.zip_nil_right,List.zip_nil_right];exact .nil) (fun _ _ _ _ a _ ih xs=>by
  cases xs with
  | nil=>exact .nil
  | cons x xs=>exact .cons a (ih xs)) x xs
theorem BR.append {h:Heap}{H:List Addr}{l l':List (Str × Value)}{m m':List (Str × D)}(y:BR h H l m) (x:BR h H l' m'):BR h H (l ++ l') (m ++ m'):=by
 induction y with
 | nil=>exact x
 | cons a _ ih=>exact .cons a ih
theorem BR.reverse {h:Heap}{H:List Addr}{l:List (Str × Value)}{m:List (Str × D)}(y:BR h H l m):BR h H l.reverse m.reverse:=by
 induction y with
 | nil=>exact .nil
 | cons a _ ih=>rw [List.reverse_cons,List.reverse_cons];exact ih.append (.cons a .nil)
theorem BR.lookup {h:Heap}{H:List Addr}{l:List (Str × Value)}{m:List (Str × D)}(y:BR h H l m) {x:Str}{d:D}(e:m.lookup x = some d):∃ v,l.lookup x = some v∧V h H v d:=by
 induction y with
 | nil=>cases e
 | @cons y v d' l m a b ih=>
  rw [List.lookup_cons] at e ⊢
  cases q:(x == y) with
  | true=>rw [q] at e;obtain rfl:=Option.some.inj e;exact ⟨_,rfl,a⟩
  | false=>rw [q] at e;exact ih e
theorem BR.keys {h:Heap}{H:List Addr}{l:List (Str × Value)}{m:List (Str × D)}(y:BR h H l m) {x:Str}{d:D}(e:m.lookup x = some d):x ∈ l.map (·.1):=by
 induction y with
 | nil=>cases e
 | @cons y v d' l m a b ih=>
  rw [List.lookup_cons] at e
  cases q:(x == y) with
  | true=>rw [beq_iff_eq.mp q];exact .head _
  | false=>rw [q] at e;exact .tail _ (ih e)
structure DefOf (st:Stmt) (name:Str) (params:Arguments) (body:List Stmt) (scope:Scope):Prop where
 eq:∃ dl ret tp ts bd pos,st = .FunctionDef name params body dl ret tp scope ts bd pos
 fn:scope.kind = .function
 gen:scope.isGenerator = false
 co:scope.isCoroutine = false
theorem CallOK.of_def {st:Stmt}{q:Str}{f c:Addr}{name:Str}{params:Arguments}{body:List Stmt}{scope:Scope}{xs:List Str}{ds:List D}{d:D}(hf:Top1 h₁→FnAt h₁.h st q f c) (hd:DefOf st name params body scope)
  (hb:∀ m (vs:List Value),vs.length = ds.length→bindArgs (fdOf st q c m) ⟨vs,[]⟩ = pure (xs.zip vs)) (hloc:∀ x ∈ xs,scope.names.lookup x = some .local) (hcell:∀ x ∈ scope.names,x.2 ≠ .cell)
  (hbody:SX h₁ r ⟨scope,[]⟩ (xs.zip ds).reverse body fun o=>o = .ret d ∨ (d = .none∧∃ vs,o = .next vs)) (hl:f < N0:=by decide) (ht:f ∉ tabs:=by decide) (hlc:c < N0:=by decide) (htc:c ∉ tabs:=by decide) (hcal:isCal scope = true→c = 111∧q = Str.ofString "add_callers":=by first | exact fun h=>absurd h (by decide) | exact fun _=>⟨rfl,rfl⟩):CallOK h₁ (r + 1) (.ref f) ds d:=by
 intro prog w A s H vs Q E T R I x k
 obtain ⟨⟨m,e⟩,hcd⟩:=hf T
 refine ex60 hd.eq fun dl ret tp ts bd pos zq1=>?_;subst zq1
 have kf:s.heap.get? f = _:=I.kp _ _ e hl ht
 have hlim:s.heap.NoLimit:=by
  refine ex11 T.lim fun mc a b=>?_
  exact ⟨mc,I.kp.ns a (by decide) (by decide),b⟩
 have hcd':s.heap.CodeRec (.ref c) q:=by
  refine ex43 hcd fun c' o vs' t e1 e2 e3 e4=>?_
  cases e1
  exact ⟨_,o,vs',t,rfl,I.kp _ _ e2 hlc htc,e3,e4⟩
 have hlen:vs.length = ds.length:=x.length
 with_reducible refine wpAny_call (code_size ?_)
 refine codeAny_call_def (fd:=fdOf _ q c m) (body:=body) (binds:=xs.zip vs) R.limit kf rfl hlim hcd' rfl (BindsTo.of_eq (hb m vs hlen)) hcell (fun y hy=>hloc y.1 (List.of_mem_zip hy).1) (fun h₀ hns hk=>?_) hd.co hd.gen hd.fn
 have env0:callEnv (fdOf (.FunctionDef name params body dl ret tp scope ts bd pos) q c m) s.heap.objs.size f = { scope:=scope,locals:=s.heap.objs.size,globals:=mainGlobals,cells:=[],qual:=q ++ ".<locals>.",func:=some f,code:=.ref c,frame:=some s.heap.objs.size,builtins:=builtinsNs }:=rfl
 rw [env0]
 generalize hL:s.heap.objs.size = L at *
 have hz:L < h₀.objs.size:=hns.lt
 have hN:N0 ≤ L:=hL ▸ I.size
 have hf':∀ a ∈ L::H,a ∈ H ∨ s.heap.objs.size ≤ a:=fun a q=>by
  rcases mc q with rfl | q
  ·exact .inr (Nat.le_of_eq hL)
  ·exact .inl q
 have I':Inv h₁ (L::H) { s with heap:=h₀,toks:=s.toks + (xs.zip vs).length }:=by
  have g:=I.grown (h':=h₀) (t:=s.toks + (xs.zip vs).length) hk (by rw [hL];exact Nat.le_of_lt hz)
  have hlow:∀ a ∈ L::H,N0 ≤ a∧a < h₀.objs.size:=fun a q=>by
   rcases mc q with rfl | q
   ·exact ⟨hN,hz⟩
   ·exact g.hok a q
  exact ⟨g.kp,(I.tab.less hf').kept (fun b o e _=>hk b o e) (fun a q=>(hlow a q).1),g.bare,hlow,g.size,fun p hp=>let ⟨e1,e2,e3⟩:=I.fix p hp;⟨hk _ _ e1,(fun q=>(hf' _ q).elim e2 fun z=>Nat.lt_irrefl _ (Nat.lt_of_lt_of_le (Heap.lt_size e1) z)),e3⟩⟩
 have st0:Step [] s.heap h₀:=Step.of_keeps hk (by rw [hL];exact Nat.le_of_lt hz)
 have br:BR h₀ (L::H) (xs.zip vs).reverse (xs.zip ds).reverse:=(BR.zip (x.step (X:=[]) st0 (fun _ q=>(nomatch q)) hf')).reverse
 have F0:Fm ⟨scope,[]⟩ { scope:=scope,locals:=L,globals:=mainGlobals,cells:=[],qual:=q ++ ".<locals>.",func:=some f,code:=.ref c,frame:=some L,builtins:=builtinsNs } (xs.zip ds).reverse h₀ (L::H):=by
  refine ⟨⟨rfl,hd.fn,rfl,rfl,hN,(fun _ _ e=>by cases e),(fun h=>by obtain ⟨rfl,rfl⟩:=hcal h;exact ⟨rfl,rfl⟩),⟨_,hns,fun y d' e _=>br.lookup e,fun _ _ e=>by cases e⟩,fun y d' e kd=>?_,fun _ _ e=>by cases e⟩,⟨.head _,fun y hy=>absurd rfl (hcell _ hy),fun _ _ _ e=>by cases e⟩⟩
  exfalso
  have hy:=br.keys e
  refine ex11 (List.mem_map.mp hy) fun p hp zq1=>?_;subst zq1
  exact kd (hloc p.1 (List.of_mem_zip (List.mem_reverse.mp hp)).1)
 refine hbody prog w _ _ { s with heap:=h₀,toks:=s.toks + (xs.zip vs).length } (L::H) _ _ T (R.deeper _) I' F0 fun o fl s' ho st I₂ ok hsz=>?_
 have hw:SStep [] s s':=by
  have s0:SStep [] s { s with heap:=h₀,toks:=s.toks + (xs.zip vs).length }:=SStep.heap st0 _
  have h1:=s0.up.trans st
  refine h1.mono fun y hy=>?_
  rcases wr_mem hy with rfl | ⟨n,hm,_⟩
  ·exact .inr (Nat.le_of_eq hL)
  ·exact absurd rfl (hcell _ hm)
 have I₃:Inv h₁ H s':=I₂.less (fun a q=>.inl (.tail _ q)) fun a q=>I₂.hok a (.tail _ q)
 rcases ho with rfl | ⟨rfl,vs',rfl⟩
 ·cases fl <;> first | (exact ok.elim) | skip
  have hv:V s'.heap (L::H) _ d:=ok
  exact k _ _ hw I₃ (hv.less fun a q=>.inl (.tail _ q))
 ·cases fl <;> first | (exact ok.elim) | skip
  exact k _ _ hw I₃ .none
end
end Mine
namespace Mine
open Builtin
theorem fdiv_nat (a b:Nat):((a:Int)).fdiv (b:Int) = ((a / b:Nat):Int):=by
 rw [Int.fdiv_eq_ediv_of_nonneg _ (Int.natCast_nonneg b)];rfl
theorem fmod_nat (a b:Nat):((a:Int)).fmod (b:Int) = ((a % b:Nat):Int):=by
 rw [Int.fmod_eq_emod_of_nonneg _ (Int.natCast_nonneg b)];rfl
theorem pow_nat (k:Nat):((2:Int) ^ k) = ((2 ^ k:Nat):Int):=by simp
theorem shr_nat (a n:Nat):((a:Int)).fdiv (2 ^ ((n:Int)).toNat) = ((a / 2 ^ n:Nat):Int):=by
 rw [Int.toNat_natCast,pow_nat,fdiv_nat]
theorem shl_nat (a n:Nat):((a:Int)) * (2 ^ ((n:Int)).toNat) = ((a * 2 ^ n:Nat):Int):=by
 rw [Int.toNat_natCast,pow_nat];simp
theorem and_nat (a b:Nat):bitAnd (a:Int) (b:Int) = ((a &&& b:Nat):Int):=by
 unfold bitAnd
 have h1:decide (0 ≤ (a:Int)) = true:=decide_eq_true (Int.natCast_nonneg a)
 have h2:decide (0 ≤ (b:Int)) = true:=decide_eq_true (Int.natCast_nonneg b)
 rw [h1,h2]
 simp
theorem or_nat (a b:Nat):bitOr (a:Int) (b:Int) = ((a ||| b:Nat):Int):=by
 unfold bitOr bitAnd bitNot
 have h1:decide (0 ≤ -(a:Int) - 1) = false:=decide_eq_false (by lia)
 have h2:decide (0 ≤ -(b:Int) - 1) = false:=decide_eq_false (by lia)
 rw [h1,h2]
 have e1:(-(-(a:Int) - 1) - 1).toNat = a:=by lia
 have e2:(-(-(b:Int) - 1) - 1).toNat = b:=by lia
 simp only [e1,e2]
 lia
theorem and_mask (a k:Nat):a &&& (2 ^ k - 1) = a % 2 ^ k:=Nat.and_two_pow_sub_one_eq_mod a k
theorem or_add {a b k:Nat}(h:b < 2 ^ k):(a * 2 ^ k) ||| b = a * 2 ^ k + b:=by
 rw [Nat.mul_comm];exact (Nat.two_pow_add_eq_or_of_lt h a).symm
theorem xor_low (x k:Nat):bitXor (x:Int) ((x / 2 ^ k * 2 ^ k:Nat):Int) = ((x % 2 ^ k:Nat):Int):=by
 unfold bitXor
 rw [or_nat,and_nat]
 have hlt:x % 2 ^ k < 2 ^ k:=Nat.mod_lt _ (Nat.two_pow_pos k)
 have hx:x = (x / 2 ^ k * 2 ^ k) ||| (x % 2 ^ k):=by rw [or_add hlt];rw [Nat.mul_comm];exact (Nat.div_add_mod x (2 ^ k)).symm
 have e1:x ||| (x / 2 ^ k * 2 ^ k) = x:=by
  conv=>lhs;lhs;rw [hx]
  rw [Nat.or_comm,← Nat.or_assoc,Nat.or_self,← hx]
 have hz:(x % 2 ^ k) &&& (x / 2 ^ k * 2 ^ k) = 0:=by
  apply Nat.eq_of_testBit_eq
  intro i
  rw [Nat.testBit_and,Nat.zero_testBit]
  by_cases hi:i < k
  ·rw [Nat.testBit_mul_two_pow];simp [Nat.not_le.mpr hi]
  ·rw [Nat.testBit_lt_two_pow (Nat.lt_of_lt_of_le hlt (Nat.pow_le_pow_right (by decide) (Nat.not_lt.mp hi)))];rfl
 have e2:x &&& (x / 2 ^ k * 2 ^ k) = x / 2 ^ k * 2 ^ k:=by
  conv=>lhs;lhs;rw [hx]
  rw [Nat.and_or_distrib_right,Nat.and_self,hz,Nat.or_zero]
 rw [e1,e2]
 have:x / 2 ^ k * 2 ^ k + x % 2 ^ k = x:=by rw [Nat.mul_comm];exact Nat.div_add_mod x (2 ^ k)
 lia
noncomputable def bl (a:Nat):Nat:=if a = 0 then 0 else a.log2 + 1
theorem bits_nat (a:Nat):Int.intBits (a:Int) = bl a:=by
 unfold Int.intBits bl
 by_cases h:a = 0
 ·subst h;rfl
 ·rw [if_neg (by simpa using h),if_neg h];simp
theorem lt_bl (a:Nat):a < 2 ^ bl a:=by
 unfold bl
 by_cases h:a = 0
 ·subst h;decide
 ·rw [if_neg h];exact Nat.lt_log2_self
theorem bl_le {a k:Nat}(h:a < 2 ^ k):bl a ≤ k:=by
 unfold bl
 by_cases h0:a = 0
 ·rw [if_pos h0];exact Nat.zero_le _
 ·rw [if_neg h0];exact (Nat.log2_lt h0).mpr h
theorem bl_ge {a k:Nat}(h:2 ^ k ≤ a):k + 1 ≤ bl a:=by
 apply Nat.lt_of_not_le
 intro q
 have:=lt_bl a
 have h2:2 ^ bl a ≤ 2 ^ k:=Nat.pow_le_pow_right (by decide) q
 lia
theorem bl_eq {a k:Nat}(h1:a < 2 ^ k) (h2:2 ^ k ≤ 2 * a):bl a = k:=by
 have l:=bl_le h1
 cases k with
 | zero=>lia
 | succ k=>
  rw [Nat.pow_succ] at h2
  have:=bl_ge (a:=a) (k:=k) (by lia)
  lia
end Mine
namespace Mine
variable [Wd]
abbrev Has (vs:List (Str × D)) (x:Str) (d:D):Prop:=vs.lookup x = some d
theorem Has.here {vs:List (Str × D)}{x:Str}{d:D}:Has ((x,d)::vs) x d:=by
 show List.lookup x ((x,d)::vs) = some d
 rw [List.lookup_cons];simp
theorem Has.skip {vs:List (Str × D)}{x y:Str}{d e:D}(h:Has vs x d) (hn:(x == y) = false):Has ((y,e)::vs) x d:=by
 show List.lookup x ((y,e)::vs) = some d
 rw [List.lookup_cons,hn];exact h
noncomputable def bodyOf:Stmt→List Stmt
 | .FunctionDef _ _ b _ _ _ _ _ _ _=>b
 | _=>[]
noncomputable def scOf0:Stmt→Scope
 | .FunctionDef _ _ _ _ _ _ s _ _ _=>s
 | _=>default
noncomputable def scOf (st:Stmt):Sc:=⟨scOf0 st,[]⟩
noncomputable def parOf:Stmt→Arguments
 | .FunctionDef _ a _ _ _ _ _ _ _ _=>a
 | _=>default
noncomputable def nameOf':Stmt→Str
 | .FunctionDef n _ _ _ _ _ _ _ _ _=>n
 | _=>default
section
variable {h₁:Gl}{r:Nat}{sc:Sc}{vars:List (Str × D)}
theorem EVP.as {e:Expr}{d d':D}(h:EVP h₁ r sc vars e d') (q:d' = d):EVP h₁ r sc vars e d:=by subst q;with_reducible exact h
theorem TSP.as {e:Expr}{d d':Bool}(h:TSP h₁ r sc vars e d') (q:d' = d):TSP h₁ r sc vars e d:=by subst q;with_reducible exact h
theorem IOp.as {op:Operator}{a b c c':Int}(h:IOp op a b c') (q:c' = c):IOp op a b c:=by subst q;with_reducible exact h
theorem IIp.as {op:Operator}{a b c c':Int}(h:IIp op a b c') (q:c' = c):IIp op a b c:=by subst q;with_reducible exact h
theorem bits_room {a n:Nat}(hz:bl a + n ≤ 134217728):(Builtin.Int.intBits (a:Int):Int) + (n:Int) ≤ 2 ^ 27:=by rw [bits_nat];exact_mod_cast hz
theorem IOp.shrN {a n:Nat}:IOp .RShift (a:Int) (n:Int) ((a / 2 ^ n:Nat):Int):=by with_reducible exact IOp.as (IOp.shr (Int.natCast_nonneg n)) (shr_nat a n)
theorem IOp.shlN {a n:Nat}(hz:bl a + n ≤ 134217728):IOp .LShift (a:Int) (n:Int) ((a * 2 ^ n:Nat):Int):=by with_reducible exact IOp.as (IOp.shl (Int.natCast_nonneg n) (bits_room hz)) (shl_nat a n)
theorem IOp.addN {a b:Nat}:IOp .Add (a:Int) (b:Int) ((a + b:Nat):Int):=by
 have e:(a:Int) + (b:Int) = ((a + b:Nat):Int):=by simp
 with_reducible exact IOp.as IOp.add e
theorem IOp.subN {a b:Nat}(h:b ≤ a):IOp .Sub (a:Int) (b:Int) ((a - b:Nat):Int):=by
 have e:(a:Int) - (b:Int) = ((a - b:Nat):Int):=by omega
 with_reducible exact IOp.as IOp.sub e
theorem IOp.andN {a b:Nat}:IOp .BitAnd (a:Int) (b:Int) ((a &&& b:Nat):Int):=by with_reducible exact IOp.as IOp.and (and_nat a b)
theorem IOp.maskN {x k:Nat}:IOp .BitAnd (x:Int) ((2 ^ k - 1:Nat):Int) ((x % 2 ^ k:Nat):Int):=by
 have e:=and_nat x (2 ^ k - 1)
 rw [and_mask] at e
 with_reducible exact IOp.as IOp.and e
theorem IOp.orN {a b:Nat}:IOp .BitOr (a:Int) (b:Int) ((a ||| b:Nat):Int):=by with_reducible exact IOp.as IOp.or (or_nat a b)
theorem IIp.shlN {a n:Nat}(hz:bl a + n ≤ 134217728):IIp .LShift (a:Int) (n:Int) ((a * 2 ^ n:Nat):Int):=by with_reducible exact IIp.as (IIp.shl (Int.natCast_nonneg n) (bits_room hz)) (shl_nat a n)
theorem IIp.shrN {a n:Nat}:IIp .RShift (a:Int) (n:Int) ((a / 2 ^ n:Nat):Int):=by with_reducible exact IIp.as (IIp.shr (Int.natCast_nonneg n)) (shr_nat a n)
theorem IIp.addN {a b:Nat}:IIp .Add (a:Int) (b:Int) ((a + b:Nat):Int):=by
 have e:(a:Int) + (b:Int) = ((a + b:Nat):Int):=by simp
 with_reducible exact IIp.as IIp.add e
theorem EVP.constN {i:Nat}{n:Nat}{pos:Pos}:EVP h₁ r sc vars (.Constant (.int (i:Int)) n pos) (.int (i:Int)):=by with_reducible exact EVP.const_int
theorem EVP.constI {i:Int}{k:Nat}{n:Nat}{pos:Pos}(h:i = (k:Int)):EVP h₁ r sc vars (.Constant (.int i) n pos) (.int (k:Int)):=by subst h;with_reducible exact EVP.const_int
theorem EVP.c1 {n:Nat}{pos:Pos}:EVP h₁ r sc vars (.Constant (.int 1) n pos) (.int ((1:Nat):Int)):=EVP.const_int
theorem EVP.c0 {n:Nat}{pos:Pos}:EVP h₁ r sc vars (.Constant (.int 0) n pos) (.int ((0:Nat):Int)):=EVP.const_int
noncomputable def Kont (h₁:Gl) (r:Nat) (sc:Sc) (rest:List Stmt) (Φ:Out→Prop):Out→Prop
 | .next vs=>SX h₁ r sc vs rest Φ
 | .brk vs=>Φ (.brk vs)
 | .cont vs=>Φ (.cont vs)
 | .ret d=>Φ (.ret d)
theorem SX.kont {st:Stmt}{rest:List Stmt}{Φ:Out→Prop}(h:SX1 h₁ r sc vars st (Kont h₁ r sc rest Φ)):SX h₁ r sc vars (st::rest) Φ:=by
 refine SX.seq h (fun vs hv=>hv) fun o ho hn=>?_
 cases o with
 | next vs=>exact absurd rfl (hn vs)
 | brk vs=>exact ho
 | cont vs=>exact ho
 | ret d=>exact ho
theorem SX.ite {t:Expr}{body orelse rest:List Stmt}{pos:Pos}{b:Bool}{Φ:Out→Prop}(ht:TSP h₁ r sc vars t b) (hb:b = true→SX h₁ r sc vars body (Kont h₁ r sc rest Φ)) (ho:b = false→SX h₁ r sc vars orelse (Kont h₁ r sc rest Φ)):SX h₁ r sc vars (.If t body orelse pos::rest) Φ:=by
 with_reducible exact SX.kont (SX1.ite ht hb ho)
theorem SX.done {rest:List Stmt}{Φ:Out→Prop}(h:SX h₁ r sc vars rest Φ):SX h₁ r sc vars [] (Kont h₁ r sc rest Φ):=by
 have h':Kont h₁ r sc rest Φ (.next vars):=h
 with_reducible exact SX.nil h'
theorem SX.assign {x:Str}{p pos:Pos}{e:Expr}{d:D}{rest:List Stmt}{Φ:Out→Prop}(he:EVP h₁ r sc vars e d) (hs:Sto sc x) (hn:noSwap e = true) (hk:SX h₁ r sc ((x,d)::vars) rest Φ):SX h₁ r sc vars (.Assign [.Name x p] e pos::rest) Φ:=by
 with_reducible exact SX.step (SX1.assign he hs hn) hk
theorem SX.aug {x:Str}{p pos:Pos}{op:Operator}{e:Expr}{a b c:Int}{rest:List Stmt}{Φ:Out→Prop}(hx:vars.lookup x = some (.int a)) (he:EVP h₁ r sc vars e (.int b)) (ho:IIp op a b c) (hs:Sto sc x) (hk:SX h₁ r sc ((x,.int c)::vars) rest Φ):SX h₁ r sc vars (.AugAssign (.Name x p) op e pos::rest) Φ:=by
 with_reducible exact SX.step (SX1.aug hx he ho hs) hk
theorem SX.ret {e:Expr}{pos:Pos}{d:D}{rest:List Stmt}{Φ:Out→Prop}(he:EVP h₁ r sc vars e d) (hk:Φ (.ret d)):SX h₁ r sc vars (.Return (some e) pos::rest) Φ:=
 SX.seq (SX1.ret he) (fun vs e=>by cases e) fun o e _=>by subst e;exact hk
theorem SX.unpack {elts:List Expr}{n:Nat}{tp pos:Pos}{e:Expr}{ds:List D}{rest:List Stmt}{Φ:Out→Prop}(he:EVP h₁ r sc vars e (.tuple ds)) (hl:elts.length = ds.length) (hs:∀ e ∈ elts,Sto sc (nmOf e)) (hn:elts.all isName = true)
  (hw:notTup e = true) (hns:noSwap e = true) (hk:SX h₁ r sc (puts vars ((elts.map nmOf).zip ds)) rest Φ):SX h₁ r sc vars (.Assign [.Tuple elts n tp] e pos::rest) Φ:=by
 with_reducible exact SX.step (SX1.unpack he hl hs hn hw hns) hk
theorem SX.swap2 {x y:Str}{px py tp pos vp:Pos}{n m:Nat}{a b:Expr}{d1 d2:D}{rest:List Stmt}{Φ:Out→Prop}(ha:EVP h₁ r sc vars a d1) (hb:EVP h₁ r sc vars b d2) (hx:stoK sc x = some .local) (hy:stoK sc y = some .local)
  (hne:(x == y) = false) (hline:px.line = py.line) (hc:foldedForSure 8 a = false) (hc2:constantsAlone 8 a = false) (hsa:isStarred a = false) (hsb:isStarred b = false) (hk:SX h₁ r sc ((x,d1)::(y,d2)::vars) rest Φ) :
  SX h₁ r sc vars (.Assign [.Tuple [.Name x px,.Name y py] n tp] (.Tuple [a,b] m vp) pos::rest) Φ:=by
 with_reducible exact SX.step (SX1.swap2 ha hb hx hy hne hline hc hc2 hsa hsb) hk
end
end Mine
namespace Mine
variable [Wd]
section
variable {h₁:Gl}{r:Nat}{sc:Sc}{vars:List (Str × D)}
theorem lookup_app {α:Type}{x:Str}:∀ {l m:List (Str × α)},(l ++ m).lookup x = (l.lookup x).or (m.lookup x)
 | [],m=>by simp
 | (y,v)::l,m=>by
  rw [List.cons_append,List.lookup_cons,List.lookup_cons]
  cases (x == y) with
  | true=>rfl
  | false=>exact lookup_app
theorem bindL_at {kd:Str→Option NameKind}{x:Str}(hk:kd x = some .local):∀ (binds:List (Str × Value)) (m:Str→Option Value),bindL kd binds m x = (binds.reverse.lookup x).or (m x)
 | [],m=>by simp [bindL]
 | (n,v)::r,m=>by
  rw [bindL,bindL_at hk r,List.reverse_cons,lookup_app]
  by_cases h:x = n
  ·subst h
   rw [if_pos hk]
   simp
  ·have h2:(x == n) = false:=by simpa using h
   have:(if kd n = some .local then fun y=>if y = n then some v else m y else m) x = m x:=by split <;> simp [h]
   rw [this,List.lookup_cons,h2]
   simp
theorem bindC_at {kd:Str→Option NameKind}{x:Str}(hk:kd x ≠ some .local):∀ (binds:List (Str × Value)) (m:Str→Option Value),bindC kd binds m x = (binds.reverse.lookup x).or (m x)
 | [],m=>by simp [bindC]
 | (n,v)::r,m=>by
  rw [bindC,bindC_at hk r,List.reverse_cons,lookup_app]
  by_cases h:x = n
  ·subst h
   rw [if_neg hk]
   simp
  ·have h2:(x == n) = false:=by simpa using h
   have:(if kd n = some .local then m else fun y=>if y = n then some v else m y) x = m x:=by split <;> simp [h]
   rw [this,List.lookup_cons,h2]
   simp
theorem cellsFrom_names {x:Str}{c:Addr}:∀ (names:List (Str × NameKind)) (n:Nat) (acc:List (Str × Addr)),(x,c) ∈ cellsFrom n names acc→(x,NameKind.cell) ∈ names ∨ (x,c) ∈ acc
 | [],n,acc,h=>.inr h
 | (y,k)::r,n,acc,h=>by
  unfold cellsFrom at h
  by_cases hk:(k == .cell) = true
  ·rw [if_pos hk] at h
   have hk':k = .cell:=by simpa using hk
   rcases cellsFrom_names r _ _ h with q | q
   ·exact .inl (.tail _ q)
   ·rcases List.mem_cons.mp q with q | q
    ·cases q;subst hk';exact .inl (.head _)
    ·exact .inr q
  ·rw [if_neg hk] at h
   rcases cellsFrom_names r _ _ h with q | q
   ·exact .inl (.tail _ q)
   ·exact .inr q
theorem cellsFrom_has {x:Str}:∀ (names:List (Str × NameKind)) (n:Nat) (acc:List (Str × Addr)),(x,NameKind.cell) ∈ names ∨ (acc.lookup x).isSome = true→((cellsFrom n names acc).lookup x).isSome = true
 | [],_,_,h=>h.elim (fun e=>by cases e) id
 | (y,k)::r,n,acc,h=>by
  unfold cellsFrom
  by_cases hk:(k == .cell) = true
  ·rw [if_pos hk]
   refine cellsFrom_has r _ _ ?_
   rcases h with h | h
   ·rcases List.mem_cons.mp h with h | h
    ·cases h;exact .inr (by simp)
    ·exact .inl h
   ·refine .inr ?_
    rw [List.lookup_cons]
    split
    ·rfl
    ·exact h
  ·rw [if_neg hk]
   refine cellsFrom_has r _ _ ?_
   rcases h with h | h
   ·rcases List.mem_cons.mp h with h | h
    ·cases h;exact absurd rfl hk
    ·exact .inl h
   ·exact .inr h
theorem enterC {prog:Program}{w:WW}{A:Around}{s:Shared}{H:List Addr}{st:Stmt}{q:Str}{f c:Addr}{name:Str}{params:Arguments}{body:List Stmt}{scope:Scope}{xs:List Str}{ds:List D}{vs:List Value}{Q:Value→Shared→Prop}{E:Value→Shared→Prop}
  (T:Top1 h₁) (R:Room (r + 1) A) (I:Inv h₁ H s) (x:VL s.heap H vs ds) (hf:FnAt h₁.h st q f c) (hd:DefOf st name params body scope)
  (hb:∀ m (vs:List Value),vs.length = ds.length→bindArgs (fdOf st q c m) ⟨vs,[]⟩ = pure (xs.zip vs)) (hkind:∀ x ∈ xs,scope.names.lookup x = some .local ∨ scope.names.lookup x = some .cell)
  (k:∀ (env:Env) (s₁:Shared) (H₁:List Addr),Room r (A.deeper env)→env.cells = cellsFrom (env.locals + 1) scope.names []→env.code = .ref c→env.scope = scope→env.globals = mainGlobals→env.builtins = builtinsNs→env.qual = q ++ ".<locals>." →
   SStep [] s s₁→Inv h₁ H₁ s₁→Fm ⟨scope,[]⟩ env (xs.zip ds).reverse s₁.heap H₁→(∀ a ∈ H₁,a ∈ H ∨ s.heap.objs.size ≤ a)→(∀ a ∈ H,a ∈ H₁)→s.heap.objs.size ≤ env.locals→(∀ y c',(y,c') ∈ env.cells→s.heap.objs.size ≤ c') →
   wpAny (model prog w) (A.deeper env) (execs body env) (fun fl s'=>Q (match fl with | .ret v=>v | _=>.none) s') (fun e s'=>wpAny (model prog w) (A.deeper env) (leaving env e) (fun _ s''=>E e s'') (fun e' s''=>E e' s'') s') s₁)
  (hl:f < N0) (ht:f ∉ tabs) (hlc:c < N0) (htc:c ∉ tabs) (hcal:isCal scope = true→c = 111∧q = Str.ofString "add_callers":=by first | exact fun h=>absurd h (by decide) | exact fun _=>⟨rfl,rfl⟩):wpAny (model prog w) A (call (.ref f) vs) Q E s:=by
 obtain ⟨⟨m,e⟩,hcd⟩:=hf
 refine ex60 hd.eq fun dl ret tp ts bd pos zq1=>?_;subst zq1
 have kf:s.heap.get? f = _:=I.kp _ _ e hl ht
 have hlim:s.heap.NoLimit:=by
  refine ex11 T.lim fun mc a b=>?_
  exact ⟨mc,I.kp.ns a (by decide) (by decide),b⟩
 have hcd':s.heap.CodeRec (.ref c) q:=by
  refine ex43 hcd fun c' o vs' t e1 e2 e3 e4=>?_
  cases e1
  exact ⟨_,o,vs',t,rfl,I.kp _ _ e2 hlc htc,e3,e4⟩
 have hlen:vs.length = ds.length:=x.length
 with_reducible refine wpAny_call ?_
 have hkind':∀ y ∈ xs.zip vs,scope.names.lookup y.1 = some .local ∨ (scope.names.lookup y.1 = some .cell∧((cellsFrom (s.heap.objs.size + 1) scope.names []).lookup y.1).isSome = true):=fun y hy=>by
  rcases hkind y.1 (List.of_mem_zip hy).1 with q | q
  ·exact .inl q
  ·exact .inr ⟨q,cellsFrom_has _ _ _ (.inl (lookup_mem q))⟩
 refine codeAny_call_cells (fd:=fdOf _ q c m) (body:=body) (binds:=xs.zip vs) R.limit kf rfl hlim hcd' rfl (hb m vs hlen) rfl hkind' (fun s₁ X=>?_) hd.co hd.gen hd.fn
 have env0:callEnvC (fdOf (.FunctionDef name params body dl ret tp scope ts bd pos) q c m) s.heap.objs.size f = { scope:=scope,locals:=s.heap.objs.size,globals:=mainGlobals,cells:=cellsFrom (s.heap.objs.size + 1) scope.names [],qual:=q ++ ".<locals>.",func:=some f,code:=.ref c,frame:=some s.heap.objs.size,builtins:=builtinsNs }:=rfl
 rw [env0] at X ⊢
 refine gr (s.heap.objs.size) fun L hL=>?_
 rw [hL] at X ⊢
 obtain ⟨⟨⟨h₀,tk,hs⟩,hns,hkeep,hfresh⟩,hcell,hapart,habove⟩:=X
 subst hs
 dsimp only at hns hkeep hfresh hcell hapart habove
 have hz:L < h₀.objs.size:=hns.lt
 have hN:N0 ≤ L:=hL ▸ I.size
 have hlk:∀ y c',(y,c') ∈ cellsFrom (L + 1) scope.names []→(cellsFrom (L + 1) scope.names []).lookup y = some c' ∨ ∃ c'',(cellsFrom (L + 1) scope.names []).lookup y = some c'':=fun y c' hm=>by
  rcases cellsFrom_names _ _ _ hm with q | q
  ·have:=cellsFrom_has scope.names (L + 1) [] (.inl q)
   obtain ⟨c'',hc''⟩:=Option.isSome_iff_exists.mp this
   exact .inr ⟨c'',hc''⟩
  ·cases q
 have hH₁:∀ a ∈ L::((cellsFrom (L + 1) scope.names []).filterMap fun p=>(cellsFrom (L + 1) scope.names []).lookup p.1) ++ H,a ∈ H ∨ (L ≤ a∧a < h₀.objs.size):=fun a ha=>by
  rcases List.mem_append.mp ha with ha | ha
  ·rcases mc ha with rfl | ha
   ·exact .inr ⟨Nat.le_refl _,hz⟩
   ·refine ex11 (List.mem_filterMap.mp ha) fun p hp e=>?_
    exact .inr ⟨Nat.le_of_lt (habove _ _ (lookup_mem e)),(hcell _ _ e).lt⟩
  ·exact .inl ha
 have hsub:∀ a ∈ L::((cellsFrom (L + 1) scope.names []).filterMap fun p=>(cellsFrom (L + 1) scope.names []).lookup p.1) ++ H,a ∈ H ∨ s.heap.objs.size ≤ a:=fun a ha=>(hH₁ a ha).imp id fun q=>hL ▸ q.1
 generalize hHdef:L::((cellsFrom (L + 1) scope.names []).filterMap fun p=>(cellsFrom (L + 1) scope.names []).lookup p.1) ++ H = H₁ at hH₁ hsub
 have hLin:L ∈ H₁:=by rw [← hHdef];simp
 have hcin:∀ y c',(cellsFrom (L + 1) scope.names []).lookup y = some c'→c' ∈ H₁:=fun y c' e=>by
  rw [← hHdef]
  refine List.mem_append_left _ (List.mem_cons_of_mem _ (List.mem_filterMap.mpr ⟨(y,c'),lookup_mem e,e⟩))
 have hHin:∀ a ∈ H,a ∈ H₁:=fun a ha=>by rw [← hHdef];exact List.mem_append_right _ ha
 have st0:Step [] s.heap h₀:=Step.of_keeps hkeep (by rw [hL];exact Nat.le_of_lt hz)
 have g:=I.grown (h':=h₀) (t:=tk) hkeep (by rw [hL];exact Nat.le_of_lt hz)
 have hlow:∀ a ∈ H₁,N0 ≤ a∧a < h₀.objs.size:=fun a ha=>by
  rcases hH₁ a ha with q | q
  ·exact g.hok a q
  ·exact ⟨Nat.le_trans hN q.1,q.2⟩
 have I₁:Inv h₁ H₁ { s with heap:=h₀,toks:=tk }:=
  ⟨g.kp,(I.tab.less hsub).kept (fun b o e _=>hkeep b o e) (fun a q=>(hlow a q).1),g.bare,hlow,g.size,fun p hp=>let ⟨e1,e2,e3⟩:=I.fix p hp;⟨hkeep _ _ e1,(fun q=>(hsub _ q).elim e2 fun z=>Nat.lt_irrefl _ (Nat.lt_of_lt_of_le (Heap.lt_size e1) z)),e3⟩⟩
 have br:BR h₀ H₁ (xs.zip vs).reverse (xs.zip ds).reverse:=(BR.zip (x.step (X:=[]) st0 (fun _ q=>(nomatch q)) hsub)).reverse
 refine k _ { s with heap:=h₀,toks:=tk } H₁ (R.deeper _) rfl rfl rfl rfl rfl rfl (SStep.heap st0 _) I₁ ?_ hsub hHin (Nat.le_of_eq hL) (fun y c' hm=>by rw [hL];exact Nat.le_of_lt (habove y c' hm))
 refine ⟨⟨rfl,hd.fn,rfl,rfl,hN,(fun y c' e=>(hcell y c' e).lt),(fun h=>by obtain ⟨rfl,rfl⟩:=hcal h;exact ⟨rfl,rfl⟩),⟨_,hns,fun y d' e' kd=>?_,fun _ _ e=>by cases e⟩,fun y d' e' kd=>?_,fun _ _ e=>by cases e⟩,⟨hLin,fun y hy=>?_,fun y z c' e1 e2=>?_⟩⟩
 ·refine ex11 (br.lookup e') fun v h1 h2=>?_
  refine ⟨v,?_,h2⟩
  rw [bindL_at (by exact kd),h1];rfl
 ·refine ex11 (br.lookup e') fun v h1 h2=>?_
  have hy:=br.keys e'
  refine ex11 (List.mem_map.mp hy) fun p hp zq1=>?_;subst zq1
  have hkc:scope.names.lookup p.1 = some .cell:=(hkind p.1 (List.of_mem_zip (List.mem_reverse.mp hp)).1).resolve_left kd
  obtain ⟨c',hc'⟩:=Option.isSome_iff_exists.mp (cellsFrom_has scope.names (L + 1) [] (.inl (lookup_mem hkc)))
  have hcl:=hcell _ _ hc'
  have hb':bindC (Env.kindOf { scope:=scope,locals:=L,globals:=mainGlobals,cells:=cellsFrom (L + 1) scope.names [],qual:=q ++ ".<locals>.",func:=some f,code:=.ref c,frame:=some L,builtins:=builtinsNs }) (xs.zip vs) (fun _=>none) p.1 = some v:=by
   rw [bindC_at (by exact kd),h1];rfl
  refine ⟨.inl hkc,c',v,hc',Nat.le_trans hN (Nat.le_of_lt (habove _ _ (lookup_mem hc'))),?_,h2⟩
  rw [← hb'];exact hcl
 ·obtain ⟨c',hc'⟩:=Option.isSome_iff_exists.mp (cellsFrom_has scope.names (L + 1) [] (.inl hy))
  exact ⟨c',_,hc',Nat.le_trans hN (Nat.le_of_lt (habove _ _ (lookup_mem hc'))),hcin _ _ hc',hcell _ _ hc'⟩
 ·exact name_of_addr hapart (lookup_mem e1) (lookup_mem e2)
theorem CallOK.of_defC {st:Stmt}{q:Str}{f c:Addr}{name:Str}{params:Arguments}{body:List Stmt}{scope:Scope}{xs:List Str}{ds:List D}{d:D}(hf:Top1 h₁→FnAt h₁.h st q f c) (hd:DefOf st name params body scope)
  (hb:∀ m (vs:List Value),vs.length = ds.length→bindArgs (fdOf st q c m) ⟨vs,[]⟩ = pure (xs.zip vs)) (hkind:∀ x ∈ xs,scope.names.lookup x = some .local ∨ scope.names.lookup x = some .cell)
  (hbody:SX h₁ r ⟨scope,[]⟩ (xs.zip ds).reverse body fun o=>o = .ret d ∨ (d = .none∧∃ vs,o = .next vs)) (hl:f < N0:=by decide) (ht:f ∉ tabs:=by decide) (hlc:c < N0:=by decide) (htc:c ∉ tabs:=by decide) (hcal:isCal scope = true→c = 111∧q = Str.ofString "add_callers":=by first | exact fun h=>absurd h (by decide) | exact fun _=>⟨rfl,rfl⟩):CallOK h₁ (r + 1) (.ref f) ds d:=by
 intro prog w A s H vs Q E T R I x k
 refine enterC T R I x (hf T) hd hb hkind (fun env s₁ H₁ R₁ ec _ _ _ _ _ st0 I₁ F₁ hsub hHin hloc hcs=>?_) hl ht hlc htc hcal
 refine hbody prog w _ env s₁ H₁ _ _ T R₁ I₁ F₁ fun o fl s' ho st I₂ ok=>?_
 have hw:SStep [] s s':=by
  refine (st0.up.trans st).mono fun y hy=>?_
  rcases wr_mem hy with rfl | ⟨n,hm,e⟩
  ·exact .inr hloc
  ·exact .inr (hcs _ _ (lookup_mem e))
 have I₃:Inv h₁ H s':=I₂.less (fun a q=>.inl (hHin a q)) fun a q=>I₂.hok a (hHin a q)
 rcases ho with rfl | ⟨rfl,vs',rfl⟩
 ·cases fl <;> first | (exact ok.elim) | skip
  have hv:V s'.heap H₁ _ d:=ok
  exact k _ _ hw I₃ (hv.less fun a q=>.inl (hHin a q))
 ·cases fl <;> first | (exact ok.elim) | skip
  exact k _ _ hw I₃ .none
end
end Mine
namespace Mine
variable [Wd]
section
variable {h₁:Gl}{r:Nat}{sc:Sc}{vars:List (Str × D)}
theorem CodeHd.kp {h₁:Gl}{h:Heap}{c P:Addr}(x:CodeHd h₁.h c P) (k:Kp h₁ h) (hl:c < N0) (ht:c ∉ tabs):CodeHd h c P:=by
 refine ex91 x fun o vs file tf flags tg inF text tt e rr=>?_
 exact ⟨o,vs,file,tf,flags,tg,inF,text,tt,k _ _ e hl ht,rr⟩
theorem Top1.withK {h₁:Gl}(T:Top1 h₁) (K:List (Addr × Obj)):Top1 ⟨h₁.h,K⟩:=
 ⟨T.glob,T.bi,T.lim,T.bmod,T.fDiv2,T.fDiv3,T.fI2d,T.fD2i,T.fDpos,T.fDm,T.fInit,T.fRead,T.fGet,T.fPush,T.fAdd,T.fCal,T.fLex,T.fFile,T.fPlay,T.fFree,T.fOver,T.fEntry,T.fLaw,T.hI2d,T.hD2i,T.hCal,T.hLex,T.cls⟩
theorem Inv.withK {h₁:Gl}{H:List Addr}{s:Shared}(I:Inv h₁ H s) (K:List (Addr × Obj)) (hK:∀ p ∈ K,s.heap.get? p.1 = some p.2∧p.1 ∉ H∧N0 ≤ p.1):Inv ⟨h₁.h,K⟩ H s:=
 ⟨I.kp,I.tab,I.bare,I.hok,I.size,hK⟩
theorem Inv.lessK {h₁:Gl}{K:List (Addr × Obj)}{H:List Addr}{s:Shared}(I:Inv ⟨h₁.h,K⟩ H s) (hK:∀ p ∈ h₁.K,p ∈ K):Inv h₁ H s:=
 ⟨I.kp,I.tab,I.bare,I.hok,I.size,fun p hp=>I.fix p (hK p hp)⟩
structure TabSel (t:Addr) (c:Addr) (line col:Int) (q:Str):Prop where
 mem:t ∈ tabs
 get:∀ {h H},TabOK h H→TabAt h H t line col q
 put:∀ {h h' H},TabOK h H→TabAt h' H t line col q→(∀ t' ∈ tabs,t' ≠ t→∀ ps,h.get? t' = some (tbl ps)→h'.get? t' = some (tbl ps))→(∀ b o,N0 ≤ b→h.get? b = some o→h'.get? b = some o)→TabOK h' H
 hd:∀ {h₁},Top1 h₁→CodeHd h₁.h c t
 low:c < N0
 nt:c ∉ tabs
theorem TabAt.move {h h':Heap}{H:List Addr}{t:Addr}{line col:Int}{q:Str}(x:TabAt h H t line col q) (ht:∀ ps,h.get? t = some (tbl ps)→h'.get? t = some (tbl ps)) (hb:∀ b o,N0 ≤ b→h.get? b = some o→h'.get? b = some o):TabAt h' H t line col q:=by
 rcases x with e | ⟨c,o,vs,tk,e1,e2,e3,e4,e6,e7⟩
 ·exact .inl (ht _ e)
 ·exact .inr ⟨c,o,vs,tk,ht _ e1,e2,e3,hb _ _ e3 e4,e6,e7⟩
theorem selI2d:TabSel 30 34 32 4 "_int2digits.<locals>.inner" where
 mem:=by decide
 get x:=x.i2d
 put x y ht hb:=⟨y,x.d2i.move (ht _ (by decide) (by decide)) hb,x.cal.move (ht _ (by decide) (by decide)) hb,x.lex.move (ht _ (by decide) (by decide)) hb⟩
 hd T:=T.hI2d
 low:=by decide
 nt:=by decide
theorem selD2i:TabSel 37 41 47 4 "_digits2int.<locals>.inner" where
 mem:=by decide
 get x:=x.d2i
 put x y ht hb:=⟨x.i2d.move (ht _ (by decide) (by decide)) hb,y,x.cal.move (ht _ (by decide) (by decide)) hb,x.lex.move (ht _ (by decide) (by decide)) hb⟩
 hd T:=T.hD2i
 low:=by decide
 nt:=by decide
theorem selCal:TabSel 107 111 132 42 "add_callers.<locals>.<genexpr>" where
 mem:=by decide
 get x:=x.cal
 put x y ht hb:=⟨x.i2d.move (ht _ (by decide) (by decide)) hb,x.d2i.move (ht _ (by decide) (by decide)) hb,y,x.lex.move (ht _ (by decide) (by decide)) hb⟩
 hd T:=T.hCal
 low:=by decide
 nt:=by decide
theorem selLex:TabSel 114 118 142 17 "_law_lexer.<locals>.<lambda>" where
 mem:=by decide
 get x:=x.lex
 put x y ht hb:=⟨x.i2d.move (ht _ (by decide) (by decide)) hb,x.d2i.move (ht _ (by decide) (by decide)) hb,x.cal.move (ht _ (by decide) (by decide)) hb,y⟩
 hd T:=T.hLex
 low:=by decide
 nt:=by decide
theorem codeAmong_one {pos:Pos}{line col:Int}{c:Value}(h1:line = pos.line) (h2:col = pos.col):codeAmong pos (#[rawInt line,rawInt col,c]:Array Value).toList = some c:=by
 subst h1;subst h2
 show (if ((pos.line:Int) == (pos.line:Int) && (pos.col:Int) == (pos.col:Int)) = true then some c else codeAmong pos []) = some c
 simp
structure FnNew (h:Heap) (H:List Addr) (f c:Addr) (name qual:Str) (params:Arguments) (body:List Stmt) (scope:Scope) (clos:List (Str × Addr)) (fo co:Obj):Prop where
 fg:h.get? f = some fo
 data:∃ doc pm ctv,fo.data = .func (fnX name qual params body scope clos .none .none doc pm none (.ref c) ctv)
 fH:f ∉ H
 fN:N0 ≤ f
 cg:h.get? c = some co
 cdat:∃ vs t,co.data = .fields vs∧vs[1]? = some (.str qual t)
 cH:c ∉ H
 cN:N0 ≤ c
theorem grown_tab {H:List Addr}{s:Shared}{h':Heap}{t c:Addr}{line col:Int}{q:Str}(S:TabSel t c line col q) (I:Inv h₁ H s) (hx:Heap.ExtBut t s.heap h') (hz:s.heap.objs.size ≤ h'.objs.size) (ht:TabAt h' H t line col q) (tk:Nat):Inv h₁ H { s with heap:=h',toks:=tk }:=by
 have hb:∀ b o,N0 ≤ b→s.heap.get? b = some o→h'.get? b = some o:=fun b o l e=>hx b o (fun q=>tabs_lt l (q ▸ S.mem)) e
 exact ⟨fun a o e l n=>hx a o (fun q=>n (q ▸ S.mem)) (I.kp a o e l n),S.put I.tab ht (fun t' _ hne ps e=>hx _ _ hne e) hb,I.bare,fun a q=>⟨(I.hok a q).1,Nat.lt_of_lt_of_le (I.hok a q).2 hz⟩,Nat.le_trans I.size hz,
  fun p hp=>let ⟨e1,e2,e3⟩:=I.fix p hp;⟨hb _ _ e3 e1,e2,e3⟩⟩
theorem step_tab {h h':Heap}{t c:Addr}{line col:Int}{q:Str}(S:TabSel t c line col q) (hx:Heap.ExtBut t h h') (hz:h.objs.size ≤ h'.objs.size) (ht:∀ ps,h.get? t = some (tbl ps)→∃ more,h'.get? t = some (tbl (ps ++ more))):Step [] h h':=
 ⟨fun a o e _ n=>hx a o (fun q=>n (q ▸ S.mem)) e,fun t' ht' ps e=>by
  by_cases hq:t' = t
  ·subst hq;exact ht ps e
  ·exact ⟨#[],by simpa using hx _ _ hq e⟩,hz⟩
theorem makeInner {prog:Program}{w:WW}{A:Around}{s:Shared}{H:List Addr}{t c:Addr}{line col:Int}{qual name:Str}{params:Arguments}{body:List Stmt}{scope:Scope}{env:Env}{pos:Pos}{fl:Nat}{clos:List (Str × Addr)}{Q:Value→Shared→Prop}{E:Value→Shared→Prop}
  (S:TabSel t c line col qual) (T:Top1 h₁) (I:Inv h₁ H s) (hcl:closureFor scope env = pure clos) (hg:env.globals = mainGlobals) (hc:env.code = .ref c) (h1:line = pos.line) (h2:col = pos.col)
  (k:∀ f c' fo co s',SStep [] s s'→Inv h₁ H s'→FnNew s'.heap H f c' name qual params body scope clos fo co→Q (.ref f) s') :
  wpAny (model prog w) A (makeFunction name qual params (.stmts body) scope env [] [] [] pos fl) Q E s:=by
 refine ex14 T.glob fun mg g1 _ _ _ g5=>?_
 refine ex13 T.bmod fun ob b1 b2 b3 b4=>?_
 have hns:s.heap.Ns mainGlobals mg:=I.kp.ns g1 (by decide) (by decide)
 have hb4:s.heap.get? 4 = some ob:=I.kp _ _ b1 (by decide) (by decide)
 have h4t:(4:Addr) ≠ t:=fun q=>absurd (q ▸ S.mem) (by decide)
 have hmt:mainGlobals ≠ t:=fun q=>absurd (q ▸ S.mem) (by decide)
 have hB:s.heap.BuiltinsAt mg t:=⟨4,ob,g5,by decide,by decide,h4t,hb4,b2,b3,b4⟩
 have C:CodeHd s.heap c t:=CodeHd.kp (S.hd T) I.kp S.low S.nt
 rcases S.get I.tab with e | ⟨c',o,vs,tk,e1,e2,e3,e4,e6,e7⟩
 ·refine makeFunction_K (ps:=#[]) hcl hg hns hc C e trivial rfl hmt hB fun c' ctv doc h' tk hx hge hlt hrec htb=>?_
  refine ex43 hrec fun c₂ o vs tt q1 q2 q3 q4=>?_
  cases q1
  have hz:s.heap.objs.size ≤ h'.objs.size:=Nat.le_trans hge (Nat.le_of_lt hlt)
  have hcH:c' ∉ H:=fun q=>Nat.lt_irrefl _ (Nat.lt_of_lt_of_le (I.hok _ q).2 hge)
  have hcN:N0 ≤ c':=Nat.le_trans I.size hge
  have htab:TabAt h' H t line col qual:=.inr ⟨c',o,vs,tt,by rw [htb,h1,h2];rfl,hcH,hcN,q2,q3,q4⟩
  have I₁:=grown_tab (h₁:=h₁) S I hx hz htab tk
  have st₁:Step [] s.heap h':=step_tab S hx hz fun ps e'=>by rw [e] at e';cases e';exact ⟨_,htb⟩
  refine k _ c' _ o _ (SStep.heap (st₁.trans (Step.push _)) tk) (I₁.kept (s':={ s with heap:=h'.push _,toks:=tk }) (fun b o e _=>Heap.get?_push_of_some _ e) (by show h'.objs.size ≤ _;simp) I.bare) ⟨Heap.get?_push_size _ rfl,⟨_,_,_,rfl⟩,?_,?_,Heap.get?_push_of_some _ q2,⟨vs,tt,q3,q4⟩,hcH,hcN⟩
  ·exact fun q=>Nat.lt_irrefl _ (Nat.lt_of_lt_of_le (I.hok _ q).2 hz)
  ·exact Nat.le_trans I.size hz
 ·refine makeFunction_hit hcl hg hns hc C e1 (by trivial) (codeAmong_one h1 h2) hB fun ctv doc h' tk' hk hz=>?_
  have I₁:=I.grown (h':=h') (t:=tk') hk hz
  refine k _ c' _ o _ (SStep.heap ((Step.of_keeps hk hz).trans (Step.push _)) tk') (I₁.kept (s':={ s with heap:=h'.push _,toks:=tk' }) (fun b o e _=>Heap.get?_push_of_some _ e) (by show h'.objs.size ≤ _;simp) I.bare) ⟨Heap.get?_push_size _ rfl,⟨_,_,_,rfl⟩,?_,?_,Heap.get?_push_of_some _ (hk _ _ e4),⟨vs,tk,e6,e7⟩,e2,e3⟩
  ·exact fun q=>Nat.lt_irrefl _ (Nat.lt_of_lt_of_le (I.hok _ q).2 hz)
  ·exact Nat.le_trans I.size hz
theorem closureFor_go {env:Env}{g:Str→Addr}:∀ (names:List (Str × NameKind)) (acc:List (Str × Addr)),(∀ x,(x,NameKind.free) ∈ names→env.cells.lookup x = some (g x)) →
  (forIn (m:=Sem) names acc fun x cs=>match x with
   | (name,kind)=>if (kind == NameKind.free) = true then do
     let a ← cellOf env name
     pure (ForInStep.yield ((name,a)::cs))
    else pure (ForInStep.yield cs)) = pure (((names.filter fun x=>x.2 == .free).map fun x=>(x.1,g x.1)).reverse ++ acc)
 | [],acc,_=>by rfl
 | (y,k)::rest,acc,h=>by
  rw [List.forIn_cons]
  by_cases hk:(k == NameKind.free) = true
  ·have hk':k = .free:=by simpa using hk
   have e1:cellOf env y = pure (g y):=by unfold cellOf;rw [h y (by rw [hk'];exact .head _)]
   have ih:=closureFor_go rest ((y,g y)::acc) fun x hx=>h x (.tail _ hx)
   dsimp only
   rw [if_pos hk,e1]
   refine Eq.trans ih ?_
   simp [List.filter_cons,hk]
  ·have ih:=closureFor_go rest acc fun x hx=>h x (.tail _ hx)
   dsimp only
   rw [if_neg hk]
   refine Eq.trans ih ?_
   simp [List.filter_cons,hk]
theorem closureFor_of {env:Env}{scope:Scope}{g:Str→Addr}(h:∀ x,(x,NameKind.free) ∈ scope.names→env.cells.lookup x = some (g x)):closureFor scope env = pure (((scope.names.filter fun x=>x.2 == .free).map fun x=>(x.1,g x.1)).reverse):=by
 have:=closureFor_go scope.names [] h
 simp only [List.append_nil] at this
 unfold closureFor
 dsimp only
 rw [this,pure_bind]
end
end Mine
namespace Mine
variable [Wd]
section
variable {h₁:Gl}{r:Nat}{sc:Sc}{vars:List (Str × D)}
structure FnK (h₁:Gl) (f:Addr) (name qual:Str) (params:Arguments) (body:List Stmt) (scope:Scope) (clos:List (Str × Addr)):Prop where
 fo:∃ c fo co doc pm ctv vs t,(f,fo) ∈ h₁.K∧fo.data = .func (fnX name qual params body scope clos .none .none doc pm none (.ref c) ctv)∧(c,co) ∈ h₁.K∧co.data = .fields vs∧vs[1]? = some (.str qual t)
 fn:scope.kind = .function
 gen:scope.isGenerator = false
 co:scope.isCoroutine = false
 nocell:∀ x ∈ scope.names,x.2 ≠ .cell
 inj:∀ x y c,clos.lookup x = some c→clos.lookup y = some c→x = y
 incl:∀ x c,clos.lookup x = some c→∃ o,(c,o) ∈ h₁.K
 nocal:isCal scope = false
structure ClosK (h₁:Gl) (scope:Scope) (clos:List (Str × Addr)) (fvars:List (Str × D)) (fv:List (Str × Value)):Prop where
 var:∀ x d,fvars.lookup x = some d→scope.names.lookup x = some .free∧(x == ("__classdict__":Str)) = false∧∃ c v o,clos.lookup x = some c∧(c,o) ∈ h₁.K∧o.data = .cell (some v) ∧
  ∀ h H,(∀ p ∈ h₁.K,h.get? p.1 = some p.2∧p.1 ∉ H∧N0 ≤ p.1)→V h H v d
 raw:∀ x v,fv.lookup x = some v→scope.names.lookup x = some .free∧(x == ("__classdict__":Str)) = false∧∃ c o,clos.lookup x = some c∧(c,o) ∈ h₁.K∧o.data = .cell (some v)
theorem enterK {prog:Program}{w:WW}{A:Around}{s:Shared}{H:List Addr}{f:Addr}{name qual:Str}{params:Arguments}{body:List Stmt}{scope:Scope}{clos:List (Str × Addr)}{xs:List Str}{ds:List D}{vs:List Value}{fvars:List (Str × D)}{fv:List (Str × Value)}{Q:Value→Shared→Prop}{E:Value→Shared→Prop}
  (T:Top1 h₁) (R:Room (r + 1) A) (I:Inv h₁ H s) (x:VL s.heap H vs ds) (hf:FnK h₁ f name qual params body scope clos) (hcl:ClosK h₁ scope clos fvars fv)
  (hb:∀ (c:Addr) (doc pm ctv:Value) (vs:List Value),vs.length = ds.length→bindArgs (fnX name qual params body scope clos .none .none doc pm none (.ref c) ctv) ⟨vs,[]⟩ = pure (xs.zip vs)) (hloc:∀ x ∈ xs,scope.names.lookup x = some .local)
  (k:∀ (env:Env) (s₁:Shared),Room r (A.deeper env)→env.cells = clos→env.locals = s.heap.objs.size→SStep [] s s₁→Inv h₁ (env.locals::H) s₁→Fm ⟨scope,fv⟩ env ((xs.zip ds).reverse ++ fvars) s₁.heap (env.locals::H) →
   wpAny (model prog w) (A.deeper env) (execs body env) (fun fl s'=>Q (match fl with | .ret v=>v | _=>.none) s') (fun e s'=>wpAny (model prog w) (A.deeper env) (leaving env e) (fun _ s''=>E e s'') (fun e' s''=>E e' s'') s') s₁) :
  wpAny (model prog w) A (call (.ref f) vs) Q E s:=by
 refine ex84 hf.fo fun c fo co doc pm ctv cvs ct hfm hfd hcm hcd hcv=>?_
 have kf:s.heap.get? f = some fo:=(I.fix _ hfm).1
 have hlim:s.heap.NoLimit:=by
  refine ex11 T.lim fun mc a b=>?_
  exact ⟨mc,I.kp.ns a (by decide) (by decide),b⟩
 have hcr:s.heap.CodeRec (.ref c) qual:=⟨c,co,cvs,ct,rfl,(I.fix _ hcm).1,hcd,hcv⟩
 have hlen:vs.length = ds.length:=x.length
 with_reducible refine wpAny_call ?_
 refine codeAny_call_def (fd:=fnX name qual params body scope clos .none .none doc pm none (.ref c) ctv) (body:=body) (binds:=xs.zip vs) R.limit kf hfd hlim hcr rfl (BindsTo.of_eq (hb c doc pm ctv vs hlen)) hf.nocell (fun y hy=>hloc y.1 (List.of_mem_zip hy).1) (fun h₀ hns hk=>?_) hf.co hf.gen hf.fn
 have env0:callEnv (fnX name qual params body scope clos .none .none doc pm none (.ref c) ctv) s.heap.objs.size f = { scope:=scope,locals:=s.heap.objs.size,globals:=mainGlobals,cells:=clos,qual:=qual ++ ".<locals>.",func:=some f,code:=.ref c,frame:=some s.heap.objs.size,builtins:=builtinsNs }:=rfl
 rw [env0]
 refine gr (s.heap.objs.size) fun L hL=>?_
 rw [hL] at hns ⊢
 have hz:L < h₀.objs.size:=hns.lt
 have hN:N0 ≤ L:=hL ▸ I.size
 have hf':∀ a ∈ L::H,a ∈ H ∨ s.heap.objs.size ≤ a:=fun a q=>by
  rcases mc q with rfl | q
  ·exact .inr (Nat.le_of_eq hL)
  ·exact .inl q
 have g:=I.grown (h':=h₀) (t:=s.toks + (xs.zip vs).length) hk (by rw [hL];exact Nat.le_of_lt hz)
 have I':Inv h₁ (L::H) { s with heap:=h₀,toks:=s.toks + (xs.zip vs).length }:=by
  have hlow:∀ a ∈ L::H,N0 ≤ a∧a < h₀.objs.size:=fun a q=>by
   rcases mc q with rfl | q
   ·exact ⟨hN,hz⟩
   ·exact g.hok a q
  exact ⟨g.kp,(I.tab.less hf').kept (fun b o e _=>hk b o e) (fun a q=>(hlow a q).1),g.bare,hlow,g.size,fun p hp=>let ⟨e1,e2,e3⟩:=I.fix p hp;⟨hk _ _ e1,(fun q=>(hf' _ q).elim e2 fun z=>Nat.lt_irrefl _ (Nat.lt_of_lt_of_le (Heap.lt_size e1) z)),e3⟩⟩
 have st0:Step [] s.heap h₀:=Step.of_keeps hk (by rw [hL];exact Nat.le_of_lt hz)
 have br:BR h₀ (L::H) (xs.zip vs).reverse (xs.zip ds).reverse:=(BR.zip (x.step (X:=[]) st0 (fun _ q=>(nomatch q)) hf')).reverse
 refine k _ _ (R.deeper _) rfl hL.symm (SStep.heap st0 _) I' ?_
 refine ⟨⟨rfl,hf.fn,rfl,rfl,hN,(fun y c' e=>let ⟨o,ho⟩:=hf.incl y c' e;Heap.lt_size (I'.fix _ ho).1),(fun h=>by have h':isCal scope = true:=h;rw [hf.nocal] at h';cases h'),⟨_,hns,fun y d' e kd=>?_,fun y v e kd=>?_⟩,fun y d' e kd=>?_,fun y v e _=>?_⟩,⟨.head _,fun y hy=>absurd rfl (hf.nocell _ hy),hf.inj⟩⟩
 ·rw [lookup_app] at e
  cases q:(xs.zip ds).reverse.lookup y with
  | some d''=>
   rw [q] at e;cases e
   exact br.lookup q
  | none=>
   rw [q] at e
   have kd':scope.names.lookup y = some .local:=kd
   have:=(hcl.var y d' e).1
   rw [kd'] at this;cases this
 ·have kd':scope.names.lookup y = some .local:=kd
  have:=(hcl.raw y v e).1
  rw [kd'] at this;cases this
 ·rw [lookup_app] at e
  cases q:(xs.zip ds).reverse.lookup y with
  | some d''=>
   exfalso
   have hy:=br.keys q
   refine ex11 (List.mem_map.mp hy) fun p hp zq1=>?_;subst zq1
   exact kd (hloc p.1 (List.of_mem_zip (List.mem_reverse.mp hp)).1)
  | none=>
   rw [q] at e
   refine ex0233 (hcl.var y d' e) fun k1 k2 c' v o e1 e2 e3 e4=>?_
   have f1:=I'.fix _ e2
   exact ⟨.inr ⟨k1,k2⟩,c',v,e1,f1.2.2,⟨o,f1.1,e3⟩,e4 _ _ I'.fix⟩
 ·refine ex0222 (hcl.raw y v e) fun k1 k2 c' o e1 e2 e3=>?_
  have f1:=I'.fix _ e2
  exact ⟨.inr ⟨k1,k2⟩,c',e1,f1.2.2,⟨o,f1.1,e3⟩⟩
theorem CallOK.of_inner {f:Addr}{name qual:Str}{params:Arguments}{body:List Stmt}{scope:Scope}{clos:List (Str × Addr)}{xs:List Str}{ds:List D}{fvars:List (Str × D)}{fv:List (Str × Value)}{d:D}
  (hf:FnK h₁ f name qual params body scope clos) (hcl:ClosK h₁ scope clos fvars fv)
  (hb:∀ (c:Addr) (doc pm ctv:Value) (vs:List Value),vs.length = ds.length→bindArgs (fnX name qual params body scope clos .none .none doc pm none (.ref c) ctv) ⟨vs,[]⟩ = pure (xs.zip vs)) (hloc:∀ x ∈ xs,scope.names.lookup x = some .local)
  (hbody:SX h₁ r ⟨scope,fv⟩ ((xs.zip ds).reverse ++ fvars) body fun o=>o = .ret d ∨ (d = .none∧∃ vs,o = .next vs)):CallOK h₁ (r + 1) (.ref f) ds d:=by
 intro prog w A s H vs Q E T R I x k
 refine enterK T R I x hf hcl hb hloc fun env s₁ R₁ ec el st0 I₁ F₁=>?_
 refine hbody prog w _ env s₁ _ _ _ T R₁ I₁ F₁ fun o fl s' ho st I₂ ok=>?_
 have hw:SStep [] s s':=by
  refine (st0.up.trans st).mono fun y hy=>?_
  rcases wr_mem hy with rfl | ⟨n,hm,_⟩
  ·exact .inr (Nat.le_of_eq el.symm)
  ·exact absurd rfl (hf.nocell _ hm)
 have I₃:Inv h₁ H s':=I₂.less (fun a q=>.inl (.tail _ q)) fun a q=>I₂.hok a (.tail _ q)
 rcases ho with rfl | ⟨rfl,vs',rfl⟩
 ·cases fl <;> first | (exact ok.elim) | skip
  have hv:V s'.heap (env.locals::H) _ d:=ok
  exact k _ _ hw I₃ (hv.less fun a q=>.inl (.tail _ q))
 ·cases fl <;> first | (exact ok.elim) | skip
  exact k _ _ hw I₃ .none
theorem NameIs.raw {x:Str}{v:Value}(hx:sc.fv.lookup x = some v) (hd:(x == ("__debug__":Str)) = false:=by rfl):NameIs h₁ sc x v:=by
 intro prog w A env s H vars pos Q E T I O k
 by_cases hl:sc.names.lookup x = some .local
 ·refine ex12 O.ns fun m hm _ hr=>?_
  with_reducible exact wpAny_Name (wpAny_loadName_local O.kfun (O.kindOf hl) hm (hr x v hx hl) k) hd
 refine ex0112 (O.raw x v hx hl) fun q c e1 e2 e3=>?_
 rcases q with q | ⟨q,q2⟩
 ·with_reducible exact wpAny_Name (wpAny_loadName_cell O.kfun (O.kindOf q) e1 e3 k) hd
 ·with_reducible exact wpAny_Name (wpAny_loadName_free O.kfun (O.kindOf q) e1 e3 k q2) hd
theorem EVP.callK {x:Str}{f:Addr}{p pos:Pos}{args:List Expr}{ds:List D}{d:D}{name qual:Str}{params:Arguments}{body:List Stmt}{scope:Scope}{clos:List (Str × Addr)}(hn:NameIs h₁ sc x (.ref f)) (hf:FnK h₁ f name qual params body scope clos) (ha:EVS h₁ r sc vars args ds) (hc:CallOK h₁ r (.ref f) ds d):EVP h₁ r sc vars (.Call (.Name x p) args [] pos) d:=by
 intro prog w A env s H Q E T R I O k
 with_reducible refine wpAny_Call_NameR (hn prog w A env s H vars p _ E T I O ?_)
 have hp:((backTo pos (starEach args env)).any (·.1) || ([]:List (Option Str × Sem Value)).any (·.1.isNone)) = false:=by rw [ha.1 env pos];rfl
 refine ex82 hf.fo fun c fo co doc pm ctv cvs ct hfm hfd _=>?_
 have hk:∀ (h:Heap),h.get? f = some fo→∃ k,(k = Keeper.frame ∨ k = Keeper.machine ∨ k = Keeper.boundFrame)∧Looks (model prog w) h (keeperOf (.ref f)) k:=by
  intro h e
  refine ⟨.frame,.inl rfl,(Looks.ld (part:=none) e).andThen ?_⟩
  rw [hfd]
  exact .now
 with_reducible refine callWith_of (P:=fun h=>h.get? f = some fo) hp hk (evalArgs_of (ha.1 env pos) (ha.2 prog w A env pos s H _ E T R I O fun vs s₁ st I₁ hvs=>⟨(I₁.fix _ hfm).1,?_⟩))
 show wpAny (model prog w) A (PySem.call (.ref f) vs) Q E s₁
 with_reducible refine hc prog w A s₁ H vs Q E T R I₁ hvs fun v s₂ st₂ I₂ hv=>?_
 exact k _ _ (st.trans st₂) I₂ hv
end
end Mine
namespace Mine
variable [Wd]
section
variable {h₁:Gl}{r:Nat}{sc:Sc}{vars:List (Str × D)}
noncomputable def plainSlice:Expr→Bool
 | .Slice ..=>false
 | _=>true
theorem subscripted_plain {slice:Expr}{o i:Value}(h:plainSlice slice = true):subscripted slice false o i = operate [o,i] (getItem o i):=by
 cases slice <;> first | rfl | cases h
theorem subscriptTail_any {prog:Program}{w:WW}{A:Around}{E:Value→Shared→Prop}{s:Shared}{value slice:Expr}{o i:Value}{T id:String}{Q:Value→Shared→Prop}(hT:s.TypeIs o T)
  (hl:typeLookup (.type T) "__getitem__" = pure (some (.builtin id))) (h:wpAny (model prog w) A (getItem o i) Q E s) (hs:plainSlice slice = true) :
  wpAny (model prog w) A (subscriptTail value slice o i) Q E s:=by
 unfold subscriptTail
 refine wpAny_bind ?_
 rw [getitemInPython_of_ne hT.not_modules]
 refine wpAny_bind (wpAny_specialOf hT hl ?_)
 have fin:wpAny (model prog w) A (subscripted slice false o i) (fun r s₃=>wpAny (model prog w) A (letTemporaryGo value o r >>= fun _=>pure r) Q E s₃) E s:=by
  rw [subscripted_plain hs]
  exact wpAny_operating (wpAny_mono h (fun r s₃ h₃=>wpAny_bind (wpAny_letTemporaryGo (wpAny_pure h₃))) fun _ _ x=>x)
 first
  | exact wpAny_pure (wpAny_bind fin)
  | exact wpAny_bind (wpAny_pure (wpAny_bind fin))
  | exact wpAny_bind fin
abbrev GetOK (d0 di d:D):Prop:=
 ∀ (prog:Program) (w:WW) (A:Around) (s:Shared) (H:List Addr) (value slice:Expr) (v i:Value) (Q:Value→Shared→Prop) (E:Value→Shared→Prop),
  plainSlice slice = true→V s.heap H v d0→V s.heap H i di→(∀ x t,V s.heap H x d→Q x { s with toks:=t })→wpAny (model prog w) A (subscriptTail value slice v i) Q E s
theorem EVP.item {value slice:Expr}{pos:Pos}{d0 di d:D}(hv:EVP h₁ r sc vars value d0) (hi:EVP h₁ r sc vars slice di) (hg:GetOK d0 di d) (hp:plainSlice slice = true:=by rfl):EVP h₁ r sc vars (.Subscript value slice pos) d:=by
 intro prog w A env s H Q E T R I O k
 with_reducible refine Subscript_ (hv prog w A env s H _ E T R I O fun v s₁ st I₁ x=>?_)
 with_reducible refine hi prog w A env s₁ H _ E T R I₁ (O.grow st.st) fun i s₂ st₂ I₂ y=>?_
 with_reducible refine hg prog w A s₂ H value slice v i Q E hp (x.grow st₂.st) y fun z t hz=>?_
 exact k _ _ (st.trans (st₂.trans (SStep.toks s₂ t))) (I₂.toks t) hz
theorem GetOK.list {xs:List D}{i:Nat}{d:D}(hi:xs[i]? = some d) (hl:i < 2 ^ 63):GetOK (.list xs) (.int (i:Int)) d:=by
 intro prog w A s H value slice v iv Q E hp x y k
 refine ex46 x.asList fun a o vs n zq1 e c dd _ _ l'=>?_;subst zq1
 obtain ⟨_,rfl⟩:=V.intI y
 refine ex11 (l'.get hi) fun u e1 e2=>?_
 have hL:s.heap.IsList a vs:=⟨o,e,c,_,dd⟩
 refine subscriptTail_any hL.typeIs slot_list_getitem.lookup (wpAny_getItem_list (x:=u) hL (by lia) (by lia) (by simpa using e1) ?_) hp
 exact k u s.toks e2
theorem GetOK.tuple {xs:List D}{i:Nat}{d:D}(hi:xs[i]? = some d) (hl:i < 2 ^ 63):GetOK (.tuple xs) (.int (i:Int)) d:=by
 intro prog w A s H value slice v iv Q E hp x y k
 refine ex46 x.asTuple fun a o vs n zq1 e c dd _ _ l'=>?_;subst zq1
 obtain ⟨_,rfl⟩:=V.intI y
 refine ex11 (l'.get hi) fun u e1 e2=>?_
 have hL:IsTup s.heap a vs:=⟨o,e,c,_,dd⟩
 have hj:seqIndex? (i:Int) vs.size = some i:=by
  have hlt:i < vs.size:=by
   have:=List.getElem?_eq_some_iff.mp e1
   obtain ⟨h1,_⟩:=this
   simpa using h1
  have:=seqIndex_of (k:=(i:Int)) (n:=vs.size) (by lia) (by lia)
  simpa using this
 refine subscriptTail_any hL.typeIs slot_tuple_getitem.lookup (PyProof.Rows.getItem_tuple (x:=u) hL (by lia) (by lia) hj (by simpa using e1) ?_) hp
 exact k u s.toks e2
theorem CallOK.lenList {xs:List D}(hl:(xs.length:Int) < 2 ^ 63):CallOK h₁ r (.builtin "len") [.list xs] (.int (xs.length:Int)):=by
 intro prog w A s H vs Q E T R I x k
 replace x:=VL.consI x
 refine ex22 x fun _ _ zq1 x1 x2=>?_;subst zq1
 ·
  obtain rfl:=VL.nilI x2
  refine ex46 x1.asList fun a o vs n zq1 e c dd _ _ l'=>?_;subst zq1
  have hL:s.heap.IsList a vs:=⟨o,e,c,_,dd⟩
  have hz:vs.size = xs.length:=by have:=l'.length;simpa using this
  with_reducible refine PyProof.Rows.len_list hL (by rw [hz];exact hl) ?_
  have e:(vs.size:Int) = (xs.length:Int):=by rw [hz]
  rw [e]
  exact k _ _ (SStep.toks s _) (I.toks _) (.int _ _)
theorem mulOk {a b:Nat}(h:bl a + bl b ≤ 134217728):IntMulOk (a:Int) (b:Int):=by
 unfold IntMulOk
 intro q
 rw [Bool.and_eq_true] at q
 have q2:=q.2
 rw [bits_nat,bits_nat] at q2
 unfold Builtin.Int.intTooBig at q2
 have hb:bitsLine = 134217728:=rfl
 rw [decide_eq_true_eq,hb] at q2
 lia
theorem IOp.mulN {a b:Nat}(h:bl a + bl b ≤ 134217728):IOp .Mult (a:Int) (b:Int) ((a * b:Nat):Int):=by
 have e:(a:Int) * (b:Int) = ((a * b:Nat):Int):=by simp
 with_reducible exact IOp.as (IOp.mul (mulOk h)) e
end
end Mine
namespace Mine
variable [Wd]
section
variable {h₁:Gl}{r:Nat}{sc:Sc}{vars:List (Str × D)}{env:Env}{H:List Addr}
theorem storeRawC {prog:Program}{w:WW}{A:Around}{s:Shared}{x:Str}{v:Value}{Q:Unit→Shared→Prop}{E:Value→Shared→Prop}(hk:sc.names.lookup x = some .cell) (I:Inv h₁ H s) (F:Fm sc env vars s.heap H) (hx:vars.lookup x = none)
  (k:∀ s' c,env.cells.lookup x = some c→SStep [c] s s'→Inv h₁ H s'→Fm ⟨sc.toScope,(x,v)::sc.fv⟩ env vars s'.heap H→Q () s'):wpAny (model prog w) A (storeName env x v) Q E s:=by
 obtain ⟨O,W⟩:=F
 refine ex12 O.ns fun m hm hvs hrs=>?_
 refine ex23 (W.cel x (lookup_mem hk)) fun c v₀ c1 c2 c3 c4=>?_
 with_reducible refine wpAny_storeName_cell O.kfun (O.kindOf hk) c1 c4 fun h' hc' hs'=>?_
 have st1:Step [c] s.heap h':=Step.of_sameBut hs' (.head _) c2
 have sub:∀ y ∈ [c],y ∈ H:=fun y q=>by rcases ms q with rfl;exact c3
 refine k _ c c1 (SStep.heap' st1) (I.kept (fun b o e nb=>(hs'.2 b (fun q=>nb (q ▸ c3))).trans e) (Nat.le_of_eq hs'.1.symm) I.bare) ⟨⟨O.scope,O.kind,O.glob,O.bi,O.low,fun n c e=>Nat.lt_of_lt_of_le (O.lt n c e) (Nat.le_of_eq hs'.1.symm),O.code,⟨m,hm.sameBut hs' (Ne.symm (cell_ne_ns c4 hm)),fun y d' e kd=>?_,fun y u e kd=>?_⟩,fun y d' e kd=>?_,fun y u e kd=>?_⟩,⟨W.loc,fun y hy=>?_,W.inj⟩⟩
 ·refine ex11 (hvs y d' e kd) fun u e1 e2=>?_
  exact ⟨u,e1,e2.step st1 sub fun _ q=>.inl q⟩
 ·have e':List.lookup y ((x,v)::sc.fv) = some u:=e
  rw [List.lookup_cons] at e'
  by_cases hy:(y == x) = true
  ·rw [beq_iff_eq.mp hy] at kd
   have kd':sc.names.lookup x = some .local:=kd
   rw [hk] at kd';cases kd'
  ·simp only [hy] at e'
   exact hrs y u e' kd
 ·refine ex0123 (O.cel y d' e kd) fun q c' u e1 e2 e3 e4=>?_
  have hne:c' ≠ c:=fun q=>by
   have:=W.inj y x c (q ▸ e1) c1
   subst this;rw [hx] at e;cases e
  exact ⟨q,c',u,e1,e2,e3.sameBut hs' hne,e4.step st1 sub fun _ q=>.inl q⟩
 ·have e':List.lookup y ((x,v)::sc.fv) = some u:=e
  rw [List.lookup_cons] at e'
  by_cases hy:(y == x) = true
  ·rw [hy] at e';cases e'
   have:=beq_iff_eq.mp hy;subst this
   exact ⟨.inl hk,c,c1,c2,hc'⟩
  ·simp only [hy] at e'
   refine ex0112 (O.raw y u e' kd) fun q c' e1 e2 e3=>?_
   have hne:c' ≠ c:=fun q=>by
    have:=W.inj y x c (q ▸ e1) c1
    subst this;simp at hy
   exact ⟨q,c',e1,e2,e3.sameBut hs' hne⟩
 ·by_cases hyx:y = x
  ·subst hyx;exact ⟨c,_,c1,c2,c3,hc'⟩
  ·refine ex23 (W.cel y hy) fun c' v₁ e1 e2 e3 e4=>?_
   have hne:c' ≠ c:=fun q=>hyx (W.inj y x c (q ▸ e1) c1)
   exact ⟨c',v₁,e1,e2,e3,e4.sameBut hs' hne⟩
theorem storeRawL {prog:Program}{w:WW}{A:Around}{s:Shared}{x:Str}{v:Value}{Q:Unit→Shared→Prop}{E:Value→Shared→Prop}(hk:sc.names.lookup x = some .local) (I:Inv h₁ H s) (F:Fm sc env vars s.heap H) (hx:vars.lookup x = none)
  (k:∀ s',SStep [env.locals] s s'→Inv h₁ H s'→Fm ⟨sc.toScope,(x,v)::sc.fv⟩ env vars s'.heap H→Q () s'):wpAny (model prog w) A (storeName env x v) Q E s:=by
 obtain ⟨O,W⟩:=F
 refine ex12 O.ns fun m hm hvs hrs=>?_
 have hp:(env.scope.kind == .class || (env.scope.kind == .module && env.locals != env.globals)) = false:=by rw [O.kfun];rfl
 with_reducible refine wpAny_storeName_local (O.kindOf hk) hm (fun h' hn' hs'=>?_) hp
 have st1:Step [env.locals] s.heap h':=Step.of_sameBut hs' (.head _) O.low
 have sub:∀ y ∈ [env.locals],y ∈ H:=fun y q=>by rcases ms q with rfl;exact W.loc
 have keep:∀ y c z,env.cells.lookup y = some c→s.heap.IsCell c z→h'.IsCell c z:=fun y c z _ hc=>hc.sameBut hs' (cell_ne_ns hc hm)
 refine k _ (SStep.heap st1 _) (I.kept (fun b o e nb=>(hs'.2 b (fun q=>nb (q ▸ W.loc))).trans e) (Nat.le_of_eq hs'.1.symm) I.bare) ⟨⟨O.scope,O.kind,O.glob,O.bi,O.low,fun n c e=>Nat.lt_of_lt_of_le (O.lt n c e) (Nat.le_of_eq hs'.1.symm),O.code,⟨_,hn',fun y d' e kd=>?_,fun y u e kd=>?_⟩,fun y d' e kd=>?_,fun y u e kd=>?_⟩,⟨W.loc,fun y hy=>?_,W.inj⟩⟩
 ·have hy:y ≠ x:=fun q=>by subst q;rw [hx] at e;cases e
  refine ex11 (hvs y d' e kd) fun u e1 e2=>?_
  exact ⟨u,by simpa [hy] using e1,e2.step st1 sub fun _ q=>.inl q⟩
 ·have e':List.lookup y ((x,v)::sc.fv) = some u:=e
  rw [List.lookup_cons] at e'
  by_cases hy:(y == x) = true
  ·rw [hy] at e';cases e'
   rw [beq_iff_eq.mp hy];simp
  ·simp only [hy] at e'
   have hy':y ≠ x:=fun q=>hy (by simp [q])
   simpa [hy'] using hrs y u e' kd
 ·refine ex0123 (O.cel y d' e kd) fun q c u e1 e2 e3 e4=>?_
  exact ⟨q,c,u,e1,e2,keep y c _ e1 e3,e4.step st1 sub fun _ q=>.inl q⟩
 ·have e':List.lookup y ((x,v)::sc.fv) = some u:=e
  rw [List.lookup_cons] at e'
  by_cases hy:(y == x) = true
  ·rw [beq_iff_eq.mp hy] at kd
   exact absurd hk kd
  ·simp only [hy] at e'
   refine ex0112 (O.raw y u e' kd) fun q c e1 e2 e3=>?_
   exact ⟨q,c,e1,e2,keep y c _ e1 e3⟩
 ·refine ex23 (W.cel y hy) fun c v₀ e1 e2 e3 e4=>?_
  exact ⟨c,v₀,e1,e2,e3,keep y c _ e1 e4⟩
noncomputable def freeOf (scope:Scope):List Str:=(scope.names.filter fun x=>x.2 == .free).map (·.1)
noncomputable def closOf (env:Env) (scope:Scope):List (Str × Addr):=((scope.names.filter fun x=>x.2 == .free).map fun x=>(x.1,(env.cells.lookup x.1).getD 0)).reverse
noncomputable def cellsK (env:Env) (h:Heap) (names:List Str):List (Addr × Obj):=names.filterMap fun x=>(env.cells.lookup x).bind fun c=>(h.get? c).map fun o=>(c,o)
theorem cellsK_mem {env:Env}{h:Heap}{names:List Str}{p:Addr × Obj}(hp:p ∈ cellsK env h names):∃ x ∈ names,env.cells.lookup x = some p.1∧h.get? p.1 = some p.2:=by
 refine ex11 (List.mem_filterMap.mp hp) fun x hx e=>?_
 cases q:env.cells.lookup x with
 | none=>rw [q] at e;cases e
 | some c=>
  rw [q] at e
  cases q2:h.get? c with
  | none=>simp [q2] at e
  | some o=>simp [q2] at e;subst e;exact ⟨x,hx,q,q2⟩
theorem cellsK_in {env:Env}{h:Heap}{names:List Str}{x:Str}{c:Addr}{o:Obj}(hx:x ∈ names) (e:env.cells.lookup x = some c) (e2:h.get? c = some o):(c,o) ∈ cellsK env h names:=
 List.mem_filterMap.mpr ⟨x,hx,by rw [e];simp [e2]⟩
theorem lookup_map_key {β γ:Type}{x:Str}(g:Str→γ):∀ {l:List (Str × β)},x ∈ l.map (·.1)→(l.map fun p=>(p.1,g p.1)).lookup x = some (g x)
 | [],h=>by cases h
 | (y,b)::l,h=>by
  rw [List.map_cons,List.lookup_cons]
  by_cases hq:x = y
  ·subst hq;simp
  ·have:(x == y) = false:=by simpa using hq
   rw [this]
   simp only [List.map_cons,List.mem_cons,hq,false_or] at h
   exact lookup_map_key g h
theorem closOf_lookup {env:Env}{scope:Scope}{x:Str}(hx:x ∈ freeOf scope):(closOf env scope).lookup x = some ((env.cells.lookup x).getD 0):=by
 unfold closOf
 rw [← List.map_reverse]
 refine lookup_map_key (fun x=>(env.cells.lookup x).getD 0) ?_
 rw [List.map_reverse,List.mem_reverse]
 exact hx
theorem closOf_names {env:Env}{scope:Scope}{x:Str}{c:Addr}(e:(closOf env scope).lookup x = some c):x ∈ freeOf scope:=by
 have:=lookup_mem e
 unfold closOf at this
 rw [List.mem_reverse] at this
 refine ex11 (List.mem_map.mp this) fun p hp q=>?_
 cases q
 exact List.mem_map_of_mem hp
theorem innerDef {prog:Program}{w:WW}{A:Around}{s:Shared}{t c:Addr}{line col:Int}{qual name:Str}{params:Arguments}{body:List Stmt}{iscope:Scope}{pos:Pos}{Q:Flow→Shared→Prop}{E:Value→Shared→Prop}
  (S:TabSel t c line col qual) (T:Top1 h₁) (I:Inv h₁ H s) (F:Fm sc env vars s.heap H) (hfree:∀ x ∈ freeOf iscope,sc.names.lookup x = some .cell) (hc:env.code = .ref c) (hq:env.qual ++ name = qual) (hname:sc.names.lookup name = some .cell) (hvn:vars.lookup name = none)
  (h1:line = pos.line) (h2:col = pos.col) (hd0:params.defaults = []) (hk0:params.kw_defaults = []) (ha:∀ env,annTrees params none env = []) (kfn:iscope.kind = .function) (kgen:iscope.isGenerator = false) (kco:iscope.isCoroutine = false) (knc:∀ x ∈ iscope.names,x.2 ≠ .cell)
  (extra:List (Addr × Obj)) (hex:∀ p ∈ extra,s.heap.get? p.1 = some p.2∧p.1 ∉ H∧N0 ≤ p.1)
  (k:∀ (f:Addr) (K:List (Addr × Obj)) (H₂:List Addr) (s':Shared) (cI:Addr),env.cells.lookup name = some cI→SStep [cI] s s'→Inv ⟨h₁.h,K⟩ H₂ s'→(∀ a ∈ H₂,a ∈ H)→(∀ a ∈ H,a ∈ H₂ ∨ ∃ x,env.cells.lookup x = some a) →
   (∀ p ∈ h₁.K,p ∈ K)→(∀ p ∈ extra,p ∈ K)→(∀ x ∈ freeOf iscope,∃ c o,env.cells.lookup x = some c∧(closOf env iscope).lookup x = some c∧(c,o) ∈ K∧s'.heap.get? c = some o) →
   FnK ⟨h₁.h,K⟩ f name qual params body iscope (closOf env iscope)→EnvOK ⟨sc.toScope,(name,.ref f)::sc.fv⟩ env vars s'.heap H₂→Q .next s') (knl:isCal iscope = false:=by rfl) :
  wpAny (model prog w) A (exec (.FunctionDef name params body [] none [] iscope none name pos) env) Q E s:=by
 refine nestDef_K hd0 hk0 (ha env) ?_
 have hqn:qualnameIn env name name = qual:=by
  unfold qualnameIn
  rw [show env.kindOf name = some .cell from F.ok.kindOf hname]
  exact hq
 rw [hqn]
 have hlook:∀ x ∈ freeOf iscope,∃ c,env.cells.lookup x = some c∧c ∈ H∧N0 ≤ c:=fun x hx=>by
  refine ex23 (F.w.cel x (lookup_mem (hfree x hx))) fun c v₀ e1 e2 e3 e4=>?_
  exact ⟨c,e1,e3,e2⟩
 have hcl:closureFor iscope env = pure (closOf env iscope):=closureFor_of (g:=fun x=>(env.cells.lookup x).getD 0) fun x hx=>by
  refine ex11 (hlook x (List.mem_map.mpr ⟨(x,.free),List.mem_filter.mpr ⟨hx,rfl⟩,rfl⟩)) fun c e _=>?_
  rw [e];rfl
 refine makeInner S T I hcl F.ok.glob hc h1 h2 fun f c' fo co s₁ st₁ I₁ N=>?_
 refine storeRawC hname I₁ (F.grow st₁.st) hvn fun s₂ cI hcI st₂ I₂ F₂=>?_
 have hcIH:cI ∈ H:=by
  refine ex23 (F.w.cel name (lookup_mem hname)) fun c₂ v₀ e1 e2 e3 e4=>?_
  rw [hcI] at e1;cases e1;exact e3
 have keep2:∀ b o,s₁.heap.get? b = some o→b ∉ H→N0 ≤ b→s₂.heap.get? b = some o:=fun b o e n l=>st₂.st.keep b o e (fun q=>n (by rcases ms q with rfl;exact hcIH)) (tabs_lt l)
 let cs:=cellsK env s₂.heap (freeOf iscope)
 let K:=(f,fo)::(c',co)::cs ++ extra ++ h₁.K
 let H₂:=H.filter fun a=>!(cs.any fun p=>p.1 == a)
 have hsub:∀ a ∈ H₂,a ∈ H:=fun a ha=>(List.mem_filter.mp ha).1
 have hcs:∀ p ∈ cs,p.1 ∉ H₂:=fun p hp q=>by
  have h2:=(List.mem_filter.mp q).2
  rw [Bool.not_eq_true',List.any_eq_false] at h2
  exact h2 p hp (by simp)
 have hK:∀ p ∈ K,s₂.heap.get? p.1 = some p.2∧p.1 ∉ H₂∧N0 ≤ p.1:=fun p hp=>by
  rcases List.mem_append.mp hp with hp | hp
  ·rcases List.mem_append.mp hp with hp | hp
   ·rcases mc hp with rfl | hp
    ·exact ⟨keep2 _ _ N.fg N.fH N.fN,fun q=>N.fH (hsub _ q),N.fN⟩
    ·rcases mc hp with rfl | hp
     ·exact ⟨keep2 _ _ N.cg N.cH N.cN,fun q=>N.cH (hsub _ q),N.cN⟩
     ·refine ex12 (cellsK_mem hp) fun x hx e1 e2=>?_
      refine ex12 (hlook x hx) fun c₂ e3 _ e4=>?_
      rw [e1] at e3;cases e3
      exact ⟨e2,hcs p hp,e4⟩
   ·refine ex02 (hex p hp) fun e1 e2 e3=>?_
    exact ⟨keep2 _ _ (st₁.st.keep _ _ e1 (fun q=>nomatch q) (tabs_lt e3)) e2 e3,fun q=>e2 (hsub _ q),e3⟩
  ·refine ex02 (I₂.fix p hp) fun e1 e2 e3=>?_
   exact ⟨e1,fun q=>e2 (hsub _ q),e3⟩
 have I₃:Inv h₁ H₂ s₂:=I₂.less (fun a q=>.inl (hsub a q)) fun a q=>I₂.hok a (hsub a q)
 refine k f K H₂ s₂ cI hcI (st₁.up.trans st₂) (I₃.withK K hK) hsub (fun a ha=>?_) (fun p hp=>List.mem_append_right _ hp) (fun p hp=>List.mem_append_left _ (List.mem_append_right _ hp)) (fun x hx=>?_) ⟨?_,kfn,kgen,kco,knc,fun x y c₂ e1 e2=>?_,fun x c₂ e1=>?incl,knl⟩ ?_
 ·by_cases hq:(cs.any fun p=>p.1 == a) = true
  ·refine ex11 (List.any_eq_true.mp hq) fun p hp e=>?_
   refine ex12 (cellsK_mem hp) fun x hx e1 e2=>?_
   rw [beq_iff_eq.mp e] at e1
   exact .inr ⟨x,e1⟩
  ·exact .inl (List.mem_filter.mpr ⟨ha,by rw [Bool.not_eq_true] at hq;rw [hq];rfl⟩)
 ·refine ex12 (hlook x hx) fun c₂ e1 e2 e3=>?_
  refine ex23 (F₂.w.cel x (lookup_mem (hfree x hx))) fun c₃ v₀ g1 g2 g3 zq1=>?_;obtain ⟨o,g4,g5⟩:=zq1
  rw [e1] at g1;cases g1
  refine ⟨c₂,o,e1,?_,?_,g4⟩
  ·rw [closOf_lookup hx,e1];rfl
  ·exact List.mem_append_left _ (List.mem_append_left _ (.tail _ (.tail _ (cellsK_in hx e1 g4))))
 ·refine ex30 N.data fun doc pm ctv e=>?_
  refine ex21 N.cdat fun vs tt e2 e3=>?_
  exact ⟨c',fo,co,doc,pm,ctv,vs,tt,.head _,e,.tail _ (.head _),e2,e3⟩
 ·have m1:=closOf_names e1
  have m2:=closOf_names e2
  rw [closOf_lookup m1] at e1
  rw [closOf_lookup m2] at e2
  refine ex11 (hlook x m1) fun a1 f1 _=>?_
  refine ex11 (hlook y m2) fun a2 f2 _=>?_
  rw [f1] at e1;rw [f2] at e2
  cases e1;cases e2
  exact F.w.inj x y _ f1 f2
 case incl=>
  have m1:=closOf_names e1
  rw [closOf_lookup m1] at e1
  refine ex12 (hlook x m1) fun c₃ f1 _ _=>?_
  rw [f1] at e1;cases e1
  refine ex23 (F₂.w.cel x (lookup_mem (hfree x m1))) fun c₄ v₀ g1 g2 g3 zq1=>?_;obtain ⟨o,g4,g5⟩:=zq1
  rw [f1] at g1;cases g1
  exact ⟨o,List.mem_append_left _ (List.mem_append_left _ (.tail _ (.tail _ (cellsK_in m1 f1 g4))))⟩
 ·exact F₂.ok.step (X:=[]) (Step.refl _ _) (fun _ q=>nomatch q) (fun q=>nomatch q) (fun _ _ _ q=>nomatch q) fun a q=>.inl (hsub a q)
end
end Mine
namespace Mine
variable [Wd]
section
variable {h₁:Gl}{r:Nat}{sc:Sc}{vars:List (Str × D)}{env:Env}{H:List Addr}
abbrev natL (l:List Nat):List D:=l.map fun (d:Nat)=>PyData.int (d:Int)
theorem VL.ints {h:Heap}{H H':List Addr}{vs:List Value}{ds:List Nat}(x:VL h H vs (natL ds)) (h':Heap):VL h' H' vs (natL ds):=
 VL.ind (M:=fun vs ds=>(∀ d ∈ ds,∃ i,d = PyData.int i)→VL h' H' vs ds) (fun _=>.nil) (fun v d vs ds a _ ih k=>by
  obtain ⟨i,rfl⟩:=k _ (.head _)
  obtain ⟨t,rfl⟩:=V.intI a
  exact .cons (.int _ _) (ih fun d q=>k d (.tail _ q))) x fun d q=>(List.mem_map.mp q).elim fun n e=>⟨n,e.2.symm⟩
theorem run1 {prog:Program}{w:WW}{A:Around}{s:Shared}{st:Stmt}{rest:List Stmt}{vs:List (Str × D)}{Q:Flow→Shared→Prop}{E:Value→Shared→Prop}(h:SX1 h₁ r sc vars st (· = .next vs)) (T:Top1 h₁) (R:Room r A) (I:Inv h₁ H s) (F:Fm sc env vars s.heap H)
  (k:∀ s',SStep (wr sc env) s s'→Inv h₁ H s'→Fm sc env vs s'.heap H→wpAny (model prog w) A (execs rest env) Q E s'):wpAny (model prog w) A (execs (st::rest) env) Q E s:=by
 with_reducible refine wpAny_execs_cons (h prog w A env s H _ E T R I F fun o f s₁ ho st₁ I₁ ok=>?_)
 subst ho
 cases f <;> first | (exact ok.elim) | skip
 exact k s₁ st₁ I₁ ok
theorem Fm.step {h h':Heap}{X H':List Addr}(F:Fm sc env vars h H) (st:Step X h h') (sub:∀ x ∈ X,x ∈ H) (hl:env.locals ∉ X) (hc:∀ n c,env.cells.lookup n = some c→c ∉ X) (hh:∀ x ∈ H',x ∈ H ∨ h.objs.size ≤ x) (hin:∀ a ∈ H,a ∈ H'):Fm sc env vars h' H':=
 ⟨F.ok.step st sub hl hc hh,⟨hin _ F.w.loc,fun x hx=>let ⟨c,v₀,e1,e2,e3,e4⟩:=F.w.cel x hx;⟨c,v₀,e1,e2,hin _ e3,cell_step e4 st (hc x c e1) e2⟩,F.w.inj⟩⟩
noncomputable def LI (h:Heap) (a:Addr) (ds:List D):Prop:=∃ vs,h.PlainList a vs∧∀ H,VL h H vs.toList ds
theorem VL.get' {h:Heap}{H:List Addr}{vs:List Value}{ds:List D}(x:VL h H vs ds) {i:Nat}{v:Value}(e:vs[i]? = some v):∃ d,ds[i]? = some d∧V h H v d:=by
 refine VL.ind (M:=fun vs ds=>∀ (i:Nat) (v:Value),vs[i]? = some v→∃ d,ds[i]? = some d∧V h H v d) (fun _ _ e=>by simp at e) (fun v d vs ds a _ ih i v' e=>?_) x i v e
 cases i with
 | zero=>obtain rfl:=Option.some.inj e;exact ⟨_,rfl,a⟩
 | succ i=>exact ih i v' e
theorem binMul_list {prog:Program}{w:WW}{A:Around}{E:Value→Shared→Prop}{s:Shared}{l:Addr}{items:Array Value}{k:Nat}{x:Int}{u:Tok}{Q:Value→Shared→Prop}
  (hl:s.heap.get? l = some { cls:=.type "list",dict:=none,data:=.seq items k,slots:=#[] })
  (hlo:-(2 ^ 63:Int) ≤ x) (hhi:x < 2 ^ 63) (hsz:items.size * x.toNat ≤ 2 ^ 24)
  (h:Q (.ref s.heap.objs.size) { s with heap:=s.heap.push { cls:=.type "list",data:=.seq (List.foldl (fun x1 x2=>x1 ++ x2) #[] (List.replicate (if items.isEmpty = true then 0 else x.toNat) items)) } }) :
  wpAny (model prog w) A (binaryOp .Mult (.ref l) (.int x u)) Q E s:=
 wpAny_binaryOp_repeat_ref (T := "list") (U := "int") (by decide) ⟨_,hl,rfl⟩ (fun s'=>typeIs_int s' x u) noFill_list_mul F.fills_int_mul F.slot_int_rmul repeat_list F.slot_int_index.lookup
  (call_meets F.slot_int_rmul (typeIs_int s x u) F.entry_int_rmul (F.args_int_rmul_2 _ _) (int___rmul___int_list x u l items k)
   ⟨hl,rfl,⟨_,hl,rfl⟩,call_meets F.slot_list_mul ⟨_,hl,rfl⟩ F.entry_list_mul (F.args_list_mul_2 _ _)
    (AutoListH.list___mul___list_int_3 l items k x u (by simp [Builtin.List.listFitsIndex];lia) (by lia) (by simp [Builtin.List.listTooLong,sizeLine];lia))
    ⟨hl,h⟩⟩)
theorem foldl_reps (v:Value):∀ (n:Nat) (acc:Array Value),List.foldl (fun x1 x2=>x1 ++ x2) acc (List.replicate n #[v]) = acc ++ (List.replicate n v).toArray
 | 0,acc=>by simp
 | n + 1,acc=>by
  rw [List.replicate_succ,List.foldl_cons,foldl_reps v n,List.replicate_succ]
  apply Array.ext'
  simp
theorem VL.reps {h:Heap}{H:List Addr}{v:Value}{d:D}(x:V h H v d):∀ n,VL h H (List.replicate n v) (List.replicate n d)
 | 0=>.nil
 | n + 1=>.cons x (VL.reps x n)
theorem zeros {prog:Program}{w:WW}{A:Around}{s:Shared}{e:Expr}{c:Nat}{p p2 pos:Pos}{k:Nat}{Q:Value→Shared→Prop}{E:Value→Shared→Prop}(he:EVP h₁ r sc vars e (.int (k:Int))) (hk:k ≤ 2 ^ 24) (T:Top1 h₁) (R:Room r A) (I:Inv h₁ H s) (O:EnvOK sc env vars s.heap H)
  (kk:∀ s' a,s.heap.objs.size ≤ a→a < s'.heap.objs.size→SStep [] s s'→Inv h₁ H s'→LI s'.heap a (List.replicate k (.int 0))→Q (.ref a) s') :
  wpAny (model prog w) A (eval (.BinOp (.List [.Constant (.int 0) c p] p2) .Mult e pos) env) Q E s:=by
 have h0:EVS h₁ r sc vars [.Constant (.int 0) c p] [.int 0]:=EVS.cons EVP.const_int EVS.nil
 with_reducible refine wpAny_BinOp (wpAny_List (h0.2 prog w A env p2 s H _ E T R I O fun vs s₁ st I₁ hvs=>⟨?_,?_⟩))
 ·rw [hvs.length];decide
 ·cases hvs with
  | cons a b=>
   obtain rfl:=VL.nilI b;obtain ⟨_,rfl⟩:=V.intI a
   rename_i t
   have I₂:=I₁.pushed { cls:=.type "list",data:=.seq #[Value.int 0 t] }
   have st₂:SStep [] s { s₁ with heap:=s₁.heap.push { cls:=.type "list",data:=.seq #[Value.int 0 t] } }:=st.trans (SStep.heap' (Step.push _))
   have hl:(s₁.heap.push { cls:=.type "list",data:=.seq #[Value.int 0 t] }).get? s₁.heap.objs.size = some { cls:=.type "list",dict:=none,data:=.seq #[Value.int 0 t] 0,slots:=#[] }:=Heap.get?_push_size _ rfl
   with_reducible refine he prog w A env _ H _ E T R I₂ (O.grow st₂.st) fun v s₃ st₃ I₃ hv=>?_
   obtain ⟨_,rfl⟩:=V.intI hv
   have hl3:=st₃.st.keep _ _ hl (fun q=>nomatch q) (tabs_lt I₁.size)
   have hz:s.heap.objs.size ≤ s₃.heap.objs.size:=(st₂.trans st₃).st.size
   refine binMul_list hl3 (by lia) (by lia) (by simp;lia) ?_
   have e1:List.foldl (fun x1 x2=>x1 ++ x2) #[] (List.replicate (if (#[Value.int 0 t]:Array Value).isEmpty = true then 0 else ((k:Int)).toNat) #[Value.int 0 t]) = (List.replicate k (Value.int 0 t)).toArray:=by
    rw [if_neg (by simp),Int.toNat_natCast,foldl_reps];simp
   rw [e1]
   refine kk _ _ hz (by simp) ((st₂.trans st₃).trans (SStep.heap' (Step.push _))) (I₃.pushed _) ⟨_,⟨_,Heap.get?_push_size _ rfl⟩,fun H'=>?_⟩
   exact VL.reps (.int _ _) k
theorem LI.step {h h':Heap}{a:Addr}{ds:List Nat}{X:List Addr}(x:LI h a (natL ds)) (st:Step X h h') (hx:a ∉ X) (hn:N0 ≤ a):LI h' a (natL ds):=by
 refine ex11 x fun vs zq1 v=>?_;obtain ⟨n,e⟩:=zq1
 exact ⟨vs,⟨n,st.keep a _ e hx (tabs_lt hn)⟩,fun H=>VL.ints (v H) h'⟩
theorem LI.v {h:Heap}{H:List Addr}{a:Addr}{ds:List D}(x:LI h a ds) (hH:a ∉ H) (hn:N0 ≤ a):V h H (.ref a) (.list ds):=by
 refine ex11 x fun vs zq1 v=>?_;obtain ⟨n,e⟩:=zq1
 exact .list e hH hn (v H)
theorem evalCallK {prog:Program}{w:WW}{A:Around}{s:Shared}{Q:Value→Shared→Prop}{E:Value→Shared→Prop}{x:Str}{f:Addr}{p pos:Pos}{args:List Expr}{ds:List D}{name qual:Str}{params:Arguments}{body:List Stmt}{scope:Scope}{clos:List (Str × Addr)}(hn:NameIs h₁ sc x (.ref f)) (hf:FnK h₁ f name qual params body scope clos) (ha:EVS h₁ r sc vars args ds)
  (T:Top1 h₁) (R:Room r A) (I:Inv h₁ H s) (O:EnvOK sc env vars s.heap H) (k:∀ vs s₁,SStep [] s s₁→Inv h₁ H s₁→VL s₁.heap H vs ds→wpAny (model prog w) A (PySem.call (.ref f) vs) Q E s₁):wpAny (model prog w) A (eval (.Call (.Name x p) args [] pos) env) Q E s:=by
 with_reducible refine wpAny_Call_NameR (hn prog w A env s H vars p _ E T I O ?_)
 have hp:((backTo pos (starEach args env)).any (·.1) || ([]:List (Option Str × Sem Value)).any (·.1.isNone)) = false:=by rw [ha.1 env pos];rfl
 refine ex82 hf.fo fun c fo co doc pm ctv cvs ct hfm hfd _=>?_
 have hk:∀ (h:Heap),h.get? f = some fo→∃ k,(k = Keeper.frame ∨ k = Keeper.machine ∨ k = Keeper.boundFrame)∧Looks (model prog w) h (keeperOf (.ref f)) k:=by
  intro h e
  refine ⟨.frame,.inl rfl,(Looks.ld (part:=none) e).andThen ?_⟩
  rw [hfd]
  exact .now
 with_reducible refine callWith_of (P:=fun h=>h.get? f = some fo) hp hk (evalArgs_of (ha.1 env pos) (ha.2 prog w A env pos s H _ E T R I O fun vs s₁ st I₁ hvs=>⟨(I₁.fix _ hfm).1,?_⟩))
 show wpAny (model prog w) A (PySem.call (.ref f) vs) Q E s₁
 exact k vs s₁ st I₁ hvs
theorem interactive_no {h:Heap}(O:EnvOK sc env vars h H):interactive env = false:=by
 unfold interactive
 rw [O.kfun];rfl
theorem runExpr {prog:Program}{w:WW}{A:Around}{s:Shared}{e:Expr}{pos:Pos}{rest:List Stmt}{Q:Flow→Shared→Prop}{E:Value→Shared→Prop}(O:EnvOK sc env vars s.heap H) (hs:noSwap e = true) (h:wpAny (model prog w) A (eval e env) (fun _ s'=>wpAny (model prog w) A (execs rest env) Q E s') E s):wpAny (model prog w) A (execs (.Expr e pos::rest) env) Q E s:=by
 with_reducible refine wpAny_execs_cons ?_
 exact wpAny_Expr_any h (interactive_no O) (swaps_no hs)
theorem runIf {prog:Program}{w:WW}{A:Around}{s:Shared}{t:Expr}{body orelse rest:List Stmt}{pos:Pos}{b:Bool}{Q:Flow→Shared→Prop}{E:Value→Shared→Prop}(ht:TSP h₁ r sc vars t b) (T:Top1 h₁) (R:Room r A) (I:Inv h₁ H s) (O:EnvOK sc env vars s.heap H)
  (k:∀ s',SStep [] s s'→Inv h₁ H s'→wpAny (model prog w) A (execs (if b then body else orelse) env) (fun f s'=>match f with | .next=>wpAny (model prog w) A (execs rest env) Q E s' | f=>Q f s') E s'):wpAny (model prog w) A (execs (.If t body orelse pos::rest) env) Q E s:=by
 with_reducible refine wpAny_execs_cons (wpAny_If (ht prog w A env s H _ E T R I O fun s₁ st I₁=>?_))
 have:=k s₁ st I₁
 cases b
 ·exact this
 ·exact this
theorem Inv.hide {s:Shared}{a:Addr}{o:Obj}(I:Inv h₁ H s) (ho:s.heap.get? a = some o) (hd:∀ vs,o.data ≠ .fields vs) (hK:∀ p ∈ h₁.K,p.1 ≠ a) (hn:N0 ≤ a):Inv h₁ (a::H) s:=by
 have ht:∀ {t line col q},TabAt s.heap H t line col q→TabAt s.heap (a::H) t line col q:=fun x=>by
  rcases x with e | ⟨c,o',vs,tk,e1,e2,e3,e4,e6,e7⟩
  ·exact .inl e
  ·refine .inr ⟨c,o',vs,tk,e1,fun q=>?_,e3,e4,e6,e7⟩
   rcases mc q with rfl | q
   ·rw [ho] at e4;cases e4;exact hd _ e6
   ·exact e2 q
 refine ⟨I.kp,⟨ht I.tab.i2d,ht I.tab.d2i,ht I.tab.cal,ht I.tab.lex⟩,I.bare,fun b q=>?_,I.size,fun p hp=>?_⟩
 ·rcases mc q with rfl | q
  ·exact ⟨hn,Heap.lt_size ho⟩
  ·exact I.hok b q
 ·refine ex02 (I.fix p hp) fun e1 e2 e3=>?_
  refine ⟨e1,fun q=>?_,e3⟩
  rcases List.mem_cons.mp q with q | q
  ·exact hK p hp q
  ·exact e2 q
theorem Inv.sub {s:Shared}{H':List Addr}(I:Inv h₁ H s) (h:∀ a ∈ H',a ∈ H):Inv h₁ H' s:=I.less (fun a q=>.inl (h a q)) fun a q=>I.hok a (h a q)
theorem EnvOK.sub {h:Heap}{H':List Addr}(O:EnvOK sc env vars h H) (hh:∀ a ∈ H',a ∈ H):EnvOK sc env vars h H':=
 O.step (X:=[]) (Step.refl _ _) (fun _ q=>nomatch q) (fun q=>nomatch q) (fun _ _ _ q=>nomatch q) fun a q=>.inl (hh a q)
theorem EnvOK.addRaw {h:Heap}{x:Str}{v:Value}{d:D}(O:EnvOK sc env vars h H) (hx:sc.fv.lookup x = some v) (hv:V h H v d):EnvOK sc env ((x,d)::vars) h H:=by
 refine ex12 O.ns fun m hm hvs hrs=>?_
 refine ⟨O.scope,O.kind,O.glob,O.bi,O.low,O.lt,O.code,⟨m,hm,fun y d' e kd=>?_,hrs⟩,fun y d' e kd=>?_,O.raw⟩
 ·rw [lookup_put] at e
  by_cases hy:y = x
  ·subst hy;simp only [if_true] at e;cases e
   exact ⟨v,hrs y v hx kd,hv⟩
  ·simp only [hy,if_false] at e
   exact hvs y d' e kd
 ·rw [lookup_put] at e
  by_cases hy:y = x
  ·subst hy;simp only [if_true] at e;cases e
   refine ex0112 (O.raw y v hx kd) fun q c e1 e2 e3=>?_
   exact ⟨q,c,v,e1,e2,e3,hv⟩
  ·simp only [hy,if_false] at e
   exact O.cel y d' e kd
theorem small_div {a b:Nat}(hb:0 < b) (ha:bl a ≤ 4000):Builtin.divisionGoesByPylong (a:Int) (b:Int) = false:=by
 unfold bl at ha
 unfold Builtin.divisionGoesByPylong
 have e1:((b:Int) == 0) = false:=by simpa using (Nat.ne_of_gt hb)
 simp only [e1,Int.natAbs_natCast,Bool.false_eq_true,if_false,Bool.and_eq_false_iff,decide_eq_false_iff_not]
 by_cases h0:a = 0
 ·subst h0;simp
 ·have e2:((a:Int) == 0) = false:=by simpa using h0
  rw [if_neg h0] at ha
  simp only [e2,Bool.false_eq_true,if_false]
  right
  lia
theorem IOp.divN {a b:Nat}(hb:0 < b) (ha:bl a ≤ 4000):IOp .FloorDiv (a:Int) (b:Int) ((a / b:Nat):Int):=by
 with_reducible exact IOp.as (IOp.div (by lia) (small_div hb ha)) (fdiv_nat a b)
end
end Mine
namespace Mine
variable [Wd]
section
variable {h₁:Gl}{r:Nat}{sc:Sc}{vars:List (Str × D)}{env:Env}{H:List Addr}
theorem step_walk {h h':Heap}{wr:List Addr}(hk:∀ b o,b ∉ wr→h.get? b = some o→h'.get? b = some o) (hz:h.objs.size ≤ h'.objs.size) (hw:∀ b ∈ wr,N0 ≤ b):Step wr h h':=
 ⟨fun a o e n _=>hk a o n e,fun t ht ps e=>⟨#[],by simpa using hk t _ (fun q=>tabs_lt (hw t q) ht) e⟩,hz⟩
structure Quiet (X:List Addr) (s s':Shared):Prop where
 keep:∀ b o,b ∉ X→s.heap.get? b = some o→s'.heap.get? b = some o
 size:s.heap.objs.size ≤ s'.heap.objs.size
 os:s'.os = s.os
 gens:s'.gens = s.gens
theorem Quiet.st {X:List Addr}{s s':Shared}(q:Quiet X s s') (hw:∀ b ∈ X,N0 ≤ b):SStep X s s':=⟨step_walk q.keep q.size hw,q.os,fun g=>by rw [q.gens];exact g⟩
theorem Inv.quiet {X:List Addr}{s s':Shared}(I:Inv h₁ H s) (q:Quiet X s s') (hX:∀ b ∈ X,b ∈ H):Inv h₁ H s':=I.kept (fun b o e n=>q.keep b o (fun h=>n (hX b h)) e) q.size (by rw [q.gens];exact I.bare)
theorem Quiet.same {a:Addr}{s:Shared}{h':Heap}{tk:Nat}(hs:Heap.SameBut a s.heap h'):Quiet [a] s { s with heap:=h',toks:=tk }:=
 ⟨fun b o n e=>(hs.2 b (fun q=>n (by rw [q];exact .head _))).trans e,Nat.le_of_eq hs.1.symm,rfl,rfl⟩
theorem forWalk {prog:Program}{w:WW}{A:Around}{s:Shared}{it:Addr}{fp wr:List Addr}{n:Nat}{P:Nat→Value→Prop}{St:Nat→Heap→Prop}{target:Expr}{body:List Stmt}{Q:Flow→Shared→Prop}{E:Value→Shared→Prop}
  (W:Walks prog w A it fp wr n P St) (J:Nat→Shared→Prop) (hown:∀ v s Q E,Q () s→wpAny (model prog w) A (letOwnedTupleGo target (.ref it) v) Q E s)
  (turn:∀ i v s₀ s E',i < n→P i v→J i s₀→Quiet wr s₀ s→St (i + 1) s.heap →
   wpAny (model prog w) A (assign target env v) (fun _ s₂=>wpAny (model prog w) A (execs body env) (fun f s₃=>match f with
    | .next | .cont=>J (i + 1) s₃∧St (i + 1) s₃.heap
    | .brk=>Q .next s₃
    | .ret v=>Q (.ret v) s₃) E' s₂) E' s)
  (fin:∀ s₀ s,J n s₀→Quiet wr s₀ s→Q .next s) (h0:J 0 s) (hS:St 0 s.heap) :
  codeAny (model prog w) A (.forLoop target (.ref it) body [] env) (fun r s'=>match r with | .ok f=>Q f s' | .error e=>cameBackBy (model prog w) A env E e s') s:=by
 refine codeAny_forLoop_any (fun k s'=>∃ i,k = n - i∧i ≤ n∧J i s'∧St i s'.heap) ?_ n ⟨0,by lia,Nat.zero_le _,h0,hS⟩
 intro k s' zq
 refine ex13 zq fun i zq1 hi hJ hSt=>?_;subst zq1
 by_cases hlt:i < n
 ·refine with_size (W.item i s' _ _ hlt hSt fun v h' tk hP hSt' hk hz=>?_)
  have st:Quiet wr s' { s' with heap:=h',toks:=tk }:=⟨hk,hz,rfl,rfl⟩
  refine hown v _ _ _ ?_
  refine wpAny_mono (turn i v s' _ _ hlt hP hJ st hSt') (fun _ s₂ h₂=>wpAny_mono h₂ (fun f s₃ h₃=>?_) fun _ _ x=>x) fun _ _ x=>x
  cases f with
  | next=>exact ⟨n - (i + 1),by lia,i + 1,rfl,hlt,h₃.1,h₃.2⟩
  | cont=>exact ⟨n - (i + 1),by lia,i + 1,rfl,hlt,h₃.1,h₃.2⟩
  | brk=>exact h₃
  | ret v=>exact h₃
 ·have hin:i = n:=by lia
  subst hin
  refine with_size (W.done s' _ _ hSt fun h' tk hk hz=>?_)
  have st:Quiet wr s' { s' with heap:=h',toks:=tk }:=⟨hk,hz,rfl,rfl⟩
  with_reducible refine wpAny_execs_nil ?_
  exact fin _ _ hJ st
theorem own_name {prog:Program}{w:WW}{A:Around}{x:Str}{p:Pos}{it v:Value}:∀ (s:Shared) (Q:Unit→Shared→Prop) (E:Value→Shared→Prop),Q () s→wpAny (model prog w) A (letOwnedTupleGo (.Name x p) it v) Q E s:=
 fun s Q E h=>wpAny_of_eq (a:=()) rfl h
noncomputable def LP (h:Heap) (a:Addr) (ds:List D):Prop:=∃ vs,h.PlainList a vs∧∀ H,VL h H vs.toList ds
theorem LP.li {h:Heap}{a:Addr}{ds:List D}(x:LP h a ds):LI h a ds:=x
theorem LP.stepN {h h':Heap}{a:Addr}{ds:List Nat}{X:List Addr}(x:LP h a (natL ds)) (st:Step X h h') (hx:a ∉ X) (hn:N0 ≤ a):LP h' a (natL ds):=by
 refine ex11 x fun vs p v=>?_
 exact ⟨vs,p.at fun o e=>st.keep a o e hx (tabs_lt hn),fun H=>VL.ints (v H) h'⟩
theorem evalMethRaw {prog:Program}{w:WW}{A:Around}{s:Shared}{x:Str}{p apos pos:Pos}{name:Str}{args:List Expr}{ds:List D}{v:Value}{id:String}{Q:Value→Shared→Prop}{E:Value→Shared→Prop}(hx:sc.fv.lookup x = some v)
  (hg:∀ (pl:Sem Bool) (Q:Value × List Value→Shared→Prop),Q (.builtin id,[v]) s→wpAny (model prog w) A (getMethod v name pl) Q E s) (ha:EVS h₁ r sc vars args ds) (T:Top1 h₁) (R:Room r A) (I:Inv h₁ H s) (O:EnvOK sc env vars s.heap H)
  (k:∀ vs s₁,SStep [] s s₁→Inv h₁ H s₁→VL s₁.heap H vs ds→wpAny (model prog w) A (PySem.call (.builtin id) (v::vs)) Q E s₁)
  (hl:(apos.endLine == pos.line) = true:=by rfl) (hn:args.length < 28:=by decide) (hd:(x == ("__debug__":Str)) = false:=by rfl):wpAny (model prog w) A (eval (.Call (.Attribute (.Name x p) name apos) args [] pos) env) Q E s:=by
 with_reducible refine mcall rfl hl ha.1 hn (NameIs.raw hx hd prog w A env s H vars p _ E T I O ?_)
 with_reducible refine hg _ _ ?_
 have hp:((backTo pos (starEach args env)).any (·.1) || ([]:List (Option Str × Sem Value)).any (·.1.isNone)) = false:=by rw [ha.1 env pos];rfl
 show wpAny (model prog w) A (callWith pos (.builtin id) [v] (backTo pos (starEach args env)) []) Q E s
 with_reducible refine callWith_of (P:=Kp h₁) hp (KeepOK.builtin T _) (evalArgs_of (ha.1 env pos) (ha.2 prog w A env pos s H _ E T R I O fun vs s₂ st₂ I₂ hvs=>⟨I₂.kp,?_⟩))
 show wpAny (model prog w) A (PySem.call (.builtin id) (v::vs)) Q E s₂
 exact k vs s₂ st₂ I₂ hvs
theorem getM_append {prog:Program}{w:WW}{A:Around}{s:Shared}{a:Addr}{ds:List D}{E:Value→Shared→Prop}(x:LP s.heap a ds):∀ (pl:Sem Bool) (Q:Value × List Value→Shared→Prop),Q (.builtin "list.append",[.ref a]) s→wpAny (model prog w) A (getMethod (.ref a) "append" pl) Q E s:=by
 intro pl Q h
 refine ex11 x fun vs zq1 _=>?_;obtain ⟨n,e⟩:=zq1
 exact Calls.getMethod_list_append e rfl rfl h
theorem getM_reverse {prog:Program}{w:WW}{A:Around}{s:Shared}{a:Addr}{ds:List D}{E:Value→Shared→Prop}(x:LP s.heap a ds):∀ (pl:Sem Bool) (Q:Value × List Value→Shared→Prop),Q (.builtin "list.reverse",[.ref a]) s→wpAny (model prog w) A (getMethod (.ref a) "reverse" pl) Q E s:=by
 intro pl Q h
 refine ex11 x fun vs zq1 _=>?_;obtain ⟨n,e⟩:=zq1
 exact getMethod_list_of F.slot_list_reverse F.type_list_reverse ⟨_,e,rfl,_,rfl⟩ ⟨_,e,rfl⟩ h
theorem LP.append {prog:Program}{w:WW}{A:Around}{s:Shared}{a:Addr}{ds:List Nat}{v:Value}{H:List Addr}{d:Nat}{Q:Value→Shared→Prop}{E:Value→Shared→Prop}(x:LP s.heap a (natL ds)) (hv:V s.heap H v (.int (d:Int))) (hz:ds.length ≤ 2 ^ 20) (hN:N0 ≤ a)
  (k:∀ h',Step [a] s.heap h'→Heap.SameBut a s.heap h'→LP h' a (natL (ds ++ [d]))→Q .none { s with heap:=h' }):wpAny (model prog w) A (PySem.call (.builtin "list.append") [.ref a,v]) Q E s:=by
 refine ex11 x fun vs p hv'=>?_
 obtain ⟨_,rfl⟩:=V.intI hv
 rename_i tt
 have hlen:vs.size = ds.length:=by have:=(hv' []).length;simpa using this
 refine wpAny_list_append_plain p (fun h' p' hs=>?_) (by rw [hlen,sizeLine_eq];lia)
 refine k h' (Step.of_sameBut hs (.head _) hN) hs ⟨_,p',fun H'=>?_⟩
 have:=(VL.ints (hv' []) h' (H':=H')).append (VL.cons (V.int (h:=h') (H:=H') (d:Int) tt) VL.nil)
 simpa [natL] using this
theorem LP.reverse {prog:Program}{w:WW}{A:Around}{s:Shared}{a:Addr}{ds:List Nat}{Q:Value→Shared→Prop}{E:Value→Shared→Prop}(x:LP s.heap a (natL ds)) (hz:ds.length ≤ 2 ^ 20) (hN:N0 ≤ a)
  (k:∀ h',Step [a] s.heap h'→Heap.SameBut a s.heap h'→LP h' a (natL ds.reverse)→Q .none { s with heap:=h' }):wpAny (model prog w) A (PySem.call (.builtin "list.reverse") [.ref a]) Q E s:=by
 refine ex11 x fun vs zq1 hv'=>?_;obtain ⟨n,e⟩:=zq1
 have hlen:vs.size = ds.length:=by have:=(hv' []).length;simpa using this
 refine call_meets F.slot_list_reverse ⟨_,e,rfl⟩ F.entry_list_reverse (F.args_list_reverse_1 _) (AutoListH.list_reverse_list_0 a vs n (by rw [hlen,sizeLine_eq];lia)) ⟨e,?_⟩
 have hs:Heap.SameBut a s.heap (s.heap.update a (Obj.mapSeq fun x=>x.reverse)):=Heap.SameBut.update ..
 refine k _ (Step.of_sameBut hs (.head _) hN) hs ⟨vs.reverse,⟨_,Heap.get?_update_self _ e rfl⟩,fun H'=>?_⟩
 have:=(VL.ints (hv' []) (s.heap.update a (Obj.mapSeq fun x=>x.reverse)) (H':=H')).reverse
 simpa [natL] using this
theorem Inv.pushHide {s:Shared}(I:Inv h₁ H s) (o:Obj):Inv h₁ (s.heap.objs.size::H) { s with heap:=s.heap.push o }:=by
 have I₂:=I.pushed o
 have hne:∀ a,a < s.heap.objs.size→a ∉ H→a ∉ s.heap.objs.size::H:=fun a ha hn q=>by
  rcases mc q with rfl | q
  ·exact Nat.lt_irrefl _ ha
  ·exact hn q
 have ht:∀ {t line col q},t < N0→TabAt s.heap H t line col q→TabAt (s.heap.push o) (s.heap.objs.size::H) t line col q:=fun hl x=>by
  rcases x with e | ⟨c,o',vs,tk,e1,e2,e3,e4,e6,e7⟩
  ·exact .inl (Heap.get?_push_of_some _ e)
  ·exact .inr ⟨c,o',vs,tk,Heap.get?_push_of_some _ e1,hne c (Heap.lt_size e4) e2,e3,Heap.get?_push_of_some _ e4,e6,e7⟩
 refine ⟨I₂.kp,⟨ht (by decide) I.tab.i2d,ht (by decide) I.tab.d2i,ht (by decide) I.tab.cal,ht (by decide) I.tab.lex⟩,I₂.bare,fun b q=>?_,I₂.size,fun p hp=>?_⟩
 ·rcases mc q with rfl | q
  ·exact ⟨I.size,by simp⟩
  ·exact I₂.hok b q
 ·refine ex02 (I.fix p hp) fun e1 e2 e3=>?_
  exact ⟨Heap.get?_push_of_some _ e1,hne _ (Heap.lt_size e1) e2,e3⟩
theorem Fm.pushHide {s:Shared}(F:Fm sc env vars s.heap H) (o:Obj):Fm sc env vars (s.heap.push o) (s.heap.objs.size::H):=
 F.step (Step.push o:Step [] s.heap (s.heap.push o)) (fun _ q=>nomatch q) (fun q=>nomatch q) (fun _ _ _ q=>nomatch q) (fun y q=>by
  rcases mc q with rfl | q
  ·exact .inr (Nat.le_refl _)
  ·exact .inl q) (fun _ q=>.tail _ q)
theorem Fm.sub {h:Heap}{H':List Addr}(F:Fm sc env vars h H) (hh:∀ a ∈ H',a ∈ H) (hw:∀ a ∈ wr sc env,a ∈ H'):Fm sc env vars h H':=
 ⟨F.ok.sub hh,⟨hw _ (.head _),fun x hx=>let ⟨c,v₀,e1,e2,e3,e4⟩:=F.w.cel x hx;⟨c,v₀,e1,e2,hw _ (wr_cell hx e1),e4⟩,F.w.inj⟩⟩
theorem Fm.addRaw {h:Heap}{x:Str}{v:Value}{d:D}(F:Fm sc env vars h H) (hx:sc.fv.lookup x = some v) (hv:V h H v d):Fm sc env ((x,d)::vars) h H:=⟨F.ok.addRaw hx hv,F.w⟩
theorem Fm.weak {h:Heap}{vars':List (Str × D)}(F:Fm sc env vars h H) (hw:∀ y d,vars'.lookup y = some d→vars.lookup y = some d):Fm sc env vars' h H:=⟨F.ok.weak hw,F.w⟩
theorem evalCall {prog:Program}{w:WW}{A:Around}{s:Shared}{Q:Value→Shared→Prop}{E:Value→Shared→Prop}{x:Str}{f:Value}{p pos:Pos}{args:List Expr}{ds:List D}(hn:NameIs h₁ sc x f) (hk:KeepOK h₁ f) (ha:EVS h₁ r sc vars args ds)
  (T:Top1 h₁) (R:Room r A) (I:Inv h₁ H s) (O:EnvOK sc env vars s.heap H) (k:∀ vs s₁,SStep [] s s₁→Inv h₁ H s₁→VL s₁.heap H vs ds→wpAny (model prog w) A (PySem.call f vs) Q E s₁):wpAny (model prog w) A (eval (.Call (.Name x p) args [] pos) env) Q E s:=by
 with_reducible refine wpAny_Call_NameR (hn prog w A env s H vars p _ E T I O ?_)
 have hp:((backTo pos (starEach args env)).any (·.1) || ([]:List (Option Str × Sem Value)).any (·.1.isNone)) = false:=by rw [ha.1 env pos];rfl
 with_reducible refine callWith_of (P:=Kp h₁) hp (hk T _) (evalArgs_of (ha.1 env pos) (ha.2 prog w A env pos s H _ E T R I O fun vs s₁ st I₁ hvs=>⟨I₁.kp,?_⟩))
 show wpAny (model prog w) A (PySem.call f vs) Q E s₁
 exact k vs s₁ st I₁ hvs
theorem cons_weak {vars vars':List (Str × D)}{x:Str}{d:D}(h:∀ y e,vars'.lookup y = some e→vars.lookup y = some e):∀ y e,((x,d)::vars').lookup y = some e→((x,d)::vars).lookup y = some e:=fun y e q=>by
 rw [lookup_put] at q ⊢
 by_cases hy:y = x
 ·simpa [hy] using q
 ·simp only [hy,if_false] at q ⊢;exact h y e q
theorem skip_weak {vars vars':List (Str × D)}{x:Str}{d:D}(hx:vars'.lookup x = none) (h:∀ y e,vars'.lookup y = some e→vars.lookup y = some e):∀ y e,vars'.lookup y = some e→((x,d)::vars).lookup y = some e:=fun y e q=>by
 rw [lookup_put]
 by_cases hy:y = x
 ·subst hy;rw [hx] at q;cases q
 ·simp only [hy,if_false];exact h y e q
end
end Mine
namespace Mine
variable [Wd]
section
variable {h₁:Gl}{r:Nat}{sc:Sc}{vars:List (Str × D)}{env:Env}{H:List Addr}
theorem storeLoc {prog:Program}{w:WW}{A:Around}{s:Shared}{x:Str}{v:Value}{d:D}{Q:Unit→Shared→Prop}{E:Value→Shared→Prop}(hk:stoK sc x = some .local) (I:Inv h₁ H s) (O:EnvOK sc env vars s.heap H) (hL:env.locals ∈ H) (hv:V s.heap H v d)
  (k:∀ s',Quiet [env.locals] s s'→Inv h₁ H s'→EnvOK sc env ((x,d)::vars) s'.heap H→Q () s'):wpAny (model prog w) A (storeName env x v) Q E s:=by
 obtain ⟨hk,hfv⟩:=stoK_names hk
 refine ex12 O.ns fun m hm hvs hrs=>?_
 have hp:(env.scope.kind == .class || (env.scope.kind == .module && env.locals != env.globals)) = false:=by rw [O.kfun];rfl
 with_reducible refine wpAny_storeName_local (O.kindOf hk) hm (fun h' hn' hs'=>?_) hp
 have st1:Step [env.locals] s.heap h':=Step.of_sameBut hs' (.head _) O.low
 have sub:∀ y ∈ [env.locals],y ∈ H:=fun y q=>by rcases ms q with rfl;exact hL
 have keep:∀ y c z,env.cells.lookup y = some c→s.heap.IsCell c z→h'.IsCell c z:=fun y c z _ hc=>hc.sameBut hs' (cell_ne_ns hc hm)
 refine k _ (Quiet.same hs') (I.kept (fun b o e nb=>(hs'.2 b (fun q=>nb (q ▸ hL))).trans e) (Nat.le_of_eq hs'.1.symm) I.bare) ⟨O.scope,O.kind,O.glob,O.bi,O.low,fun n c e=>Nat.lt_of_lt_of_le (O.lt n c e) (Nat.le_of_eq hs'.1.symm),O.code,⟨_,hn',fun y d' e kd=>?_,fun y u e kd=>?_⟩,fun y d' e kd=>?_,fun y u e kd=>?_⟩
 ·rw [lookup_put] at e
  by_cases hy:y = x
  ·subst hy;simp only [if_true] at e;cases e
   exact ⟨v,by simp,hv.step st1 sub fun _ q=>.inl q⟩
  ·simp only [hy,if_false] at e
   refine ex11 (hvs y d' e kd) fun u e1 e2=>?_
   exact ⟨u,by simpa [hy] using e1,e2.step st1 sub fun _ q=>.inl q⟩
 ·have hy:y ≠ x:=fun q=>by subst q;rw [hfv] at e;cases e
  simpa [hy] using hrs y u e kd
 ·rw [lookup_put] at e
  by_cases hy:y = x
  ·subst hy;exact absurd hk kd
  ·simp only [hy,if_false] at e
   refine ex0123 (O.cel y d' e kd) fun q c u e1 e2 e3 e4=>?_
   exact ⟨q,c,u,e1,e2,keep y c _ e1 e3,e4.step st1 sub fun _ q=>.inl q⟩
 ·refine ex0112 (O.raw y u e kd) fun q c e1 e2 e3=>?_
  exact ⟨q,c,e1,e2,keep y c _ e1 e3⟩
end
end Mine
namespace Mine
variable [Wd]
section
variable {h₁:Gl}{r:Nat}{sc:Sc}{vars:List (Str × D)}{env:Env}{H:List Addr}
noncomputable def relab (scope:Scope) (out:Scope):Scope:={ scope with names:=scope.names.map fun (n,k)=>if (k == .free && out.names.lookup n == some .cell) then (n,.cell) else (n,k) }
noncomputable def inFree (scope:Scope) (x:Str):Bool:=(freeOf scope).contains x
noncomputable def csc (sc:Sc) (scope:Scope):Sc:=⟨relab scope sc.toScope,sc.fv.filter fun p=>inFree scope p.1⟩
noncomputable def cvars (vars:List (Str × D)) (scope:Scope):List (Str × D):=vars.filter fun p=>inFree scope p.1
theorem relabel_eq {scope:Scope}{h:Heap}(O:EnvOK sc env vars h H):relabel scope env = relab scope sc.toScope:=by
 unfold relabel relab
 congr 1
 refine List.map_congr_left fun p _=>?_
 obtain ⟨n,k⟩:=p
 have e1:(env.scope.kind == ScopeKind.function) = true:=by rw [O.kfun];rfl
 have e2:env.kindOf n = sc.names.lookup n:=O.kindOf rfl
 simp only [e1,e2,Bool.and_true]
theorem lookup_filter {α:Type}{f:Str→Bool}{x:Str}:∀ {l:List (Str × α)},(l.filter fun p=>f p.1).lookup x = if f x then l.lookup x else none
 | []=>by simp
 | (y,v)::l=>by
  rw [List.filter_cons]
  have ih:=lookup_filter (f:=f) (x:=x) (l:=l)
  by_cases hq:x = y
  ·subst hq
   by_cases hf:f x = true
   ·simp [hf]
   ·simp [hf,ih]
  ·have hb:(x == y) = false:=by simpa using hq
   by_cases hf:f y = true
   ·simp only [hf,if_true];rw [List.lookup_cons,List.lookup_cons,hb];exact ih
   ·simp only [hf,if_false];rw [List.lookup_cons,hb];simpa using ih
theorem relab_lookup {scope out:Scope}{x:Str}:∀ {names:List (Str × NameKind)},(names.map fun (n,k)=>if (k == NameKind.free && out.names.lookup n == some .cell) then (n,NameKind.cell) else (n,k)).lookup x = (names.lookup x).map fun k=>if (k == NameKind.free && out.names.lookup x == some .cell) then NameKind.cell else k
 | []=>by simp
 | (y,k)::l=>by
  have ih:=relab_lookup (scope:=scope) (out:=out) (x:=x) (names:=l)
  rw [List.map_cons]
  show List.lookup x ((if (k == NameKind.free && out.names.lookup y == some .cell) = true then (y,NameKind.cell) else (y,k))::_) = _
  by_cases hc:(k == NameKind.free && out.names.lookup y == some .cell) = true
  ·rw [if_pos hc,List.lookup_cons,List.lookup_cons]
   by_cases hq:x = y
   ·subst hq
    rw [beq_self_eq_true]
    show some NameKind.cell = some (if (k == NameKind.free && out.names.lookup x == some .cell) = true then NameKind.cell else k)
    rw [if_pos hc]
   ·have hb:(x == y) = false:=by simpa using hq
    rw [hb];exact ih
  ·rw [if_neg hc,List.lookup_cons,List.lookup_cons]
   by_cases hq:x = y
   ·subst hq
    rw [beq_self_eq_true]
    show some k = some (if (k == NameKind.free && out.names.lookup x == some .cell) = true then NameKind.cell else k)
    rw [if_neg hc]
   ·have hb:(x == y) = false:=by simpa using hq
    rw [hb];exact ih
theorem compOK {scope:Scope}{h h':Heap}{H':List Addr}{C:Addr}(O:EnvOK sc env vars h H) (st:Step [] h h') (hh:∀ x ∈ H',x ∈ H ∨ h.objs.size ≤ x) (hC:h'.Ns C (fun _=>none)) (hCN:N0 ≤ C) (hk:scope.kind = .function)
  (hfree:∀ x ∈ freeOf scope,scope.names.lookup x = some .free∧sc.names.lookup x = some .cell∧(env.cells.lookup x).isSome = true) (hncal:∀ x ∈ scope.names,x.1 ≠ Str.ofString "new_callers") :
  EnvOK (csc sc scope) (compEnvC scope (closOf env scope) C env) (cvars vars scope) h' H':=by
 have O':=O.step (X:=[]) st (fun _ q=>nomatch q) (fun q=>nomatch q) (fun _ _ _ q=>nomatch q) hh
 have key:∀ x,inFree scope x = true→x ∈ freeOf scope:=fun x hx=>by simpa [inFree] using hx
 have lk:∀ x,inFree scope x = true→(csc sc scope).names.lookup x = some .cell:=fun x hx=>by
  refine ex02 (hfree x (key x hx)) fun a b _=>?_
  show (scope.names.map _).lookup x = _
  rw [relab_lookup (scope:=scope) (out:=sc.toScope),a]
  show some (if (NameKind.free == NameKind.free && sc.names.lookup x == some .cell) = true then NameKind.cell else NameKind.free) = _
  rw [b];rfl
 have cl:∀ x c,inFree scope x = true→env.cells.lookup x = some c→(closOf env scope).lookup x = some c:=fun x c hx e=>by rw [closOf_lookup (key x hx),e];rfl
 have ltP:∀ y c,(closOf env scope).lookup y = some c→c < h'.objs.size:=fun y c e=>by
  have hy:=closOf_names e
  refine ex02 (hfree y hy) fun _ _ q=>?_
  obtain ⟨c',hc'⟩:=Option.isSome_iff_exists.mp q
  rw [closOf_lookup hy,hc'] at e
  cases e
  exact O'.lt y _ hc'
 have calP:isCal (csc sc scope).toScope = true→(compEnvC scope (closOf env scope) C env).code = .ref 111∧(compEnvC scope (closOf env scope) C env).qual = Str.ofString "add_callers" ++ ".<locals>.":=fun h=>by
  exfalso
  have h':((scope.names.map fun (n,k)=>if (k == NameKind.free && sc.names.lookup n == some .cell) then (n,NameKind.cell) else (n,k)).lookup (Str.ofString "new_callers")).isSome = true:=h
  rw [relab_lookup (scope:=scope) (out:=sc.toScope)] at h'
  cases q:scope.names.lookup (Str.ofString "new_callers") with
  | none=>rw [q] at h';cases h'
  | some k=>exact hncal _ (lookup_mem q) rfl
 refine ⟨relabel_eq O,hk,O.glob,O.bi,hCN,ltP,calP,⟨_,hC,fun x d e kd=>?_,fun x v e kd=>?_⟩,fun x d e kd=>?_,fun x v e kd=>?_⟩
 ·rw [cvars,lookup_filter (f:=inFree scope)] at e
  by_cases hx:inFree scope x = true
  ·rw [lk x hx] at kd;cases kd
  ·simp only [hx] at e;cases e
 ·have e':(sc.fv.filter fun p=>inFree scope p.1).lookup x = some v:=e
  rw [lookup_filter (f:=inFree scope)] at e'
  by_cases hx:inFree scope x = true
  ·rw [lk x hx] at kd;cases kd
  ·simp only [hx] at e';cases e'
 ·rw [cvars,lookup_filter (f:=inFree scope)] at e
  by_cases hx:inFree scope x = true
  ·simp only [hx,if_true] at e
   refine ex02 (hfree x (key x hx)) fun a b _=>?_
   refine ex0123 (O'.cel x d e (by rw [b];nofun)) fun q c v e1 e2 e3 e4=>?_
   exact ⟨.inl (lk x hx),c,v,cl x c hx e1,e2,e3,e4⟩
  ·simp only [hx] at e;cases e
 ·have e':(sc.fv.filter fun p=>inFree scope p.1).lookup x = some v:=e
  rw [lookup_filter (f:=inFree scope)] at e'
  by_cases hx:inFree scope x = true
  ·simp only [hx,if_true] at e'
   refine ex02 (hfree x (key x hx)) fun a b _=>?_
   refine ex0112 (O'.raw x v e' (by rw [b];nofun)) fun q c e1 e2 e3=>?_
   exact ⟨.inl (lk x hx),c,cl x c hx e1,e2,e3⟩
  ·simp only [hx] at e';cases e'
end
end Mine
namespace Mine
variable [Wd]
section
variable {h₁:Gl}{r:Nat}{sc:Sc}{vars:List (Str × D)}{env:Env}{H:List Addr}
structure ItOK (prog:Program) (w:WW) (A:Around) (h₁:Gl) (H:List Addr) (s s':Shared) (it:Addr) (items:List D) (fp:List Addr) (P:Nat→Value→Prop) (St:Nat→Heap→Prop):Prop where
 st:SStep [] s s'
 inv:Inv h₁ (it::H) s'
 new:s.heap.objs.size ≤ it
 lt:it < s'.heap.objs.size
 walk:Walks prog w A it fp [it] items.length P St
 val:∀ i v,i < items.length→P i v→∃ d,items[i]? = some d∧V s'.heap (it::H) v d
 st0:St 0 s'.heap
 foot:∀ b ∈ fp,b = it ∨ (b ∉ H∧N0 ≤ b∧b < s'.heap.objs.size)
abbrev EVI (h₁:Gl) (r:Nat) (sc:Sc) (vars:List (Str × D)) (e:Expr) (items:List D):Prop:=
 ∀ (prog:Program) (w:WW) (A:Around) (env:Env) (s:Shared) (H:List Addr) (Q:Value→Shared→Prop) (E:Value→Shared→Prop),
  Top1 h₁→Room r A→Inv h₁ H s→EnvOK sc env vars s.heap H →
  (∀ it s' fp P St,ItOK prog w A h₁ H s s' it items fp P St→Q (.ref it) s')→wpAny (model prog w) A (eval e env) (fun x s₁=>wpAny (model prog w) A (pyIter x) Q E s₁) E s
theorem EVI.list {e:Expr}{items:List D}(he:EVP h₁ r sc vars e (.list items)):EVI h₁ r sc vars e items:=by
 intro prog w A env s H Q E T R I O k
 with_reducible refine he prog w A env s H _ E T R I O fun v s₁ st I₁ hv=>?_
 refine ex46 hv.asList fun a o vs n zq1 e1 c dd hH hN l=>?_;subst zq1
 have hL:s₁.heap.IsList a vs:=⟨o,e1,c,_,dd⟩
 have hlen:vs.size = items.length:=by have:=l.length;simpa using this
 refine wpAny_pyIter_list hL ?_
 have hne:a ≠ s₁.heap.objs.size:=Nat.ne_of_lt (Heap.lt_size e1)
 have W:=Walks.list (prog:=prog) (w:=w) R.hd s₁.heap.objs.size a hne vs
 rw [hlen] at W
 have st2:SStep [] s₁ { s₁ with heap:=s₁.heap.push { cls:=.type "list_iterator",data:=.fields #[.ref a,.int 0 0] } }:=SStep.heap' (Step.push _)
 refine k _ _ _ _ _ ⟨st.trans st2,I₁.pushHide _,st.st.size,by simp,W,fun i v _ hP=>?_,⟨⟨_,Heap.get?_push_size _ rfl,rfl,rfl⟩,hL.push _⟩,fun b hb=>?_⟩
 ·have hP':vs.toList[i]? = some v:=by simpa using hP
  refine ex11 (l.get' hP') fun d e2 e3=>?_
  exact ⟨d,e2,e3.step st2.st (fun _ q=>nomatch q) fun y q=>by
   rcases mc q with rfl | q
   ·exact .inr (Nat.le_refl _)
   ·exact .inl q⟩
 ·rcases mc hb with rfl | hb
  ·exact .inl rfl
  ·rcases ms hb with rfl
   exact .inr ⟨hH,hN,Nat.lt_of_lt_of_le (Heap.lt_size e1) st2.st.size⟩
structure CompSc (sc:Sc) (vars:List (Str × D)) (scope:Scope):Prop where
 kind:scope.kind = .function
 nocell:∀ x ∈ scope.names,x.2 ≠ .cell∧x.1 ≠ Str.ofString "new_callers"
 names:∀ x ∈ scope.names,x.2 = .local→scope.names.lookup x.1 = some .local
 free:∀ x ∈ freeOf scope,scope.names.lookup x = some .free∧sc.names.lookup x = some .cell∧((vars.lookup x).isSome = true ∨ (sc.fv.lookup x).isSome = true)
theorem CompSc.cells {scope:Scope}{h:Heap}(c:CompSc sc vars scope) (O:EnvOK sc env vars h H):∀ x ∈ freeOf scope,∃ a,env.cells.lookup x = some a:=fun x hx=>by
 refine ex02 (c.free x hx) fun _ b q=>?_
 rcases q with q | q
 ·obtain ⟨d,hd⟩:=Option.isSome_iff_exists.mp q
  obtain ⟨_,a,_,e,_⟩:=O.cel x d hd (by rw [b];nofun)
  exact ⟨a,e⟩
 ·obtain ⟨v,hv⟩:=Option.isSome_iff_exists.mp q
  refine ex0111 (O.raw x v hv (by rw [b];nofun)) fun _ a e _=>?_
  exact ⟨a,e⟩
theorem CompSc.closure {scope:Scope}{h:Heap}(c:CompSc sc vars scope) (O:EnvOK sc env vars h H):closureFor scope env = pure (closOf env scope):=
 closureFor_of (g:=fun x=>(env.cells.lookup x).getD 0) fun x hx=>by
  obtain ⟨a,e⟩:=c.cells O x (List.mem_map.mpr ⟨(x,.free),List.mem_filter.mpr ⟨hx,rfl⟩,rfl⟩)
  rw [e];rfl
end
end Mine
namespace Mine
variable [Wd]
section
variable {h₁:Gl}{r:Nat}{sc:Sc}{vars:List (Str × D)}{env:Env}{H:List Addr}
abbrev TestsP (h₁:Gl) (r:Nat) (sc:Sc) (vars:List (Str × D)) (ifs:List Expr) (b:Bool):Prop:=(ifs = []∧b = true) ∨ ∃ c,ifs = [c]∧TSP h₁ r sc vars c b
theorem TestsP.run {prog:Program}{w:WW}{A:Around}{s:Shared}{ifs:List Expr}{b:Bool}{Q:Bool→Shared→Prop}{E:Value→Shared→Prop}(h:TestsP h₁ r sc vars ifs b) (T:Top1 h₁) (R:Room r A) (I:Inv h₁ H s) (O:EnvOK sc env vars s.heap H)
  (k:∀ s',SStep [] s s'→Inv h₁ H s'→Q b s'):wpAny (model prog w) A (forIn ifs true fun c r=>if r = true then do let ok ← isTrue c env (eval c env);pure (ForInStep.yield ok) else pure (ForInStep.yield r)) Q E s:=by
 rcases h with ⟨rfl,rfl⟩ | ⟨c,rfl,ht⟩
 ·exact wpAny_tests_nil (k s (SStep.refl _ _) I)
 ·exact wpAny_tests_one (ht prog w A env s H Q E T R I O k)
noncomputable def compOut (b:Nat→Bool) (ys:Nat→D) (n:Nat):List D:=(List.range n).flatMap fun i=>if b i then [ys i] else []
theorem compOut_succ (b:Nat→Bool) (ys:Nat→D) (n:Nat):compOut b ys (n + 1) = compOut b ys n ++ if b n then [ys n] else []:=by
 unfold compOut
 rw [List.range_succ,List.flatMap_append]
 simp
theorem compOut_len (b:Nat→Bool) (ys:Nat→D):∀ n,(compOut b ys n).length ≤ n
 | 0=>by simp [compOut]
 | n + 1=>by
  rw [compOut_succ,List.length_append]
  have:=compOut_len b ys n
  split <;> simp <;> lia
theorem comp_cells {scope:Scope}{s:Shared}(hc:CompSc sc vars scope) (O:EnvOK sc env vars s.heap H):∀ y c,(closOf env scope).lookup y = some c→c < s.heap.objs.size:=fun y c e=>by
 have hy:=closOf_names e
 refine ex02 (hc.free y hy) fun _ b q=>?_
 rw [closOf_lookup hy] at e
 rcases q with q | q
 ·obtain ⟨d,hd⟩:=Option.isSome_iff_exists.mp q
  refine ex0123 (O.cel y d hd (by rw [b];nofun)) fun _ a v e1 _ e3 _=>?_
  rw [e1] at e;cases e;exact e3.lt
 ·obtain ⟨v,hv⟩:=Option.isSome_iff_exists.mp q
  refine ex0112 (O.raw y v hv (by rw [b];nofun)) fun _ a e1 _ e3=>?_
  rw [e1] at e;cases e;exact e3.lt
end
end Mine
namespace Mine
variable [Wd]
section
variable {h₁:Gl}{r:Nat}{sc:Sc}{vars:List (Str × D)}{env:Env}{H:List Addr}
noncomputable def signsOf (x:Str):List D:=x.cps.toList.map fun c=>.str ⟨#[c]⟩
theorem EVI.str {e:Expr}{x:Str}(he:EVP h₁ r sc vars e (.str x)):EVI h₁ r sc vars e (signsOf x):=by
 intro prog w A env s H Q E T R I O k
 with_reducible refine he prog w A env s H _ E T R I O fun v s₁ st I₁ hv=>?_
 obtain ⟨_,rfl⟩:=V.strI hv
 refine wpAny_pyIter_str fun o St W hst=>?_
 have st2:SStep [] s₁ { s₁ with heap:=s₁.heap.push o }:=SStep.heap' (Step.push _)
 have hlen:x.cps.size = (signsOf x).length:=by simp [signsOf]
 have W':=W A R.hd
 rw [hlen] at W'
 refine k _ _ _ _ _ ⟨st.trans st2,I₁.pushHide _,st.st.size,by simp,W',fun i v _ hP=>?_,hst,fun b hb=>?_⟩
 ·refine ex21 hP fun c u e1 zq1=>?_;subst zq1
  refine ⟨.str ⟨#[c]⟩,?_,.str _ _⟩
  unfold signsOf
  rw [List.getElem?_map]
  simp [e1]
 ·exact .inl (List.mem_singleton.mp hb)
noncomputable def rangeL (a b:Nat):List D:=(List.range (b - a)).map fun i=>.int ((a + i:Nat):Int)
theorem rangeL_len {a b:Nat}:(rangeL a b).length = b - a:=by simp [rangeL]
theorem rangeL_get {a b i:Nat}(h:i < b - a):(rangeL a b)[i]? = some (.int ((a + i:Nat):Int)):=by
 unfold rangeL
 rw [List.getElem?_map,List.getElem?_range h];rfl
theorem rangeIt {prog:Program}{w:WW}{A:Around}{s s₁:Shared}{a b:Nat}{t u v:Tok}{tk:Nat}{Q:Value→Shared→Prop}{E:Value→Shared→Prop}(ha:a < 2 ^ 60) (hb:b < 2 ^ 60) (R:Room r A) (st:SStep [] s s₁) (I₁:Inv h₁ H s₁)
  (k:∀ it s' fp P St,ItOK prog w A h₁ H s s' it (rangeL a b) fp P St→Q (.ref it) s') :
  wpAny (model prog w) A (pyIter (.ref s₁.heap.objs.size)) Q E { s₁ with heap:=s₁.heap.push { cls:=.type "range",data:=.fields #[.int (a:Int) t,.int (b:Int) u,.int 1 v] },toks:=tk }:=by
 have I₂:Inv h₁ H { s₁ with heap:=s₁.heap.push { cls:=.type "range",data:=.fields #[.int (a:Int) t,.int (b:Int) u,.int 1 v] },toks:=tk }:=I₁.grown (fun _ _ e=>Heap.get?_push_of_some _ e) (by simp)
 have st2:SStep [] s₁ { s₁ with heap:=s₁.heap.push { cls:=.type "range",data:=.fields #[.int (a:Int) t,.int (b:Int) u,.int 1 v] },toks:=tk }:=SStep.heap (Step.push _) tk
 refine wpAny_pyIter_range (a:=(a:Int)) (b:=(b:Int)) (c:=1) (IsRange.new ..) (small_one (by lia) (by lia) (by lia) (by lia)) ?_
 have hsz:Builtin.Range.rangeSize (a:Int) (b:Int) 1 = ((b - a:Nat):Int):=by rw [rangeSize_one];split <;> lia
 rw [hsz]
 generalize hs2:({ s₁ with heap:=s₁.heap.push { cls:=.type "range",data:=.fields #[.int (a:Int) t,.int (b:Int) u,.int 1 v] },toks:=tk }:Shared) = s₂ at I₂ st2
 have W:=Walks.range (prog:=prog) (w:=w) R.hd s₂.heap.objs.size (a:Int) 1 (rangeL a b).length
 have st3:SStep [] s₂ { s₂ with heap:=s₂.heap.push { cls:=.type "range_iterator",data:=.fields #[rawInt (a:Int),rawInt ((b - a:Nat):Int),rawInt 1] } }:=SStep.heap' (Step.push _)
 refine k _ _ _ _ _ ⟨(st.trans st2).trans st3,I₂.pushHide _,(st.trans st2).st.size,by simp,W,fun i v hi hP=>?_,?_,fun b hb=>.inl (List.mem_singleton.mp hb)⟩
 ·obtain ⟨t,rfl⟩:=hP
  rw [rangeL_len] at hi
  refine ⟨_,rangeL_get hi,?_⟩
  have e:(a:Int) + (i:Int) * 1 = ((a + i:Nat):Int):=by lia
  rw [e];exact .int _ _
 ·have e:(a:Int) + ((0:Nat):Int) * 1 = (a:Int):=by lia
  have e2:((rangeL a b).length:Int) - ((0:Nat):Int) = ((b - a:Nat):Int):=by rw [rangeL_len];lia
  show IsRangeIter _ _ ((a:Int) + ((0:Nat):Int) * 1) (((rangeL a b).length:Int) - ((0:Nat):Int)) 1
  rw [e,e2]
  exact Heap.get?_push_size _ rfl
theorem EVI.range1 {e:Expr}{p pos:Pos}{b:Nat}(he:EVP h₁ r sc vars e (.int (b:Int))) (hb:b < 2 ^ 60) (hk:sc.names.lookup (Str.ofString "range") = some .globalImplicit) (hs:isStarred e = false:=by rfl):EVI h₁ r sc vars (.Call (.Name "range" p) [e] [] pos) (rangeL 0 b):=by
 intro prog w A env s H Q E T R I O k
 refine evalCall (NameIs.bi (by decide) (f:=.type "range") rfl hk) KeepOK.type (EVS.cons he EVS.nil hs) T R I O fun vs s₁ st I₁ hvs=>?_
 replace hvs:=VL.consI hvs
 refine ex22 hvs fun _ _ zq1 hv hn=>?_;subst zq1
 ·
  obtain rfl:=VL.nilI hn;obtain ⟨_,rfl⟩:=V.intI hv
  refine call_range_1 ?_
  exact rangeIt (a:=0) (by decide) hb R st I₁ k
theorem EVI.range2 {e e':Expr}{p pos:Pos}{a b:Nat}(he:EVP h₁ r sc vars e (.int (a:Int))) (he':EVP h₁ r sc vars e' (.int (b:Int))) (ha:a < 2 ^ 60) (hb:b < 2 ^ 60) (hk:sc.names.lookup (Str.ofString "range") = some .globalImplicit) (hs:isStarred e = false:=by rfl) (hs':isStarred e' = false:=by rfl):EVI h₁ r sc vars (.Call (.Name "range" p) [e,e'] [] pos) (rangeL a b):=by
 intro prog w A env s H Q E T R I O k
 refine evalCall (NameIs.bi (by decide) (f:=.type "range") rfl hk) KeepOK.type (EVS.cons he (EVS.cons he' EVS.nil hs') hs) T R I O fun vs s₁ st I₁ hvs=>?_
 replace hvs:=VL.consI hvs
 refine ex22 hvs fun _ _ zq1 hv hn=>?_;subst zq1
 ·
  replace hn:=VL.consI hn
  obtain ⟨_,_,rfl,hv2,hn⟩:=hn
  obtain rfl:=VL.nilI hn;obtain ⟨_,rfl⟩:=V.intI hv;obtain ⟨_,rfl⟩:=V.intI hv2
  refine call_range_2 ?_
  exact rangeIt ha hb R st I₁ k
end
end Mine
namespace Mine
variable [Wd]
section
variable {h₁:Gl}{r:Nat}{sc:Sc}{vars:List (Str × D)}{env:Env}{H:List Addr}
noncomputable def subS (x:Str) (a b:Nat):Str:=⟨((x.cps.toList.drop a).take (b - a)).toArray⟩
abbrev PartP (h₁:Gl) (r:Nat) (sc:Sc) (vars:List (Str × D)) (p:Option Expr) (a dflt:Nat):Prop:=(p = none∧a = dflt) ∨ ∃ e,p = some e∧EVP h₁ r sc vars e (.int (a:Int))
theorem PartP.run {prog:Program}{w:WW}{A:Around}{s:Shared}{p:Option Expr}{a dflt:Nat}{Q:Value→Shared→Prop}{E:Value→Shared→Prop}(h:PartP h₁ r sc vars p a dflt) (T:Top1 h₁) (R:Room r A) (I:Inv h₁ H s) (O:EnvOK sc env vars s.heap H)
  (k:∀ q s',SStep [] s s'→Inv h₁ H s'→(q = none∧a = dflt ∨ ∃ t,q = some ((a:Int),t))→Q (partValue q) s'):wpAny (model prog w) A (evalPart p env) Q E s:=by
 rcases h with ⟨rfl,e⟩ | ⟨e,rfl,he⟩
 ·rw [evalPart_none]
  exact wpAny_pure (k none s (SStep.refl _ _) I (.inl ⟨rfl,e⟩))
 ·rw [evalPart_some]
  refine he prog w A env s H Q E T R I O fun v s' st I' hv=>?_
  obtain ⟨_,rfl⟩:=V.intI hv
  rename_i t
  exact k (some ((a:Int),t)) s' st I' (.inr ⟨t,rfl⟩)
theorem indices_none_lo {hi:Option Int}{len:Nat}:Builtin.Str.strSliceIndices none hi 1 len = Builtin.Str.strSliceIndices (some ((0:Nat):Int)) hi 1 len:=by
 unfold Builtin.Str.strSliceIndices
 have e:max (0:Int) (min ((0:Nat):Int) (len:Int)) = 0:=by rw [Int.min_eq_left (show ((0:Nat):Int) ≤ (len:Int) from Int.natCast_nonneg len)];rfl
 have h0:¬ (((0:Nat):Int) < 0):=Int.lt_irrefl 0
 simp only [h0,if_false,e,show ((1:Int) > 0) = True from by simp,if_true]
theorem indices_none_hi {lo:Option Int}{len:Nat}:Builtin.Str.strSliceIndices lo none 1 len = Builtin.Str.strSliceIndices lo (some (len:Int)) 1 len:=by
 unfold Builtin.Str.strSliceIndices
 have e:max (0:Int) (min (len:Int) (len:Int)) = len:=by rw [Int.min_self,Int.max_eq_right (Int.natCast_nonneg len)]
 have h0:¬ ((len:Int) < 0):=Int.not_lt.mpr (Int.natCast_nonneg len)
 simp only [h0,if_false,e,show ((1:Int) > 0) = True from by simp,if_true]
theorem sliceFin {x:Str}{t:Tok}{a b:Nat}{ql qu:Option (Int × Tok)}{s s₃:Shared}{H:List Addr}{Q:Value→Shared→Prop}(hab:a ≤ b) (hb:b ≤ x.length) (hx20:x.length ≤ 2 ^ 20) (hql:ql = none∧a = 0 ∨ ∃ t,ql = some ((a:Int),t)) (hqu:qu = none∧b = x.length ∨ ∃ t,qu = some ((b:Int),t)) (st:SStep [] s s₃) (I₃:Inv h₁ H s₃)
  (k:∀ v s',SStep [] s s'→Inv h₁ H s'→V s'.heap H v (.str (subS x a b))→Q v s'):(sliceMade x t ql qu none).post Q { s₃ with heap:=s₃.heap.push { cls:=.type "slice",data:=.fields #[partValue ql,partValue qu,.none] } }:=by
 have e1:slicePicked x ql qu none = (List.range (b - a)).map (fun k=>a + k):=by
  rw [← StrLaws.strSliceIndices_plain hab hb]
  rcases hql with ⟨rfl,rfl⟩ | ⟨t1,rfl⟩ <;> rcases hqu with ⟨rfl,rfl⟩ | ⟨t2,rfl⟩
  ·show Builtin.Str.strSliceIndices none none 1 x.length = _
   rw [indices_none_lo,indices_none_hi]
  ·show Builtin.Str.strSliceIndices none (some (b:Int)) 1 x.length = _
   rw [indices_none_lo]
  ·show Builtin.Str.strSliceIndices (some (a:Int)) none 1 x.length = _
   rw [indices_none_hi]
  ·rfl
 have hpick:(slicePicked x ql qu none).filterMap (x.cps[·]?) = (x.cps.toList.drop a).take (b - a):=by
  rw [e1,← StrLaws.strSliceIndices_plain hab hb]
  exact StrLaws.sliced_plain x hab hb
 have I₄:=I₃.pushed { cls:=.type "slice",data:=.fields #[partValue ql,partValue qu,.none] }
 have st4:SStep [] s { s₃ with heap:=s₃.heap.push { cls:=.type "slice",data:=.fields #[partValue ql,partValue qu,.none] } }:=st.trans (SStep.heap' (Step.push _))
 unfold sliceMade
 split
 ·rename_i hc
  have hlen:(slicePicked x ql qu none).length = x.length:=by
   rw [Bool.and_eq_true] at hc
   simpa using hc.2
  have hx:subS x a b = x:=by
   rw [e1,List.length_map,List.length_range] at hlen
   have ha:a = 0:=by omega
   have hb':b = x.length:=by omega
   subst ha
   unfold subS
   rw [hb',Nat.sub_zero,List.drop_zero,List.take_of_length_le (by simp [Str.length])]
  show Q (.str x t) _
  rw [hx] at k
  exact k _ _ st4 I₄ (.str _ _)
 ·rw [hpick]
  refine ⟨?_,k _ _ (st4.trans (SStep.toks _ _)) (I₄.toks _) (.str _ _)⟩
  have h3:((x.cps.toList.drop a).take (b - a)).length ≤ x.length:=by rw [List.length_take];omega
  rw [sizeLine_eq]
  show ((x.cps.toList.drop a).take (b - a)).toArray.size ≤ _
  simp only [List.size_toArray]
  omega
theorem EVP.sliceS {value:Expr}{lower upper:Option Expr}{p pos:Pos}{x:Str}{a b:Nat}(hv:EVP h₁ r sc vars value (.str x)) (hl:PartP h₁ r sc vars lower a 0) (hu:PartP h₁ r sc vars upper b x.length) (hab:a ≤ b) (hb:b ≤ x.length) (hx20:x.length ≤ 2 ^ 20)
  (ht:∀ o r,letTemporaryGo value o r = pure ():=by intro _ _;rfl):EVP h₁ r sc vars (.Subscript value (.Slice lower upper none p) pos) (.str (subS x a b)):=by
 intro prog w A env s H Q E T R I O k
 refine wpAny_Subscript_str_slice (hv prog w A env s H _ E T R I O fun v s₁ st I₁ hx=>?_) ht
 obtain ⟨_,rfl⟩:=V.strI hx
 rename_i t
 refine hl.run T R I₁ (O.grow st.st) fun ql s₂ st₂ I₂ hql=>?_
 refine hu.run T R I₂ ((O.grow st.st).grow st₂.st) fun qu s₃ st₃ I₃ hqu=>?_
 refine ⟨x,t,ql,qu,rfl,rfl,rfl,?_⟩
 exact sliceFin hab hb hx20 hql hqu (st.trans (st₂.trans st₃)) I₃ k
end
end Mine
namespace Mine
variable [Wd]
structure Rp (X:List Addr) where
 ok:Heap→List Addr→Prop
 stab:∀ {h h':Heap}{Y H H':List Addr},ok h H→Step Y h h'→(∀ y ∈ Y,y ∈ H∧y ∉ X)→(∀ x ∈ H',x ∈ H ∨ h.objs.size ≤ x)→ok h' H'
theorem Rp.grow {X:List Addr}(P:Rp X) {h h':Heap}{H:List Addr}(x:P.ok h H) (st:Step [] h h'):P.ok h' H:=P.stab x st (fun _ q=>nomatch q) fun _ q=>.inl q
theorem Rp.less {X:List Addr}(P:Rp X) {h:Heap}{H H':List Addr}(x:P.ok h H) (hh:∀ x ∈ H',x ∈ H ∨ h.objs.size ≤ x):P.ok h H':=P.stab x (Step.refl [] h) (fun _ q=>nomatch q) hh
noncomputable def Rp.nil {X:List Addr}:Rp X:=⟨fun _ _=>True,fun _ _ _ _=>trivial⟩
noncomputable def Rp.and {X:List Addr}(P Q:Rp X):Rp X:=⟨fun h H=>P.ok h H∧Q.ok h H,fun x st a b=>⟨P.stab x.1 st a b,Q.stab x.2 st a b⟩⟩
noncomputable def Rp.up {X Y:List Addr}(h:∀ x ∈ X,x ∈ Y) (P:Rp X):Rp Y:=⟨P.ok,fun x st a b=>P.stab x st (fun y q=>⟨(a y q).1,fun z=>(a y q).2 (h y z)⟩) b⟩
structure Own (env:Env) (X H:List Addr):Prop where
 sub:∀ x ∈ X,x ∈ H
 loc:env.locals ∉ X
 cel:∀ n c,env.cells.lookup n = some c→c ∉ X
abbrev EVR (h₁:Gl) (r:Nat) (sc:Sc) (vars:List (Str × D)) (X:List Addr) (P:Rp X) (e:Expr) (d:D) (P':Rp X):Prop:=
 ∀ (prog:Program) (w:WW) (A:Around) (env:Env) (s:Shared) (H:List Addr) (Q:Value→Shared→Prop) (E:Value→Shared→Prop),
  Top1 h₁→Room r A→Inv h₁ H s→EnvOK sc env vars s.heap H→Own env X H→P.ok s.heap H →
  (∀ v s',SStep X s s'→Inv h₁ H s'→P'.ok s'.heap H→V s'.heap H v d→Q v s')→wpAny (model prog w) A (eval e env) Q E s
abbrev TSR (h₁:Gl) (r:Nat) (sc:Sc) (vars:List (Str × D)) (X:List Addr) (P:Rp X) (e:Expr) (b:Bool) (P':Rp X):Prop:=
 ∀ (prog:Program) (w:WW) (A:Around) (env:Env) (s:Shared) (H:List Addr) (Q:Bool→Shared→Prop) (E:Value→Shared→Prop),
  Top1 h₁→Room r A→Inv h₁ H s→EnvOK sc env vars s.heap H→Own env X H→P.ok s.heap H →
  (∀ s',SStep X s s'→Inv h₁ H s'→P'.ok s'.heap H→Q b s')→wpAny (model prog w) A (isTrue e env (eval e env)) Q E s
abbrev CallR (h₁:Gl) (r:Nat) (f:Value) (ds:List D) (X:List Addr) (P:Rp X) (d:D) (P':Rp X):Prop:=
 ∀ (prog:Program) (w:WW) (A:Around) (s:Shared) (H:List Addr) (vs:List Value) (Q:Value→Shared→Prop) (E:Value→Shared→Prop),
  Top1 h₁→Room r A→Inv h₁ H s→VL s.heap H vs ds→(∀ x ∈ X,x ∈ H)→P.ok s.heap H →
  (∀ v s',SStep X s s'→Inv h₁ H s'→P'.ok s'.heap H→V s'.heap H v d→Q v s')→wpAny (model prog w) A (call f vs) Q E s
abbrev SXR1 (h₁:Gl) (r:Nat) (sc:Sc) (vars:List (Str × D)) (X:List Addr) (P:Rp X) (st:Stmt) (Φ:Out→Rp X→Prop):Prop:=
 ∀ (prog:Program) (w:WW) (A:Around) (env:Env) (s:Shared) (H:List Addr) (Q:Flow→Shared→Prop) (E:Value→Shared→Prop),
  Top1 h₁→Room r A→Inv h₁ H s→Fm sc env vars s.heap H→Own env X H→P.ok s.heap H →
  (∀ o P' f s',Φ o P'→SStep (wr sc env ++ X) s s'→Inv h₁ H s'→P'.ok s'.heap H→OutOK sc env s'.heap H o f→Q f s')→wpAny (model prog w) A (exec st env) Q E s
abbrev SXR (h₁:Gl) (r:Nat) (sc:Sc) (vars:List (Str × D)) (X:List Addr) (P:Rp X) (body:List Stmt) (Φ:Out→Rp X→Prop):Prop:=
 ∀ (prog:Program) (w:WW) (A:Around) (env:Env) (s:Shared) (H:List Addr) (Q:Flow→Shared→Prop) (E:Value→Shared→Prop),
  Top1 h₁→Room r A→Inv h₁ H s→Fm sc env vars s.heap H→Own env X H→P.ok s.heap H →
  (∀ o P' f s',Φ o P'→SStep (wr sc env ++ X) s s'→Inv h₁ H s'→P'.ok s'.heap H→OutOK sc env s'.heap H o f→Q f s')→wpAny (model prog w) A (execs body env) Q E s
noncomputable def KontR (h₁:Gl) (r:Nat) (sc:Sc) (X:List Addr) (rest:List Stmt) (Φ:Out→Rp X→Prop):Out→Rp X→Prop
 | .next vs,P=>SXR h₁ r sc vs X P rest Φ
 | .brk vs,P=>Φ (.brk vs) P
 | .cont vs,P=>Φ (.cont vs) P
 | .ret d,P=>Φ (.ret d) P
section
variable {h₁:Gl}{r:Nat}{sc:Sc}{vars:List (Str × D)}{env:Env}{X H:List Addr}{P P' P'':Rp X}
theorem SStep.wX {s s':Shared}(st:SStep X s s'):SStep (wr sc env ++ X) s s':=st.mono fun _ q=>.inl (List.mem_append_right _ q)
theorem SStep.wF {s s':Shared}(st:SStep (wr sc env) s s'):SStep (wr sc env ++ X) s s':=st.mono fun _ q=>.inl (List.mem_append_left _ q)
theorem Own.wr {h:Heap}(O:Own env X H) (W:Wr sc env h H):∀ y ∈ wr sc env,y ∈ H∧y ∉ X:=fun y hy=>by
 refine ⟨wr_sub W y hy,?_⟩
 rcases wr_mem hy with rfl | ⟨n,_,e⟩
 ·exact O.loc
 ·exact O.cel n y e
theorem EnvOK.own {h h':Heap}(O:EnvOK sc env vars h H) (W:Own env X H) (st:Step X h h'):EnvOK sc env vars h' H:=O.step st W.sub W.loc W.cel fun _ q=>.inl q
theorem Fm.own {h h':Heap}(F:Fm sc env vars h H) (W:Own env X H) (st:Step X h h'):Fm sc env vars h' H:=F.step st W.sub W.loc W.cel (fun _ q=>.inl q) fun _ q=>q
theorem Rp.frame {h h':Heap}(x:P.ok h H) (O:Own env X H) (W:Wr sc env h H) (st:Step (Mine.wr sc env) h h'):P.ok h' H:=P.stab x st (O.wr W) fun _ q=>.inl q
theorem V.own {h h':Heap}{v:Value}{d:D}(x:V h H v d) (W:Own env X H) (st:Step X h h'):V h' H v d:=x.step st W.sub fun _ q=>.inl q
theorem EVP.re {e:Expr}{d:D}(he:EVP h₁ r sc vars e d):EVR h₁ r sc vars X P e d P:=by
 intro prog w A env s H Q E T R I O W p k
 with_reducible exact he prog w A env s H Q E T R I O fun v s' st I' hv=>k v s' st.up I' (P.grow p st.st) hv
theorem TSP.re {e:Expr}{b:Bool}(he:TSP h₁ r sc vars e b):TSR h₁ r sc vars X P e b P:=by
 intro prog w A env s H Q E T R I O W p k
 with_reducible exact he prog w A env s H Q E T R I O fun s' st I'=>k s' st.up I' (P.grow p st.st)
theorem EVR.call {x:Str}{f:Value}{p pos:Pos}{args:List Expr}{ds:List D}{d:D}(hn:NameIs h₁ sc x f) (hk:KeepOK h₁ f) (ha:EVS h₁ r sc vars args ds) (hc:CallR h₁ r f ds X P d P'):EVR h₁ r sc vars X P (.Call (.Name x p) args [] pos) d P':=by
 intro prog w A env s H Q E T R I O W pk k
 refine evalCall hn hk ha T R I O fun vs s₁ st I₁ hvs=>?_
 with_reducible refine hc prog w A s₁ H vs Q E T R I₁ hvs W.sub (P.grow pk st.st) fun v s₂ st₂ I₂ p₂ hv=>?_
 exact k _ _ (st.up.trans st₂) I₂ p₂ hv
theorem TSR.cmp {l rr:Expr}{op:CmpOp}{pos:Pos}{d1 d2:D}{b:Bool}(hl:EVR h₁ r sc vars X P l d1 P') (hr:EVR h₁ r sc vars X P' rr d2 P'') (ho:COp op d1 d2 b) (hm:behindInMarks op rr = false:=by rfl):TSR h₁ r sc vars X P (.Compare l [op] [rr] pos) b P'':=by
 intro prog w A env s H Q E T R I O W p k
 with_reducible refine wpAny_isTrue_Compare1 (hl prog w A env s H _ E T R I O W p fun v s₁ st I₁ p₁ hv=>?_) hm
 with_reducible refine hr prog w A env s₁ H _ E T R I₁ (O.own W st.st) W p₁ fun v' s₂ st₂ I₂ p₂ hv₂=>?_
 with_reducible refine ho prog w A s₂ H _ _ _ E (R.less (Nat.zero_le _)) (hv.own W st₂.st) hv₂ ?_
 with_reducible refine wpAny_truthy_bool ?_
 exact k _ (st.trans st₂) I₂ p₂
theorem SXR.nil {Φ:Out→Rp X→Prop}(h:Φ (.next vars) P):SXR h₁ r sc vars X P [] Φ:=by
 intro prog w A env s H Q E T R I F W p k
 with_reducible refine wpAny_execs_nil ?_
 exact k _ _ _ _ h (SStep.refl _ _) I p F
theorem SXR.kont {st:Stmt}{rest:List Stmt}{Φ:Out→Rp X→Prop}(h:SXR1 h₁ r sc vars X P st (KontR h₁ r sc X rest Φ)):SXR h₁ r sc vars X P (st::rest) Φ:=by
 intro prog w A env s H Q E T R I F W p k
 with_reducible refine wpAny_execs_cons (h prog w A env s H _ E T R I F W p fun o P₁ f s₁ ho' st₁ I₁ p₁ ok=>?_)
 cases o with
 | next vs=>
  cases f <;> first | (exact ok.elim) | skip
  have F₁:Fm sc env vs s₁.heap H:=ok
  have ho'':SXR h₁ r sc vs X P₁ rest Φ:=ho'
  with_reducible exact ho'' prog w A env s₁ H _ E T R I₁ F₁ W p₁ fun o P₂ f s₂ h₂ st₂ I₂ p₂ ok₂=>k o P₂ f s₂ h₂ (st₁.trans st₂) I₂ p₂ ok₂
 | brk vs=>
  cases f <;> first | (exact ok.elim) | skip
  exact k _ _ _ _ ho' st₁ I₁ p₁ ok
 | cont vs=>
  cases f <;> first | (exact ok.elim) | skip
  exact k _ _ _ _ ho' st₁ I₁ p₁ ok
 | ret d=>
  cases f <;> first | (exact ok.elim) | skip
  exact k _ _ _ _ ho' st₁ I₁ p₁ ok
theorem SXR.done {rest:List Stmt}{Φ:Out→Rp X→Prop}(h:SXR h₁ r sc vars X P rest Φ):SXR h₁ r sc vars X P [] (KontR h₁ r sc X rest Φ):=by
 have h':KontR h₁ r sc X rest Φ (.next vars) P:=h
 with_reducible exact SXR.nil h'
theorem SX1.re {st:Stmt}{Φ:Out→Prop}{Ψ:Out→Rp X→Prop}(h:SX1 h₁ r sc vars st Φ) (hp:∀ o,Φ o→Ψ o P):SXR1 h₁ r sc vars X P st Ψ:=by
 intro prog w A env s H Q E T R I F W p k
 with_reducible exact h prog w A env s H Q E T R I F fun o f s' ho st' I' ok=>k o P f s' (hp o ho) st'.wF I' (Rp.frame p W F.w st'.st) ok
theorem SX.re {body:List Stmt}{Φ:Out→Prop}{Ψ:Out→Rp X→Prop}(h:SX h₁ r sc vars body Φ) (hp:∀ o,Φ o→Ψ o P):SXR h₁ r sc vars X P body Ψ:=by
 intro prog w A env s H Q E T R I F W p k
 with_reducible exact h prog w A env s H Q E T R I F fun o f s' ho st' I' ok=>k o P f s' (hp o ho) st'.wF I' (Rp.frame p W F.w st'.st) ok
theorem SXR.pure1 {st:Stmt}{rest:List Stmt}{Φ:Out→Rp X→Prop}{vs:List (Str × D)}(h:SX1 h₁ r sc vars st (· = .next vs)) (hn:SXR h₁ r sc vs X P rest Φ):SXR h₁ r sc vars X P (st::rest) Φ:=
 SXR.kont (SX1.re h fun o e=>by subst e;exact hn)
theorem SXR.mono {body:List Stmt}{Φ Ψ:Out→Rp X→Prop}(h:SXR h₁ r sc vars X P body Φ) (hw:∀ o P,Φ o P→Ψ o P):SXR h₁ r sc vars X P body Ψ:=by
 intro prog w A env s H Q E T R I F W p k
 exact h prog w A env s H Q E T R I F W p fun o P' f s' q=>k o P' f s' (hw o P' q)
theorem SXR1.ite {t:Expr}{body orelse:List Stmt}{pos:Pos}{b:Bool}{Φ:Out→Rp X→Prop}(ht:TSR h₁ r sc vars X P t b P') (hb:b = true→SXR h₁ r sc vars X P' body Φ) (ho:b = false→SXR h₁ r sc vars X P' orelse Φ):SXR1 h₁ r sc vars X P (.If t body orelse pos) Φ:=by
 intro prog w A env s H Q E T R I F W p k
 with_reducible refine wpAny_If (ht prog w A env s H _ E T R I F.ok W p fun s₁ st I₁ p₁=>?_)
 cases b with
 | true=>
  simp only [if_true]
  with_reducible exact hb rfl prog w A env s₁ H Q E T R I₁ (F.own W st.st) W p₁ fun o P₂ f s₂ ph st₂ I₂ p₂ ok=>k o P₂ f s₂ ph (st.wX.trans st₂) I₂ p₂ ok
 | false=>
  simp only [Bool.false_eq_true,if_false]
  with_reducible exact ho rfl prog w A env s₁ H Q E T R I₁ (F.own W st.st) W p₁ fun o P₂ f s₂ ph st₂ I₂ p₂ ok=>k o P₂ f s₂ ph (st.wX.trans st₂) I₂ p₂ ok
theorem SXR.ite {t:Expr}{body orelse rest:List Stmt}{pos:Pos}{b:Bool}{Φ:Out→Rp X→Prop}(ht:TSR h₁ r sc vars X P t b P') (hb:b = true→SXR h₁ r sc vars X P' body (KontR h₁ r sc X rest Φ)) (ho:b = false→SXR h₁ r sc vars X P' orelse (KontR h₁ r sc X rest Φ)):SXR h₁ r sc vars X P (.If t body orelse pos::rest) Φ:=by
 with_reducible exact SXR.kont (SXR1.ite ht hb ho)
theorem SXR1.assign {x:Str}{p pos:Pos}{e:Expr}{d:D}{Φ:Out→Rp X→Prop}(he:EVR h₁ r sc vars X P e d P') (hs:Sto sc x) (hΦ:Φ (.next ((x,d)::vars)) P') (hn:noSwap e = true:=by rfl):SXR1 h₁ r sc vars X P (.Assign [.Name x p] e pos) Φ:=by
 intro prog w A env s H Q E T R I F W pk k
 with_reducible refine wpAny_Assign_Name (he prog w A env s H _ E T R I F.ok W pk fun v s₁ st I₁ p₁ hv=>?_) (swaps_no hn)
 have F₁:=F.own W st.st
 with_reducible refine store hs I₁ F₁ hv fun s₂ st₂ I₂ F₂=>?_
 exact k _ _ _ _ hΦ (st.wX.trans st₂.wF) I₂ (Rp.frame p₁ W F₁.w st₂.st) F₂
theorem SXR.assign {x:Str}{p pos:Pos}{e:Expr}{d:D}{rest:List Stmt}{Φ:Out→Rp X→Prop}(he:EVR h₁ r sc vars X P e d P') (hs:Sto sc x) (hk:SXR h₁ r sc ((x,d)::vars) X P' rest Φ) (hn:noSwap e = true:=by rfl):SXR h₁ r sc vars X P (.Assign [.Name x p] e pos::rest) Φ:=by
 have hk':KontR h₁ r sc X rest Φ (.next ((x,d)::vars)) P':=hk
 with_reducible exact SXR.kont (SXR1.assign he hs hk' hn)
theorem SXR1.ret {e:Expr}{pos:Pos}{d:D}{Φ:Out→Rp X→Prop}(he:EVR h₁ r sc vars X P e d P') (hΦ:Φ (.ret d) P'):SXR1 h₁ r sc vars X P (.Return (some e) pos) Φ:=by
 intro prog w A env s H Q E T R I F W pk k
 with_reducible refine wpAny_Return_some (he prog w A env s H _ E T R I F.ok W pk fun v s₁ st I₁ p₁ hv=>?_)
 exact k _ _ _ _ hΦ st.wX I₁ p₁ hv
theorem SXR.ret {e:Expr}{pos:Pos}{d:D}{rest:List Stmt}{Φ:Out→Rp X→Prop}(he:EVR h₁ r sc vars X P e d P') (hΦ:Φ (.ret d) P'):SXR h₁ r sc vars X P (.Return (some e) pos::rest) Φ:=by
 have hk':KontR h₁ r sc X rest Φ (.ret d) P':=hΦ
 with_reducible exact SXR.kont (SXR1.ret he hk')
theorem SXR.expr {e:Expr}{pos:Pos}{d:D}{rest:List Stmt}{Φ:Out→Rp X→Prop}(he:EVR h₁ r sc vars X P e d P') (hk:SXR h₁ r sc vars X P' rest Φ) (hs:noSwap e = true:=by rfl):SXR h₁ r sc vars X P (.Expr e pos::rest) Φ:=by
 intro prog w A env s H Q E T R I F W p k
 refine runExpr F.ok hs (he prog w A env s H _ E T R I F.ok W p fun v s₁ st I₁ p₁ hv=>?_)
 with_reducible exact hk prog w A env s₁ H Q E T R I₁ (F.own W st.st) W p₁ fun o P₂ f s₂ ph st₂ I₂ p₂ ok=>k o P₂ f s₂ ph (st.wX.trans st₂) I₂ p₂ ok
theorem SXR1.unpack {elts:List Expr}{n:Nat}{tp pos:Pos}{e:Expr}{ds:List D}{Φ:Out→Rp X→Prop}(he:EVR h₁ r sc vars X P e (.tuple ds) P') (hl:elts.length = ds.length) (hs:∀ e ∈ elts,Sto sc (nmOf e)) (hΦ:Φ (.next (puts vars ((elts.map nmOf).zip ds))) P') (hn:elts.all isName = true:=by rfl)
  (hw:notTup e = true:=by rfl) (hns:noSwap e = true:=by rfl):SXR1 h₁ r sc vars X P (.Assign [.Tuple elts n tp] e pos) Φ:=by
 intro prog w A env s H Q E T R I F W pk k
 have hsw:swapsWithSole [.Tuple elts n tp] e pos.line env = pure false:=by
  show swapsWith e (some (.Tuple elts n tp)) pos.line env = pure false
  exact swaps_no hns
 with_reducible refine Assign_Tuple (he prog w A env s H _ E T R I F.ok W pk fun v s₁ st I₁ p₁ hv=>?_) hsw (swapped_none hw)
 have F₁:=F.own W st.st
 with_reducible refine unpackNames R I₁ F₁ hv hl hs hn fun s₂ st₂ I₂ F₂=>?_
 exact k _ _ _ _ hΦ (st.wX.trans st₂.wF) I₂ (Rp.frame p₁ W F₁.w st₂.st) F₂
end
end Mine
namespace Mine
variable [Wd]
structure Itr (prog:Program) (w:WW) (A:Around) (target:Expr) (it:Addr) (Y:List Addr) (items:List D) (St:Nat→Rp Y):Prop where
 item:∀ (i:Nat) (d:D) (s:Shared) (H:List Addr) (Q:Value→Shared→Prop) (E:Value→Shared→Prop),items[i]? = some d→(St i).ok s.heap H→(∀ y ∈ Y,y ∈ H)→(∀ a ∈ H,a < s.heap.objs.size)→N0 ≤ s.heap.objs.size →
  (∀ v s',Quiet Y s s'→(St (i + 1)).ok s'.heap H→V s'.heap H v d→Q v s') →
  wpAny (model prog w) A (pyNext (.ref it)) (fun o s₁=>∃ v,o = some v∧wpAny (model prog w) A (letOwnedTupleGo target (.ref it) v) (fun _ s₂=>Q v s₂) E s₁) E s
 done:∀ (s:Shared) (H:List Addr) (Q:Option Value→Shared→Prop) (E:Value→Shared→Prop),(St items.length).ok s.heap H→(∀ s',Quiet Y s s'→Q none s')→wpAny (model prog w) A (pyNext (.ref it)) Q E s
 self:∀ (i:Nat) (s:Shared) (H:List Addr) (Q:Value→Shared→Prop) (E:Value→Shared→Prop),(St i).ok s.heap H→Q (.ref it) s→wpAny (model prog w) A (pyIter (.ref it)) Q E s
theorem Itr.next {prog:Program}{w:WW}{A:Around}{target:Expr}{it:Addr}{Y:List Addr}{items:List D}{St:Nat→Rp Y}(K:Itr prog w A target it Y items St) {i:Nat}{d:D}{s:Shared}{H:List Addr}{Q':Option Value→Shared→Prop}{Q:Value→Shared→Prop}{E:Value→Shared→Prop}
  (hQ':∀ v s₁,wpAny (model prog w) A (letOwnedTupleGo target (.ref it) v) (fun _ s₂=>Q v s₂) E s₁→Q' (some v) s₁) (hd:items[i]? = some d) (hst:(St i).ok s.heap H) (hY:∀ y ∈ Y,y ∈ H) (hH:∀ a ∈ H,a < s.heap.objs.size) (hN:N0 ≤ s.heap.objs.size)
  (hQ:∀ v s',Quiet Y s s'→(St (i + 1)).ok s'.heap H→V s'.heap H v d→Q v s'):wpAny (model prog w) A (pyNext (.ref it)) Q' E s:=
 wpAny_mono (K.item i d s H Q E hd hst hY hH hN hQ) (fun o s' ho=>by refine ex11 ho fun v zq1 h=>?_;subst zq1;exact hQ' v s' h) fun _ _ x=>x
abbrev EVJ (h₁:Gl) (r:Nat) (sc:Sc) (vars:List (Str × D)) (e:Expr) (target:Expr) (items:List D):Prop:=
 ∀ (prog:Program) (w:WW) (A:Around) (env:Env) (s:Shared) (H:List Addr) (Q:Value→Shared→Prop) (E:Value→Shared→Prop),
  Top1 h₁→Room r A→Inv h₁ H s→EnvOK sc env vars s.heap H →
  (∀ it Y St s',Itr prog w A target it Y items St→SStep [] s s'→Inv h₁ (Y ++ H) s'→(∀ y ∈ Y,s.heap.objs.size ≤ y)→(St 0).ok s'.heap (Y ++ H)→Q (.ref it) s') →
  wpAny (model prog w) A (eval e env) (fun x s₁=>wpAny (model prog w) A (pyIter x) Q E s₁) E s
section
variable {h₁:Gl}{r:Nat}{sc:Sc}{vars:List (Str × D)}{env:Env}{X H:List Addr}{P P' P'':Rp X}
noncomputable def walkSt {prog:Program}{w:WW}{A:Around}{it:Addr}{fp:List Addr}{n:Nat}{Pv:Nat→Value→Prop}{S:Nat→Heap→Prop}(W:Walks prog w A it fp [it] n Pv S) (items:List D) (i:Nat):Rp [it] where
 ok h H:=S i h∧(∀ b ∈ fp,b = it ∨ (b ∉ H∧N0 ≤ b∧b < h.objs.size))∧N0 ≤ it∧it < h.objs.size∧∀ j v,j < n→Pv j v→∃ d,items[j]? = some d∧V h H v d
 stab:=fun {h h' Y H H'} x st hY hH=>by
  refine ex04 x fun a b c e f=>?_
  have hle:h.objs.size ≤ h'.objs.size:=st.size
  refine ⟨W.frame _ _ _ a fun y hy o ho=>?_,fun y hy=>?_,c,Nat.lt_of_lt_of_le e hle,fun j v hj hv=>?_⟩
  ·rcases b y hy with rfl | ⟨b1,b2,b3⟩
   ·exact st.keep _ _ ho (fun q=>(hY _ q).2 (.head _)) (tabs_lt c)
   ·exact st.keep _ _ ho (fun q=>b1 (hY _ q).1) (tabs_lt b2)
  ·rcases b y hy with rfl | ⟨b1,b2,b3⟩
   ·exact .inl rfl
   ·exact .inr ⟨fun q=>(hH _ q).elim b1 fun z=>Nat.lt_irrefl _ (Nat.lt_of_lt_of_le b3 z),b2,Nat.lt_of_lt_of_le b3 hle⟩
  ·refine ex11 (f j v hj hv) fun d h1 h2=>?_
   exact ⟨d,h1,h2.step st (fun y q=>(hY y q).1) hH⟩
theorem Walks.itr {prog:Program}{w:WW}{A:Around}{it:Addr}{fp:List Addr}{items:List D}{Pv:Nat→Value→Prop}{S:Nat→Heap→Prop}{x:Str}{p:Pos}(W:Walks prog w A it fp [it] items.length Pv S):Itr prog w A (.Name x p) it [it] items (walkSt W items) where
 item:=fun i d s H Q E hd hst hY hH hN hQ=>by
  refine ex04 hst fun a b c e f=>?_
  have hi:i < items.length:=(List.getElem?_eq_some_iff.mp hd).1
  refine with_size (W.item i s _ _ hi a fun v h' tk hP hS hk hz=>?_)
  have q:Quiet [it] s { s with heap:=h',toks:=tk }:=⟨hk,hz,rfl,rfl⟩
  refine ⟨v,rfl,own_name _ _ _ ?_⟩
  refine ex11 (f i v hi hP) fun d' e1 e2=>?_
  rw [hd] at e1;cases e1
  have hw:∀ y ∈ [it],N0 ≤ y:=fun y hy=>by rcases ms hy with rfl;exact c
  have st:=(q.st hw).st
  refine hQ v _ q ⟨hS,fun y hy=>?_,c,Nat.lt_of_lt_of_le e hz,fun j v hj hv=>?_⟩ (e2.step st hY fun _ q=>.inl q)
  ·exact (b y hy).imp id fun ⟨b1,b2,b3⟩=>⟨b1,b2,Nat.lt_of_lt_of_le b3 hz⟩
  ·refine ex11 (f j v hj hv) fun d h1 h2=>?_
   exact ⟨d,h1,h2.step st hY fun _ q=>.inl q⟩
 done:=fun s H Q E hst hQ=>by
  refine with_size (W.done s _ _ hst.1 fun h' tk hk hz=>?_)
  exact hQ _ ⟨hk,hz,rfl,rfl⟩
 self:=fun i s H Q E hst hQ=>W.self i s Q E hst.1 hQ
theorem EVI.j {e:Expr}{items:List D}{x:Str}{p:Pos}(he:EVI h₁ r sc vars e items):EVJ h₁ r sc vars e (.Name x p) items:=by
 intro prog w A env s H Q E T R I O k
 refine he prog w A env s H Q E T R I O fun it s' fp Pv S K=>?_
 refine k it [it] _ s' (Walks.itr K.walk) K.st K.inv (fun y hy=>by rcases ms hy with rfl;exact K.new) ?_
 refine ⟨K.st0,fun b hb=>?_,(K.inv.hok it (.head _)).1,K.lt,fun j v hj hv=>K.val j v hj hv⟩
 rcases K.foot b hb with rfl | ⟨h1,h2,h3⟩
 ·exact .inl rfl
 ·by_cases hq:b = it
  ·exact .inl hq
  ·refine .inr ⟨fun q=>?_,h2,h3⟩
   rcases List.mem_cons.mp q with q | q
   ·exact hq q
   ·exact h1 q
inductive Tgt (sc:Sc):Expr→List (Str × D)→D→List (Str × D)→Prop
 | name {x:Str}{p:Pos}{vars:List (Str × D)}{d:D}:Sto sc x→Tgt sc (.Name x p) vars d ((x,d)::vars)
 | tup {elts:List Expr}{n:Nat}{p:Pos}{vars:List (Str × D)}{ds:List D}:elts.length = ds.length→(∀ e ∈ elts,Sto sc (nmOf e))→elts.all isName = true→Tgt sc (.Tuple elts n p) vars (.tuple ds) (puts vars ((elts.map nmOf).zip ds))
theorem assignT {prog:Program}{w:WW}{A:Around}{s:Shared}{target:Expr}{v:Value}{d:D}{vars':List (Str × D)}{Q:Unit→Shared→Prop}{E:Value→Shared→Prop}(ht:Tgt sc target vars d vars') (R:Room r A) (I:Inv h₁ H s) (F:Fm sc env vars s.heap H) (hv:V s.heap H v d)
  (k:∀ s',SStep (wr sc env) s s'→Inv h₁ H s'→Fm sc env vars' s'.heap H→Q () s'):wpAny (model prog w) A (assign target env v) Q E s:=by
 cases ht with
 | name hs=>exact PyProof.Rows.assign_Name (store hs I F hv k)
 | tup hl hs hn=>exact unpackNames R I F hv hl hs hn k
theorem Own.more {Y:List Addr}(O:Own env X H):Own env X (Y ++ H):=⟨fun x hx=>List.mem_append_right _ (O.sub x hx),O.loc,O.cel⟩
theorem Fm.more {h h':Heap}{Y:List Addr}(F:Fm sc env vars h H) (st:Step [] h h') (hY:∀ y ∈ Y,h.objs.size ≤ y):Fm sc env vars h' (Y ++ H):=
 F.step st (fun _ q=>nomatch q) (fun q=>nomatch q) (fun _ _ _ q=>nomatch q) (fun x hx=>(List.mem_append.mp hx).symm.imp id fun q=>hY x q) fun _ q=>List.mem_append_right _ q
theorem Rp.more {h h':Heap}{Y:List Addr}(x:P.ok h H) (st:Step [] h h') (hY:∀ y ∈ Y,h.objs.size ≤ y):P.ok h' (Y ++ H):=
 P.stab x st (fun _ q=>nomatch q) fun x hx=>(List.mem_append.mp hx).symm.imp id fun q=>hY x q
theorem V.fewer {h:Heap}{Y:List Addr}{v:Value}{d:D}(x:V h (Y ++ H) v d):V h H v d:=x.less fun _ q=>.inl (List.mem_append_right _ q)
theorem Rp.fewer {h:Heap}{Y:List Addr}(x:P.ok h (Y ++ H)):P.ok h H:=P.less x fun _ q=>.inl (List.mem_append_right _ q)
theorem SXR1.for_ {target iter:Expr}{body:List Stmt}{pos:Pos}{items:List D}{Φ:Out→Rp X→Prop}(hiter:EVJ h₁ r sc vars iter target items) (J:Nat→List (Str × D)→Rp X→Prop)
  (turn:∀ i d vs P,items[i]? = some d→J i vs P→∃ vs',Tgt sc target vs d vs'∧SXR h₁ r sc vs' X P body fun o P'=>(∃ vs'',(o = .next vs'' ∨ o = .cont vs'')∧J (i + 1) vs'' P') ∨ ∃ d',o = .ret d'∧Φ o P')
  (fin:∀ vs P,J items.length vs P→Φ (.next vs) P) (h0:J 0 vars P) (hs:∀ env x,foldedSetIterable iter env x = pure x):SXR1 h₁ r sc vars X P (.For target iter body [] pos) Φ:=by
 intro prog w A env s H Q E T R I F W pk k
 refine wpAny_For (hiter prog w A env s H _ E T R I F.ok fun it Y St s₁ K st₁ I₁ hY hst=>?_) (hs env)
 have hF:=fun x (hx:x ∈ wr sc env)=>(I.hok x (wr_sub F.w x hx)).2
 have hYw:∀ y ∈ Y,y ∉ wr sc env:=fun y hy q=>absurd (hF y q) (Nat.not_lt.mpr (hY y hy))
 have hYX:∀ y ∈ Y,y ∉ X:=fun y hy q=>absurd (I.hok y (W.sub y q)).2 (Nat.not_lt.mpr (hY y hy))
 have hYN:∀ y ∈ Y,N0 ≤ y:=fun y hy=>(I₁.hok y (List.mem_append_left _ hy)).1
 have hYH:∀ y ∈ Y,y ∈ Y ++ H:=fun y hy=>List.mem_append_left _ hy
 have hYc:∀ n c,env.cells.lookup n = some c→c ∉ Y:=fun n c e q=>absurd (F.ok.lt n c e) (Nat.not_lt.mpr (hY c q))
 have hYl:env.locals ∉ Y:=fun q=>hYw _ q (.head _)
 have W':Own env X (Y ++ H):=W.more
 have back:∀ {s':Shared},SStep (wr sc env ++ X ++ Y) s₁ s'→SStep (wr sc env ++ X) s s':=fun st=>((st₁.up (X:=wr sc env ++ X ++ Y)).trans st).mono fun y hy=>by
  rcases List.mem_append.mp hy with q | q
  ·exact .inl q
  ·exact .inr (hY y q)
 have kq:∀ {vs:List (Str × D)}{P:Rp X}{s' s'':Shared},Quiet Y s' s''→Inv h₁ (Y ++ H) s'→Fm sc env vs s'.heap (Y ++ H)→P.ok s'.heap (Y ++ H) →
   Inv h₁ (Y ++ H) s''∧Fm sc env vs s''.heap (Y ++ H)∧P.ok s''.heap (Y ++ H)∧SStep (wr sc env ++ X ++ Y) s' s'':=fun q I F p=>by
  have st:=q.st hYN
  exact ⟨I.quiet q hYH,F.step st.st hYH hYl hYc (fun _ q=>.inl q) fun _ q=>q,Rp.stab _ p st.st (fun y hy=>⟨hYH y hy,hYX y hy⟩) fun _ q=>.inl q,st.mono fun y hy=>.inl (List.mem_append_right _ hy)⟩
 refine codeAny_forLoop_any (fun n s'=>∃ i vs P,n = items.length - i∧i ≤ items.length∧J i vs P∧SStep (wr sc env ++ X ++ Y) s₁ s'∧Inv h₁ (Y ++ H) s'∧Fm sc env vs s'.heap (Y ++ H)∧P.ok s'.heap (Y ++ H)∧(St i).ok s'.heap (Y ++ H)) ?_ items.length
  ⟨0,vars,P,rfl,Nat.zero_le _,h0,SStep.refl _ _,I₁,F.more st₁.st hY,Rp.more pk st₁.st hY,hst⟩
 intro n s₂ zq
 refine ex37 zq fun i vs P₂ zq1 hi hJ st₂ I₂ F₂ p₂ hst₂=>?_;subst zq1
 by_cases hlt:i < items.length
 ·have hd:items[i]? = some items[i]:=List.getElem?_eq_getElem hlt
  generalize items[i] = d at hd
  refine ex11 (turn i d vs P₂ hd hJ) fun vs' ht hb=>?_
  refine K.next (fun v s₁ h=>h) hd hst₂ hYH (fun a q=>(I₂.hok a q).2) I₂.size fun v s₃ q₃ hst₃ hv₃=>?_
  refine ex03 (kq q₃ I₂ F₂ p₂) fun I₃ F₃ p₃ st₃=>?_
  refine assignT ht R I₃ F₃ hv₃ fun s₄ st₄ I₄ F₄=>?_
  have p₄:=Rp.frame p₃ W' F₃.w st₄.st
  refine hb prog w A env s₄ (Y ++ H) _ _ T R I₄ F₄ W' p₄ fun o P₅ f s₅ ho st₅ I₅ p₅ ok=>?_
  have st25:SStep (wr sc env ++ X ++ Y) s₁ s₅:=st₂.trans (st₃.trans ((st₄.mono fun y hy=>.inl (List.mem_append_left _ (List.mem_append_left _ hy))).trans (st₅.mono fun y hy=>.inl (List.mem_append_left _ hy))))
  have hst₅:(St (i + 1)).ok s₅.heap (Y ++ H):=by
   have a:=Rp.stab (St (i + 1)) hst₃ st₄.st (H':=Y ++ H) (fun y hy=>⟨wr_sub F₃.w y hy,fun q=>hYw y q hy⟩) fun _ q=>.inl q
   refine Rp.stab (St (i + 1)) a st₅.st (fun y hy=>?_) fun _ q=>.inl q
   rcases List.mem_append.mp hy with q | q
   ·exact ⟨wr_sub F₃.w y q,fun z=>hYw y z q⟩
   ·exact ⟨W'.sub y q,fun z=>hYX y z q⟩
  rcases ho with ⟨vs'',ho,hJ'⟩ | ⟨d',ho,hΦ⟩
  ·rcases ho with rfl | rfl
   ·cases f <;> first | (exact ok.elim) | skip
    exact ⟨items.length - (i + 1),by omega,i + 1,vs'',P₅,rfl,hlt,hJ',st25,I₅,ok,p₅,hst₅⟩
   ·cases f <;> first | (exact ok.elim) | skip
    exact ⟨items.length - (i + 1),by omega,i + 1,vs'',P₅,rfl,hlt,hJ',st25,I₅,ok,p₅,hst₅⟩
  ·subst ho
   cases f <;> first | (exact ok.elim) | skip
   have hv:V s₅.heap (Y ++ H) _ d':=ok
   exact k _ _ _ _ hΦ (back st25) (I₅.sub fun _ q=>List.mem_append_right _ q) (Rp.fewer p₅) hv.fewer
 ·have hin:i = items.length:=by omega
  subst hin
  refine K.done s₂ (Y ++ H) _ _ hst₂ fun s₃ q₃=>?_
  refine ex03 (kq q₃ I₂ F₂ p₂) fun I₃ F₃ p₃ st₃=>?_
  with_reducible refine wpAny_execs_nil ?_
  have F₄:Fm sc env vs s₃.heap H:=F₃.sub (fun _ q=>List.mem_append_right _ q) (wr_sub F.w)
  exact k _ _ _ _ (fin vs P₂ hJ) (back (st₂.trans st₃)) (I₃.sub fun _ q=>List.mem_append_right _ q) (Rp.fewer p₃) F₄
theorem SXR.for_ {target iter:Expr}{body rest:List Stmt}{pos:Pos}{items:List D}{Φ:Out→Rp X→Prop}(hiter:EVJ h₁ r sc vars iter target items) (J:Nat→List (Str × D)→Rp X→Prop)
  (turn:∀ i d vs P,items[i]? = some d→J i vs P→∃ vs',Tgt sc target vs d vs'∧SXR h₁ r sc vs' X P body fun o P'=>(∃ vs'',(o = .next vs'' ∨ o = .cont vs'')∧J (i + 1) vs'' P') ∨ ∃ d',o = .ret d'∧Φ o P')
  (fin:∀ vs P,J items.length vs P→SXR h₁ r sc vs X P rest Φ) (h0:J 0 vars P) (hs:∀ env x,foldedSetIterable iter env x = pure x):SXR h₁ r sc vars X P (.For target iter body [] pos::rest) Φ:=by
 refine SXR.kont (SXR1.for_ (items:=items) hiter J (fun i d vs P hd hJ=>?_) fin h0 hs)
 refine ex11 (turn i d vs P hd hJ) fun vs' a b=>?_
 refine ⟨vs',a,SXR.mono b fun o P' ho=>?_⟩
 rcases ho with ho | ⟨d',rfl,ho⟩
 ·exact .inl ho
 ·exact .inr ⟨d',rfl,ho⟩
end
end Mine
namespace Mine
variable [Wd]
section
variable {h₁:Gl}{r:Nat}{sc:Sc}{vars:List (Str × D)}{env:Env}{X H:List Addr}{P P' P'':Rp X}
theorem Quiet.refl (X:List Addr) (s:Shared):Quiet X s s:=⟨fun _ _ _ e=>e,Nat.le_refl _,rfl,rfl⟩
theorem Quiet.trans {X:List Addr}{s s' s'':Shared}(a:Quiet X s s') (b:Quiet X s' s''):Quiet X s s'':=⟨fun x o n e=>b.keep x o n (a.keep x o n e),Nat.le_trans a.size b.size,b.os.trans a.os,b.gens.trans a.gens⟩
inductive TgtL (sc:Sc):Expr→List (Str × D)→D→List (Str × D)→Prop
 | name {x:Str}{p:Pos}{vars:List (Str × D)}{d:D}:stoK sc x = some .local→TgtL sc (.Name x p) vars d ((x,d)::vars)
 | tup {elts:List Expr}{n:Nat}{p:Pos}{vars:List (Str × D)}{ds:List D}:elts.length = ds.length→(∀ e ∈ elts,stoK sc (nmOf e) = some .local)→elts.all isName = true→TgtL sc (.Tuple elts n p) vars (.tuple ds) (puts vars ((elts.map nmOf).zip ds))
theorem assignNamesL {prog:Program}{w:WW}{A:Around}{env:Env}{H:List Addr}{Q:Unit→Shared→Prop}{E:Value→Shared→Prop}:∀ {elts:List Expr}{vs:List Value}{ds:List D}{vars:List (Str × D)}{s:Shared},elts.all isName = true→elts.length = vs.length →
  (∀ e ∈ elts,stoK sc (nmOf e) = some .local)→Inv h₁ H s→EnvOK sc env vars s.heap H→env.locals ∈ H→VL s.heap H vs ds →
  (∀ s',Quiet [env.locals] s s'→Inv h₁ H s'→EnvOK sc env (puts vars ((elts.map nmOf).zip ds)) s'.heap H→Q () s')→wpAny (model prog w) A (assignInOrder ((assignEach elts env).map (·.2)) vs) Q E s:=by
 intro elts
 induction elts with
 | nil=>
  intro vs ds vars s _ hl _ I F _ _ k
  obtain rfl:=List.eq_nil_of_length_eq_zero hl.symm
  show wpAny (model prog w) A (assignInOrder [] []) _ E _
  with_reducible refine wpAny_assignInOrder_none ?_
  exact k _ (Quiet.refl _ _) I F
 | cons e r ih=>
  intro vs ds vars s hn hl hs I F hL xs k
  rw [List.all_cons,Bool.and_eq_true] at hn
  obtain ⟨x',p,rfl⟩:=isNameI hn.1
  obtain ⟨d,ds',rfl⟩:=List.exists_cons_of_length_eq_add_one (hl.trans xs.length).symm
  refine ex22 xs.consI fun v ws zq x x2=>?_;subst zq
  have e1:assignEach (.Name x' p::r) env = (false,PySem.assign (.Name x' p) env)::assignEach r env:=rfl
  rw [e1,List.map_cons]
  with_reducible refine wpAny_assignInOrder_more (PyProof.Rows.assign_Name (storeLoc (hs (.Name x' p) (List.Mem.head _)) I F hL x fun s₁ st₁ I₁ F₁=>?_))
  have hLN:∀ y ∈ [env.locals],N0 ≤ y:=fun y q=>by rcases ms q with rfl;exact F.low
  have xs':=x2.step (st₁.st hLN).st (fun y q=>by rcases ms q with rfl;exact hL) fun _ q=>.inl q
  refine ih hn.2 (Nat.succ.inj hl) (fun e he=>hs e (.tail _ he)) I₁ F₁ hL xs' fun s₂ st₂ I₂ F₂=>?_
  exact k _ (st₁.trans st₂) I₂ F₂
theorem assignTL {prog:Program}{w:WW}{A:Around}{s:Shared}{target:Expr}{v:Value}{d:D}{vars':List (Str × D)}{Q:Unit→Shared→Prop}{E:Value→Shared→Prop}(ht:TgtL sc target vars d vars') (R:Room r A) (I:Inv h₁ H s) (O:EnvOK sc env vars s.heap H) (hL:env.locals ∈ H) (hv:V s.heap H v d)
  (k:∀ s',Quiet [env.locals] s s'→Inv h₁ H s'→EnvOK sc env vars' s'.heap H→Q () s'):wpAny (model prog w) A (PySem.assign target env v) Q E s:=by
 cases ht with
 | name hs=>exact PyProof.Rows.assign_Name (storeLoc hs I O hL hv k)
 | tup hl hs hn=>
  rename_i elts n p ds
  refine ex46 hv.asTuple fun a o vs m zq1 e1 e2 e3 e4 e5 e6=>?_;subst zq1
  have hT:s.heap.IsTuple a vs:=⟨o,e1,e2,_,e3⟩
  have hz:vs.size = ds.length:=by have:=e6.length;simpa using this
  have ha:=assignEach_names (env:=env) hn
  rw [arm_assign_Tuple]
  refine wpAny_bind (wpAny_standAt ?_)
  unfold unpack
  have hlen:(assignEach elts env).length = vs.size:=by rw [ha.1,hz,hl]
  rw [hlen,ha.2]
  refine wpAny_bind (wpAny_holding (with_size (wpAny_unpackItems_tuple R.hd hT fun h' hx hz'=>?_)))
  have st:Step [] s.heap h':=Step.extBut hx hz'
  refine assignNamesL hn (by rw [hl,← hz];simp) hs (I.extBut hx hz') (O.grow st) hL (e6.grow st) fun s₂ st₂ I₂ F₂=>?_
  have q0:Quiet [env.locals] s { s with heap:=h' }:=⟨fun b o _ e=>hx b o (Nat.ne_of_lt (Heap.lt_size e)) e,hz',rfl,rfl⟩
  exact k _ (q0.trans st₂) I₂ F₂
abbrev ActR (h₁:Gl) (r:Nat) (sc:Sc) (vars cv:List (Str × D)) (env:Env) (X:List Addr) (P:Rp X) (act:Sem Unit) (P':Rp X):Prop:=
 ∀ (prog:Program) (w:WW) (A:Around) (s:Shared) (H:List Addr) (Q:Unit→Shared→Prop) (E:Value→Shared→Prop),
  Top1 h₁→Room r A→Inv h₁ H s→EnvOK sc env vars s.heap H→env.locals ∈ H→Own env X H→P.ok s.heap H →
  (∀ s',SStep (env.locals::X) s s'→Inv h₁ H s'→EnvOK sc env cv s'.heap H→P'.ok s'.heap H→Q () s')→wpAny (model prog w) A act Q E s
noncomputable def compTree (target:Expr) (ifs:List Expr) (p:Pos) (act:Sem Unit) (it:Value) (env:Env) (more:Code):Sem Fin:=do
 standAt p
 match ← pyNext it with
 | none=>pure (.done .next)
 | some v=>
  letOwnedTupleGo target it v
  PySem.assign target env v
  let mut ok:=true
  for c in ifs do
   if ok then ok ← isTrue c env (eval c env)
  if ok then
   act
  again more
structure Clause (e:Expr) (k:Nat) (target:Expr) (ifs:List Expr) (p:Pos) (act:Sem Unit) (it acc:Value) (env:Env):Prop where
 den:∀ prog w,(model prog w).den (.compLoop e k it acc env) = (compTree target ifs p act it env (.compLoop e k it acc env)).onRaise (fun x=>do noteFrame x env;theTreesLotGoes x)
 quiet:(Code.compLoop e k it acc env).quiet = true
 under:∀ A:Around,A.under (.compLoop e k it acc env) = A
theorem compLoopG {prog:Program}{w:WW}{A:Around}{s:Shared}{e:Expr}{k:Nat}{target:Expr}{ifs:List Expr}{p:Pos}{act:Sem Unit}{it:Addr}{acc:Value}{Y:List Addr}{items:List D}{St:Nat→Rp Y}{b:Nat→Bool}{cv:List (Str × D)}{R':Result→Shared→Prop}(Ps:Nat→Rp X)
  (C:Clause e k target ifs p act (.ref it) acc env) (T:Top1 h₁) (R:Room r A) (K:Itr prog w A target it Y items St) (I:Inv h₁ H s) (O:EnvOK sc env cv s.heap H) (hL:env.locals ∈ H) (W:Own env X H) (hYH:∀ y ∈ Y,y ∈ H) (hYX:∀ y ∈ Y,y ∉ X) (hYl:env.locals ∉ Y) (hYc:∀ n c,env.cells.lookup n = some c→c ∉ Y) (hCl:∀ n c,env.cells.lookup n = some c→c ≠ env.locals)
  (turn:∀ i d,items[i]? = some d→∃ cv',TgtL sc target cv d cv'∧(∀ y e,cv.lookup y = some e→cv'.lookup y = some e)∧TestsP h₁ r sc cv' ifs (b i)∧(b i = false→Ps (i + 1) = Ps i)∧(b i = true→ActR h₁ r sc cv' cv env X (Ps i) act (Ps (i + 1))))
  (fin:∀ s',SStep (env.locals::(Y ++ X)) s s'→Inv h₁ H s'→EnvOK sc env cv s'.heap H→(Ps items.length).ok s'.heap H→R' (.ok .next) s') (h0:(Ps 0).ok s.heap H) (hst:(St 0).ok s.heap H) :
  codeAny (model prog w) A (.compLoop e k (.ref it) acc env) R' s:=by
 have hN:∀ {a},a ∈ H→N0 ≤ a:=fun q=>(I.hok _ q).1
 have hLN:∀ y ∈ [env.locals],N0 ≤ y:=fun y q=>by rcases ms q with rfl;exact O.low
 have hYN:∀ y ∈ Y,N0 ≤ y:=fun y hy=>hN (hYH y hy)
 have hlX:env.locals ∉ X:=W.loc
 refine codeAny_loop C.quiet (fun n s'=>∃ i,n = items.length - i∧i ≤ items.length∧SStep (env.locals::(Y ++ X)) s s'∧Inv h₁ H s'∧EnvOK sc env cv s'.heap H∧(Ps i).ok s'.heap H∧(St i).ok s'.heap H) (fun n s' hI=>?_) items.length ⟨0,by omega,Nat.zero_le _,SStep.refl _ _,I,O,h0,hst⟩
 refine ex16 hI fun i zq1 hi st' I' O' p' hst'=>?_;subst zq1
 rw [C.under,C.den]
 refine wpAny_noted ?_
 unfold compTree
 refine wpAny_bind (wpAny_standAt (wpAny_bind ?_))
 have kq:∀ {vs:List (Str × D)}{P:Rp X}{s' s'':Shared},Quiet Y s' s''→Inv h₁ H s'→EnvOK sc env vs s'.heap H→P.ok s'.heap H →
   Inv h₁ H s''∧EnvOK sc env vs s''.heap H∧P.ok s''.heap H∧SStep (env.locals::(Y ++ X)) s' s'':=fun q I F p=>by
  have st:=q.st hYN
  exact ⟨I.quiet q hYH,F.step st.st hYH hYl hYc fun _ q=>.inl q,Rp.stab _ p st.st (fun y hy=>⟨hYH y hy,hYX y hy⟩) fun _ q=>.inl q,st.mono fun y hy=>.inl (.tail _ (List.mem_append_left _ hy))⟩
 by_cases hlt:i < items.length
 ·have hd:items[i]? = some items[i]:=List.getElem?_eq_getElem hlt
  generalize items[i] = d at hd
  refine ex14 (turn i d hd) fun cv' ht hw htests hb0 hb1=>?_
  refine K.next (Q:=fun v s₂=>wpAny (model prog w) A (PySem.assign target env v >>= fun _=>_) _ _ s₂) (fun v s₁ h=>wpAny_bind h) hd hst' hYH (fun a q=>(I'.hok a q).2) I'.size fun v s₂ q₂ hst₂ hv₂=>?_
  refine ex03 (kq q₂ I' O' p') fun I₂ O₂ p₂ st₂=>?_
  refine wpAny_bind (assignTL ht R I₂ O₂ hL hv₂ fun s₃ q₃ I₃ O₃=>?_)
  have st₃:=q₃.st hLN
  have p₃:(Ps i).ok s₃.heap H:=Rp.stab _ p₂ st₃.st (fun y hy=>by rcases ms hy with rfl;exact ⟨hL,hlX⟩) fun _ q=>.inl q
  have hst₃:(St (i + 1)).ok s₃.heap H:=Rp.stab _ hst₂ st₃.st (fun y hy=>by rcases ms hy with rfl;exact ⟨hL,hYl⟩) fun _ q=>.inl q
  refine wpAny_bind (htests.run T R I₃ O₃ fun s₄ st₄ I₄=>?_)
  have O₄:=O₃.grow st₄.st
  have p₄:=Rp.grow _ p₃ st₄.st
  have hst₄:=Rp.grow _ hst₃ st₄.st
  have all:SStep (env.locals::(Y ++ X)) s s₄:=st'.trans (st₂.trans ((st₃.mono fun y hy=>.inl (by rcases ms hy with rfl;exact .head _)).trans st₄.up))
  cases hb:b i with
  | false=>
   exact wpAny_pure ⟨rfl,items.length - (i + 1),by omega,i + 1,rfl,hlt,all,I₄,O₄.weak hw,by rw [hb0 hb];exact p₄,hst₄⟩
  | true=>
   refine wpAny_bind (hb1 hb prog w A s₄ H _ _ T R I₄ O₄ hL W p₄ fun s₅ st₅ I₅ O₅ p₅=>wpAny_pure ⟨rfl,items.length - (i + 1),by omega,i + 1,rfl,hlt,?_,I₅,O₅,p₅,?_⟩)
   ·exact all.trans (st₅.mono fun y hy=>.inl (by
     rcases mc hy with rfl | hy
     ·exact .head _
     ·exact .tail _ (List.mem_append_right _ hy)))
   ·refine Rp.stab _ hst₄ st₅.st (fun y hy=>?_) fun _ q=>.inl q
    rcases mc hy with rfl | hy
    ·exact ⟨hL,hYl⟩
    ·exact ⟨W.sub y hy,fun q=>hYX y q hy⟩
 ·have hin:i = items.length:=by omega
  subst hin
  refine K.done s' H _ _ hst' fun s₂ q₂=>?_
  refine ex03 (kq q₂ I' O' p') fun I₂ O₂ p₂ st₂=>?_
  exact wpAny_pure (fin s₂ (st'.trans st₂) I₂ O₂ p₂)
end
end Mine
namespace Mine
variable [Wd]
noncomputable def dkv (m:List (Str × D)):List (D × D):=m.map fun p=>(.str p.1,p.2)
abbrev dictD (m:List (Str × D)):D:=.dict (dkv m)
theorem strKeys_dkv (m:List (Str × D)):strKeys (dkv m):=fun p hp=>by
 refine ex11 (List.mem_map.mp hp) fun q _ zq1=>?_;subst zq1
 exact ⟨q.1,rfl⟩
theorem dkv_keys (m:List (Str × D)):(dkv m).map (·.1) = (m.map (·.1)).map PyData.str:=by simp [dkv,List.map_map,Function.comp_def]
theorem nodup_map_inj {α β:Type}{f:α→β}(hf:∀ a b,f a = f b→a = b):∀ {l:List α},l.Nodup→(l.map f).Nodup
 | [],_=>List.nodup_nil
 | x::l,h=>by
  rw [List.nodup_cons] at h
  rw [List.map_cons,List.nodup_cons]
  refine ⟨fun q=>?_,nodup_map_inj hf h.2⟩
  refine ex11 (List.mem_map.mp q) fun y hy e=>?_
  exact h.1 (hf _ _ e ▸ hy)
theorem nodup_of_map {α β:Type}{f:α→β}:∀ {l:List α},(l.map f).Nodup→l.Nodup
 | [],_=>List.nodup_nil
 | x::l,h=>by
  rw [List.map_cons,List.nodup_cons] at h
  rw [List.nodup_cons]
  exact ⟨fun q=>h.1 (List.mem_map_of_mem q),nodup_of_map h.2⟩
theorem dkv_nodup (m:List (Str × D)):((dkv m).map (·.1)).Nodup ↔ (m.map (·.1)).Nodup:=by
 rw [dkv_keys]
 exact ⟨nodup_of_map,nodup_map_inj fun a b e=>by cases e;rfl⟩
inductive VP (h:Heap) (H:List Addr):List (Str × Value)→List (Str × D)→Prop
 | nil:VP h H [] []
 | cons {k v d l m}:V h H v d→VP h H l m→VP h H ((k,v)::l) ((k,d)::m)
section
variable {h h':Heap}{H H' X:List Addr}
theorem VP.keys {l:List (Str × Value)}{m:List (Str × D)}(x:VP h H l m):l.map (·.1) = m.map (·.1):=by
 induction x with
 | nil=>rfl
 | cons _ _ ih=>rw [List.map_cons,List.map_cons,ih]
theorem VP.length {l:List (Str × Value)}{m:List (Str × D)}(x:VP h H l m):l.length = m.length:=by
 have:=congrArg List.length x.keys
 simpa using this
theorem VP.step (st:Step X h h') (sub:∀ x ∈ X,x ∈ H) (hh:∀ x ∈ H',x ∈ H ∨ h.objs.size ≤ x) {l:List (Str × Value)}{m:List (Str × D)}(x:VP h H l m):VP h' H' l m:=by
 induction x with
 | nil=>exact .nil
 | cons a _ ih=>exact .cons (a.step st sub hh) ih
noncomputable def strK (prog:Program) (w:WW):KeyKind prog w Str:=PySem.strKind prog w
theorem strK_is {prog:Program}{w:WW}(k:Str) (t:Tok):(strK prog w).is k (.str k t) = true:=by simp [strK,PySem.strKind,Value.isStrOf]
theorem strK_hash {prog:Program}{w:WW}(k:Str):(strK prog w).hash k = Wd.hs k:=w.eq k
theorem VD.consI {es:List DictEntry}{k:Str}{d:D}{m:List (D × D)}(x:VD h H es ((.str k,d)::m)):∃ e r t,es = e::r∧e.key = .str k t∧e.hash = Wd.hs k∧V h H e.val d∧VD h H r m:=by
 cases x with
 | cons a b c r=>exact ⟨_,_,_,rfl,a,b,c,r⟩
theorem VD.pairs (prog:Program) (w:WW) {es:List DictEntry}{m:List (Str × D)}(x:VD h H es (dkv m)):∃ l,Pairs (strK prog w) es l∧VP h H l m∧∀ e ∈ es,∃ k,(strK prog w).is k e.key = true∧e.hash = (strK prog w).hash k:=by
 induction m generalizing es with
 | nil=>
  obtain rfl:es = []:=by cases x;rfl
  exact ⟨[],.nil,.nil,fun _ q=>nomatch q⟩
 | cons p m ih=>
  obtain ⟨k,d⟩:=p
  refine ex34 (VD.consI x) fun e r t zq a b c r'=>?_;subst zq
  refine ex12 (ih r') fun l h1 h2 h3=>?_
  have hk:(strK prog w).is k e.key = true:=by rw [a];exact strK_is k t
  exact ⟨(k,e.val)::l,.cons hk rfl h1,.cons c h2,fm ⟨k,hk,by rw [b,strK_hash]⟩ h3⟩
theorem VP.back {prog:Program}{w:WW}:∀ {es:List DictEntry}{l:List (Str × Value)}{m:List (Str × D)},Pairs (strK prog w) es l→(∀ e ∈ es,∃ k,(strK prog w).is k e.key = true∧e.hash = (strK prog w).hash k)→VP h H l m→VD h H es (dkv m):=by
 intro es l m P
 induction P generalizing m with
 | nil=>intro _ x;cases x;exact .nil
 | @cons e kv es l p q r ih=>
  intro hk x
  obtain ⟨k,v⟩:=kv
  cases x with
  | @cons _ _ d _ m a b=>
  obtain ⟨t,et⟩:=Value.isStrOf_shape (x:=k) (v:=e.key) p
  refine ex11 (hk e (.head _)) fun k' e1 e2=>?_
  have ek:k' = k:=(strK prog w).inj _ _ _ e1 p
  subst ek
  have q':e.val = v:=q
  exact .cons et (by rw [e2,strK_hash]) (by rw [q'];exact a) (ih (fun e' he=>hk e' (.tail _ he)) b)
noncomputable def DI (h:Heap) (H:List Addr) (a:Addr) (m:List (Str × D)):Prop:=∃ es n,h.get? a = some { cls:=.type "dict",data:=.dict es n }∧VD h H es.toList (dkv m)∧(m.map (·.1)).Nodup
theorem DI.dictOf {a:Addr}{m:List (Str × D)}(x:DI h H a m) (prog:Program) (w:WW):∃ l,h.DictOf (strK prog w) a l∧VP h H l m:=by
 refine ex22 x fun es n e v nd=>?_
 refine ex12 (v.pairs prog w) fun l h1 h2 h3=>?_
 exact ⟨l,⟨_,es,n,e,⟨rfl,rfl,rfl⟩,rfl,fun e he=>h3 e (by simpa using he),h1,by rw [h2.keys];exact nd⟩,h2⟩
theorem DI.of {prog:Program}{w:WW}{a:Addr}{l:List (Str × Value)}{m:List (Str × D)}(x:h.DictOf (strK prog w) a l) (v:VP h H l m):DI h H a m:=by
 refine ex35 x fun o es n e ex ed hk hp nd=>?_
 obtain ⟨c,dd,dt,sl⟩:=o
 refine ex02 (ex:c = .type "dict"∧dd = none∧sl = #[]) fun zq1 zq2 zq3=>?_;subst zq1;subst zq2;subst zq3
 have ed':dt = .dict es n:=ed
 subst ed'
 exact ⟨es,n,e,VP.back hp (fun e he=>hk e (by simpa using he)) v,by rw [← v.keys];exact nd⟩
theorem V.asDI {v:Value}{m:List (Str × D)}(x:V h H v (dictD m)):∃ a,v = .ref a∧a ∉ H∧N0 ≤ a∧DI h H a m:=by
 refine ex35 (x.asDictX (strKeys_dkv m)) fun a es n zq1 e h1 h2 h3 h4=>?_;subst zq1
 exact ⟨a,rfl,h1,h2,es,n,e,h3,(dkv_nodup m).mp h4⟩
theorem DI.v {a:Addr}{m:List (Str × D)}(x:DI h H a m) (hH:a ∉ H) (hN:N0 ≤ a):V h H (.ref a) (dictD m):=by
 refine ex22 x fun es n e v nd=>?_
 exact .dict e hH hN v ((dkv_nodup m).mpr nd)
theorem DI.step {a:Addr}{m:List (Str × D)}(x:DI h H a m) (st:Step X h h') (sub:∀ x ∈ X,x ∈ H) (hh:∀ x ∈ H',x ∈ H ∨ h.objs.size ≤ x) (ha:a ∉ X) (hN:N0 ≤ a):DI h' H' a m:=by
 refine ex22 x fun es n e v nd=>?_
 exact ⟨es,n,st.keep _ _ e ha (tabs_lt hN),v.step st sub hh,nd⟩
theorem notSys {a:Addr}(h:N0 ≤ a):(a == sysModules) = false:=by
 simp only [beq_eq_false_iff_ne,ne_eq]
 exact fun q=>absurd h (by rw [q];decide)
noncomputable def dget (m:List (Str × D)) (k:Str):Option D:=m.lookup k
noncomputable def dput (m:List (Str × D)) (k:Str) (d:D):List (Str × D):=if m.any (fun p=>p.1 == k) then m.map (fun p=>if p.1 == k then (p.1,d) else p) else m ++ [(k,d)]
theorem VP.get {l:List (Str × Value)}{m:List (Str × D)}(x:VP h H l m) (k:Str):(dget m k = none∧valueAt l k = none) ∨ ∃ d v,dget m k = some d∧valueAt l k = some v∧V h H v d:=by
 induction x with
 | nil=>exact .inl ⟨rfl,rfl⟩
 | @cons k' v d l m a b ih=>
  by_cases hq:k = k'
  ·subst hq
   exact .inr ⟨d,v,by simp [dget],by simp [valueAt],a⟩
  ·have h1:(k == k') = false:=by simpa using hq
   have h2:¬ k' = k:=fun e=>hq e.symm
   have e1:dget ((k',d)::m) k = dget m k:=by unfold dget;rw [List.lookup_cons,h1]
   have e2:valueAt ((k',v)::l) k = valueAt l k:=by unfold valueAt;rw [List.find?_cons];simp [h2]
   rw [e1,e2];exact ih
theorem VP.append {l l':List (Str × Value)}{m m':List (Str × D)}(x:VP h H l m) (y:VP h H l' m'):VP h H (l ++ l') (m ++ m'):=by
 induction x with
 | nil=>exact y
 | cons a _ ih=>exact .cons a ih
theorem VP.any {l:List (Str × Value)}{m:List (Str × D)}(x:VP h H l m) (k:Str):(l.any fun kv=>decide (kv.1 = k)) = m.any fun p=>p.1 == k:=by
 induction x with
 | nil=>rfl
 | cons _ _ ih=>rw [List.any_cons,List.any_cons,ih];rfl
theorem VP.putMap {v:Value}{d:D}(k:Str) (hv:V h H v d) {l:List (Str × Value)}{m:List (Str × D)}(x:VP h H l m):VP h H (l.map fun kv=>if kv.1 = k then (kv.1,v) else kv) (m.map fun p=>if (p.1 == k) = true then (p.1,d) else p):=by
 induction x with
 | nil=>exact .nil
 | @cons k' _ _ _ _ a _ ih=>
  rw [List.map_cons,List.map_cons]
  by_cases hq:k' = k
  ·rw [if_pos hq,if_pos (beq_iff_eq.mpr hq)];exact .cons hv ih
  ·rw [if_neg hq,if_neg fun e=>hq (beq_iff_eq.mp e)];exact .cons a ih
theorem VP.put {l:List (Str × Value)}{m:List (Str × D)}{v:Value}{d:D}(x:VP h H l m) (k:Str) (hv:V h H v d):VP h H (stored l k v) (dput m k d):=by
 unfold stored dput
 rw [x.any k]
 split
 ·exact VP.putMap k hv x
 ·exact x.append (.cons hv .nil)
theorem dput_len (m:List (Str × D)) (k:Str) (d:D):(dput m k d).length ≤ m.length + 1:=by
 unfold dput;split <;> simp
end
noncomputable def Rp.list {X:List Addr}(a:Addr) (ha:a ∈ X) (ds:List D):Rp X where
 ok h H:=N0 ≤ a∧∃ vs,h.PlainList a vs∧VL h H vs.toList ds
 stab:=fun x st hY hH=>by
  refine ex0111 x fun n vs p v=>?_
  exact ⟨n,vs,p.at fun o e=>st.keep a o e (fun q=>(hY a q).2 ha) (tabs_lt n),v.step st (fun y q=>(hY y q).1) hH⟩
noncomputable def Rp.dict {X:List Addr}(a:Addr) (ha:a ∈ X) (m:List (Str × D)):Rp X where
 ok h H:=N0 ≤ a∧DI h H a m
 stab:=fun x st hY hH=>⟨x.1,x.2.step st (fun y q=>(hY y q).1) hH (fun q=>(hY a q).2 ha) x.1⟩
section
variable {h₁:Gl}{r:Nat}{sc:Sc}{vars:List (Str × D)}{env:Env}{X H:List Addr}{P P' P'':Rp X}
theorem GetOK.dict {m:List (Str × D)}{k:Str}{d:D}(hk:dget m k = some d):GetOK (dictD m) (.str k) d:=by
 intro prog w A s H value slice v iv Q E hp x y kk
 obtain ⟨a,rfl,hH,hN,x⟩:=x.asDI
 obtain ⟨l,hd,vp⟩:=x.dictOf prog w
 obtain ⟨_,rfl⟩:=V.strI y
 rcases vp.get k with ⟨e,_⟩ | ⟨d',u,e,e2,e3⟩
 ·rw [e] at hk;cases hk
 ·rw [e] at hk;cases hk
  refine subscriptTail_any hd.typeIs slot_dict_getitem.lookup (wpAny_getItem_of (strK_is k _) hd.mapOf e2 ?_) hp
  exact kk u _ e3
abbrev EVN (h₁:Gl) (r:Nat) (sc:Sc) (vars:List (Str × D)) (e:Expr) (m:List (Str × D)):Prop:=
 ∀ (prog:Program) (w:WW) (A:Around) (env:Env) (s:Shared) (H:List Addr) (Q:Value→Shared→Prop) (E:Value→Shared→Prop),
  Top1 h₁→Room r A→Inv h₁ H s→EnvOK sc env vars s.heap H →
  (∀ a s',SStep [] s s'→Inv h₁ (a::H) s'→s.heap.objs.size ≤ a→DI s'.heap (a::H) a m→Q (.ref a) s')→wpAny (model prog w) A (eval e env) Q E s
theorem EVN.evp {e:Expr}{m:List (Str × D)}(h:EVN h₁ r sc vars e m):EVP h₁ r sc vars e (dictD m):=by
 intro prog w A env s H Q E T R I O k
 refine h prog w A env s H Q E T R I O fun a s' st I' ha hd=>?_
 have hN:=(I'.hok a (.head _)).1
 refine ex22 hd fun es n e1 v nd=>?_
 exact k _ _ st (I'.sub fun _ q=>.tail _ q) (DI.v ⟨es,n,e1,v.step (X:=[]) (Step.refl _ _) (fun _ q=>nomatch q) fun _ q=>.inl (.tail _ q),nd⟩ (fun q=>absurd (I.hok a q).2 (Nat.not_lt.mpr ha)) hN)
theorem EVN.dict0 {pos:Pos}:EVN h₁ r sc vars (.Dict [] [] pos) []:=by
 intro prog w A env s H Q E T R I O k
 refine wpAny_Dict_empty ?_
 exact k _ _ (SStep.heap' (Step.push _)) (I.pushHide _) (Nat.le_refl _) ⟨#[],0,Heap.get?_push_size _ rfl,.nil,List.nodup_nil⟩
theorem EVP.dict0 {pos:Pos}:EVP h₁ r sc vars (.Dict [] [] pos) (dictD []):=EVN.dict0.evp
inductive Rows (h₁:Gl) (r:Nat) (sc:Sc) (vars:List (Str × D)):List (Expr × Expr)→List (Str × D)→Prop
 | nil:Rows h₁ r sc vars [] []
 | cons {ke ve k d l m}:EVP h₁ r sc vars ke (.str k)→EVP h₁ r sc vars ve d→Rows h₁ r sc vars l m→Rows h₁ r sc vars ((ke,ve)::l) ((k,d)::m)
noncomputable def rowSem (env:Env) (pos:Pos) (p:Expr × Expr):Sem Value × Sem Value:=(eval p.1 env,do let x ← eval p.2 env;standAt pos;pure x)
theorem evalRows {prog:Program}{w:WW}{A:Around}{E:Value→Shared→Prop}{pos:Pos}(T:Top1 h₁) (R:Room r A) {l:List (Expr × Expr)}{m:List (Str × D)}(hr:Rows h₁ r sc vars l m):∀ {s:Shared}{Q:List (Value × Value)→Shared→Prop},Inv h₁ H s→EnvOK sc env vars s.heap H →
  (∀ vs (kvs:List (Str × Value)) s',SStep [] s s'→Inv h₁ H s'→Carries (strK prog w) vs kvs→VP s'.heap H kvs m→Q vs s')→wpAny (model prog w) A (evalPairs (l.map (rowSem env pos))) Q E s:=by
 induction hr with
 | nil=>
  intro s Q I O k
  rw [List.map_nil]
  with_reducible refine evalPairs_nil ?_
  exact k [] [] s (SStep.refl _ _) I trivial .nil
 | @cons ke ve kk d l m hk hv hr ih=>
  intro s Q I O k
  rw [List.map_cons]
  unfold rowSem
  with_reducible refine evalPairs_cons (hk prog w A env s H _ E T R I O fun kv s₁ st₁ I₁ xk=>?_)
  obtain ⟨_,rfl⟩:=V.strI xk
  rename_i t
  refine wpAny_bind ?_
  with_reducible refine hv prog w A env s₁ H _ E T R I₁ (O.grow st₁.st) fun vv s₂ st₂ I₂ xv=>?_
  refine wpAny_bind (wpAny_standAt (wpAny_pure ?_))
  refine ih I₂ ((O.grow st₁.st).grow st₂.st) fun vs kvs s₃ st₃ I₃ hc hvp=>?_
  exact k _ ((kk,vv)::kvs) s₃ (st₁.trans (st₂.trans st₃)) I₃ ⟨strK_is kk t,rfl,hc⟩ (.cons (xv.grow st₃.st) hvp)
theorem EVN.dict {keys:List (Option Expr)}{values:List Expr}{pos:Pos}{l:List (Expr × Expr)}{m:List (Str × D)}(hr:Rows h₁ r sc vars l m) (hn:(m.map (·.1)).Nodup) (h0:l ≠ []) (hlen:l.length ≤ 15)
  (hshape:∀ env,(evalEachOpt keys env).zip ((evalEach values env).map fun v=>do let x ← v;standAt pos;pure x) = (l.map (rowSem env pos)).map fun p=>(some p.1,p.2)):EVN h₁ r sc vars (.Dict keys values pos) m:=by
 intro prog w A env s H Q E T R I O k
 have hne:l.map (rowSem env pos) ≠ []:=fun q=>h0 (by simpa using q)
 refine wpAny_Dict_pairs (knd:=strK prog w) (hshape env) hne (by simpa using hlen) ?_
 have I₁:=I.pushHide { cls:=.type "dict",data:=.dict #[] }
 have O₁:EnvOK sc env vars (s.heap.push { cls:=.type "dict",data:=.dict #[] }) (s.heap.objs.size::H):=O.step (X:=[]) (Step.push _) (fun _ q=>nomatch q) (fun q=>nomatch q) (fun _ _ _ q=>nomatch q) fun y q=>by
  rcases mc q with rfl | q
  ·exact .inr (Nat.le_refl _)
  ·exact .inl q
 refine evalRows T R hr I₁ O₁ fun vs kvs s₂ st₂ I₂ hc hvp=>⟨kvs,hc,?_,fun h' hd hs=>?_⟩
 ·have e:(s.heap.push { cls:=.type "dict",data:=.dict #[] }).get? s.heap.objs.size = _:=Heap.get?_push_size _ rfl
  exact ⟨_,#[],0,st₂.st.keep _ _ e (fun q=>nomatch q) (tabs_lt I.size),⟨rfl,rfl,rfl⟩,rfl,fun _ he=>by simp at he,.nil,List.nodup_nil⟩
 ·have hnd:(kvs.map (·.1)).Nodup:=by rw [hvp.keys];exact hn
  rw [merged_nil_of_nodup _ hnd] at hd
  have q:Quiet [s.heap.objs.size] s₂ { s₂ with heap:=h',toks:=s₂.toks + vs.length }:=Quiet.same hs
  have hX:∀ y ∈ [s.heap.objs.size],y ∈ s.heap.objs.size::H:=fun y hy=>by rcases ms hy with rfl;exact .head _
  have st3:=q.st (fun y hy=>by rcases ms hy with rfl;exact I.size)
  have I₃:=I₂.quiet q hX
  have st:SStep [s.heap.objs.size] s { s₂ with heap:=h',toks:=s₂.toks + vs.length }:=((SStep.heap' (Step.push _)).trans st₂).up.trans st3
  exact k _ _ (st.mono fun y hy=>.inr (by rcases ms hy with rfl;exact Nat.le_refl _)) I₃ (Nat.le_refl _) (DI.of hd (hvp.step st3.st hX fun y q=>.inl q))
theorem EVP.dict {keys:List (Option Expr)}{values:List Expr}{pos:Pos}{l:List (Expr × Expr)}{m:List (Str × D)}(hr:Rows h₁ r sc vars l m) (hn:(m.map (·.1)).Nodup) (h0:l ≠ []) (hlen:l.length ≤ 15)
  (hshape:∀ env,(evalEachOpt keys env).zip ((evalEach values env).map fun v=>do let x ← v;standAt pos;pure x) = (l.map (rowSem env pos)).map fun p=>(some p.1,p.2)):EVP h₁ r sc vars (.Dict keys values pos) (dictD m):=
 (EVN.dict hr hn h0 hlen hshape).evp
end
end Mine
namespace Mine
variable [Wd]
section
variable {h₁:Gl}{r:Nat}{sc:Sc}{vars:List (Str × D)}{env:Env}{X H:List Addr}{P P' P'':Rp X}
noncomputable def appAct (elt:Expr) (acc:Value) (env:Env):Sem Unit:=do let _ ← call (.builtin "list.append") [acc,← eval elt env]
noncomputable def putAct (kx vx:Expr) (d:Addr) (env:Env):Sem Unit:=do
 let kv ← eval kx env
 let vv ← holding [kv] (eval vx env)
 standAt { kx.pos with endLine:=vx.pos.endLine,endCol:=vx.pos.endCol }
 holding [kv,vv] (dictSet d kv vv)
noncomputable def nestAct (e:Expr) (k:Nat) (iter:Expr) (acc:Value) (env:Env):Sem Unit:=do
 let x ← eval iter env
 standAt iter.pos
 let x ← foldedSetIterable iter env x
 let _ ← runOwn (.compStart e k (← holding [x] (pyIter x)) acc env) env
theorem clauseL {elt target iter:Expr}{ifs:List Expr}{scope:Scope}{pos:Pos}{it acc:Value}:Clause (.ListComp elt [⟨target,iter,ifs,0⟩] scope pos) 0 target ifs iter.pos (appAct elt acc env) it acc env:=
 ⟨fun _ _=>rfl,rfl,fun _=>rfl⟩
theorem clauseD {kx vx target iter:Expr}{ifs:List Expr}{scope:Scope}{pos:Pos}{it:Value}{d:Addr}:Clause (.DictComp kx vx [⟨target,iter,ifs,0⟩] scope pos) 0 target ifs iter.pos (putAct kx vx d env) it (.ref d) env:=
 ⟨fun _ _=>rfl,rfl,fun _=>rfl⟩
theorem turnN0 {elt t1 i1 t2 i2:Expr}{ifs1 ifs2:List Expr}{scope:Scope}{pos:Pos}{it acc:Value}:compTurn (.ListComp elt [⟨t1,i1,ifs1,0⟩,⟨t2,i2,ifs2,0⟩] scope pos) 0 it acc env =
  compTree t1 ifs1 i1.pos (nestAct (.ListComp elt [⟨t1,i1,ifs1,0⟩,⟨t2,i2,ifs2,0⟩] scope pos) 1 i2 acc env) it env (.compLoop (.ListComp elt [⟨t1,i1,ifs1,0⟩,⟨t2,i2,ifs2,0⟩] scope pos) 0 it acc env):=by
 generalize hm:Code.compLoop (.ListComp elt [⟨t1,i1,ifs1,0⟩,⟨t2,i2,ifs2,0⟩] scope pos) 0 it acc env = more
 have e:compTurn (.ListComp elt [⟨t1,i1,ifs1,0⟩,⟨t2,i2,ifs2,0⟩] scope pos) 0 it acc env = (standAt i1.pos >>= fun _=>pyNext it >>= fun r=>match r with
  | none=>pure (.done .next)
  | some v=>letOwnedTupleGo t1 it v >>= fun _=>PySem.assign t1 env v >>= fun _=>
   (forIn ifs1 true fun c __s=>if __s = true then do let ok ← PySem.isTrue c env (eval c env);pure (ForInStep.yield ok) else pure (ForInStep.yield __s)) >>= fun ok=>
    if ok = true then (eval i2 env >>= fun x=>standAt i2.pos >>= fun _=>foldedSetIterable i2 env x >>= fun x=>holding [x] (pyIter x) >>= fun i=>runOwn (.compStart (.ListComp elt [⟨t1,i1,ifs1,0⟩,⟨t2,i2,ifs2,0⟩] scope pos) 1 i acc env) env >>= fun _=>again more) else again more):=by subst hm;rfl
 rw [e]
 unfold compTree nestAct
 congr 1;funext _;congr 1;funext r
 cases r with
 | none=>rfl
 | some v=>
  dsimp only
  congr 1;funext _;congr 1;funext _;congr 1;funext ok
  cases ok with
  | false=>rfl
  | true=>simp only [if_true,bind_assoc,pure_bind]
theorem clauseN0 {elt t1 i1 t2 i2:Expr}{ifs1 ifs2:List Expr}{scope:Scope}{pos:Pos}{it acc:Value}:Clause (.ListComp elt [⟨t1,i1,ifs1,0⟩,⟨t2,i2,ifs2,0⟩] scope pos) 0 t1 ifs1 i1.pos (nestAct (.ListComp elt [⟨t1,i1,ifs1,0⟩,⟨t2,i2,ifs2,0⟩] scope pos) 1 i2 acc env) it acc env:=
 ⟨fun prog w=>by
  show (compTurn (.ListComp elt [⟨t1,i1,ifs1,0⟩,⟨t2,i2,ifs2,0⟩] scope pos) 0 it acc env).onRaise _ = _
  rw [turnN0],rfl,fun _=>rfl⟩
theorem clauseN1 {elt t1 i1 t2 i2:Expr}{ifs1 ifs2:List Expr}{scope:Scope}{pos:Pos}{it acc:Value}:Clause (.ListComp elt [⟨t1,i1,ifs1,0⟩,⟨t2,i2,ifs2,0⟩] scope pos) 1 t2 ifs2 i2.pos (appAct elt acc env) it acc env:=
 ⟨fun _ _=>rfl,rfl,fun _=>rfl⟩
theorem compRun {prog:Program}{w:WW}{A:Around}{s:Shared}{e target iter:Expr}{ifs:List Expr}{rest:List Comprehension}{scope:Scope}{p pp:Pos}{items:List D}{newAcc:Sem Value}{accObj:Obj}{use:Option (Value→Sem Unit)}{act:Addr→Env→Sem Unit}{b:Nat→Bool}{Q:Value→Shared→Prop}{E:Value→Shared→Prop}(Ps:∀ D,Nat→Rp (D::X))
  (hcl:clausesOf e = ⟨target,iter,ifs,0⟩::rest) (hnew:∀ (M:Model) (A:Around) (E:Value→Shared→Prop) (s:Shared) (Q:Value→Shared→Prop),Q (.ref s.heap.objs.size) { s with heap:=s.heap.push accObj }→wpAny M A newAcc Q E s) (hfree:accObj.isFreed = false)
  (hC:∀ it D cenv,Clause e 0 target ifs pp (act D cenv) (.ref it) (.ref D) cenv)
  (hstart:∀ (prog:Program) (w:WW) (A:Around) (it D:Addr) (cenv:Env) (R:Result→Shared→Prop) (s:Shared),codeAny (model prog w) A (.compLoop e 0 (.ref it) (.ref D) cenv) R s →
   wpAny (model prog w) A (pyIter (.ref it)) (fun it' s'=>codeAny (model prog w) A (.compLoop e 0 it' (.ref D) cenv) R s') (notedBy (model prog w) A cenv fun x s'=>R (.error x) s') s→codeAny (model prog w) A (.compStart e 0 (.ref it) (.ref D) cenv) R s)
  (hiter:EVJ h₁ r sc vars iter target items) (hc:CompSc sc vars scope) (T:Top1 h₁) (R:Room r A) (I:Inv h₁ H s) (O:EnvOK sc env vars s.heap H) (W:Own env X H) (hs:∀ x,foldedSetIterable iter env x = pure x)
  (h0:∀ D (s':Shared) H',N0 ≤ D→SStep [] s s'→s'.heap.get? D = some accObj→(∀ x ∈ H',x ∈ H ∨ s.heap.objs.size ≤ x)→(Ps D 0).ok s'.heap H')
  (turn:∀ D C,D ∉ X→C ∉ D::X→N0 ≤ D→∀ i d,items[i]? = some d→∃ cv',TgtL (csc sc scope) target (cvars vars scope) d cv'∧(∀ y e,(cvars vars scope).lookup y = some e→cv'.lookup y = some e)∧TestsP h₁ r (csc sc scope) cv' ifs (b i)∧(b i = false→Ps D (i + 1) = Ps D i)∧(b i = true→ActR h₁ r (csc sc scope) cv' (cvars vars scope) (compEnvC scope (closOf env scope) C env) (D::X) (Ps D i) (act D (compEnvC scope (closOf env scope) C env)) (Ps D (i + 1))))
  (k:∀ D C m s',SStep X s s'→Inv h₁ (C::H) s'→s.heap.objs.size ≤ D→s.heap.objs.size ≤ C→C ∉ D::X→(Ps D items.length).ok s'.heap (C::H)→s'.heap.Ns C m→compPost (model prog w) A E use Q (.ref D) C (.ok .next) s') :
  wpAny (model prog w) A (comprehension e scope env p newAcc false (eval iter env) use) Q E s:=by
 refine wpAny_comprehension_free (g:=⟨target,iter,ifs,0⟩) (gs:=rest) hcl hs (hc.closure O) hc.kind hc.names ?_
 refine hiter prog w A env s H _ E T R I O fun it Y St s₂ K st₂ I₂ hY hst=>?_
 refine hnew _ _ _ _ _ (wpAny_newFunctionEnv (fun x hx=>(hc.nocell x hx).1) (by intro y hy;simp at hy) (fun h' hns hsb=>?_) hc.kind)
 dsimp only at hns hsb ⊢
 generalize hH2:s₂.heap.push accObj = H2 at hns hsb ⊢
 have hsz:H2.objs.size = s₂.heap.objs.size + 1:=by rw [← hH2,Heap.size_push]
 have old2:∀ b o,H2.get? b = some o→h'.get? b = some o:=fun b o e=>hsb.extBut b o (Nat.ne_of_lt (Heap.lt_size e)) (Heap.get?_push_of_some _ e)
 have old:∀ b o,s₂.heap.get? b = some o→h'.get? b = some o:=fun b o e=>old2 b o (hH2 ▸ Heap.get?_push_of_some _ e)
 have hlt:H2.objs.size < h'.objs.size:=hns.lt
 refine gr (s₂.heap.objs.size) fun D hDdef=>?_
 refine gr (H2.objs.size) fun C hCdef=>?_
 have hD:h'.get? D = some accObj:=old2 _ _ (hH2 ▸ hDdef ▸ Heap.get?_push_size _ hfree)
 have hCD:@Eq Nat C (Nat.succ D):=by rw [← hCdef,hsz,hDdef]
 rw [hDdef,hCdef]
 rw [hCdef] at hlt hns
 have hsD:s.heap.objs.size ≤ D:=hDdef ▸ st₂.st.size
 have hYD:∀ y ∈ Y,@LT.lt Nat _ y D:=fun y hy=>hDdef ▸ (I₂.hok y (List.mem_append_left _ hy)).2
 have hHD:∀ y ∈ H,@LT.lt Nat _ y D:=fun y hy=>hDdef ▸ (I₂.hok y (List.mem_append_right _ hy)).2
 have hXD:∀ y ∈ X,@LT.lt Nat _ y D:=fun y hy=>hHD y (W.sub y hy)
 generalize hs4:({ s₂ with heap:=h',toks:=s₂.toks + ([]:List (Str × Value)).length }:Shared) = s₄
 have hh4:s₄.heap = h':=by rw [← hs4]
 have hq:Quiet [] s₂ s₄:=by subst hs4;exact ⟨fun b o _ e=>old b o e,by show s₂.heap.objs.size ≤ h'.objs.size;lia,rfl,rfl⟩
 have st4:SStep [] s s₄:=st₂.trans (hq.st fun _ q=>nomatch q)
 generalize hHdef:C::D::(Y ++ H) = H4
 have hin4:∀ a ∈ H4,a ∈ Y ++ H ∨ (a = C ∨ a = D):=fun a q=>by
  subst hHdef
  rcases List.mem_cons.mp q with q | q
  ·exact .inr (.inl q)
  ·rcases List.mem_cons.mp q with q | q
   ·exact .inr (.inr q)
   ·exact .inl q
 have hnew4:∀ x ∈ H4,x ∈ H ∨ s.heap.objs.size ≤ x:=fun x q=>by
  rcases hin4 x q with q | rfl | rfl
  ·rcases List.mem_append.mp q with q | q
   ·exact .inr (hY x q)
   ·exact .inl q
  ·right;lia
  ·right;lia
 have I4:Inv h₁ H4 s₄:=by
  have I5:=I₂.quiet hq (fun _ q=>nomatch q)
  have hN:=I₂.size
  have hinn:∀ a,a < D→a ∉ Y ++ H→a ∉ H4:=fun a ha hn q=>by
   rcases hin4 a q with q | rfl | rfl
   ·exact hn q
   ·lia
   ·lia
  have ht:∀ {t line col q},TabAt s₂.heap (Y ++ H) t line col q→TabAt s₄.heap H4 t line col q:=fun x=>by
   rw [hh4]
   rcases x with e | ⟨c,o',vs,tk,e1,e2,e3,e4,e6,e7⟩
   ·exact .inl (old _ _ e)
   ·exact .inr ⟨c,o',vs,tk,old _ _ e1,hinn c (hDdef ▸ Heap.lt_size e4) e2,e3,old _ _ e4,e6,e7⟩
  refine ⟨I5.kp,⟨ht I₂.tab.i2d,ht I₂.tab.d2i,ht I₂.tab.cal,ht I₂.tab.lex⟩,I5.bare,fun b q=>?_,I5.size,fun p hp=>?_⟩
  ·rw [hh4]
   rcases hin4 b q with q | rfl | rfl
   ·have:=I5.hok b q;rwa [hh4] at this
   ·exact ⟨by lia,hlt⟩
   ·exact ⟨by lia,(by have h3:@LT.lt Nat _ C h'.objs.size:=hlt;show @LT.lt Nat _ _ _;lia)⟩
  ·refine ex02 (I₂.fix p hp) fun e1 e2 e3=>?_
   exact ⟨by rw [hh4];exact old _ _ e1,hinn _ (hDdef ▸ Heap.lt_size e1) e2,e3⟩
 have O4:EnvOK (csc sc scope) (compEnvC scope (closOf env scope) C env) (cvars vars scope) s₄.heap H4:=by
  rw [hh4]
  refine compOK O (hh4 ▸ st4.st) hnew4 (by rw [← hCdef];rw [hCdef];exact hns) (by have:=I₂.size;lia) hc.kind (fun x hx=>?_) fun x hx=>(hc.nocell x hx).2
  refine ex02 (hc.free x hx) fun a b _=>?_
  obtain ⟨c,e⟩:=hc.cells O x hx
  exact ⟨a,b,by rw [e];rfl⟩
 have hcells:∀ y c,(closOf env scope).lookup y = some c→c < s.heap.objs.size∧c ∉ X:=fun y c e=>by
  refine ⟨comp_cells hc O y c e,?_⟩
  have hy:=closOf_names e
  obtain ⟨c',e'⟩:=hc.cells O y hy
  rw [closOf_lookup hy,e'] at e;cases e
  exact W.cel y _ e'
 have hCH:C ∈ H4:=by subst hHdef;exact .head _
 have hDH:D ∈ H4:=by subst hHdef;exact .tail _ (.head _)
 have hYH:∀ y ∈ Y,y ∈ H4:=fun y hy=>by subst hHdef;exact .tail _ (.tail _ (List.mem_append_left _ hy))
 have hHH:∀ y ∈ H,y ∈ H4:=fun y hy=>by subst hHdef;exact .tail _ (.tail _ (List.mem_append_right _ hy))
 have hst4:(St 0).ok s₄.heap H4:=Rp.stab _ hst (hq.st fun _ q=>nomatch q).st (fun _ q=>nomatch q) fun x q=>by
  rcases hin4 x q with q | rfl | rfl
  ·exact .inl q
  ·right;lia
  ·right;lia
 have W4:Own (compEnvC scope (closOf env scope) C env) (D::X) H4:=by
  refine ⟨fun x hx=>?_,fun q=>?_,fun n c e q=>?_⟩
  ·rcases mc hx with rfl | hx
   ·exact hDH
   ·exact hHH x (W.sub x hx)
  ·have q':C ∈ D::X:=q
   rcases List.mem_cons.mp q' with q | q
   ·have q2:@Eq Nat C D:=q
    lia
   ·have:=hXD C q;lia
  ·obtain ⟨a1,a2⟩:=hcells n c e
   rcases List.mem_cons.mp q with q | q
   ·have q2:@Eq Nat c D:=q
    have a3:@LT.lt Nat _ c s.heap.objs.size:=a1
    lia
   ·exact a2 q
 have hDN:N0 ≤ D:=(I4.hok D hDH).1
 have hCX:C ∉ D::X:=W4.loc
 have hCN:N0 ≤ C:=(I4.hok C hCH).1
 have loop:codeAny (model prog w) A (.compLoop e 0 (.ref it) (.ref D) (compEnvC scope (closOf env scope) C env)) (compPost (model prog w) A E use Q (.ref D) C) s₄:=by
  refine compLoopG (Ps D) (hC it D _) T R K I4 O4 hCH W4 hYH (fun y hy q=>?_) (fun q=>?_) (fun n c e q=>?_) (fun n c e q=>?_) (turn D C (fun q=>Nat.lt_irrefl _ (hXD D q)) hCX hDN) (fun s' st' I' O' p'=>?_) (h0 D s₄ H4 hDN st4 (by rw [hh4];exact hD) hnew4) hst4
  ·rcases List.mem_cons.mp q with q | q
   ·have:=hYD y hy
    have q2:@Eq Nat y D:=q
    lia
   ·exact absurd (I.hok y (W.sub y q)).2 (Nat.not_lt.mpr (hY y hy))
  ·have q':C ∈ Y:=q
   have:=hYD C q';lia
  ·exact absurd (hcells n c e).1 (Nat.not_lt.mpr (hY c q))
  ·have q':@Eq Nat c C:=q
   have a3:@LT.lt Nat _ c s.heap.objs.size:=(hcells n c e).1
   lia
  ·refine ex11 O'.ns fun m hm _=>?_
   have st:SStep X s s':=(st4.up.trans st').mono fun y hy=>by
    rcases List.mem_cons.mp hy with q | hy
    ·have q':@Eq Nat y C:=q
     have:@LE.le Nat _ s.heap.objs.size y:=by lia
     exact .inr this
    ·rcases List.mem_append.mp hy with q | q
     ·exact .inr (hY y q)
     ·rcases mc q with rfl | q
      ·exact .inr hsD
      ·exact .inl q
   have sub:∀ x ∈ C::H,x ∈ H4:=fun x q=>by
    rcases mc q with rfl | q
    ·exact hCH
    ·exact hHH x q
   exact k D C m s' st (I'.sub sub) hsD (by show @LE.le Nat _ s.heap.objs.size C;lia) hCX (Rp.less _ p' fun x q=>.inl (sub x q)) hm
 have post:=hstart prog w A it D (compEnvC scope (closOf env scope) C env) (compPost (model prog w) A E use Q (.ref D) C) s₄ loop (K.self 0 _ _ _ _ hst4 loop)
 exact post
theorem compGo {s s':Shared}{Cc:Addr}{m:Str→Option Value}{h'':Heap}{Y:List Addr}{P:Rp Y}(st:SStep X s s') (I:Inv h₁ (Cc::H) s') (hC:s.heap.objs.size ≤ Cc) (hCY:Cc ∉ Y) (hs:Heap.SameBut Cc s'.heap h'') (p:P.ok s'.heap (Cc::H)) :
  SStep X s { s' with heap:=h'' }∧Inv h₁ H { s' with heap:=h'' }∧P.ok h'' H:=by
 have hq:Quiet [Cc] s' { s' with heap:=h'' }:=Quiet.same (tk:=s'.toks) hs
 have CH:∀ y ∈ ([Cc]:List Addr),y ∈ Cc::H:=fun y q=>by rcases ms q with rfl;exact .head _
 have hCN:N0 ≤ Cc:=(I.hok Cc (.head _)).1
 have st2:SStep [Cc] s' { s' with heap:=h'' }:=hq.st fun y q=>by rcases ms q with rfl;exact hCN
 refine ⟨?_,(I.quiet hq CH).sub fun y q=>.tail _ q,?_⟩
 ·have e1:SStep (Cc::X) s { s' with heap:=h'' }:=(st.mono fun y hy=>.inl (.tail _ hy)).trans (st2.mono fun y hy=>.inl (by rcases ms hy with rfl;exact .head _))
  refine e1.mono fun y hy=>?_
  rcases mc hy with rfl | hy
  ·exact .inr hC
  ·exact .inl hy
 ·exact P.stab p st2.st (fun y hy=>⟨CH y hy,fun q=>hCY (by rcases ms hy with rfl;exact q)⟩) fun y q=>.inl (.tail _ q)
structure CompOK (h₁:Gl) (r:Nat) (sc:Sc) (vars:List (Str × D)) (X:List Addr) (e target iter:Expr) (ifs:List Expr) (rest:List Comprehension) (scope:Scope) (pp:Pos) (items:List D) (newAcc:Sem Value) (accObj:Obj) (act:Addr→Env→Sem Unit) (b:Nat→Bool) (Ps:∀ D,Nat→Rp (D::X)) (P P':Rp X) (d:D):Prop where
 hcl:clausesOf e = ⟨target,iter,ifs,0⟩::rest
 hnew:∀ (M:Model) (A:Around) (E:Value→Shared→Prop) (s:Shared) (Q:Value→Shared→Prop),Q (.ref s.heap.objs.size) { s with heap:=s.heap.push accObj }→wpAny M A newAcc Q E s
 hfree:accObj.isFreed = false
 hC:∀ it D cenv,Clause e 0 target ifs pp (act D cenv) (.ref it) (.ref D) cenv
 hstart:∀ (prog:Program) (w:WW) (A:Around) (it D:Addr) (cenv:Env) (R:Result→Shared→Prop) (s:Shared),codeAny (model prog w) A (.compLoop e 0 (.ref it) (.ref D) cenv) R s →
   wpAny (model prog w) A (pyIter (.ref it)) (fun it' s'=>codeAny (model prog w) A (.compLoop e 0 it' (.ref D) cenv) R s') (notedBy (model prog w) A cenv fun x s'=>R (.error x) s') s→codeAny (model prog w) A (.compStart e 0 (.ref it) (.ref D) cenv) R s
 hiter:EVJ h₁ r sc vars iter target items
 hc:CompSc sc vars scope
 hs:∀ env x,foldedSetIterable iter env x = pure x
 h0:∀ D h H',N0 ≤ D→h.get? D = some accObj→P.ok h H'→(Ps D 0).ok h H'
 turn:∀ env D C,D ∉ X→C ∉ D::X→N0 ≤ D→∀ i d,items[i]? = some d→∃ cv',TgtL (csc sc scope) target (cvars vars scope) d cv'∧(∀ y e,(cvars vars scope).lookup y = some e→cv'.lookup y = some e)∧TestsP h₁ r (csc sc scope) cv' ifs (b i)∧(b i = false→Ps D (i + 1) = Ps D i)∧(b i = true→ActR h₁ r (csc sc scope) cv' (cvars vars scope) (compEnvC scope (closOf env scope) C env) (D::X) (Ps D i) (act D (compEnvC scope (closOf env scope) C env)) (Ps D (i + 1)))
 conv:∀ D h H',D ∉ H'→(Ps D items.length).ok h H'→V h H' (.ref D) d∧P'.ok h H'
theorem CompOK.run {e target iter:Expr}{ifs:List Expr}{rest:List Comprehension}{scope:Scope}{pp:Pos}{items:List D}{newAcc:Sem Value}{accObj:Obj}{act:Addr→Env→Sem Unit}{b:Nat→Bool}{Ps:∀ D,Nat→Rp (D::X)}{d:D}(K:CompOK h₁ r sc vars X e target iter ifs rest scope pp items newAcc accObj act b Ps P P' d)
  {prog:Program}{w:WW}{A:Around}{s:Shared}{p:Pos}{Q:Value→Shared→Prop}{E:Value→Shared→Prop}(T:Top1 h₁) (R:Room r A) (I:Inv h₁ H s) (O:EnvOK sc env vars s.heap H) (W:Own env X H) (pk:P.ok s.heap H)
  (k:∀ v s',SStep X s s'→Inv h₁ H s'→P'.ok s'.heap H→V s'.heap H v d→Q v s'):wpAny (model prog w) A (comprehension e scope env p newAcc false (eval iter env) none) Q E s:=by
 refine compRun (use:=none) Ps K.hcl K.hnew K.hfree K.hC K.hstart K.hiter K.hc T R I O W (K.hs env) (fun D s' H' hN st e hH=>K.h0 D _ _ hN e (P.stab pk st.st (fun _ q=>nomatch q) hH)) (K.turn env) fun D C m s' st' I' hsD hsC hCX p' hm=>?_
 refine ⟨m,hm,fun h'' hs''=>?_⟩
 refine ex02 (compGo (m:=m) st' I' hsC hCX hs'' p') fun st2 I2 p2=>?_
 obtain ⟨hv,p3⟩:=K.conv D h'' H (fun q=>absurd (I.hok D q).2 (Nat.not_lt.mpr hsD)) p2
 exact k _ _ st2 I2 p3 hv
theorem CompOK.swap {e target iter:Expr}{ifs:List Expr}{rest:List Comprehension}{scope:Scope}{pp:Pos}{items:List D}{newAcc:Sem Value}{accObj:Obj}{act:Addr→Env→Sem Unit}{b:Nat→Bool}{Ps:∀ D,Nat→Rp (D::X)}{d:D}(K:CompOK h₁ r sc vars X e target iter ifs rest scope pp items newAcc accObj act b Ps P P' d)
  {prog:Program}{w:WW}{A:Around}{s:Shared}{p py:Pos}{y:Str}{Q:Value→Shared→Prop}{E:Value→Shared→Prop}(T:Top1 h₁) (R:Room r A) (I:Inv h₁ H s) (F:Fm sc env vars s.heap H) (W:Own env X H) (pk:P.ok s.heap H) (hy:Sto sc y)
  (k:∀ s',SStep (wr sc env ++ X) s s'→Inv h₁ H s'→P'.ok s'.heap H→Fm sc env ((y,d)::vars) s'.heap H→Q .none s'):wpAny (model prog w) A (comprehension e scope env p newAcc false (eval iter env) (some (PySem.assign (.Name y py) env))) Q E s:=by
 refine compRun (use:=some (PySem.assign (.Name y py) env)) Ps K.hcl K.hnew K.hfree K.hC K.hstart K.hiter K.hc T R I F.ok W (K.hs env) (fun D s' H' hN st e hH=>K.h0 D _ _ hN e (P.stab pk st.st (fun _ q=>nomatch q) hH)) (K.turn env) fun D C m s' st' I' hsD hsC hCX p' hm=>?_
 have hDC:D ∉ C::H:=fun q=>by
  rcases List.mem_cons.mp q with q | q
  ·exact hCX (q ▸ .head _)
  ·exact absurd (I.hok D q).2 (Nat.not_lt.mpr hsD)
 obtain ⟨hv,p3⟩:=K.conv D _ _ hDC p'
 have hCN:N0 ≤ C:=(I'.hok C (.head _)).1
 have hCX':C ∉ X:=fun q=>hCX (.tail _ q)
 have F2:Fm sc env vars s'.heap (C::H):=F.step st'.st W.sub W.loc W.cel (fun y q=>by
   rcases mc q with rfl | q
   ·exact .inr hsC
   ·exact .inl q) (fun _ q=>.tail _ q)
 have hCw:C ∉ wr sc env:=fun q=>absurd (I.hok C (wr_sub F.w C q)).2 (Nat.not_lt.mpr hsC)
 have W2:Own env X (C::H):=⟨fun x hx=>.tail _ (W.sub x hx),W.loc,W.cel⟩
 show wpAny _ A (PySem.assign (.Name y py) env (.ref D)) _ _ _
 refine PyProof.Rows.assign_Name (store hy I' F2 hv fun s₅ st5 I5 F5=>?_)
 have p5:=Rp.frame p3 W2 F2.w st5.st
 refine ⟨m,ns_step hm st5.st hCw hCN,fun h'' hs''=>?_⟩
 have st05:SStep (wr sc env ++ X) s s₅:=st'.wX.trans st5.wF
 refine ex02 (compGo (m:=m) st05 I5 hsC hCX' hs'' p5) fun st2 I2 p2=>?_
 have hq2:Quiet [C] s₅ { s₅ with heap:=h'' }:=Quiet.same (tk:=s₅.toks) hs''
 have CH:∀ y ∈ ([C]:List Addr),y ∈ C::H:=fun y q=>by rcases ms q with rfl;exact .head _
 have st6:SStep [C] s₅ { s₅ with heap:=h'' }:=hq2.st fun y q=>by rcases ms q with rfl;exact hCN
 have F6:=F5.step (H':=C::H) st6.st CH (fun q=>hCw (by rw [← List.mem_singleton.mp q];exact .head _)) (fun n c e q=>by
  rcases ms q with rfl
  exact absurd (F.ok.lt n _ e) (Nat.not_lt.mpr hsC)) (fun _ q=>.inl q) (fun _ q=>q)
 exact k _ st2 I2 p2 (F6.sub (fun y q=>.tail _ q) (wr_sub F.w))
end
end Mine
namespace Mine
variable [Wd]
section
variable {h₁:Gl}{r:Nat}{sc:Sc}{vars:List (Str × D)}{env:Env}{X H:List Addr}{P P' P'':Rp X}
theorem Own.tail {D:Addr}(W:Own env (D::X) H):Own env X H:=⟨fun x hx=>W.sub x (.tail _ hx),fun q=>W.loc (.tail _ q),fun n c e q=>W.cel n c e (.tail _ q)⟩
abbrev Rp.accL (D:Addr) (ds:List PyData) (P:Rp X):Rp (D::X):=(Rp.list D (.head _) ds).and (P.up fun _ q=>.tail _ q)
abbrev Rp.accD (D:Addr) (m:List (Str × PyData)) (P:Rp X):Rp (D::X):=(Rp.dict D (.head _) m).and (P.up fun _ q=>.tail _ q)
theorem ActR.app {elt:Expr}{d:D}{ds:List D}{Dd:Addr}{cv' cv:List (Str × D)}(hDX:Dd ∉ X) (hDN:N0 ≤ Dd) (he:EVR h₁ r sc cv' X P elt d P') (hw:∀ y e,cv.lookup y = some e→cv'.lookup y = some e) (hz:ds.length ≤ 2 ^ 20) :
  ActR h₁ r sc cv' cv env (Dd::X) (Rp.accL Dd ds P) (appAct elt (.ref Dd) env) (Rp.accL Dd (ds ++ [d]) P'):=by
 intro prog w A s H Q E T R I O hL W p k
 have W':=W.tail
 obtain ⟨p1,p2⟩:=p
 have p2':P.ok s.heap H:=p2
 unfold appAct
 refine wpAny_bind (he prog w A env s H _ E T R I O W' p2' fun v s₁ st₁ I₁ q₁ hv=>?_)
 refine ex0111 p1 fun _ vs pl vl=>?_
 have pl1:s₁.heap.PlainList Dd vs:=pl.at fun o e=>st₁.st.keep Dd o e hDX (tabs_lt hDN)
 have vl1:=vl.step st₁.st W'.sub (H':=H) fun _ q=>.inl q
 have hvs:vs.size ≤ 2 ^ 20:=by
  have h1:=vl.length
  have h3:vs.toList.length = vs.size:=by simp
  lia
 refine wpAny_bind (wpAny_list_append_plain pl1 (fun h6 P6 hs6=>?_) (by rw [sizeLine_eq];lia))
 have hq6:Quiet [Dd] s₁ { s₁ with heap:=h6 }:=Quiet.same (tk:=s₁.toks) hs6
 have DH:∀ y ∈ ([Dd]:List Addr),y ∈ H:=fun y q=>by rcases ms q with rfl;exact W.sub _ (.head _)
 have st6:SStep [Dd] s₁ { s₁ with heap:=h6 }:=hq6.st fun y q=>by rcases ms q with rfl;exact hDN
 have O1:=O.own W' st₁.st
 have O6:=O1.step (H':=H) st6.st DH (fun q=>W.loc (by rw [List.mem_singleton.mp q];exact .head _)) (fun n c e q=>W.cel n c e (by rw [List.mem_singleton.mp q];exact .head _)) fun _ q=>.inl q
 refine wpAny_pure (k _ ?_ (I₁.quiet hq6 DH) (O6.weak hw) ⟨⟨hDN,_,P6,?_⟩,?_⟩)
 ·exact (st₁.mono fun y hy=>.inl (.tail _ (.tail _ hy))).trans (st6.mono fun y hy=>.inl (by rcases ms hy with rfl;exact .tail _ (.head _)))
 ·have:=(vl1.append (.cons hv .nil)).step st6.st DH (H':=H) fun _ q=>.inl q
  simpa using this
 ·exact P'.stab q₁ st6.st (fun y hy=>⟨DH y hy,fun q=>hDX (by rcases ms hy with rfl;exact q)⟩) fun _ q=>.inl q
theorem ActR.put {kx vx:Expr}{kk:Str}{d:D}{m:List (Str × D)}{Dd:Addr}{cv' cv:List (Str × D)}(hDX:Dd ∉ X) (hDN:N0 ≤ Dd) (hk:EVP h₁ r sc cv' kx (.str kk)) (hv:EVP h₁ r sc cv' vx d) (hw:∀ y e,cv.lookup y = some e→cv'.lookup y = some e) (hz:m.length ≤ 2 ^ 20) :
  ActR h₁ r sc cv' cv env (Dd::X) (Rp.accD Dd m P) (putAct kx vx Dd env) (Rp.accD Dd (dput m kk d) P):=by
 intro prog w A s H Q E T R I O hL W p k
 have W':=W.tail
 obtain ⟨p1,p2⟩:=p
 have p2':P.ok s.heap H:=p2
 unfold putAct
 refine wpAny_bind (hk prog w A env s H _ E T R I O fun kv s₁ st₁ I₁ xk=>?_)
 obtain ⟨_,rfl⟩:=V.strI xk
 rename_i t
 refine wpAny_bind (wpAny_holding (hv prog w A env s₁ H _ E T R I₁ (O.grow st₁.st) fun vv s₂ st₂ I₂ xv=>?_))
 have st12:=st₁.trans st₂
 have O2:=(O.grow st₁.st).grow st₂.st
 have p1':(Rp.dict (X:=Dd::X) Dd (.head _) m).ok s₂.heap H:=Rp.grow _ p1 st12.st
 refine ex11 (p1'.2.dictOf prog w) fun l hd vp=>?_
 have hlen:=vp.length
 refine wpAny_bind (wpAny_standAt (wpAny_holding (wpAny_dictSet_pairs (strK_is kk t) hd (fun h6 hd6 hs6=>?_) (by rw [sizeLine_eq];lia))))
 have hq6:Quiet [Dd] s₂ { s₂ with heap:=h6,toks:=s₂.toks + 1 }:=Quiet.same hs6
 have DH:∀ y ∈ ([Dd]:List Addr),y ∈ H:=fun y q=>by rcases ms q with rfl;exact W.sub _ (.head _)
 have st6:SStep [Dd] s₂ { s₂ with heap:=h6,toks:=s₂.toks + 1 }:=hq6.st fun y q=>by rcases ms q with rfl;exact hDN
 have O6:=O2.step (H':=H) st6.st DH (fun q=>W.loc (by rw [List.mem_singleton.mp q];exact .head _)) (fun n c e q=>W.cel n c e (by rw [List.mem_singleton.mp q];exact .head _)) fun _ q=>.inl q
 refine k _ ?_ (I₂.quiet hq6 DH) (O6.weak hw) ⟨⟨hDN,?_⟩,?_⟩
 ·exact st12.up.trans (st6.mono fun y hy=>.inl (by rcases ms hy with rfl;exact .tail _ (.head _)))
 ·have vp6:=(vp.put kk xv).step st6.st DH (H':=H) fun _ q=>.inl q
  exact DI.of hd6 vp6
 ·exact P.stab (P.grow p2' st12.st) st6.st (fun y hy=>⟨DH y hy,fun q=>hDX (by rcases ms hy with rfl;exact q)⟩) fun _ q=>.inl q
theorem ActR.nest {e target iter:Expr}{k:Nat}{ifs:List Expr}{pp:Pos}{acc:Value}{act:Sem Unit}{items:List D}{b:Nat→Bool}{cv' cv:List (Str × D)}(Ps:Nat→Rp X) (hC:∀ it,Clause e k target ifs pp act (.ref it) acc env)
  (hstart:∀ (prog:Program) (w:WW) (A:Around) (it:Addr) (R:Result→Shared→Prop) (s:Shared),codeAny (model prog w) A (.compLoop e k (.ref it) acc env) R s →
   wpAny (model prog w) A (pyIter (.ref it)) (fun it' s'=>codeAny (model prog w) A (.compLoop e k it' acc env) R s') (notedBy (model prog w) A env fun x s'=>R (.error x) s') s→codeAny (model prog w) A (.compStart e k (.ref it) acc env) R s)
  (hiter:EVJ h₁ r sc cv' iter target items) (hs:∀ x,foldedSetIterable iter env x = pure x) (hCl:∀ n c,env.cells.lookup n = some c→c ≠ env.locals)
  (turn:∀ i d,items[i]? = some d→∃ cv'',TgtL sc target cv' d cv''∧(∀ y e,cv'.lookup y = some e→cv''.lookup y = some e)∧TestsP h₁ r sc cv'' ifs (b i)∧(b i = false→Ps (i + 1) = Ps i)∧(b i = true→ActR h₁ r sc cv'' cv' env X (Ps i) act (Ps (i + 1))))
  (hw:∀ y e,cv.lookup y = some e→cv'.lookup y = some e):ActR h₁ r sc cv' cv env X (Ps 0) (nestAct e k iter acc env) (Ps items.length):=by
 intro prog w A s H Q E T R I O hL W p kk
 unfold nestAct
 refine wpAny_bind ?_
 have key:=hiter prog w A env s H (fun it s₂=>wpAny (model prog w) A (do let _ ← runOwn (.compStart e k it acc env) env) Q E s₂) E T R I O ?_
 ·refine wpAny_mono key (fun x s₁ h₁=>?_) fun _ _ x=>x
  refine wpAny_bind (wpAny_standAt (wpAny_bind (wpAny_of_eq (hs x) (wpAny_bind (wpAny_holding (wpAny_mono h₁ (fun it s₂ h₂=>h₂) fun _ _ x=>x))))))
 ·intro it Y St s₂ K st₂ I₂ hY hst
  have hYH:∀ y ∈ Y,y ∈ Y ++ H:=fun y hy=>List.mem_append_left _ hy
  have hhid:∀ x ∈ Y ++ H,x ∈ H ∨ s.heap.objs.size ≤ x:=fun x hx=>(List.mem_append.mp hx).symm.imp id fun q=>hY x q
  have O₂:EnvOK sc env cv' s₂.heap (Y ++ H):=O.step (X:=[]) st₂.st (fun _ q=>nomatch q) (fun q=>nomatch q) (fun _ _ _ q=>nomatch q) hhid
  refine wpAny_bind (wpAny_runOwn (h:=none) ?_)
  have loop:∀ R':Result→Shared→Prop,(∀ s',SStep (env.locals::(Y ++ X)) s₂ s'→Inv h₁ (Y ++ H) s'→EnvOK sc env cv' s'.heap (Y ++ H)→(Ps items.length).ok s'.heap (Y ++ H)→R' (.ok .next) s')→codeAny (model prog w) A (.compLoop e k (.ref it) acc env) R' s₂:=fun R' fin=>
   compLoopG Ps (hC it) T R K I₂ O₂ (List.mem_append_right _ hL) W.more hYH (fun y hy q=>absurd (I.hok y (W.sub y q)).2 (Nat.not_lt.mpr (hY y hy))) (fun q=>absurd (I.hok _ hL).2 (Nat.not_lt.mpr (hY _ q))) (fun n c e q=>absurd (O.lt n c e) (Nat.not_lt.mpr (hY c q))) hCl turn fin (Rp.more p st₂.st hY) hst
  have body:∀ R':Result→Shared→Prop,(∀ s',SStep (env.locals::(Y ++ X)) s₂ s'→Inv h₁ (Y ++ H) s'→EnvOK sc env cv' s'.heap (Y ++ H)→(Ps items.length).ok s'.heap (Y ++ H)→R' (.ok .next) s')→codeAny (model prog w) A (.compStart e k (.ref it) acc env) R' s₂:=fun R' fin=>
   hstart prog w A it R' s₂ (loop R' fin) (K.self 0 _ _ _ _ hst (loop R' fin))
  refine body _ fun s' st' I' O' p'=>?_
  refine wpAny_pure (kk s' ?_ (I'.sub fun _ q=>List.mem_append_right _ q) ((O'.sub fun _ q=>List.mem_append_right _ q).weak hw) (Rp.fewer p'))
  refine (st₂.up.trans st').mono fun y hy=>?_
  rcases mc hy with rfl | hy
  ·exact .inl (.head _)
  ·rcases List.mem_append.mp hy with q | q
   ·exact .inr (hY y q)
   ·exact .inl (.tail _ q)
theorem startAny {prog:Program}{w:WW}{A:Around}{e:Expr}{k:Nat}{it acc:Value}{env:Env}{g:Comprehension}{R:Result→Shared→Prop}{s:Shared}(hg:(clausesOf e)[k]? = some g) (ha:g.is_async = 0) (hf:(Code.compStart e k it acc env).isFrame = false)
  (hden:(model prog w).den (.compStart e k it acc env) = (compStart e k it acc env).onRaise (fun x=>do noteFrame x env;standAt theWindowsPlace)) (hun:A.under (.compStart e k it acc env) = A) (hq:(Code.compLoop e k it acc env).quiet = true)
  (hq2:∀ it',(Code.compLoop e k it' acc env).quiet = true)
  (h0:codeAny (model prog w) A (.compLoop e k it acc env) R s)
  (h:wpAny (model prog w) A (pyIter it) (fun it' s'=>codeAny (model prog w) A (.compLoop e k it' acc env) R s') (notedBy (model prog w) A env fun x s'=>R (.error x) s') s):codeAny (model prog w) A (.compStart e k it acc env) R s:=by
 refine codeAny_of_tree ?_
 rw [hun,hden]
 refine wpAny_notedAt ?_
 unfold compStart
 rw [hg]
 have ha':(some g).elim false (fun x=>x.is_async != 0) = false:=by show (g.is_async != 0) = false;rw [ha];rfl
 rw [ha']
 show wpAny _ _ (ask >>= _) _ _ s
 refine wpAny_bind (wpAny_askSetting (wpAny_ite ?_))
 split
 ·first
   | exact wpAny_bind (wpAny_pure (wpAny_pure (And.intro hq h0)))
   | exact wpAny_pure (And.intro hq h0)
 ·first
   | exact wpAny_bind (wpAny_rule (wpAny_bind (wpAny_standAt (wpAny_bind (wpAny_mono h (fun it' s' h'=>wpAny_pure (And.intro (hq2 it') h')) fun _ _ x=>x)))))
   | (refine wpAny_bind (wpAny_rule ?_);show wpAny _ _ (standAt g.iter.pos >>= _) _ _ s;exact wpAny_bind (wpAny_standAt (wpAny_bind (wpAny_mono h (fun it' s' h'=>wpAny_pure (And.intro (hq2 it') h')) fun _ _ x=>x))))
theorem CompOK.list {elt target iter:Expr}{ifs:List Expr}{scope:Scope}{pos:Pos}{items:List D}(b:Nat→Bool) (ys:Nat→D) (Pr:Nat→Rp X) (hiter:EVJ h₁ r sc vars iter target items) (hc:CompSc sc vars scope) (hlen:items.length ≤ 2 ^ 20) (hs:∀ env x,foldedSetIterable iter env x = pure x)
  (turn:∀ i d,items[i]? = some d→∃ cv',TgtL (csc sc scope) target (cvars vars scope) d cv'∧(∀ y e,(cvars vars scope).lookup y = some e→cv'.lookup y = some e)∧TestsP h₁ r (csc sc scope) cv' ifs (b i)∧(b i = false→Pr (i + 1) = Pr i)∧(b i = true→EVR h₁ r (csc sc scope) cv' X (Pr i) elt (ys i) (Pr (i + 1)))) :
  CompOK h₁ r sc vars X (.ListComp elt [⟨target,iter,ifs,0⟩] scope pos) target iter ifs [] scope iter.pos items (newList []) { cls:=.type "list",data:=.seq ([]:List Value).toArray } (fun D env=>appAct elt (.ref D) env) b (fun D i=>Rp.accL D (compOut b ys i) (Pr i)) (Pr 0) (Pr items.length) (.list (compOut b ys items.length)) where
 hcl:=rfl
 hnew:=fun M A E s Q h=>wpAny_newObj_type h
 hfree:=rfl
 hC:=fun it D cenv=>clauseL
 hstart:=fun prog w A it D cenv R s h h'=>codeAny_compStart_list h h'
 hiter:=hiter
 hc:=hc
 hs:=hs
 h0:=fun D h H' hN e p=>⟨⟨hN,#[],⟨_,e⟩,.nil⟩,p⟩
 turn:=fun env D C hDX hCX hN i d hd=>by
  refine ex14 (turn i d hd) fun cv' a1 a2 a3 a4 a5=>?_
  have hi:i < items.length:=(List.getElem?_eq_some_iff.mp hd).1
  refine ⟨cv',a1,a2,a3,fun hb=>?_,fun hb=>?_⟩
  ·rw [compOut_succ,hb,a4 hb];simp
  ·rw [compOut_succ,hb]
   have:=compOut_len b ys i
   exact ActR.app hDX hN (a5 hb) a2 (by lia)
 conv:=fun D h H' hD p=>by
  obtain ⟨⟨hN,vs,⟨n,e⟩,vl⟩,p2⟩:=p
  exact ⟨.list e hD hN vl,p2⟩
noncomputable def dOut (b:Nat→Bool) (ks:Nat→Str) (vs:Nat→D):Nat→List (Str × D)
 | 0=>[]
 | n + 1=>if b n then dput (dOut b ks vs n) (ks n) (vs n) else dOut b ks vs n
theorem dOut_len (b:Nat→Bool) (ks:Nat→Str) (vs:Nat→D):∀ n,(dOut b ks vs n).length ≤ n
 | 0=>Nat.le_refl _
 | n + 1=>by
  have h:=dOut_len b ks vs n
  unfold dOut
  split
  ·have:=dput_len (dOut b ks vs n) (ks n) (vs n);lia
  ·lia
theorem CompOK.dict {kx vx target iter:Expr}{ifs:List Expr}{scope:Scope}{pos:Pos}{items:List D}(b:Nat→Bool) (ks:Nat→Str) (vs:Nat→D) (hiter:EVJ h₁ r sc vars iter target items) (hc:CompSc sc vars scope) (hlen:items.length ≤ 2 ^ 20) (hs:∀ env x,foldedSetIterable iter env x = pure x)
  (turn:∀ i d,items[i]? = some d→∃ cv',TgtL (csc sc scope) target (cvars vars scope) d cv'∧(∀ y e,(cvars vars scope).lookup y = some e→cv'.lookup y = some e)∧TestsP h₁ r (csc sc scope) cv' ifs (b i)∧(b i = true→EVP h₁ r (csc sc scope) cv' kx (.str (ks i))∧EVP h₁ r (csc sc scope) cv' vx (vs i))) :
  CompOK h₁ r sc vars X (.DictComp kx vx [⟨target,iter,ifs,0⟩] scope pos) target iter ifs [] scope iter.pos items newDict { cls:=.type "dict",data:=.dict #[] } (fun D env=>putAct kx vx D env) b (fun D i=>Rp.accD D (dOut b ks vs i) P) P P (dictD (dOut b ks vs items.length)) where
 hcl:=rfl
 hnew:=fun M A E s Q h=>wpAny_newObj_type h
 hfree:=rfl
 hC:=fun it D cenv=>clauseD
 hstart:=fun prog w A it D cenv R s h h'=>codeAny_compStart_dict h h'
 hiter:=hiter
 hc:=hc
 hs:=hs
 h0:=fun D h H' hN e p=>⟨⟨hN,#[],0,e,.nil,List.nodup_nil⟩,p⟩
 turn:=fun env D C hDX hCX hN i d hd=>by
  refine ex13 (turn i d hd) fun cv' a1 a2 a3 a5=>?_
  have hi:i < items.length:=(List.getElem?_eq_some_iff.mp hd).1
  refine ⟨cv',a1,a2,a3,fun hb=>?_,fun hb=>?_⟩
  ·show Rp.accD D (if b i then _ else _) P = _
   rw [hb];rfl
  ·have:=dOut_len b ks vs i
   have h2:dOut b ks vs (i + 1) = dput (dOut b ks vs i) (ks i) (vs i):=by show (if b i then _ else _) = _;rw [hb];rfl
   show ActR _ _ _ _ _ _ _ _ _ (Rp.accD D (dOut b ks vs (i + 1)) P)
   rw [h2]
   exact ActR.put hDX hN (a5 hb).1 (a5 hb).2 a2 (by lia)
 conv:=fun D h H' hD p=>⟨DI.v p.1.2 hD p.1.1,p.2⟩
noncomputable def nestOut (n2:Nat→Nat) (ys:Nat→Nat→D) (n:Nat):List D:=(List.range n).flatMap fun i=>(List.range (n2 i)).map (ys i)
theorem nestOut_succ (n2:Nat→Nat) (ys:Nat→Nat→D) (n:Nat):nestOut n2 ys (n + 1) = nestOut n2 ys n ++ (List.range (n2 n)).map (ys n):=by
 unfold nestOut
 rw [List.range_succ,List.flatMap_append]
 simp
theorem CompOK.nested {elt t1 i1 t2 i2:Expr}{scope:Scope}{pos:Pos}{items:List D}(items2:Nat→List D) (ys:Nat→Nat→D) (hiter:EVJ h₁ r sc vars i1 t1 items) (hc:CompSc sc vars scope) (hs:∀ env x,foldedSetIterable i1 env x = pure x) (hs2:∀ env x,foldedSetIterable i2 env x = pure x)
  (hlen:∀ i,i ≤ items.length→(nestOut (fun i=>(items2 i).length) ys i).length ≤ 2 ^ 19) (hlen2:∀ i,i < items.length→(items2 i).length ≤ 2 ^ 19)
  (turn:∀ i d,items[i]? = some d→∃ cv',TgtL (csc sc scope) t1 (cvars vars scope) d cv'∧(∀ y e,(cvars vars scope).lookup y = some e→cv'.lookup y = some e)∧EVJ h₁ r (csc sc scope) cv' i2 t2 (items2 i) ∧
   ∀ j d2,(items2 i)[j]? = some d2→∃ cv'',TgtL (csc sc scope) t2 cv' d2 cv''∧(∀ y e,cv'.lookup y = some e→cv''.lookup y = some e)∧EVP h₁ r (csc sc scope) cv'' elt (ys i j)) :
  CompOK h₁ r sc vars X (.ListComp elt [⟨t1,i1,[],0⟩,⟨t2,i2,[],0⟩] scope pos) t1 i1 [] [⟨t2,i2,[],0⟩] scope i1.pos items (newList []) { cls:=.type "list",data:=.seq ([]:List Value).toArray } (fun D env=>nestAct (.ListComp elt [⟨t1,i1,[],0⟩,⟨t2,i2,[],0⟩] scope pos) 1 i2 (.ref D) env) (fun _=>true) (fun D i=>Rp.accL D (nestOut (fun i=>(items2 i).length) ys i) P) P P (.list (nestOut (fun i=>(items2 i).length) ys items.length)) where
 hcl:=rfl
 hnew:=fun M A E s Q h=>wpAny_newObj_type h
 hfree:=rfl
 hC:=fun it D cenv=>clauseN0
 hstart:=fun prog w A it D cenv R s h h'=>codeAny_compStart_list h h'
 hiter:=hiter
 hc:=hc
 hs:=hs
 h0:=fun D h H' hN e p=>⟨⟨hN,#[],⟨_,e⟩,.nil⟩,p⟩
 turn:=fun env D C hDX hCX hN i d hd=>by
  refine ex13 (turn i d hd) fun cv' a1 a2 a3 a5=>?_
  have hi:i < items.length:=(List.getElem?_eq_some_iff.mp hd).1
  refine ⟨cv',a1,a2,.inl ⟨rfl,rfl⟩,nofun,fun _=>?_⟩
  have e0:Rp.accL D (nestOut (fun i=>(items2 i).length) ys i) P = Rp.accL D (nestOut (fun i=>(items2 i).length) ys i ++ (List.range 0).map (ys i)) P:=by simp
  have e1:Rp.accL D (nestOut (fun i=>(items2 i).length) ys (i + 1)) P = Rp.accL D (nestOut (fun i=>(items2 i).length) ys i ++ (List.range (items2 i).length).map (ys i)) P:=by rw [nestOut_succ]
  show ActR _ _ _ _ _ _ _ (Rp.accL D (nestOut (fun i=>(items2 i).length) ys i) P) _ (Rp.accL D (nestOut (fun i=>(items2 i).length) ys (i + 1)) P)
  rw [e0,e1]
  intro prog w A s H Q E T R I O hL W p k
  have hCl:∀ n c,(compEnvC scope (closOf env scope) C env).cells.lookup n = some c→c ≠ (compEnvC scope (closOf env scope) C env).locals:=fun n c e q=>by
   refine ex11 O.ns fun m hm _=>?_
   by_cases hx:n ∈ freeOf scope
   ·refine ex02 (hc.free n hx) fun b1 b2 b3=>?_
    have lk:(csc sc scope).names.lookup n = some .cell:=by
     show (scope.names.map _).lookup n = _
     rw [relab_lookup (scope:=scope) (out:=sc.toScope),b1]
     show some (if (NameKind.free == NameKind.free && sc.names.lookup n == some .cell) = true then NameKind.cell else NameKind.free) = _
     rw [b2];rfl
    have hin:inFree scope n = true:=by simpa [inFree] using hx
    rcases b3 with b3 | b3
    ·obtain ⟨d',hd'⟩:=Option.isSome_iff_exists.mp b3
     have:(cvars vars scope).lookup n = some d':=by rw [cvars,lookup_filter (f:=inFree scope),if_pos hin];exact hd'
     refine ex0123 (O.cel n d' (a2 _ _ this) (by rw [lk];nofun)) fun _ c' v e1 e2 e3 _=>?_
     rw [e] at e1;cases e1
     exact cell_ne_ns e3 hm q
    ·obtain ⟨v',hv'⟩:=Option.isSome_iff_exists.mp b3
     have:(csc sc scope).fv.lookup n = some v':=by show (sc.fv.filter fun p=>inFree scope p.1).lookup n = _;rw [lookup_filter (f:=inFree scope),if_pos hin];exact hv'
     refine ex0112 (O.raw n v' this (by rw [lk];nofun)) fun _ c' e1 e2 e3=>?_
     rw [e] at e1;cases e1
     exact cell_ne_ns e3 hm q
   ·exact absurd (closOf_names e) hx
  refine ActR.nest (fun j=>Rp.accL D (nestOut (fun i=>(items2 i).length) ys i ++ (List.range j).map (ys i)) P) (b:=fun _=>true) (fun it=>clauseN1) (fun prog w A it R s h h'=>startAny rfl rfl rfl rfl rfl rfl (fun _=>rfl) h h') a3 (hs2 _) hCl (fun j d2 hd2=>?_) a2 prog w A s H Q E T R I O hL W p k
  refine ex12 (a5 j d2 hd2) fun cv'' c1 c2 c3=>?_
  have hj:j < (items2 i).length:=(List.getElem?_eq_some_iff.mp hd2).1
  refine ⟨cv'',c1,c2,.inl ⟨rfl,rfl⟩,nofun,fun _=>?_⟩
  have e2:Rp.accL D (nestOut (fun i=>(items2 i).length) ys i ++ (List.range (j + 1)).map (ys i)) P = Rp.accL D ((nestOut (fun i=>(items2 i).length) ys i ++ (List.range j).map (ys i)) ++ [ys i j]) P:=by
   rw [List.range_succ,List.map_append];simp
  rw [e2]
  have h1:=hlen i (Nat.le_of_lt hi)
  have h2:=hlen2 i hi
  exact ActR.app hDX hN c3.re c2 (by rw [List.length_append,List.length_map,List.length_range];lia)
 conv:=fun D h H' hD p=>by
  obtain ⟨⟨hN,vs,⟨n,e⟩,vl⟩,p2⟩:=p
  exact ⟨.list e hD hN vl,p2⟩
theorem EVR.listcomp {elt target iter:Expr}{ifs:List Expr}{scope:Scope}{pos:Pos}{rest:List Comprehension}{pp:Pos}{items:List D}{accObj:Obj}{act:Addr→Env→Sem Unit}{b:Nat→Bool}{Ps:∀ D,Nat→Rp (D::X)}{d:D}(hr:firstAsync (⟨target,iter,ifs,0⟩::rest) = false)
  (K:CompOK h₁ r sc vars X (.ListComp elt (⟨target,iter,ifs,0⟩::rest) scope pos) target iter ifs rest scope pp items (newList []) accObj act b Ps P P' d):EVR h₁ r sc vars X P (.ListComp elt (⟨target,iter,ifs,0⟩::rest) scope pos) d P':=by
 intro prog w A env s H Q E T R I O W p k
 rw [eval_ListComp,hr]
 exact K.run T R I O W p k
theorem EVR.dictcomp {kx vx target iter:Expr}{ifs:List Expr}{scope:Scope}{pos:Pos}{rest:List Comprehension}{pp:Pos}{items:List D}{accObj:Obj}{act:Addr→Env→Sem Unit}{b:Nat→Bool}{Ps:∀ D,Nat→Rp (D::X)}{d:D}(hr:firstAsync (⟨target,iter,ifs,0⟩::rest) = false)
  (K:CompOK h₁ r sc vars X (.DictComp kx vx (⟨target,iter,ifs,0⟩::rest) scope pos) target iter ifs rest scope pp items newDict accObj act b Ps P P' d):EVR h₁ r sc vars X P (.DictComp kx vx (⟨target,iter,ifs,0⟩::rest) scope pos) d P':=by
 intro prog w A env s H Q E T R I O W p k
 rw [arm_eval_DictComp,hr]
 exact K.run T R I O W p k
theorem SXR1.assignComp {elt target iter:Expr}{ifs:List Expr}{scope:Scope}{y:Str}{py pos spos:Pos}{rest:List Comprehension}{pp:Pos}{items:List D}{accObj:Obj}{act:Addr→Env→Sem Unit}{b:Nat→Bool}{Ps:∀ D,Nat→Rp (D::X)}{d:D}{Φ:Out→Rp X→Prop}(hr:firstAsync (⟨target,iter,ifs,0⟩::rest) = false)
  (K:CompOK h₁ r sc vars X (.ListComp elt (⟨target,iter,ifs,0⟩::rest) scope pos) target iter ifs rest scope pp items (newList []) accObj act b Ps P P' d)
  (hy:stoK sc y = some .local) (hl:(py.line == pos.line) = true) (hyn:(scope.names.any fun p=>p.1 == y && (p.2 == .local || p.2 == .cell)) = false) (hΦ:Φ (.next ((y,d)::vars)) P') :
  SXR1 h₁ r sc vars X P (.Assign [.Name y py] (.ListComp elt (⟨target,iter,ifs,0⟩::rest) scope pos) spos) Φ:=by
 intro prog w A env s H Q E T R I F W p k
 have O:=F.ok
 have hyk:env.kindOf y = some .local:=O.kindOf (stoK_names hy).1
 have hbk:env.blockKind = .function:=by unfold Env.blockKind;rw [O.kfun];rfl
 have hsw:swapsWith (.ListComp elt (⟨target,iter,ifs,0⟩::rest) scope pos) (some (.Name y py)) spos.line env = pure true:=by
  unfold swapsWith
  show pure (env.blockKind == .function && env.kindOf y == some .local && py.line == pos.line && !(scope.names.any fun p=>p.1 == y && (p.2 == .local || p.2 == .cell))) = pure true
  rw [hbk,hyk,hl,hyn];rfl
 rw [exec_Assign_Name_used _ _ _ _ hsw]
 refine wpAny_bind (wpAny_standAt (wpAny_bind ?_))
 show wpAny _ A (do let _ ← comprehension (.ListComp elt (⟨target,iter,ifs,0⟩::rest) scope pos) scope env _ (newList []) (firstAsync (⟨target,iter,ifs,0⟩::rest)) (eval iter env) (some (PySem.assign (.Name y py) env))) _ _ s
 rw [hr]
 refine wpAny_bind (K.swap T R I F W p (.inl hy) fun s' st I' p' F'=>wpAny_pure (wpAny_pure ?_))
 exact k _ _ _ _ hΦ st I' p' F'
theorem Own.nil:Own env [] H:=⟨(fun _ q=>nomatch q),(fun q=>nomatch q),(fun _ _ _ q=>nomatch q)⟩
theorem EVR.pure {e:Expr}{d:D}{P P':Rp []}(h:EVR h₁ r sc vars [] P e d P') (hP:∀ h H,P.ok h H):EVP h₁ r sc vars e d:=by
 intro prog w A env s H Q E T R I O k
 exact h prog w A env s H Q E T R I O Own.nil (hP _ _) fun v s' st I' _ hv=>k v s' st I' hv
theorem SXR1.pure {st:Stmt}{P:Rp []}{Φ:Out→Prop}(h:SXR1 h₁ r sc vars [] P st fun o _=>Φ o) (hP:∀ h H,P.ok h H):SX1 h₁ r sc vars st Φ:=by
 intro prog w A env s H Q E T R I F k
 refine h prog w A env s H Q E T R I F Own.nil (hP _ _) fun o P' f s' ho st I' _ ok=>k o f s' ho (by simpa using st) I' ok
theorem SXR.pure {body:List Stmt}{P:Rp []}{Φ:Out→Prop}(h:SXR h₁ r sc vars [] P body fun o _=>Φ o) (hP:∀ h H,P.ok h H):SX h₁ r sc vars body Φ:=by
 intro prog w A env s H Q E T R I F k
 refine h prog w A env s H Q E T R I F Own.nil (hP _ _) fun o P' f s' ho st I' _ ok=>k o f s' ho (by simpa using st) I' ok
theorem Rp.nil_ok {X:List Addr}:∀ h H,(Rp.nil:Rp X).ok h H:=fun _ _=>trivial
end
end Mine
namespace Mine
variable [Wd]
section
variable {h₁:Gl}{r:Nat}{sc:Sc}{vars:List (Str × D)}{env:Env}{X H:List Addr}{P P' P'':Rp X}
noncomputable def walkTSt {prog:Program}{w:WW}{A:Around}{it:Addr}{fp wrI:List Addr}{n:Nat}{Pt:Nat→Array Value→Prop}{S:Nat→Heap→Prop}{Mid:Nat→Addr→Heap→Prop}(W:WalksT prog w A it fp wrI n Pt S Mid) (items:List D) (i:Nat):Rp wrI where
 ok h H:=S i h∧(∀ b ∈ fp,b ∈ wrI ∨ (b ∉ H∧N0 ≤ b∧b < h.objs.size))∧(∀ b ∈ wrI,N0 ≤ b∧b < h.objs.size)∧∀ j vals,j < n→Pt j vals→∃ ds,items[j]? = some (.tuple ds)∧VL h H vals.toList ds
 stab:=fun {h h' Y H H'} x st hY hH=>by
  refine ex03 x fun a b c f=>?_
  have hle:h.objs.size ≤ h'.objs.size:=st.size
  refine ⟨W.frame _ _ _ a fun y hy o ho=>?_,fun y hy=>?_,fun y hy=>⟨(c y hy).1,Nat.lt_of_lt_of_le (c y hy).2 hle⟩,fun j v hj hv=>?_⟩
  ·rcases b y hy with hw | ⟨b1,b2,b3⟩
   ·exact st.keep _ _ ho (fun q=>(hY _ q).2 hw) (tabs_lt (c y hw).1)
   ·exact st.keep _ _ ho (fun q=>b1 (hY _ q).1) (tabs_lt b2)
  ·rcases b y hy with hw | ⟨b1,b2,b3⟩
   ·exact .inl hw
   ·exact .inr ⟨fun q=>(hH _ q).elim b1 fun z=>Nat.lt_irrefl _ (Nat.lt_of_lt_of_le b3 z),b2,Nat.lt_of_lt_of_le b3 hle⟩
  ·refine ex11 (f j v hj hv) fun d h1 h2=>?_
   exact ⟨d,h1,h2.step st (fun y q=>(hY y q).1) hH⟩
theorem WalksT.itr {prog:Program}{w:WW}{A:Around}{it:Addr}{fp wrI:List Addr}{items:List D}{Pt:Nat→Array Value→Prop}{S:Nat→Heap→Prop}{Mid:Nat→Addr→Heap→Prop}{elts:List Expr}{kk:Nat}{p:Pos}(W:WalksT prog w A it fp wrI items.length Pt S Mid):Itr prog w A (.Tuple elts kk p) it wrI items (walkTSt W items) where
 item:=fun i d s H Q E hd hst hY hH hN hQ=>by
  refine ex03 hst fun a b c f=>?_
  have hi:i < items.length:=(List.getElem?_eq_some_iff.mp hd).1
  refine with_size (W.item i s _ _ hi a fun T vals h' tk hP hT hTup hMid hk hz=>?_)
  have q:Quiet wrI s { s with heap:=h',toks:=tk }:=⟨hk,hz,rfl,rfl⟩
  have hw:∀ y ∈ wrI,N0 ≤ y:=fun y hy=>(c y hy).1
  refine ⟨_,rfl,with_size (W.go elts kk p i T _ _ _ hMid fun h2 hS hk2 hz2=>?_)⟩
  have q2:Quiet wrI { s with heap:=h',toks:=tk } { s with heap:=h2,toks:=tk }:=⟨hk2,hz2,rfl,rfl⟩
  have q3:=q.trans q2
  have st3:=(q3.st hw).st
  refine ex11 (f i vals hi hP) fun ds e1 e2=>?_
  rw [hd] at e1;cases e1
  have hTw:T ∉ wrI:=W.apart _ _ _ hMid
  refine hQ (.ref T) _ q3 ⟨hS,fun y hy=>?_,fun y hy=>⟨(c y hy).1,Nat.lt_of_lt_of_le (c y hy).2 st3.size⟩,fun j v hj hv=>?_⟩ ?_
  ·exact (b y hy).imp id fun ⟨b1,b2,b3⟩=>⟨b1,b2,Nat.lt_of_lt_of_le b3 st3.size⟩
  ·refine ex11 (f j v hj hv) fun d h1 h2=>?_
   exact ⟨d,h1,h2.step st3 hY fun _ q=>.inl q⟩
  ·refine ex121 hTup fun o t1 t2 n t3=>?_
   exact .tuple (hk2 T o hTw t1) t2 t3 (fun q=>Nat.lt_irrefl _ (Nat.lt_of_lt_of_le (hH T q) hT)) (Nat.le_trans hN hT) (e2.step st3 hY fun _ q=>.inl q)
 done:=fun s H Q E hst hQ=>by
  refine with_size (W.done s _ _ hst.1 fun h' tk hk hz=>?_)
  exact hQ _ ⟨hk,hz,rfl,rfl⟩
 self:=fun i s H Q E hst hQ=>W.self i s Q E hst.1 hQ
noncomputable def enumL (xs:List D):List D:=xs.mapIdx fun i d=>.tuple [.int (i:Int),d]
theorem enumL_len {xs:List D}:(enumL xs).length = xs.length:=by simp [enumL]
theorem enumL_get {xs:List D}{i:Nat}{d:D}(h:xs[i]? = some d):(enumL xs)[i]? = some (.tuple [.int (i:Int),d]):=by
 unfold enumL;rw [List.getElem?_mapIdx,h];rfl
theorem Inv.hideNew {s s':Shared}{Y:List Addr}(I:Inv h₁ H s) (st:SStep [] s s') (hk:∀ b o,s.heap.get? b = some o→s'.heap.get? b = some o) (hg:s'.gens = s.gens) (hY:∀ y ∈ Y,s.heap.objs.size ≤ y∧y < s'.heap.objs.size):Inv h₁ (Y ++ H) s':=by
 have I₂:Inv h₁ H s':=I.kept (fun b o e _=>hk b o e) st.st.size (by rw [hg];exact I.bare)
 have hnew:∀ a,a < s.heap.objs.size→a ∉ H→a ∉ Y ++ H:=fun a ha hn q=>by
  rcases List.mem_append.mp q with q | q
  ·exact absurd ha (Nat.not_lt.mpr (hY a q).1)
  ·exact hn q
 have ht:∀ {t line col q},TabAt s.heap H t line col q→TabAt s'.heap (Y ++ H) t line col q:=fun x=>by
  rcases x with e | ⟨c,o',vs,tk,e1,e2,e3,e4,e6,e7⟩
  ·exact .inl (hk _ _ e)
  ·exact .inr ⟨c,o',vs,tk,hk _ _ e1,hnew c (Heap.lt_size e4) e2,e3,hk _ _ e4,e6,e7⟩
 refine ⟨I₂.kp,⟨ht I.tab.i2d,ht I.tab.d2i,ht I.tab.cal,ht I.tab.lex⟩,I₂.bare,fun b q=>?_,I₂.size,fun p hp=>?_⟩
 ·rcases List.mem_append.mp q with q | q
  ·exact ⟨Nat.le_trans I.size (hY b q).1,(hY b q).2⟩
  ·exact I₂.hok b q
 ·refine ex02 (I.fix p hp) fun e1 e2 e3=>?_
  exact ⟨hk _ _ e1,hnew _ (Heap.lt_size e1) e2,e3⟩
theorem EVJ.enumerate {e:Expr}{p pos tp:Pos}{xs:List D}{elts:List Expr}{kk:Nat}(he:EVP h₁ r sc vars e (.list xs)) (hk:sc.names.lookup (Str.ofString "enumerate") = some .globalImplicit) (hs:isStarred e = false:=by rfl):EVJ h₁ r sc vars (.Call (.Name "enumerate" p) [e] [] pos) (.Tuple elts kk tp) (enumL xs):=by
 intro prog w A env s H Q E T R I O k
 refine evalCall (NameIs.bi (by decide) (f:=.type "enumerate") rfl hk) KeepOK.type (EVS.cons he EVS.nil hs) T R I O fun vs s₁ st I₁ hvs=>?_
 replace hvs:=VL.consI hvs
 refine ex22 hvs fun _ _ zq1 hv hn=>?_;subst zq1
 ·
  obtain rfl:=VL.nilI hn
  refine ex46 hv.asList fun a o items n zq1 e1 c1 c2 hH hN vl=>?_;subst zq1
  have hL:s₁.heap.IsList a items:=⟨o,e1,c1,n,c2⟩
  have hlt:a < s₁.heap.objs.size:=Heap.lt_size e1
  refine call_enumerate_list hL fun h' g1 g2 g3 g4=>?_
  refine wpAny_pyIter_enum g1 ?_
  have hlen:items.size = (enumL xs).length:=by rw [enumL_len,← vl.length];simp
  have W:=WalksT.enumerate (prog:=prog) (w:=w) R.hd (s₁.heap.objs.size + 1) s₁.heap.objs.size a (Nat.succ_ne_self _) (fun q=>by rw [q] at hlt;exact absurd hlt (Nat.not_lt.mpr (Nat.le_succ _))) (fun q=>by rw [q] at hlt;exact absurd hlt (Nat.lt_irrefl _)) items
  rw [hlen] at W
  have st1:SStep [] s₁ { s₁ with heap:=h' }:=SStep.heap' (Step.of_keeps g4 (by rw [g3];exact Nat.le_add_right _ _))
  have hsz:∀ y ∈ [s₁.heap.objs.size + 1,s₁.heap.objs.size],s₁.heap.objs.size ≤ y∧y < h'.objs.size:=fun y hy=>by
   rcases mc hy with rfl | hy
   ·exact ⟨Nat.le_succ _,by rw [g3];exact Nat.lt_succ_self _⟩
   ·rcases ms hy with rfl
    exact ⟨Nat.le_refl _,by rw [g3];exact Nat.lt_succ_of_lt (Nat.lt_succ_self _)⟩
  have I₂:=I₁.hideNew st1 g4 rfl hsz
  refine k (s₁.heap.objs.size + 1) [s₁.heap.objs.size + 1,s₁.heap.objs.size] _ _ (WalksT.itr W) (st.trans st1) I₂ (fun y hy=>Nat.le_trans st.st.size (hsz y hy).1) ?_
  refine ⟨⟨⟨_,g1⟩,g2,hL.at fun o e=>g4 _ o e⟩,fun b hb=>?_,fun b hb=>⟨Nat.le_trans I₁.size (hsz b hb).1,(hsz b hb).2⟩,fun j vals hj hP=>?_⟩
  ·rcases mc hb with rfl | hb
   ·exact .inl (.head _)
   ·rcases mc hb with rfl | hb
    ·exact .inl (.tail _ (.head _))
    ·rcases ms hb with rfl
     refine .inr ⟨fun q=>?_,hN,Nat.lt_of_lt_of_le hlt st1.st.size⟩
     rcases List.mem_append.mp q with q | q
     ·exact absurd hlt (Nat.not_lt.mpr (hsz _ q).1)
     ·exact hH q
  ·refine ex21 hP fun t x e3 zq1=>?_;subst zq1
   refine ex11 (vl.get' (i:=j) (v:=x) (by simpa using e3)) fun d d1 d2=>?_
   refine ⟨_,enumL_get d1,.cons (.int _ _) (.cons ?_ .nil)⟩
   exact d2.step st1.st (fun _ q=>nomatch q) fun y q=>(List.mem_append.mp q).symm.imp id fun q=>(hsz y q).1
end
end Mine
namespace Mine
variable [Wd]
variable {h₁:Gl}{r:Nat}
abbrev qr (a b:Nat):D:=.tuple [.int ((a / b:Nat):Int),.int ((a % b:Nat):Int)]
theorem def3:DefOf (stOf 3) (nameOf' (stOf 3)) (parOf (stOf 3)) (bodyOf (stOf 3)) (scOf0 (stOf 3)):=⟨⟨_,_,_,_,_,_,rfl⟩,rfl,rfl,rfl⟩
theorem div3_tail {vs:List (Str × D)}{a b b2 n r0 q0 a3:Nat}(hn:n ≤ 2 ^ 20) (hr:bl r0 ≤ 2 ^ 21) (hq:q0 < 2 ^ n) (h2:b2 < 2 ^ n) (h3:a3 < 2 ^ n) (hb:0 < b)
  (he:q0 * b + r0 * 2 ^ n + a3 = a + q0 * b2) (hlt:r0 * 2 ^ n + a3 < b + q0 * b2)
  (l1:Has vs "r" (.int (r0:Int))) (l2:Has vs "n" (.int (n:Int))) (l3:Has vs "a3" (.int (a3:Int))) (l4:Has vs "q" (.int (q0:Int))) (l5:Has vs "b2" (.int (b2:Int))) (l6:Has vs "b" (.int (b:Int))) :
  SX h₁ r (scOf (stOf 3)) vs ((bodyOf (stOf 3)).drop 1) (· = .ret (qr a b)):=by
 conv=>arg 5;whnf
 have hm:IntMulOk (q0:Int) (b2:Int):=by
  refine IntMulOk.of_bits ?_ ?_ <;> rw [bits_nat] <;> exact Nat.le_trans (bl_le (by assumption)) hn
 with_reducible refine' SX.assign (d:=.int (((r0 * 2 ^ n + a3:Nat):Int) - (q0:Int) * (b2:Int))) ?k1 ?k2 ?k3 ?k4
 case k2=>first | exact Or.inl rfl | exact Or.inr rfl
 case k3=>exact rfl
 case k1=>
  rw [← or_add h3]
  with_reducible refine' EVP.binop ?k5 ?k6 IOp.sub
  case k5=>
   with_reducible refine' EVP.binop ?k7 (EVP.name l3 rfl) IOp.orN
   with_reducible refine' EVP.binop (EVP.name l1 rfl) (EVP.name l2 rfl) (IOp.shlN (Nat.le_trans (Nat.add_le_add hr hn) (by decide)))
  case k6=>with_reducible exact EVP.binop (EVP.name l4 rfl) (EVP.name l5 rfl) (IOp.mul hm)
 case k4=>
  with_reducible refine SX.kont (SX1.while_ (fun m vs=>∃ q r':Int,Has vs "q" (.int q)∧Has vs "r" (.int r')∧Has vs "b" (.int (b:Int))∧q * b + r' = a∧r' < b∧m = (-r').toNat) ?_ _ ⟨(q0:Int),((r0 * 2 ^ n + a3:Nat):Int) - (q0:Int) * (b2:Int),?_,?_,?_,?_,?_,rfl⟩)
  ·intro m vs' zq
   refine ex25 zq fun q r' v1 v2 v3 v4 v5 zq1=>?_;subst zq1
   refine ⟨decide (r' < 0),?_,?_,?_⟩
   ·with_reducible exact TSP.cmp (EVP.name v2 rfl) EVP.const_int COp.ltI rfl
   ·intro hf
    have hr0:0 ≤ r':=by simpa using hf
    obtain ⟨rn,rfl⟩:=Int.eq_ofNat_of_zero_le hr0
    have hq0:0 ≤ q:=by
     apply Decidable.byContradiction
     intro hneg
     have:q * b + rn < 0:=by
      have h1:q * (b:Int) ≤ -1 * b:=Int.mul_le_mul_of_nonneg_right (by lia) (Int.natCast_nonneg b)
      lia
     lia
    obtain ⟨qn,rfl⟩:=Int.eq_ofNat_of_zero_le hq0
    have e1:a = qn * b + rn:=by
     have:((qn * b + rn:Nat):Int) = (a:Int):=by push_cast;exact v4
     exact_mod_cast this.symm
    have e2:a / b = qn:=by rw [e1,Nat.mul_comm,Nat.mul_add_div hb,Nat.div_eq_of_lt (by exact_mod_cast v5)];rfl
    have e3:a % b = rn:=by rw [e1,Nat.mul_comm,Nat.mul_add_mod,Nat.mod_eq_of_lt (by exact_mod_cast v5)]
    show SX _ _ _ _ _ _
    have e:qr a b = .tuple [.int (qn:Int),.int (rn:Int)]:=by rw [qr,e2,e3]
    rw [e]
    with_reducible refine SX.ret (EVP.tuple (EVS.cons (EVP.name v1 rfl) (EVS.cons (EVP.name v2 rfl) EVS.nil rfl) rfl)) rfl
   ·intro ht
    have hneg:r' < 0:=by simpa using ht
    refine SX.aug v1 EVP.const_int IIp.sub (.inl rfl) (SX.aug (v2.skip rfl) (EVP.name (v3.skip rfl) rfl) IIp.add (.inl rfl) (SX.nil ?_))
    refine ⟨_,_,rfl,?_,q - 1,r' + b,Has.here.skip rfl,Has.here,(v3.skip rfl).skip rfl,?_,?_,rfl⟩
    ·lia
    ·rw [Int.sub_mul];lia
    ·lia
  ·exact l4.skip rfl
  ·exact Has.here
  ·exact l6.skip rfl
  ·have:((q0 * b + r0 * 2 ^ n + a3:Nat):Int) = ((a + q0 * b2:Nat):Int):=by rw [he]
   push_cast at this ⊢
   lia
  ·have:((r0 * 2 ^ n + a3:Nat):Int) < ((b + q0 * b2:Nat):Int):=by exact_mod_cast hlt
   push_cast at this ⊢
   lia
theorem def2:DefOf (stOf 2) (nameOf' (stOf 2)) (parOf (stOf 2)) (bodyOf (stOf 2)) (scOf0 (stOf 2)):=⟨⟨_,_,_,_,_,_,rfl⟩,rfl,rfl,rfl⟩
theorem div3_body {a12 a3 b b1 b2 n:Nat}(hn:n ≤ 2 ^ 19) (hb:b = b1 * 2 ^ n + b2) (hb2:b2 < 2 ^ n) (hb1:b1 < 2 ^ n) (hb1':2 ^ n ≤ 2 * b1) (h3:a3 < 2 ^ n) (h12:a12 < b)
  (hd:a12 < b1 * 2 ^ n→CallOK h₁ r (.ref 21) [.int (a12:Int),.int (b1:Int),.int (n:Int)] (qr a12 b1)) :
  SX h₁ r (scOf (stOf 3)) [("n",.int (n:Int)),("b2",.int (b2:Int)),("b1",.int (b1:Int)),("b",.int (b:Int)),("a3",.int (a3:Int)),("a12",.int (a12:Int))] (bodyOf (stOf 3)) (· = .ret (qr (a12 * 2 ^ n + a3) b)):=by
 have hp:0 < 2 ^ n:=Nat.two_pow_pos n
 have hb1p:0 < b1:=Nat.pos_of_ne_zero fun e=>by rw [e] at hb1';exact absurd hb1' (Nat.not_le.mpr hp)
 have hb0:0 < b:=hb ▸ Nat.lt_of_lt_of_le (Nat.mul_pos hb1p hp) (Nat.le_add_right _ _)
 conv=>arg 5;whnf
 with_reducible refine' SX.ite (b:=(((a12 / 2 ^ n:Nat):Int) == (b1:Int))) ?ht ?hb ?ho
 case ht=>
  with_reducible refine' TSP.cmp ?k1 ?k2 COp.eqI ?k3
  case k1=>exact EVP.binop (EVP.name rfl rfl) (EVP.name rfl rfl) IOp.shrN
  case k2=>exact EVP.name rfl rfl
  case k3=>exact rfl
 case hb=>
  intro ht
  have ht':a12 / 2 ^ n = b1:=by
   have:=beq_iff_eq.mp ht
   exact_mod_cast this
  have hle:b1 * 2 ^ n ≤ a12:=by rw [← ht'];exact Nat.div_mul_le_self _ _
  have hbl1:bl 1 = 1:=by decide
  have hblb:bl b1 ≤ n:=bl_le hb1
  have hn':n ≤ 524288:=hn
  have hsub:a12 - b1 * 2 ^ n < b2:=Nat.sub_lt_left_of_lt_add hle (hb ▸ h12)
  with_reducible refine' SX.swap2 ?k1 ?k2 ?k3 ?k4 ?k5 ?k6 ?k7 ?k8 ?k9 ?k10 ?k11
  case k3=>exact rfl
  case k4=>exact rfl
  case k5=>exact rfl
  case k6=>exact rfl
  case k7=>exact rfl
  case k8=>exact rfl
  case k9=>exact rfl
  case k10=>exact rfl
  case k1=>exact EVP.binop (EVP.binop EVP.c1 (EVP.name rfl rfl) (IOp.shlN (Nat.le_trans (Nat.add_le_add (Nat.le_of_eq hbl1) hn') (by decide)))) EVP.c1 (IOp.subN (Nat.one_mul _ ▸ hp))
  case k2=>exact EVP.binop (EVP.binop (EVP.name rfl rfl) (EVP.binop (EVP.name rfl rfl) (EVP.name rfl rfl) (IOp.shlN (Nat.le_trans (Nat.add_le_add (Nat.le_trans hblb hn') hn') (by decide)))) (IOp.subN hle)) (EVP.name rfl rfl) IOp.addN
  case k11=>
   with_reducible refine SX.done ?_
   refine div3_tail (q0:=1 * 2 ^ n - 1) (r0:=a12 - b1 * 2 ^ n + b1) (b2:=b2) (n:=n) (a3:=a3) ?_ ?_ ?_ hb2 h3 hb0 ?_ ?_ rfl rfl rfl rfl rfl rfl
   ·exact Nat.le_trans hn (by decide)
   ·have h1:a12 - b1 * 2 ^ n + b1 < 2 ^ (n + 1):=by rw [Nat.pow_succ,Nat.mul_two];exact Nat.add_lt_add (Nat.lt_trans hsub hb2) hb1
    have h2:(2:Nat) ^ 21 = 2097152:=by decide
    exact Nat.le_trans (bl_le h1) (Nat.le_trans (Nat.succ_le_succ hn') (by decide))
   ·rw [Nat.one_mul];exact Nat.sub_lt hp Nat.one_pos
   ·rw [hb,Nat.one_mul]
    have e1:(2 ^ n - 1) * (b1 * 2 ^ n + b2) = (2 ^ n - 1) * (b1 * 2 ^ n) + (2 ^ n - 1) * b2:=Nat.mul_add _ _ _
    have e2:(a12 - b1 * 2 ^ n + b1) * 2 ^ n + (2 ^ n - 1) * (b1 * 2 ^ n) = a12 * 2 ^ n:=by
     have e3:(2 ^ n - 1) * (b1 * 2 ^ n) = ((2 ^ n - 1) * b1) * 2 ^ n:=by rw [Nat.mul_assoc]
     rw [e3,← Nat.add_mul]
     congr 1
     rw [Nat.sub_mul,Nat.one_mul,Nat.mul_comm (2 ^ n) b1]
     rw [Nat.add_assoc,Nat.add_sub_cancel' (Nat.le_mul_of_pos_right _ hp),Nat.sub_add_cancel hle]
    rw [e1,← e2,Nat.add_comm (_ * 2 ^ n),Nat.add_right_comm _ ((2 ^ n - 1) * b2),Nat.add_right_comm _ ((2 ^ n - 1) * b2)]
   ·rw [Nat.one_mul,hb]
    rw [hb] at h12
    have e1:(a12 - b1 * 2 ^ n + b1) * 2 ^ n ≤ (b1 + b2 - 1) * 2 ^ n:=Nat.mul_le_mul_right _ (Nat.le_sub_one_of_lt (Nat.add_comm b1 b2 ▸ Nat.add_lt_add_right hsub b1))
    have e2:(b1 + b2 - 1) * 2 ^ n + 2 ^ n = (b1 + b2) * 2 ^ n:=by
     rw [Nat.sub_mul,Nat.one_mul]
     exact Nat.sub_add_cancel (Nat.le_mul_of_pos_left _ (Nat.lt_of_lt_of_le hb1p (Nat.le_add_right _ _)))
    have e3:(b1 + b2) * 2 ^ n = b1 * 2 ^ n + b2 * 2 ^ n:=Nat.add_mul _ _ _
    have e4:(2 ^ n - 1) * b2 + b2 = b2 * 2 ^ n:=by
     rw [Nat.sub_mul,Nat.one_mul,Nat.mul_comm (2 ^ n) b2]
     exact Nat.sub_add_cancel (Nat.le_mul_of_pos_right _ hp)
    have e5:=Nat.add_lt_add_of_le_of_lt e1 h3
    rw [e2,e3,← e4,Nat.add_comm _ b2,← Nat.add_assoc] at e5
    exact e5
 case ho=>
  intro ht
  have ht':a12 / 2 ^ n ≠ b1:=by
   intro q
   rw [q] at ht
   simp at ht
  have hlt:a12 < b1 * 2 ^ n:=by
   have h1:a12 / 2 ^ n < b1 + 1:=by
    rw [Nat.div_lt_iff_lt_mul hp,Nat.add_mul,Nat.one_mul];exact Nat.lt_trans (hb ▸ h12) (Nat.add_lt_add_left hb2 _)
   exact (Nat.div_lt_iff_lt_mul hp).mp (Nat.lt_of_le_of_ne (Nat.le_of_lt_succ h1) ht')
  have hm:=Nat.div_add_mod a12 b1
  have hml:=Nat.mod_lt a12 hb1p
  have hql:a12 / b1 < 2 ^ n:=by
   rw [Nat.div_lt_iff_lt_mul hb1p,Nat.mul_comm];exact hlt
  refine SX.unpack (EVP.call (NameIs.glob (a:=21) (by decide) rfl) (KeepOK.fn Top1.fDiv2) (EVS.cons (EVP.name rfl rfl) (EVS.cons (EVP.name rfl rfl) (EVS.cons (EVP.name rfl rfl) EVS.nil rfl) rfl) rfl) (hd hlt)) rfl ?_ rfl rfl rfl (SX.done ?_)
  ·exact fm (.inl rfl) (fm (.inl rfl) fn)
  ·refine div3_tail (q0:=a12 / b1) (r0:=a12 % b1) (b2:=b2) (n:=n) (a3:=a3) ?_ ?_ hql hb2 h3 hb0 ?_ ?_ rfl rfl rfl rfl rfl rfl
   ·exact Nat.le_trans hn (by decide)
   ·have h1:a12 % b1 < 2 ^ n:=Nat.lt_trans hml hb1
    exact Nat.le_trans (bl_le h1) (Nat.le_trans hn (by decide))
   ·rw [hb,Nat.mul_add]
    have e1:a12 / b1 * (b1 * 2 ^ n) + a12 % b1 * 2 ^ n = a12 * 2 ^ n:=by
     rw [← Nat.mul_assoc,← Nat.add_mul,Nat.mul_comm (a12 / b1) b1,hm]
    rw [← e1,Nat.add_right_comm _ (a12 / b1 * b2),Nat.add_right_comm _ (a12 / b1 * b2)]
   ·rw [hb]
    have e1:(a12 % b1 + 1) * 2 ^ n ≤ b1 * 2 ^ n:=Nat.mul_le_mul_right _ hml
    rw [Nat.add_mul,Nat.one_mul] at e1
    exact Nat.lt_of_lt_of_le (Nat.add_lt_add_left h3 _) (Nat.le_trans e1 (Nat.le_trans (Nat.le_add_right _ _) (Nat.le_add_right _ _)))
end Mine
namespace Mine
variable [Wd]
variable {h₁:Gl}{r:Nat}
abbrev DivOK (h₁:Gl) (r N:Nat):Prop:=∀ a b n:Nat,n ≤ N→b < 2 ^ n→2 ^ n ≤ 2 * b→a < b * 2 ^ n→CallOK h₁ r (.ref 21) [.int (a:Int),.int (b:Int),.int (n:Int)] (qr a b)
abbrev Div3OK (h₁:Gl) (r N:Nat):Prop:=∀ a12 a3 b b1 b2 n:Nat,n ≤ N→b = b1 * 2 ^ n + b2→b2 < 2 ^ n→b1 < 2 ^ n→2 ^ n ≤ 2 * b1→a3 < 2 ^ n→a12 < b →
 CallOK h₁ r (.ref 28) [.int (a12:Int),.int (a3:Int),.int (b:Int),.int (b1:Int),.int (b2:Int),.int (n:Int)] (qr (a12 * 2 ^ n + a3) b)
theorem div3_ok {N:Nat}(hN:N ≤ 2 ^ 19) (h:DivOK h₁ r N):Div3OK h₁ (r + 1) N:=by
 intro a12 a3 b b1 b2 n hn hb hb2 hb1 hb1' h3 h12
 refine CallOK.of_def (xs:=["a12", "a3", "b", "b1", "b2", "n"]) Top1.fDiv3 def3 ?_ ?_ ?_ ?_
 ·intro m vs hl
  refine ex60 (len6 hl) fun _ _ _ _ _ _ zq1=>?_;subst zq1
  rfl
 ·exact fm rfl (fm rfl (fm rfl (fm rfl (fm rfl (fm rfl fn)))))
 ·decide
 ·refine SX.mono (div3_body (Nat.le_trans hn hN) hb hb2 hb1 hb1' h3 h12 fun hlt=>h a12 b1 n hn hb1 hb1' hlt) fun o e=>.inl e
theorem no_pylong {a b n:Nat}(hb:b < 2 ^ n) (hb':2 ^ n ≤ 2 * b) (ha:bl a ≤ n + 4000):Builtin.divisionGoesByPylong (a:Int) (b:Int) = false:=by
 have e:bl b = n:=bl_eq hb hb'
 unfold bl at e ha
 unfold Builtin.divisionGoesByPylong
 have hb0:b ≠ 0:=by rintro rfl;have:=Nat.two_pow_pos n;lia
 rw [if_neg hb0] at e
 have e1:((b:Int) == 0) = false:=by simpa using hb0
 simp only [e1,Int.natAbs_natCast,Bool.false_eq_true,if_false,Bool.and_eq_false_iff,decide_eq_false_iff_not]
 right
 by_cases h0:a = 0
 ·subst h0;simp
 ·have e2:((a:Int) == 0) = false:=by simpa using h0
  rw [if_neg h0] at ha
  simp only [e2,Bool.false_eq_true,if_false]
  lia
theorem div2_tail {vs:List (Str × D)}{a b h p:Nat}{N:Nat}(hN:N ≤ 2 ^ 19) (hn:h ≤ N) (hb:b < 2 ^ (2 * h)) (hb':2 ^ (2 * h) ≤ 2 * b) (ha:a < b * 2 ^ (2 * h)) (h3:Div3OK h₁ r N)
  (l1:Has vs "a" (.int (a:Int))) (l2:Has vs "b" (.int (b:Int))) (l3:Has vs "n" (.int ((2 * h:Nat):Int))) (l4:Has vs "pad" (.int (p:Int))) :
  SX h₁ r (scOf (stOf 2)) vs ((bodyOf (stOf 2)).drop 3) (· = .ret (.tuple [.int ((a / b:Nat):Int),.int ((if p = 0 then a % b else a % b / 2:Nat):Int)])):=by
 have hb0:0 < b:=Nat.pos_of_ne_zero fun e=>by rw [e] at hb';exact absurd (Nat.two_pow_pos (2 * h)) (Nat.not_lt.mpr hb')
 have hp:0 < 2 ^ h:=Nat.two_pow_pos h
 have hh:2 ^ (2 * h) = 2 ^ h * 2 ^ h:=by rw [Nat.two_mul,Nat.pow_add]
 have hh':h ≤ 524288:=Nat.le_trans hn hN
 have hbl1:bl 1 = 1:=by decide
 conv=>arg 5;whnf
 have e1:2 * h / 2 ^ 1 = h:=by rw [Nat.pow_one];exact Nat.mul_div_cancel_left h (by decide)
 refine SX.assign (d:=.int (h:Int)) ?k1 (.inl rfl) rfl ?k2
 case k1=>exact EVP.as (EVP.binop (EVP.name l3 rfl) EVP.c1 IOp.shrN) (by rw [e1])
 case k2=>
 refine SX.assign (d:=.int ((2 ^ h - 1:Nat):Int)) ?k3 (.inl rfl) rfl ?k4
 case k3=>exact EVP.as (EVP.binop (EVP.binop EVP.c1 (EVP.name Has.here rfl) (IOp.shlN (Nat.le_trans (Nat.add_le_add (Nat.le_of_eq hbl1) hh') (by decide)))) EVP.c1 (IOp.subN (Nat.one_mul _ ▸ hp))) (by rw [Nat.one_mul])
 case k4=>
 refine SX.swap2 (d1:=.int ((b / 2 ^ h:Nat):Int)) (d2:=.int ((b % 2 ^ h:Nat):Int)) ?k5 ?k6 rfl rfl rfl rfl rfl rfl rfl rfl ?k7
 case k5=>exact EVP.binop (EVP.name ((l2.skip rfl).skip rfl) rfl) (EVP.name (Has.here.skip rfl) rfl) IOp.shrN
 case k6=>exact EVP.binop (EVP.name ((l2.skip rfl).skip rfl) rfl) (EVP.name Has.here rfl) IOp.maskN
 case k7=>
 have L1:∀ (x y z u:D),Has (("b1",x)::("b2",y)::("mask",z)::("half_n",u)::vs) "a" (.int (a:Int)):=fun _ _ _ _=>(((l1.skip rfl).skip rfl).skip rfl).skip rfl
 have L2:∀ (x y z u:D),Has (("b1",x)::("b2",y)::("mask",z)::("half_n",u)::vs) "b" (.int (b:Int)):=fun _ _ _ _=>(((l2.skip rfl).skip rfl).skip rfl).skip rfl
 have L3:∀ (x y z u:D),Has (("b1",x)::("b2",y)::("mask",z)::("half_n",u)::vs) "n" (.int ((2 * h:Nat):Int)):=fun _ _ _ _=>(((l3.skip rfl).skip rfl).skip rfl).skip rfl
 have L4:∀ (x y z u:D),Has (("b1",x)::("b2",y)::("mask",z)::("half_n",u)::vs) "pad" (.int (p:Int)):=fun _ _ _ _=>(((l4.skip rfl).skip rfl).skip rfl).skip rfl
 have b1lt:b / 2 ^ h < 2 ^ h:=by rw [Nat.div_lt_iff_lt_mul hp,← hh];exact hb
 have bdm:b = b / 2 ^ h * 2 ^ h + b % 2 ^ h:=by rw [Nat.mul_comm];exact (Nat.div_add_mod b (2 ^ h)).symm
 have b2lt:b % 2 ^ h < 2 ^ h:=Nat.mod_lt _ hp
 have b1ge:2 ^ h ≤ 2 * (b / 2 ^ h):=by
  apply Nat.le_of_not_lt
  intro q
  cases h with
  | zero=>simp at q b1lt hb' hb;lia
  | succ k=>
   have:2 * (b / 2 ^ (k + 1)) + 1 < 2 ^ (k + 1):=by rw [Nat.pow_succ] at q ⊢;lia
   have h1:2 * (b / 2 ^ (k + 1) * 2 ^ (k + 1)) + 2 * 2 ^ (k + 1) ≤ 2 ^ (k + 1) * 2 ^ (k + 1):=by
    have:(2 * (b / 2 ^ (k + 1)) + 2) * 2 ^ (k + 1) ≤ 2 ^ (k + 1) * 2 ^ (k + 1):=Nat.mul_le_mul_right _ this
    rw [Nat.add_mul,Nat.mul_assoc] at this
    exact this
   rw [hh] at hb'
   have h2:2 * b < 2 * (b / 2 ^ (k + 1) * 2 ^ (k + 1)) + 2 * 2 ^ (k + 1):=by
    rw [← Nat.mul_add]
    exact (Nat.mul_lt_mul_left (by decide)).mpr (Nat.lt_of_le_of_lt (Nat.le_of_eq bdm) (Nat.add_lt_add_left b2lt _))
   exact Nat.lt_irrefl _ (Nat.lt_of_le_of_lt hb' (Nat.lt_of_lt_of_le h2 h1))
 have aq:a / 2 ^ (2 * h) < b:=by rw [Nat.div_lt_iff_lt_mul (Nat.two_pow_pos _)];exact ha
 have t1:a / 2 ^ (2 * h) * 2 ^ h + a / 2 ^ h % 2 ^ h = a / 2 ^ h:=by
  rw [hh,← Nat.div_div_eq_div_mul,Nat.mul_comm];exact Nat.div_add_mod _ _
 have c1:=h3 (a / 2 ^ (2 * h)) (a / 2 ^ h % 2 ^ h) b (b / 2 ^ h) (b % 2 ^ h) h hn bdm b2lt b1lt b1ge (Nat.mod_lt _ hp) aq
 rw [t1] at c1
 have c2:=h3 (a / 2 ^ h % b) (a % 2 ^ h) b (b / 2 ^ h) (b % 2 ^ h) h hn bdm b2lt b1lt b1ge (Nat.mod_lt _ hp) (Nat.mod_lt _ hb0)
 have hs2:∀ (x y:Str) (p1 p2:Pos),Sto (scOf (stOf 2)) x→Sto (scOf (stOf 2)) y→∀ e ∈ [Expr.Name x p1,Expr.Name y p2],Sto (scOf (stOf 2)) (nmOf e):=by
  intro x y p1 p2 hx hy e he
  simp only [mcI,List.not_mem_nil,or_false] at he
  rcases he with rfl | rfl
  ·exact hx
  ·exact hy
 refine SX.unpack (EVP.call (NameIs.glob (a:=28) (by decide) rfl) (KeepOK.fn Top1.fDiv3) (EVS.cons (EVP.binop (EVP.name (L1 _ _ _ _) rfl) (EVP.name (L3 _ _ _ _) rfl) IOp.shrN)
  (EVS.cons (EVP.binop (EVP.binop (EVP.name (L1 _ _ _ _) rfl) (EVP.name (((Has.here.skip rfl).skip rfl).skip rfl) rfl) IOp.shrN) (EVP.name ((Has.here.skip rfl).skip rfl) rfl) IOp.maskN)
  (EVS.cons (EVP.name (L2 _ _ _ _) rfl) (EVS.cons (EVP.name Has.here rfl) (EVS.cons (EVP.name (Has.here.skip rfl) rfl) (EVS.cons (EVP.name (((Has.here.skip rfl).skip rfl).skip rfl) rfl) EVS.nil rfl) rfl) rfl) rfl) rfl) rfl) c1) rfl (hs2 _ _ _ _ (.inl rfl) (.inl rfl)) rfl rfl rfl ?k8
 case k8=>
 show SX h₁ r (scOf (stOf 2)) (("r",.int ((a / 2 ^ h % b:Nat):Int))::("q1",.int ((a / 2 ^ h / b:Nat):Int))::("b1",.int ((b / 2 ^ h:Nat):Int))::("b2",.int ((b % 2 ^ h:Nat):Int))::("mask",.int ((2 ^ h - 1:Nat):Int))::("half_n",.int (h:Int))::vs) _ _
 refine SX.unpack (EVP.call (NameIs.glob (a:=28) (by decide) rfl) (KeepOK.fn Top1.fDiv3) (EVS.cons (EVP.name Has.here rfl)
  (EVS.cons (EVP.binop (EVP.name (((L1 _ _ _ _).skip rfl).skip rfl) rfl) (EVP.name ((((Has.here.skip rfl).skip rfl).skip rfl).skip rfl) rfl) IOp.maskN)
  (EVS.cons (EVP.name (((L2 _ _ _ _).skip rfl).skip rfl) rfl) (EVS.cons (EVP.name ((Has.here.skip rfl).skip rfl) rfl) (EVS.cons (EVP.name (((Has.here.skip rfl).skip rfl).skip rfl) rfl) (EVS.cons (EVP.name (((((Has.here.skip rfl).skip rfl).skip rfl).skip rfl).skip rfl) rfl) EVS.nil rfl) rfl) rfl) rfl) rfl) rfl) c2) rfl (hs2 _ _ _ _ (.inl rfl) (.inl rfl)) rfl rfl rfl ?k9
 case k9=>
 have am:a = a / 2 ^ h * 2 ^ h + a % 2 ^ h:=by rw [Nat.mul_comm];exact (Nat.div_add_mod a (2 ^ h)).symm
 have qm:a / 2 ^ h = a / 2 ^ h / b * b + a / 2 ^ h % b:=by rw [Nat.mul_comm];exact (Nat.div_add_mod _ b).symm
 generalize hq2:(a / 2 ^ h % b * 2 ^ h + a % 2 ^ h) / b = q2
 generalize hr2:(a / 2 ^ h % b * 2 ^ h + a % 2 ^ h) % b = r2
 have f1:a / 2 ^ h % b * 2 ^ h + a % 2 ^ h = q2 * b + r2:=by rw [← hq2,← hr2];exact (Nat.div_add_mod' _ b).symm
 have r2lt:r2 < b:=by rw [← hr2];exact Nat.mod_lt _ hb0
 have q2lt:q2 < 2 ^ h:=by
  rw [← hq2,Nat.div_lt_iff_lt_mul hb0]
  have hc:=Nat.mul_comm (2 ^ h) b
  have h1:(a / 2 ^ h % b + 1) * 2 ^ h ≤ b * 2 ^ h:=Nat.mul_le_mul_right _ (Nat.mod_lt _ hb0)
  rw [Nat.add_mul,Nat.one_mul] at h1
  rw [hc]
  exact Nat.lt_of_lt_of_le (Nat.add_lt_add_left (Nat.mod_lt a hp) _) h1
 have f2:a = (a / 2 ^ h / b * 2 ^ h + q2) * b + r2:=by
  have h1:(a / 2 ^ h / b * b + a / 2 ^ h % b) * 2 ^ h = a / 2 ^ h * 2 ^ h:=by rw [← qm]
  rw [Nat.add_mul] at h1 ⊢
  have h2:a / 2 ^ h / b * b * 2 ^ h = a / 2 ^ h / b * 2 ^ h * b:=by rw [Nat.mul_assoc,Nat.mul_comm b,← Nat.mul_assoc]
  rw [← h2,Nat.add_assoc,← f1,← Nat.add_assoc,h1]
  exact am
 have f3:a / b = a / 2 ^ h / b * 2 ^ h + q2:=by
  conv=>lhs;rw [f2]
  rw [Nat.mul_comm,Nat.mul_add_div hb0,Nat.div_eq_of_lt r2lt];rfl
 have f4:a % b = r2:=by
  conv=>lhs;rw [f2]
  rw [Nat.mul_comm,Nat.mul_add_mod,Nat.mod_eq_of_lt r2lt]
 have q1bl:bl (a / 2 ^ h / b) ≤ 2 * h:=bl_le (by
  have:a / 2 ^ h / b ≤ a / b:=by rw [f3];exact Nat.le_trans (Nat.le_mul_of_pos_right _ hp) (Nat.le_add_right _ _)
  have g2:a / b < 2 ^ (2 * h):=by rw [Nat.div_lt_iff_lt_mul hb0,Nat.mul_comm];exact ha
  exact Nat.lt_of_le_of_lt this g2)
 show SX h₁ r (scOf (stOf 2)) (("r",.int (r2:Int))::("q2",.int (q2:Int))::("r",.int ((a / 2 ^ h % b:Nat):Int))::("q1",.int ((a / 2 ^ h / b:Nat):Int))::("b1",.int ((b / 2 ^ h:Nat):Int))::("b2",.int ((b % 2 ^ h:Nat):Int))::("mask",.int ((2 ^ h - 1:Nat):Int))::("half_n",.int (h:Int))::vs) _ _
 rw [f3,f4]
 have last:∀ (vs':List (Str × D)) (rr:Nat),Has vs' "q1" (.int ((a / 2 ^ h / b:Nat):Int))→Has vs' "half_n" (.int (h:Int))→Has vs' "q2" (.int (q2:Int))→Has vs' "r" (.int (rr:Int)) →
   SX h₁ r (scOf (stOf 2)) vs' ((bodyOf (stOf 2)).drop 9) (· = .ret (.tuple [.int ((a / 2 ^ h / b * 2 ^ h + q2:Nat):Int),.int (rr:Int)])):=by
  intro vs' rr v1 v2 v3 v4
  conv=>arg 5;whnf
  rw [← or_add q2lt]
  exact SX.ret (EVP.tuple (EVS.cons (EVP.binop (EVP.binop (EVP.name v1 rfl) (EVP.name v2 rfl) (IOp.shlN (Nat.le_trans (Nat.add_le_add (Nat.le_trans q1bl (Nat.mul_le_mul_left 2 hh')) hh') (by decide)))) (EVP.name v3 rfl) IOp.orN) (EVS.cons (EVP.name v4 rfl) EVS.nil rfl) rfl)) rfl
 refine SX.ite (b:=((p:Int) != 0)) (TSP.value (EVP.name ((((L4 _ _ _ _).skip rfl).skip rfl).skip rfl |>.skip rfl) rfl) Tru.int rfl) ?k10 ?k11
 case k10=>
  intro hb
  have hp0:p ≠ 0:=by
   rintro rfl
   simp at hb
  rw [if_neg hp0]
  refine SX.aug Has.here EVP.c1 IIp.shrN (.inl rfl) (SX.done ?_)
  rw [Nat.pow_one]
  exact last _ _ ((((Has.here.skip rfl).skip rfl).skip rfl).skip rfl) (((((((((Has.here.skip rfl).skip rfl).skip rfl).skip rfl).skip rfl).skip rfl).skip rfl).skip rfl)) ((Has.here.skip rfl).skip rfl) Has.here
 case k11=>
  intro hb
  have hp0:p = 0:=by
   have:((p:Int) == 0) = true:=by simpa using hb
   have:=beq_iff_eq.mp this
   exact_mod_cast this
  rw [if_pos hp0]
  refine SX.done ?_
  exact last _ _ (((Has.here.skip rfl).skip rfl).skip rfl) ((((((((Has.here.skip rfl).skip rfl).skip rfl).skip rfl).skip rfl).skip rfl).skip rfl)) (Has.here.skip rfl) Has.here
theorem div2_body {a b n:Nat}{N:Nat}(hN:2 * N ≤ 2 ^ 19) (hn:n ≤ 2 * N) (hb:b < 2 ^ n) (hb':2 ^ n ≤ 2 * b) (ha:a < b * 2 ^ n) (h3:¬ bl a ≤ n + 4000→Div3OK h₁ r N) :
  SX h₁ r (scOf (stOf 2)) [("n",.int (n:Int)),("b",.int (b:Int)),("a",.int (a:Int))] (bodyOf (stOf 2)) (· = .ret (qr a b)):=by
 have hb0:0 < b:=Nat.pos_of_ne_zero fun e=>by rw [e] at hb';exact absurd (Nat.two_pow_pos n) (Nat.not_lt.mpr hb')
 conv=>arg 5;whnf
 with_reducible refine' SX.ite (b:=decide ((((bl a:Nat):Int)) - (n:Int) ≤ 4000)) ?ht ?hb ?ho
 case ht=>
  have hB:MethOK h₁ r (Str.ofString "bit_length") (.int (a:Int)) [] (.int ((bl a:Nat):Int)):=by rw [← bits_nat];exact MethOK.bit_length
  refine TSP.cmp (EVP.binop (EVP.meth (EVP.name rfl rfl) EVS.nil hB rfl rfl (by decide)) (EVP.name rfl rfl) IOp.sub) (EVP.limit rfl) COp.leI rfl
 case hb=>
  intro ht
  have ht':bl a ≤ n + 4000:=by have:=of_decide_eq_true ht;lia
  have hc:CallOK h₁ r (.builtin "divmod") [.int (a:Int),.int (b:Int)] (qr a b):=by
   have:=CallOK.divmod (h₁:=h₁) (r:=r) (a:=(a:Int)) (b:=(b:Int)) (by lia) (no_pylong hb hb' ht')
   rw [fdiv_nat,fmod_nat] at this
   exact this
  refine SX.ret (EVP.call (NameIs.bi (by decide) boot_divmod rfl) KeepOK.builtin (EVS.cons (EVP.name rfl rfl) (EVS.cons (EVP.name rfl rfl) EVS.nil rfl) rfl) hc) rfl
 case ho=>
  intro ht
  have ht':¬ bl a ≤ n + 4000:=by have:=of_decide_eq_false ht;lia
  have hd:=h3 ht'
  refine SX.done (SX.assign (d:=.int ((n % 2:Nat):Int)) ?k1 (.inl rfl) rfl ?k2)
  case k1=>
   rw [← Nat.and_one_is_mod]
   exact EVP.binop (EVP.name rfl rfl) EVP.c1 IOp.andN
  case k2=>
  have hn':n ≤ 524288:=Nat.le_trans hn hN
  refine SX.ite (b:=(((n % 2:Nat):Int) != 0)) (TSP.value (EVP.name Has.here rfl) Tru.int rfl) ?k3 ?k4
  case k3=>
   intro hb2
   have hodd:n % 2 = 1:=by
    rcases Nat.mod_two_eq_zero_or_one n with q | q
    ·rw [q] at hb2;simp at hb2
    ·exact q
   obtain ⟨h,hh⟩:∃ h,n + 1 = 2 * h:=⟨(n + 1) / 2,by lia⟩
   have hbla:bl a + 1 ≤ 134217728:=by
    have:bl a ≤ 2 * n:=bl_le (by
     rw [Nat.two_mul,Nat.pow_add]
     exact Nat.lt_of_lt_of_le ha (Nat.mul_le_mul_right _ (Nat.le_of_lt hb)))
    exact Nat.le_trans (Nat.succ_le_succ (Nat.le_trans this (Nat.mul_le_mul_left 2 hn'))) (by decide)
   have hblb:bl b + 1 ≤ 134217728:=Nat.le_trans (Nat.succ_le_succ (Nat.le_trans (bl_le hb) hn')) (by decide)
   refine SX.aug rfl EVP.c1 (IIp.shlN hbla) (.inl rfl) (SX.aug rfl EVP.c1 (IIp.shlN hblb) (.inl rfl) (SX.aug rfl EVP.c1 IIp.addN (.inl rfl) (SX.done ?k5)))
   case k5=>
   rw [hh]
   have e1:b * 2 ^ 1 < 2 ^ (2 * h):=by rw [Nat.pow_one,← hh,Nat.pow_succ];exact (Nat.mul_lt_mul_right (by decide)).mpr hb
   have e2:2 ^ (2 * h) ≤ 2 * (b * 2 ^ 1):=by rw [Nat.pow_one,← hh,Nat.pow_succ,← Nat.mul_assoc];exact Nat.mul_le_mul_right 2 hb'
   have e3:a * 2 ^ 1 < b * 2 ^ 1 * 2 ^ (2 * h):=by
    rw [Nat.pow_one,← hh,Nat.pow_succ]
    have:b * 2 * (2 ^ n * 2) = 4 * (b * 2 ^ n):=by rw [Nat.mul_comm b 2,Nat.mul_comm (2 ^ n) 2,Nat.mul_assoc,← Nat.mul_assoc b 2,Nat.mul_comm b 2,Nat.mul_assoc,← Nat.mul_assoc]
    lia
   have t:=div2_tail (r:=r) (p:=n % 2) (vs:=("n",.int ((2 * h:Nat):Int))::("b",.int ((b * 2 ^ 1:Nat):Int))::("a",.int ((a * 2 ^ 1:Nat):Int))::("pad",.int ((n % 2:Nat):Int))::[("n",.int (n:Int)),("b",.int (b:Int)),("a",.int (a:Int))]) (Nat.le_trans (by lia) hN) (show h ≤ N by lia) e1 e2 e3 hd ((Has.here.skip rfl).skip rfl) (Has.here.skip rfl) Has.here (((Has.here.skip rfl).skip rfl).skip rfl)
   have e4:a * 2 ^ 1 / (b * 2 ^ 1) = a / b:=Nat.mul_div_mul_right _ _ (by decide)
   have e5:(if n % 2 = 0 then a * 2 ^ 1 % (b * 2 ^ 1) else a * 2 ^ 1 % (b * 2 ^ 1) / 2) = a % b:=by
    rw [if_neg (by lia),Nat.pow_one,Nat.mul_mod_mul_right];lia
   rw [e4,e5] at t
   exact t
  case k4=>
   intro hb2
   have heven:n % 2 = 0:=by
    rcases Nat.mod_two_eq_zero_or_one n with q | q
    ·exact q
    ·rw [q] at hb2;simp at hb2
   obtain ⟨h,rfl⟩:∃ h,n = 2 * h:=⟨n / 2,by lia⟩
   have t:=div2_tail (r:=r) (p:=2 * h % 2) (vs:=("pad",.int ((2 * h % 2:Nat):Int))::[("n",.int ((2 * h:Nat):Int)),("b",.int (b:Int)),("a",.int (a:Int))]) (Nat.le_trans (by lia) hN) (show h ≤ N by lia) hb hb' ha hd (((Has.here.skip rfl).skip rfl).skip rfl) ((Has.here.skip rfl).skip rfl) (Has.here.skip rfl) Has.here
   rw [if_pos heven] at t
   exact SX.done t
theorem div2_step {N:Nat}(hN:2 * N ≤ 2 ^ 19) (h3:Div3OK h₁ r N):DivOK h₁ (r + 1) (2 * N):=by
 intro a b n hn hb hb' ha
 refine CallOK.of_def (xs:=["a", "b", "n"]) Top1.fDiv2 def2 ?_ ?_ ?_ ?_
 ·intro m vs hl
  refine ex30 (len3 hl) fun _ _ _ zq1=>?_;subst zq1
  rfl
 ·exact fm rfl (fm rfl (fm rfl fn))
 ·decide
 ·exact SX.mono (div2_body hN hn hb hb' ha fun _=>h3) fun o e=>.inl e
theorem div2_base:DivOK h₁ 1 4000:=by
 intro a b n hn hb hb' ha
 refine CallOK.of_def (r:=0) (xs:=["a", "b", "n"]) Top1.fDiv2 def2 ?_ ?_ ?_ ?_
 ·intro m vs hl
  refine ex30 (len3 hl) fun _ _ _ zq1=>?_;subst zq1
  rfl
 ·exact fm rfl (fm rfl (fm rfl fn))
 ·decide
 ·refine SX.mono (div2_body (N:=4000) (by decide) (by lia) hb hb' ha fun q=>absurd ?_ q) fun o e=>.inl e
  have:bl a ≤ 2 * n:=bl_le (by
   rw [Nat.two_mul,Nat.pow_add]
   exact Nat.lt_of_lt_of_le ha (Nat.mul_le_mul_right _ (Nat.le_of_lt hb)))
  lia
theorem div2_ok:DivOK h₁ 5 16000:=div2_step (N:=8000) (by decide) (div3_ok (by decide) (div2_step (N:=4000) (by decide) (div3_ok (by decide) div2_base)))
end Mine
namespace Mine
variable [Wd]
noncomputable def dval (B:Nat):List Nat→Nat
 | []=>0
 | d::r=>d + B * dval B r
theorem dval_append (B:Nat):∀ (l m:List Nat),dval B (l ++ m) = dval B l + B ^ l.length * dval B m
 | [],m=>by simp [dval]
 | d::l,m=>by
  rw [List.cons_append,dval,dval,dval_append B l m,List.length_cons,Nat.pow_succ,Nat.mul_add,Nat.add_assoc,← Nat.mul_assoc,Nat.mul_comm B (B ^ l.length)]
theorem dval_lt {B:Nat}(hB:0 < B):∀ {l:List Nat},(∀ d ∈ l,d < B)→dval B l < B ^ l.length
 | [],_=>by simp [dval]
 | d::l,h=>by
  have h1:=h d (.head _)
  have h2:=dval_lt hB fun x hx=>h x (.tail _ hx)
  rw [dval,List.length_cons,Nat.pow_succ]
  have:B * dval B l + B ≤ B * B ^ l.length:=by rw [← Nat.mul_succ];exact Nat.mul_le_mul_left _ h2
  rw [Nat.mul_comm (B ^ l.length)]
  lia
noncomputable def innOf (st:Stmt) (i:Nat):Stmt:=((bodyOf st)[i]?).getD (.Pass ⟨0,0,0,0⟩)
abbrev inn5:Stmt:=innOf (stOf 5) 0
theorem drop_take_split {α:Type}(l:List α) {a b c:Nat}(h1:a ≤ b) (h2:b ≤ c):(l.drop a).take (c - a) = (l.drop a).take (b - a) ++ (l.drop b).take (c - b):=by
 rw [ar5 h1 h2,List.take_add,List.drop_drop,Nat.add_sub_cancel' h1]
theorem natL_get {ds:List Nat}{i:Nat}(h:i < ds.length):(natL ds)[i]? = some (.int ((ds[i]:Nat):Int)):=by
 rw [List.getElem?_map,List.getElem?_eq_getElem h];rfl
theorem dec_eq {a b:Nat}:(((a:Nat):Int) == (b:Int)) = decide (a = b):=by rw [Bool.eq_iff_iff];simp;omega
section
variable {h₁:Gl}{r:Nat}
theorem inner5 {f:Addr}{q:Str}{clos:List (Str × Addr)}{ds:List Nat}{n:Nat}(hf:FnK h₁ f "inner" q (parOf inn5) (bodyOf inn5) (scOf0 inn5) clos)
  (hc:ClosK h₁ (scOf0 inn5) clos [("digits",.list (natL ds)),("n",.int (n:Int))] [("inner",.ref f)]) (hd:∀ d ∈ ds,d < 2 ^ n) (hn:n * ds.length ≤ 2 ^ 25) (hl:ds.length ≤ 2 ^ 25) :
  ∀ k L R:Nat,R - L ≤ k→L < R→R ≤ ds.length→CallOK h₁ (k + 1) (.ref f) [.int (L:Int),.int (R:Int)] (.int ((dval (2 ^ n) ((ds.drop L).take (R - L)):Nat):Int)):=by
 intro k
 induction k with
 | zero=>intro L R h1 h2;exact absurd (Nat.le_of_sub_eq_zero (Nat.le_zero.mp h1)) (Nat.not_le.mpr h2)
 | succ k ih=>
  intro L R h1 h2 h3
  refine CallOK.of_inner (xs:=["L", "R"]) hf hc ?_ ?_ ?_
  ·intro c doc pm ctv vs hl
   refine ex20 (len2 hl) fun _ _ zq1=>?_;subst zq1
   rfl
  ·exact fm rfl (fm rfl fn)
  ·have vL:Has [("R",.int (R:Int)),("L",.int (L:Int)),("digits",.list (natL ds)),("n",.int (n:Int))] "L" (.int (L:Int)):=Has.here.skip rfl
   have vR:Has [("R",.int (R:Int)),("L",.int (L:Int)),("digits",.list (natL ds)),("n",.int (n:Int))] "R" (.int (R:Int)):=Has.here
   have vD:Has [("R",.int (R:Int)),("L",.int (L:Int)),("digits",.list (natL ds)),("n",.int (n:Int))] "digits" (.list (natL ds)):=(Has.here.skip rfl).skip rfl
   have vN:Has [("R",.int (R:Int)),("L",.int (L:Int)),("digits",.list (natL ds)),("n",.int (n:Int))] "n" (.int (n:Int)):=((Has.here.skip rfl).skip rfl).skip rfl
   show SX h₁ (k + 1) ⟨scOf0 inn5,[("inner",.ref f)]⟩ [("R",.int (R:Int)),("L",.int (L:Int)),("digits",.list (natL ds)),("n",.int (n:Int))] (bodyOf inn5) _
   generalize [(("R":Str),PyData.int (R:Int)),("L",.int (L:Int)),("digits",.list (natL ds)),("n",.int (n:Int))] = vs at vL vR vD vN
   conv=>arg 5;whnf
   refine SX.ite (b:=decide (L + 1 = R)) ?k1 ?k2 ?k3
   case k1=>
    refine TSP.as (TSP.cmp (EVP.binop (EVP.name vL rfl) EVP.c1 IOp.addN) (EVP.name vR rfl) COp.eqI) ?_
    exact dec_eq
   case k2=>
    intro hb
    have hb':L + 1 = R:=by simpa using hb
    have hL:L < ds.length:=Nat.lt_of_lt_of_le h2 h3
    refine SX.ret (d:=.int ((ds[L]:Nat):Int)) (EVP.item (EVP.name vD rfl) (EVP.name vL rfl) (GetOK.list (natL_get hL) (Nat.lt_of_lt_of_le hL (Nat.le_trans hl (by decide))))) ?_
    show (_ ∨ _)
    left
    have e:(ds.drop L).take (R - L) = [ds[L]]:=by
     rw [← hb',Nat.add_sub_cancel_left,List.drop_eq_getElem_cons hL];rfl
    rw [e];simp [dval]
   case k3=>
    intro hb
    have hb':L + 1 ≠ R:=by simpa using hb
    refine SX.done ?_
    refine gl ((L + R) / 2) fun mid hm=>?_
    have m12:=hm ▸ mid_lt h2 hb'
    have m1:=m12.1
    have m2:=m12.2
    have hRd:mid ≤ ds.length:=Nat.le_trans (Nat.le_of_lt m2) h3
    have hml:mid - L ≤ ds.length:=Nat.le_trans (Nat.sub_le _ _) hRd
    refine SX.assign (d:=.int (mid:Int)) ?k4 (.inl rfl) rfl ?k5
    case k4=>exact EVP.as (EVP.binop (EVP.binop (EVP.name vL rfl) (EVP.name vR rfl) IOp.addN) EVP.c1 IOp.shrN) (by rw [hm,Nat.pow_one])
    case k5=>
    have hb1:bl (mid - L) ≤ 26:=bl_le (Nat.lt_of_le_of_lt (Nat.le_trans hml hl) (by decide))
    have hb2:bl n ≤ 26:=bl_le (Nat.lt_of_le_of_lt (Nat.le_trans (Nat.le_mul_of_pos_right n (Nat.lt_of_lt_of_le (Nat.zero_lt_of_lt h2) h3)) hn) (by decide))
    have hmn:(mid - L) * n ≤ 2 ^ 25:=Nat.le_trans (Nat.mul_le_mul_right n hml) (Nat.mul_comm n _ ▸ hn)
    refine SX.assign (d:=.int (((mid - L) * n:Nat):Int)) ?k6 (.inl rfl) rfl ?k7
    case k6=>exact EVP.binop (EVP.binop (EVP.name Has.here rfl) (EVP.name (vL.skip rfl) rfl) (IOp.subN (Nat.le_of_lt m1))) (EVP.name (vN.skip rfl) rfl) (IOp.mulN (Nat.le_trans (Nat.add_le_add hb1 hb2) (by decide)))
    case k7=>
    have hu:∀ a b,dval (2 ^ n) ((ds.drop a).take (b - a)) < 2 ^ (n * (b - a)):=fun a b=>by
     refine Nat.lt_of_lt_of_le (dval_lt (Nat.two_pow_pos n) fun d hx=>hd d (List.mem_of_mem_drop (List.mem_of_mem_take hx))) ?_
     rw [← Nat.pow_mul]
     refine Nat.pow_le_pow_right (by decide) (Nat.mul_le_mul_left _ ?_)
     rw [List.length_take];exact Nat.min_le_left _ _
    have hbl:bl (dval (2 ^ n) ((ds.drop mid).take (R - mid))) ≤ 2 ^ 25:=by
     refine Nat.le_trans (bl_le (hu mid R)) ?_
     exact Nat.le_trans (Nat.mul_le_mul_left _ (Nat.le_trans (Nat.sub_le _ _) h3)) hn
    have hin:NameIs h₁ ⟨scOf0 inn5,[("inner",.ref f)]⟩ "inner" (.ref f):=NameIs.raw rfl
    refine SX.ret (d:=.int ((dval (2 ^ n) ((ds.drop mid).take (R - mid)) * 2 ^ ((mid - L) * n) + dval (2 ^ n) ((ds.drop L).take (mid - L)):Nat):Int)) ?k8 ?k9
    case k8=>
     have m8:=ar8 h1 m1 m2
     refine EVP.binop (EVP.binop (EVP.callK hin hf (EVS.cons (EVP.name (Has.here.skip rfl) rfl) (EVS.cons (EVP.name ((vR.skip rfl).skip rfl) rfl) EVS.nil)) (ih mid R m8.2 m2 h3)) (EVP.name Has.here rfl) (IOp.shlN (Nat.le_trans (Nat.add_le_add hbl hmn) (by decide)))) ?_ IOp.addN
     exact EVP.callK hin hf (EVS.cons (EVP.name ((vL.skip rfl).skip rfl) rfl) (EVS.cons (EVP.name (Has.here.skip rfl) rfl) EVS.nil)) (ih L mid m8.1 m1 hRd)
    case k9=>
     show (_ ∨ _)
     left
     rw [drop_take_split ds (Nat.le_of_lt m1) (Nat.le_of_lt m2),dval_append,List.length_take,List.length_drop,Nat.min_eq_left (Nat.sub_le_sub_right hRd L),← Nat.pow_mul,Nat.mul_comm n,Nat.add_comm,Nat.mul_comm (2 ^ ((mid - L) * n))]
end
end Mine
namespace Mine
variable [Wd]
section
variable {h₁:Gl}{r:Nat}
noncomputable def retE:Stmt→Expr
 | .Return (some e) _=>e
 | _=>.Constant .none 0 ⟨0,0,0,0⟩
theorem def5:DefOf (stOf 5) "_digits2int" (parOf (stOf 5)) (bodyOf (stOf 5)) (scOf0 (stOf 5)):=⟨⟨_,_,_,_,_,_,rfl⟩,rfl,rfl,rfl⟩
theorem d2i_ok {ds:List Nat}{n:Nat}(hd:∀ d ∈ ds,d < 2 ^ n) (hn:n * ds.length ≤ 2 ^ 25) (hl:ds.length ≤ 2 ^ 25):CallOK h₁ (ds.length + 2) (.ref 42) [.list (natL ds),.int (n:Int)] (.int ((dval (2 ^ n) ds:Nat):Int)):=by
 intro prog w A s H vs Q E T R I x k
 refine enterC (xs:=["digits", "n"]) T R I x T.fD2i def5 ?_ ?_ (fun env s₁ H₁ R₁ ec ecode _ _ _ equal st0 I₁ F₁ hsub hHin hloc hcs=>?_) (by decide) (by decide) (by decide) (by decide)
 ·intro m vs hl
  refine ex20 (len2 hl) fun _ _ zq1=>?_;subst zq1
  rfl
 ·exact fm (.inr rfl) (fm (.inr rfl) fn)
 ·have vD:Has [(("n":Str),PyData.int (n:Int)),("digits",.list (natL ds))] "digits" (.list (natL ds)):=Has.here.skip rfl
  have vN:Has [(("n":Str),PyData.int (n:Int)),("digits",.list (natL ds))] "n" (.int (n:Int)):=Has.here
  have F₁':Fm ⟨scOf0 (stOf 5),[]⟩ env [(("n":Str),PyData.int (n:Int)),("digits",.list (natL ds))] s₁.heap H₁:=F₁
  have vI:List.lookup (Str.ofString "inner") [(("n":Str),PyData.int (n:Int)),("digits",.list (natL ds))] = none:=rfl
  clear F₁
  refine ex0123 (F₁'.ok.cel "digits" _ vD (by decide)) fun _ cD vd hcD cDN hcellD hVd=>?_
  refine ex0123 (F₁'.ok.cel "n" _ vN (by decide)) fun _ cN vn hcN cNN hcellN hVn=>?_
  refine ex34 hVd.asListX fun a lvs ln zq1 la lH lN ll=>?_;subst zq1
  generalize [(("n":Str),PyData.int (n:Int)),("digits",.list (natL ds))] = vars at vD vN F₁' vI
  have hbody:bodyOf (stOf 5) = inn5::(bodyOf (stOf 5)).drop 1:=rfl
  rw [hbody]
  refine wpAny_execs_cons ?_
  have hinn:inn5 = .FunctionDef "inner" (parOf inn5) (bodyOf inn5) [] none [] (scOf0 inn5) none "inner" ⟨47,4,52,55⟩:=rfl
  rw [hinn]
  refine innerDef selD2i T I₁ F₁' (by decide) ecode (by rw [equal];rfl) rfl vI rfl rfl rfl rfl (fun _=>rfl) rfl rfl rfl (by decide) [(a,{ cls:=.type "list",data:=.seq lvs ln })] (fun p hp=>?_) fun f K H₂ s₂ cI hcI st₂ I₂ hs2 hs2' hK1 hK2 hcl FK O₂=>?_
  ·rcases ms hp with rfl
   exact ⟨la,lH,lN⟩
  have hCK:ClosK ⟨h₁.h,K⟩ (scOf0 inn5) (closOf env (scOf0 inn5)) [("digits",.list (natL ds)),("n",.int (n:Int))] [("inner",.ref f)]:=by
   have hraw:=O₂.raw "inner" (.ref f) rfl nofun
   have hfr:∀ x ∈ (["digits", "n", "inner"]:List Str),x ∈ freeOf (scOf0 inn5):=by decide
   have cell:∀ x c v,x ∈ (["digits", "n", "inner"]:List Str)→env.cells.lookup x = some c→s₂.heap.IsCell c v→∃ c o,(closOf env (scOf0 inn5)).lookup x = some c∧(c,o) ∈ K∧o.data = .cell v:=fun x c v hx e hcell=>by
    refine ex23 (hcl x (hfr x hx)) fun c' o' e1 e2 e3 e4=>?_
    rw [e] at e1;cases e1
    refine ex11 hcell fun o₂ g1 g2=>?_
    rw [e4] at g1;cases g1
    exact ⟨c,o',e2,e3,g2⟩
   refine ex0123 (O₂.cel "digits" _ vD nofun) fun _ cD' vd' hcD' _ hcellD' hVd'=>?_
   refine ex0123 (O₂.cel "n" _ vN nofun) fun _ cN' vn' hcN' _ hcellN' hVn'=>?_
   rw [hcD] at hcD';cases hcD'
   have hdv:vd' = .ref a:=by
    have q:=cell_step hcellD st₂.st (fun q=>by
     have:=List.mem_singleton.mp q
     subst this
     have:=F₁'.w.inj _ _ _ hcD hcI
     exact absurd this (by decide)) cDN
    refine ex11 q fun o1 g1 g2=>?_
    refine ex11 hcellD' fun o2 g3 g4=>?_
    rw [g1] at g3;cases g3;rw [g2] at g4;cases g4;rfl
   subst hdv
   refine ⟨lk ?_ (lk ?_ lkn),lk ?_ lkn⟩
   ·refine ex22 (cell "digits" _ _ (by decide) hcD hcellD') fun c o' e1 e2 e3=>?_
    refine ⟨rfl,rfl,c,.ref a,o',e1,e2,e3,fun h H' hk=>?_⟩
    refine ex02 (hk _ (hK2 _ (.head _))) fun k1 k2 k3=>?_
    exact .list k1 k2 k3 (ll.ints h)
   ·refine ex22 (cell "n" _ _ (by decide) hcN' hcellN') fun c o' e1 e2 e3=>?_
    refine ⟨rfl,rfl,c,vn',o',e1,e2,e3,fun h H' hk=>?_⟩
    obtain ⟨_,rfl⟩:=V.intI hVn'
    exact .int _ _
   ·refine ex0112 hraw fun _ c e1 _ e3=>?_
    refine ex22 (cell "inner" _ _ (by decide) e1 e3) fun c o' e1 e2 e3=>?_
    exact ⟨rfl,rfl,c,o',e1,e2,e3⟩
  have T₂:Top1 ⟨h₁.h,K⟩:=T.withK K
  show wpAny _ _ (execs ((bodyOf (stOf 5)).drop 1) env) _ _ _
  have hb2:(bodyOf (stOf 5)).drop 1 = [.Return (some (retE (innOf (stOf 5) 1))) ⟨53,4,53,49⟩]:=rfl
  rw [hb2]
  have hnat:∀ h:(0:Nat) < ds.length,dval (2 ^ n) ((ds.drop 0).take (ds.length - 0)) = dval (2 ^ n) ds:=fun _=>by simp
  have hev:EVP ⟨h₁.h,K⟩ (ds.length + 1) ⟨scOf0 (stOf 5),[("inner",.ref f)]⟩ vars (retE (innOf (stOf 5) 1)) (.int ((dval (2 ^ n) ds:Nat):Int)):=by
   conv=>arg 5;whnf
   refine EVP.ifexp (x:=!(natL ds).isEmpty) ?k1 ?k2 ?k3
   case k1=>exact TSP.value (EVP.name vD rfl) (Tru.list (by simp;lia)) rfl
   case k2=>
    intro hb
    have hpos:0 < ds.length:=by
     cases ds with
     | nil=>cases hb
     | cons _ _=>simp
    refine EVP.callK (NameIs.raw rfl) FK (ds:=[.int ((0:Nat):Int),.int (ds.length:Int)]) (EVS.cons EVP.c0 (EVS.cons ?_ EVS.nil)) ?_
    ·refine EVP.as (EVP.call (NameIs.bi (by decide) rfl rfl) KeepOK.builtin (EVS.cons (EVP.name vD rfl) EVS.nil) (CallOK.lenList (by simp;lia))) ?_
     simp
    ·have:=inner5 (n:=n) FK hCK hd hn hl ds.length 0 ds.length (by lia) hpos (Nat.le_refl _)
     rw [hnat hpos] at this
     exact this
   case k3=>
    intro hb
    have h0:ds = []:=by
     cases ds with
     | nil=>rfl
     | cons _ _=>cases hb
    subst h0
    exact EVP.c0
  refine wpAny_execs_cons (wpAny_Return_some (hev prog w _ env s₂ H₂ _ _ T₂ R₁ I₂ O₂ fun v s₃ st₃ I₃ hv=>?_))
  obtain ⟨_,rfl⟩:=V.intI hv
  have hcI':s.heap.objs.size ≤ cI:=hcs _ _ (lookup_mem hcI)
  refine k _ _ ?_ ?_ (.int _ _)
  ·refine ((st0.up.trans st₂).trans st₃.up).mono fun y hy=>?_
   rcases ms hy with rfl
   exact .inr hcI'
  ·have I₄:Inv h₁ H₂ s₃:=I₃.lessK hK1
   have hsub2:∀ a ∈ H,a ∈ H₂:=fun a ha=>by
    rcases hs2' a (hHin a ha) with q | ⟨y,q⟩
    ·exact q
    ·have h1:=hcs _ _ (lookup_mem q)
     have h2:=(I.hok a ha).2
     exact absurd h1 (Nat.not_le.mpr h2)
   exact I₄.less (fun a q=>.inl (hsub2 a q)) fun a q=>I₄.hok a (hsub2 a q)
end
end Mine
namespace Mine
variable [Wd]
noncomputable def digs (B:Nat):Nat→Nat→List Nat
 | 0,_=>[]
 | k + 1,x=>x % B::digs B k (x / B)
theorem digs_length (B:Nat):∀ k x,(digs B k x).length = k
 | 0,_=>rfl
 | k + 1,x=>by rw [digs,List.length_cons,digs_length B k]
theorem digs_lt {B:Nat}(hB:0 < B):∀ k x,∀ d ∈ digs B k x,d < B
 | 0,_,_,h=>by cases h
 | k + 1,x,d,h=>by
  rcases mc h with rfl | h
  ·exact Nat.mod_lt _ hB
  ·exact digs_lt hB k _ d h
theorem dval_digs {B:Nat}(hB:0 < B):∀ k x,x < B ^ k→dval B (digs B k x) = x
 | 0,x,h=>by simp at h;subst h;rfl
 | k + 1,x,h=>by
  rw [digs,dval,dval_digs hB k (x / B) (by rw [Nat.pow_succ] at h;exact Nat.div_lt_of_lt_mul (by rw [Nat.mul_comm];exact h))]
  exact Nat.mod_add_div x B
theorem digs_add {B:Nat}(hB:0 < B):∀ i j x,digs B (i + j) x = digs B i (x % B ^ i) ++ digs B j (x / B ^ i)
 | 0,j,x=>by simp [digs]
 | i + 1,j,x=>by
  rw [show i + 1 + j = (i + j) + 1 by lia,digs,digs,digs_add hB i j (x / B),List.cons_append,Nat.pow_succ,Nat.div_div_eq_div_mul,Nat.mul_comm B (B ^ i)]
  have e1:x % (B ^ i * B) % B = x % B:=Nat.mod_mul_left_mod ..
  have e2:x % (B ^ i * B) / B = x / B % B ^ i:=by
   rw [Nat.mul_comm,Nat.mod_mul_right_div_self]
  rw [e1,e2]
theorem digs_one {B x:Nat}(h:x < B):digs B 1 x = [x]:=by rw [digs,digs,Nat.mod_eq_of_lt h]
abbrev inn4:Stmt:=innOf (stOf 4) 1
section
variable {h₁:Gl}{r:Nat}
abbrev Inn4 (h₁:Gl) (f la:Addr) (n k:Nat):Prop:=∀ x L R:Nat,R - L ≤ k→L < R→x < 2 ^ (n * (R - L)) →
 ∀ (prog:Program) (w:WW) (A:Around) (s:Shared) (H:List Addr) (ds:List Nat) (vs:List Value) (Q:Value→Shared→Prop) (E:Value→Shared→Prop),Top1 h₁→Room (k + 1) A→Inv h₁ H s→la ∈ H→R ≤ ds.length→ds.length ≤ 2 ^ 24→n * ds.length ≤ 2 ^ 25 →
  LI s.heap la (natL ds)→VL s.heap H vs [.int (x:Int),.int (L:Int),.int (R:Int)]→(∀ s',SStep [la] s s'→Inv h₁ H s'→LI s'.heap la (natL (ds.take L ++ digs (2 ^ n) (R - L) x ++ ds.drop R))→Q .none s')→wpAny (model prog w) A (call (.ref f) vs) Q E s
theorem setItem_plainI {prog:Program}{w:WW}{A:Around}{E:Value→Shared→Prop}{s:Shared}{l:Addr}{items:Array Value}{k:Int}{t:Tok}{v:Value}{Q:Unit→Shared→Prop}(hl:s.heap.PlainList l items) (h0:0 ≤ k) (hfit:k < 2 ^ 63) (hn:k < items.size)
  (hQ:∀ h',h'.PlainList l (items.setIfInBounds k.toNat v)→Heap.SameBut l s.heap h'→Q () { s with heap:=h' }):wpAny (model prog w) A (setItem (.ref l) (.int k t) v) Q E s:=by
 obtain ⟨n,ho⟩:=hl
 have hL:s.heap.IsList l items:=⟨_,ho,rfl,n,rfl⟩
 unfold setItem
 try with_reducible refine wpAny_holding ?_
 first | refine wpAny_bind (wpAny_pure ?_) | skip
 refine wpAny_bind (wpAny_sequenceKey hL.typeIs (by decide) ?_)
 refine wpAny_bind (wpAny_callSpecial?_slot (name:=Str.ofString "__setitem__") hL.typeIs slot_list_setitem
  (wpAny_call_entry slot_list_setitem hL.typeIs entry_list_setitem ?_ (args_list_setitem _ _ _)))
 show wpAny _ _ (Builtin.List.listSubscript? (.int k t) >>= _) _ _ s
 refine wpAny_bind (wpAny_listSubscript_int (fitsIndex_of h0 hfit) ?_)
 clear hfit
 obtain ⟨j,rfl⟩:=Int.eq_ofNat_of_zero_le h0
 have hj:j < items.size:=by lia
 have hx':items[j]? = some items[j]:=Array.getElem?_eq_getElem hj
 show wpAny _ _ ((seqItemAt l j >>= fun r=>pure (r.map (j,·))) >>= _) _ _ s
 refine wpAny_bind (wpAny_bind (wpAny_seqItemAt ho rfl (wpAny_pure ?_)))
 rw [hx']
 show wpAny _ _ (setSeqItemAt l j v >>= _) _ _ s
 have hfin:(s.heap.update l (Obj.mapSeq (·.setIfInBounds j v))).PlainList l (items.setIfInBounds j v):=⟨_,Heap.get?_update_self _ ho rfl⟩
 refine wpAny_bind (wpAny_setSeqItemAt ho rfl ?_)
 first
  | exact wpAny_bind (wpAny_pure (wpAny_pure ⟨.none,rfl,wpAny_pure (hQ _ hfin (Heap.SameBut.update ..))⟩))
  | exact wpAny_pure ⟨.none,rfl,wpAny_pure (hQ _ hfin (Heap.SameBut.update ..))⟩
theorem setLI {prog:Program}{w:WW}{A:Around}{s:Shared}{H:List Addr}{la:Addr}{ds:List Nat}{L:Nat}{x:Nat}{v i:Value}{Q:Unit→Shared→Prop}{E:Value→Shared→Prop}(hl:LI s.heap la (natL ds)) (hv:V s.heap H v (.int (x:Int))) (hi:V s.heap H i (.int (L:Int))) (hL:L < ds.length) (hz:ds.length ≤ 2 ^ 24) (hla:N0 ≤ la)
  (k:∀ h',Step [la] s.heap h'→Heap.SameBut la s.heap h'→LI h' la (natL (ds.set L x))→Q () { s with heap:=h' }):wpAny (model prog w) A (setItem (.ref la) i v) Q E s:=by
 refine ex11 hl fun vs h1 h2=>?_
 obtain ⟨_,rfl⟩:=V.intI hv;obtain ⟨_,rfl⟩:=V.intI hi
 rename_i t u
 have hlen:vs.size = ds.length:=by have:=(h2 []).length;simpa using this
 refine setItem_plainI h1 (by lia) (by lia) (by lia) fun h' h3 h4=>?_
 refine k h' (Step.of_sameBut h4 (.head _) hla) h4 ⟨_,h3,fun H'=>?_⟩
 have e:(vs.setIfInBounds ((L:Int)).toNat (Value.int (x:Int) t)).toList = vs.toList.set L (Value.int (x:Int) t):=by simp
 rw [e]
 have key:∀ (vs:List Value) (ds:List Nat) (L:Nat),VL s.heap [] vs (natL ds)→VL h' H' (vs.set L (.int (x:Int) t)) (natL (ds.set L x)):=by
  intro vs ds
  induction ds generalizing vs with
  | nil=>intro L q;cases q;exact .nil
  | cons d ds ih=>
   intro L q
   replace q:=VL.consI q
   refine ex22 q fun _ _ zq1 a b=>?_;subst zq1
   ·
    cases a
    cases L with
    | zero=>exact .cons (.int _ _) (VL.ints b h')
    | succ L=>exact .cons (.int _ _) (ih _ L b)
 exact key _ _ _ (h2 [])
theorem inner4 {f la:Addr}{q:Str}{clos:List (Str × Addr)}{n:Nat}(hf:FnK h₁ f "inner" q (parOf inn4) (bodyOf inn4) (scOf0 inn4) clos)
  (hc:ClosK h₁ (scOf0 inn4) clos [("n",.int (n:Int))] [("inner",.ref f),("a_digits",.ref la)]) (hcl:∀ y c,clos.lookup y = some c→c ≠ la):∀ k,Inn4 h₁ f la n k:=fun k=>by
 induction k with
 | zero=>intro x L R h1 h2;exact absurd (Nat.le_of_sub_eq_zero (Nat.le_zero.mp h1)) (Nat.not_le.mpr h2)
 | succ k ih=>
  intro x L R h1 h2 h3 prog w A s H ds vs Q E T RM I hla hR hz hn hl x0 kk
  have hlaN:N0 ≤ la:=(I.hok la hla).1
  have hLd:L < ds.length:=Nat.lt_of_lt_of_le h2 hR
  refine enterK (xs:=["x", "L", "R"]) T RM I x0 hf hc ?_ ?_ fun env s₁ R₁ ec el st0 I₁ F₁=>?_
  ·intro c doc pm ctv vs hl
   refine ex30 (len3 hl) fun _ _ _ zq1=>?_;subst zq1
   rfl
  ·exact fm rfl (fm rfl (fm rfl fn))
  ·have v1:Has [(("R":Str),PyData.int (R:Int)),("L",.int (L:Int)),("x",.int (x:Int)),("n",.int (n:Int))] "R" (.int (R:Int)):=Has.here
   have v2:Has [(("R":Str),PyData.int (R:Int)),("L",.int (L:Int)),("x",.int (x:Int)),("n",.int (n:Int))] "L" (.int (L:Int)):=Has.here.skip rfl
   have v3:Has [(("R":Str),PyData.int (R:Int)),("L",.int (L:Int)),("x",.int (x:Int)),("n",.int (n:Int))] "x" (.int (x:Int)):=(Has.here.skip rfl).skip rfl
   have v4:Has [(("R":Str),PyData.int (R:Int)),("L",.int (L:Int)),("x",.int (x:Int)),("n",.int (n:Int))] "n" (.int (n:Int)):=((Has.here.skip rfl).skip rfl).skip rfl
   have F₂:Fm ⟨scOf0 inn4,[("inner",.ref f),("a_digits",.ref la)]⟩ env [(("R":Str),PyData.int (R:Int)),("L",.int (L:Int)),("x",.int (x:Int)),("n",.int (n:Int))] s₁.heap (env.locals::H):=F₁
   clear F₁
   generalize [(("R":Str),PyData.int (R:Int)),("L",.int (L:Int)),("x",.int (x:Int)),("n",.int (n:Int))] = vars at v1 v2 v3 v4 F₂
   have hloc:env.locals ≠ la:=fun q=>by
    have:=(I.hok la hla).2
    rw [← q,el] at this;exact Nat.lt_irrefl _ this
   have hwr:wr ⟨scOf0 inn4,[("inner",.ref f),("a_digits",.ref la)]⟩ env = [env.locals]:=rfl
   have hlw:la ∉ [env.locals]:=fun q=>hloc (List.mem_singleton.mp q).symm
   have hcl':∀ y c,env.cells.lookup y = some c→c ∉ [la]:=fun y c e q=>hcl y c (ec ▸ e) (List.mem_singleton.mp q)
   have hl₁:LI s₁.heap la (natL ds):=hl.step st0.st (fun q=>nomatch q) hlaN
   have fin:∀ s',SStep [env.locals,la] s₁ s'→SStep [la] s s':=fun s' st=>by
    refine (st0.up.trans st).mono fun y hy=>?_
    rcases mc hy with rfl | hy
    ·exact .inr (Nat.le_of_eq el.symm)
    ·exact .inl hy
   have less:∀ s',Inv h₁ (env.locals::H) s'→Inv h₁ H s':=fun s' I'=>I'.less (fun a q=>.inl (.tail _ q)) fun a q=>I'.hok a (.tail _ q)
   have up1:∀ {s s':Shared},SStep [env.locals] s s'→SStep [env.locals,la] s s':=fun st=>st.mono fun y hy=>.inl (by rcases ms hy with rfl;exact .head _)
   have up2:∀ {s s':Shared},SStep [la] s s'→SStep [env.locals,la] s s':=fun st=>st.mono fun y hy=>.inl (by rcases ms hy with rfl;exact .tail _ (.head _))
   conv=>arg 3;arg 1;whnf
   refine runIf (b:=decide (L + 1 = R)) ?k1 T R₁ I₁ F₂.ok fun s₂ st₂ I₂=>?k2
   case k1=>
    refine TSP.as (TSP.cmp (EVP.binop (EVP.name v2 rfl) EVP.c1 IOp.addN) (EVP.name v1 rfl) COp.eqI) ?_
    rw [Bool.eq_iff_iff];simp;lia
   case k2=>
   have F₃:=F₂.grow st₂.st
   have hl₂:LI s₂.heap la (natL ds):=hl₁.step st₂.st (fun q=>nomatch q) hlaN
   by_cases hb:L + 1 = R
   ·rw [decide_eq_true hb,if_pos rfl]
    have hR1:R - L = 1:=by rw [← hb,Nat.add_sub_cancel_left]
    have hx:x < 2 ^ n:=by rw [hR1,Nat.mul_one] at h3;exact h3
    refine wpAny_execs_cons (wpAny_Assign_Subscript ((EVP.name (h₁:=h₁) (r:=k + 1) v3 rfl) prog w _ env s₂ _ _ _ T R₁ I₂ F₃.ok fun v s₃ st₃ I₃ hv=>?_) (swaps_no rfl))
    refine NameIs.raw (h₁:=h₁) (v:=.ref la) rfl rfl prog w _ env s₃ _ vars _ _ _ T I₃ (F₃.ok.grow st₃.st) ?_
    refine (EVP.name (h₁:=h₁) (r:=k + 1) v2 rfl) prog w _ env s₃ _ _ _ T R₁ I₃ (F₃.ok.grow st₃.st) fun i s₄ st₄ I₄ hi=>?_
    have hl₄:LI s₄.heap la (natL ds):=(hl₂.step st₃.st (fun q=>nomatch q) hlaN).step st₄.st (fun q=>nomatch q) hlaN
    refine setLI hl₄ (hv.grow st₄.st) hi hLd hz hlaN fun h' st₅ hsb hl₅=>?_
    show wpAny _ _ (execs [.Return none _] env) _ _ _
    refine wpAny_execs_cons (wpAny_Return_none ?_)
    have I₅:Inv h₁ (env.locals::H) { s₄ with heap:=h' }:=I₄.kept (fun b o e nb=>(hsb.2 b (fun q=>nb (q ▸ .tail _ hla))).trans e) (Nat.le_of_eq hsb.1.symm) I₄.bare
    refine kk _ (fin _ ?_) (less _ I₅) ?_
    ·exact (st₂.up.trans (st₃.up.trans st₄.up)).trans (up2 (SStep.heap' st₅))
    ·show LI h' la _
     have e:ds.take L ++ digs (2 ^ n) (R - L) x ++ ds.drop R = ds.set L x:=by
      rw [hR1,digs_one hx,← hb,List.set_eq_take_append_cons_drop,if_pos hLd]
      simp
     rw [e];exact hl₅
   ·rw [decide_eq_false hb,if_neg (by simp)]
    refine wpAny_execs_nil ?_
    refine gl ((L + R) / 2) fun mid hm=>?_
    have m12:=hm ▸ mid_lt h2 hb
    have m1:=m12.1
    have m2:=m12.2
    have hRd:mid ≤ ds.length:=Nat.le_trans (Nat.le_of_lt m2) hR
    have hml:mid - L ≤ ds.length:=Nat.le_trans (Nat.sub_le _ _) hRd
    have hb1:bl (mid - L) ≤ 26:=bl_le (Nat.lt_of_le_of_lt (Nat.le_trans hml hz) (by decide))
    have hb2:bl n ≤ 26:=bl_le (Nat.lt_of_le_of_lt (Nat.le_trans (Nat.le_mul_of_pos_right n (Nat.zero_lt_of_lt hLd)) hn) (by decide))
    have hmn:(mid - L) * n ≤ 2 ^ 25:=Nat.le_trans (Nat.mul_le_mul_right n hml) (Nat.mul_comm n _ ▸ hn)
    have hxb:bl x ≤ 2 ^ 25:=Nat.le_trans (bl_le h3) (Nat.le_trans (Nat.mul_le_mul_left _ (Nat.le_trans (Nat.sub_le _ _) hR)) hn)
    refine gl ((mid - L) * n) fun sh hsh=>?_
    rw [← hsh] at hmn
    have hub:bl (x / 2 ^ sh) ≤ bl x:=bl_le (Nat.lt_of_le_of_lt (Nat.div_le_self _ _) (lt_bl x))
    refine run1 (vs:=("mid",.int (mid:Int))::vars) (SX1.assign (EVP.as (EVP.binop (EVP.binop (EVP.name v2 rfl) (EVP.name v1 rfl) IOp.addN) EVP.c1 IOp.shrN) (by rw [hm,Nat.pow_one])) (.inl rfl)) T R₁ I₂ F₃ fun s₃ st₃ I₃ F₄=>?_
    refine run1 (vs:=("shift",.int (sh:Int))::("mid",.int (mid:Int))::vars) (SX1.assign (EVP.as (EVP.binop (EVP.binop (EVP.name Has.here rfl) (EVP.name (v2.skip rfl) rfl) (IOp.subN (Nat.le_of_lt m1))) (EVP.name (v4.skip rfl) rfl) (IOp.mulN (Nat.le_trans (Nat.add_le_add hb1 hb2) (by decide)))) (by rw [hsh])) (.inl rfl)) T R₁ I₃ F₄ fun s₄ st₄ I₄ F₅=>?_
    refine run1 (vs:=("upper",.int ((x / 2 ^ sh:Nat):Int))::("shift",.int (sh:Int))::("mid",.int (mid:Int))::vars) (SX1.assign (EVP.binop (EVP.name ((v3.skip rfl).skip rfl) rfl) (EVP.name Has.here rfl) IOp.shrN) (.inl rfl)) T R₁ I₄ F₅ fun s₅ st₅ I₅ F₆=>?_
    refine run1 (vs:=("lower",.int ((x % 2 ^ sh:Nat):Int))::("upper",.int ((x / 2 ^ sh:Nat):Int))::("shift",.int (sh:Int))::("mid",.int (mid:Int))::vars) (SX1.assign (EVP.binop (EVP.name (((v3.skip rfl).skip rfl).skip rfl) rfl) (EVP.binop (EVP.name Has.here rfl) (EVP.name (Has.here.skip rfl) rfl) (IOp.shlN (by lia))) (IOp.as IOp.xor (xor_low x sh))) (.inl rfl)) T R₁ I₅ F₆ fun s₆ st₆ I₆ F₇=>?_
    have stA:SStep [env.locals] s₁ s₆:=st₂.up.trans (st₃.trans (st₄.trans (st₅.trans st₆)))
    have hl₆:LI s₆.heap la (natL ds):=hl₁.step stA.st hlw hlaN
    have hin:NameIs h₁ ⟨scOf0 inn4,[("inner",.ref f),("a_digits",.ref la)]⟩ "inner" (.ref f):=NameIs.raw rfl
    have esh:n * (mid - L) = sh:=by rw [hsh,Nat.mul_comm]
    have hlow:x % 2 ^ sh < 2 ^ (n * (mid - L)):=by rw [esh];exact Nat.mod_lt _ (Nat.two_pow_pos _)
    have hup:x / 2 ^ sh < 2 ^ (n * (R - mid)):=by
     refine Nat.div_lt_of_lt_mul ?_
     rw [← esh,← Nat.pow_add,← Nat.mul_add,← ar5 (Nat.le_of_lt m1) (Nat.le_of_lt m2)];exact h3
    refine runExpr F₇.ok rfl (evalCallK (ds:=[.int ((x % 2 ^ sh:Nat):Int),.int (L:Int),.int (mid:Int)]) hin hf (EVS.cons (EVP.name Has.here rfl) (EVS.cons (EVP.name ((((v2.skip rfl).skip rfl).skip rfl).skip rfl) rfl) (EVS.cons (EVP.name (((Has.here.skip rfl).skip rfl).skip rfl) rfl) EVS.nil))) T R₁ I₆ F₇.ok fun vs₇ s₇ st₇ I₇ hvs₇=>?_)
    have m8:=ar8 h1 m1 m2
    refine ih _ L mid m8.1 m1 hlow prog w _ s₇ _ ds vs₇ _ _ T R₁ I₇ (.tail _ hla) hRd hz hn (hl₆.step st₇.st (fun q=>nomatch q) hlaN) hvs₇ fun s₈ st₈ I₈ hl₈=>?_
    have F₈:=(F₇.grow st₇.st).step (H':=env.locals::H) st₈.st (fun y q=>by rcases ms q with rfl;exact .tail _ hla) (fun q=>hloc (List.mem_singleton.mp q)) hcl' (fun _ q=>.inl q) (fun _ q=>q)
    refine runExpr F₈.ok rfl (evalCallK (ds:=[.int ((x / 2 ^ sh:Nat):Int),.int (mid:Int),.int (R:Int)]) hin hf (EVS.cons (EVP.name (Has.here.skip rfl) rfl) (EVS.cons (EVP.name (((Has.here.skip rfl).skip rfl).skip rfl) rfl) (EVS.cons (EVP.name ((((v1.skip rfl).skip rfl).skip rfl).skip rfl) rfl) EVS.nil))) T R₁ I₈ F₈.ok fun vs₉ s₉ st₉ I₉ hvs₉=>?_)
    have hlen8:(ds.take L ++ digs (2 ^ n) (mid - L) (x % 2 ^ sh) ++ ds.drop mid).length = ds.length:=by
     rw [List.length_append,List.length_append,digs_length,List.length_take,List.length_drop,Nat.min_eq_left (Nat.le_of_lt hLd)];exact ar6 (Nat.le_of_lt m1) hRd
    refine ih _ mid R m8.2 m2 hup prog w _ s₉ _ _ vs₉ _ _ T R₁ I₉ (.tail _ hla) (by rw [hlen8];exact hR) (by rw [hlen8];exact hz) (by rw [hlen8];exact hn) (hl₈.step st₉.st (fun q=>nomatch q) hlaN) hvs₉ fun s₁₀ st₁₀ I₁₀ hl₁₀=>?_
    refine wpAny_execs_nil ?_
    refine kk _ (fin _ ?_) (less _ I₁₀) ?_
    ·exact (up1 stA).trans (st₇.up.trans ((up2 st₈).trans (st₉.up.trans (up2 st₁₀))))
    ·have e:(ds.take L ++ digs (2 ^ n) (mid - L) (x % 2 ^ sh) ++ ds.drop mid).take mid ++ digs (2 ^ n) (R - mid) (x / 2 ^ sh) ++ (ds.take L ++ digs (2 ^ n) (mid - L) (x % 2 ^ sh) ++ ds.drop mid).drop R = ds.take L ++ digs (2 ^ n) (R - L) x ++ ds.drop R:=by
      have hlA:(ds.take L ++ digs (2 ^ n) (mid - L) (x % 2 ^ sh)).length = mid:=by
       rw [List.length_append,digs_length,List.length_take,Nat.min_eq_left (Nat.le_of_lt hLd)];exact Nat.add_sub_cancel' (Nat.le_of_lt m1)
      have hs:2 ^ sh = (2 ^ n) ^ (mid - L):=by rw [← Nat.pow_mul,esh]
      rw [List.take_append_of_le_length (Nat.le_of_eq hlA.symm),List.take_of_length_le (Nat.le_of_eq hlA),List.drop_append,List.drop_of_length_le (Nat.le_trans (Nat.le_of_eq hlA) (Nat.le_of_lt m2)),hlA,List.drop_drop,List.nil_append,Nat.add_sub_cancel' (Nat.le_of_lt m2),hs,
       ar5 (Nat.le_of_lt m1) (Nat.le_of_lt m2),digs_add (Nat.two_pow_pos n)]
      simp [List.append_assoc]
     rw [e] at hl₁₀;exact hl₁₀
end
end Mine
namespace Mine
variable [Wd]
section
variable {h₁:Gl}{r:Nat}
theorem def4:DefOf (stOf 4) "_int2digits" (parOf (stOf 4)) (bodyOf (stOf 4)) (scOf0 (stOf 4)):=⟨⟨_,_,_,_,_,_,rfl⟩,rfl,rfl,rfl⟩
noncomputable def ndig (n a:Nat):Nat:=(bl a + n - 1) / n
theorem lt_ndig {n a:Nat}(hn:0 < n):a < 2 ^ (n * ndig n a):=by
 refine Nat.lt_of_lt_of_le (lt_bl a) (Nat.pow_le_pow_right (by decide) ?_)
 unfold ndig
 have h1:=Nat.div_add_mod (bl a + n - 1) n
 have h2:=Nat.mod_lt (bl a + n - 1) hn
 omega
theorem ndig_pos {n a:Nat}(hn:0 < n) (ha:a ≠ 0):0 < ndig n a:=by
 unfold ndig
 have:0 < bl a:=by unfold bl;rw [if_neg ha];omega
 exact Nat.div_pos (by omega) hn
theorem natL_reps (m:Nat):natL (List.replicate m 0) = List.replicate m (.int 0):=by simp [natL]
theorem i2d_ok {a n:Nat}(hn0:0 < n) (hbl:bl a + n < 2 ^ 24):CallOK h₁ (ndig n a + 2) (.ref 35) [.int (a:Int),.int (n:Int)] (.list (natL (digs (2 ^ n) (ndig n a) a))):=by
 intro prog w A s H vs Q E T R I x k
 refine gl (ndig n a) fun m hm=>?_
 rw [← hm] at R k
 have hmle:m ≤ 2 ^ 24:=by
  rw [hm];unfold ndig
  exact Nat.le_trans (Nat.div_le_self _ _) (by omega)
 have hnm:n * m ≤ 2 ^ 25:=by
  have h1:=Nat.div_mul_le_self (bl a + n - 1) n
  rw [Nat.mul_comm,← ndig,← hm] at h1
  omega
 refine enterC (xs:=["a", "n"]) T R I x T.fI2d def4 ?_ ?_ (fun env s₁ H₁ R₁ ec ecode _ _ _ equal st0 I₁ F₁ hsub hHin hloc hcs=>?_) (by decide) (by decide) (by decide) (by decide)
 ·intro m vs hl
  refine ex20 (len2 hl) fun _ _ zq1=>?_;subst zq1
  rfl
 ·exact fm (.inl rfl) (fm (.inr rfl) fn)
 ·have vA:Has [(("n":Str),PyData.int (n:Int)),("a",.int (a:Int))] "a" (.int (a:Int)):=Has.here.skip rfl
  have vN:Has [(("n":Str),PyData.int (n:Int)),("a",.int (a:Int))] "n" (.int (n:Int)):=Has.here
  have F₁':Fm ⟨scOf0 (stOf 4),[]⟩ env [(("n":Str),PyData.int (n:Int)),("a",.int (a:Int))] s₁.heap H₁:=F₁
  have vI:List.lookup (Str.ofString "inner") [(("n":Str),PyData.int (n:Int)),("a",.int (a:Int))] = none:=rfl
  have vG:List.lookup (Str.ofString "a_digits") [(("n":Str),PyData.int (n:Int)),("a",.int (a:Int))] = none:=rfl
  clear F₁
  generalize [(("n":Str),PyData.int (n:Int)),("a",.int (a:Int))] = vars at vA vN F₁' vI vG
  have hcell:∀ y c,env.cells.lookup y = some c→c < s₁.heap.objs.size:=fun y c e=>by
   have hm':=lookup_mem e
   rw [ec] at hm'
   rcases cellsFrom_names _ _ _ hm' with q | q
   ·refine ex23 (F₁'.w.cel y q) fun c' v₀ e1 _ _ e4=>?_
    rw [e] at e1;cases e1;exact e4.lt
   ·cases q
  have hbody:bodyOf (stOf 4) = innOf (stOf 4) 0::inn4::innOf (stOf 4) 2::[innOf (stOf 4) 3]:=rfl
  rw [hbody]
  refine wpAny_execs_cons ?_
  conv=>arg 3;arg 1;whnf
  refine wpAny_Assign_Name (zeros (k:=m) ?k1 hmle T R₁ I₁ F₁'.ok fun s₂ la hla hla2 st₂ I₂ hl₂=>?k2) (swaps_no rfl)
  case k1=>
   refine EVP.as (EVP.binop (EVP.binop (EVP.binop (EVP.as (EVP.meth (EVP.name vA rfl) EVS.nil MethOK.bit_length) (d:=.int ((bl a:Nat):Int)) ?_) (EVP.name vN rfl) IOp.addN) EVP.c1 (IOp.subN (by omega))) (EVP.name vN rfl) (IOp.divN hn0 ?_)) ?_
   ·rw [bits_nat]
   ·exact Nat.le_trans (bl_le (k:=24) (by omega)) (by decide)
   ·rw [hm];rfl
  case k2=>
  have hlaN:N0 ≤ la:=Nat.le_trans I₁.size hla
  have hlc:∀ y c,env.cells.lookup y = some c→c ≠ la:=fun y c e q=>by
   have:=hcell y c e
   rw [q] at this;exact absurd hla (Nat.not_le.mpr this)
  have hKla:∀ p ∈ h₁.K,p.1 ≠ la:=fun p hp q=>by
   have:=Heap.lt_size (I₁.fix p hp).1
   rw [q] at this;exact absurd hla (Nat.not_le.mpr this)
  have I₂':Inv h₁ (la::H₁) s₂:=by
   refine ex11 hl₂ fun vs' zq1 _=>?_;obtain ⟨nn,e⟩:=zq1
   exact I₂.hide e (fun vs q=>by cases q) hKla hlaN
  have F₂':Fm ⟨scOf0 (stOf 4),[]⟩ env vars s₂.heap (la::H₁):=F₁'.step st₂.st (fun _ q=>nomatch q) (fun q=>nomatch q) (fun _ _ _ q=>nomatch q) (fun y q=>by
   rcases mc q with rfl | q
   ·exact .inr hla
   ·exact .inl q) (fun _ q=>.tail _ q)
  refine storeRawC rfl I₂' F₂' vG fun s₃ cG hcG st₃ I₃ F₃=>?_
  have hl₃:LI s₃.heap la (natL (List.replicate m 0)):=by
   rw [← natL_reps] at hl₂
   exact hl₂.step st₃.st (fun q=>hlc _ _ hcG (List.mem_singleton.mp q).symm) hlaN
  refine wpAny_execs_cons ?_
  have hinn:inn4 = .FunctionDef "inner" (parOf inn4) (bodyOf inn4) [] none [] (scOf0 inn4) none "inner" ⟨32,4,41,28⟩:=rfl
  rw [hinn]
  refine innerDef selI2d T I₃ F₃ (by show ∀ x ∈ freeOf (scOf0 inn4),(scOf0 (stOf 4)).names.lookup x = some .cell;decide) ecode (by rw [equal];rfl) rfl vI rfl rfl rfl rfl (fun _=>rfl) rfl rfl rfl (by decide) [] (fun _ q=>nomatch q) fun f K H₂ s₄ cI hcI st₄ I₄ hs2 hs2' hK1 _ hcl FK O₄=>?_
  have hlaH:la ∈ H₂:=by
   rcases hs2' la (.head _) with q | ⟨y,q⟩
   ·exact q
   ·exact absurd rfl (hlc _ _ q)
  have hl₄:LI s₄.heap la (natL (List.replicate m 0)):=hl₃.step st₄.st (fun q=>hlc _ _ hcI (List.mem_singleton.mp q).symm) hlaN
  have hCK:ClosK ⟨h₁.h,K⟩ (scOf0 inn4) (closOf env (scOf0 inn4)) [("n",.int (n:Int))] [("inner",.ref f),("a_digits",.ref la)]:=by
   have hfr:∀ x ∈ (["n", "inner", "a_digits"]:List Str),x ∈ freeOf (scOf0 inn4):=by decide
   have cell:∀ x c v,x ∈ (["n", "inner", "a_digits"]:List Str)→env.cells.lookup x = some c→s₄.heap.IsCell c v→∃ c o,(closOf env (scOf0 inn4)).lookup x = some c∧(c,o) ∈ K∧o.data = .cell v:=fun x c v hx e hcell=>by
    refine ex23 (hcl x (hfr x hx)) fun c' o' e1 e2 e3 e4=>?_
    rw [e] at e1;cases e1
    refine ex11 hcell fun o₂ g1 g2=>?_
    rw [e4] at g1;cases g1
    exact ⟨c,o',e2,e3,g2⟩
   refine ex0123 (O₄.cel "n" _ vN nofun) fun _ cN' vn' hcN' _ hcellN' hVn'=>?_
   refine ⟨lk ?_ lkn,lk ?_ (lk ?_ lkn)⟩
   ·refine ex22 (cell "n" _ _ (by decide) hcN' hcellN') fun c o' e1 e2 e3=>?_
    refine ⟨rfl,rfl,c,vn',o',e1,e2,e3,fun h H' hk=>?_⟩
    obtain ⟨_,rfl⟩:=V.intI hVn'
    exact .int _ _
   ·refine ex0112 (O₄.raw "inner" (.ref f) rfl nofun) fun _ c e1 _ e3=>?_
    refine ex22 (cell "inner" _ _ (by decide) e1 e3) fun c o' e1 e2 e3=>?_
    exact ⟨rfl,rfl,c,o',e1,e2,e3⟩
   ·refine ex0112 (O₄.raw "a_digits" (.ref la) rfl nofun) fun _ c e1 _ e3=>?_
    refine ex22 (cell "a_digits" _ _ (by decide) e1 e3) fun c o' e1 e2 e3=>?_
    exact ⟨rfl,rfl,c,o',e1,e2,e3⟩
  have hclos:∀ y c,(closOf env (scOf0 inn4)).lookup y = some c→c ≠ la:=fun y c e=>by
   have hy:=closOf_names e
   refine ex22 (hcl y hy) fun c' o' e1 e2 _=>?_
   rw [e2] at e;cases e
   exact hlc _ _ e1
  have hin:=inner4 (n:=n) FK hCK hclos m
  have T₂:Top1 ⟨h₁.h,K⟩:=T.withK K
  have hKl:∀ p ∈ K,p.1 ≠ la:=fun p hp q=>(I₄.fix p hp).2.1 (q ▸ hlaH)
  have last:∀ s',SStep [la] s₄ s'→Inv ⟨h₁.h,K⟩ H₂ s'→LI s'.heap la (natL (digs (2 ^ n) m a))→wpAny (model prog w) (A.deeper env) (execs [innOf (stOf 4) 3] env) (fun fl s'=>Q (match fl with | .ret v=>v | _=>.none) s') (fun e s'=>wpAny (model prog w) (A.deeper env) (leaving env e) (fun _ s''=>E e s'') (fun e' s''=>E e' s'') s') s':=fun s' st' I' hl'=>by
   have O':=O₄.step (H':=H₂) st'.st (fun y q=>by rcases ms q with rfl;exact hlaH) (fun q=>by
    have h1:=F₁'.ok.ns
    refine ex11 h1 fun mm h2 _=>?_
    rw [List.mem_singleton.mp q] at h2
    exact absurd hla (Nat.not_le.mpr h2.lt)) (fun y c e q=>hlc _ _ e (List.mem_singleton.mp q)) (fun _ q=>.inl q)
   conv=>arg 3;arg 1;whnf
   refine wpAny_execs_cons (wpAny_Return_some (NameIs.raw (h₁:=⟨h₁.h,K⟩) (v:=.ref la) rfl rfl prog w _ env s' _ vars _ _ _ T₂ I' O' ?_))
   have hsz:s.heap.objs.size ≤ la:=Nat.le_trans st0.st.size hla
   have hns:la ∉ H:=fun q=>absurd hsz (Nat.not_le.mpr (I.hok _ q).2)
   refine k _ _ ?_ ?_ (hl'.v hns hlaN)
   ·have stA:SStep [la,cG,cI] s s':=((st0.trans st₂).up.trans (st₃.mono fun y q=>.inl (by rcases ms q with rfl;exact .tail _ (.head _)))).trans ((st₄.mono fun y q=>.inl (by rcases ms q with rfl;exact .tail _ (.tail _ (.head _)))).trans (st'.mono fun y q=>.inl (by rcases ms q with rfl;exact .head _)))
    refine stA.mono fun y hy=>.inr ?_
    simp only [mcI,List.not_mem_nil,or_false] at hy
    rcases hy with rfl | rfl | rfl
    ·exact hsz
    ·exact hcs _ _ (lookup_mem hcG)
    ·exact hcs _ _ (lookup_mem hcI)
   ·have I₅:Inv h₁ H₂ s':=I'.lessK hK1
    refine I₅.sub fun b hb=>?_
    rcases hs2' b (.tail _ (hHin b hb)) with q | ⟨y,q⟩
    ·exact q
    ·exact absurd (hcs _ _ (lookup_mem q)) (Nat.not_le.mpr (I.hok b hb).2)
  refine wpAny_execs_cons ?_
  conv=>arg 3;arg 1;whnf
  have ht:TSP ⟨h₁.h,K⟩ (m + 1) ⟨scOf0 (stOf 4),[("inner",.ref f),("a_digits",.ref la)]⟩ vars (.Name "a" ⟨42,7,42,8⟩) ((a:Int) != 0):=TSP.value (EVP.name vA rfl) Tru.int rfl
  refine wpAny_If (ht prog w _ env s₄ H₂ _ _ T₂ R₁ I₄ O₄ fun s₅ st₅ I₅=>?_)
  have hl₅:LI s₅.heap la (natL (List.replicate m 0)):=hl₄.step st₅.st (fun q=>nomatch q) hlaN
  have O₅:=O₄.grow st₅.st
  by_cases ha0:a = 0
  ·have hb:((a:Int) != 0) = false:=by rw [ha0];rfl
   rw [hb]
   simp only [Bool.false_eq_true,if_false]
   refine wpAny_execs_nil ?_
   have hm0:m = 0:=by
    rw [hm,ha0];unfold ndig
    rw [show bl 0 = 0 from rfl]
    exact Nat.div_eq_of_lt (by omega)
   refine last s₅ st₅.up I₅ ?_
   rw [hm0] at hl₅ ⊢
   exact hl₅
  ·have hb:((a:Int) != 0) = true:=by simpa using ha0
   rw [hb]
   simp only [if_true]
   have hmp:0 < m:=by rw [hm];exact ndig_pos hn0 ha0
   let H₃:=H₂.filter fun b=>b != la
   have h3:∀ b ∈ H₃,b ∈ H₂:=fun b q=>(List.mem_filter.mp q).1
   have h3':la ∉ H₃:=fun q=>by have:=(List.mem_filter.mp q).2;simp at this
   have I₅':Inv ⟨h₁.h,K⟩ H₃ s₅:=I₅.sub h3
   have O₅':=(O₅.sub h3).addRaw (x := "a_digits") (v:=.ref la) rfl (hl₅.v h3' hlaN)
   refine runExpr (rest:=[]) O₅' rfl (evalCallK (r:=m + 1) (h₁:=⟨h₁.h,K⟩) (ds:=[.int (a:Int),.int ((0:Nat):Int),.int (m:Int)]) (NameIs.raw rfl) FK (EVS.cons (EVP.name (vA.skip rfl) rfl) (EVS.cons EVP.c0 (EVS.cons ?k3 EVS.nil))) T₂ R₁ I₅' O₅' fun vs₆ s₆ st₆ I₆ hvs₆=>?k4)
   case k3=>
    refine EVP.as (EVP.call (NameIs.bi (by decide) rfl rfl) KeepOK.builtin (EVS.cons (EVP.name Has.here rfl) EVS.nil) (CallOK.lenList (by simp;omega))) ?_
    simp
   case k4=>
    have hl₆:LI s₆.heap la (natL (List.replicate m 0)):=hl₅.step st₆.st (fun q=>nomatch q) hlaN
    have I₆':Inv ⟨h₁.h,K⟩ H₂ s₆:=by
     refine ex11 hl₆ fun vs' zq1 _=>?_;obtain ⟨nn,e⟩:=zq1
     refine (I₆.hide e (fun vs q=>by cases q) hKl hlaN).sub fun b hb=>?_
     by_cases hq:b = la
     ·subst hq;exact .head _
     ·exact .tail _ (List.mem_filter.mpr ⟨hb,by simpa using hq⟩)
    have hvs₇:VL s₆.heap H₂ vs₆ [.int (a:Int),.int ((0:Nat):Int),.int (m:Int)]:=VL.ints (ds:=[a,0,m]) hvs₆ _
    refine hin a 0 m (by omega) hmp (by rw [hm];exact lt_ndig hn0) prog w _ s₆ H₂ _ vs₆ _ _ T₂ R₁ I₆' hlaH (by simp) (by simp;omega) (by simp;omega) hl₆ hvs₇ fun s₇ st₇ I₇ hl₇=>?_
    refine wpAny_execs_nil ?_
    refine last s₇ (st₅.up.trans (st₆.up.trans st₇)) I₇ ?_
    have e:(List.replicate m 0).take 0 ++ digs (2 ^ n) (m - 0) a ++ (List.replicate m 0).drop m = digs (2 ^ n) m a:=by simp
    rw [e] at hl₇
    exact hl₇
end
end Mine
namespace Mine
variable [Wd]
section
variable {h₁:Gl}{r:Nat}
theorem CallOK.up {q:Nat}{f:Value}{ds:List D}{d:D}(h:CallOK h₁ r f ds d) (hq:r ≤ q):CallOK h₁ q f ds d:=
 fun prog w A s H vs Q E T R I x k=>h prog w A s H vs Q E T (R.less hq) I x k
theorem def6:DefOf (stOf 6) "_divmod_pos" (parOf (stOf 6)) (bodyOf (stOf 6)) (scOf0 (stOf 6)):=⟨⟨_,_,_,_,_,_,rfl⟩,rfl,rfl,rfl⟩
theorem bl_mono {a b:Nat}(h:a ≤ b):bl a ≤ bl b:=bl_le (Nat.lt_of_le_of_lt h (lt_bl b))
theorem pow_bl {b:Nat}(hb:0 < b):2 ^ bl b ≤ 2 * b:=by
 unfold bl
 rw [if_neg (by lia),Nat.pow_succ]
 have:=Nat.log2_self_le (n:=b) (by lia)
 lia
abbrev for6:Stmt:=innOf (stOf 6) 4
noncomputable def forBody:Stmt→List Stmt
 | .For _ _ b _ _=>b
 | _=>[]
theorem turn6 {a b:Nat}{fv:List (Str × Value)}{vs:List (Str × D)}{n x rr:Nat}(hb:0 < b) (hn:n = bl b) (hnn:n ≤ 16000) (hr:rr < b) (hx:x < 2 ^ n) (hfv:fv.lookup (Str.ofString "q_digit") = none) (hfv2:fv.lookup (Str.ofString "r") = none)
  (v1:Has vs "r" (.int (rr:Int))) (v2:Has vs "n" (.int (n:Int))) (v3:Has vs "a_digit" (.int (x:Int))) (v4:Has vs "b" (.int (b:Int))) (h2:DivOK h₁ 5 16000) (hq:5 ≤ r) :
  SX1 h₁ r ⟨scOf0 (stOf 6),fv⟩ vs ((forBody for6)[0]) (· = .next (("r",.int (((rr * 2 ^ n + x) % b:Nat):Int))::("q_digit",.int (((rr * 2 ^ n + x) / b:Nat):Int))::vs)):=by
 have hbl:b < 2 ^ n:=by rw [hn];exact lt_bl b
 have hbl':2 ^ n ≤ 2 * b:=by rw [hn];exact pow_bl hb
 have hlt:rr * 2 ^ n + x < b * 2 ^ n:=by
  have:(rr + 1) * 2 ^ n ≤ b * 2 ^ n:=Nat.mul_le_mul_right _ hr
  rw [Nat.succ_mul] at this;lia
 have hblr:bl rr ≤ 16000:=Nat.le_trans (bl_mono (Nat.le_of_lt hr)) (by rw [← hn];exact hnn)
 have hc:=CallOK.up (h2 _ b n hnn hbl hbl' hlt) hq
 conv=>arg 5;whnf
 refine SX1.unpack (ds:=[.int (((rr * 2 ^ n + x) / b:Nat):Int),.int (((rr * 2 ^ n + x) % b:Nat):Int)]) ?_ rfl ?_ rfl rfl rfl
 ·exact EVP.call (NameIs.glob (by decide) rfl) (KeepOK.fn Top1.fDiv2) (EVS.cons (EVP.binop (EVP.binop (EVP.name v1 rfl) (EVP.name v2 rfl) (IOp.shlN (by lia))) (EVP.name v3 rfl) IOp.addN) (EVS.cons (EVP.name v4 rfl) (EVS.cons (EVP.name v2 rfl) EVS.nil))) hc
 ·intro e he
  simp only [mcI,List.not_mem_nil,or_false] at he
  rcases he with rfl | rfl
  ·left;show stoK ⟨scOf0 (stOf 6),fv⟩ (Str.ofString "q_digit") = some .local;unfold stoK;rw [show (⟨scOf0 (stOf 6),fv⟩:Sc).fv = fv from rfl,hfv];rfl
  ·left;show stoK ⟨scOf0 (stOf 6),fv⟩ (Str.ofString "r") = some .local;unfold stoK;rw [show (⟨scOf0 (stOf 6),fv⟩:Sc).fv = fv from rfl,hfv2];rfl
theorem dval_drop {B:Nat}{ds:List Nat}{i:Nat}(h:i < ds.length):dval B (ds.drop i) = ds[i] + B * dval B (ds.drop (i + 1)):=by
 rw [List.drop_eq_getElem_cons h];rfl
theorem dpos_ok {a b:Nat}(hb:0 < b) (hn:bl b ≤ 16000) (ha:bl a ≤ 2 ^ 20) (hm:ndig (bl b) a ≤ 60) (h2:DivOK h₁ 5 16000):CallOK h₁ (ndig (bl b) a + 10) (.ref 49) [.int (a:Int),.int (b:Int)] (qr a b):=by
 intro prog w A s H vs Q E T R I x k
 refine gl (bl b) fun n hnd=>?_
 rw [← hnd] at hn hm R
 refine gl (ndig n a) fun m hmd=>?_
 rw [← hmd] at hm R
 have hn0:0 < n:=by rw [hnd];unfold bl;rw [if_neg (by lia)];lia
 refine gl (digs (2 ^ n) m a) fun ds hds=>?_
 have hlen:ds.length = m:=by rw [hds,digs_length]
 have hdlt:∀ d ∈ ds,d < 2 ^ n:=by rw [hds];exact digs_lt (Nat.two_pow_pos n) m a
 have hval:dval (2 ^ n) ds = a:=by rw [hds];exact dval_digs (Nat.two_pow_pos n) m a (by rw [← Nat.pow_mul,hmd];exact lt_ndig hn0)
 refine enterC (r:=m + 9) (xs:=["a", "b"]) T R I x T.fDpos def6 ?_ ?_ (fun env s₁ H₁ R₁ ec ecode _ _ _ equal st0 I₁ F₁ hsub hHin hloc hcs=>?_) (by decide) (by decide) (by decide) (by decide)
 ·intro m vs hl
  refine ex20 (len2 hl) fun _ _ zq1=>?_;subst zq1
  rfl
 ·exact fm (.inl rfl) (fm (.inl rfl) fn)
 ·have F₁':Fm ⟨scOf0 (stOf 6),[]⟩ env [(("b":Str),PyData.int (b:Int)),("a",.int (a:Int))] s₁.heap H₁:=F₁
  clear F₁
  have hwr:∀ fv,wr ⟨scOf0 (stOf 6),fv⟩ env = [env.locals]:=fun _=>rfl
  have hcells:env.cells = []:=ec
  have hnc:∀ X:List Addr,∀ y c,env.cells.lookup y = some c→c ∉ X:=fun X y c e=>by rw [hcells] at e;cases e
  have hbody:bodyOf (stOf 6) = innOf (stOf 6) 0::innOf (stOf 6) 1::innOf (stOf 6) 2::innOf (stOf 6) 3::for6::innOf (stOf 6) 5::innOf (stOf 6) 6::[innOf (stOf 6) 7]:=rfl
  rw [hbody]
  refine run1 (r:=m + 9) (vs:=("n",.int (n:Int))::[(("b":Str),PyData.int (b:Int)),("a",.int (a:Int))]) ?k1 T R₁ I₁ F₁' fun s₂ st₂ I₂ F₂=>?k2
  case k1=>
   conv=>arg 5;whnf
   exact SX1.assign (EVP.as (EVP.meth (EVP.name Has.here rfl) EVS.nil MethOK.bit_length) (by rw [bits_nat,hnd])) (.inl rfl)
  case k2=>
  refine run1 (r:=m + 9) (vs:=("a_digits",.list (natL ds))::("n",.int (n:Int))::[(("b":Str),PyData.int (b:Int)),("a",.int (a:Int))]) ?k3 T R₁ I₂ F₂ fun s₃ st₃ I₃ F₃=>?k4
  case k3=>
   conv=>arg 5;whnf
   refine SX1.assign (EVP.call (NameIs.glob (by decide) rfl) (KeepOK.fn Top1.fI2d) (EVS.cons (EVP.name ((Has.here.skip rfl).skip rfl) rfl) (EVS.cons (EVP.name Has.here rfl) EVS.nil)) ?_) (.inl rfl)
   have:=i2d_ok (h₁:=h₁) (a:=a) hn0 (by lia)
   rw [← hmd,← hds] at this
   exact this.up (by lia)
  case k4=>
  refine run1 (r:=m + 9) (vs:=("r",.int ((0:Nat):Int))::("a_digits",.list (natL ds))::("n",.int (n:Int))::[(("b":Str),PyData.int (b:Int)),("a",.int (a:Int))]) ?k5 T R₁ I₃ F₃ fun s₄ st₄ I₄ F₄=>?k6
  case k5=>
   conv=>arg 5;whnf
   exact SX1.assign EVP.c0 (.inl rfl)
  case k6=>
  obtain ⟨base,hbase⟩:∃ base:List (Str × D),base = (("a_digits":Str),PyData.list (natL ds))::(("n":Str),PyData.int (n:Int))::[(("b":Str),PyData.int (b:Int)),("a",.int (a:Int))]:=⟨_,rfl⟩
  have bN:Has base "n" (.int (n:Int)):=by rw [hbase];exact Has.here.skip rfl
  have bB:Has base "b" (.int (b:Int)):=by rw [hbase];exact (Has.here.skip rfl).skip rfl
  have bD:Has base "a_digits" (.list (natL ds)):=by rw [hbase];exact Has.here
  have b1:base.lookup (Str.ofString "q_digit") = none:=by rw [hbase];rfl
  have b2:base.lookup (Str.ofString "a_digit") = none:=by rw [hbase];rfl
  have b3:base.lookup (Str.ofString "q_digits") = none:=by rw [hbase];rfl
  rw [← hbase] at F₄
  have bq:∀ d,List.lookup (Str.ofString "q_digits") ((("r":Str),d)::base) = none:=fun d=>by
   rw [List.lookup_cons,show ((Str.ofString "q_digits") == ("r":Str)) = false from rfl];exact b3
  refine wpAny_execs_cons ?_
  conv=>arg 3;arg 1;whnf
  refine wpAny_Assign_Name (wpAny_List ((EVS.nil (h₁:=h₁) (r:=m + 9)).2 prog w _ env _ s₄ H₁ _ _ T R₁ I₄ F₄.ok fun vs₅ s₅ st₅ I₅ hvs₅=>⟨?_,?_⟩)) (swaps_no rfl)
  ·rw [hvs₅.length];decide
  obtain rfl:=VL.nilI hvs₅
  have F₅:=(F₄.grow st₅.st).pushHide (s:=s₅) { cls:=.type "list",data:=.seq ([]:List Value).toArray }
  have I₅':=I₅.pushHide { cls:=.type "list",data:=.seq ([]:List Value).toArray }
  have hlq:LP (s₅.heap.push { cls:=.type "list",data:=.seq ([]:List Value).toArray }) s₅.heap.objs.size (natL []):=⟨#[],⟨_,Heap.get?_push_size _ rfl⟩,fun _=>.nil⟩
  have hlqN:N0 ≤ s₅.heap.objs.size:=I₅.size
  have hlocq:env.locals < s₅.heap.objs.size:=by
   refine ex11 ((F₄.grow st₅.st).ok.ns) fun mm hmm _=>?_
   exact hmm.lt
  have stq:SStep [] s₄ { s₅ with heap:=s₅.heap.push { cls:=.type "list",data:=.seq ([]:List Value).toArray } }:=st₅.trans (SStep.heap' (Step.push _))
  have hszq:s.heap.objs.size ≤ s₅.heap.objs.size:=Nat.le_trans (Nat.le_trans st0.st.size st₂.st.size) (Nat.le_trans (Nat.le_trans st₃.st.size st₄.st.size) st₅.st.size)
  generalize hlqd:s₅.heap.objs.size = lq at F₅ I₅' hlq hlqN hlocq hszq
  refine storeRawL rfl I₅' F₅ (bq _) fun s₆ st₆ I₆ F₆=>?_
  have hlq₆:LP s₆.heap lq (natL []):=hlq.stepN st₆.st (fun q=>absurd (List.mem_singleton.mp q) (Nat.ne_of_gt hlocq)) hlqN
  refine wpAny_execs_cons ?_
  have hfor:for6 = .For (.Name "a_digit" ⟨59,8,59,15⟩) (.Call (.Name "reversed" ⟨59,19,59,27⟩) [.Name "a_digits" ⟨59,28,59,36⟩] [] ⟨59,19,59,37⟩) (forBody for6) [] ⟨59,4,61,32⟩:=rfl
  rw [hfor]
  refine wpAny_For (evalCall (r:=m + 9) (NameIs.bi (by decide) (f:=.type "reversed") rfl rfl) KeepOK.type (EVS.cons (EVP.name (bD.skip rfl) rfl) EVS.nil) T R₁ I₆ F₆.ok fun vs₇ s₇ st₇ I₇ hvs₇=>?_) (fun _=>rfl)
  replace hvs₇:=VL.consI hvs₇
  refine ex22 hvs₇ fun _ _ zq1 hv7 hnil=>?_;subst zq1
  obtain rfl:=VL.nilI hnil
  refine ex46 hv7.asList fun la o items nn zq1 e c dd hlaH hlaN hll=>?_;subst zq1
  have hL:s₇.heap.IsList la items:=⟨o,e,c,_,dd⟩
  have hsz:items.size = m:=by have:=hll.length;rw [← hlen];simpa using this
  refine call_reversed_list hL ?_
  have hit:s₇.heap.objs.size ≠ la:=Nat.ne_of_gt (Heap.lt_size e)
  have hF7:=F₆.grow st₇.st
  have F₈:=hF7.pushHide (s:=s₇) (revObj la ((items.size:Int) - 1))
  have I₈:=I₇.pushHide (revObj la ((items.size:Int) - 1))
  have hlq₇:=hlq₆.stepN st₇.st (fun q=>nomatch q) hlqN
  have hlq₈:LP (s₇.heap.push (revObj la ((items.size:Int) - 1))) lq (natL []):=hlq₇.stepN (Step.push _:Step [] _ _) (fun q=>nomatch q) hlqN
  have hrev:(s₇.heap.push (revObj la ((items.size:Int) - 1))).IsRevIter s₇.heap.objs.size la ((items.size:Int) - 1 - ((0:Nat):Int)):=⟨_,Heap.get?_push_size _ rfl,rfl,by simp [revObj]⟩
  have hL8:(s₇.heap.push (revObj la ((items.size:Int) - 1))).IsList la items:=hL.push _
  have hlqit:lq < s₇.heap.objs.size:=by
   refine ex11 hlq₇ fun _ zq1 _=>?_;obtain ⟨_,e'⟩:=zq1
   exact Heap.lt_size e'
  have hlocit:env.locals < s₇.heap.objs.size:=by
   refine ex11 hF7.ok.ns fun mm hmm _=>?_
   exact hmm.lt
  have hitN:N0 ≤ s₇.heap.objs.size:=I₇.size
  have hszit:s.heap.objs.size ≤ s₇.heap.objs.size:=Nat.le_trans hszq (Nat.le_of_lt hlqit)
  have st8:SStep [] s₆ { s₇ with heap:=s₇.heap.push (revObj la ((items.size:Int) - 1)) }:=st₇.trans (SStep.heap' (Step.push _))
  generalize hitd:s₇.heap.objs.size = it at F₈ I₈ hit hrev hlqit hlocit hitN hszit
  generalize hs8:({ s₇ with heap:=s₇.heap.push (revObj la ((items.size:Int) - 1)) }:Shared) = s₈ at I₈ st8
  have hs8h:s₈.heap = s₇.heap.push (revObj la ((items.size:Int) - 1)):=by rw [← hs8]
  rw [← hs8h] at F₈ hlq₈ hrev hL8
  have W:=Walks.listRev (prog:=prog) (w:=w) R₁.hd it la (Ne.symm hit) items
  have hlaloc:la ≠ env.locals:=fun q=>hlaH (q ▸ F₆.w.loc)
  have hlalq:la ≠ lq:=fun q=>hlaH (q ▸ .head _)
  refine W.self 0 _ _ _ ⟨Nat.zero_le _,hrev,hL8⟩ ?_
  have hXH:∀ y ∈ ([it]:List Addr),y ∈ it::lq::H₁:=fun y hy=>by rcases ms hy with rfl;exact .head _
  have hitloc:env.locals ∉ ([it]:List Addr):=fun q=>absurd (List.mem_singleton.mp q) (Nat.ne_of_lt hlocit)
  have hlqn:lq ∉ ([it]:List Addr):=fun q=>absurd (List.mem_singleton.mp q) (Nat.ne_of_lt hlqit)
  have hitN':∀ y ∈ ([it]:List Addr),N0 ≤ y:=fun y hy=>by rcases ms hy with rfl;exact hitN
  have hlqw:lq ∉ ([env.locals]:List Addr):=fun q=>absurd (List.mem_singleton.mp q) (Nat.ne_of_gt hlocq)
  let J:Nat→Shared→Prop:=fun i s'=>∃ (qs:List Nat) (rr:Nat),qs.length = i∧(∀ d ∈ qs,d < 2 ^ n)∧rr < b∧dval (2 ^ n) (ds.drop (m - i)) = dval (2 ^ n) qs.reverse * b + rr ∧
   SStep [env.locals,lq,it] s₈ s'∧Inv h₁ (it::lq::H₁) s'∧Fm ⟨scOf0 (stOf 6),[("q_digits",.ref lq)]⟩ env (("r",.int (rr:Int))::base) s'.heap (it::lq::H₁)∧LP s'.heap lq (natL qs)
  refine forWalk W J (fun v s Q E h=>own_name s Q E h) ?turn ?fin ⟨[],0,rfl,(fun _ q=>nomatch q),hb,?j0,SStep.refl _ _,I₈,F₈,hlq₈⟩ ⟨Nat.zero_le _,hrev,hL8⟩
  case j0=>rw [Nat.sub_zero,List.drop_of_length_le (Nat.le_of_eq hlen)];simp [dval]
  case turn=>
   intro i v s₀ s₁' E' hi hP zq hq hSt
   refine ex27 zq fun qs rr q1 q2 q3 q4 q5 q6 q7 q8=>?_
   rw [hsz] at hi hP
   have hidx:m - 1 - i < ds.length:=by rw [hlen];exact ar4 hi
   have hv:V s₁'.heap (it::lq::H₁) v (.int ((ds[m - 1 - i]:Nat):Int)):=by
    have hP':items.toList[m - 1 - i]? = some v:=by simpa using hP
    refine ex11 (hll.get' hP') fun d e1 e2=>?_
    rw [natL_get hidx] at e1;cases e1
    obtain ⟨_,rfl⟩:=V.intI e2;exact .int _ _
   have I₉:=q6.quiet hq hXH
   have stA:SStep [it] s₀ s₁':=hq.st hitN'
   have F₉:=q7.step (H':=it::lq::H₁) stA.st hXH hitloc (hnc _) (fun _ q=>.inl q) (fun _ q=>q)
   have L₉:=q8.stepN stA.st hlqn hlqN
   refine PyProof.Rows.assign_Name (store (.inl rfl) I₉ F₉ hv fun s₂' st₁' I₁₀ F₁₀=>?_)
   have L₁₀:=L₉.stepN st₁'.st hlqw hlqN
   have hb2:forBody for6 = (forBody for6)[0]::[(forBody for6)[1]]:=rfl
   rw [hb2]
   have hd2:ds[m - 1 - i] < 2 ^ n:=hdlt _ (List.getElem_mem _)
   refine run1 (turn6 (r:=m + 9) (a:=a) (x:=ds[m - 1 - i]) hb hnd hn q3 hd2 rfl rfl (Has.here.skip rfl) ((bN.skip rfl).skip rfl) Has.here ((bB.skip rfl).skip rfl) h2 (by lia)) T R₁ I₁₀ F₁₀ fun s₃' st₃' I₁₁ F₁₁=>?_
   have L₁₁:=L₁₀.stepN st₃'.st hlqw hlqN
   have hqlen:qs.length ≤ 2 ^ 20:=by rw [q1];exact Nat.le_trans (Nat.le_of_lt hi) (Nat.le_trans hm (by decide))
   conv=>arg 3;arg 1;whnf
   refine runExpr F₁₁.ok rfl (evalMethRaw (r:=m + 9) (x := "q_digits") (v:=.ref lq) rfl (getM_append L₁₁) (EVS.cons (EVP.name (Has.here.skip rfl) rfl) EVS.nil) T R₁ I₁₁ F₁₁.ok fun vs₄ s₄' st₄' I₁₂ hvs₄=>?_)
   replace hvs₄:=VL.consI hvs₄
   refine ex22 hvs₄ fun _ _ zq1 hv4 hnil4=>?_;subst zq1
   obtain rfl:=VL.nilI hnil4
   have L₁₂:=L₁₁.stepN st₄'.st (fun q=>nomatch q) hlqN
   refine L₁₂.append hv4 hqlen hlqN fun h' st₅' hsb L₁₃=>?_
   refine wpAny_execs_nil ?_
   have hXq:∀ y ∈ ([lq]:List Addr),y ∈ it::lq::H₁:=fun y hy=>by rcases ms hy with rfl;exact .tail _ (.head _)
   have I₁₃:Inv h₁ (it::lq::H₁) { s₄' with heap:=h' }:=I₁₂.quiet (Quiet.same (tk:=s₄'.toks) hsb) hXq
   have F₁₃:=(F₁₁.grow st₄'.st).step (H':=it::lq::H₁) st₅' hXq (fun q=>absurd (List.mem_singleton.mp q) (Nat.ne_of_lt hlocq)) (hnc _) (fun _ q=>.inl q) (fun _ q=>q)
   have stB:SStep [env.locals,lq] s₁' { s₄' with heap:=h' }:=((st₁'.trans st₃').mono fun y hy=>.inl (by rcases ms hy with rfl;exact .head _)).trans (st₄'.up.trans ((SStep.heap' st₅':SStep [lq] s₄' { s₄' with heap:=h' }).mono fun y hy=>.inl (by rcases ms hy with rfl;exact .tail _ (.head _))))
   refine ⟨⟨qs ++ [(rr * 2 ^ n + ds[m - 1 - i]) / b],(rr * 2 ^ n + ds[m - 1 - i]) % b,by simp [q1],?_,Nat.mod_lt _ hb,?_,?_,I₁₃,?_,L₁₃⟩,?_⟩
   ·intro d hd
    rcases List.mem_append.mp hd with hd | hd
    ·exact q2 d hd
    ·rw [List.mem_singleton.mp hd]
     refine Nat.div_lt_of_lt_mul ?_
     have:(rr + 1) * 2 ^ n ≤ b * 2 ^ n:=Nat.mul_le_mul_right _ q3
     rw [Nat.succ_mul] at this
     exact Nat.lt_of_lt_of_le (Nat.add_lt_add_left hd2 _) this
   ·have e1:m - (i + 1) = m - 1 - i:=by rw [Nat.add_comm i 1,← Nat.sub_sub]
    have e2:=ar3 hi
    rw [e1,dval_drop hidx,e2,q4,List.reverse_append,List.reverse_singleton,List.singleton_append,dval,Nat.add_mul,Nat.mul_add,← Nat.mul_assoc]
    have h3:=Nat.div_add_mod (rr * 2 ^ n + ds[m - 1 - i]) b
    rw [Nat.mul_comm b] at h3
    rw [Nat.mul_comm (2 ^ n) rr]
    lia
   ·refine q5.trans ((stA.mono fun y hy=>.inl (by rcases ms hy with rfl;exact .tail _ (.tail _ (.head _)))).trans (stB.mono fun y hy=>.inl ?_))
    rcases mc hy with rfl | hy
    ·exact .head _
    ·rcases ms hy with rfl;exact .tail _ (.head _)
   ·refine F₁₃.weak (cons_weak (skip_weak b1 (skip_weak b2 (skip_weak ?_ fun _ _ q=>q))))
    rw [hbase];rfl
   ·refine W.frame _ _ _ hSt fun y hy o' e'=>stB.st.keep y o' e' ?_ ?_
    ·rcases mc hy with rfl | hy
     ·intro q
      rcases List.mem_cons.mp q with q | q
      ·exact absurd q (Nat.ne_of_gt hlocit)
      ·exact absurd (List.mem_singleton.mp q) (Nat.ne_of_gt hlqit)
     ·rcases ms hy with rfl
      intro q
      rcases List.mem_cons.mp q with q | q
      ·exact hlaloc q
      ·exact hlalq (List.mem_singleton.mp q)
    ·rcases mc hy with rfl | hy
     ·exact tabs_lt hitN
     ·rcases ms hy with rfl;exact tabs_lt hlaN
  case fin=>
   intro s₀ s₁' zq hq
   refine ex27 zq fun qs rr q1 q2 q3 q4 q5 q6 q7 q8=>?_
   rw [hsz] at q1 q4
   rw [Nat.sub_self,List.drop_zero,hval] at q4
   have I₉:=q6.quiet hq hXH
   have stA:SStep [it] s₀ s₁':=hq.st hitN'
   have F₉:=q7.step (H':=it::lq::H₁) stA.st hXH hitloc (hnc _) (fun _ q=>.inl q) (fun _ q=>q)
   have L₉:=q8.stepN stA.st hlqn hlqN
   have hqlen:qs.length ≤ 2 ^ 20:=by rw [q1];lia
   show wpAny _ _ (execs (innOf (stOf 6) 5::innOf (stOf 6) 6::[innOf (stOf 6) 7]) env) _ _ _
   conv=>arg 3;arg 1;arg 1;whnf
   refine runExpr F₉.ok rfl (evalMethRaw (r:=m + 9) (x := "q_digits") (v:=.ref lq) rfl (getM_reverse L₉) EVS.nil T R₁ I₉ F₉.ok fun vs₄ s₄' st₄' I₁₂ hvs₄=>?_)
   obtain rfl:=VL.nilI hvs₄
   have L₁₂:=L₉.stepN st₄'.st (fun q=>nomatch q) hlqN
   refine L₁₂.reverse hqlen hlqN fun h' st₅' hsb L₁₃=>?_
   have hXq:∀ y ∈ ([lq]:List Addr),y ∈ it::lq::H₁:=fun y hy=>by rcases ms hy with rfl;exact .tail _ (.head _)
   have I₁₃:Inv h₁ (it::lq::H₁) { s₄' with heap:=h' }:=I₁₂.quiet (Quiet.same (tk:=s₄'.toks) hsb) hXq
   have F₁₃:=(F₉.grow st₄'.st).step (H':=it::lq::H₁) st₅' hXq (fun q=>absurd (List.mem_singleton.mp q) (Nat.ne_of_lt hlocq)) (hnc _) (fun _ q=>.inl q) (fun _ q=>q)
   have hlqH₁:lq ∉ H₁:=fun q=>by
    have:=(I₅.hok _ q).2
    rw [hlqd] at this;exact Nat.lt_irrefl _ this
   have I₁₄:Inv h₁ H₁ { s₄' with heap:=h' }:=I₁₃.sub fun y hy=>.tail _ (.tail _ hy)
   have F₁₄:=(F₁₃.sub (H':=H₁) (fun y hy=>.tail _ (.tail _ hy)) (fun y hy=>by
    rw [hwr] at hy
    rcases ms hy with rfl
    exact F₁'.w.loc)).addRaw (x := "q_digits") (v:=.ref lq) rfl (L₁₃.li.v hlqH₁ hlqN)
   have hqv:dval (2 ^ n) qs.reverse = a / b:=by
    have h3:a / b = dval (2 ^ n) qs.reverse:=by
     rw [q4,Nat.mul_comm,Nat.mul_add_div hb,Nat.div_eq_of_lt q3,Nat.add_zero]
    exact h3.symm
   have hrv:rr = a % b:=by
    rw [q4,Nat.mul_comm,Nat.mul_add_mod,Nat.mod_eq_of_lt q3]
   refine run1 (r:=m + 9) (vs:=("q",.int ((a / b:Nat):Int))::("q_digits",.list (natL qs.reverse))::("r",.int (rr:Int))::base) ?k8 T R₁ I₁₄ F₁₄ fun s₅' st₆' I₁₅ F₁₅=>?k9
   case k8=>
    conv=>arg 5;whnf
    refine SX1.assign (EVP.call (NameIs.glob (by decide) rfl) (KeepOK.fn Top1.fD2i) (EVS.cons (EVP.name Has.here rfl) (EVS.cons (EVP.name ((bN.skip rfl).skip rfl) rfl) EVS.nil)) ?_) (.inl rfl)
    have hnm:n * m ≤ 16000 * 60:=Nat.mul_le_mul hn hm
    have:=d2i_ok (h₁:=h₁) (ds:=qs.reverse) (n:=n) (fun d hd=>q2 d (List.mem_reverse.mp hd)) (by rw [List.length_reverse,q1];lia) (by rw [List.length_reverse,q1];lia)
    rw [hqv] at this
    exact this.up (by rw [List.length_reverse,q1];lia)
   case k9=>
   conv=>arg 3;arg 1;whnf
   have hret:EVP h₁ (m + 9) ⟨scOf0 (stOf 6),[("q_digits",.ref lq)]⟩ (("q",.int ((a / b:Nat):Int))::("q_digits",.list (natL qs.reverse))::("r",.int (rr:Int))::base) (.Tuple [.Name "q" ⟨64,12,64,13⟩,.Name "r" ⟨64,15,64,16⟩] 0 ⟨64,11,64,17⟩) (qr a b):=by
    rw [hrv]
    exact EVP.tuple (EVS.cons (EVP.name Has.here rfl) (EVS.cons (EVP.name ((Has.here.skip rfl).skip rfl) rfl) EVS.nil))
   refine wpAny_execs_cons (wpAny_Return_some (hret prog w _ env s₅' H₁ _ _ T R₁ I₁₅ F₁₅.ok fun v s₆' st₇' I₁₆ hv=>?_))
   refine k _ _ ?_ (I₁₆.sub hHin) (hv.less fun y hy=>.inl (hHin y hy))
   have stC:SStep [env.locals,lq,it] s s₆':=by
    have u1:∀ {s s':Shared},SStep [env.locals] s s'→SStep [env.locals,lq,it] s s':=fun st=>st.mono fun y hy=>.inl (by rcases ms hy with rfl;exact .head _)
    have u2:∀ {s s':Shared},SStep [lq] s s'→SStep [env.locals,lq,it] s s':=fun st=>st.mono fun y hy=>.inl (by rcases ms hy with rfl;exact .tail _ (.head _))
    have u3:∀ {s s':Shared},SStep [it] s s'→SStep [env.locals,lq,it] s s':=fun st=>st.mono fun y hy=>.inl (by rcases ms hy with rfl;exact .tail _ (.tail _ (.head _)))
    exact st0.up.trans ((u1 (st₂.trans (st₃.trans st₄))).trans (stq.up.trans ((u1 st₆).trans (st8.up.trans (q5.trans ((u3 stA).trans (st₄'.up.trans ((u2 (SStep.heap' st₅':SStep [lq] s₄' { s₄' with heap:=h' })).trans ((u1 st₆').trans st₇'.up)))))))))
   refine stC.mono fun y hy=>.inr ?_
   simp only [mcI,List.not_mem_nil,or_false] at hy
   rcases hy with rfl | rfl | rfl
   ·exact hloc
   ·exact hszq
   ·exact hszit
end
end Mine
namespace Mine
variable [Wd]
section
variable {h₁:Gl}{r:Nat}
theorem def7:DefOf (stOf 7) "int_divmod" (parOf (stOf 7)) (bodyOf (stOf 7)) (scOf0 (stOf 7)):=⟨⟨_,_,_,_,_,_,rfl⟩,rfl,rfl,rfl⟩
theorem idm_of {a b:Int}{d:D}(h:SX h₁ r (scOf (stOf 7)) [("b",.int b),("a",.int a)] (bodyOf (stOf 7)) (· = .ret d)):CallOK h₁ (r + 1) (.ref 56) [.int a,.int b] d:=by
 refine CallOK.of_def (xs:=["a", "b"]) Top1.fDm def7 ?_ ?_ (by decide) (SX.mono h fun o e=>.inl e)
 ·intro m vs hl
  refine ex20 (len2 hl) fun _ _ zq1=>?_;subst zq1
  rfl
 ·exact fm rfl (fm rfl fn)
structure DmB (a b:Nat):Prop where
 b0:0 < b
 bb:bl b ≤ 16000
 ab:bl a ≤ 2 ^ 20
 nd:ndig (bl b) a ≤ 60
theorem idm_nat {a b:Nat}(hB:DmB a b) (h2:DivOK h₁ 5 16000):CallOK h₁ 71 (.ref 56) [.int (a:Int),.int (b:Int)] (qr a b):=by
 refine idm_of (r:=70) ?_
 conv=>arg 5;whnf
 have hb:=hB.b0
 refine SX.ite (b:=false) ?k1 nofun fun _=>?k2
 case k1=>exact TSP.as (TSP.cmp (EVP.name Has.here rfl) EVP.const_int COp.eqI) (by simp;lia)
 case k2=>
 refine SX.ite (b:=false) ?k3 nofun fun _=>?k4
 case k3=>exact TSP.as (TSP.cmp (EVP.name Has.here rfl) EVP.const_int COp.ltI) (by simp)
 case k4=>
 refine SX.ite (b:=false) ?k5 nofun fun _=>?k6
 case k5=>exact TSP.as (TSP.cmp (EVP.name (Has.here.skip rfl) rfl) EVP.const_int COp.ltI) (by simp)
 case k6=>
 refine SX.ret (EVP.call (NameIs.glob (by decide) rfl) (KeepOK.fn Top1.fDpos) (EVS.cons (EVP.name (Has.here.skip rfl) rfl) (EVS.cons (EVP.name Has.here rfl) EVS.nil)) ?_) rfl
 have:=hB.nd
 exact CallOK.up (dpos_ok hB.b0 hB.bb hB.ab hB.nd h2) (by lia)
noncomputable def qrI (a b:Int):D:=.tuple [.int (a / b),.int (a % b)]
noncomputable def absI (a:Int):Nat:=if a < 0 then (-a - 1).toNat else a.toNat
theorem idm_pos {a:Int}{b:Nat}(hB:DmB (absI a) b) (h2:DivOK h₁ 5 16000):CallOK h₁ 72 (.ref 56) [.int a,.int (b:Int)] (qrI a (b:Int)):=by
 have hb:=hB.b0
 by_cases ha:a < 0
 ·have hab:absI a = (-a - 1).toNat:=if_pos ha
  rw [hab] at hB
  obtain ⟨c,hc⟩:∃ c:Nat,-a - 1 = (c:Int):=⟨(-a - 1).toNat,by lia⟩
  have hc':(-a - 1).toNat = c:=by lia
  rw [hc'] at hB
  refine idm_of (r:=71) ?_
  conv=>arg 5;whnf
  refine SX.ite (b:=false) ?k1 nofun fun _=>?k2
  case k1=>exact TSP.as (TSP.cmp (EVP.name Has.here rfl) EVP.const_int COp.eqI) (by simp;lia)
  case k2=>
  refine SX.ite (b:=false) ?k3 nofun fun _=>?k4
  case k3=>exact TSP.as (TSP.cmp (EVP.name Has.here rfl) EVP.const_int COp.ltI) (by simp)
  case k4=>
  refine SX.ite (b:=true) ?k5 (fun _=>?k6) nofun
  case k5=>exact TSP.as (TSP.cmp (EVP.name (Has.here.skip rfl) rfl) EVP.const_int COp.ltI) (by simpa using ha)
  case k6=>
  refine SX.unpack (ds:=[.int ((c / b:Nat):Int),.int ((c % b:Nat):Int)]) ?k7 rfl ?k8 rfl rfl rfl ?k9
  case k7=>
   refine EVP.call (NameIs.glob (by decide) rfl) (KeepOK.fn Top1.fDm) (EVS.cons (EVP.as (EVP.inv (EVP.name (Has.here.skip rfl) rfl)) (by rw [hc])) (EVS.cons (EVP.name Has.here rfl) EVS.nil)) ?_
   exact idm_nat hB h2
  case k8=>
   exact fm (.inl rfl) (fm (.inl rfl) fn)
  case k9=>
  refine SX.ret (d:=qrI a (b:Int)) ?k10 rfl
  case k10=>
   have h1:(-((c / b:Nat):Int) - 1) = a / (b:Int)∧((b:Int) + (-((c % b:Nat):Int) - 1)) = a % (b:Int):=by
    have hd:=Nat.div_add_mod c b
    have hm:=Nat.mod_lt c hb
    have e:a = (b:Int) * (-((c / b:Nat):Int) - 1) + ((b:Int) + (-((c % b:Nat):Int) - 1)):=by
     have:(c:Int) = (b:Int) * ((c / b:Nat):Int) + ((c % b:Nat):Int):=by exact_mod_cast hd.symm
     have h3:a = -(c:Int) - 1:=by lia
     rw [h3,this,Int.mul_sub,Int.mul_neg]
     lia
    have hb':(0:Int) < (b:Int):=by lia
    have hq:=(Int.ediv_emod_unique hb' (a:=a) (q:=-((c / b:Nat):Int) - 1) (r:=(b:Int) + (-((c % b:Nat):Int) - 1))).mpr ⟨by lia,by lia,by lia⟩
    exact ⟨hq.1.symm,hq.2.symm⟩
   unfold qrI
   rw [← h1.1,← h1.2]
   exact EVP.tuple (EVS.cons (EVP.inv (EVP.name (Has.here.skip rfl) rfl)) (EVS.cons (EVP.binop (EVP.name ((Has.here.skip rfl).skip rfl) rfl) (EVP.inv (EVP.name Has.here rfl)) IOp.add) EVS.nil))
 ·have hab:absI a = a.toNat:=if_neg ha
  rw [hab] at hB
  obtain ⟨c,rfl⟩:∃ c:Nat,a = (c:Int):=⟨a.toNat,by lia⟩
  exact CallOK.up (idm_nat (by simpa using hB) h2) (by lia)
theorem idm_neg {a:Int}{b:Nat}(hB:DmB (absI (-a)) b) (h2:DivOK h₁ 5 16000):CallOK h₁ 73 (.ref 56) [.int a,.int (-(b:Int))] (.tuple [.int (-a / (b:Int)),.int (-(-a % (b:Int)))]):=by
 have hb:=hB.b0
 refine idm_of (r:=72) ?_
 conv=>arg 5;whnf
 refine SX.ite (b:=false) ?k1 nofun fun _=>?k2
 case k1=>exact TSP.as (TSP.cmp (EVP.name Has.here rfl) EVP.const_int COp.eqI) (by simp;lia)
 case k2=>
 refine SX.ite (b:=true) ?k3 (fun _=>?k4) nofun
 case k3=>exact TSP.as (TSP.cmp (EVP.name Has.here rfl) EVP.const_int COp.ltI) (by simp;lia)
 case k4=>
 refine SX.unpack (ds:=[.int (-a / (b:Int)),.int (-a % (b:Int))]) ?k7 rfl ?k8 rfl rfl rfl ?k9
 case k7=>
  refine EVP.call (NameIs.glob (by decide) rfl) (KeepOK.fn Top1.fDm) (EVS.cons (EVP.neg (EVP.name (Has.here.skip rfl) rfl)) (EVS.cons (EVP.as (EVP.neg (EVP.name Has.here rfl)) (by rw [Int.neg_neg])) EVS.nil)) ?_
  exact idm_pos hB h2
 case k8=>
  exact fm (.inl rfl) (fm (.inl rfl) fn)
 case k9=>
 refine SX.ret ?k10 rfl
 case k10=>exact EVP.tuple (EVS.cons (EVP.name (Has.here.skip rfl) rfl) (EVS.cons (EVP.neg (EVP.name Has.here rfl)) EVS.nil))
end
end Mine
namespace Mine
variable [Wd]
section
variable {h₁:Gl}{r:Nat}{sc:Sc}{vars:List (Str × D)}
theorem CallOK.lenStr {x:Str}(hl:x.length ≤ 2 ^ 20):CallOK h₁ r (.builtin "len") [.str x] (.int (x.length:Int)):=by
 intro prog w A s H vs Q E T R I hx k
 replace hx:=VL.consI hx
 obtain ⟨_,_,rfl,x1,x2⟩:=hx
 ·
  obtain rfl:=VL.nilI x2;obtain ⟨_,rfl⟩:=V.strI x1
  refine PySem.P.len_str (by lia) ?_
  exact k _ _ (SStep.toks s _) (I.toks _) (.int _ _)
theorem def18:DefOf (stOf 18) "_law_overlap" (parOf (stOf 18)) (bodyOf (stOf 18)) (scOf0 (stOf 18)):=⟨⟨_,_,_,_,_,_,rfl⟩,rfl,rfl,rfl⟩
theorem compOut_all {ys:Nat→D}{n:Nat}:compOut (fun _=>true) ys n = (List.range n).map ys:=by
 unfold compOut
 simp only [if_true]
 rw [List.map_eq_flatMap]
noncomputable def ovl (x y:Str):List Nat:=(List.range x.length).map fun i=>if subS x (x.length - (1 + i)) x.length == subS y 0 (1 + i) then 1 else 0
noncomputable def compE:Expr→Expr
 | .Call _ (a::_) _ _=>a
 | _=>.Constant .none 0 ⟨0,0,0,0⟩
noncomputable def compScope:Expr→Scope
 | .ListComp _ _ s _=>s
 | .DictComp _ _ _ s _=>s
 | _=>default
theorem cvars_has {vs:List (Str × D)}{s:Scope}{x:Str}{d:D}(h:Has vs x d) (hx:inFree s x = true):Has (cvars vs s) x d:=by
 show (vs.filter fun p=>inFree s p.1).lookup x = _
 rw [lookup_filter (f:=inFree s),if_pos hx];exact h
theorem cvars_none {vs:List (Str × D)}{s:Scope}{x:Str}(hx:inFree s x = false):(cvars vs s).lookup x = none:=by
 rw [cvars,lookup_filter (f:=inFree s),hx];rfl
theorem over_comp {x y:Str}{vs:List (Str × D)}(hx:x.length ≤ 2 ^ 20) (hxy:x.length = y.length) (v1:Has vs "left" (.str x)) (v2:Has vs "right" (.str y)) (v3:Has vs "size" (.int (x.length:Int))) :
  EVP h₁ r (scOf (stOf 18)) vs (compE (retE (innOf (stOf 18) 1))) (.list (natL (ovl x y))):=by
 have e0:PyData.list (natL (ovl x y)) = .list (compOut (fun _=>true) (fun i=>.int ((if subS x (x.length - (1 + i)) x.length == subS y 0 (1 + i) then 1 else 0:Nat):Int)) (rangeL 1 (x.length + 1)).length):=by
  rw [compOut_all,rangeL_len,Nat.add_sub_cancel]
  unfold ovl natL
  rw [List.map_map];rfl
 rw [e0]
 conv=>arg 5;whnf
 refine EVR.pure (P:=Rp.nil) (P':=Rp.nil) (EVR.listcomp rfl (CompOK.list (fun _=>true) (fun i=>.int ((if subS x (x.length - (1 + i)) x.length == subS y 0 (1 + i) then 1 else 0:Nat):Int)) (fun _=>Rp.nil) (EVI.j (EVI.range2 EVP.c1 (EVP.binop (EVP.name v3 rfl) EVP.c1 IOp.addN) (by decide) (by lia) rfl)) ?k1 (by rw [rangeL_len];lia) (fun _ _=>rfl) fun i d hd=>?k2)) Rp.nil_ok
 case k1=>
  refine ⟨rfl,by decide,by decide,?_⟩
  exact fm ⟨rfl,rfl,.inl (by rw [v1];rfl)⟩ (fm ⟨rfl,rfl,.inl (by rw [v2];rfl)⟩ (fm ⟨rfl,rfl,.inl (by rw [v3];rfl)⟩ fn))
 case k2=>
  have hi:i < x.length:=by
   have:=(List.getElem?_eq_some_iff.mp hd).1
   rw [rangeL_len] at this;lia
  rw [rangeL_get (by lia)] at hd
  cases hd
  have w1:∀ s,Has (("k",.int ((1 + i:Nat):Int))::cvars vs s) "k" (.int ((1 + i:Nat):Int)):=fun _=>Has.here
  have w2:∀ s:Scope,inFree s "left" = true→Has (("k",.int ((1 + i:Nat):Int))::cvars vs s) "left" (.str x):=fun s h=>Has.skip (cvars_has v1 h) rfl
  have w3:∀ s:Scope,inFree s "right" = true→Has (("k",.int ((1 + i:Nat):Int))::cvars vs s) "right" (.str y):=fun s h=>Has.skip (cvars_has v2 h) rfl
  have w4:∀ s:Scope,inFree s "size" = true→Has (("k",.int ((1 + i:Nat):Int))::cvars vs s) "size" (.int (x.length:Int)):=fun s h=>Has.skip (cvars_has v3 h) rfl
  refine ⟨_,.name rfl,skip_weak (cvars_none rfl) fun _ _ q=>q,.inl ⟨rfl,rfl⟩,fun _=>rfl,fun _=>EVP.re ?_⟩
  refine EVP.ifexp (x:=subS x (x.length - (1 + i)) x.length == subS y 0 (1 + i)) ?k3 ?k4 ?k5
  case k3=>
   refine TSP.cmp (EVP.sliceS (EVP.name (w2 _ rfl) rfl) (.inr ⟨_,rfl,EVP.binop (EVP.name (w4 _ rfl) rfl) (EVP.name (w1 _) rfl) (IOp.subN (by lia))⟩) (.inl ⟨rfl,rfl⟩) (by lia) (Nat.le_refl _) hx) ?_ COp.eqS
   exact EVP.sliceS (EVP.name (w3 _ rfl) rfl) (.inl ⟨rfl,rfl⟩) (.inr ⟨_,rfl,EVP.name (w1 _) rfl⟩) (by lia) (by lia) (by lia)
  case k4=>intro hb;rw [if_pos hb];exact EVP.c1
  case k5=>intro hb;rw [if_neg (by rw [hb];simp)];exact EVP.c0
theorem over_ok {x y:Str}{n:Nat}(hx:x.length ≤ 60) (hxy:x.length = y.length) (hn:1 ≤ n) (hn2:n ≤ 16000):CallOK h₁ 70 (.ref 139) [.str x,.str y,.int (n:Int)] (.int ((dval (2 ^ n) (ovl x y):Nat):Int)):=by
 refine CallOK.of_defC (r:=69) (xs:=["left", "right", "width"]) Top1.fOver def18 ?_ ?_ ?_
 ·intro m vs hl
  obtain ⟨_,_,_,rfl⟩:=len3 hl
  rfl
 ·exact fm (.inr rfl) (fm (.inr rfl) (fm (.inl rfl) fn))
 ·have v1:Has [(("width":Str),PyData.int (n:Int)),("right",.str y),("left",.str x)] "left" (.str x):=(Has.here.skip rfl).skip rfl
  have v2:Has [(("width":Str),PyData.int (n:Int)),("right",.str y),("left",.str x)] "right" (.str y):=Has.here.skip rfl
  have v3:Has [(("width":Str),PyData.int (n:Int)),("right",.str y),("left",.str x)] "width" (.int (n:Int)):=Has.here
  show SX h₁ 69 (scOf (stOf 18)) [(("width":Str),PyData.int (n:Int)),("right",.str y),("left",.str x)] (bodyOf (stOf 18)) _
  generalize [(("width":Str),PyData.int (n:Int)),("right",.str y),("left",.str x)] = vs at v1 v2 v3
  have hb:bodyOf (stOf 18) = innOf (stOf 18) 0::[innOf (stOf 18) 1]:=rfl
  rw [hb]
  have hc:=over_comp (h₁:=h₁) (r:=69) (vs:=("size",.int (x.length:Int))::vs) (x:=x) (y:=y) (by lia) hxy (v1.skip rfl) (v2.skip rfl) Has.here
  refine SX.step (vs:=("size",.int (x.length:Int))::vs) ?k1 ?k2
  case k1=>
   conv=>arg 5;whnf
   exact SX1.assign (EVP.call (NameIs.bi (by decide) rfl rfl) KeepOK.builtin (EVS.cons (EVP.name v1 rfl) EVS.nil) (CallOK.lenStr (by lia))) (.inr rfl)
  case k2=>
   have hr:innOf (stOf 18) 1 = .Return (some (.Call (.Name "_digits2int" ⟨183,11,183,22⟩) [compE (retE (innOf (stOf 18) 1)),.Name "width" ⟨183,95,183,100⟩] [] ⟨183,11,183,101⟩)) ⟨183,4,183,101⟩:=rfl
   rw [hr]
   have hlen:(ovl x y).length = x.length:=by simp [ovl]
   have hnx:n * x.length ≤ 16000 * 60:=Nat.mul_le_mul hn2 hx
   refine SX.ret (EVP.call (NameIs.glob (by decide) rfl) (KeepOK.fn Top1.fD2i) (EVS.cons hc (EVS.cons (EVP.name (v3.skip rfl) rfl) EVS.nil) rfl) ((d2i_ok (ds:=ovl x y) (n:=n) ?_ (by rw [hlen];lia) (by rw [hlen];lia)).up (by rw [hlen];lia))) (.inl rfl)
   intro d hd
   obtain ⟨i,_,rfl⟩:=List.mem_map.mp hd
   have h2:2 ≤ 2 ^ n:=by
    have:=Nat.pow_le_pow_right (n:=2) (by decide) hn
    simpa using this
   split <;> lia
end
end Mine
namespace Mine
variable [Wd]
section
variable {h₁:Gl}{r:Nat}{sc:Sc}{vars:List (Str × D)}
abbrev intL (ns:List Int):List D:=ns.map PyData.int
theorem VL.intsAre {h:Heap}{H:List Addr}{vs:List Value}{ns:List Int}(x:VL h H vs (intL ns)):IntsAre vs ns:=by
 induction ns generalizing vs with
 | nil=>obtain rfl:=VL.nilI x;exact .nil
 | cons n ns ih=>
  refine ex22 (VL.consI x) fun v ws zq a b=>?_;subst zq
  obtain ⟨_,rfl⟩:=V.intI a
  exact .cons _ _ (ih b)
theorem CallOK.sum {ns:List Int}:CallOK h₁ r (.builtin "sum") [.list (intL ns)] (.int ns.sum):=by
 intro prog w A s H vs Q E T R I x k
 replace x:=VL.consI x
 obtain ⟨_,_,rfl,x1,x2⟩:=x
 ·
  obtain rfl:=VL.nilI x2
  obtain ⟨a,o,vs,n,rfl,e,c,dd,_,_,l'⟩:=x1.asList
  have hL:s.heap.IsList a vs:=⟨o,e,c,_,dd⟩
  have hi:=l'.intsAre
  obtain ⟨xs,hx⟩:=hi.allInts.items
  have hv:vs = intItems xs:=by rw [← hx]
  subst hv
  refine with_size (sum_intListG R.hd hL fun h' tk t' hk hz=>?_)
  have hs:preSum (numAt xs) xs.size = ns.sum:=by
   rw [preSum_eq,List.take_of_length_le (by simp),← nums_intItems,← hi.numsOf]
  rw [hs]
  exact k _ _ (SStep.heap (Step.of_keeps hk hz) tk) (I.grown hk hz) (.int _ _)
theorem natL_intL (l:List Nat):natL l = intL (l.map fun (n:Nat)=>(n:Int)):=by simp [natL,intL,List.map_map,Function.comp_def]
theorem CallOK.sumN {ns:List Nat}:CallOK h₁ r (.builtin "sum") [.list (natL ns)] (.int ((ns.sum:Nat):Int)):=by
 have e:((ns.sum:Nat):Int) = (ns.map fun (n:Nat)=>(n:Int)).sum:=by
  induction ns with
  | nil=>rfl
  | cons a l ih=>simp [← ih]
 rw [natL_intL,e]
 exact CallOK.sum
noncomputable def spentL (R:Nat) (ds:List Nat):List Nat:=ds.mapIdx fun i d=>(R - i) * d
theorem spentL_get {R:Nat}{ds:List Nat}{i:Nat}(h:i < ds.length):(spentL R ds)[i]? = some ((R - i) * ds[i]):=by
 unfold spentL;rw [List.getElem?_mapIdx,List.getElem?_eq_getElem h];rfl
theorem def19:DefOf (stOf 19) "_law_entry" (parOf (stOf 19)) (bodyOf (stOf 19)) (scOf0 (stOf 19)):=⟨⟨_,_,_,_,_,_,rfl⟩,rfl,rfl,rfl⟩
noncomputable def valE:Stmt→Expr
 | .Assign _ e _=>e
 | .AugAssign _ _ e _=>e
 | .Return (some e) _=>e
 | .Expr e _=>e
 | _=>.Constant .none 0 ⟨0,0,0,0⟩
theorem compOut_range {ys:Nat→D}{l:List D}{n:Nat}(hn:l.length = n) (h:∀ i,i < n→l[i]? = some (ys i)):compOut (fun _=>true) ys n = l:=by
 rw [compOut_all]
 refine List.ext_getElem? fun i=>?_
 by_cases hi:i < n
 ·rw [List.getElem?_map,List.getElem?_range hi,h i hi];rfl
 ·rw [List.getElem?_eq_none (by simp;lia),List.getElem?_eq_none (by lia)]
theorem entry_comp {R:Nat}{ds:List Nat}{vs:List (Str × D)}(hR:ds.length ≤ R + 1) (hz:ds.length ≤ 60) (hb:∀ d ∈ ds,bl d ≤ 20000) (hR2:R ≤ 50) (v1:Has vs "rounds" (.int (R:Int))) (v2:Has vs "places" (.list (natL ds))):SX1 h₁ r (scOf (stOf 19)) vs (innOf (stOf 19) 1) (· = .next (("spent",.list (natL (spentL R ds)))::vs)):=by
 have e0:PyData.list (natL (spentL R ds)) = .list (compOut (fun _=>true) (fun i=>.int (((R - i) * (ds.getD i 0):Nat):Int)) (enumL (natL ds)).length):=by
  rw [compOut_range (l:=natL (spentL R ds)) (by simp [spentL,enumL]) fun i hi=>?_]
  have hi':i < ds.length:=by simpa [enumL] using hi
  unfold natL
  rw [List.getElem?_map,spentL_get hi']
  have:ds.getD i 0 = ds[i]:=by simp [hi']
  rw [this];rfl
 rw [e0]
 conv=>arg 5;whnf
 refine SXR1.pure (P:=Rp.nil) (SXR1.assignComp (P':=Rp.nil) rfl (CompOK.list (fun _=>true) (fun i=>.int (((R - i) * (ds.getD i 0):Nat):Int)) (fun _=>Rp.nil) (EVJ.enumerate (EVP.name v2 rfl) rfl) ?k1 (by rw [enumL_len];simp;lia) (fun _ _=>rfl) fun i d hd=>?k2) rfl rfl rfl rfl) Rp.nil_ok
 case k1=>
  refine ⟨rfl,by decide,by decide,?_⟩
  intro z hz
  have hz':z ∈ (["rounds"]:List Str):=hz
  rcases ms hz' with rfl
  exact ⟨rfl,rfl,.inl (by rw [v1];rfl)⟩
 case k2=>
  have hi:i < ds.length:=by
   have:=(List.getElem?_eq_some_iff.mp hd).1
   rw [enumL_len] at this;simpa using this
  rw [enumL_get (natL_get hi)] at hd
  cases hd
  have hgd:ds.getD i 0 = ds[i]:=by simp [hi]
  refine ⟨_,.tup rfl ?_ rfl,?_,.inl ⟨rfl,rfl⟩,nofun,fun _=>?_⟩
  ·exact fm rfl (fm rfl fn)
  ·exact skip_weak (cvars_none rfl) (skip_weak (cvars_none rfl) fun _ _ q=>q)
  ·have w1:Has (("count",.int ((ds[i]:Nat):Int))::("place",.int (i:Int))::cvars vs (compScope (valE (innOf (stOf 19) 1)))) "rounds" (.int (R:Int)):=((cvars_has v1 rfl).skip rfl).skip rfl
   have w2:Has (("count",.int ((ds[i]:Nat):Int))::("place",.int (i:Int))::cvars vs (compScope (valE (innOf (stOf 19) 1)))) "place" (.int (i:Int)):=Has.here.skip rfl
   have w3:Has (("count",.int ((ds[i]:Nat):Int))::("place",.int (i:Int))::cvars vs (compScope (valE (innOf (stOf 19) 1)))) "count" (.int ((ds[i]:Nat):Int)):=Has.here
   rw [hgd]
   refine EVP.re (EVP.binop (EVP.binop (EVP.name w1 rfl) (EVP.name w2 rfl) (IOp.subN (by lia))) (EVP.name w3 rfl) (IOp.mulN ?_))
   have h1:=hb _ (List.getElem_mem hi)
   have h2:bl (R - i) ≤ 50:=bl_le (Nat.lt_of_le_of_lt (Nat.sub_le _ _) (Nat.lt_of_le_of_lt hR2 (by decide)))
   lia
theorem entry_ok {a n R:Nat}(hn:0 < n) (hn2:n ≤ 16000) (ha:bl a ≤ 2 ^ 20) (hR:R ≤ 50) (hd:ndig n a ≤ R + 1) (hsp:∀ d ∈ spentL R (digs (2 ^ n) (ndig n a) a),d < 2 ^ n) :
  CallOK h₁ 80 (.ref 144) [.int (a:Int),.int (R:Int),.int (n:Int)] (.tuple [.int (((digs (2 ^ n) (ndig n a) a).sum:Nat):Int),.int (((spentL R (digs (2 ^ n) (ndig n a) a)).sum:Nat):Int),.int (a:Int),.int ((dval (2 ^ n) (spentL R (digs (2 ^ n) (ndig n a) a)):Nat):Int)]):=by
 refine CallOK.of_defC (r:=79) (xs:=["number", "rounds", "width"]) Top1.fEntry def19 ?_ ?_ ?_
 ·intro m vs hl
  obtain ⟨_,_,_,rfl⟩:=len3 hl
  rfl
 ·exact fm (.inl rfl) (fm (.inr rfl) (fm (.inl rfl) fn))
 ·have v1:Has [(("width":Str),PyData.int (n:Int)),("rounds",.int (R:Int)),("number",.int (a:Int))] "number" (.int (a:Int)):=(Has.here.skip rfl).skip rfl
  have v2:Has [(("width":Str),PyData.int (n:Int)),("rounds",.int (R:Int)),("number",.int (a:Int))] "rounds" (.int (R:Int)):=Has.here.skip rfl
  have v3:Has [(("width":Str),PyData.int (n:Int)),("rounds",.int (R:Int)),("number",.int (a:Int))] "width" (.int (n:Int)):=Has.here
  show SX h₁ 79 (scOf (stOf 19)) [(("width":Str),PyData.int (n:Int)),("rounds",.int (R:Int)),("number",.int (a:Int))] (bodyOf (stOf 19)) _
  generalize [(("width":Str),PyData.int (n:Int)),("rounds",.int (R:Int)),("number",.int (a:Int))] = vs at v1 v2 v3
  generalize hds:digs (2 ^ n) (ndig n a) a = ds at hsp
  have hlen:ds.length = ndig n a:=by rw [← hds,digs_length]
  have hlt:∀ d ∈ ds,d < 2 ^ n:=by rw [← hds];exact digs_lt (Nat.two_pow_pos n) _ _
  have hblt:∀ d ∈ ds,bl d ≤ 20000:=fun d hd=>Nat.le_trans (bl_le (hlt d hd)) (by lia)
  conv=>arg 5;whnf
  refine SX.step (vs:=("places",.list (natL ds))::vs) ?k1 ?k2
  case k1=>
   refine SX1.assign (EVP.call (NameIs.glob (by decide) rfl) (KeepOK.fn Top1.fI2d) (EVS.cons (EVP.name v1 rfl) (EVS.cons (EVP.name v3 rfl) EVS.nil)) (hds ▸ (i2d_ok hn (by lia)).up (by lia))) (.inl rfl)
  case k2=>
   refine SX.step (vs:=("spent",.list (natL (spentL R ds)))::("places",.list (natL ds))::vs) ?k3 ?k4
   case k3=>exact entry_comp (by lia) (by lia) hblt hR (v2.skip rfl) Has.here
   case k4=>
    have hl2:(spentL R ds).length = ds.length:=by simp [spentL]
    have hnx:n * ds.length ≤ 16000 * 60:=Nat.mul_le_mul hn2 (by lia)
    refine SX.ret (EVP.tuple (EVS.cons (EVP.call (NameIs.bi (by decide) rfl rfl) KeepOK.builtin (EVS.cons (EVP.name (Has.here.skip rfl) rfl) EVS.nil) CallOK.sumN) (EVS.cons (EVP.call (NameIs.bi (by decide) rfl rfl) KeepOK.builtin (EVS.cons (EVP.name Has.here rfl) EVS.nil) CallOK.sumN)
     (EVS.cons (EVP.name ((v1.skip rfl).skip rfl) rfl) (EVS.cons (EVP.call (NameIs.glob (by decide) rfl) (KeepOK.fn Top1.fD2i) (EVS.cons (EVP.name Has.here rfl) (EVS.cons (EVP.name ((v3.skip rfl).skip rfl) rfl) EVS.nil)) ((d2i_ok hsp (by rw [hl2];lia) (by rw [hl2];lia)).up (by rw [hl2];lia))) EVS.nil))))) (.inl rfl)
end
end Mine
namespace Mine
abbrev S (l:List Nat):Str:=⟨l.toArray⟩
theorem S_append (a b:List Nat):S a ++ S b = S (a ++ b):=by
 show (⟨a.toArray ++ b.toArray⟩:Str) = _
 simp
theorem S_len (a:List Nat):(S a).length = a.length:=by simp [Str.length]
theorem S_inj {a b:List Nat}:S a = S b ↔ a = b:=by simp
theorem S_beq (a b:List Nat):(S a == S b) = decide (a = b):=by
 by_cases h:a = b
 ·subst h;simp
 ·have:¬ S a = S b:=fun e=>h (S_inj.mp e)
  simp [h,this]
theorem subAt_S (x y:List Nat) (i:Nat) (hi:i + y.length ≤ x.length):Builtin.Str.subAt (S x) (S y) i = decide (((x.drop i).take y.length) = y):=by
 unfold Builtin.Str.subAt
 rw [S_len]
 have e:x.toArray.extract i (i + y.length) = ((x.drop i).take y.length).toArray:=by
  apply Array.ext'
  simp [List.extract_eq_take_drop]
 show ((x.toArray.extract i (i + y.length)) == y.toArray) = _
 rw [e]
 by_cases h:(x.drop i).take y.length = y
 ·rw [h];simp
 ·simp [h]
theorem endsS (x y:List Nat):Txt.endswith (S x) (S y) = decide (y <:+ x):=by
 unfold Txt.endswith
 rw [S_len,S_len]
 by_cases h:y.length ≤ x.length
 ·rw [subAt_S x y _ (by omega)]
  have e1:decide (0 + y.length ≤ x.length) = true:=by simp;exact h
  rw [e1,Bool.true_and]
  have e2:(x.drop (x.length - y.length)).take y.length = x.drop (x.length - y.length):=by
   rw [List.take_of_length_le];simp;omega
  rw [e2]
  congr 1
  rw [List.suffix_iff_eq_drop]
  exact propext ⟨Eq.symm,Eq.symm⟩
 ·have e1:decide (0 + y.length ≤ x.length) = false:=by simp;omega
  rw [e1,Bool.false_and]
  have:¬ y <:+ x:=fun q=>h q.length_le
  simp [this]
theorem contS (x y:List Nat):Txt.contains (S x) (S y) = decide (y <:+: x):=by
 rw [Bool.eq_iff_iff]
 unfold Txt.contains
 rw [StrLaws.found_iff,decide_eq_true_iff]
 constructor
 ·rintro ⟨i,h1,h2⟩
  rw [S_len,S_len] at h1
  rw [subAt_S x y i h1,decide_eq_true_iff] at h2
  refine ⟨x.take i,(x.drop i).drop y.length,?_⟩
  have:y ++ (x.drop i).drop y.length = x.drop i:=by
   conv=>lhs;arg 1;rw [← h2]
   exact List.take_append_drop _ _
  rw [List.append_assoc,this]
  exact List.take_append_drop _ _
 ·rintro ⟨a,b,rfl⟩
  refine ⟨a.length,by simp [S_len],?_⟩
  rw [subAt_S _ _ _ (by simp),decide_eq_true_iff]
  simp
theorem joinS':∀ (l:List (List Nat)),Str.join (S []) (l.map S) = S l.flatten
 | []=>rfl
 | [a]=>by simp [Str.join]
 | a::b::r=>by
  have ih:=joinS' (b::r)
  show S a ++ S [] ++ Str.join (S []) ((b::r).map S) = _
  rw [ih,S_append,S_append]
  simp
theorem joinS (l:List (List Nat)):Txt.join (S []) (l.map S) = S l.flatten:=by
 unfold Txt.join
 rw [StrLaws.glued_eq_join]
 exact joinS' l
theorem subS_S (x:List Nat) (a b:Nat):subS (S x) a b = S ((x.drop a).take (b - a)):=by simp [subS]
theorem signsOf_S (x:List Nat):signsOf (S x) = x.map fun c=>PyData.str (S [c]):=by simp [signsOf,S]
variable [Wd]
section
variable {h₁:Gl}{r:Nat}{sc:Sc}{vars:List (Str × D)}
theorem EVP.addS {l rr:Expr}{pos:Pos}{a b:Str}(hl:EVP h₁ r sc vars l (.str a)) (hr:EVP h₁ r sc vars rr (.str b)) (hz:a.length + b.length ≤ 2 ^ 20):EVP h₁ r sc vars (.BinOp l .Add rr pos) (.str (a ++ b)):=by
 intro prog w A env s H Q E T R I O k
 with_reducible refine wpAny_BinOp (hl prog w A env s H _ E T R I O fun v s₁ st I₁ hv=>?_)
 obtain ⟨_,rfl⟩:=V.strI hv
 with_reducible refine hr prog w A env s₁ H _ E T R I₁ (O.grow st.st) fun v' s₂ st₂ I₂ hv₂=>?_
 obtain ⟨_,rfl⟩:=V.strI hv₂
 refine SB.add (fun t' kk=>?_) (by rw [sizeLine_eq];omega)
 exact k _ _ (st.trans (st₂.trans (SStep.toks s₂ kk))) (I₂.toks kk) (.str _ _)
theorem SX1.augS {x:Str}{p pos:Pos}{e:Expr}{a b:Str}(hx:vars.lookup x = some (.str a)) (he:EVP h₁ r sc vars e (.str b)) (hs:Sto sc x) (hz:a.length + b.length ≤ 2 ^ 20):SX1 h₁ r sc vars (.AugAssign (.Name x p) .Add e pos) (· = .next ((x,.str (a ++ b))::vars)):=by
 intro prog w A env s H Q E T R I F k
 with_reducible refine wpAny_AugAssign_Name (loadVar F.ok hx fun v hv=>?_)
 obtain ⟨_,rfl⟩:=V.strI hv
 with_reducible refine he prog w A env s H _ E T R I F.ok fun v s₁ st I₁ hv=>?_
 obtain ⟨_,rfl⟩:=V.strI hv
 refine SB.iadd (fun t' kk=>?_) (by rw [sizeLine_eq];omega)
 with_reducible refine store hs (I₁.toks kk) ((F.grow st.st).grow (Step.refl _ _)) (.str _ t') fun s₂ st₂ I₂ F₂=>?_
 exact k _ _ _ rfl (st.up.trans ((SStep.toks s₁ _).trans st₂)) I₂ F₂
theorem COp.inS {x y:Str}:COp .In (.str y) (.str x) (Txt.contains x y):=by
 intro prog w A s H v1 v2 Q E R x1 x2 k;obtain ⟨_,rfl⟩:=V.strI x1;obtain ⟨_,rfl⟩:=V.strI x2;exact SB.contains k
theorem COp.ninS {x y:Str}:COp .NotIn (.str y) (.str x) (!Txt.contains x y):=by
 intro prog w A s H v1 v2 Q E R x1 x2 k;obtain ⟨_,rfl⟩:=V.strI x1;obtain ⟨_,rfl⟩:=V.strI x2;exact SB.notContains k
theorem MethOK.endswith {x y:Str}:MethOK h₁ r (Str.ofString "endswith") (.str x) [.str y] (.bool (Txt.endswith x y)):=by
 refine ⟨"str.endswith",?_,?_⟩
 ·intro M A s H v pl Q E x k
  obtain ⟨_,rfl⟩:=V.strI x
  with_reducible exact GM.endswith k
 ·intro prog w A s H vs Q E T R I x k
  replace x:=VL.consI x
  refine ex22 x fun _ _ zq1 x1 x2=>?_;subst zq1
  ·
   replace x2:=VL.consI x2
   obtain ⟨_,_,rfl,x2,x3⟩:=x2
   ·
    obtain rfl:=VL.nilI x3;obtain ⟨_,rfl⟩:=V.strI x1;obtain ⟨_,rfl⟩:=V.strI x2
    refine SC.endswith ?_
    exact k _ _ (SStep.refl _ _) I (.bool _)
theorem MethOK.count {x y:Str}:MethOK h₁ r (Str.ofString "count") (.str x) [.str y] (.int (Txt.count x y)):=by
 refine ⟨"str.count",?_,?_⟩
 ·intro M A s H v pl Q E x k
  obtain ⟨_,rfl⟩:=V.strI x
  with_reducible exact GM.count k
 ·intro prog w A s H vs Q E T R I x k
  replace x:=VL.consI x
  refine ex22 x fun _ _ zq1 x1 x2=>?_;subst zq1
  ·
   replace x2:=VL.consI x2
   obtain ⟨_,_,rfl,x2,x3⟩:=x2
   ·
    obtain rfl:=VL.nilI x3;obtain ⟨_,rfl⟩:=V.strI x1;obtain ⟨_,rfl⟩:=V.strI x2
    refine SC.count ?_
    exact k _ _ (SStep.toks s _) (I.toks _) (.int _ _)
abbrev strL (l:List Str):List D:=l.map PyData.str
theorem VL.strs {h:Heap}{H:List Addr}{vs:List Value}{l:List Str}(x:VL h H vs (strL l)):∃ ps:List (Str × Tok),vs = strValues ps∧ps.map (·.1) = l:=by
 induction l generalizing vs with
 | nil=>obtain rfl:=VL.nilI x;exact ⟨[],rfl,rfl⟩
 | cons y l ih=>
  refine ex22 (VL.consI x) fun v ws zq a b=>?_;subst zq
  obtain ⟨_,rfl⟩:=V.strI a
  refine ex11 (ih b) fun ps h1 h2=>?_
  exact ⟨(y,_)::ps,by rw [h1];rfl,by rw [List.map_cons,h2]⟩
theorem MethOK.join {x:Str}{l:List Str}(hok:JoinOk x l = true):MethOK h₁ r (Str.ofString "join") (.str x) [.list (strL l)] (.str (Txt.join x l)):=by
 refine ⟨"str.join",?_,?_⟩
 ·intro M A s H v pl Q E x k
  obtain ⟨_,rfl⟩:=V.strI x
  with_reducible exact GM.join k
 ·intro prog w A s H vs Q E T R I x k
  replace x:=VL.consI x
  refine ex22 x fun _ _ zq1 x1 x2=>?_;subst zq1
  ·
   replace x2:=VL.consI x2
   obtain ⟨_,_,rfl,x2,x3⟩:=x2
   ·
    obtain rfl:=VL.nilI x3;obtain ⟨_,rfl⟩:=V.strI x1
    obtain ⟨a,o,vs,n,rfl,e,c,dd,_,_,l'⟩:=x2.asList
    refine ex11 l'.strs fun ps h1 h2=>?_
    have hL:s.heap.IsList a (strValues ps).toArray:=⟨o,e,c,n,by rw [dd,← h1]⟩
    refine SC.join hL h2 hok fun t' kk=>?_
    exact k _ _ (SStep.toks s _) (I.toks _) (.str _ _)
theorem GetOK.str {x:Str}{i:Int}{c:Nat}(hr:fitsSsize i = true) (hin:Txt.charAt x i = some c):GetOK (.str x) (.int i) (.str (S [c])):=by
 intro prog w A s H value slice v iv Q E hp hx hy k
 have hi:Txt.item x i = S [c]:=by unfold Txt.item;rw [hin];rfl
 obtain ⟨_,rfl⟩:=V.strI hx;obtain ⟨_,rfl⟩:=V.intI hy
 refine subscriptTail_any (T := "str") rfl F.slot_str_getitem.lookup (SB.getItem hr (by rw [hin];rfl) ?_) hp
 rw [hi];exact k _ _ (.str _ _)
end
end Mine
namespace Mine
noncomputable def freeRows (sg:List Nat):Nat→List (List Nat)
 | 0=>[[]]
 | k + 1=>(freeRows sg k).flatMap fun row=>sg.map fun c=>row ++ [c]
theorem freeRows_len (sg:List Nat):∀ k,∀ row ∈ freeRows sg k,row.length = k
 | 0,row,h=>by simp [freeRows] at h;simp [h]
 | k + 1,row,h=>by
  refine ex11 (List.mem_flatMap.mp h) fun r hr h2=>?_
  refine ex11 (List.mem_map.mp h2) fun c _ zq1=>?_;subst zq1
  simp [freeRows_len sg k r hr]
abbrev wordL (l:List (List Nat)):List PyData:=l.map fun x=>PyData.str (S x)
theorem range_flatMap {α β:Type}(l:List α) (d:α) (f:α→List β):(List.range l.length).flatMap (fun i=>f (l.getD i d)) = l.flatMap f:=by
 have:l = (List.range l.length).map fun i=>l.getD i d:=by
  refine List.ext_getElem? fun i=>?_
  by_cases hi:i < l.length
  ·rw [List.getElem?_map,List.getElem?_range hi];simp [hi]
  ·rw [List.getElem?_eq_none (by lia),List.getElem?_eq_none (by simp;lia)]
 conv=>rhs;rw [this]
 rw [List.flatMap_map]
theorem range_map {α β:Type}(l:List α) (d:α) (f:α→β):(List.range l.length).map (fun i=>f (l.getD i d)) = l.map f:=by
 refine List.ext_getElem? fun i=>?_
 by_cases hi:i < l.length
 ·rw [List.getElem?_map,List.getElem?_range hi,List.getElem?_map];simp [hi]
 ·rw [List.getElem?_eq_none (by simp;lia),List.getElem?_eq_none (by simp;lia)]
theorem flatMap_filter {α β:Type}(p:α→Bool) (f:α→β):∀ l:List α,(l.flatMap fun a=>if p a then [f a] else []) = (l.filter p).map f
 | []=>rfl
 | a::l=>by
  rw [List.flatMap_cons,List.filter_cons,flatMap_filter p f l]
  cases p a <;> rfl
variable [Wd]
theorem compOut_filter {α:Type}(l:List α) (d:α) (p:α→Bool) (f:α→D) {n:Nat}(hn:n = l.length):compOut (fun i=>p (l.getD i d)) (fun i=>f (l.getD i d)) n = (l.filter p).map f:=by
 subst hn
 unfold compOut
 rw [range_flatMap l d fun a=>if p a then [f a] else []]
 exact flatMap_filter p f l
theorem nestOut_words (rows:List (List Nat)) (sg:List Nat):nestOut (fun _=>(wordL (sg.map fun c=>[c])).length) (fun i j=>.str (S (rows.getD i [] ++ [sg.getD j 0]))) (wordL rows).length = wordL (rows.flatMap fun row=>sg.map fun c=>row ++ [c]):=by
 unfold nestOut
 have h1:(wordL rows).length = rows.length:=by simp
 have h2:(wordL (sg.map fun c=>[c])).length = sg.length:=by simp
 rw [h1,h2]
 have e:∀ i,((List.range sg.length).map fun j=>PyData.str (S (rows.getD i [] ++ [sg.getD j 0]))) = sg.map fun c=>PyData.str (S (rows.getD i [] ++ [c])):=fun i=>range_map sg 0 fun c=>PyData.str (S (rows.getD i [] ++ [c]))
 simp only [e]
 rw [range_flatMap rows [] fun row=>sg.map fun c=>PyData.str (S (row ++ [c]))]
 unfold wordL
 rw [List.map_flatMap]
 simp [List.map_map,Function.comp_def]
section
variable {h₁:Gl}{r:Nat}{sc:Sc}{vars:List (Str × D)}
theorem def17:DefOf (stOf 17) "_law_free" (parOf (stOf 17)) (bodyOf (stOf 17)) (scOf0 (stOf 17)):=⟨⟨_,_,_,_,_,_,rfl⟩,rfl,rfl,rfl⟩
theorem wordL_get {l:List (List Nat)}{i:Nat}{d:D}(h:(wordL l)[i]? = some d):i < l.length∧d = .str (S (l.getD i [])):=by
 unfold wordL at h
 rw [List.getElem?_map] at h
 cases q:l[i]? with
 | none=>rw [q] at h;cases h
 | some x=>
  rw [q] at h;cases h
  obtain ⟨hi,e⟩:=List.getElem?_eq_some_iff.mp q
  refine ⟨hi,?_⟩
  have:l.getD i [] = x:=by simp [q]
  rw [this]
theorem free_turn {rows:List (List Nat)}{sg:List Nat}{vs:List (Str × D)}(hrow:∀ x ∈ rows,x.length ≤ 1000) (hlen:∀ i,i ≤ rows.length→i * sg.length ≤ 2 ^ 18) (hsg:sg.length ≤ 2 ^ 18) (v1:Has vs "rows" (.list (wordL rows))) (v2:Has vs "signs" (.list (wordL (sg.map fun c=>[c])))) :
  SX1 h₁ r (scOf (stOf 17)) vs ((forBody (innOf (stOf 17) 1)).headD (.Pass ⟨0,0,0,0⟩)) (· = .next (("rows",.list (wordL (rows.flatMap fun row=>sg.map fun c=>row ++ [c])))::vs)):=by
 rw [← nestOut_words]
 conv=>arg 5;whnf
 refine SXR1.pure (P:=Rp.nil) (SXR1.assignComp (P':=Rp.nil) rfl (CompOK.nested (fun _=>wordL (sg.map fun c=>[c])) (fun i j=>.str (S (rows.getD i [] ++ [sg.getD j 0]))) (EVI.j (EVI.list (EVP.name v1 rfl))) ?k1 (fun _ _=>rfl) (fun _ _=>rfl) ?k2 ?k3 fun i d hd=>?k4) rfl rfl rfl rfl) Rp.nil_ok
 case k1=>
  refine ⟨rfl,by decide,by decide,?_⟩
  intro z hz
  have hz':z ∈ (["signs"]:List Str):=hz
  rcases ms hz' with rfl
  exact ⟨rfl,rfl,.inl (by rw [v2];rfl)⟩
 case k2=>
  intro i hi
  have hi':i ≤ rows.length:=by simpa using hi
  have e:(nestOut (fun _=>(wordL (sg.map fun c=>[c])).length) (fun i j=>PyData.str (S (rows.getD i [] ++ [sg.getD j 0]))) i).length = i * sg.length:=by
   unfold nestOut
   rw [List.length_flatMap]
   simp [List.map_const']
  rw [e]
  have:=hlen i hi'
  lia
 case k3=>intro i hi;simp;lia
 case k4=>
  obtain ⟨hi,rfl⟩:=wordL_get hd
  refine ⟨_,.name rfl,skip_weak (cvars_none rfl) fun _ _ q=>q,EVI.j (EVI.list (EVP.name ((cvars_has v2 rfl).skip rfl) rfl)),fun j d2 hd2=>?_⟩
  obtain ⟨hj,rfl⟩:=wordL_get hd2
  have hj':j < sg.length:=by simpa using hj
  refine ⟨_,.name rfl,skip_weak ?_ fun _ _ q=>q,?_⟩
  ·rw [lookup_put,if_neg (by decide)];exact cvars_none rfl
  ·have e2:(sg.map fun c=>[c]).getD j [] = [sg.getD j 0]:=by simp [hj']
   rw [e2,← S_append]
   refine EVP.addS (EVP.name (Has.here.skip rfl) rfl) (EVP.name Has.here rfl) ?_
   have h1:=hrow (rows.getD i []) (by simp [hi])
   rw [S_len,S_len]
   simp only [List.length_cons,List.length_nil]
   lia
noncomputable def freeWords (sg one two:List Nat) (R:Nat):List (List Nat):=(freeRows sg R).filter fun row=>!decide (one <:+: row) && !decide (two <:+: row)
theorem free_last {rows:List (List Nat)}{one two:List Nat}{vs:List (Str × D)}(hl:rows.length ≤ 2 ^ 20) (v1:Has vs "rows" (.list (wordL rows))) (v2:Has vs "one" (.str (S one))) (v3:Has vs "two" (.str (S two))) :
  EVP h₁ r (scOf (stOf 17)) vs (retE (innOf (stOf 17) 2)) (.list (wordL (rows.filter fun row=>!decide (one <:+: row) && !decide (two <:+: row)))):=by
 have e:wordL (rows.filter fun row=>!decide (one <:+: row) && !decide (two <:+: row)) = compOut (fun i=>!decide (one <:+: rows.getD i []) && !decide (two <:+: rows.getD i [])) (fun i=>.str (S (rows.getD i []))) (wordL rows).length:=by
  rw [compOut_filter rows [] (fun row=>!decide (one <:+: row) && !decide (two <:+: row)) (fun x=>.str (S x)) (by simp)]
 rw [e]
 conv=>arg 5;whnf
 refine EVR.pure (P:=Rp.nil) (P':=Rp.nil) (EVR.listcomp rfl (CompOK.list (fun i=>!decide (one <:+: rows.getD i []) && !decide (two <:+: rows.getD i [])) (fun i=>.str (S (rows.getD i []))) (fun _=>Rp.nil) (EVI.j (EVI.list (EVP.name v1 rfl))) ?k1 (by simpa using hl) (fun _ _=>rfl) fun i d hd=>?k2)) Rp.nil_ok
 case k1=>
  refine ⟨rfl,by decide,by decide,?_⟩
  exact fm ⟨rfl,rfl,.inl (by rw [v2];rfl)⟩ (fm ⟨rfl,rfl,.inl (by rw [v3];rfl)⟩ fn)
 case k2=>
  obtain ⟨hi,rfl⟩:=wordL_get hd
  refine ⟨_,.name rfl,skip_weak (cvars_none rfl) fun _ _ q=>q,.inr ⟨_,rfl,?_⟩,fun _=>rfl,fun _=>EVP.re (EVP.name Has.here rfl)⟩
  rw [← contS,← contS]
  exact TSP.and2 (TSP.cmp (EVP.name ((cvars_has v2 rfl).skip rfl) rfl) (EVP.name Has.here rfl) COp.ninS) fun _=>TSP.cmp (EVP.name ((cvars_has v3 rfl).skip rfl) rfl) (EVP.name Has.here rfl) COp.ninS
theorem free_ok {sg one two:List Nat}{R:Nat}(hR:R ≤ 100) (hn:∀ k,k ≤ R→(freeRows sg k).length ≤ 1000) (hsg:sg.length ≤ 100) :
  CallOK h₁ 40 (.ref 134) [.list (wordL (sg.map fun c=>[c])),.str (S one),.str (S two),.int (R:Int)] (.list (wordL (freeWords sg one two R))):=by
 refine CallOK.of_defC (r:=39) (xs:=["signs", "one", "two", "rounds"]) Top1.fFree def17 ?_ ?_ ?_
 ·intro m vs hl
  refine ex40 (len4 hl) fun _ _ _ _ zq1=>?_;subst zq1
  rfl
 ·exact fm (.inr rfl) (fm (.inr rfl) (fm (.inr rfl) (fm (.inl rfl) fn)))
 ·obtain ⟨vs,hvs⟩:∃ vs:List (Str × D),vs = [((("rounds":Str)),PyData.int (R:Int)),("two",.str (S two)),("one",.str (S one)),("signs",.list (wordL (sg.map fun c=>[c])))]:=⟨_,rfl⟩
  have v1:Has vs "signs" (.list (wordL (sg.map fun c=>[c]))):=by rw [hvs];exact ((Has.here.skip rfl).skip rfl).skip rfl
  have v2:Has vs "one" (.str (S one)):=by rw [hvs];exact (Has.here.skip rfl).skip rfl
  have v3:Has vs "two" (.str (S two)):=by rw [hvs];exact Has.here.skip rfl
  have v4:Has vs "rounds" (.int (R:Int)):=by rw [hvs];exact Has.here
  show SX h₁ 39 (scOf (stOf 17)) [((("rounds":Str)),PyData.int (R:Int)),("two",.str (S two)),("one",.str (S one)),("signs",.list (wordL (sg.map fun c=>[c])))] (bodyOf (stOf 17)) _
  rw [← hvs]
  clear hvs
  have hb:bodyOf (stOf 17) = innOf (stOf 17) 0::innOf (stOf 17) 1::[innOf (stOf 17) 2]:=rfl
  rw [hb]
  refine SX.step (vs:=("rows",.list (wordL [[]]))::vs) ?k1 (SXR.pure (P:=Rp.nil) ?k2 Rp.nil_ok)
  case k1=>
   conv=>arg 5;whnf
   exact SX1.assign (EVP.list (EVS.cons EVP.const_str EVS.nil) (by simp)) (.inl rfl)
  case k2=>
   refine g5v (innOf (stOf 17) 1) (F:=fun p1 p2 p3 p4 p5=>.For (.Name "turn" p1) (.Call (.Name "range" p2) [.Name "rounds" p3] [] p4) [(forBody (innOf (stOf 17) 1)).headD (.Pass ⟨0,0,0,0⟩)] [] p5) _ _ _ _ _ rfl fun p1 p2 p3 p4 p5 hf=>?_
   rw [hf]
   refine SXR.for_ (items:=rangeL 0 R) (EVI.j (EVI.range1 (EVP.name (v4.skip rfl) rfl) (by lia) rfl)) (fun i vs P=>Has vs "rows" (.list (wordL (freeRows sg i)))∧Has vs "signs" (.list (wordL (sg.map fun c=>[c])))∧Has vs "one" (.str (S one))∧Has vs "two" (.str (S two))) ?k3 ?k4 ⟨Has.here,v1.skip rfl,v2.skip rfl,v3.skip rfl⟩ (fun _ _=>rfl)
   case k3=>
    intro i d vs P hd zq
    refine ex03 zq fun w1 w2 w3 w4=>?_
    have hi:i < R:=by
     have:=(List.getElem?_eq_some_iff.mp hd).1
     rw [rangeL_len] at this;lia
    refine ⟨_,.name (.inl rfl),?_⟩
    refine SXR.pure1 (free_turn (fun x hx=>by rw [freeRows_len sg i x hx];lia) (fun j hj=>?_) (by lia) (w1.skip rfl) (w2.skip rfl)) (SXR.nil (.inl ⟨_,.inl rfl,Has.here,(w2.skip rfl).skip rfl,(w3.skip rfl).skip rfl,(w4.skip rfl).skip rfl⟩))
    have h1:=hn i (by lia)
    calc j * sg.length ≤ 1000 * 100:=Nat.mul_le_mul (by lia) hsg
     _ ≤ 2 ^ 18:=by decide
   case k4=>
    intro vs P zq
    refine ex03 zq fun w1 w2 w3 w4=>?_
    rw [rangeL_len,Nat.sub_zero] at w1
    obtain ⟨p6,hr⟩:∃ p6,innOf (stOf 17) 2 = .Return (some (retE (innOf (stOf 17) 2))) p6:=⟨_,rfl⟩
    rw [hr]
    exact SXR.ret (P':=P) (EVP.re (free_last (by have:=hn R (Nat.le_refl _);lia) w1 w3 w4)) (.inl rfl)
end
end Mine
namespace Mine
noncomputable def cn (sg:List Nat) (n:Nat) (P:List Nat→Bool):Nat:=(freeRows sg n).countP P
theorem sum_map_add (g h:Nat→Nat):∀ l:List Nat,(l.map fun c=>g c + h c).sum = (l.map g).sum + (l.map h).sum
 | []=>rfl
 | c::l=>by simp only [List.map_cons,List.sum_cons,sum_map_add g h l];lia
theorem countP_sgn (P:List Nat→Bool) (row:List Nat):∀ sg:List Nat,(sg.map fun c=>row ++ [c]).countP P = (sg.map fun c=>if P (row ++ [c]) then 1 else 0).sum
 | []=>rfl
 | c::l=>by
  rw [List.map_cons,List.map_cons,List.sum_cons,List.countP_cons,countP_sgn P row l];lia
theorem cn_succ (sg:List Nat) (n:Nat) (P:List Nat→Bool):cn sg (n + 1) P = (sg.map fun c=>cn sg n fun w=>P (w ++ [c])).sum:=by
 unfold cn
 rw [freeRows]
 generalize freeRows sg n = rows
 induction rows with
 | nil=>
  simp only [List.flatMap_nil,List.countP_nil]
  induction sg with
  | nil=>rfl
  | cons c l ih=>rw [List.map_cons,List.sum_cons,← ih]
 | cons row rows ih=>
  rw [List.flatMap_cons,List.countP_append,ih,countP_sgn,← sum_map_add]
  congr 1
  refine List.map_congr_left fun c _=>?_
  rw [List.countP_cons];lia
theorem sum_zero {g:Nat→Nat}:∀ {l:List Nat},(∀ c ∈ l,g c = 0)→(l.map g).sum = 0
 | [],_=>rfl
 | c::l,h=>by rw [List.map_cons,List.sum_cons,h c (.head _),sum_zero fun d hd=>h d (.tail _ hd)]
theorem sum_single {g:Nat→Nat}{c:Nat}:∀ {l:List Nat},l.Nodup→c ∈ l→(∀ d,d ≠ c→g d = 0)→(l.map g).sum = g c
 | [],_,h,_=>by cases h
 | d::l,hn,hc,h=>by
  rw [List.nodup_cons] at hn
  rw [List.map_cons,List.sum_cons]
  by_cases e:d = c
  ·subst e
   rw [sum_zero fun x hx=>h x fun q=>hn.1 (q ▸ hx)];rfl
  ·rw [h d e,Nat.zero_add]
   exact sum_single hn.2 ((List.mem_cons.mp hc).resolve_left fun q=>e q.symm) h
theorem cn_congr {sg:List Nat}{n:Nat}{P Q:List Nat→Bool}(h:∀ w,w.length = n→P w = Q w):cn sg n P = cn sg n Q:=
 List.countP_congr fun w hw=>by rw [h w (freeRows_len sg n w hw)]
theorem cn_add {sg:List Nat}{n:Nat}{P Q R:List Nat→Bool}(h:∀ w,w.length = n→(P w).toNat = (Q w).toNat + (R w).toNat):cn sg n P = cn sg n Q + cn sg n R:=by
 unfold cn
 have h':∀ w ∈ freeRows sg n,(P w).toNat = (Q w).toNat + (R w).toNat:=fun w hw=>h w (freeRows_len sg n w hw)
 generalize freeRows sg n = rows at h'
 induction rows with
 | nil=>rfl
 | cons w rows ih=>
  have e:=ih fun x hx=>h' x (.tail _ hx)
  have e2:=h' w (.head _)
  rw [List.countP_cons,List.countP_cons,List.countP_cons]
  cases hp:P w <;> cases hq:Q w <;> cases hr:R w <;> simp [hp,hq,hr] at e2 ⊢ <;> lia
theorem cn_none {sg:List Nat}{n:Nat}{P:List Nat→Bool}(h:∀ w,w.length = n→P w = false):cn sg n P = 0:=by
 unfold cn
 exact List.countP_eq_zero.mpr fun w hw=>by rw [h w (freeRows_len sg n w hw)];simp
theorem cn_last {sg:List Nat}{n:Nat}{P:List Nat→Bool}{c:Nat}(hn:sg.Nodup) (hc:c ∈ sg) (h:∀ w d,P (w ++ [d]) = true→d = c):cn sg (n + 1) P = cn sg n fun w=>P (w ++ [c]):=by
 rw [cn_succ]
 refine sum_single hn hc fun d hd=>cn_none fun w _=>?_
 cases q:P (w ++ [d]) with
 | false=>rfl
 | true=>exact absurd (h w d q) hd
theorem suf_last {p z:List Nat}{c d:Nat}(h:c::p <:+ z ++ [d] ++ p):d = c:=by
 obtain ⟨t,e⟩:=h
 have e':(t ++ [c]) ++ p = (z ++ [d]) ++ p:=by simpa using e
 have:=List.append_cancel_right e'
 have:=List.append_inj_right' this rfl
 simpa using this.symm
theorem cn_tail {sg:List Nat}(hn:sg.Nodup):∀ {p:List Nat}{n:Nat}{P:List Nat→Bool},(∀ c ∈ p,c ∈ sg)→(∀ z,P z = true→p <:+ z)→cn sg (n + p.length) P = cn sg n fun w=>P (w ++ p)
 | [],n,P,_,_=>by simp
 | c::p,n,P,hp,h=>by
  have e:n + (c::p).length = (n + 1) + p.length:=by simp only [List.length_cons];lia
  rw [e,cn_tail hn (fun d hd=>hp d (.tail _ hd)) fun z hz=>(List.suffix_cons c p).trans (h z hz),cn_last hn (hp c (.head _)) fun w d hd=>suf_last (h _ hd)]
  refine cn_congr fun w _=>?_
  rw [List.append_assoc];rfl
noncomputable def fre (u v w:List Nat):Bool:=!decide (u <:+: w) && !decide (v <:+: w)
noncomputable def winB (u v x z:List Nat):Bool:=fre u v z.dropLast && decide (x <:+ z)
noncomputable def fN (sg u v:List Nat) (n:Nat):Nat:=cn sg n (fre u v)
noncomputable def wN (sg u v x:List Nat) (n:Nat):Nat:=cn sg n (winB u v x)
theorem infix_snoc {x w:List Nat}{c:Nat}:x <:+: w ++ [c] ↔ x <:+: w ∨ x <:+ w ++ [c]:=by
 rw [List.infix_concat_iff];exact Or.comm
structure UV (u v:List Nat):Prop where
 len:u.length = v.length
 ne:u ≠ v
 pos:u ≠ []
theorem UV.pos' {u v:List Nat}(h:UV u v):v ≠ []:=fun e=>h.pos (List.eq_nil_of_length_eq_zero (by rw [h.len,e];rfl))
theorem UV.not {u v z:List Nat}(h:UV u v) (h1:u <:+ z) (h2:v <:+ z):False:=by
 rw [List.suffix_iff_eq_drop] at h1 h2
 exact h.ne (by rw [h1,h2,h.len])
theorem one_more {u v w:List Nat}{c:Nat}(h:UV u v):(fre u v w).toNat = (fre u v (w ++ [c])).toNat + ((fre u v w && decide (u <:+ w ++ [c])).toNat + (fre u v w && decide (v <:+ w ++ [c])).toNat):=by
 have i1:=infix_snoc (x:=u) (w:=w) (c:=c)
 have i2:=infix_snoc (x:=v) (w:=w) (c:=c)
 have h3:¬ (u <:+ w ++ [c]∧v <:+ w ++ [c]):=fun q=>h.not q.1 q.2
 unfold fre
 by_cases a1:u <:+: w <;> by_cases a2:v <:+: w <;> by_cases a3:u <:+ w ++ [c] <;> by_cases a4:v <:+ w ++ [c] <;> simp_all
theorem winB_snoc {u v x w:List Nat}{c:Nat}:winB u v x (w ++ [c]) = (fre u v w && decide (x <:+ w ++ [c])):=by
 unfold winB;rw [List.dropLast_concat]
theorem snoc_of {z:List Nat}{n:Nat}(h:z.length = n + 1):∃ w c,z = w ++ [c]∧w.length = n:=by
 have hz:z ≠ []:=fun e=>by rw [e] at h;cases h
 exact ⟨z.dropLast,z.getLast hz,(List.dropLast_concat_getLast hz).symm,by rw [List.length_dropLast];lia⟩
theorem all_next {sg u v:List Nat}(h:UV u v) (n:Nat):sg.length * fN sg u v n = fN sg u v (n + 1) + (wN sg u v u (n + 1) + wN sg u v v (n + 1)):=by
 unfold fN wN
 rw [← cn_add (P:=fun z=>winB u v u z || winB u v v z),← cn_add (P:=fun z=>fre u v z.dropLast)]
 ·rw [cn_succ]
  have:∀ l:List Nat,l.length * cn sg n (fre u v) = (l.map fun c=>cn sg n fun w=>fre u v (w ++ [c]).dropLast).sum:=by
   intro l
   induction l with
   | nil=>simp
   | cons c l ih=>
    rw [List.map_cons,List.sum_cons,← ih,List.length_cons,Nat.succ_mul]
    have:(cn sg n fun w=>fre u v (w ++ [c]).dropLast) = cn sg n (fre u v):=cn_congr fun w _=>by rw [List.dropLast_concat]
    lia
  exact this sg
 ·intro z hz
  refine ex21 (snoc_of hz) fun w c zq1 _=>?_;subst zq1
  have:=one_more (w:=w) (c:=c) h
  rw [List.dropLast_concat,winB_snoc,winB_snoc]
  have h3:¬ (u <:+ w ++ [c]∧v <:+ w ++ [c]):=fun q=>h.not q.1 q.2
  rw [this]
  by_cases a3:u <:+ w ++ [c] <;> by_cases a4:v <:+ w ++ [c] <;> simp_all
 ·intro z hz
  refine ex21 (snoc_of hz) fun w c zq1 _=>?_;subst zq1
  rw [winB_snoc,winB_snoc]
  have h3:¬ (u <:+ w ++ [c]∧v <:+ w ++ [c]):=fun q=>h.not q.1 q.2
  by_cases a3:u <:+ w ++ [c] <;> by_cases a4:v <:+ w ++ [c] <;> simp_all
noncomputable def ovb (t x:List Nat) (i:Nat):Nat:=if t.take (i + 1) <:+ x then 1 else 0
theorem part_win {sg u v t x:List Nat}(hn:sg.Nodup) (ht:∀ c ∈ t,c ∈ sg) (hl:t.length = x.length) (n i:Nat) (hi:i < t.length) :
  (cn sg n fun w=>fre u v (w ++ t.take i) && decide (x <:+ w ++ t.take (i + 1))) = ovb t x i * wN sg u v x (n + i + 1):=by
 have e1:t.take (i + 1) = t.take i ++ [t[i]]:=by rw [List.take_add_one,List.getElem?_eq_getElem hi];rfl
 have hlen:(t.take (i + 1)).length = i + 1:=by rw [List.length_take];lia
 unfold ovb
 by_cases h:t.take (i + 1) <:+ x
 ·rw [if_pos h,Nat.one_mul]
  unfold wN
  have e2:n + i + 1 = n + (t.take (i + 1)).length:=by rw [hlen];lia
  rw [e2,cn_tail hn (fun c hc=>ht c (List.mem_of_mem_take hc)) fun z hz=>?_]
  ·refine cn_congr fun w _=>?_
   rw [e1,← List.append_assoc,winB_snoc]
  ·unfold winB at hz
   rw [Bool.and_eq_true,decide_eq_true_iff] at hz
   exact h.trans hz.2
 ·rw [if_neg h,Nat.zero_mul]
  refine cn_none fun w _=>?_
  rw [Bool.and_eq_false_iff]
  right
  rw [decide_eq_false_iff_not]
  intro q
  refine h (List.suffix_of_suffix_length_le (List.suffix_append w _) q ?_)
  rw [hlen];lia
noncomputable def sm (g:Nat→Nat):Nat→Nat
 | 0=>0
 | n + 1=>sm g n + g n
theorem along {sg u v t:List Nat}(hn:sg.Nodup) (h:UV u v) (ht:∀ c ∈ t,c ∈ sg) (hl:t.length = u.length) (ht2:t = u ∨ t = v) (n:Nat) :
  fN sg u v n = sm (fun i=>ovb t u i * wN sg u v u (n + i + 1) + ovb t v i * wN sg u v v (n + i + 1)) t.length:=by
 have step:∀ i,i < t.length→(cn sg n fun w=>fre u v (w ++ t.take i)) = (cn sg n fun w=>fre u v (w ++ t.take (i + 1))) + (ovb t u i * wN sg u v u (n + i + 1) + ovb t v i * wN sg u v v (n + i + 1)):=by
  intro i hi
  have e1:t.take (i + 1) = t.take i ++ [t[i]]:=by rw [List.take_add_one,List.getElem?_eq_getElem hi];rfl
  rw [← part_win hn ht hl n i hi,← part_win hn ht (hl.trans h.len) n i hi,
   ← cn_add (P:=fun w=>(fre u v (w ++ t.take i) && decide (u <:+ w ++ t.take (i + 1))) || (fre u v (w ++ t.take i) && decide (v <:+ w ++ t.take (i + 1)))),
   ← cn_add (P:=fun w=>fre u v (w ++ t.take i))]
  ·intro w _
   have:=one_more (w:=w ++ t.take i) (c:=t[i]) h
   rw [List.append_assoc,← e1] at this
   have h3:¬ (u <:+ w ++ t.take (i + 1)∧v <:+ w ++ t.take (i + 1)):=fun q=>h.not q.1 q.2
   rw [this]
   by_cases a3:u <:+ w ++ t.take (i + 1) <;> by_cases a4:v <:+ w ++ t.take (i + 1) <;> simp_all
  ·intro w _
   have h3:¬ (u <:+ w ++ t.take (i + 1)∧v <:+ w ++ t.take (i + 1)):=fun q=>h.not q.1 q.2
   by_cases a3:u <:+ w ++ t.take (i + 1) <;> by_cases a4:v <:+ w ++ t.take (i + 1) <;> simp_all
 have all:∀ j,j ≤ t.length→fN sg u v n = (cn sg n fun w=>fre u v (w ++ t.take j)) + sm (fun i=>ovb t u i * wN sg u v u (n + i + 1) + ovb t v i * wN sg u v v (n + i + 1)) j:=by
  intro j
  induction j with
  | zero=>intro _;simp [sm,fN]
  | succ j ih=>
   intro hj
   rw [ih (by lia),step j (by lia),sm];lia
 have last:(cn sg n fun w=>fre u v (w ++ t.take t.length)) = 0:=by
  refine cn_none fun w _=>?_
  rw [List.take_length]
  have:t <:+: w ++ t:=(List.suffix_append w t).isInfix
  unfold fre
  rcases ht2 with rfl | rfl <;> simp [this]
 rw [all t.length (Nat.le_refl _),last,Nat.zero_add]
theorem cn_le (sg:List Nat) (n:Nat) (P:List Nat→Bool):cn sg n P ≤ sg.length ^ n:=by
 unfold cn
 refine Nat.le_trans List.countP_le_length ?_
 induction n with
 | zero=>simp [freeRows]
 | succ n ih=>
  have:∀ l:List (List Nat),(l.flatMap fun row=>sg.map fun c=>row ++ [c]).length = l.length * sg.length:=by
   intro l
   induction l with
   | nil=>simp
   | cons a l ih=>rw [List.flatMap_cons,List.length_append,ih];simp [Nat.add_mul];lia
  rw [freeRows,this,Nat.pow_succ]
  exact Nat.mul_le_mul_right _ ih
theorem win_short {sg u v x:List Nat}{n:Nat}(h:n < x.length):wN sg u v x n = 0:=by
 refine cn_none fun w hw=>?_
 unfold winB
 rw [Bool.and_eq_false_iff]
 right
 rw [decide_eq_false_iff_not]
 intro q
 have:=q.length_le
 lia
theorem free_zero {sg u v:List Nat}(h:UV u v):fN sg u v 0 = 1:=by
 have h1:¬ u <:+: []:=fun q=>h.pos (List.infix_nil.mp q)
 have h2:¬ v <:+: []:=fun q=>h.pos' (List.infix_nil.mp q)
 simp [fN,cn,freeRows,fre,h1,h2]
end Mine
namespace Mine
noncomputable def hor (q:Nat) (g:Nat→Nat):Nat→Nat
 | 0=>g 0
 | n + 1=>q * hor q g n + g (n + 1)
theorem hor_congr {q:Nat}{g h:Nat→Nat}(e:∀ n,g n = h n):∀ n,hor q g n = hor q h n
 | 0=>e 0
 | n + 1=>by rw [hor,hor,hor_congr e n,e]
theorem hor_add (q:Nat) (g h:Nat→Nat):∀ n,hor q (fun m=>g m + h m) n = hor q g n + hor q h n
 | 0=>rfl
 | n + 1=>by rw [hor,hor,hor,hor_add q g h n,Nat.mul_add];lia
theorem hor_mul (q c:Nat) (g:Nat→Nat):∀ n,hor q (fun m=>c * g m) n = c * hor q g n
 | 0=>rfl
 | n + 1=>by rw [hor,hor,hor_mul q c g n,Nat.mul_add,Nat.mul_left_comm]
theorem hor_sm (q:Nat) (g:Nat→Nat→Nat) (n:Nat):∀ l,hor q (fun m=>sm (g m) l) n = sm (fun i=>hor q (fun m=>g m i) n) l
 | 0=>by
  show hor q (fun _=>0) n = 0
  induction n with
  | zero=>rfl
  | succ n ih=>rw [hor,ih];simp
 | l + 1=>by
  show hor q (fun m=>sm (g m) l + g m l) n = _
  rw [hor_add,hor_sm q g n l];rfl
theorem hor_low {q:Nat}{a:Nat→Nat}:∀ {i:Nat},(∀ m,m < i→a m = 0)→hor q a i = a i
 | 0,_=>rfl
 | i + 1,h=>by rw [hor,hor_low fun m hm=>h m (by lia),h i (by lia)];simp
theorem hor_shift {q:Nat}{a:Nat→Nat}{i:Nat}(h:∀ m,m < i→a m = 0):∀ n,hor q (fun m=>a (m + i)) n = hor q a (n + i)
 | 0=>by rw [Nat.zero_add,hor_low h,hor,Nat.zero_add]
 | n + 1=>by
  rw [hor,hor_shift h n,Nat.add_right_comm n 1 i,hor]
noncomputable def tailE (q:Nat) (a:Nat→Nat) (n:Nat):Nat→Nat
 | 0=>0
 | i + 1=>q * tailE q a n i + a (n + i + 1)
theorem hor_tail (q:Nat) (a:Nat→Nat) (n:Nat):∀ i,hor q a (n + i) = q ^ i * hor q a n + tailE q a n i
 | 0=>by simp [tailE]
 | i + 1=>by
  show hor q a (n + i + 1) = _
  rw [hor,hor_tail q a n i,tailE,Nat.mul_add,Nat.pow_succ,Nat.mul_comm (q ^ i) q,Nat.mul_assoc];lia
noncomputable def Bdd (k:Nat) (x:Nat→Int):Prop:=∃ C:Nat,∀ n,x n ≤ ((C * k ^ n:Nat):Int)∧-x n ≤ ((C * k ^ n:Nat):Int)
theorem Bdd.add {k:Nat}{x y:Nat→Int}:Bdd k x→Bdd k y→Bdd k fun n=>x n + y n
 | ⟨C,hx⟩,⟨D,hy⟩=>⟨C + D,fun n=>by have:=hx n;have:=hy n;rw [Nat.add_mul];dsimp only;lia⟩
theorem Bdd.neg {k:Nat}{x:Nat→Int}:Bdd k x→Bdd k fun n=>-x n
 | ⟨C,hx⟩=>⟨C,fun n=>by have:=hx n;dsimp only;lia⟩
theorem Bdd.sub {k:Nat}{x y:Nat→Int}(hx:Bdd k x) (hy:Bdd k y):Bdd k fun n=>x n - y n:=hx.add hy.neg
theorem Bdd.mulN {k:Nat}(c:Nat) {x:Nat→Int}:Bdd k x→Bdd k fun n=>(c:Int) * x n
 | ⟨C,hx⟩=>⟨c * C,fun n=>by
  obtain ⟨h1,h2⟩:=hx n
  have e1:=Int.mul_le_mul_of_nonneg_left h1 (Int.natCast_nonneg c)
  have e2:=Int.mul_le_mul_of_nonneg_left h2 (Int.natCast_nonneg c)
  rw [Int.mul_neg] at e2
  rw [Nat.mul_assoc,Int.natCast_mul c]
  exact ⟨e1,e2⟩⟩
theorem Bdd.mul {k:Nat}(c:Int) {x:Nat→Int}(hx:Bdd k x):Bdd k fun n=>c * x n:=by
 rcases Int.le_total 0 c with h | h
 ·obtain ⟨m,rfl⟩:=Int.eq_ofNat_of_zero_le h
  exact hx.mulN m
 ·obtain ⟨m,e⟩:=Int.eq_ofNat_of_zero_le (show 0 ≤ -c by lia)
  have:c = -(m:Int):=by lia
  subst this
  have:=(hx.mulN m).neg
  simpa [Int.neg_mul] using this
theorem Bdd.congr {k:Nat}{x y:Nat→Int}(e:∀ n,y n = x n):Bdd k x→Bdd k y
 | ⟨C,hx⟩=>⟨C,fun n=>by rw [e];exact hx n⟩
theorem Bdd.div {k c:Nat}(hc:0 < c) {x:Nat→Int}:(Bdd k fun n=>(c:Int) * x n)→Bdd k x
 | ⟨C,hx⟩=>⟨C,fun n=>by
  obtain ⟨h1,h2⟩:=hx n
  dsimp only at h1 h2
  have hb:(0:Int) ≤ ((C * k ^ n:Nat):Int):=Int.natCast_nonneg _
  generalize ((C * k ^ n:Nat):Int) = b at *
  rcases Int.le_total 0 (x n) with h | h
  ·have:=Int.mul_le_mul_of_nonneg_right (show (1:Int) ≤ (c:Int) by lia) h
   lia
  ·have:=Int.mul_le_mul_of_nonneg_right (show (1:Int) ≤ (c:Int) by lia) (show 0 ≤ -x n by lia)
   simp only [Int.mul_neg] at this
   lia⟩
theorem Bdd.of {k:Nat}{g:Nat→Nat}{C:Nat}(h:∀ n,g n ≤ C * k ^ n):Bdd k fun n=>(g n:Int):=⟨C,fun n=>by have:=h n;dsimp only;lia⟩
theorem Bdd.pow {k:Nat}(i:Nat) {a:Nat→Nat}(h:∀ n,a n ≤ k ^ n):Bdd k fun n=>(a (n + i):Int):=
 Bdd.of (C:=k ^ i) fun n=>by rw [← Nat.pow_add,Nat.add_comm i n];exact h _
theorem Bdd.tail {k:Nat}(q:Nat) {a:Nat→Nat}(h:∀ n,a n ≤ k ^ n):∀ i,Bdd k fun n=>(tailE q a n i:Int)
 | 0=>Bdd.of (C:=0) fun n=>by simp [tailE]
 | i + 1=>((Bdd.tail q h i).mulN q |>.add (Bdd.pow (i + 1) h)).congr fun n=>by
  rw [tailE,Int.natCast_add,Int.natCast_mul];rfl
theorem Bdd.sm {k:Nat}{g:Nat→Nat→Nat}(h:∀ i,Bdd k fun n=>(g n i:Int)):∀ l,Bdd k fun n=>(sm (g n) l:Int)
 | 0=>Bdd.of (C:=0) fun n=>by simp [Mine.sm]
 | l + 1=>((Bdd.sm h l).add (h l)).congr fun n=>by rw [Mine.sm,Int.natCast_add]
theorem grow {k q:Nat}{x:Nat→Int}(hk:1 ≤ k) (hq:2 * k ≤ q) (hb:Bdd k x) (hx:∀ n,(q:Int) * x n ≤ x (n + 1)) (n:Nat):x n ≤ 0:=by
 obtain ⟨C,hC⟩:=hb
 by_cases h:x n ≤ 0
 ·exact h
 ·exfalso
  have hj:∀ j,((q ^ j:Nat):Int) ≤ x (n + j):=by
   intro j
   induction j with
   | zero=>simp;lia
   | succ j ih=>
    refine Int.le_trans ?_ (hx (n + j))
    rw [Nat.pow_succ,Nat.mul_comm,Int.natCast_mul]
    exact Int.mul_le_mul_of_nonneg_left ih (Int.natCast_nonneg q)
  have h1:=hj (C * k ^ n)
  have h2:=(hC (n + C * k ^ n)).1
  generalize hJ:C * k ^ n = J at h1 h2
  have h3:q ^ J ≤ C * k ^ (n + J):=by lia
  have h4:(2 * k) ^ J ≤ q ^ J:=Nat.pow_le_pow_left hq J
  rw [Nat.mul_pow] at h4
  rw [Nat.pow_add,← Nat.mul_assoc,hJ] at h3
  have h5:2 ^ J * k ^ J ≤ J * k ^ J:=Nat.le_trans h4 h3
  have h6:=Nat.le_of_mul_le_mul_right h5 (Nat.pow_pos hk)
  have h7:=@Nat.lt_two_pow_self J
  lia
theorem rests {k q:Nat}{un:Nat}{x:Nat→Int}{g:Nat→Nat}(hk:1 ≤ k) (hq:2 * k ≤ q) (hb:Bdd k x) (hg:∀ n,g n ≤ k ^ n) (hx:∀ n,x (n + 1) = (q:Int) * x n - (un:Int) * (g (n + 1):Int)) (n:Nat) :
  0 ≤ x n∧((q:Int) - (k:Int)) * x n ≤ (un:Int) * ((k ^ (n + 1):Nat):Int):=by
 constructor
 ·have:=grow (x:=fun n=>-x n) hk hq hb.neg (fun n=>by
   rw [hx n,Int.mul_neg]
   have:(0:Int) ≤ (un:Int) * (g (n + 1):Int):=Int.mul_nonneg (Int.natCast_nonneg _) (Int.natCast_nonneg _)
   lia) n
  lia
 ·have:=grow (x:=fun n=>((q:Int) - (k:Int)) * x n - (un:Int) * ((k ^ (n + 1):Nat):Int)) hk hq
   ((hb.mul _).sub (Bdd.mulN un ((Bdd.of (g:=fun n=>k ^ (n + 1)) (C:=k) fun n=>by rw [Nat.pow_succ,Nat.mul_comm];exact Nat.le_refl _)))) (fun n=>by
    have h1:((g (n + 1):Nat):Int) ≤ ((k ^ (n + 1):Nat):Int):=Int.ofNat_le.mpr (hg (n + 1))
    have h2:(0:Int) ≤ ((q:Int) - (k:Int)) * (un:Int) * (((k ^ (n + 1):Nat):Int) - (g (n + 1):Int)):=Int.mul_nonneg (Int.mul_nonneg (by lia) (Int.natCast_nonneg _)) (by lia)
    have e:((k ^ (n + 1 + 1):Nat):Int) = (k:Int) * ((k ^ (n + 1):Nat):Int):=by rw [Nat.pow_succ _ (n + 1),Nat.mul_comm,Int.natCast_mul]
    rw [hx n,e]
    generalize ((k ^ (n + 1):Nat):Int) = K at *
    generalize (g (n + 1):Int) = G at *
    grind) n
  lia
end Mine
namespace Mine
theorem sm_congr {g h:Nat→Nat}:∀ {l:Nat},(∀ i,i < l→g i = h i)→sm g l = sm h l
 | 0,_=>rfl
 | l + 1,e=>by rw [sm,sm,sm_congr fun i hi=>e i (by lia),e l (by lia)]
theorem sm_add (g h:Nat→Nat):∀ l,sm (fun i=>g i + h i) l = sm g l + sm h l
 | 0=>rfl
 | l + 1=>by rw [sm,sm,sm,sm_add g h l];lia
theorem sm_mul (c:Nat) (g:Nat→Nat):∀ l,sm (fun i=>c * g i) l = c * sm g l
 | 0=>rfl
 | l + 1=>by rw [sm,sm,sm_mul c g l,Nat.mul_add]
noncomputable def ovS (q:Nat) (x t:List Nat):Nat:=sm (fun i=>ovb t x i * q ^ i) t.length
noncomputable def errS (q:Nat) (u v t:List Nat) (a b:Nat→Nat) (n:Nat):Nat:=sm (fun i=>ovb t u i * tailE q a n (i + 1) + ovb t v i * tailE q b n (i + 1)) t.length
theorem hor_along {q:Nat}{u v t:List Nat}{f a b:Nat→Nat}(hf:∀ n,f n = sm (fun i=>ovb t u i * a (n + i + 1) + ovb t v i * b (n + i + 1)) t.length) (ha:∀ m,m < t.length→a m = 0) (hb:∀ m,m < t.length→b m = 0) (n:Nat) :
  hor q f n = q * ovS q u t * hor q a n + q * ovS q v t * hor q b n + errS q u v t a b n:=by
 rw [hor_congr hf,hor_sm q (fun m i=>ovb t u i * a (m + i + 1) + ovb t v i * b (m + i + 1)) n]
 unfold ovS errS
 rw [← sm_mul,← sm_mul,Nat.mul_comm _ (hor q a n),Nat.mul_comm _ (hor q b n),← sm_mul,← sm_mul,← sm_add,← sm_add]
 refine sm_congr fun i hi=>?_
 rw [hor_add,hor_mul q _ (fun m=>a (m + i + 1)),hor_mul q _ (fun m=>b (m + i + 1))]
 have e1:=hor_shift (q:=q) (a:=a) (i:=i + 1) (fun m hm=>ha m (by lia)) n
 have e2:=hor_shift (q:=q) (a:=b) (i:=i + 1) (fun m hm=>hb m (by lia)) n
 rw [hor_tail] at e1 e2
 show ovb t u i * hor q (fun m=>a (m + (i + 1))) n + ovb t v i * hor q (fun m=>b (m + (i + 1))) n = _
 rw [e1,e2,Nat.pow_succ]
 grind
structure Cw (k q:Nat) (u v:List Nat) (f a b:Nat→Nat):Prop where
 uv:UV u v
 k1:1 ≤ k
 q2:2 * k ≤ q
 f0:f 0 = 1
 next:∀ n,k * f n = f (n + 1) + (a (n + 1) + b (n + 1))
 fu:∀ n,f n = sm (fun i=>ovb u u i * a (n + i + 1) + ovb u v i * b (n + i + 1)) u.length
 fv:∀ n,f n = sm (fun i=>ovb v u i * a (n + i + 1) + ovb v v i * b (n + i + 1)) v.length
 a0:∀ m,m < u.length→a m = 0
 b0:∀ m,m < v.length→b m = 0
 fk:∀ n,f n ≤ k ^ n
 ak:∀ n,a n ≤ k ^ n
 bk:∀ n,b n ≤ k ^ n
section
variable {k q:Nat}{u v:List Nat}{f a b:Nat→Nat}
theorem Cw.one (C:Cw k q u v f a b):∀ n,(q - k) * hor q f n + q * hor q a n + q * hor q b n + k * f n = q ^ (n + 1)
 | 0=>by
  have h1:=C.q2
  have h2:=C.f0
  have ha:=C.a0 0 (List.length_pos_iff.mpr C.uv.pos)
  have hb:=C.b0 0 (List.length_pos_iff.mpr C.uv.pos')
  show (q - k) * f 0 + q * a 0 + q * b 0 + k * f 0 = _
  rw [h2,ha,hb];simp;lia
 | n + 1=>by
  have ih:=C.one n
  have h1:=C.q2
  have h2:=C.next n
  obtain ⟨m,rfl⟩:∃ m,q = k + m:=⟨q - k,by lia⟩
  have e:k + m - k = m:=by lia
  rw [e] at ih ⊢
  rw [hor,hor,hor,Nat.pow_succ,← ih]
  generalize hor (k + m) f n = F at *
  generalize hor (k + m) a n = A at *
  generalize hor (k + m) b n = B at *
  generalize f (n + 1) = f1 at *
  generalize a (n + 1) = a1 at *
  generalize b (n + 1) = b1 at *
  generalize f n = f0 at *
  grind
theorem errS_bdd {t:List Nat}(ha:∀ n,a n ≤ k ^ n) (hb:∀ n,b n ≤ k ^ n):Bdd k fun n=>(errS q u v t a b n:Int):=by
 refine Bdd.sm (fun i=>?_) t.length
 exact (((Bdd.tail q ha (i + 1)).mulN (ovb t u i)).add ((Bdd.tail q hb (i + 1)).mulN (ovb t v i))).congr fun n=>by
  rw [Int.natCast_add,Int.natCast_mul,Int.natCast_mul]
theorem Cw.F (C:Cw k q u v f a b) {uu uv vu vv:Int}(h1:uu = (ovS q u u:Nat)) (h2:uv = (ovS q u v:Nat)) (h3:vu = (ovS q v u:Nat)) (h4:vv = (ovS q v v:Nat)) (n:Nat) :
  (uu * vv - uv * vu) * (q:Int) ^ (n + 1) - (((q:Int) - k) * (uu * vv - uv * vu) + (vv - vu) + (uu - uv)) * (hor q f n:Int) = (k:Int) * (uu * vv - uv * vu) * (f n:Int) - (vv - uv) * (errS q u v u a b n:Int) - (uu - vu) * (errS q u v v a b n:Int) ∧
  (q:Int) * (uu * vv - uv * vu) * (hor q a n:Int) = (vv - vu) * (hor q f n:Int) - (vv * (errS q u v u a b n:Int) - vu * (errS q u v v a b n:Int)) ∧
  (q:Int) * (uu * vv - uv * vu) * (hor q b n:Int) = (uu - uv) * (hor q f n:Int) - (uu * (errS q u v v a b n:Int) - uv * (errS q u v u a b n:Int)):=by
 have e1:=congrArg (fun x:Nat=>(x:Int)) (C.one n)
 have e2:=congrArg (fun x:Nat=>(x:Int)) (hor_along (q:=q) C.fu C.a0 (fun m hm=>C.b0 m (by rw [← C.uv.len];exact hm)) n)
 have e3:=congrArg (fun x:Nat=>(x:Int)) (hor_along (q:=q) C.fv (fun m hm=>C.a0 m (by rw [C.uv.len];exact hm)) C.b0 n)
 have hq:((q - k:Nat):Int) = (q:Int) - k:=by have:=C.q2;lia
 simp only [Int.natCast_add,Int.natCast_mul,Int.natCast_pow,hq] at e1 e2 e3
 rw [← h1,← h3] at e2
 rw [← h2,← h4] at e3
 generalize (hor q f n:Int) = F at *
 generalize (hor q a n:Int) = A at *
 generalize (hor q b n:Int) = B at *
 generalize (errS q u v u a b n:Int) = Eu at *
 generalize (errS q u v v a b n:Int) = Ev at *
 generalize (f n:Int) = f0 at *
 generalize (q:Int) ^ (n + 1) = Q at *
 generalize (q:Int) = q at *
 generalize (k:Int) = k at *
 clear h1 h2 h3 h4
 subst e1
 refine ⟨?_,?_,?_⟩ <;> grind
theorem quot {x:Nat→Int}{X A un:Nat}{n:Nat}(hx:x n = (X:Int) - (un:Int) * (A:Int)) (h0:0 ≤ x n) (h1:((q:Int) - (k:Int)) * x n ≤ (un:Int) * ((k ^ (n + 1):Nat):Int)) (hn:k ^ (n + 1) + k < q) (hu:0 < un):X / un = A:=by
 have h2:x n < un:=by
  by_cases h:x n < un
  ·exact h
  ·exfalso
   have h3:((q:Int) - (k:Int)) * (un:Int) ≤ ((q:Int) - (k:Int)) * x n:=Int.mul_le_mul_of_nonneg_left (by lia) (by lia)
   have h4:(un:Int) * ((k ^ (n + 1):Nat):Int) < (un:Int) * ((q:Int) - (k:Int)):=Int.mul_lt_mul_of_pos_left (by lia) (by lia)
   rw [Int.mul_comm (un:Int) ((q:Int) - (k:Int))] at h4
   lia
 have h5:(X:Int) = ((un * A:Nat):Int) + x n:=by rw [Int.natCast_mul];lia
 refine Nat.div_eq_of_lt_le ?_ ?_
 ·rw [Nat.mul_comm];lia
 ·rw [Nat.mul_comm,Nat.mul_succ];lia
theorem Cw.end (C:Cw k q u v f a b) {uu uv vu vv:Nat}(h1:uu = ovS q u u) (h2:uv = ovS q u v) (h3:vu = ovS q v u) (h4:vv = ovS q v v) (l1:vu ≤ vv) (l2:uv ≤ uu) (l3:uv * vu < uu * vv) {n:Nat}(hn:k ^ (n + 1) + k < q) :
  q ^ n * (vv - vu) / ((q - k) * (uu * vv - uv * vu) + (vv - vu) + (uu - uv)) = hor q a n∧q ^ n * (uu - uv) / ((q - k) * (uu * vv - uv * vu) + (vv - vu) + (uu - uv)) = hor q b n∧q ^ (n + 1) * (uu * vv - uv * vu) / ((q - k) * (uu * vv - uv * vu) + (vv - vu) + (uu - uv)) = hor q f n:=by
 refine gl (uu * vv - uv * vu) fun D hD=>?_
 refine gl (vv - vu) fun sh hsh=>?_
 refine gl (uu - uv) fun ot hot=>?_
 refine gl ((q - k) * D + sh + ot) fun un hun=>?_
 rw [← hD,← hsh,← hot,← hun]
 have hq:=C.q2
 have hk:=C.k1
 have hkq:k < q:=Nat.lt_of_lt_of_le (Nat.lt_add_of_pos_right hk) (Nat.two_mul k ▸ hq)
 have hd:0 < D:=by rw [hD];exact Nat.sub_pos_of_lt l3
 have hu:0 < un:=by rw [hun];exact Nat.lt_of_lt_of_le (Nat.mul_pos (Nat.sub_pos_of_lt hkq) hd) (Nat.le_trans (Nat.le_add_right _ _) (Nat.le_add_right _ _))
 have iD:(D:Int) = (uu:Int) * vv - (uv:Int) * vu:=by rw [← Int.natCast_mul,← Int.natCast_mul,hD];exact Int.ofNat_sub (Nat.le_of_lt l3)
 have ish:(sh:Int) = (vv:Int) - vu:=by rw [hsh];exact Int.ofNat_sub l1
 have iot:(ot:Int) = (uu:Int) - uv:=by rw [hot];exact Int.ofNat_sub l2
 have iun:(un:Int) = ((q:Int) - k) * D + sh + ot:=by
  rw [hun,Int.natCast_add,Int.natCast_add,Int.natCast_mul]
  have:((q - k:Nat):Int) = (q:Int) - k:=Int.ofNat_sub (Nat.le_of_lt hkq)
  rw [this]
 have hF:=C.F (uu:=uu) (uv:=uv) (vu:=vu) (vv:=vv) (by rw [h1]) (by rw [h2]) (by rw [h3]) (by rw [h4])
 simp only [← iD,← ish,← iot,← iun] at hF
 have bu:Bdd k fun n=>(errS q u v u a b n:Int):=errS_bdd C.ak C.bk
 have bv:Bdd k fun n=>(errS q u v v a b n:Int):=errS_bdd C.ak C.bk
 have bf:Bdd k fun n=>(f n:Int):=Bdd.of (C:=1) fun n=>by rw [Nat.one_mul];exact C.fk n
 have bF:Bdd k fun n=>(D:Int) * (q:Int) ^ (n + 1) - (un:Int) * (hor q f n:Int):=
  (((bf.mul ((k:Int) * D)).sub (bu.mul ((vv:Int) - uv))).sub (bv.mul ((uu:Int) - vu))).congr fun n=>(hF n).1
 have bA:Bdd k fun n=>(sh:Int) * (q:Int) ^ n - (un:Int) * (hor q a n:Int):=by
  refine Bdd.div (c:=q * D) (Nat.mul_pos (Nat.zero_lt_of_lt hkq) hd) (((bF.mul sh).add (((bu.mul vv).sub (bv.mul vu)).mul un)).congr fun n=>?_)
  have:=(hF n).2.1
  rw [Int.natCast_mul,Int.mul_sub,Int.pow_succ]
  generalize (hor q f n:Int) = F at *
  generalize (hor q a n:Int) = A at *
  generalize (errS q u v u a b n:Int) = Eu at *
  generalize (errS q u v v a b n:Int) = Ev at *
  generalize (q:Int) ^ n = Q at *
  grind
 have bB:Bdd k fun n=>(ot:Int) * (q:Int) ^ n - (un:Int) * (hor q b n:Int):=by
  refine Bdd.div (c:=q * D) (Nat.mul_pos (Nat.zero_lt_of_lt hkq) hd) (((bF.mul ot).add (((bv.mul uu).sub (bu.mul uv)).mul un)).congr fun n=>?_)
  have:=(hF n).2.2
  rw [Int.natCast_mul,Int.mul_sub,Int.pow_succ]
  generalize (hor q f n:Int) = F at *
  generalize (hor q b n:Int) = B at *
  generalize (errS q u v u a b n:Int) = Eu at *
  generalize (errS q u v v a b n:Int) = Ev at *
  generalize (q:Int) ^ n = Q at *
  grind
 have step:∀ (c:Int) (g:Nat→Nat) (e n:Nat),c * (q:Int) ^ (n + 1 + e) - (un:Int) * (hor q g (n + 1):Int) = (q:Int) * (c * (q:Int) ^ (n + e) - (un:Int) * (hor q g n:Int)) - (un:Int) * (g (n + 1):Int):=by
  intro c g e n
  rw [hor,Int.natCast_add,Int.natCast_mul,Nat.add_right_comm,Int.pow_succ]
  generalize (hor q g n:Int) = F
  generalize (g (n + 1):Int) = G
  generalize (q:Int) ^ (n + e) = Q
  grind
 have rA:=rests hk hq bA C.ak (step sh a 0) n
 have rB:=rests hk hq bB C.bk (step ot b 0) n
 have rF:=rests hk hq bF C.fk (step D f 1) n
 refine ⟨quot (x:=fun n=>(sh:Int) * (q:Int) ^ n - (un:Int) * (hor q a n:Int)) ?_ rA.1 rA.2 hn hu,quot (x:=fun n=>(ot:Int) * (q:Int) ^ n - (un:Int) * (hor q b n:Int)) ?_ rB.1 rB.2 hn hu,quot (x:=fun n=>(D:Int) * (q:Int) ^ (n + 1) - (un:Int) * (hor q f n:Int)) ?_ rF.1 rF.2 hn hu⟩
 ·rw [Int.natCast_mul,Int.natCast_pow,Int.mul_comm (sh:Int)]
 ·rw [Int.natCast_mul,Int.natCast_pow,Int.mul_comm (ot:Int)]
 ·rw [Int.natCast_mul,Int.natCast_pow,Int.mul_comm (D:Int)]
end
end Mine
namespace Mine
noncomputable def wsL:List Nat:=[10,9,13,32]
noncomputable def wsAt (m:Int) (place:Nat):Nat:=wsL.getD ((m / 2 + (place:Int)) % 4).toNat 0
noncomputable def escQ (c:Nat):List Nat:=if c ∈ [34,92] then [92,c] else [c]
noncomputable def escB (every:Bool) (c:Nat):List Nat:=if every = true ∨ c ∈ [34,92,10,9,13,32] then [92,c] else [c]
noncomputable def tokText (m:Int) (place:Nat) (w:List Nat):List Nat:=
 if w = [] ∨ (m + (place:Int)) % 2 = 0 then [34] ++ w.flatMap escQ ++ [34] else w.flatMap (escB ((m + (place:Int)) % 4 == 1))
noncomputable def fileText (m:Int) (words:List (List Nat)) (n:Nat):List Nat:=(List.range n).flatMap fun i=>[wsAt m i] ++ tokText m i (words.getD i [])
theorem fileText_succ (m:Int) (words:List (List Nat)) (n:Nat):fileText m words (n + 1) = fileText m words n ++ ([wsAt m n] ++ tokText m n (words.getD n [])):=by
 unfold fileText
 rw [List.range_succ,List.flatMap_append]
 simp
theorem flatMap_len {α β:Type}(f:α→List β) (B:Nat) (h:∀ a,(f a).length ≤ B):∀ l:List α,(l.flatMap f).length ≤ l.length * B
 | []=>by simp
 | a::l=>by
  have:=flatMap_len f B h l
  have:=h a
  rw [List.flatMap_cons,List.length_append,List.length_cons,Nat.succ_mul]
  lia
theorem tokText_len (m:Int) (place:Nat) (w:List Nat):(tokText m place w).length ≤ 2 * w.length + 2:=by
 unfold tokText
 split
 ·have:=flatMap_len escQ 2 (fun a=>by unfold escQ;split <;> simp) w
  simp only [List.length_append,List.length_cons,List.length_nil]
  lia
 ·have:=flatMap_len (escB ((m + (place:Int)) % 4 == 1)) 2 (fun a=>by unfold escB;split <;> simp) w
  lia
theorem fileText_len (m:Int) (words:List (List Nat)) (hw:∀ w ∈ words,w.length ≤ 10):∀ n,(fileText m words n).length ≤ 30 * n
 | 0=>by simp [fileText]
 | n + 1=>by
  have:=fileText_len m words hw n
  have h2:=tokText_len m n (words.getD n [])
  have h3:(words.getD n []).length ≤ 10:=by
   by_cases h:n < words.length
   ·have:words.getD n [] = words[n]:=by simp [h]
    rw [this];exact hw _ (List.getElem_mem h)
   ·simp [Nat.not_lt.mp h]
  rw [fileText_succ]
  simp only [List.length_append,List.length_cons,List.length_nil]
  lia
theorem joinOk_small {l:List (List Nat)}(h:(l.map List.length).sum ≤ 1000):JoinOk (S []) (l.map S) = true:=by
 unfold JoinOk Builtin.Str.tooLong
 rw [StrLaws.joinTotal]
 have e:((l.map S).map (·.length)).sum = (l.map List.length).sum:=by
  rw [List.map_map]
  exact congrArg List.sum (List.map_congr_left fun x _=>S_len x)
 rw [e]
 have:(S []).length = 0:=rfl
 rw [this,Nat.mul_zero,Nat.add_zero,sizeLine_eq]
 have h2:¬ (l.map List.length).sum > 16777216:=by lia
 simp [h2]
variable [Wd]
section
variable {h₁:Gl}{r:Nat}{sc:Sc}{vars:List (Str × D)}
theorem def15:DefOf (stOf 15) "_law_file" (parOf (stOf 15)) (bodyOf (stOf 15)) (scOf0 (stOf 15)):=⟨⟨_,_,_,_,_,_,rfl⟩,rfl,rfl,rfl⟩
theorem IOp.addI {a b:Int}:IOp .Add a b (a + b):=IOp.add
theorem IOp.modP {a:Int}{b:Nat}(hb:0 < b):IOp .Mod a (b:Int) (a % (b:Int)):=by
 have e:a.fmod (b:Int) = a % (b:Int):=Int.fmod_eq_emod_of_nonneg _ (Int.natCast_nonneg b)
 with_reducible exact IOp.as (IOp.mod (by lia)) e
theorem small_div2 {a:Int}{b:Nat}(hb:b < 1024):Builtin.divisionGoesByPylong a (b:Int) = false:=by
 unfold Builtin.divisionGoesByPylong
 by_cases h0:b = 0
 ·subst h0;rfl
 ·have e1:((b:Int) == 0) = false:=by simpa using h0
  have e2:b.log2 < 10:=(Nat.log2_lt h0).mpr hb
  simp only [e1,Int.natAbs_natCast,Bool.false_eq_true,if_false,Bool.and_eq_false_iff,decide_eq_false_iff_not]
  left
  lia
theorem IOp.divP {a:Int}{b:Nat}(hb:0 < b) (hb2:b < 1024):IOp .FloorDiv a (b:Int) (a / (b:Int)):=by
 have e:a.fdiv (b:Int) = a / (b:Int):=Int.fdiv_eq_ediv_of_nonneg _ (Int.natCast_nonneg b)
 with_reducible exact IOp.as (IOp.div (by lia) (small_div2 hb2)) e
theorem signsOf_get {x:List Nat}{i:Nat}{d:D}(h:(signsOf (S x))[i]? = some d):i < x.length∧d = .str (S [x.getD i 0]):=by
 rw [signsOf_S,List.getElem?_map] at h
 cases q:x[i]? with
 | none=>rw [q] at h;cases h
 | some c=>
  rw [q] at h;cases h
  obtain ⟨hi,e⟩:=List.getElem?_eq_some_iff.mp q
  have e2:x.getD i 0 = c:=by simp [q]
  exact ⟨hi,by rw [e2]⟩
theorem inSigns (l:List Nat) (c:Nat):Txt.contains (S l) (S [c]) = decide (c ∈ l):=by
 unfold Txt.contains
 have:=StrLaws.found_one (S l) c
 simpa using this
theorem join_comp {w:List Nat}(f:Nat→List Nat) (hf:∀ c,(f c).length ≤ 2) (hw:w.length ≤ 100) {e:Expr}{apos pos:Pos}{k:Nat}{p:Pos}(he:EVP h₁ r sc vars e (.list (compOut (fun _=>true) (fun i=>.str (S (f (w.getD i 0)))) w.length)))
  (hl:(apos.endLine == pos.line) = true) (hst:isStarred e = false):EVP h₁ r sc vars (.Call (.Attribute (.Constant (.str (Str.ofString "")) k p) "join" apos) [e] [] pos) (.str (S (w.flatMap f))):=by
 have e1:compOut (fun _=>true) (fun i=>PyData.str (S (f (w.getD i 0)))) w.length = strL ((w.map f).map S):=by
  rw [compOut_all,range_map w 0 fun c=>PyData.str (S (f c))]
  simp [strL,List.map_map,Function.comp_def]
 rw [e1] at he
 have e2:S (w.flatMap f) = Txt.join (S []) ((w.map f).map S):=by rw [joinS,List.flatMap_def]
 rw [e2]
 have hS:Str.ofString "" = S []:=rfl
 rw [hS]
 refine EVP.meth EVP.const_str (EVS.cons he EVS.nil hst) (MethOK.join (joinOk_small ?_)) rfl hl (by show 1 < 28;decide)
 have:∀ l:List Nat,((l.map f).map List.length).sum ≤ 2 * l.length:=by
  intro l
  induction l with
  | nil=>simp
  | cons a l ih=>have:=hf a;simp only [List.map_cons,List.sum_cons,List.length_cons];lia
 have:=this w
 lia
theorem file_quoted {w:List Nat}{vs:List (Str × D)}{e:Expr}{scope:Scope}{pos:Pos}{tp ip:Pos}{elt:Expr}(he:e = .ListComp elt [⟨.Name "sign" tp,.Name "word" ip,[],0⟩] scope pos) (hw:w.length ≤ 100) (v1:Has vs "word" (.str (S w)))
  (hc:CompSc (scOf (stOf 15)) vs scope) (hx:stoK (csc (scOf (stOf 15)) scope) "sign" = some .local) (hxf:inFree scope "sign" = false) (f:Nat→List Nat)
  (hel:∀ c,EVP h₁ r (csc (scOf (stOf 15)) scope) (("sign",.str (S [c]))::cvars vs scope) elt (.str (S (f c)))) :
  EVP h₁ r (scOf (stOf 15)) vs e (.list (compOut (fun _=>true) (fun i=>.str (S (f (w.getD i 0)))) w.length)):=by
 subst he
 have e1:w.length = (signsOf (S w)).length:=by simp [signsOf]
 have:=EVR.pure (P:=Rp.nil) (P':=Rp.nil) (EVR.listcomp (h₁:=h₁) (r:=r) (sc:=scOf (stOf 15)) (vars:=vs) (elt:=elt) (pos:=pos) (X:=[]) (ifs:=[]) rfl (CompOK.list (fun _=>true) (fun i=>.str (S (f (w.getD i 0)))) (fun _=>Rp.nil) (EVI.j (x := "sign") (p:=tp) (EVI.str (EVP.name (pos:=ip) v1 rfl))) hc (by rw [← e1];lia) (fun _ _=>rfl) fun i d hd=>?k2)) Rp.nil_ok
 case k2=>
  obtain ⟨hi,rfl⟩:=signsOf_get hd
  exact ⟨_,.name hx,skip_weak (cvars_none hxf) fun _ _ q=>q,.inl ⟨rfl,rfl⟩,nofun,fun _=>EVP.re (hel _)⟩
 rw [← e1] at this
 exact this
set_option maxRecDepth 4000 in
theorem file_turn {m:Int}{i:Nat}{w t:List Nat}{vs:List (Str × D)}(hi:i ≤ 1000) (hw:w.length ≤ 100) (ht:t.length ≤ 2 ^ 18) (v1:Has vs "word" (.str (S w))) (v2:Has vs "place" (.int (i:Int))) (v3:Has vs "manner" (.int m)) (v4:Has vs "text" (.str (S t))) :
  SX h₁ r (scOf (stOf 15)) vs (forBody (innOf (stOf 15) 1)) fun o=>∃ vs',o = .next vs'∧Has vs' "text" (.str (S (t ++ ([wsAt m i] ++ tokText m i w))))∧∀ x d,x ≠ ("text":Str)→x ≠ ("every":Str)→Has vs x d→Has vs' x d:=by
 have hk:((m / 2 + (i:Int)) % 4).toNat < 4:=by lia
 have e1:Txt.charAt (S wsL) ((m / 2 + (i:Int)) % 4) = some (wsAt m i):=by
  unfold Txt.charAt wsAt
  have h1:=seqIndex_of (k:=(m / 2 + (i:Int)) % 4) (n:=(S wsL).length) (by lia) (by rw [S_len];show _ < ((4:Nat):Int);lia)
  rw [h1]
  show (S wsL).cps[_]? = _
  have:((m / 2 + (i:Int)) % 4).toNat < wsL.length:=hk
  simp [this]
 have hb:forBody (innOf (stOf 15) 1) = [(forBody (innOf (stOf 15) 1)).getD 0 (.Pass ⟨0,0,0,0⟩),(forBody (innOf (stOf 15) 1)).getD 1 (.Pass ⟨0,0,0,0⟩)]:=rfl
 rw [hb]
 refine SX.step (vs:=("text",.str (S t ++ S [wsAt m i]))::vs) ?k1 ?k2
 case k1=>
  conv=>arg 5;whnf
  refine SX1.augS v4 (EVP.item (di:=.int ((m / 2 + (i:Int)) % 4)) EVP.const_str ?k3 (GetOK.str (x:=S wsL) (by unfold fitsSsize;simp;lia) e1)) (.inl rfl) (by rw [S_len,S_len];simp only [List.length_cons,List.length_nil];lia)
  case k3=>exact EVP.binop (EVP.binop (EVP.binop (EVP.name v3 rfl) EVP.const_int (IOp.divP (b:=2) (by decide) (by decide))) (EVP.name v2 rfl) IOp.addI) EVP.const_int (IOp.modP (b:=4) (by decide))
 case k2=>
  rw [S_append]
  generalize hvs':((Str.ofString "text",PyData.str (S (t ++ [wsAt m i])))::vs) = vs'
  have w1:Has vs' "word" (.str (S w)):=by rw [← hvs'];exact v1.skip rfl
  have w2:Has vs' "place" (.int (i:Int)):=by rw [← hvs'];exact v2.skip rfl
  have w3:Has vs' "manner" (.int m):=by rw [← hvs'];exact v3.skip rfl
  have w4:Has vs' "text" (.str (S (t ++ [wsAt m i]))):=by rw [← hvs'];exact Has.here
  have hweak:∀ x d,x ≠ ("text":Str)→Has vs x d→Has vs' x d:=fun x d h1 h=>by rw [← hvs'];exact h.skip (by simpa using h1)
  have htl:=tokText_len m i w
  conv=>arg 5;arg 1;whnf
  refine SX.ite (b:=(S w == S []) || ((m + (i:Int)) % 2 == 0)) ?k4 (fun hb=>?k5) fun hb=>?k6
  case k4=>exact TSP.or2 (TSP.cmp (EVP.name w1 rfl) EVP.const_str COp.eqS) fun _=>TSP.cmp (EVP.binop (EVP.binop (EVP.name w3 rfl) (EVP.name w2 rfl) IOp.addI) EVP.const_int (IOp.modP (b:=2) (by decide))) EVP.const_int COp.eqI
  case k5=>
   have hcond:w = [] ∨ (m + (i:Int)) % 2 = 0:=by
    rw [Bool.or_eq_true,S_beq,decide_eq_true_iff,beq_iff_eq] at hb
    exact hb
   have htok:tokText m i w = [34] ++ w.flatMap escQ ++ [34]:=if_pos hcond
   rw [htok] at htl ⊢
   simp only [List.length_append,List.length_cons,List.length_nil] at htl
   conv=>arg 5;whnf
   refine SX.step (vs:=("text",.str (S (t ++ [wsAt m i]) ++ (S [34] ++ S (w.flatMap escQ) ++ S [34])))::vs') ?k7 (SX.done (SX.nil ⟨_,rfl,?_,fun x d h1 h2 h=>(hweak x d h1 h).skip (by simpa using h1)⟩))
   case k7=>
    refine SX1.augS w4 (EVP.addS (a:=S [34] ++ S (w.flatMap escQ)) (b:=S [34]) (EVP.addS (a:=S [34]) (b:=S (w.flatMap escQ)) EVP.const_str (join_comp escQ (fun c=>by unfold escQ;split <;> simp) hw (file_quoted rfl hw w1 ?k8 rfl rfl escQ fun c=>?k9) rfl rfl) ?_) EVP.const_str ?_) (.inl rfl) ?_
    case k8=>exact ⟨rfl,by decide,by decide,fun z hz=>by cases hz⟩
    case k9=>
     unfold escQ
     refine EVP.ifexp (x:=decide (c ∈ [34,92])) (TSP.as (TSP.cmp (EVP.name Has.here rfl) EVP.const_str COp.inS) (inSigns [34,92] c)) (fun h=>?_) fun h=>?_
     ·rw [if_pos (of_decide_eq_true h)]
      have:S [92,c] = S [92] ++ S [c]:=rfl
      rw [this]
      exact EVP.addS EVP.const_str (EVP.name Has.here rfl) (by rw [S_len,S_len];simp only [List.length_cons,List.length_nil];decide)
     ·rw [if_neg (of_decide_eq_false h)]
      exact EVP.name Has.here rfl
    ·show (S [34]).length + (S (w.flatMap escQ)).length ≤ _
     rw [S_len,S_len];simp only [List.length_cons,List.length_nil];lia
    ·show (S [34] ++ S (w.flatMap escQ)).length + (S [34]).length ≤ _
     rw [S_append,S_len,S_len];simp only [List.length_append,List.length_cons,List.length_nil];lia
    ·show (S (t ++ [wsAt m i])).length + (S [34] ++ S (w.flatMap escQ) ++ S [34]).length ≤ _
     rw [S_append,S_append,S_len,S_len];simp only [List.length_append,List.length_cons,List.length_nil];lia
   ·rw [S_append,S_append,S_append]
    have:t ++ [wsAt m i] ++ ([34] ++ w.flatMap escQ ++ [34]) = t ++ ([wsAt m i] ++ ([34] ++ w.flatMap escQ ++ [34])):=by simp
    rw [this]
    exact Has.here
  case k6=>
   have hcond:¬ (w = [] ∨ (m + (i:Int)) % 2 = 0):=by
    rw [Bool.or_eq_false_iff,S_beq,decide_eq_false_iff_not,beq_eq_false_iff_ne] at hb
    exact fun h=>h.elim hb.1 hb.2
   have htok:tokText m i w = w.flatMap (escB ((m + (i:Int)) % 4 == 1)):=if_neg hcond
   rw [htok] at htl ⊢
   generalize hev:((m + (i:Int)) % 4 == 1) = ev at htl ⊢
   have hbody:∃ a b,innOf (stOf 15) 1 = innOf (stOf 15) 1∧a = b∧b = (1:Nat):=⟨1,1,rfl,rfl,rfl⟩
   conv=>arg 5;whnf
   refine SX.step (vs:=("every",.bool ev)::vs') ?k7b ?k8b
   case k7b=>
    rw [← hev]
    exact SX1.assign (EVP.cmp (EVP.binop (EVP.binop (EVP.name w3 rfl) (EVP.name w2 rfl) IOp.addI) EVP.const_int (IOp.modP (b:=4) (by decide))) EVP.const_int COp.eqI) (.inr rfl)
   case k8b=>
    refine SX.step (vs:=("text",.str (S (t ++ [wsAt m i]) ++ S (w.flatMap (escB ev))))::("every",.bool ev)::vs') ?k9b (SX.done (SX.nil ⟨_,rfl,?_,fun x d h1 h2 h=>((hweak x d h1 h).skip (by simpa using h2)).skip (by simpa using h1)⟩))
    case k9b=>
     refine SX1.augS (w4.skip rfl) (join_comp (escB ev) (fun c=>by unfold escB;split <;> simp) hw (file_quoted rfl hw (w1.skip rfl) ?k10 rfl rfl (escB ev) fun c=>?k11) rfl rfl) (.inl rfl) ?_
     case k10=>
      refine ⟨rfl,by decide,by decide,fun z hz=>?_⟩
      have hz':z ∈ (["every"]:List Str):=hz
      rcases ms hz' with rfl
      exact ⟨rfl,rfl,.inl rfl⟩
     case k11=>
      unfold escB
      refine EVP.ifexp (x:=ev || decide (c ∈ [34,92,10,9,13,32])) (TSP.or2 (TSP.value (EVP.name ((cvars_has Has.here rfl).skip rfl) rfl) Tru.bool) fun _=>TSP.as (TSP.cmp (EVP.name Has.here rfl) EVP.const_str COp.inS) (inSigns [34,92,10,9,13,32] c)) (fun h=>?_) fun h=>?_
      ·rw [Bool.or_eq_true,decide_eq_true_iff] at h
       rw [if_pos h]
       have:S [92,c] = S [92] ++ S [c]:=rfl
       rw [this]
       exact EVP.addS EVP.const_str (EVP.name Has.here rfl) (by rw [S_len,S_len];simp only [List.length_cons,List.length_nil];decide)
      ·rw [Bool.or_eq_false_iff,decide_eq_false_iff_not] at h
       rw [if_neg fun q=>q.elim (fun q=>by rw [h.1] at q;cases q) h.2]
       exact EVP.name Has.here rfl
     ·rw [S_len,S_len];simp only [List.length_append,List.length_cons,List.length_nil];lia
    ·rw [S_append]
     have:t ++ [wsAt m i] ++ w.flatMap (escB ev) = t ++ ([wsAt m i] ++ w.flatMap (escB ev)):=by simp
     rw [this]
     exact Has.here
theorem file_ok {m:Int}{words:List (List Nat)}(hn:words.length ≤ 100) (hw:∀ w ∈ words,w.length ≤ 10):CallOK h₁ 20 (.ref 124) [.list (wordL words),.int m] (.str (S (fileText m words words.length))):=by
 refine CallOK.of_defC (r:=19) (xs:=["words", "manner"]) Top1.fFile def15 ?_ ?_ ?_
 ·intro m vs hl
  refine ex20 (len2 hl) fun _ _ zq1=>?_;subst zq1
  rfl
 ·exact fm (.inl rfl) (fm (.inl rfl) fn)
 ·obtain ⟨vs,hvs⟩:∃ vs:List (Str × D),vs = [((("manner":Str)),PyData.int m),("words",.list (wordL words))]:=⟨_,rfl⟩
  have v1:Has vs "words" (.list (wordL words)):=by rw [hvs];exact Has.here.skip rfl
  have v2:Has vs "manner" (.int m):=by rw [hvs];exact Has.here
  show SX h₁ 19 (scOf (stOf 15)) [((("manner":Str)),PyData.int m),("words",.list (wordL words))] (bodyOf (stOf 15)) _
  rw [← hvs]
  clear hvs
  have hb:bodyOf (stOf 15) = innOf (stOf 15) 0::innOf (stOf 15) 1::[innOf (stOf 15) 2]:=rfl
  rw [hb]
  refine SX.step (vs:=("text",.str (S []))::vs) ?k1 (SXR.pure (P:=Rp.nil) ?k2 Rp.nil_ok)
  case k1=>
   conv=>arg 5;whnf
   exact SX1.assign EVP.const_str (.inl rfl)
  case k2=>
   refine g8v (innOf (stOf 15) 1) (F:=fun p1 p2 p3 p4 p5 p6 p7 k=>.For (.Tuple [.Name "place" p1,.Name "word" p2] k p3) (.Call (.Name "enumerate" p4) [.Name "words" p5] [] p6) (forBody (innOf (stOf 15) 1)) [] p7) _ _ _ _ _ _ _ _ rfl fun p1 p2 p3 p4 p5 p6 p7 k hf=>?_
   rw [hf]
   refine SXR.for_ (items:=enumL (wordL words)) (EVJ.enumerate (EVP.name (v1.skip rfl) rfl) rfl) (fun i vs P=>Has vs "text" (.str (S (fileText m words i)))∧Has vs "manner" (.int m)) ?k3 ?k4 ⟨Has.here,v2.skip rfl⟩ (fun _ _=>rfl)
   case k3=>
    rintro i d vs P hd ⟨w1,w2⟩
    have hi:i < words.length:=by
     have:=(List.getElem?_eq_some_iff.mp hd).1
     rw [enumL_len] at this;simpa using this
    have hgi:(wordL words)[i]? = some (.str (S (words.getD i []))):=by
     unfold wordL;rw [List.getElem?_map,List.getElem?_eq_getElem hi];simp [hi]
    rw [enumL_get hgi] at hd
    cases hd
    refine ⟨_,.tup rfl (fun e he=>?_) rfl,?_⟩
    ·simp only [mcI,List.not_mem_nil,or_false] at he
     rcases he with rfl | rfl <;> exact .inl rfl
    ·have hwl:(words.getD i []).length ≤ 10:=by
      have:words.getD i [] = words[i]:=by simp [hi]
      rw [this];exact hw _ (List.getElem_mem hi)
     have hfl:=fileText_len m words hw i
     refine SX.re (file_turn (i:=i) (by lia) (by lia) (by lia) Has.here (Has.here.skip rfl) ((w2.skip rfl).skip rfl) ((w1.skip rfl).skip rfl)) fun o ho=>?_
     refine ex12 ho fun vs' zq1 x1 x2=>?_;subst zq1
     refine .inl ⟨vs',.inl rfl,?_,x2 _ _ (by decide) (by decide) ((w2.skip rfl).skip rfl)⟩
     rw [fileText_succ]
     exact x1
   case k4=>
    rintro vs P ⟨w1,w2⟩
    rw [enumL_len] at w1
    have e:(wordL words).length = words.length:=by simp
    rw [e] at w1
    obtain ⟨p6,hr⟩:∃ p6,innOf (stOf 15) 2 = .Return (some (retE (innOf (stOf 15) 2))) p6:=⟨_,rfl⟩
    rw [hr]
    exact SXR.ret (P':=P) (EVP.re (EVP.name w1 rfl)) (.inl rfl)
end
end Mine
namespace Mine
variable [Wd]
section
variable {h₁:Gl}{r:Nat}{sc:Sc}{vars:List (Str × D)}{env:Env}{X H:List Addr}{P P' P'':Rp X}
theorem VD.notInt {h:Heap}{es:List DictEntry}{i:Int}{d:D}{l:List (D × D)}(x:VD h H es ((.int i,d)::l)):False:=by cases x
theorem V.asOpq {h:Heap}{v:Value}{a:Addr}(x:V h H v (Mine.opq a)):v = .ref a:=by
 cases x with
 | dict e n g l q=>exact l.notInt.elim
 | opq=>rfl
theorem EVR.beside {a:Addr}{m:List (Str × D)}{e:Expr}{d:D}(he:EVR h₁ r sc vars X P e d P') (ha:a ∉ X):EVR h₁ r sc vars (a::X) (Rp.accD a m P) e d (Rp.accD a m P'):=by
 intro prog w A env s H Q E T R I O W p k
 refine he prog w A env s H Q E T R I O W.tail p.2 fun v s' st I' p' hv=>k v s' (st.mono fun y hy=>.inl (.tail _ hy)) I' ⟨?_,p'⟩ hv
 exact ⟨p.1.1,p.1.2.step st.st W.tail.sub (fun _ q=>.inl q) ha p.1.1⟩
abbrev EVSR (h₁:Gl) (r:Nat) (sc:Sc) (vars:List (Str × D)) (X:List Addr) (P:Rp X) (es:List Expr) (ds:List D) (P':Rp X):Prop:=
 (∀ (env:Env) (pos:Pos),(backTo pos (starEach es env)).any (·.1) = false)∧∀ (prog:Program) (w:WW) (A:Around) (env:Env) (pos:Pos) (s:Shared) (H:List Addr) (Q:List Value→Shared→Prop) (E:Value→Shared→Prop),
  Top1 h₁→Room r A→Inv h₁ H s→EnvOK sc env vars s.heap H→Own env X H→P.ok s.heap H →
  (∀ vs s',SStep X s s'→Inv h₁ H s'→P'.ok s'.heap H→VL s'.heap H vs ds→Q vs s')→wpAny (model prog w) A (spliced (backTo pos (starEach es env))) Q E s
theorem EVSR.nil:EVSR h₁ r sc vars X P [] [] P:=⟨fun _ _=>rfl,by
 intro prog w A env pos s H Q E T R I O W p k
 exact Calls.spliced_nil (k _ _ (SStep.refl _ _) I p .nil)⟩
theorem EVSR.cons {e:Expr}{es:List Expr}{d:D}{ds:List D}(he:EVR h₁ r sc vars X P e d P') (hs:EVSR h₁ r sc vars X P' es ds P'') (hn:isStarred e = false:=by rfl):EVSR h₁ r sc vars X P (e::es) (d::ds) P'':=by
 refine ⟨fun env pos=>?_,?_⟩
 ·rw [starEach_cons hn,backTo_cons];exact hs.1 env pos
 ·intro prog w A env pos s H Q E T R I O W p k
  rw [starEach_cons hn,backTo_cons]
  with_reducible refine Calls.spliced_cons (he prog w A env s H _ E T R I O W p fun v s₁ st I₁ p₁ hv=>?_)
  with_reducible refine hs.2 prog w A env pos s₁ H _ E T R I₁ (O.own W st.st) W p₁ fun vs s₂ st₂ I₂ p₂ hvs=>?_
  exact k _ _ (st.trans st₂) I₂ p₂ (.cons (hv.own W st₂.st) hvs)
theorem EVR.callR {x:Str}{f:Value}{p pos:Pos}{args:List Expr}{ds:List D}{d:D}(hn:NameIs h₁ sc x f) (hk:KeepOK h₁ f) (ha:EVSR h₁ r sc vars X P args ds P') (hc:CallOK h₁ r f ds d):EVR h₁ r sc vars X P (.Call (.Name x p) args [] pos) d P':=by
 intro prog w A env s H Q E T R I O W pk k
 with_reducible refine wpAny_Call_NameR (hn prog w A env s H vars p _ E T I O ?_)
 have hp:((backTo pos (starEach args env)).any (·.1) || ([]:List (Option Str × Sem Value)).any (·.1.isNone)) = false:=by rw [ha.1 env pos];rfl
 with_reducible refine callWith_of (P:=Kp h₁) hp (hk T _) (evalArgs_of (ha.1 env pos) (ha.2 prog w A env pos s H _ E T R I O W pk fun vs s₁ st I₁ p₁ hvs=>⟨I₁.kp,?_⟩))
 show wpAny (model prog w) A (PySem.call f vs) Q E s₁
 with_reducible refine hc prog w A s₁ H vs Q E T R I₁ hvs fun v s₂ st₂ I₂ hv=>?_
 exact k _ _ (st.trans st₂.up) I₂ (P'.grow p₁ st₂.st) hv
theorem EVR.list {es:List Expr}{pos:Pos}{ds:List D}(he:EVSR h₁ r sc vars X P es ds P') (hz:ds.length ≤ 1000):EVR h₁ r sc vars X P (.List es pos) (.list ds) P':=by
 intro prog w A env s H Q E T R I O W p k
 with_reducible refine wpAny_List (he.2 prog w A env pos s H _ E T R I O W p fun vs s₁ st I₁ p₁ hvs=>⟨?_,?_⟩)
 ·rw [hvs.length];exact Nat.le_trans hz (by decide)
 ·exact k _ _ (st.trans (SStep.heap' (Step.push _))) (I₁.pushed _) (P'.grow p₁ (Step.push _)) (V.newList hvs (fun a q=>(I₁.hok a q).2) I₁.size)
theorem EVR.tuple {es:List Expr}{n:Nat}{pos:Pos}{ds:List D}(he:EVSR h₁ r sc vars X P es ds P') (hz:ds.length ≤ 1000):EVR h₁ r sc vars X P (.Tuple es n pos) (.tuple ds) P':=by
 intro prog w A env s H Q E T R I O W p k
 with_reducible refine wpAny_Tuple (he.2 prog w A env pos s H _ E T R I O W p fun vs s₁ st I₁ p₁ hvs=>⟨?_,?_⟩)
 ·rw [hvs.length];exact Nat.le_trans hz (by decide)
 ·exact k _ _ (st.trans (SStep.heap' (Step.push _))) (I₁.pushed _) (P'.grow p₁ (Step.push _)) (V.newTuple hvs (fun a q=>(I₁.hok a q).2) I₁.size)
section
variable {a:Addr}{m:List (Str × D)}{Q₁ Q₂:Rp (a::X)}
theorem DI.getItem {prog:Program}{w:WW}{A:Around}{s:Shared}{k:Str}{d:D}{iv:Value}{Q:Value→Shared→Prop}{E:Value→Shared→Prop}(x:DI s.heap H a m) (hi:V s.heap H iv (.str k)) (hk:dget m k = some d)
  (kk:∀ v,V s.heap H v d→Q v { s with toks:=s.toks + 1 }):wpAny (model prog w) A (getItem (.ref a) iv) Q E s:=by
 refine ex11 (x.dictOf prog w) fun l hd vp=>?_
 obtain ⟨_,rfl⟩:=V.strI hi
 rcases vp.get k with ⟨e,_⟩ | ⟨d',u,e,e2,e3⟩
 ·rw [e] at hk;cases hk
 ·rw [e] at hk;cases hk
  exact wpAny_getItem_of (strK_is k _) hd.mapOf e2 (kk u e3)
theorem EVR.getD {x:Str}{px pos:Pos}{ke:Expr}{k:Str}{d:D}(hx:vars.lookup x = some (opq a)) (hke:EVP h₁ r sc vars ke (.str k)) (hk:dget m k = some d) (hp:plainSlice ke = true:=by rfl) (hd:(x == ("__debug__":Str)) = false:=by rfl) :
  EVR h₁ r sc vars (a::X) (Rp.accD a m P) (.Subscript (.Name x px) ke pos) d (Rp.accD a m P):=by
 intro prog w A env s H Q E T R I O W p kk
 with_reducible refine Subscript_ ((EVP.name hx hd) prog w A env s H _ E T R I O fun v s₁ st I₁ hv=>?_)
 have hv':=hv.asOpq
 subst hv'
 with_reducible refine hke prog w A env s₁ H _ E T R I₁ (O.grow st.st) fun i s₂ st₂ I₂ hi=>?_
 have p₂:=Rp.grow _ p (st.trans st₂).st
 refine ex11 (p₂.1.2.dictOf prog w) fun l hd vp=>?_
 refine subscriptTail_any hd.typeIs slot_dict_getitem.lookup (DI.getItem p₂.1.2 hi hk fun v hv=>?_) hp
 exact kk _ _ ((st.trans (st₂.trans (SStep.toks s₂ _))).up) (I₂.toks _) p₂ hv
theorem TSR.inD {x:Str}{px pos:Pos}{ke:Expr}{k:Str}(hx:vars.lookup x = some (opq a)) (hke:EVP h₁ r sc vars ke (.str k)) (hd:(x == ("__debug__":Str)) = false:=by rfl) :
  TSR h₁ r sc vars (a::X) (Rp.accD a m P) (.Compare ke [.In] [.Name x px] pos) (dget m k).isSome (Rp.accD a m P):=by
 intro prog w A env s H Q E T R I O W p kk
 with_reducible refine wpAny_isTrue_Compare1 (hke prog w A env s H _ E T R I O fun v s₁ st I₁ hv=>?_) rfl
 with_reducible refine (EVP.name hx hd) prog w A env s₁ H _ E T R I₁ (O.grow st.st) fun v' s₂ st₂ I₂ hv₂=>?_
 have hv':=hv₂.asOpq
 subst hv'
 have p₂:=Rp.grow _ p (st.trans st₂).st
 refine ex11 (p₂.1.2.dictOf prog w) fun l hdd vp=>?_
 obtain ⟨_,rfl⟩:=V.strI hv
 refine wpAny_in_of (strK_is k _) (notSys p.1.1) hdd.mapOf ?_
 have e:(valueAt l k).isSome = (dget m k).isSome:=by
  rcases vp.get k with ⟨e,e2⟩ | ⟨d',u,e,e2,_⟩ <;> simp [e,e2]
 rw [e]
 with_reducible refine wpAny_truthy_bool ?_
 exact kk _ ((st.trans (st₂.trans (SStep.toks s₂ _))).up) (I₂.toks _) p₂
theorem DI.setItem {prog:Program}{w:WW}{A:Around}{s:Shared}{k:Str}{d:D}{iv v:Value}{Q:Unit→Shared→Prop}{E:Value→Shared→Prop}(x:(Rp.accD a m P).ok s.heap H) (hi:V s.heap H iv (.str k)) (hv:V s.heap H v d) (hl:m.length ≤ 2 ^ 20) (I:Inv h₁ H s) (hX:∀ y ∈ a::X,y ∈ H) (haX:a ∉ X)
  (kk:∀ s',SStep [a] s s'→Inv h₁ H s'→(Rp.accD a (dput m k d) P).ok s'.heap H→Q () s'):wpAny (model prog w) A (setItem (.ref a) iv v) Q E s:=by
 refine ex11 (x.1.2.dictOf prog w) fun l hd vp=>?_
 obtain ⟨_,rfl⟩:=V.strI hi
 rename_i t
 have hlen:=vp.length
 refine wpAny_setItem_pairs (strK_is k t) hd (fun h6 hd6 hs6=>?_) (by rw [sizeLine_eq];lia)
 have hq6:Quiet [a] s { s with heap:=h6,toks:=s.toks + 1 }:=Quiet.same hs6
 have DH:∀ y ∈ ([a]:List Addr),y ∈ H:=fun y q=>by rcases ms q with rfl;exact hX _ (.head _)
 have st6:SStep [a] s { s with heap:=h6,toks:=s.toks + 1 }:=hq6.st fun y q=>by rcases ms q with rfl;exact x.1.1
 refine kk _ st6 (I.quiet hq6 DH) ⟨⟨x.1.1,DI.of hd6 ((vp.put k hv).step st6.st DH (H':=H) fun _ q=>.inl q)⟩,?_⟩
 exact P.stab x.2 st6.st (fun y hy=>⟨DH y hy,fun q=>haX (by rcases ms hy with rfl;exact q)⟩) fun _ q=>.inl q
theorem SXR1.setD {x:Str}{px tp pos:Pos}{ke ve:Expr}{k:Str}{d:D}{m':List (Str × D)}{Φ:Out→Rp (a::X)→Prop}(hx:vars.lookup x = some (opq a)) (hve:EVR h₁ r sc vars (a::X) (Rp.accD a m P) ve d (Rp.accD a m' P')) (hke:EVP h₁ r sc vars ke (.str k)) (hl:m'.length ≤ 2 ^ 20) (haX:a ∉ X)
  (hΦ:Φ (.next vars) (Rp.accD a (dput m' k d) P')) (hs:noSwap ve = true:=by rfl) (hd:(x == ("__debug__":Str)) = false:=by rfl):SXR1 h₁ r sc vars (a::X) (Rp.accD a m P) (.Assign [.Subscript (.Name x px) ke tp] ve pos) Φ:=by
 intro prog w A env s H Q E T R I F W p kk
 refine wpAny_Assign_Subscript (hve prog w A env s H _ E T R I F.ok W p fun v s₁ st I₁ p₁ hv=>?_) (swaps_no hs)
 have F₁:=F.own W st.st
 with_reducible refine (EVP.name hx hd) prog w A env s₁ H _ E T R I₁ F₁.ok fun ov s₂ st₂ I₂ hov=>?_
 have hv':=hov.asOpq
 subst hv'
 with_reducible refine hke prog w A env s₂ H _ E T R I₂ (F₁.ok.grow st₂.st) fun i s₃ st₃ I₃ hi=>?_
 have st23:=st₂.trans st₃
 refine DI.setItem (Rp.grow _ p₁ st23.st) hi (hv.grow st23.st) hl I₃ W.sub haX fun s₄ st₄ I₄ p₄=>?_
 have st4X:SStep (a::X) s₃ s₄:=st₄.mono fun y hy=>.inl (by rcases ms hy with rfl;exact .head _)
 exact kk _ _ _ _ hΦ ((st.trans (st23.up.trans st4X)).wX) I₄ p₄ ((F₁.grow st23.st).own W st4X.st)
theorem SXR1.augD {x:Str}{px tp pos kp:Pos}{kn:Str}{ve:Expr}{op:Operator}{k:Str}{i j c:Int}{Φ:Out→Rp (a::X)→Prop}(hx:vars.lookup x = some (opq a)) (hke:EVP h₁ r sc vars (.Name kn kp) (.str k)) (hg:dget m k = some (.int i)) (hve:EVP h₁ r sc vars ve (.int j)) (ho:IIp op i j c) (hl:m.length ≤ 2 ^ 20) (haX:a ∉ X)
  (hΦ:Φ (.next vars) (Rp.accD a (dput m k (.int c)) P)) (hd:(x == ("__debug__":Str)) = false:=by rfl):SXR1 h₁ r sc vars (a::X) (Rp.accD a m P) (.AugAssign (.Subscript (.Name x px) (.Name kn kp) tp) op ve pos) Φ:=by
 intro prog w A env s H Q E T R I F W p kk
 refine wpAny_AugAssign_Subscript ((EVP.name hx hd) prog w A env s H _ E T R I F.ok fun ov s₁ st₁ I₁ hov=>?_)
 have hv':=hov.asOpq
 subst hv'
 with_reducible refine hke prog w A env s₁ H _ E T R I₁ (F.ok.grow st₁.st) fun iv s₂ st₂ I₂ hi=>?_
 have st12:=st₁.trans st₂
 have p₂:=Rp.grow _ p st12.st
 refine DI.getItem p₂.1.2 hi hg fun old hold=>?_
 obtain ⟨_,rfl⟩:=V.intI hold
 have I₃:=I₂.toks (s₂.toks + 1)
 have O₂:=F.ok.grow st12.st
 with_reducible refine hve prog w A env { s₂ with toks:=s₂.toks + 1 } H _ E T R I₃ (O₂.grow (Step.refl _ _)) fun v s₄ st₄ I₄ hv=>?_
 obtain ⟨_,rfl⟩:=V.intI hv
 with_reducible refine ho prog w A s₄ _ _ _ E ?_
 have st24:SStep [] s₂ { s₄ with toks:=s₄.toks + 1 }:=(SStep.toks s₂ _).trans (st₄.trans (SStep.toks s₄ _))
 refine DI.setItem (Rp.grow _ p₂ st24.st) (hi.grow st24.st) (.int c _) hl (I₄.toks _) W.sub haX fun s₅ st₅ I₅ p₅=>?_
 have st5X:SStep (a::X) { s₄ with toks:=s₄.toks + 1 } s₅:=st₅.mono fun y hy=>.inl (by rcases ms hy with rfl;exact .head _)
 exact kk _ _ _ _ hΦ (((st12.trans st24).up.trans st5X).wX) I₅ p₅ (((F.grow st12.st).grow st24.st).own W st5X.st)
end
theorem SXR.newDict {x:Str}{p pos:Pos}{e:Expr}{m:List (Str × D)}{rest:List Stmt}{Φ:Out→Rp X→Prop}(he:EVN h₁ r sc vars e m) (hs:Sto sc x) (hns:noSwap e = true)
  (h:∀ a,a ∉ X→SXR h₁ r sc ((x,opq a)::vars) (a::X) (Rp.accD a m P) rest fun o P₂=>∃ d d' P₁,o = .ret d∧Φ (.ret d') P₁∧∀ h H v,a ∉ H→N0 ≤ a→V h (a::H) v d→P₂.ok h (a::H)→V h H v d'∧P₁.ok h H) :
  SXR h₁ r sc vars X P (.Assign [.Name x p] e pos::rest) Φ:=by
 intro prog w A env s H Q E T R I F W pk k
 refine wpAny_execs_cons (wpAny_Assign_Name (he prog w A env s H _ E T R I F.ok fun a s₁ st I₁ ha hd=>?_) (swaps_no hns))
 have haH:a ∉ H:=fun q=>absurd (I.hok a q).2 (Nat.not_lt.mpr ha)
 have haX:a ∉ X:=fun q=>haH (W.sub a q)
 have hN:=(I₁.hok a (.head _)).1
 have hnew:∀ y ∈ a::H,y ∈ H ∨ s.heap.objs.size ≤ y:=fun y q=>by
  rcases mc q with rfl | q
  ·exact .inr ha
  ·exact .inl q
 have F₁:Fm sc env vars s₁.heap (a::H):=F.step st.st (fun _ q=>nomatch q) (fun q=>nomatch q) (fun _ _ _ q=>nomatch q) hnew fun _ q=>.tail _ q
 have hal:env.locals ≠ a:=fun q=>haH (q ▸ F.w.loc)
 have hac:∀ n c,env.cells.lookup n = some c→c ≠ a:=fun n c e q=>absurd (F.ok.lt n c e) (Nat.not_lt.mpr (q ▸ ha))
 have W₁:Own env (a::X) (a::H):=by
  refine ⟨fun y hy=>?_,fun q=>?_,fun n c e q=>?_⟩
  ·rcases mc hy with rfl | hy
   ·exact .head _
   ·exact .tail _ (W.sub y hy)
  ·rcases List.mem_cons.mp q with q | q
   ·exact hal q
   ·exact W.loc q
  ·rcases List.mem_cons.mp q with q | q
   ·exact hac n c e q
   ·exact W.cel n c e q
 have p₁:(Rp.accD a m P).ok s₁.heap (a::H):=⟨⟨hN,hd⟩,P.stab pk st.st (fun _ q=>nomatch q) hnew⟩
 refine store hs I₁ F₁ (.opq a) fun s₂ st₂ I₂ F₂=>?_
 have p₂:=Rp.frame p₁ W₁ F₁.w st₂.st
 refine h a haX prog w A env s₂ (a::H) Q E T R I₂ F₂ W₁ p₂ fun o P₂ f s₃ ho st₃ I₃ p₃ ok=>?_
 obtain ⟨d,d',P₁,rfl,hΦ,conv⟩:=ho
 cases f <;> first | (exact ok.elim) | skip
 obtain ⟨hv,p₄⟩:=conv s₃.heap H _ haH hN ok p₃
 refine k (.ret d') P₁ _ _ hΦ ?_ (I₃.sub fun _ q=>.tail _ q) p₄ hv
 have:SStep (wr sc env ++ (a::X)) s s₃:=(st.up.trans (st₂.mono fun y hy=>.inl (List.mem_append_left _ hy))).trans st₃
 refine this.mono fun y hy=>?_
 rcases List.mem_append.mp hy with q | q
 ·exact .inl (List.mem_append_left _ q)
 ·rcases mc q with rfl | q
  ·exact .inr ha
  ·exact .inl (List.mem_append_right _ q)
noncomputable def itemsL (m:List (Str × D)):List D:=m.map fun p=>.tuple [.str p.1,p.2]
theorem itemsL_get {m:List (Str × D)}{i:Nat}{d:D}(h:(itemsL m)[i]? = some d):∃ k x,m[i]? = some (k,x)∧d = .tuple [.str k,x]:=by
 unfold itemsL at h
 rw [List.getElem?_map] at h
 cases q:m[i]? with
 | none=>rw [q] at h;cases h
 | some p=>rw [q] at h;cases h;exact ⟨p.1,p.2,rfl,rfl⟩
theorem VP.getIdx {h:Heap}{H:List Addr}{l:List (Str × Value)}{m:List (Str × D)}(x:VP h H l m) {i:Nat}{k:Str}{d:D}(e:m[i]? = some (k,d)):∃ v,l[i]? = some (k,v)∧V h H v d:=by
 induction x generalizing i with
 | nil=>simp at e
 | cons a _ ih=>
  cases i with
  | zero=>cases Option.some.inj e;exact ⟨_,rfl,a⟩
  | succ i=>exact ih e
noncomputable def itemSt (prog:Program) (w:WW) (it d:Addr) (kvs:List (Str × Value)) (m:List (Str × D)) (ep:Nat) (i:Nat):Rp [it] where
 ok h H:=(∃ ok ov,IsItemIter h it d i kvs.length ep ok ov)∧h.DictAt (strK prog w) d kvs ep∧d ∉ H∧N0 ≤ d∧d < h.objs.size∧N0 ≤ it∧VP h H kvs m
 stab:=fun {h h' Y H H'} x st hY hH=>by
  refine ex06 x fun zq1 x2 x3 x4 x5 x6 x7=>?_;obtain ⟨ok,ov,x1⟩:=zq1
  refine ⟨⟨ok,ov,st.keep _ _ x1 (fun q=>(hY _ q).2 (.head _)) (tabs_lt x6)⟩,x2.at fun o e=>st.keep _ _ e (fun q=>x3 (hY _ q).1) (tabs_lt x4),fun q=>(hH _ q).elim x3 fun z=>Nat.lt_irrefl _ (Nat.lt_of_lt_of_le x5 z),x4,Nat.lt_of_lt_of_le x5 st.size,x6,x7.step st (fun y q=>(hY y q).1) hH⟩
theorem itemItr {prog:Program}{w:WW}{A:Around}{it d:Addr}{kvs:List (Str × Value)}{m:List (Str × D)}{ep:Nat}{elts:List Expr}{kk:Nat}{p:Pos}(hh:A.handled = none) (hne:d ≠ it) (hl:kvs.length = m.length):Itr prog w A (.Tuple elts kk p) it [it] (itemsL m) (itemSt prog w it d kvs m ep) where
 item:=fun i x s H Q E hd hst hY hH hN hQ=>by
  refine ex06 hst fun zq1 x2 x3 x4 x5 x6 x7=>?_;obtain ⟨ok,ov,x1⟩:=zq1
  refine ex21 (itemsL_get hd) fun k y hk zq1=>?_;subst zq1
  refine ex11 (x7.getIdx hk) fun v hv vv=>?_
  have hitlt:it < s.heap.objs.size:=Heap.lt_size x1
  refine with_size (wpAny_pyNext_items_item x1 x2 hv fun key h1 hkey ho ht hz hkeep hsz=>?_)
  refine ⟨_,rfl,with_size (wpAny_letOwnedTupleGo_items ho fun h2 ho2 hs2 hsz2=>?_)⟩
  obtain ⟨t,rfl⟩:=Value.isStrOf_shape (x:=k) (v:=key) hkey
  have q1:Quiet [it] s { s with heap:=h1 }:=⟨fun b o n e=>hkeep b o (fun z=>n (by rw [z];exact .head _)) e,hsz,rfl,rfl⟩
  have q2:Quiet [it] { s with heap:=h1 } { s with heap:=h2 }:=Quiet.same (s:={ s with heap:=h1 }) (tk:=s.toks) hs2
  have q3:=q1.trans q2
  have hw:∀ y ∈ [it],N0 ≤ y:=fun y hy=>by rcases ms hy with rfl;exact x6
  have st3:=(q3.st hw).st
  have hTne:s.heap.objs.size ≠ it:=Nat.ne_of_gt hitlt
  refine hQ _ _ q3 ⟨⟨_,_,ho2⟩,x2.at fun o e=>q3.keep _ _ (fun q=>hne (List.mem_singleton.mp q)) e,x3,x4,Nat.lt_of_lt_of_le x5 st3.size,x6,x7.step st3 hY fun _ q=>.inl q⟩ ?_
  exact .tuple ((hs2.2 _ hTne).trans ht) rfl rfl (fun q=>Nat.lt_irrefl _ (hH _ q)) hN (.cons (.str _ _) (.cons (vv.step st3 hY fun _ q=>.inl q) .nil))
 done:=fun s H Q E hst hQ=>by
  refine ex02 hst fun zq1 x2 _=>?_;obtain ⟨ok,ov,x1⟩:=zq1
  have hn:kvs[(itemsL m).length]? = none:=List.getElem?_eq_none (by simp [itemsL,hl])
  have x1':IsItemIter s.heap it d ((itemsL m).length) kvs.length ep ok ov:=x1
  refine with_size (wpAny_pyNext_items_end hh x1' x2 hn fun h' he hz=>?_)
  exact hQ _ ⟨fun b o n e=>he b o (fun z=>n (by rw [z];exact .head _)) e,hz,rfl,rfl⟩
 self:=fun i s H Q E hst hQ=>by
  obtain ⟨⟨ok,ov,x1⟩,_⟩:=hst
  exact kcp_self x1 hQ
theorem EVJ.items {o:Expr}{apos pos tp:Pos}{m:List (Str × D)}{elts:List Expr}{kk:Nat}(he:EVP h₁ r sc vars o (dictD m)) (hs:notSuper o = true:=by rfl) (hl:(apos.endLine == pos.line) = true:=by rfl) :
  EVJ h₁ r sc vars (.Call (.Attribute o "items" apos) [] [] pos) (.Tuple elts kk tp) (itemsL m):=by
 intro prog w A env s H Q E T R I O k
 refine mcall (args:=[]) hs hl (fun _ _=>rfl) (by decide) (he prog w A env s H _ E T R I O fun ov s₁ st I₁ hv=>?_)
 refine ex13 hv.asDI fun d zq1 hdH hdN hdi=>?_;subst zq1
 refine ex11 (hdi.dictOf prog w) fun kvs hd vp=>?_
 refine getMethod_builtin hd.typeIs PySem.F.plainAttrs_dict PySem.F.slot_dict_items PySem.F.type_dict_items hd.mapOf.noDict ?_
 have hp:((backTo pos (starEach [] env)).any (·.1) || ([]:List (Option Str × Sem Value)).any (·.1.isNone)) = false:=rfl
 refine callWith_of (P:=Kp h₁) hp (KeepOK.builtin T _) (evalArgs_of rfl (Calls.spliced_nil ⟨I₁.kp,?_⟩))
 obtain ⟨ep,hda⟩:=hd.dictAt
 have hlt:d < s₁.heap.objs.size:=hda.lt_size
 refine call_meetsIn PySem.F.slot_dict_items hd.typeIs PySem.F.entry_dict_items (PySem.F.args_dict_items_1 _) (meets_dict_items (strK prog w) d (notSys hdN)) ⟨⟨kvs,hd⟩,?_⟩
 refine wpAny_pyIter_items (knd:=strK prog w) (d:=d) (kvs:=kvs) (ep:=ep) ⟨_,Heap.get?_push_size _ rfl,rfl,rfl⟩ (hda.push _) ?_
 generalize hh2:s₁.heap.push { cls:=.type "dict_items",data:=.fields #[.ref d] } = h2
 have hs2:h2.objs.size = s₁.heap.objs.size + 1:=by rw [← hh2];simp
 have old:∀ b o,s₁.heap.get? b = some o→h2.get? b = some o:=fun b o e=>by rw [← hh2];exact Heap.get?_push_of_some _ e
 have st2:SStep [] s₁ { s₁ with heap:=h2 }:=SStep.heap' (Step.of_keeps old (by lia))
 have I₂:Inv h₁ H { s₁ with heap:=h2 }:=I₁.grown (t:=s₁.toks) old (by lia)
 have st3:SStep [] { s₁ with heap:=h2 } { s₁ with heap:=h2.push { cls:=.type "dict_itemiterator",data:=.fields #[.none,.bool false,.ref d,.int 0 0,.int kvs.length 0,.int ep 0,.none,.none] } }:=SStep.heap' (Step.push _)
 have hne:d ≠ h2.objs.size:=Nat.ne_of_lt (by rw [hs2];exact Nat.lt_succ_of_lt hlt)
 have I₃:=I₂.pushHide { cls:=.type "dict_itemiterator",data:=.fields #[.none,.bool false,.ref d,.int 0 0,.int kvs.length 0,.int ep 0,.none,.none] }
 have hsz2:s₁.heap.objs.size ≤ h2.objs.size:=by rw [hs2];exact Nat.le_succ _
 refine k h2.objs.size [h2.objs.size] _ _ (itemItr (prog:=prog) (w:=w) (ep:=ep) R.hd hne vp.length) ((st.trans st2).trans st3) I₃ (fun y hy=>by rcases ms hy with rfl;exact Nat.le_trans st.st.size hsz2) ?_
 refine ⟨⟨_,_,Heap.get?_push_size _ rfl⟩,hda.at fun o e=>Heap.get?_push_of_some _ (old _ _ e),fun q=>?_,hdN,Nat.lt_of_lt_of_le hlt (st2.trans st3).st.size,Nat.le_trans I₁.size hsz2,?_⟩
 ·rcases List.mem_cons.mp q with q | q
  ·exact hne q
  ·exact hdH q
 ·refine vp.step (st2.trans st3).st (fun _ q=>nomatch q) fun y q=>?_
  rcases mc q with rfl | q
  ·exact .inr hsz2
  ·exact .inl q
end
end Mine
namespace Mine
variable [Wd]
section
variable {h₁:Gl}{r:Nat}{sc:Sc}{vars:List (Str × D)}{env:Env}{X H:List Addr}{P P' P'':Rp X}
theorem def12:DefOf (stOf 12) "add_callers" (parOf (stOf 12)) (bodyOf (stOf 12)) (scOf0 (stOf 12)):=⟨⟨_,_,_,_,_,_,rfl⟩,rfl,rfl,rfl⟩
theorem def11:DefOf (stOf 11) "add_func_stats" (parOf (stOf 11)) (bodyOf (stOf 11)) (scOf0 (stOf 11)):=⟨⟨_,_,_,_,_,_,rfl⟩,rfl,rfl,rfl⟩
noncomputable def isTup:D→Bool
 | .tuple _=>true
 | _=>false
theorem TSP.isTuple {e:Expr}{d:D}{p p2 pos:Pos}(he:EVP h₁ r sc vars e d) (hd:(∃ i,d = .int i) ∨ ∃ l,d = .tuple l) (hi:sc.names.lookup (Str.ofString "isinstance") = some .globalImplicit) (ht:sc.names.lookup (Str.ofString "tuple") = some .globalImplicit) (hs:isStarred e = false:=by rfl) :
  TSP h₁ r sc vars (.Call (.Name "isinstance" p) [e,.Name "tuple" p2] [] pos) (isTup d):=by
 intro prog w A env s H Q E T R I O k
 have hp:plainTest (.Call (.Name "isinstance" p) [e,.Name "tuple" p2] [] pos):=rfl
 refine wpAny_isTrue_value (e:=.Call (.Name "isinstance" p) [e,.Name "tuple" p2] [] pos) ?_ (isTrue_plainTest hp)
 have hn:NameIs h₁ sc "isinstance" (.builtin "isinstance"):=NameIs.bi (by decide) rfl hi
 have hn2:NameIs h₁ sc "tuple" (.type "tuple"):=NameIs.bi (by decide) rfl ht
 with_reducible refine wpAny_Call_NameR (hn prog w A env s H vars p _ E T I O ?_)
 have e0:backTo pos (starEach [e,.Name "tuple" p2] env) = [(false,eval e env),(false,eval (.Name "tuple" p2) env)]:=by
  rw [starEach_cons hs,backTo_cons];rfl
 have hpp:((backTo pos (starEach [e,.Name "tuple" p2] env)).any (·.1) || ([]:List (Option Str × Sem Value)).any (·.1.isNone)) = false:=by rw [e0];rfl
 refine callWith_of (P:=Kp h₁) hpp (KeepOK.builtin T _) (evalArgs_of (by rw [e0];rfl) ?_)
 rw [e0]
 refine Calls.spliced_cons (he prog w A env s H _ E T R I O fun v s₁ st I₁ hv=>?_)
 refine Calls.spliced_cons (hn2 prog w A env s₁ H vars p2 _ E T I₁ (O.grow st.st) (Calls.spliced_nil ⟨I₁.kp,?_⟩))
 show wpAny (model prog w) A (PySem.call (.builtin "isinstance") [v,.type "tuple"]) _ E s₁
 rcases hd with ⟨i,rfl⟩ | ⟨l,rfl⟩
 ·obtain ⟨_,rfl⟩:=V.intI hv
  refine IsiPair.int_tuple ?_
  with_reducible refine wpAny_truthy_bool ?_
  exact k _ (st.trans (SStep.toks s₁ _)) (I₁.toks _)
 ·refine ex43 hv.asTuple fun a o vs n zq1 e1 c1 _=>?_;subst zq1
  refine IsiPair.tuple_tuple e1 c1 ?_
  with_reducible refine wpAny_truthy_bool ?_
  exact k _ st I₁
noncomputable def tupE:Expr:=match (forBody (innOf (stOf 12) 2)).headD (.Pass ⟨0,0,0,0⟩) with
 | .If _ (.If _ (s::_) _ _::_) _ _=>valE s
 | _=>.Constant .none 0 ⟨0,0,0,0⟩
abbrev TupAdd (h₁:Gl) (r:Nat):Prop:=∀ (vars:List (Str × D)) (a:Addr) (m:List (Str × D)) (k:Str) (i j u v:Int),Has vars "caller" (.tuple [.int i,.int j])→Has vars "func" (.str k)→Has vars "new_callers" (opq a)→dget m k = some (.tuple [.int u,.int v]) →
 EVR h₁ r (scOf (stOf 12)) vars [a] (Rp.accD (X:=[]) a m Rp.nil) tupE (.tuple [.int (i + u),.int (j + v)]) (Rp.accD (X:=[]) a m Rp.nil)
noncomputable def addD:D→D→D
 | .int j,.int i=>.int (i + j)
 | .tuple [.int i,.int j],.tuple [.int u,.int v]=>.tuple [.int (i + u),.int (j + v)]
 | _,_=>.none
noncomputable def merge1 (t:List (Str × D)) (k:Str) (d:D):List (Str × D):=match dget t k with
 | none=>dput t k d
 | some e=>dput t k (addD d e)
noncomputable def Alike (d e:D):Prop:=(∃ i j,d = .int i∧e = .int j) ∨ ∃ i j u v,d = .tuple [.int i,.int j]∧e = .tuple [.int u,.int v]
theorem dput_fresh {m:List (Str × D)}{k:Str}{d:D}(h:k ∉ m.map (·.1)):dput m k d = m ++ [(k,d)]:=by
 unfold dput
 rw [if_neg]
 intro q
 refine ex11 (List.any_eq_true.mp q) fun p hp e=>?_
 exact h (by rw [← beq_iff_eq.mp e];exact List.mem_map_of_mem hp)
theorem take_dput {m:List (Str × D)}{i:Nat}{k:Str}{d:D}(hn:(m.map (·.1)).Nodup) (h:m[i]? = some (k,d)):dput (m.take i) k d = m.take (i + 1):=by
 obtain ⟨hi,e⟩:=List.getElem?_eq_some_iff.mp h
 rw [dput_fresh]
 ·rw [List.take_add_one,h];rfl
 ·intro q
  refine ex11 (List.mem_map.mp q) fun p hp e2=>?_
  obtain ⟨j,hj,e3⟩:=List.getElem_of_mem hp
  have hj':j < i:=by simp at hj;lia
  rw [List.getElem_take] at e3
  have hk1:(m.map (·.1))[j]? = some k:=by rw [List.getElem?_map,List.getElem?_eq_getElem (by lia),e3];simp [e2]
  have hk2:(m.map (·.1))[i]? = some k:=by rw [List.getElem?_map,h];rfl
  have:=(List.getElem?_inj (by simp;lia) hn).mp (hk1.trans hk2.symm)
  lia
theorem DI.drop {h:Heap}{a:Addr}{m:List (Str × D)}(x:DI h (a::H) a m):DI h H a m:=by
 refine ex22 x fun es n e v nd=>?_
 exact ⟨es,n,e,v.step (X:=[]) (Step.refl _ _) (fun _ q=>nomatch q) fun _ q=>.inl (.tail _ q),nd⟩
theorem callers_ok {t:List (Str × D)}{k:Str}{d:D}(hT:TupAdd h₁ r) (hn:(t.map (·.1)).Nodup) (hl:t.length ≤ 1000) (hk:dget t k = none ∨ ∃ e,dget t k = some e∧Alike d e):CallOK h₁ (r + 1) (.ref 112) [dictD t,dictD [(k,d)]] (dictD (merge1 t k d)):=by
 refine CallOK.of_def (xs:=["target", "source"]) Top1.fCal def12 ?_ ?_ (by decide) ?_
 ·intro m vs hl
  refine ex20 (len2 hl) fun _ _ zq1=>?_;subst zq1
  rfl
 ·exact fm rfl (fm rfl fn)
 ·obtain ⟨vs,hvs⟩:∃ vs:List (Str × D),vs = [((("source":Str)),dictD [(k,d)]),("target",dictD t)]:=⟨_,rfl⟩
  have v1:Has vs "target" (dictD t):=by rw [hvs];exact Has.here.skip rfl
  have v2:Has vs "source" (dictD [(k,d)]):=by rw [hvs];exact Has.here
  show SX h₁ r (scOf (stOf 12)) [((("source":Str)),dictD [(k,d)]),("target",dictD t)] (bodyOf (stOf 12)) _
  rw [← hvs]
  clear hvs
  have hb:bodyOf (stOf 12) = innOf (stOf 12) 0::innOf (stOf 12) 1::innOf (stOf 12) 2::[innOf (stOf 12) 3]:=rfl
  rw [hb]
  refine SXR.pure (P:=Rp.nil) ?_ Rp.nil_ok
  refine ex30 (⟨_,_,_,rfl⟩:∃ p1 p2 p3,innOf (stOf 12) 0 = .Assign [.Name "new_callers" p1] (.Dict [] [] p2) p3) fun p1 p2 p3 hs0=>?_
  rw [hs0]
  refine SXR.newDict EVN.dict0 (.inl rfl) rfl fun a ha=>?_
  refine ex80 (⟨_,_,_,_,_,_,_,_,rfl,rfl⟩:∃ q1 q2 q3 q4 q5 q6 q7 k1,innOf (stOf 12) 1 = .For (.Tuple [.Name "func" q1,.Name "caller" q2] k1 q3) (.Call (.Attribute (.Name "target" q4) "items" q5) [] [] q6) (forBody (innOf (stOf 12) 1)) [] q7∧(q5.endLine == q6.line) = true) fun q1 q2 q3 q4 q5 q6 q7 k1 hf1=>?_
  refine ex80 (⟨_,_,_,_,_,_,_,_,rfl,rfl⟩:∃ q1 q2 q3 q4 q5 q6 q7 k1,innOf (stOf 12) 2 = .For (.Tuple [.Name "func" q1,.Name "caller" q2] k1 q3) (.Call (.Attribute (.Name "source" q4) "items" q5) [] [] q6) (forBody (innOf (stOf 12) 2)) [] q7∧(q5.endLine == q6.line) = true) fun u1 u2 u3 u4 u5 u6 u7 k2 hf2=>?_
  rw [hf1.1,hf2.1]
  have tgt:∀ {vs:List (Str × D)}{kk:Nat}{p1 p2 p3:Pos}{x:Str}{y:D},Tgt (scOf (stOf 12)) (.Tuple [.Name "func" p1,.Name "caller" p2] kk p3) vs (.tuple [.str x,y]) (("caller",y)::("func",.str x)::vs):=fun {vs kk p1 p2 p3 x y}=>.tup rfl (fun e he=>by
   simp only [mcI,List.not_mem_nil,or_false] at he
   rcases he with rfl | rfl <;> exact .inl rfl) rfl
  refine SXR.for_ (items:=itemsL t) (EVJ.items (EVP.name (v1.skip rfl) rfl) rfl hf1.2) (fun i vs P=>P = Rp.accD (X:=[]) a (t.take i) Rp.nil∧Has vs "source" (dictD [(k,d)])∧Has vs "new_callers" (opq a)) ?k1 ?k2 ⟨by rw [List.take_zero],v2.skip rfl,Has.here⟩ (fun _ _=>rfl)
  case k1=>
   intro i dd vs P hd zq
   refine ex02 zq fun zq1 w1 w2=>?_;subst zq1
   refine ex21 (itemsL_get hd) fun kk x hx zq1=>?_;subst zq1
   refine ⟨_,tgt,?_⟩
   conv=>arg 7;whnf
   refine SXR.kont (SXR1.setD (m':=t.take i) (P':=Rp.nil) ((w2.skip rfl).skip rfl) (EVP.re (EVP.name Has.here rfl)) (EVP.name (Has.here.skip rfl) rfl) (by simp;lia) (by simp) ?_)
   refine SXR.nil (.inl ⟨_,.inl rfl,by rw [take_dput hn hx],(w1.skip rfl).skip rfl,(w2.skip rfl).skip rfl⟩)
  case k2=>
   intro vs P zq
   refine ex02 zq fun zq1 w1 w2=>?_;subst zq1
   have e1:t.take (itemsL t).length = t:=by rw [List.take_of_length_le];simp [itemsL]
   rw [e1]
   refine SXR.for_ (items:=itemsL [(k,d)]) (EVJ.items (EVP.name w1 rfl) rfl hf2.2) (fun i vs P=>P = Rp.accD (X:=[]) a (if i = 0 then t else merge1 t k d) Rp.nil∧Has vs "new_callers" (opq a)) ?k3 ?k4 ⟨rfl,w2⟩ (fun _ _=>rfl)
   case k3=>
    rintro i dd vs P hd ⟨rfl,w2⟩
    have hi:i = 0:=by
     have:=(List.getElem?_eq_some_iff.mp hd).1
     simp [itemsL] at this;exact this
    subst hi
    have hdd:dd = .tuple [.str k,d]:=by simp [itemsL] at hd;exact hd.symm
    subst hdd
    simp only [if_true]
    refine ⟨_,tgt,?_⟩
    have w2':Has (("caller",d)::("func",.str k)::vs) "new_callers" (opq a):=(w2.skip rfl).skip rfl
    conv=>arg 7;whnf
    refine SXR.ite (b:=(dget t k).isSome) (TSR.inD w2' (EVP.name (Has.here.skip rfl) rfl)) (fun hb=>?_) fun hb=>?_
    ·obtain ⟨e,he⟩:=Option.isSome_iff_exists.mp hb
     have hal:Alike d e:=by
      rcases hk with hk | ⟨e',he',hal⟩
      ·rw [he] at hk;cases hk
      ·rw [he] at he';cases he';exact hal
     have hm:merge1 t k d = dput t k (addD d e):=by unfold merge1;rw [he]
     refine SXR.ite (b:=isTup d) (TSP.re (TSP.isTuple (EVP.name Has.here rfl) ?_ rfl rfl)) (fun hb2=>?_) fun hb2=>?_
     ·rcases hal with ⟨i,j,rfl,rfl⟩ | ⟨i,j,u,v,rfl,rfl⟩
      ·exact .inl ⟨i,rfl⟩
      ·exact .inr ⟨_,rfl⟩
     ·rcases hal with ⟨i,j,rfl,rfl⟩ | ⟨i,j,u,v,rfl,rfl⟩
      ·exact absurd hb2 (by simp [isTup])
      ·refine SXR.kont (SXR1.setD (m':=t) (P':=Rp.nil) w2' (hT _ a t k i j u v Has.here (Has.here.skip rfl) w2' he) (EVP.name (Has.here.skip rfl) rfl) (by lia) (by simp) ?_)
       exact SXR.done (SXR.done (SXR.nil (.inl ⟨_,.inl rfl,by rw [if_neg (by decide),hm];rfl,w2'⟩)))
     ·rcases hal with ⟨j,i,rfl,rfl⟩ | ⟨i,j,u,v,rfl,rfl⟩
      rotate_left
      ·exact absurd hb2 (by simp [isTup])
      ·refine SXR.kont (SXR1.augD w2' (EVP.name (Has.here.skip rfl) rfl) he (EVP.name Has.here rfl) IIp.add (by lia) (by simp) ?_)
       exact SXR.done (SXR.done (SXR.nil (.inl ⟨_,.inl rfl,by rw [if_neg (by decide),hm];rfl,w2'⟩)))
    ·have he:dget t k = none:=by
      cases q:dget t k with
      | none=>rfl
      | some x=>rw [q] at hb;cases hb
     have hm:merge1 t k d = dput t k d:=by unfold merge1;rw [he]
     refine SXR.kont (SXR1.setD (m':=t) (P':=Rp.nil) w2' (EVP.re (EVP.name Has.here rfl)) (EVP.name (Has.here.skip rfl) rfl) (by lia) (by simp) ?_)
     exact SXR.done (SXR.nil (.inl ⟨_,.inl rfl,by rw [if_neg (by decide),hm],w2'⟩))
   case k4=>
    rintro vs P ⟨rfl,w2⟩
    have e2:¬ (itemsL [(k,d)]).length = 0:=by simp [itemsL]
    rw [if_neg e2]
    obtain ⟨p6,hr⟩:∃ p6,innOf (stOf 12) 3 = .Return (some (retE (innOf (stOf 12) 3))) p6:=⟨_,rfl⟩
    rw [hr]
    refine SXR.ret (EVP.re (EVP.name w2 rfl)) ⟨opq a,dictD (merge1 t k d),Rp.nil,rfl,.inl rfl,fun h H v haH hN hv p=>?_⟩
    have:=hv.asOpq
    subst this
    exact ⟨p.1.2.drop.v haH hN,trivial⟩
theorem stats_ok {t:List (Str × D)}{k:Str}{d:D}{a1 a2 a3 a4 b1 b2 b3 b4:Int}(hT:TupAdd h₁ r) (hn:(t.map (·.1)).Nodup) (hl:t.length ≤ 1000) (hk:dget t k = none ∨ ∃ e,dget t k = some e∧Alike d e) :
  CallOK h₁ (r + 2) (.ref 105) [.tuple [.int a1,.int a2,.int a3,.int a4,dictD t],.tuple [.int b1,.int b2,.int b3,.int b4,dictD [(k,d)]]] (.tuple [.int (b1 + a1),.int (b2 + a2),.int (b3 + a3),.int (b4 + a4),dictD (merge1 t k d)]):=by
 refine CallOK.of_def (xs:=["target", "source"]) Top1.fAdd def11 ?_ ?_ (by decide) ?_
 ·intro m vs hl
  refine ex20 (len2 hl) fun _ _ zq1=>?_;subst zq1
  rfl
 ·exact fm rfl (fm rfl fn)
 ·obtain ⟨vs,hvs⟩:∃ vs:List (Str × D),vs = [((("source":Str)),.tuple [.int b1,.int b2,.int b3,.int b4,dictD [(k,d)]]),("target",.tuple [.int a1,.int a2,.int a3,.int a4,dictD t])]:=⟨_,rfl⟩
  have v1:Has vs "target" (.tuple [.int a1,.int a2,.int a3,.int a4,dictD t]):=by rw [hvs];exact Has.here.skip rfl
  have v2:Has vs "source" (.tuple [.int b1,.int b2,.int b3,.int b4,dictD [(k,d)]]):=by rw [hvs];exact Has.here
  show SX h₁ (r + 1) (scOf (stOf 11)) [((("source":Str)),.tuple [.int b1,.int b2,.int b3,.int b4,dictD [(k,d)]]),("target",.tuple [.int a1,.int a2,.int a3,.int a4,dictD t])] (bodyOf (stOf 11)) _
  rw [← hvs]
  clear hvs
  conv=>arg 5;whnf
  have sto:∀ {l:List Expr},(∀ e ∈ l,nmOf e ∈ (["cc", "nc", "tt", "ct", "callers", "t_cc", "t_nc", "t_tt", "t_ct", "t_callers"]:List Str))→∀ e ∈ l,Sto (scOf (stOf 11)) (nmOf e):=fun h e he=>by
   have:=h e he
   generalize nmOf e = x at this
   simp only [mcI,List.not_mem_nil,or_false] at this
   rcases this with rfl | rfl | rfl | rfl | rfl | rfl | rfl | rfl | rfl | rfl <;> exact .inl rfl
  refine SX.unpack (EVP.name v2 rfl) rfl (sto (by decide)) rfl rfl rfl ?_
  refine SX.unpack (EVP.name (((((v1.skip rfl).skip rfl).skip rfl).skip rfl).skip rfl) rfl) rfl (sto (by decide)) rfl rfl rfl ?_
  show SX h₁ (r + 1) (scOf (stOf 11)) (("t_callers",dictD t)::("t_ct",.int a4)::("t_tt",.int a3)::("t_nc",.int a2)::("t_cc",.int a1)::("callers",dictD [(k,d)])::("ct",.int b4)::("tt",.int b3)::("nc",.int b2)::("cc",.int b1)::vs) _ _
  refine SX.ret (EVP.tuple (EVS.cons (EVP.binop (EVP.name ?x1 rfl) (EVP.name ?x2 rfl) IOp.add) (EVS.cons (EVP.binop (EVP.name ?x3 rfl) (EVP.name ?x4 rfl) IOp.add) (EVS.cons (EVP.binop (EVP.name ?x5 rfl) (EVP.name ?x6 rfl) IOp.add) (EVS.cons (EVP.binop (EVP.name ?x7 rfl) (EVP.name ?x8 rfl) IOp.add)
   (EVS.cons (EVP.call (NameIs.glob (by decide) rfl) (KeepOK.fn Top1.fCal) (EVS.cons (EVP.name ?x9 rfl) (EVS.cons (EVP.name ?x10 rfl) EVS.nil)) (callers_ok hT hn hl hk)) EVS.nil)))))) (.inl rfl)
  all_goals rfl
end
end Mine
namespace Mine
section
variable {prog:Program}{w:World}{A:Around}{E:Value→Shared→Prop}{s:Shared}
theorem drawT_item {it t:Addr}{i:Nat}{items:Array Value}{x:Value}{Q:Value→Shared→Prop}(hit:s.heap.IsTupleIter it t i) (ht:s.heap.IsTuple t items) (hx:items[i]? = some x)
  (hQ:∀ h',h'.IsTupleIter it t (i + 1)→Heap.SameBut it s.heap h'→Q x { s with heap:=h' }):wpAny (model prog w) A (Builtin.SmallTypes.nextOf (.ref it)) Q E s:=by
 refine ex12 (id hit) fun o ho hc hd=>?_
 refine ex121 ht fun ol hol _ nl hdl=>?_
 unfold Builtin.SmallTypes.nextOf
 refine wpAny_bind (wpAny_callSpecial?_slot (name:=Str.ofString "__next__") hit.typeIs PySem.F.slot_tuple_iterator_next (wpAny_call_entry PySem.F.slot_tuple_iterator_next hit.typeIs PySem.F.entry_tuple_iterator_next ?_ (PySem.F.args_tuple_iterator_next_1 _)))
 show wpAny _ _ (field (.ref it) 0 >>= _) _ _ s
 refine wpAny_bind (wpAny_field ho hd (x:=.ref t) rfl ?_)
 rw [if_neg (show ¬ ((Value.ref t == Value.none) = true) from Bool.false_ne_true)]
 show wpAny _ _ (field (.ref it) 1 >>= _) _ _ s
 refine wpAny_bind (wpAny_field ho hd (x:=.int i 0) rfl ?_)
 show wpAny _ _ (seqItems? (.ref t) >>= _) _ _ s
 refine wpAny_bind (wpAny_seqItems hol hdl ?_)
 simp only [Int.toNat_natCast,hx]
 refine wpAny_bind (wpAny_setField ho hd (by simp) (wpAny_pure ⟨x,rfl,wpAny_pure (hQ _ ?_ (Heap.SameBut.update ..))⟩))
 exact ⟨_,Heap.get?_update_self _ ho (Obj.isFreed_of_fields (Obj.data_mapFields hd _)),(Obj.cls_mapFields ..).trans hc,by rw [Obj.data_mapFields hd];simp [rawInt]⟩
theorem drawT_end {it t:Addr}{i:Nat}{items:Array Value}{Q:Value→Shared→Prop}(hh:A.handled = none) (hit:s.heap.IsTupleIter it t i) (ht:s.heap.IsTuple t items) (hx:items[i]? = none)
  (hE:∀ h' e,Heap.ExtBut it s.heap h'→(∃ o,h'.get? e = some o∧o.cls = .type "StopIteration")→E (.ref e) { s with heap:=h' }):wpAny (model prog w) A (Builtin.SmallTypes.nextOf (.ref it)) Q E s:=by
 refine ex12 (id hit) fun o ho hc hd=>?_
 refine ex121 ht fun ol hol _ nl hdl=>?_
 unfold Builtin.SmallTypes.nextOf
 refine wpAny_bind (wpAny_callSpecial?_slot (name:=Str.ofString "__next__") hit.typeIs PySem.F.slot_tuple_iterator_next (wpAny_call_entry PySem.F.slot_tuple_iterator_next hit.typeIs PySem.F.entry_tuple_iterator_next ?_ (PySem.F.args_tuple_iterator_next_1 _)))
 show wpAny _ _ (field (.ref it) 0 >>= _) _ _ s
 refine wpAny_bind (wpAny_field ho hd (x:=.ref t) rfl ?_)
 rw [if_neg (show ¬ ((Value.ref t == Value.none) = true) from Bool.false_ne_true)]
 show wpAny _ _ (field (.ref it) 1 >>= _) _ _ s
 refine wpAny_bind (wpAny_field ho hd (x:=.int i 0) rfl ?_)
 show wpAny _ _ (seqItems? (.ref t) >>= _) _ _ s
 refine wpAny_bind (wpAny_seqItems hol hdl ?_)
 simp only [Int.toNat_natCast,hx]
 refine wpAny_bind (wpAny_rule (wpAny_bind (wpAny_setField ho hd (by simp) ?_)))
 show wpAny _ _ (newExc (.type "StopIteration") [] >>= _) _ _ _
 refine wpAny_bind ?_
 simp only [newExc,newTuple]
 refine wpAny_bind (wpAny_newObj_type ?_ (by size_fits))
 refine wpAny_bind (m:=firstArgMember _ _) (wpAny_of_eq (a:=Value.none) (by first | rfl | (simp only [firstArgMember];rfl)) ?_)
 refine wpAny_newObj_type ?_ (by size_fits)
 simp only [raiseNew]
 refine wpAny_bind (wpAny_handled ?_)
 first | rw [show A.in1.handled = none from hh] | rw [hh]
 refine wpAny_bind (wpAny_pure (wpAny_throw ?_))
 exact hE _ _ (((Heap.SameBut.update ..).extBut.push _).push _) ⟨_,Heap.get?_push_size _ rfl,rfl⟩
end
theorem drawsT {prog:Program}{w:World}{A:Around}(hh:A.handled = none) (it t:Addr) (hne:t ≠ it) (items:Array Value) :
  Draws prog w A it [it,t] items.size (fun i v=>items[i]? = some v) (fun i h=>h.IsTupleIter it t i∧h.IsTuple t items) where
 live:=fun _ _ st=>let ⟨o,ho,_⟩:=st.1;⟨o,ho⟩
 frame:=fun _ _ _ st hk=>⟨st.1.at fun o e=>hk it (by simp) o e,st.2.at fun o e=>hk t (by simp) o e⟩
 item:=fun i s Q E hi st hQ=>by
  refine drawT_item st.1 st.2 (x:=items[i]) (by simp [hi]) fun h' hit' hs'=>?_
  exact hQ _ h' s.toks (by simp [hi]) ⟨hit',st.2.extBut hs'.extBut hne⟩ hs'
 done:=fun s Q E st hE=>drawT_end hh st.1 st.2 (by simp) hE
structure ZA (z TI TO i1 i2:Addr) (fp1 fp2:List Addr):Prop where
 a1:TI ≠ z
 a2:TO ≠ z
 a3:TI ≠ TO
 a4:TI ≠ i1
 a5:TI ≠ i2
 a6:TO ≠ i1
 a7:TO ≠ i2
 a8:i1 ≠ z
 a9:i2 ≠ z
 b1:∀ b ∈ fp1,b ≠ z∧b ≠ TO∧b ≠ i2
 b2:∀ b ∈ fp2,b ≠ z∧b ≠ TO∧b ≠ i1
section
variable {prog:Program}{w:World}{A:Around}{E:Value→Shared→Prop}{s:Shared}{z TI TO i1 i2:Addr}{fp1 fp2:List Addr}{n k:Nat}{P1 P2:Nat→Value→Prop}{S1 S2:Nat→Heap→Prop}{a b:Value}
theorem zipD_item {Q:Value→Shared→Prop}(D1:Draws prog w A i1 fp1 n P1 S1) (D2:Draws prog w A i2 fp2 n P2 S2) (Z:ZA z TI TO i1 i2 fp1 fp2) (hk:k < n)
  (hz:IsZip s.heap z TI TO .none) (hTI:IsPair s.heap TI (.ref i1) (.ref i2)) (hTO:IsPair s.heap TO a b) (h1:S1 k s.heap) (h2:S2 k s.heap)
  (hQ:∀ x y h' tk,P1 k x→P2 k y→IsZip h' z TI TO (rawInt s.heap.objs.size)→IsPair h' TO x y→S1 (k + 1) h'→S2 (k + 1) h'→IsPair h' s.heap.objs.size x y →
   (∀ c o,c ≠ z→c ≠ TO→c ≠ i1→c ≠ i2→s.heap.get? c = some o→h'.get? c = some o)→Q (.ref s.heap.objs.size) { s with heap:=h',toks:=tk }) :
  wpAny (model prog w) A (Builtin.«zip.__next__» ⟨[.ref z],[]⟩) (fun fin s'=>∃ v,fin = .done (.ret v)∧Q v s') E s:=by
 show wpAny _ _ (field (.ref z) 2 >>= _) _ _ _
 refine wpAny_bind (wpAny_field hz rfl (x:=.bool false) rfl ?_)
 show wpAny _ _ (field (.ref z) 3 >>= _) _ _ _
 refine wpAny_bind (wpAny_field hz rfl (x:=.ref TI) rfl ?_)
 refine wpAny_bind (wpAny_seqItems hTI rfl ?_)
 show wpAny _ _ (Builtin.SmallTypes.ownedTupleIsFree (.ref z) >>= _) _ _ _
 refine wpAny_bind ?_
 unfold Builtin.SmallTypes.ownedTupleIsFree
 refine wpAny_bind (wpAny_field hz rfl (x:=.none) rfl (wpAny_pure ?_))
 simp only [if_true]
 refine wpAny_bind (wpAny_rule ?_)
 refine wpAny_bind (wpAny_field hz rfl (x:=.ref TO) rfl ?_)
 refine wpAny_bind (wpAny_setField_rec hz (by simp) fun ha hza hsa=>?_)
 replace hza:IsZip ha z TI TO .ellipsis:=hza
 replace hsa:Heap.SameBut z s.heap ha:=hsa
 refine wpAny_bind ?_
 simp only [List.zipIdx_cons,List.zipIdx_nil,List.forIn_cons,List.forIn_nil]
 refine wpAny_bind (wpAny_bind (wpAny_onRaise ?_))
 show wpAny _ _ (Builtin.SmallTypes.nextOf (.ref i1) >>= _) _ _ _
 have f1a:S1 k ha:=D1.frame _ _ _ h1 fun c hc o e=>hsa.extBut c o (Z.b1 c hc).1 e
 have f2a:S2 k ha:=D2.frame _ _ _ h2 fun c hc o e=>hsa.extBut c o (Z.b2 c hc).1 e
 refine wpAny_bind (D1.item k { s with heap:=ha } _ _ hk f1a fun x hb tb hPx f1b hsb=>wpAny_pure ?_)
 replace hsb:Heap.SameBut i1 ha hb:=hsb
 have hTOb:IsPair hb TO a b:=hsb.extBut _ _ Z.a6 (hsa.extBut _ _ Z.a2 hTO)
 refine wpAny_bind (wpAny_seqItems hTOb rfl ?_)
 refine wpAny_bind (wpAny_updateSeq_pair hTOb fun hc hTOc hsc=>?_)
 replace hTOc:IsPair hc TO x b:=hTOc
 replace hsc:Heap.SameBut TO hb hc:=hsc
 refine wpAny_bind (wpAny_letGo (wpAny_pure ?_))
 refine wpAny_bind (wpAny_bind (wpAny_onRaise ?_))
 show wpAny _ _ (Builtin.SmallTypes.nextOf (.ref i2) >>= _) _ _ _
 have f2c:S2 k hc:=D2.frame _ _ _ f2a fun c hcc o e=>hsc.extBut c o (Z.b2 c hcc).2.1 (hsb.extBut c o (Z.b2 c hcc).2.2 e)
 refine wpAny_bind (D2.item k { s with heap:=hc,toks:=tb } _ _ hk f2c fun y hd td hPy f2d hsd=>wpAny_pure ?_)
 replace hsd:Heap.SameBut i2 hc hd:=hsd
 have hTOd:IsPair hd TO x b:=hsd.extBut _ _ Z.a7 hTOc
 refine wpAny_bind (wpAny_seqItems hTOd rfl ?_)
 refine wpAny_bind (wpAny_updateSeq_pair hTOd fun he hTOe hse=>?_)
 replace hTOe:IsPair he TO x y:=hTOe
 replace hse:Heap.SameBut TO hd he:=hse
 refine wpAny_bind (wpAny_letGo (wpAny_pure (wpAny_pure ?_)))
 refine wpAny_bind (wpAny_seqItems hTOe rfl ?_)
 refine wpAny_bind (wpAny_newTuple ?_)
 have hsz:he.objs.size = s.heap.objs.size:=by rw [hse.1,hsd.1,hsc.1,hsb.1,hsa.1]
 have hze:IsZip he z TI TO .ellipsis:=hse.extBut _ _ (Ne.symm Z.a2) (hsd.extBut _ _ (Ne.symm Z.a9) (hsc.extBut _ _ (Ne.symm Z.a2) (hsb.extBut _ _ (Ne.symm Z.a8) hza)))
 have hke:∀ c o,c ≠ z→c ≠ TO→c ≠ i1→c ≠ i2→s.heap.get? c = some o→he.get? c = some o:=fun c o c1 c2 c3 c4 e=>
  hse.extBut _ _ c2 (hsd.extBut _ _ c4 (hsc.extBut _ _ c2 (hsb.extBut _ _ c3 (hsa.extBut _ _ c1 e))))
 have f1e:S1 (k + 1) he:=D1.frame _ _ _ f1b fun c hcc o e=>hse.extBut c o (Z.b1 c hcc).2.1 (hsd.extBut c o (Z.b1 c hcc).2.2 (hsc.extBut c o (Z.b1 c hcc).2.1 e))
 have f2e:S2 (k + 1) he:=D2.frame _ _ _ f2d fun c hcc o e=>hse.extBut c o (Z.b2 c hcc).2.1 e
 have hzlt:z < he.objs.size:=Heap.lt_size hze
 show wpAny _ _ (Builtin.SmallTypes.ownedTupleHandOut (.ref z) (.ref he.objs.size) >>= _) _ _ _
 refine wpAny_bind ?_
 unfold Builtin.SmallTypes.ownedTupleHandOut
 have hzf:IsZip (he.push { cls:=.type "tuple",data:=.seq #[x,y] }) z TI TO .ellipsis:=Heap.get?_push_of_some _ hze
 refine wpAny_bind (wpAny_setField_rec hzf (by simp) fun hg hzg hsg=>?_)
 replace hzg:IsZip hg z TI TO (rawInt he.objs.size):=hzg
 replace hsg:Heap.SameBut z (he.push { cls:=.type "tuple",data:=.seq #[x,y] }) hg:=hsg
 refine wpAny_setField_rec hzg (by simp) fun hh hzh hsh=>?_
 replace hzh:IsZip hh z TI TO (rawInt he.objs.size):=hzh
 replace hsh:Heap.SameBut z hg hh:=hsh
 have up:∀ c o,c ≠ z→he.get? c = some o→hh.get? c = some o:=fun c o c1 e=>hsh.extBut _ _ c1 (hsg.extBut _ _ c1 (Heap.get?_push_of_some _ e))
 have hTh:IsPair hh he.objs.size x y:=hsh.extBut _ _ (Nat.ne_of_gt hzlt) (hsg.extBut _ _ (Nat.ne_of_gt hzlt) (Heap.get?_push_size _ rfl))
 rw [hsz] at hzh hTh
 refine wpAny_pure ⟨_,rfl,?_⟩
 show Q (.ref he.objs.size) _
 rw [hsz]
 exact hQ x y hh td hPx hPy hzh (up _ _ Z.a2 hTOe) (D1.frame _ _ _ f1e fun c hcc o e=>up c o (Z.b1 c hcc).1 e) (D2.frame _ _ _ f2e fun c hcc o e=>up c o (Z.b2 c hcc).1 e) hTh fun c o c1 c2 c3 c4 e=>up c o c1 (hke c o c1 c2 c3 c4 e)
theorem zipD_end {Q:Fin→Shared→Prop}(D1:Draws prog w A i1 fp1 n P1 S1) (Z:ZA z TI TO i1 i2 fp1 fp2)
  (hz:IsZip s.heap z TI TO .none) (hTI:IsPair s.heap TI (.ref i1) (.ref i2)) (h1:S1 n s.heap)
  (hE:∀ h' e,(∀ c o,c ≠ z→c ≠ i1→s.heap.get? c = some o→h'.get? c = some o)→(∃ o,h'.get? e = some o∧o.cls = .type "StopIteration")→E (.ref e) { s with heap:=h' }) :
  wpAny (model prog w) A (Builtin.«zip.__next__» ⟨[.ref z],[]⟩) Q E s:=by
 show wpAny _ _ (field (.ref z) 2 >>= _) _ _ _
 refine wpAny_bind (wpAny_field hz rfl (x:=.bool false) rfl ?_)
 show wpAny _ _ (field (.ref z) 3 >>= _) _ _ _
 refine wpAny_bind (wpAny_field hz rfl (x:=.ref TI) rfl ?_)
 refine wpAny_bind (wpAny_seqItems hTI rfl ?_)
 show wpAny _ _ (Builtin.SmallTypes.ownedTupleIsFree (.ref z) >>= _) _ _ _
 refine wpAny_bind ?_
 unfold Builtin.SmallTypes.ownedTupleIsFree
 refine wpAny_bind (wpAny_field hz rfl (x:=.none) rfl (wpAny_pure ?_))
 simp only [if_true]
 refine wpAny_bind (wpAny_rule ?_)
 refine wpAny_bind (wpAny_field hz rfl (x:=.ref TO) rfl ?_)
 refine wpAny_bind (wpAny_setField_rec hz (by simp) fun ha hza hsa=>?_)
 replace hza:IsZip ha z TI TO .ellipsis:=hza
 replace hsa:Heap.SameBut z s.heap ha:=hsa
 refine wpAny_bind ?_
 simp only [List.zipIdx_cons,List.zipIdx_nil,List.forIn_cons,List.forIn_nil]
 refine wpAny_bind (wpAny_bind (wpAny_onRaise ?_))
 show wpAny _ _ (Builtin.SmallTypes.nextOf (.ref i1) >>= _) _ _ _
 have f1a:S1 n ha:=D1.frame _ _ _ h1 fun c hc o e=>hsa.extBut c o (Z.b1 c hc).1 e
 refine wpAny_bind (D1.done { s with heap:=ha } _ _ f1a fun hb e hsb he=>?_)
 refine ex11 he fun oe hoe hce=>?_
 have hzb:IsZip hb z TI TO .ellipsis:=hsb _ _ (Ne.symm Z.a8) hza
 have hez:e ≠ z:=fun x=>by subst x;rw [hzb] at hoe;cases hoe;simp at hce
 refine wpAny_setField_rec hzb (by simp) fun hc _ hsc=>hE hc e (fun c o c1 c3 x=>hsc.extBut _ _ c1 (hsb _ _ c3 (hsa.extBut _ _ c1 x))) ⟨oe,hsc.extBut _ _ hez hoe,hce⟩
end
end Mine
namespace Mine
theorem zipW {prog:Program}{w:World}{A:Around}(hh:A.handled = none) {z TI TO i1 i2:Addr}{fp1 fp2:List Addr}{n:Nat}{P1 P2:Nat→Value→Prop}{S1 S2:Nat→Heap→Prop}(D1:Draws prog w A.in1 i1 fp1 n P1 S1) (D2:Draws prog w A.in1 i2 fp2 n P2 S2) (Z:ZA z TI TO i1 i2 fp1 fp2) (m1:i1 ∈ fp1) (m2:i2 ∈ fp2) :
  WalksT prog w A z (z::TI::TO::(fp1 ++ fp2)) [z,TO,i1,i2] n (fun i vals=>∃ x y,P1 i x∧P2 i y∧vals = #[x,y])
   (fun i h=>IsZip h z TI TO .none∧IsPair h TI (.ref i1) (.ref i2)∧(∃ a b,IsPair h TO a b)∧S1 i h∧S2 i h)
   (fun i T h=>IsZip h z TI TO (rawInt T)∧IsPair h TI (.ref i1) (.ref i2)∧(∃ a b,IsPair h TO a b)∧S1 (i + 1) h∧S2 (i + 1) h∧T ≠ z∧T ≠ TO∧T ≠ i1∧T ≠ i2) where
 sub:=fun c hc=>by
  simp only [mcI,List.mem_append,List.not_mem_nil,or_false] at hc ⊢
  rcases hc with rfl | rfl | rfl | rfl
  ·exact .inl rfl
  ·exact .inr (.inr (.inl rfl))
  ·exact .inr (.inr (.inr (.inl m1)))
  ·exact .inr (.inr (.inr (.inr m2)))
 frame:=fun i h h' hst hk=>by
  refine ex04 hst fun hz hTI zq1 h1 h2=>?_;obtain ⟨a,b,hTO⟩:=zq1
  exact ⟨hk z (by simp) _ hz,hk TI (by simp) _ hTI,⟨a,b,hk TO (by simp) _ hTO⟩,D1.frame _ _ _ h1 fun c hc o e=>hk c (by simp [hc]) o e,D2.frame _ _ _ h2 fun c hc o e=>hk c (by simp [hc]) o e⟩
 item:=fun i s Q E hi hst hQ=>by
  refine ex04 hst fun hz hTI zq1 h1 h2=>?_;obtain ⟨a,b,hTO⟩:=zq1
  have hT:s.TypeIs (.ref z) "zip":=⟨_,hz,rfl⟩
  unfold pyNext
  refine wpAny_bind (wpAny_attempt (wpAny_callSpecial?_slot (name:=Str.ofString "__next__") hT PySem.F.slot_zip_next
   (wpAny_call_entry PySem.F.slot_zip_next hT PySem.F.entry_zip_next
    (zipD_item D1 D2 Z hi hz hTI hTO h1 h2 fun x y h' tk hx hy a1 a2 a3 a4 a5 hk=>wpAny_pure ?_) (PySem.F.args_zip_next_1 _))))
  have lt:∀ {c o},s.heap.get? c = some o→s.heap.objs.size ≠ c:=fun e=>Nat.ne_of_gt (Heap.lt_size e)
  obtain ⟨o1,l1⟩:=D1.live _ _ h1
  obtain ⟨o2,l2⟩:=D2.live _ _ h2
  exact hQ s.heap.objs.size #[x,y] h' tk ⟨x,y,hx,hy,rfl⟩ (Nat.le_refl _) ⟨_,a5,rfl,_,rfl⟩ ⟨a1,hk _ _ Z.a1 Z.a3 Z.a4 Z.a5 hTI,⟨_,_,a2⟩,a3,a4,lt hz,lt hTO,lt l1,lt l2⟩
   fun c o hc e=>hk c o (fun q=>hc (by simp [q])) (fun q=>hc (by simp [q])) (fun q=>hc (by simp [q])) (fun q=>hc (by simp [q])) e
 go:=fun elts k pos i T s Q E hm hQ=>by
  refine ex05 hm fun hz hTI zq1 h1 h2 _=>?_;obtain ⟨a,b,hTO⟩:=zq1
  refine wpAny_letOwnedTupleGo_zip hz fun h' hz' hs'=>hQ h' ⟨hz',hs'.extBut _ _ Z.a1 hTI,⟨a,b,hs'.extBut _ _ Z.a2 hTO⟩,D1.frame _ _ _ h1 fun c hc o e=>hs'.extBut _ _ (Z.b1 c hc).1 e,D2.frame _ _ _ h2 fun c hc o e=>hs'.extBut _ _ (Z.b2 c hc).1 e⟩ fun c o hc e=>hs'.extBut _ _ (fun q=>hc (by simp [q])) e
 apart:=fun i T h hm hT=>by
  refine ex08 hm fun _ _ _ _ _ t1 t2 t3 t4=>?_
  simp at hT
  rcases hT with q | q | q | q
  ·exact t1 q
  ·exact t2 q
  ·exact t3 q
  ·exact t4 q
 done:=fun s Q E hst hQ=>by
  refine ex04 hst fun hz hTI _ h1 h2=>?_
  have hT:s.TypeIs (.ref z) "zip":=⟨_,hz,rfl⟩
  unfold pyNext
  refine wpAny_bind (wpAny_attempt (wpAny_callSpecial?_slot (name:=Str.ofString "__next__") hT PySem.F.slot_zip_next
   (wpAny_call_entry PySem.F.slot_zip_next hT PySem.F.entry_zip_next (zipD_end D1 Z hz hTI h1 fun h' e hk he=>?_) (PySem.F.args_zip_next_1 _))))
  refine ex11 he fun o ho hc=>?_
  refine wpAny_bind (wpAny_isInstance (T := "StopIteration") (b:=true) ⟨o,ho,hc⟩ isSubtype_stop ?_)
  exact wpAny_pure (hQ h' s.toks fun c o hc e=>hk c o (fun q=>hc (by simp [q])) (fun q=>hc (by simp [q])) e)
 self:=fun i s Q E hst hQ=>wpAny_pyIter_zip hst.1 hQ
noncomputable def zh1 (h:Heap) (l1:Addr):Heap:=h.push { cls:=.type "tuple_iterator",data:=.fields #[.ref l1,.int 0 0] }
noncomputable def zh2 (h:Heap) (l1 l2:Addr):Heap:=(zh1 h l1).push { cls:=.type "tuple_iterator",data:=.fields #[.ref l2,.int 0 0] }
noncomputable def zh3 (h:Heap) (l1 l2:Addr):Heap:=(zh2 h l1 l2).push { cls:=.type "tuple",data:=.seq #[.ref h.objs.size,.ref (zh1 h l1).objs.size] }
noncomputable def zh4 (h:Heap) (l1 l2:Addr):Heap:=(zh3 h l1 l2).push { cls:=.type "tuple",data:=.seq #[.none,.none] }
noncomputable def zh5 (h:Heap) (l1 l2:Addr):Heap:=(zh4 h l1 l2).push { cls:=.type "zip",data:=.fields #[.none,.bool false,.bool false,.ref (zh2 h l1 l2).objs.size,.ref (zh3 h l1 l2).objs.size] }
theorem zipNewT (l1 l2:Addr) (xs ys:Array Value) :
  Meets (Builtin.«zip.__new__» ⟨[.type "zip",.ref l1,.ref l2],[]⟩) (fun _ R s=>s.heap.IsTuple l1 xs∧s.heap.IsTuple l2 ys ∧
   R (.ok (.ret (.ref (zh4 s.heap l1 l2).objs.size))) { s with heap:=zh5 s.heap l1 l2 }):=
 .of_wp fun prog w A R s h=>by
  obtain ⟨hp,g,d,tk,os⟩:=s;refine ex02 h fun hl1 hl2 h=>?_
  have hsub:=PySem.sub_zip
  have hL1:Heap.IsTuple (Shared.heap ⟨hp,g,d,tk,os⟩) l1 xs:=hl1
  have hL2:Heap.IsTuple (Shared.heap ⟨hp.push { cls:=.type "tuple_iterator",data:=.fields #[.ref l1,.int 0 0] },g,d,tk,os⟩) l2 ys:=Heap.IsTuple.push hl2 _
  wp_walk using wpAny_pyIter_tuple hL1,wpAny_pyIter_tuple hL2
  exact ⟨_,rfl,h⟩
theorem zipCallT {prog:Program}{w:World}{A:Around}{E:Value→Shared→Prop}{s:Shared}{l1 l2:Addr}{xs ys:Array Value}{Q:Value→Shared→Prop}(hl1:s.heap.IsTuple l1 xs) (hl2:s.heap.IsTuple l2 ys)
  (h:∀ h',IsZip h' (s.heap.objs.size + 4) (s.heap.objs.size + 2) (s.heap.objs.size + 3) .none→IsPair h' (s.heap.objs.size + 2) (.ref s.heap.objs.size) (.ref (s.heap.objs.size + 1)) →
   IsPair h' (s.heap.objs.size + 3) .none .none→h'.IsTupleIter s.heap.objs.size l1 0→h'.IsTupleIter (s.heap.objs.size + 1) l2 0→h'.objs.size = s.heap.objs.size + 5 →
   (∀ c o,s.heap.get? c = some o→h'.get? c = some o)→Q (.ref (s.heap.objs.size + 4)) { s with heap:=h' }) :
  wpAny (model prog w) A (call (.type "zip") [.ref l1,.ref l2]) Q E s:=by
 refine callType_new PySem.F.called_zip (by decide) (PySem.F.typeCall_zip_2 _ _) (PySem.F.newCall_zip_2 _ _) (fun obj=>PySem.F.args_object_init_3 obj _ _) PySem.F.entry_zip_new (zipNewT l1 l2 xs ys) ⟨hl1,hl2,?_⟩
 have z1:(zh1 s.heap l1).objs.size = s.heap.objs.size + 1:=Heap.size_push ..
 have z2:(zh2 s.heap l1 l2).objs.size = s.heap.objs.size + 2:=by show (Heap.push _ _).objs.size = _;rw [Heap.size_push,z1]
 have z3:(zh3 s.heap l1 l2).objs.size = s.heap.objs.size + 3:=by show (Heap.push _ _).objs.size = _;rw [Heap.size_push,z2]
 have z4:(zh4 s.heap l1 l2).objs.size = s.heap.objs.size + 4:=by show (Heap.push _ _).objs.size = _;rw [Heap.size_push,z3]
 have z5:(zh5 s.heap l1 l2).objs.size = s.heap.objs.size + 5:=by show (Heap.push _ _).objs.size = _;rw [Heap.size_push,z4]
 have p1:∀ c o,(zh4 s.heap l1 l2).get? c = some o→(zh5 s.heap l1 l2).get? c = some o:=fun c o e=>Heap.get?_push_of_some _ e
 have p2:∀ c o,(zh3 s.heap l1 l2).get? c = some o→(zh5 s.heap l1 l2).get? c = some o:=fun c o e=>p1 c o (Heap.get?_push_of_some _ e)
 have p3:∀ c o,(zh2 s.heap l1 l2).get? c = some o→(zh5 s.heap l1 l2).get? c = some o:=fun c o e=>p2 c o (Heap.get?_push_of_some _ e)
 have p4:∀ c o,(zh1 s.heap l1).get? c = some o→(zh5 s.heap l1 l2).get? c = some o:=fun c o e=>p3 c o (Heap.get?_push_of_some _ e)
 have g5:(zh5 s.heap l1 l2).get? (zh4 s.heap l1 l2).objs.size = some _:=Heap.get?_push_size _ rfl
 have g4:=p1 _ _ (Heap.get?_push_size (zh3 s.heap l1 l2) (o:={ cls:=.type "tuple",data:=.seq #[.none,.none] }) rfl)
 have g3:=p2 _ _ (Heap.get?_push_size (zh2 s.heap l1 l2) (o:={ cls:=.type "tuple",data:=.seq #[.ref s.heap.objs.size,.ref (zh1 s.heap l1).objs.size] }) rfl)
 have g2:=p3 _ _ (Heap.get?_push_size (zh1 s.heap l1) (o:={ cls:=.type "tuple_iterator",data:=.fields #[.ref l2,.int 0 0] }) rfl)
 have g1:=p4 _ _ (Heap.get?_push_size s.heap (o:={ cls:=.type "tuple_iterator",data:=.fields #[.ref l1,.int 0 0] }) rfl)
 show _∧_
 rw [z2,z3,z4] at g5
 rw [z1,z2] at g3
 rw [z3] at g4
 rw [z1] at g2
 rw [z4]
 exact ⟨⟨_,g5,rfl⟩,h _ g5 g3 g4 ⟨_,g1,rfl,rfl⟩ ⟨_,g2,rfl,rfl⟩ z5 fun c o x=>p4 c o (Heap.get?_push_of_some _ x)⟩
end Mine
namespace Mine
variable [Wd]
section
variable {h₁:Gl}{r:Nat}{sc:Sc}{vars:List (Str × D)}{env:Env}{X H:List Addr}{P P' P'':Rp X}
theorem V.isTup {h:Heap}{H:List Addr}{v:Value}{l:List D}(x:V h H v (.tuple l)):∃ a vs,v = .ref a∧h.IsTuple a vs∧a ∉ H∧N0 ≤ a∧a < h.objs.size∧VL h H vs.toList l:=by
 refine ex46 x.asTuple fun a o vs n zq1 e1 e2 e3 e4 e5 e6=>?_;subst zq1
 exact ⟨a,vs,rfl,⟨o,e1,e2,n,e3⟩,e4,e5,Heap.lt_size e1,e6⟩
theorem VL.two {h:Heap}{H:List Addr}{vs:Array Value}{i j:Int}(x:VL h H vs.toList [.int i,.int j]):∃ t u,vs = #[.int i t,.int j u]:=by
 obtain ⟨l⟩:=vs
 replace x:=VL.consI x
 refine ex22 x fun _ _ zq1 a b=>?_;subst zq1
 ·
  replace b:=VL.consI b
  obtain ⟨_,_,rfl,b,c⟩:=b
  ·
   obtain rfl:=VL.nilI c;obtain ⟨_,rfl⟩:=V.intI a;obtain ⟨_,rfl⟩:=V.intI b
   exact ⟨_,_,rfl⟩
theorem genElt {prog:Program}{w:WW}{A:Around}{s:Shared}{cenv:Env}{m:Str→Option Value}{p2 p3 p4:Pos}{x y:Int}{t u:Tok}{Q:Value→Shared→Prop}{E:Value→Shared→Prop}(hk:cenv.scope.kind = .function) (ki:cenv.kindOf "i" = some .local) (kj:cenv.kindOf "j" = some .local) (hn:s.heap.Ns cenv.locals m) (hi:m "i" = some (.int x t)) (hj:m "j" = some (.int y u))
  (k:∀ t',Q (.int (x + y) t') { s with toks:=s.toks + 1 }):wpAny (model prog w) A (eval (.BinOp (.Name "i" p2) .Add (.Name "j" p3) p4) cenv) Q E s:=by
 refine wpAny_BinOp (wpAny_Name (wpAny_loadName_local hk ki hn hi ?_) rfl)
 refine wpAny_Name (wpAny_loadName_local hk kj hn hj ?_) rfl
 exact add_int (k _)
theorem genCode {prog:Program}{w:WW}{A:Around}{s:Shared}{env:Env}{pos:Pos}{scope:Scope}{Q:Value→Shared→Prop}{E:Value→Shared→Prop}(T:Top1 h₁) (I:Inv h₁ H s) (hc:env.code = .ref 111) (h1:pos.line = 132) (h2:pos.col = 42)
  (k:∀ cv s',SStep [] s s'→Inv h₁ H s'→(∀ b o,N0 ≤ b→s.heap.get? b = some o→s'.heap.get? b = some o)→s'.gens = s.gens→Q cv s'):wpAny (model prog w) A (genexprCode env pos (Str.ofString "add_callers.<locals>.<genexpr>") scope) Q E s:=by
 have C:CodeHd s.heap 111 107:=CodeHd.kp T.hCal I.kp (by decide) (by decide)
 rcases I.tab.cal with e | ⟨c',o,vs,tk,e1,e2,e3,e4,e6,e7⟩
 ·refine wpAny_genexprCodeX hc (C.code e trivial) (C.tab e) rfl fun c' h' tk hx hge hlt _ hrec htb _=>?_
  refine ex43 hrec fun c₂ o vs tt q1 q2 q3 q4=>?_
  cases q1
  have hz:s.heap.objs.size ≤ h'.objs.size:=Nat.le_trans hge (Nat.le_of_lt hlt)
  have hcH:c' ∉ H:=fun q=>Nat.lt_irrefl _ (Nat.lt_of_lt_of_le (I.hok _ q).2 hge)
  have hcN:N0 ≤ c':=Nat.le_trans I.size hge
  have htab:TabAt h' H 107 132 42 "add_callers.<locals>.<genexpr>":=.inr ⟨c',o,vs,tt,by rw [htb.2,h1,h2];rfl,hcH,hcN,q2,q3,q4⟩
  have I₁:=grown_tab (h₁:=h₁) selCal I hx hz htab tk
  have st₁:Step [] s.heap h':=step_tab selCal hx hz fun ps e'=>by rw [e] at e';cases e';exact ⟨_,htb.2⟩
  exact k _ _ (SStep.heap st₁ tk) I₁ (fun b o l e=>hx b o (fun q=>tabs_lt l (q ▸ selCal.mem)) e) rfl
 ·refine wpAny_genexprCode_hit hc (C.code e1 (by trivial)) (codeAmong_one (by rw [h1];rfl) (by rw [h2];rfl)) ?_
  exact k _ _ (SStep.refl _ _) I (fun _ _ _ e=>e) rfl
theorem exi9 {A0 A1 A2 A3 A4 A5 A6 A7 A8:Type}{p:A0→A1→A2→A3→A4→A5→A6→A7→A8→Prop}(x0:A0) (x1:A1) (x2:A2) (x3:A3) (x4:A4) (x5:A5) (x6:A6) (x7:A7) (x8:A8) (h:p x0 x1 x2 x3 x4 x5 x6 x7 x8):∃ x0 x1 x2 x3 x4 x5 x6 x7 x8,p x0 x1 x2 x3 x4 x5 x6 x7 x8:=⟨x0,x1,x2,x3,x4,x5,x6,x7,x8,h⟩
theorem ZA.of {B l1 l2:Nat}(e1:l1 < B) (e2:l2 < B):ZA (B + 4) (B + 2) (B + 3) B (B + 1) [B,l1] [B + 1,l2]:=
 have n:∀ {i j:Nat},i ≠ j→B + i ≠ B + j:=fun h e=>h (Nat.add_left_cancel e)
 have z:∀ {j:Nat},0 < j→B ≠ B + j:=fun h=>Nat.ne_of_lt (Nat.lt_add_of_pos_right h)
 have m:∀ {l j:Nat},l < B→l ≠ B + j:=fun h=>Nat.ne_of_lt (Nat.lt_of_lt_of_le h (Nat.le_add_right ..))
 ⟨n (by decide),n (by decide),n (by decide),(z (by decide)).symm,n (by decide),(z (by decide)).symm,n (by decide),z (by decide),n (by decide),fm ⟨z (by decide),z (by decide),z (by decide)⟩ (fm ⟨m e1,m e1,m e1⟩ fn),fm ⟨n (by decide),n (by decide),(z (by decide)).symm⟩ (fm ⟨m e2,m e2,Nat.ne_of_lt e2⟩ fn)⟩
theorem VL.pairs {h:Heap}{H:List Addr}{vs:List Value}{i j u v:Int}(x:VL h H vs [.tuple [.int i,.int j],.tuple [.int u,.int v]]) {G:Prop}
  (k:∀ l1 l2 ti tj tu tv,vs = [.ref l1,.ref l2]→h.IsTuple l1 #[.int i ti,.int j tj]→h.IsTuple l2 #[.int u tu,.int v tv]→N0 ≤ l1→N0 ≤ l2→l1 < h.objs.size→l2 < h.objs.size→G):G:=by
 obtain ⟨_,_,e,x1,x2⟩:=x.pair
 obtain ⟨l1,vs1,e1,t1,_,N1,b1,y1⟩:=x1.isTup
 obtain ⟨l2,vs2,e2,t2,_,N2,b2,y2⟩:=x2.isTup
 obtain ⟨ti,tj,f1⟩:=y1.two
 obtain ⟨tu,tv,f2⟩:=y2.two
 exact k l1 l2 ti tj tu tv (by rw [e,e1,e2]) (f1 ▸ t1) (f2 ▸ t2) N1 N2 b1 b2
theorem tupadd:TupAdd h₁ (r + 1):=by
 intro vars a m k i j u v v1 v2 v3 hm
 conv=>arg 7;whnf
 intro prog w A env s H Q E T R I O W p kk
 obtain ⟨hcode,hqual⟩:env.code = .ref 111∧env.qual = Str.ofString "add_callers" ++ ".<locals>.":=O.code rfl
 have hn1:NameIs h₁ (scOf (stOf 12)) "tuple" (.type "tuple"):=NameIs.bi (by decide) rfl rfl
 have hn2:NameIs h₁ (scOf (stOf 12)) "zip" (.type "zip"):=NameIs.bi (by decide) rfl rfl
 with_reducible refine wpAny_Call_NameR (hn1 prog w A env s H vars _ _ E T I O ?_)
 refine callWith_of (P:=Kp h₁) rfl (KeepOK.type T _) (evalArgs_of rfl ?_)
 refine Calls.spliced_cons ?_
 have hkf:=O.kfun
 refine wpAny_GeneratorExp_walksQT R.hd rfl (cl:=[]) (closureFor_of (g:=fun _=>0) fun x hx=>absurd hx (by simp)) (by decide) rfl rfl rfl (by decide) rfl R.limit ?_ (fun _=>rfl)
 have ha:=EVSR.cons (EVP.re (X:=[a]) (P:=Rp.accD (X:=[]) a m Rp.nil) (EVP.name (h₁:=h₁) (r:=r + 1) (sc:=scOf (stOf 12)) (pos:=⟨132,65,132,71⟩) v1 rfl)) (EVSR.cons (EVR.getD (px:=⟨132,73,132,84⟩) (pos:=⟨132,73,132,90⟩) v3 (EVP.name (pos:=⟨132,85,132,89⟩) v2 rfl) hm) EVSR.nil)
 with_reducible refine wpAny_Call_NameR (hn2 prog w A env s H vars _ _ E T I O ?_)
 refine callWith_of (P:=Kp h₁) rfl (KeepOK.type T _) (evalArgs_of rfl (ha.2 prog w A env _ s H _ E T R I O W p fun vs s₁ st₁ I₁ p₁ hvs=>⟨I₁.kp,?_⟩))
 refine VL.pairs hvs fun l1 l2 ti tj tu tv zq1 t1 t2 N1 N2 b1 b2=>?_;subst zq1
 show wpAny (model prog w) A (PySem.call (.type "zip") [.ref l1,.ref l2]) _ E s₁
 refine zipCallT t1 t2 fun h' g1 g2 g3 g4 g5 g6 g7=>?_
 refine wpAny_pyIter_zip g1 ?_
 have stz:SStep [] s₁ { s₁ with heap:=h' }:=SStep.heap' (Step.of_keeps g7 (by rw [g6];exact Nat.le_add_right _ _))
 refine gr (s₁.heap.objs.size) fun B hB=>?_
 rw [hB] at g1 g2 g3 g4 g5 g6 b1 b2 ⊢
 have hBs:s.heap.objs.size ≤ B:=hB ▸ st₁.st.size
 have hYs:∀ y ∈ [B + 4,B + 3,B,B + 1],B ≤ y∧y < h'.objs.size:=by
  rw [g6]
  exact fm ⟨Nat.le_add_right B 4,Nat.add_lt_add_left (by decide) B⟩ (fm ⟨Nat.le_add_right B 3,Nat.add_lt_add_left (by decide) B⟩ (fm ⟨Nat.le_refl B,Nat.lt_add_of_pos_right (by decide)⟩ (fm ⟨Nat.le_add_right B 1,Nat.add_lt_add_left (by decide) B⟩ fn)))
 have I₂:=I₁.hideNew stz g7 rfl (fun y hy=>⟨hB ▸ (hYs y hy).1,(hYs y hy).2⟩)
 have hlim:∀ {s':Shared}{H'},Inv h₁ H' s'→s'.heap.NoLimit:=fun I'=>by
  refine ex11 T.lim fun mc a b=>?_
  exact ⟨mc,I'.kp.ns a (by decide) (by decide),b⟩
 refine ⟨hlim I₂,?_⟩
 have hq:env.qual ++ Str.ofString "<genexpr>" = Str.ofString "add_callers.<locals>.<genexpr>":=by rw [hqual];rfl
 rw [hq]
 refine genCode T I₂ hcode rfl rfl fun cv s₄ st₄ I₄ old₄ hg₄=>?_
 refine ex14 T.glob fun mg q1 _ _ _ q5=>?_
 refine ex13 T.bmod fun ob bq1 bq2 bq3 bq4=>?_
 have hNB:N0 ≤ B:=hB ▸ I₁.size
 have hns:s₄.heap.Ns env.globals mg:=by rw [O.glob];exact I₄.kp.ns q1 (by decide) (by decide)
 refine wpAny_builtinsFor hns q5 (by decide) (I₄.kp _ _ bq1 (by decide) (by decide)) bq2 bq3 bq4 ?_
 have sz4:B + 5 ≤ s₄.heap.objs.size:=by have:=st₄.st.size;dsimp only at this;rw [g6] at this;exact this
 have Z:=ZA.of b1 b2
 have hl1:l1 ≠ B:=Nat.ne_of_lt b1
 have hl2:l2 ≠ B + 1:=Nat.ne_of_lt (Nat.lt_succ_of_lt b2)
 have WU:∀ A':Around,A'.handled = none→WalksU prog w A' (B + 4) ((B + 4)::(B + 2)::(B + 3)::([B,l1] ++ [B + 1,l2])) [B + 4,B + 3,B,B + 1] 2 _ _ _:=fun A' hA=>(zipW hA (drawsT (prog:=prog) (w:=w) (A:=A'.in1) hA B l1 hl1 #[.int i ti,.int j tj]) (drawsT (prog:=prog) (w:=w) (A:=A'.in1) hA (B + 1) l2 hl2 #[.int u tu,.int v tv]) Z (.head _) (.head _)).toU
 refine exi9 (B + 4) ((B + 4)::(B + 2)::(B + 3)::([B,l1] ++ [B + 1,l2])) [B + 4,B + 3,B,B + 1] 2 _ _ _ (fun _=>true) (fun n y=>∃ t,y = .int (if n = 0 then i + u else j + v) t) ⟨rfl,WU,?_,?_,?_,hlim I₄,?_,?_,?_⟩
 ·intro n vals zq
  refine ex22 zq fun x y _ _ zq1=>?_;subst zq1
  exact ⟨x,y,rfl⟩
 ·have up:∀ c o,N0 ≤ c→h'.get? c = some o→s₄.heap.get? c = some o:=old₄
  refine ex11 g4 fun o4 w4 x4=>?_
  refine ex11 g5 fun o5 w5 x5=>?_
  refine ex11 t1 fun ot1 wt1 xt1=>?_
  refine ex11 t2 fun ot2 wt2 xt2=>?_
  refine ⟨up _ _ (Nat.le_trans hNB (Nat.le_add_right ..)) g1,up _ _ (Nat.le_trans hNB (Nat.le_add_right ..)) g2,⟨_,_,up _ _ (Nat.le_trans hNB (Nat.le_add_right ..)) g3⟩,⟨⟨o4,up _ _ hNB w4,x4⟩,⟨ot1,up _ _ N1 (g7 _ _ wt1),xt1⟩⟩,⟨⟨o5,up _ _ (Nat.le_trans hNB (Nat.le_add_right ..)) w5,x5⟩,⟨ot2,up _ _ N2 (g7 _ _ wt2),xt2⟩⟩⟩
 ·have g:∀ {i:Nat},i < 5→@LT.lt Nat _ (B + i) s₄.heap.objs.size:=fun h=>Nat.lt_of_lt_of_le (Nat.add_lt_add_left h B) sz4
  have gB:∀ {l:Nat},l ≤ B→@LT.lt Nat _ l s₄.heap.objs.size:=fun h=>Nat.lt_of_le_of_lt h (Nat.lt_of_lt_of_le (Nat.lt_add_of_pos_right (by decide)) sz4)
  exact fm (g (by decide)) (fm (g (by decide)) (fm (g (by decide)) (fm (gB (Nat.le_refl B)) (fm (gB (Nat.le_of_lt b1)) (fm (g (by decide)) (fm (gB (Nat.le_of_lt b2)) fn))))))
 ·exact fun q=>absurd (hYs _ q).1 (Nat.not_le.mpr (Nat.lt_of_lt_of_le (show cStatics < N0 by decide) hNB))
 ·intro href hhref
  refine ⟨fun A' E' n va vb s₅ m₅ hA hP hn hi hj hkk=>wpAny_tests_nil ⟨rfl,s₅.heap,s₅.toks,rfl,fun _ _ e=>e⟩,fun A' E' n va vb s₅ m₅ hA hP hpz hn hi hj hkk=>?_⟩
  refine ex22 hP fun x y hx hy hxy=>?_
  have hxy':va = x∧vb = y:=by
   have:=congrArg Array.toList hxy
   simpa using this
  obtain ⟨rfl,rfl⟩:=hxy'
  rcases n with _ | _ | n
  ·
   cases hx;cases hy
   exact genElt rfl rfl rfl hn hi hj fun t'=>⟨⟨t',rfl⟩,s₅.heap,s₅.toks + 1,rfl,fun _ _ e=>e⟩
  ·
   cases hx;cases hy
   exact genElt rfl rfl rfl hn hi hj fun t'=>⟨⟨t',rfl⟩,s₅.heap,s₅.toks + 1,rfl,fun _ _ e=>e⟩
  ·simp at hx
 ·intro ga h₅ tk gs hgb hag hsz₅ hk₅ WS hat
  refine Calls.spliced_nil ⟨fun b o e l t=>hk₅ _ _ (I₄.kp b o e l t),?_⟩
  show wpAny (model prog w) A (PySem.call (.type "tuple") [.ref ga]) Q E _
  have hpass:passing (fun _=>true) 2 0 = [0,1]:=by decide
  refine with_size (call_tuple_gen (WalksS.in4_3 WS) (fun i s' st=>st.1.typeIs) hat (fun b hb=>?_) (List.mem_cons_self ..) (fun s' acc hmv hacc hz=>?_) (by rw [hpass];decide))
  ·show @LT.lt Nat _ b h₅.objs.size
   have hag':@LT.lt Nat _ s₄.heap.objs.size ga:=hag
   rw [hsz₅]
   rcases mc hb with rfl | hb
   ·lia
   ·rcases mc hb with rfl | hb
    ·lia
    ·have:=List.mem_range.mp hb;lia
  ·rw [hpass] at hacc
   have hag':@LT.lt Nat _ s₄.heap.objs.size ga:=hag
   have hz':h₅.objs.size ≤ s'.heap.objs.size + 1:=by simpa using hz
   obtain ⟨hsz2,hel⟩:=hacc
   obtain ⟨x0,hx0⟩:∃ x,acc[0]? = some x:=⟨_,Array.getElem?_eq_getElem (by rw [hsz2];decide)⟩
   obtain ⟨x1,hx1⟩:∃ x,acc[1]? = some x:=⟨_,Array.getElem?_eq_getElem (by rw [hsz2];decide)⟩
   have hacc2:acc = #[x0,x1]:=by
    obtain ⟨l⟩:=acc
    refine ex20 (len2 hsz2) fun a b zq1=>?_;subst zq1
    simp at hx0 hx1;rw [hx0,hx1]
   refine ex111 (hel 0 x0 hx0) fun n0 hn0 t0 e0=>?_
   refine ex111 (hel 1 x1 hx1) fun n1 hn1 t1' e1=>?_
   cases hn0;cases hn1
   simp only [if_true,Nat.one_ne_zero,if_false] at e0 e1
   subst e0 e1 hacc2
   have wr5:∀ b ∈ s₄.heap.objs.size::[B + 4,B + 3,B,B + 1],B ≤ b:=fun b hb=>by
    rcases mc hb with rfl | hb
    ·lia
    ·exact (hYs b hb).1
   have keep4:∀ b o,b ∉ [B + 4,B + 3,B,B + 1]→s₄.heap.get? b = some o→s'.heap.get? b = some o:=fun b o hb e=>by
    refine hmv.heap b o (fun q=>?_) (hk₅ b o e)
    rcases List.mem_cons.mp q with q | q
    ·exact absurd (Heap.lt_size e) (by rw [q];exact Nat.lt_irrefl _)
    ·exact hb q
   have hs4':s₄.heap.objs.size ≤ s'.heap.objs.size:=by lia
   have hgens:AllBare s'.gens:=AllBare.moved (AllBare.push I₄.bare hgb) hmv.gens
   have I₆:Inv h₁ ([B + 4,B + 3,B,B + 1] ++ H) { s' with heap:=s'.heap.push { cls:=.type "tuple",data:=.seq #[.int (i + u) t0,.int (j + v) t1'] } }:=
    I₄.kept (fun b o e n=>Heap.get?_push_of_some _ (keep4 b o (fun q=>n (List.mem_append_left _ q)) e)) (by simp;lia) hgens
   have hos:s'.os = s.os:=by
    have a1:=hmv.os
    have a2:=(st₁.trans (stz.up.trans st₄.up)).os
    exact a1.trans a2
   have st14:SStep [a] s s₄:=st₁.trans (stz.up.trans st₄.up)
   have stF:SStep [a] s { s' with heap:=s'.heap.push { cls:=.type "tuple",data:=.seq #[.int (i + u) t0,.int (j + v) t1'] } }:=by
    have q:SStep ([B + 4,B + 3,B,B + 1] ++ [a]) s { s' with heap:=s'.heap.push { cls:=.type "tuple",data:=.seq #[.int (i + u) t0,.int (j + v) t1'] } }:=by
     refine ⟨⟨fun b o e n m=>?_,fun t ht ps e=>?_,?_⟩,hos,fun _=>hgens⟩
     ·exact Heap.get?_push_of_some _ (keep4 b o (fun q=>n (List.mem_append_left _ q)) (st14.st.keep b o e (fun q=>n (List.mem_append_right _ q)) m))
     ·obtain ⟨more,e2⟩:=st14.st.tab t ht ps e
      exact ⟨more,Heap.get?_push_of_some _ (keep4 t _ (fun q=>tabs_lt (Nat.le_trans hNB (hYs t q).1) ht) e2)⟩
     ·have:=st14.st.size;simp;lia
    exact q.mono fun y hy=>(List.mem_append.mp hy).symm.imp id fun q=>Nat.le_trans hBs (hYs y q).1
   refine kk _ _ stF (I₆.sub fun _ q=>List.mem_append_right _ q) ?_ ?_
   ·have hpX:∀ y ∈ [B + 4,B + 3,B,B + 1],s₁.heap.objs.size ≤ y:=fun y hy=>hB ▸ (hYs y hy).1
    have stp:SStep [] s₁ { s' with heap:=s'.heap.push { cls:=.type "tuple",data:=.seq #[.int (i + u) t0,.int (j + v) t1'] } }:=by
     have st24:SStep [] s₁ s₄:=stz.trans st₄
     have q:SStep [B + 4,B + 3,B,B + 1] s₁ { s' with heap:=s'.heap.push { cls:=.type "tuple",data:=.seq #[.int (i + u) t0,.int (j + v) t1'] } }:=by
      refine ⟨⟨fun b o e n m=>?_,fun t ht ps e=>?_,?_⟩,hmv.os.trans st24.os,fun _=>hgens⟩
      ·exact Heap.get?_push_of_some _ (keep4 b o n (st24.st.keep b o e (fun q=>nomatch q) m))
      ·obtain ⟨more,e2⟩:=st24.st.tab t ht ps e
       exact ⟨more,Heap.get?_push_of_some _ (keep4 t _ (fun q=>tabs_lt (Nat.le_trans hNB (hYs t q).1) ht) e2)⟩
      ·have:=st24.st.size;simp;lia
     exact q.mono fun y hy=>.inr (hpX y hy)
    exact Rp.grow _ p₁ stp.st
   ·refine .tuple (Heap.get?_push_size _ rfl) rfl rfl (fun q=>?_) (by have:=I₄.size;lia) (.cons (.int _ _) (.cons (.int _ _) .nil))
    have:@LT.lt Nat _ s'.heap.objs.size s₁.heap.objs.size:=(I₁.hok _ q).2
    lia
end
end Mine
namespace Mine
variable [Wd]
theorem Top1.frag {h₁:Gl}(T:Top1 h₁) {h:Heap}(k:Kp h₁ h):∃ K:Frag,ClsF K∧K.In h:=
 let ⟨K,a,b⟩:=T.cls
 ⟨K,a,fun x o e=>let ⟨l,t,g⟩:=b x o e;k x o g l t⟩
section
variable {prog:Program}{w:World}{A:Around}{E:Value→Shared→Prop}{s:Shared}{K:Frag}{L d:Addr}{es:List DictEntry}{n:Nat}{name:Str}{v:Value}
theorem instI (hL:s.heap.get? L = some (instObj 94 d)) (hd:s.heap.get? d = some (dictOf es n)):InstAt s.heap L (instObj 94 d) 94 (some (dictOf es n)):=⟨hL,rfl,rfl,hd⟩
theorem setI {Q:Unit→Shared→Prop}(X:K.In s.heap) (C:ClsF K) (hn:findIn K (.ref 94) name = some none) (hL:s.heap.get? L = some (instObj 94 d)) (hd:s.heap.get? d = some (dictOf es n)) (hl:(getL name es).isSome = true)
  (hz:(putL name (PyData.keyHash w.params name) (.str name (s.toks + 1)) v es).length ≤ 1000)
  (k:∀ h',Heap.SameBut d s.heap h'→h'.get? d = some (dictOf (putL name (PyData.keyHash w.params name) (.str name (s.toks + 1)) v es) (putN name es n))→Q () { s with heap:=h',toks:=s.toks + 2 }) :
  wpAny (model prog w) A (setAttr (.ref L) name v) Q E s:=by
 have I:=instI hL hd
 have ht:takerIn K 94 name = some none:=by unfold takerIn;rw [hn];rfl
 refine set_plain X I C.sa ?_
 refine osa_open (s:={ s with toks:=s.toks + 1 }) X I C.po ht fun b=>?_
 refine ex11 (any_some C.hd) fun cd hc hdd=>?_
 refine wpAny_bind (wpAny_pure (wpAny_bind (wpAny_bind (wpAny_loadPart hL (wpAny_bind (looks_clsIn X hc _ _ _ _ (fun _ _ e=>e) ?_))))))
 rw [hdd]
 refine wpAny_pure (a:=some d) (wpAny_bind (wpAny_pure (wpAny_bind ?_)))
 unfold nsSet
 refine wpAny_bind (wpAny_bind (wpAny_askSetting (wpAny_pure (wpAny_bind (wpAny_mkText (wpAny_bind (wpAny_loadPart hd ?_)))))))
 dsimp only
 have c:(!es.toArray.any (·.key.isStr name) && es.toArray.any (·.refKey)) = false:=by
  rw [← Array.any_toList,← Array.any_toList]
  unfold getL at hl
  split at hl
  ·rename_i en he
   rw [List.any_eq_true.mpr ⟨en,List.mem_of_find?_eq_some he,List.find?_some he⟩];rfl
  ·split at hl
   ·cases hl
   ·rename_i z;rw [Bool.not_eq_true] at z;rw [z,Bool.and_false]
 rw [aRefKeyMayBeTheName_at,c]
 have e1:=putName_dict name (PyData.keyHash w.params name) (.str name (s.toks + 1)) v es n
 have D':(s.heap.update d (Obj.putName name (PyData.keyHash w.params name) (.str name (s.toks + 1)) v)).get? d = some (dictOf (putL name (PyData.keyHash w.params name) (.str name (s.toks + 1)) v es) (putN name es n)):=by
  rw [← e1]
  exact Heap.get?_update_self _ hd (by rw [e1];rfl)
 refine wpAny_updatePart hd ?_
 refine wpAny_bind (wpAny_lookBehind D' (pastItsLine_dict (by rw [List.size_toArray,sizeLine_eq];lia)) ?_)
 exact wpAny_pure (k _ (Heap.SameBut.update ..) D')
theorem getI {expr:Bool}{Q:Value→Shared→Prop}(X:K.In s.heap) (C:ClsF K) (hn:findIn K (.ref 94) name = some none) (hL:s.heap.get? L = some (instObj 94 d)) (hd:s.heap.get? d = some (dictOf es n)) (hg:getL name es = some (some v)) (hh:handedIn v = true)
  (k:Q v { s with toks:=s.toks + 1 }):wpAny (model prog w) A (getAttr (.ref L) name expr) Q E s:=
 get_value X (instI hL hd) C.ga (findObj_own C.hd hn rfl hg) hh k
theorem methI {pl:Sem Bool}{f:Addr}{Q:Value × List Value→Shared→Prop}(X:K.In s.heap) (C:ClsF K) (hn:findIn K (.ref 94) name = some (some (.ref f))) (ht:typeIn K (.ref f) = some (.type "function")) (hL:s.heap.get? L = some (instObj 94 d)) (hd:s.heap.get? d = some (dictOf es n)) (hg:getL name es = some none)
  (k:Q (.ref f,[.ref L]) s):wpAny (model prog w) A (getMethod (.ref L) name pl) Q E s:=
 method_fn X (instI hL hd) C.ga C.gat hn ht (by show (lookIn name (dictOf es n)).map _ = _;rw [lookIn_dict,hg];rfl) k
theorem methO {pl:Sem Bool}{Q:Value × List Value→Shared→Prop}(X:K.In s.heap) (C:ClsF K) (hn:findIn K (.ref 94) name = some none) (hL:s.heap.get? L = some (instObj 94 d)) (hd:s.heap.get? d = some (dictOf es n)) (hg:getL name es = some (some v)) (hh:handedIn v = true)
  (k:Q (v,[]) { s with toks:=s.toks + 1 }):wpAny (model prog w) A (getMethod (.ref L) name pl) Q E s:=
 method_usual X (instI hL hd) C.ga C.gat hn rfl (getI X C hn hL hd hg hh k)
theorem boundI {expr:Bool}{Q:Value→Shared→Prop}(X:K.In s.heap) (C:ClsF K) (hL:s.heap.get? L = some (instObj 94 d)) (hd:s.heap.get? d = some (dictOf es n)) (hg:getL "_read_char" es = some none)
  (k:Q (.ref s.heap.objs.size) { s with heap:=s.heap.push (methodObj (.ref 77) (.ref L)),toks:=s.toks + 1 }):wpAny (model prog w) A (getAttr (.ref L) "_read_char" expr) Q E s:=by
 have I:=instI hL hd
 refine ex11 (any_some C.hd) fun cd hc hdd=>?_
 have hf:findObj K 94 (some (dictOf es n)) "_read_char" = some (.bind (.builtin "function.__get__") (.ref 77)):=by
  unfold findObj
  rw [hc,Option.bind_some,C.rc,Option.bind_some]
  have ho:W.ownOf cd (some (dictOf es n)) "_read_char" = some none:=by unfold W.ownOf;rw [if_pos hdd];exact hg
  simp only [C.fg,C.ft,Option.bind_some,ho]
  rfl
 refine get_bind X I C.ga hf C.gat (wpAny_call (fn_get (s:={ s with toks:=s.toks + 1 }) X C.t2 ?_))
 show wpAny _ _ (handedOut (.ref s.heap.objs.size)) _ _ _
 rw [handedOut_of rfl]
 exact wpAny_pure k
theorem evalAttr {M:Model}{A:Around}{E:Value→Shared→Prop}{s:Shared}{env:Env}{x name:Str}{p pos:Pos}{Q:Value→Shared→Prop}(h:wpAny M A (eval (.Name x p) env) (fun o s₁=>wpAny M A (getAttr o name true) Q E s₁) E s) :
  wpAny M A (eval (.Attribute (.Name x p) name pos) env) Q E s:=by
 rw [arm_eval_Attribute,attributeBase_of rfl]
 exact wpAny_bind (wpAny_mono h (fun o s₁ h₁=>wpAny_bind (wpAny_standAt (wpAny_bind (wpAny_holding (wpAny_mono h₁ (fun r s₂ h₂=>wpAny_bind (wpAny_pure (wpAny_pure h₂))) fun _ _ x=>x))))) fun _ _ x=>x)
end
structure LexA where
 L:Addr
 d:Addr
 P:Addr
 S:Addr
 c:Addr
 f:Addr
 cd:Addr
noncomputable def LexA.X (a:LexA):List Addr:=[a.L,a.d,a.P,a.S,a.c,a.f]
noncomputable def lexEs (a:LexA) (line:Int) (hs:Nat→Int) (ts:Nat→Tok):List DictEntry:=
 [⟨hs 0,.str "lineno" (ts 0),.int line (ts 5)⟩,⟨hs 1,.str "instream" (ts 1),.ref a.L⟩,⟨hs 2,.str "whitespace" (ts 2),.str (S [10,9,13,32]) (ts 6)⟩,⟨hs 3,.str "pushback" (ts 3),.ref a.P⟩,⟨hs 4,.str "read" (ts 4),.ref a.f⟩]
theorem lexEs_line {a:LexA}{line:Int}{hs:Nat→Int}{ts:Nat→Tok}:getL "lineno" (lexEs a line hs ts) = some (some (.int line (ts 5))):=rfl
theorem lexEs_in {a:LexA}{line:Int}{hs:Nat→Int}{ts:Nat→Tok}:getL "instream" (lexEs a line hs ts) = some (some (.ref a.L)):=rfl
theorem lexEs_ws {a:LexA}{line:Int}{hs:Nat→Int}{ts:Nat→Tok}:getL "whitespace" (lexEs a line hs ts) = some (some (.str (S [10,9,13,32]) (ts 6))):=rfl
theorem lexEs_pb {a:LexA}{line:Int}{hs:Nat→Int}{ts:Nat→Tok}:getL "pushback" (lexEs a line hs ts) = some (some (.ref a.P)):=rfl
theorem lexEs_rd {a:LexA}{line:Int}{hs:Nat→Int}{ts:Nat→Tok}:getL "read" (lexEs a line hs ts) = some (some (.ref a.f)):=rfl
theorem lexEs_rc {a:LexA}{line:Int}{hs:Nat→Int}{ts:Nat→Tok}:getL "_read_char" (lexEs a line hs ts) = some none:=rfl
theorem lexEs_gt {a:LexA}{line:Int}{hs:Nat→Int}{ts:Nat→Tok}:getL "get_token" (lexEs a line hs ts) = some none:=rfl
theorem lexEs_pt {a:LexA}{line:Int}{hs:Nat→Int}{ts:Nat→Tok}:getL "push_token" (lexEs a line hs ts) = some none:=rfl
theorem lexEs_put {a:LexA}{line line':Int}{hs:Nat→Int}{ts:Nat→Tok}{hh:Int}{t t':Tok}:∃ ts',putL "lineno" hh (.str "lineno" t) (.int line' t') (lexEs a line hs ts) = lexEs a line' hs ts':=
 ⟨fun i=>if i = 5 then t' else ts i,rfl⟩
noncomputable def lamE:Expr:=match ((bodyOf (stOf 14))[2]?:Option Stmt) with
 | some (Stmt.Assign _ e _)=>e
 | _=>.Constant .none 0 ⟨0,0,0,0⟩
noncomputable def lamP:Arguments:=match lamE with | .Lambda p _ _ _=>p | _=>default
noncomputable def lamB:Expr:=match lamE with | .Lambda _ b _ _=>b | _=>.Constant .none 0 ⟨0,0,0,0⟩
noncomputable def lamS:Scope:=match lamE with | .Lambda _ _ s _=>s | _=>default
noncomputable def lamQ:Str := "_law_lexer.<locals>.<lambda>"
noncomputable def LS (h:Heap) (a:Addr) (l:List Str):Prop:=∃ vs,h.PlainList a vs∧∀ h' H',VL h' H' vs.toList (l.map PyData.str)
structure LexAt (a:LexA) (line:Int) (rest:List Nat) (push:List Str) (h:Heap) (H:List Addr):Prop where
 obj:h.get? a.L = some (instObj 94 a.d)
 dct:∃ hs ts n,h.get? a.d = some (dictOf (lexEs a line hs ts) n)
 pb:LS h a.P push
 sg:LS h a.S (rest.map fun c=>S [c])
 cel:h.IsCell a.c (some (.ref a.S))
 fn:∃ fo pm ctv,h.get? a.f = some fo∧fo.data = .func (kla_fn "<lambda>" lamQ lamP lamB lamS [("signs",a.c)] pm (.ref a.cd) ctv)
 code:h.CodeRec (.ref a.cd) lamQ
 cH:a.cd ∉ H
 low:∀ x ∈ a.cd::a.X,N0 ≤ x
 nd:a.X.Nodup
 sz:rest.length ≤ 2 ^ 19∧push.length ≤ 2 ^ 19
theorem LS.at {h h':Heap}{a:Addr}{l:List Str}(x:LS h a l) (k:∀ o,h.get? a = some o→h'.get? a = some o):LS h' a l:=let ⟨vs,p,v⟩:=x;⟨vs,p.at k,v⟩
theorem LexAt.keep {a:LexA}{line:Int}{rest:List Nat}{push:List Str}{h h':Heap}{H H':List Addr}(x:LexAt a line rest push h H) (k:∀ b o,b ∈ a.cd::a.X→h.get? b = some o→h'.get? b = some o) (hc:a.cd ∉ H'):LexAt a line rest push h' H':=by
 obtain ⟨x1,⟨hs,ts,n,x2⟩,x3,x4,⟨oc,x5,x5'⟩,⟨fo,pm,ctv,x6,x6'⟩,⟨c',oq,vs,t,e1,e2,e3,e4⟩,x8,x9,x10,x11⟩:=x
 have m:∀ b ∈ a.X,b ∈ a.cd::a.X:=fun b hb=>.tail _ hb
 refine ⟨k _ _ (m _ (by simp [LexA.X])) x1,⟨hs,ts,n,k _ _ (m _ (by simp [LexA.X])) x2⟩,x3.at fun o e=>k _ _ (m _ (by simp [LexA.X])) e,x4.at fun o e=>k _ _ (m _ (by simp [LexA.X])) e,⟨oc,k _ _ (m _ (by simp [LexA.X])) x5,x5'⟩,⟨fo,pm,ctv,k _ _ (m _ (by simp [LexA.X])) x6,x6'⟩,⟨c',oq,vs,t,e1,?_,e3,e4⟩,hc,x9,x10,x11⟩
 cases e1
 exact k _ _ (.head _) e2
noncomputable def Rp.lex (a:LexA) (line:Int) (rest:List Nat) (push:List Str):Rp a.X where
 ok h H:=LexAt a line rest push h H
 stab:=fun {h h' Y H H'} x st hY hH=>by
  refine ex42 x.code fun _ oq _ _ e1 e2 _=>?_
  cases e1
  refine x.keep (fun b o hb e=>st.keep b o e (fun q=>?_) (tabs_lt (x.low b hb))) fun q=>(hH _ q).elim x.cH fun z=>Nat.lt_irrefl _ (Nat.lt_of_lt_of_le (Heap.lt_size e2) z)
  rcases mc hb with rfl | hb
  ·exact x.cH (hY _ q).1
  ·exact (hY _ q).2 hb
end Mine
namespace Mine
variable [Wd]
theorem VL.lenS {l:List Str}{vs:List Value}(h:Heap) (x:∀ h' H',VL h' H' vs (l.map PyData.str)):vs.length = l.length:=by have:=(x h []).length;simpa using this
section
variable {prog:Program}{w:World}{A:Around}{E:Value→Shared→Prop}{s:Shared}{a:Addr}{l:List Str}
theorem LS.isList {h:Heap}(x:LS h a l):∃ vs,h.IsList a vs∧vs.size = l.length:=by
 refine ex11 x fun vs zq1 v=>?_;obtain ⟨n,e⟩:=zq1
 exact ⟨vs,⟨_,e,rfl,_,rfl⟩,by have:=VL.lenS h v;simpa using this⟩
theorem LS.truthy {Q:Bool→Shared→Prop}(x:LS s.heap a l) (hz:l.length ≤ 2 ^ 20) (k:∀ t,Q (!l.isEmpty) { s with toks:=t }):wpAny (model prog w) A (truthy (.ref a)) Q E s:=by
 refine ex11 x.isList fun vs hL hlen=>?_
 have e2:(!l.isEmpty) = !vs.isEmpty:=by
  have:vs.isEmpty = decide (vs.size = 0):=rfl
  rw [this,hlen];cases l <;> rfl
 rw [e2] at k
 exact wpAny_truthy_list hL (by rw [hlen];lia) (k _)
theorem LS.pop {x:Str}{t:Tok}{Q:Value→Shared→Prop}(y:LS s.heap a (x::l)) (hz:l.length ≤ 2 ^ 19)
  (k:∀ h' u,Heap.SameBut a s.heap h'→LS h' a l→Q (.str x u) { s with heap:=h' }):wpAny (model prog w) A (PySem.call (.builtin "list.pop") [.ref a,.int 0 t]) Q E s:=by
 refine ex11 y fun vs zq1 v=>?_;obtain ⟨n,e⟩:=zq1
 obtain ⟨vl⟩:=vs
 have hv0:=v s.heap []
 obtain ⟨u,vs',rfl⟩:∃ u vs',vl = .str x u::vs':=by
  cases vl with
  | nil=>exact nomatch hv0
  | cons v0 vs'=>
   have h1:V s.heap [] v0 (.str x):=by cases hv0;assumption
   obtain ⟨_,rfl⟩:=V.strI h1
   exact ⟨_,vs',rfl⟩
 have hlen:vs'.length = l.length:=by
  have:=hv0.length
  simpa using this
 refine wpAny_call_entry PySem.F.slot_list_pop ⟨_,e,rfl⟩ PySem.F.entry_list_pop ?_ (PySem.F.args_list_pop_2 _ _)
 unfold Builtin.«list.pop»
 refine wpAny_bind (wpAny_pure ?_)
 refine wpAny_bind (wpAny_pure ?_)
 dsimp only
 rw [if_neg (by decide)]
 refine wpAny_bind ?_
 unfold Builtin.List.listItems
 refine wpAny_bind (wpAny_seqItems e rfl (wpAny_pure ?_))
 rw [if_neg (by simp)]
 have hq:((seqIndex? 0 (⟨.str x u::vs'⟩:Array Value).size).bind fun k=>(⟨.str x u::vs'⟩:Array Value)[k]?.map (k,·)) = some (0,.str x u):=by
  have:seqIndex? 0 (⟨.str x u::vs'⟩:Array Value).size = some 0:=by
   unfold seqIndex?
   simp
  rw [this]
  simp
 rw [hq]
 dsimp only
 refine wpAny_bind (wpAny_updateSeq e rfl (wpAny_pure ⟨.str x u,rfl,k _ u (Heap.SameBut.update ..) ?_⟩) (by simp only [List.size_toArray,List.length_cons,sizeLine_eq];lia) (by simp [Array.eraseIdxIfInBounds,sizeLine_eq];lia))
 refine ⟨⟨vs'⟩,⟨n + 1,?_⟩,fun h' H'=>?_⟩
 ·rw [Heap.get?_update_self _ e rfl]
  simp [Obj.mapSeq,Array.eraseIdxIfInBounds]
 ·have:=v h' H'
  cases this
  assumption
end
end Mine
namespace Mine
variable [Wd]
section
variable {a:LexA}{line line':Int}{rest rest':List Nat}{push push':List Str}{h h':Heap}{H H':List Addr}
theorem LexAt.ne (x:LexAt a line rest push h H):a.S ≠ a.P∧a.S ≠ a.d∧a.S ≠ a.L∧a.S ≠ a.c∧a.S ≠ a.f∧a.P ≠ a.d∧a.P ≠ a.L∧a.P ≠ a.c∧a.P ≠ a.f∧a.d ≠ a.L∧a.d ≠ a.c∧a.d ≠ a.f:=by
 have h1:=x.nd
 simp only [LexA.X,List.nodup_cons,List.mem_cons,List.not_mem_nil,or_false,not_or] at h1
 refine ex04 h1 fun zq1 zq2 zq3 zq4 _=>?_;obtain ⟨a1,a2,a3,a4,a5⟩:=zq1;obtain ⟨b1,b2,b3,b4⟩:=zq2;obtain ⟨c1,c2,c3⟩:=zq3;obtain ⟨d1,d2⟩:=zq4
 exact ⟨Ne.symm c1,Ne.symm b2,Ne.symm a3,d1,d2,Ne.symm b1,Ne.symm a2,c2,c3,Ne.symm a1,b3,b4⟩
theorem codeRec_keep {h h':Heap}{c:Addr}{q:Str}(x:h.CodeRec (.ref c) q) (k:∀ o,h.get? c = some o→h'.get? c = some o):h'.CodeRec (.ref c) q:=by
 refine ex43 x fun c' oq vs t e1 e2 e3 e4=>?_
 cases e1
 exact ⟨c,oq,vs,t,rfl,k _ e2,e3,e4⟩
theorem LexAt.cdne (x:LexAt a line rest push h H) (hX:∀ y ∈ a.X,y ∈ H):∀ y ∈ a.X,a.cd ≠ y:=fun y hy q=>x.cH (q ▸ hX y hy)
theorem LexAt.moveS (x:LexAt a line rest push h H) (hX:∀ y ∈ a.X,y ∈ H) (hs:Heap.SameBut a.S h h') (y:LS h' a.S (rest'.map fun c=>S [c])) (hz:rest'.length ≤ 2 ^ 19):LexAt a line rest' push h' H:=by
 refine ex05 x.ne fun n1 n2 n3 n4 n5 _=>?_
 have k:∀ b o,b ≠ a.S→h.get? b = some o→h'.get? b = some o:=fun b o n e=>(hs.2 b n).trans e
 have hc:=x.cdne hX a.S (by simp [LexA.X])
 obtain ⟨x1,⟨hs,ts,n,x2⟩,x3,x4,⟨oc,x5,x5'⟩,⟨fo,pm,ctv,x6,x6'⟩,x7,x8,x9,x10,x11⟩:=x
 exact ⟨k _ _ n3.symm x1,⟨hs,ts,n,k _ _ n2.symm x2⟩,x3.at fun o e=>k _ _ n1.symm e,y,⟨oc,k _ _ n4.symm x5,x5'⟩,⟨fo,pm,ctv,k _ _ n5.symm x6,x6'⟩,codeRec_keep x7 fun o e=>k _ _ hc e,x8,x9,x10,hz,x11.2⟩
theorem LexAt.moveP (x:LexAt a line rest push h H) (hX:∀ y ∈ a.X,y ∈ H) (hs:Heap.SameBut a.P h h') (y:LS h' a.P push') (hz:push'.length ≤ 2 ^ 19):LexAt a line rest push' h' H:=by
 refine ex09 x.ne fun n1 _ _ _ _ n2 n3 n4 n5 _=>?_
 have k:∀ b o,b ≠ a.P→h.get? b = some o→h'.get? b = some o:=fun b o n e=>(hs.2 b n).trans e
 have hc:=x.cdne hX a.P (by simp [LexA.X])
 obtain ⟨x1,⟨hs,ts,n,x2⟩,x3,x4,⟨oc,x5,x5'⟩,⟨fo,pm,ctv,x6,x6'⟩,x7,x8,x9,x10,x11⟩:=x
 exact ⟨k _ _ n3.symm x1,⟨hs,ts,n,k _ _ n2.symm x2⟩,y,x4.at fun o e=>k _ _ n1 e,⟨oc,k _ _ n4.symm x5,x5'⟩,⟨fo,pm,ctv,k _ _ n5.symm x6,x6'⟩,codeRec_keep x7 fun o e=>k _ _ hc e,x8,x9,x10,x11.1,hz⟩
theorem LexAt.moveD (x:LexAt a line rest push h H) (hX:∀ y ∈ a.X,y ∈ H) (hs:Heap.SameBut a.d h h') (y:∃ hs ts n,h'.get? a.d = some (dictOf (lexEs a line' hs ts) n)):LexAt a line' rest push h' H:=by
 refine ex0_11 x.ne fun _ n1 _ _ _ n2 _ _ _ n3 n4 n5=>?_
 have k:∀ b o,b ≠ a.d→h.get? b = some o→h'.get? b = some o:=fun b o n e=>(hs.2 b n).trans e
 have hc:=x.cdne hX a.d (by simp [LexA.X])
 obtain ⟨x1,_,x3,x4,⟨oc,x5,x5'⟩,⟨fo,pm,ctv,x6,x6'⟩,x7,x8,x9,x10,x11⟩:=x
 exact ⟨k _ _ n3.symm x1,y,x3.at fun o e=>k _ _ n2 e,x4.at fun o e=>k _ _ n1 e,⟨oc,k _ _ n4.symm x5,x5'⟩,⟨fo,pm,ctv,k _ _ n5.symm x6,x6'⟩,codeRec_keep x7 fun o e=>k _ _ hc e,x8,x9,x10,x11⟩
theorem LexA.step {s:Shared}{h':Heap}{b:Addr}{tk:Nat}(hb:b ∈ a.X) (hN:N0 ≤ b) (hs:Heap.SameBut b s.heap h'):SStep a.X s { s with heap:=h',toks:=tk }:=
 (Quiet.same (tk:=tk) hs).st (fun y hy=>by rcases ms hy with rfl;exact hN) |>.mono fun y hy=>.inl (by rcases ms hy with rfl;exact hb)
theorem Inv.same {h₁:Gl}{s:Shared}{h':Heap}{b:Addr}{tk:Nat}(I:Inv h₁ H s) (hb:b ∈ H) (hs:Heap.SameBut b s.heap h'):Inv h₁ H { s with heap:=h',toks:=tk }:=
 I.quiet (Quiet.same (tk:=tk) hs) fun y hy=>by rcases ms hy with rfl;exact hb
end
theorem lamS1:∀ x ∈ lamS.names,x.2 ≠ .cell:=by decide
theorem lamS2:¬ isCal lamS = true:=by decide
theorem lamS3:¬ lamS.names.lookup ("signs":Str) = some .local:=by decide
section
variable {h₁:Gl}{r:Nat}{sc:Sc}{vars:List (Str × D)}{a:LexA}{line:Int}{rest:List Nat}{push:List Str}
theorem enterLam {prog:Program}{w:WW}{A:Around}{s:Shared}{H:List Addr}{t:Tok}{Q:Value→Shared→Prop}{E:Value→Shared→Prop}
  (T:Top1 h₁) (R:Room (r + 1) A) (I:Inv h₁ H s) (p:LexAt a line rest push s.heap H)
  (k:∀ (env:Env) (s₁:Shared),Room r (A.deeper env)→env.locals = s.heap.objs.size→env.cells = [(("signs":Str),a.c)]→SStep [] s s₁→Inv h₁ (env.locals::H) s₁→EnvOK ⟨lamS,[("signs",.ref a.S)]⟩ env [("count",.int 1)] s₁.heap (env.locals::H) →
   wpAny (model prog w) (A.deeper env) (eval lamB env) Q (fun e s'=>wpAny (model prog w) (A.deeper env) (leaving env e) (fun _ s''=>E e s'') (fun e' s''=>E e' s'') s') s₁) :
  wpAny (model prog w) A (PySem.call (.ref a.f) [.int 1 t]) Q E s:=by
 refine ex31 p.fn fun fo pm ctv hf hfd=>?_
 have hlim:s.heap.NoLimit:=by
  refine ex11 T.lim fun mc a b=>?_
  exact ⟨mc,I.kp.ns a (by decide) (by decide),b⟩
 have hcN:N0 ≤ a.c:=p.low _ (by simp [LexA.X])
 with_reducible refine wpAny_call ?_
 refine kla_callFunE R.limit hf hfd rfl rfl rfl p.code ?_
 have hb:bindArgs (kla_fn "<lambda>" lamQ lamP lamB lamS [("signs",a.c)] pm (.ref a.cd) ctv) ⟨[.int 1 t],[]⟩ = pure [(("count":Str),Value.int 1 t)]:=rfl
 rw [hb]
 refine wpAny_pure (wpAny_newFunctionEnv lamS1 (fun y hy=>by rcases ms hy with rfl;rfl) (fun h₀ hns hsb=>⟨hlim.fresh _ hsb,?_⟩) rfl)
 have hk:∀ b o,s.heap.get? b = some o→h₀.get? b = some o:=fun b o e=>hsb.extBut b o (Nat.ne_of_lt (Heap.lt_size e)) (Heap.get?_push_of_some _ e)
 generalize henv:newEnv (kla_fn "<lambda>" lamQ lamP lamB lamS [("signs",a.c)] pm (.ref a.cd) ctv).scope s.heap.objs.size (kla_fn "<lambda>" lamQ lamP lamB lamS [("signs",a.c)] pm (.ref a.cd) ctv).globals (kla_fn "<lambda>" lamQ lamP lamB lamS [("signs",a.c)] pm (.ref a.cd) ctv).closure ((kla_fn "<lambda>" lamQ lamP lamB lamS [("signs",a.c)] pm (.ref a.cd) ctv).qualname ++ ".<locals>.") (some a.f) (kla_fn "<lambda>" lamQ lamP lamB lamS [("signs",a.c)] pm (.ref a.cd) ctv).code none (kla_fn "<lambda>" lamQ lamP lamB lamS [("signs",a.c)] pm (.ref a.cd) ctv).builtins = env
 have e1:env.scope = lamS:=by rw [← henv];rfl
 have e2:env.globals = mainGlobals:=by rw [← henv];rfl
 have e3:env.builtins = builtinsNs:=by rw [← henv];rfl
 have e4:env.locals = s.heap.objs.size:=by rw [← henv];rfl
 have e5:env.cells = [(("signs":Str),a.c)]:=by rw [← henv];rfl
 refine kla_codeExpr ?_
 have hz:s.heap.objs.size < h₀.objs.size:=hns.lt
 have hf':∀ b ∈ env.locals::H,b ∈ H ∨ s.heap.objs.size ≤ b:=fun b q=>by
  rcases mc q with rfl | q
  ·exact .inr (Nat.le_of_eq e4.symm)
  ·exact .inl q
 have hN:N0 ≤ env.locals:=e4 ▸ I.size
 have g:=I.grown (h':=h₀) (t:=s.toks + 1) hk (Nat.le_of_lt hz)
 have I':Inv h₁ (env.locals::H) { s with heap:=h₀,toks:=s.toks + 1 }:=by
  have hlow:∀ b ∈ env.locals::H,N0 ≤ b∧b < h₀.objs.size:=fun b q=>by
   rcases mc q with rfl | q
   ·exact ⟨hN,e4 ▸ hz⟩
   ·exact g.hok b q
  exact ⟨g.kp,(I.tab.less hf').kept (fun b o e _=>hk b o e) (fun b q=>(hlow b q).1),g.bare,hlow,g.size,fun p hp=>let ⟨e1,e2,e3⟩:=I.fix p hp;⟨hk _ _ e1,(fun q=>(hf' _ q).elim e2 fun z=>Nat.lt_irrefl _ (Nat.lt_of_lt_of_le (Heap.lt_size e1) z)),e3⟩⟩
 have st0:Step [] s.heap h₀:=Step.of_keeps hk (Nat.le_of_lt hz)
 refine ex11 p.cel fun oc hoc hocd=>?_
 have hcell:h₀.IsCell a.c (some (.ref a.S)):=⟨oc,hk _ _ hoc,hocd⟩
 refine k env _ (R.deeper _) e4 e5 (SStep.heap st0 _) I' ⟨e1,rfl,e2,e3,hN,(fun n c e=>?_),(fun h=>absurd h lamS2),⟨_,e4 ▸ hns,fun y d' e kd=>?_,fun y v e kd=>?_⟩,fun y d' e kd=>?_,fun y v e _=>?_⟩
 ·rw [e5,List.lookup_cons] at e
  by_cases hq:(n == ("signs":Str)) = true
  ·simp only [hq] at e;cases e;exact hcell.lt
  ·simp only [hq] at e;cases e
 ·rw [List.lookup_cons] at e
  by_cases hq:(y == ("count":Str)) = true
  ·simp only [hq] at e;cases e
   have:=beq_iff_eq.mp hq;subst this
   exact ⟨.int 1 t,rfl,.int _ _⟩
  ·simp only [hq] at e;cases e
 ·have e':List.lookup y [(("signs":Str),Value.ref a.S)] = some v:=e
  rw [List.lookup_cons] at e'
  by_cases hq:(y == ("signs":Str)) = true
  ·have:=beq_iff_eq.mp hq;subst this
   exact absurd kd lamS3
  ·simp only [hq] at e';cases e'
 ·rw [List.lookup_cons] at e
  by_cases hq:(y == ("count":Str)) = true
  ·have:=beq_iff_eq.mp hq;subst this
   exact absurd rfl kd
  ·simp only [hq] at e;cases e
 ·have e':List.lookup y [(("signs":Str),Value.ref a.S)] = some v:=e
  rw [List.lookup_cons] at e'
  by_cases hq:(y == ("signs":Str)) = true
  ·simp only [hq] at e';cases e'
   have:=beq_iff_eq.mp hq;subst this
   exact ⟨.inr ⟨rfl,rfl⟩,a.c,by rw [e5];rfl,hcN,hcell⟩
  ·simp only [hq] at e';cases e'
noncomputable def rdS (rest:List Nat):List Nat:=match rest with
 | []=>[]
 | c::_=>[c]
theorem lam_ok:CallR h₁ (r + 1) (.ref a.f) [.int 1] a.X (Rp.lex a line rest push) (.str (S (rdS rest))) (Rp.lex a line rest.tail push):=by
 intro prog w A s H vs Q E T R I x hX p k
 have p':LexAt a line rest push s.heap H:=p
 obtain ⟨t,rfl⟩:∃ t,vs = [.int 1 t]:=by
  refine ex11 (VL.one x) fun _ zq1 a=>?_;subst zq1
  obtain ⟨_,rfl⟩:=V.intI a;exact ⟨_,rfl⟩
 refine enterLam T R I p' fun env s₁ R₁ e4 e5 st I₁ O=>?_
 have hXl:∀ y ∈ a.X,y ∈ env.locals::H:=fun y hy=>.tail _ (hX y hy)
 have p₁:LexAt a line rest push s₁.heap (env.locals::H):=(Rp.lex a line rest push).stab p' st.st (fun _ q=>nomatch q) fun y hy=>by
  rcases mc hy with rfl | hy
  ·exact .inr (Nat.le_of_eq e4.symm)
  ·exact .inl hy
 have hcdH:a.cd ∉ H:=p'.cH
 have hlam:lamB = .IfExp (.Name "signs" ⟨142,47,142,52⟩) (.Call (.Attribute (.Name "signs" ⟨142,31,142,36⟩) "pop" ⟨142,31,142,40⟩) [.Constant (.int 0) 0 ⟨142,41,142,42⟩] [] ⟨142,31,142,43⟩) (.Constant (.str "") 0 ⟨142,58,142,60⟩) ⟨142,31,142,60⟩:=rfl
 rw [hlam]
 have hfv:(⟨lamS,[(("signs":Str),Value.ref a.S)]⟩:Sc).fv.lookup ("signs":Str) = some (Value.ref a.S):=rfl
 have hSX:a.S ∈ a.X:=by simp [LexA.X]
 have hSN:N0 ≤ a.S:=p'.low _ (.tail _ hSX)
 with_reducible refine wpAny_IfExp ?_
 rw [isTrue_plainTest (e:=.Name "signs" ⟨142,47,142,52⟩) rfl]
 refine wpAny_bind (NameIs.raw (h₁:=h₁) hfv rfl prog w _ env s₁ _ [("count",.int 1)] _ _ _ T I₁ O ?_)
 refine wpAny_bind (wpAny_standAt (wpAny_holding ?_))
 refine LS.truthy p₁.sg (by have:=p₁.sz.1;simp only [List.length_map];lia) fun tk=>?_
 have I₂:=I₁.toks tk
 cases rest with
 | nil=>
  simp only [List.map_nil,List.isEmpty_nil,Bool.not_true,Bool.false_eq_true,if_false]
  with_reducible refine wpAny_Constant_str ?_
  refine k _ _ ((st.trans (SStep.toks _ _)).up) ((I₂.toks _).less (fun b q=>.inl (.tail _ q)) fun b q=>(I₂.toks _).hok b (.tail _ q)) ?_ (.str _ _)
  exact p₁.keep (fun b o _ e=>e) hcdH
 | cons c rest=>
  simp only [List.map_cons,List.isEmpty_cons,Bool.not_false,if_true]
  refine ex11 p₁.sg.isList fun vs hL hlen=>?_
  have hnd:Heap.NoDictAt s₁.heap (.ref a.S):=by
   refine ex11 p₁.sg fun vs zq1 _=>?_;obtain ⟨n,e⟩:=zq1
   exact ⟨_,e,rfl⟩
  refine evalMethRaw (r:=r) (sc:=⟨lamS,[("signs",.ref a.S)]⟩) (vars:=[("count",.int 1)]) (s:={ s₁ with toks:=tk }) (ds:=[.int 0]) (id := "list.pop") hfv (fun pl Q h=>getMethod_list_of PySem.F.slot_list_pop PySem.F.type_list_pop hL hnd h) (EVS.cons EVP.const_int EVS.nil) T R₁ I₂ (O.grow (Step.refl _ _)) fun vs s₂ st₂ I₃ hvs=>?_
  obtain ⟨u,rfl⟩:∃ u,vs = [.int 0 u]:=by
   refine ex11 (VL.one hvs) fun _ zq1 a=>?_;subst zq1
   obtain ⟨_,rfl⟩:=V.intI a;exact ⟨_,rfl⟩
  have p₂:LexAt a line (c::rest) push s₂.heap (env.locals::H):=(Rp.lex a line (c::rest) push).grow p₁ ((SStep.toks s₁ tk).trans st₂).st
  refine LS.pop (x:=S [c]) (l:=rest.map fun c=>S [c]) p₂.sg (by have:=p₂.sz.1;simp only [List.length_map,List.length_cons] at this ⊢;lia) fun h' u hs y=>?_
  have stE:=LexA.step (a:=a) (tk:=s₂.toks) hSX hSN hs
  have I₄:=I₃.same (tk:=s₂.toks) (.tail _ (hX _ hSX)) hs
  refine k _ _ ((st.trans ((SStep.toks s₁ tk).trans st₂)).up.trans stE) (I₄.less (fun b q=>.inl (.tail _ q)) fun b q=>I₄.hok b (.tail _ q)) ?_ (.str _ _)
  have:=p₂.moveS hXl hs y (by have:=p₂.sz.1;simp only [List.length_cons] at this;lia)
  exact this.keep (fun b o _ e=>e) hcdH
end
end Mine
namespace Mine
variable [Wd]
section
variable {h₁:Gl}{r:Nat}{sc:Sc}{vars:List (Str × D)}{a:LexA}{line:Int}{rest:List Nat}{push:List Str}{X:List Addr}
abbrev CodR (h₁:Gl) (r:Nat) (f:Value) (ds:List D) (X:List Addr) (P:Rp X) (d:D) (P':Rp X):Prop:=
 ∀ (prog:Program) (w:WW) (A:Around) (s:Shared) (H:List Addr) (vs:List Value) (Q:Value→Shared→Prop) (E:Value→Shared→Prop),
  Top1 h₁→Room r A→Inv h₁ H s→VL s.heap H vs ds→(∀ x ∈ X,x ∈ H)→P.ok s.heap H →
  (∀ v s',SStep X s s'→Inv h₁ H s'→P'.ok s'.heap H→V s'.heap H v d→Q v s')→codeAny (model prog w) A (.call f ⟨vs,[]⟩) (fun r s'=>match r with | .ok (.ret v)=>Q v s' | .ok _=>False | .error e=>E e s') s
theorem CodR.call {f:Value}{ds:List D}{P P':Rp X}{d:D}(h:CodR h₁ r f ds X P d P'):CallR h₁ r f ds X P d P':=fun prog w A s H vs Q E T R I x hX p k=>wpAny_call (h prog w A s H vs Q E T R I x hX p k)
theorem CodR.of_def {st:Stmt}{q:Str}{f c:Addr}{name:Str}{params:Arguments}{body:List Stmt}{scope:Scope}{xs:List Str}{ds:List D}{d:D}{P P':Rp X}(hf:Top1 h₁→FnAt h₁.h st q f c) (hd:DefOf st name params body scope)
  (hb:∀ m (vs:List Value),vs.length = ds.length→bindArgs (fdOf st q c m) ⟨vs,[]⟩ = pure (xs.zip vs)) (hloc:∀ x ∈ xs,scope.names.lookup x = some .local) (hcell:∀ x ∈ scope.names,x.2 ≠ .cell)
  (hbody:SXR h₁ r ⟨scope,[]⟩ (xs.zip ds).reverse X P body fun o P₂=>P₂ = P'∧(o = .ret d ∨ (d = .none∧∃ vs,o = .next vs))) (hl:f < N0:=by decide) (ht:f ∉ tabs:=by decide) (hlc:c < N0:=by decide) (htc:c ∉ tabs:=by decide) (hcal:¬ isCal scope = true:=by decide):CodR h₁ (r + 1) (.ref f) ds X P d P':=by
 intro prog w A s H vs Q E T R I x hX pk k
 obtain ⟨⟨m,e⟩,hcd⟩:=hf T
 refine ex60 hd.eq fun dl ret tp ts bd pos zq1=>?_;subst zq1
 have kf:s.heap.get? f = _:=I.kp _ _ e hl ht
 have hlim:s.heap.NoLimit:=by
  refine ex11 T.lim fun mc a b=>?_
  exact ⟨mc,I.kp.ns a (by decide) (by decide),b⟩
 have hcd':s.heap.CodeRec (.ref c) q:=by
  refine ex43 hcd fun c' o vs' t e1 e2 e3 e4=>?_
  cases e1
  exact ⟨_,o,vs',t,rfl,I.kp _ _ e2 hlc htc,e3,e4⟩
 have hlen:vs.length = ds.length:=x.length
 with_reducible refine code_size ?_
 refine codeAny_call_def (fd:=fdOf _ q c m) (body:=body) (binds:=xs.zip vs) R.limit kf rfl hlim hcd' rfl (BindsTo.of_eq (hb m vs hlen)) hcell (fun y hy=>hloc y.1 (List.of_mem_zip hy).1) (fun h₀ hns hk=>?_) hd.co hd.gen hd.fn
 have env0:callEnv (fdOf (.FunctionDef name params body dl ret tp scope ts bd pos) q c m) s.heap.objs.size f = { scope:=scope,locals:=s.heap.objs.size,globals:=mainGlobals,cells:=[],qual:=q ++ ".<locals>.",func:=some f,code:=.ref c,frame:=some s.heap.objs.size,builtins:=builtinsNs }:=rfl
 rw [env0]
 generalize hL:s.heap.objs.size = L at *
 have hz:L < h₀.objs.size:=hns.lt
 have hN:N0 ≤ L:=hL ▸ I.size
 have hf':∀ a ∈ L::H,a ∈ H ∨ s.heap.objs.size ≤ a:=fun a q=>by
  rcases mc q with rfl | q
  ·exact .inr (Nat.le_of_eq hL)
  ·exact .inl q
 have I':Inv h₁ (L::H) { s with heap:=h₀,toks:=s.toks + (xs.zip vs).length }:=by
  have g:=I.grown (h':=h₀) (t:=s.toks + (xs.zip vs).length) hk (by rw [hL];exact Nat.le_of_lt hz)
  have hlow:∀ a ∈ L::H,N0 ≤ a∧a < h₀.objs.size:=fun a q=>by
   rcases mc q with rfl | q
   ·exact ⟨hN,hz⟩
   ·exact g.hok a q
  exact ⟨g.kp,(I.tab.less hf').kept (fun b o e _=>hk b o e) (fun a q=>(hlow a q).1),g.bare,hlow,g.size,fun p hp=>let ⟨e1,e2,e3⟩:=I.fix p hp;⟨hk _ _ e1,(fun q=>(hf' _ q).elim e2 fun z=>Nat.lt_irrefl _ (Nat.lt_of_lt_of_le (Heap.lt_size e1) z)),e3⟩⟩
 have st0:Step [] s.heap h₀:=Step.of_keeps hk (by rw [hL];exact Nat.le_of_lt hz)
 have br:BR h₀ (L::H) (xs.zip vs).reverse (xs.zip ds).reverse:=(BR.zip (x.step (X:=[]) st0 (fun _ q=>(nomatch q)) hf')).reverse
 have F0:Fm ⟨scope,[]⟩ { scope:=scope,locals:=L,globals:=mainGlobals,cells:=[],qual:=q ++ ".<locals>.",func:=some f,code:=.ref c,frame:=some L,builtins:=builtinsNs } (xs.zip ds).reverse h₀ (L::H):=by
  refine ⟨⟨rfl,hd.fn,rfl,rfl,hN,(fun _ _ e=>by cases e),(fun h=>absurd h hcal),⟨_,hns,fun y d' e _=>br.lookup e,fun _ _ e=>by cases e⟩,fun y d' e kd=>?_,fun _ _ e=>by cases e⟩,⟨.head _,fun y hy=>absurd rfl (hcell _ hy),fun _ _ _ e=>by cases e⟩⟩
  exfalso
  have hy:=br.keys e
  refine ex11 (List.mem_map.mp hy) fun p hp zq1=>?_;subst zq1
  exact kd (hloc p.1 (List.of_mem_zip (List.mem_reverse.mp hp)).1)
 have hLX:L ∉ X:=fun q=>by
  have:=(I.hok L (hX L q)).2
  rw [hL] at this
  exact Nat.lt_irrefl _ this
 have W:Own { scope:=scope,locals:=L,globals:=mainGlobals,cells:=[],qual:=q ++ ".<locals>.",func:=some f,code:=.ref c,frame:=some L,builtins:=builtinsNs } X (L::H):=⟨fun y hy=>.tail _ (hX y hy),hLX,fun _ _ e=>by cases e⟩
 have p₁:P.ok h₀ (L::H):=P.stab pk st0 (fun _ q=>nomatch q) hf'
 refine hbody prog w _ _ { s with heap:=h₀,toks:=s.toks + (xs.zip vs).length } (L::H) _ _ T (R.deeper _) I' F0 W p₁ fun o P₂ fl s' ho st I₂ p₂ ok hsz=>?_
 have hw:SStep X s s':=by
  have s0:SStep [] s { s with heap:=h₀,toks:=s.toks + (xs.zip vs).length }:=SStep.heap st0 _
  have h1:=s0.up.trans st
  refine h1.mono fun y hy=>?_
  rcases List.mem_append.mp hy with hy | hy
  ·rcases wr_mem hy with rfl | ⟨n,hm,_⟩
   ·exact .inr (Nat.le_of_eq hL)
   ·exact absurd rfl (hcell _ hm)
  ·exact .inl hy
 have I₃:Inv h₁ H s':=I₂.less (fun a q=>.inl (.tail _ q)) fun a q=>I₂.hok a (.tail _ q)
 obtain ⟨rfl,ho⟩:=ho
 have p₃:P₂.ok s'.heap H:=P₂.less p₂ fun a q=>.inl (.tail _ q)
 rcases ho with rfl | ⟨rfl,vs',rfl⟩
 ·cases fl <;> first | (exact ok.elim) | skip
  have hv:V s'.heap (L::H) _ d:=ok
  exact k _ _ hw I₃ p₃ (hv.less fun a q=>.inl (.tail _ q))
 ·cases fl <;> first | (exact ok.elim) | skip
  exact k _ _ hw I₃ p₃ .none
structure LexG (a:LexA) (line:Int) (name:Str) (d:D):Prop where
 no:∀ K,ClsF K→findIn K (.ref 94) name = some none
 get:∀ hs ts,∃ v,getL name (lexEs a line hs ts) = some (some v)∧handedIn v = true∧∀ h H,V h H v d
theorem LexG.ln:LexG a line "lineno" (.int line):=⟨fun _ C=>C.n1,fun hs ts=>⟨_,lexEs_line,rfl,fun _ _=>.int _ _⟩⟩
theorem LexG.ins:LexG a line "instream" (opq a.L):=⟨fun _ C=>C.n2,fun hs ts=>⟨_,lexEs_in,rfl,fun _ _=>.opq _⟩⟩
theorem LexG.ws:LexG a line "whitespace" (.str (S [10,9,13,32])):=⟨fun _ C=>C.n3,fun hs ts=>⟨_,lexEs_ws,rfl,fun _ _=>.str _ _⟩⟩
theorem LexG.pb:LexG a line "pushback" (opq a.P):=⟨fun _ C=>C.n4,fun hs ts=>⟨_,lexEs_pb,rfl,fun _ _=>.opq _⟩⟩
theorem EVR.attr {x name:Str}{p pos:Pos}{d:D}(hx:vars.lookup x = some (opq a.L)) (hg:LexG a line name d) (hd:(x == ("__debug__":Str)) = false:=by rfl):EVR h₁ r sc vars a.X (Rp.lex a line rest push) (.Attribute (.Name x p) name pos) d (Rp.lex a line rest push):=by
 intro prog w A env s H Q E T R I O W pk k
 refine evalAttr ?_
 with_reducible refine (EVP.name hx hd) prog w A env s H _ E T R I O fun v s₁ st I₁ hv=>?_
 have hv':=hv.asOpq
 subst hv'
 have p₁:LexAt a line rest push s₁.heap H:=Rp.grow _ pk st.st
 refine ex11 (T.frag I₁.kp) fun K C X=>?_
 refine ex30 p₁.dct fun hs ts n e=>?_
 refine ex12 (hg.get hs ts) fun u g1 g2 g3=>?_
 refine getI X C (hg.no K C) p₁.obj e g1 g2 ?_
 exact k _ _ (st.trans (SStep.toks _ _)).up (I₁.toks _) p₁ (g3 _ _)
structure LexM (a:LexA) (name:Str) (f:Addr):Prop where
 at_:∀ K,ClsF K→findIn K (.ref 94) name = some (some (.ref f))∧typeIn K (.ref f) = some (.type "function")
 get:∀ line hs ts,getL name (lexEs a line hs ts) = some none
theorem LexM.rc:LexM a "_read_char" 77:=⟨fun _ C=>⟨C.rc,C.t2⟩,fun _ _ _=>lexEs_rc⟩
theorem LexM.gt:LexM a "get_token" 84:=⟨fun _ C=>⟨C.gt,C.t3⟩,fun _ _ _=>lexEs_gt⟩
theorem LexM.pt:LexM a "push_token" 91:=⟨fun _ C=>⟨C.pt,C.t4⟩,fun _ _ _=>lexEs_pt⟩
theorem EVR.methL {x name:Str}{f:Addr}{p apos pos:Pos}{args:List Expr}{ds:List D}{d:D}{P':Rp a.X}(hx:vars.lookup x = some (opq a.L)) (hm:LexM a name f) (hk:KeepOK h₁ (.ref f)) (ha:EVS h₁ r sc vars args ds) (hc:CallR h₁ r (.ref f) (opq a.L::ds) a.X (Rp.lex a line rest push) d P')
  (hl:(apos.endLine == pos.line) = true:=by rfl) (hn:args.length < 28:=by decide) (hd:(x == ("__debug__":Str)) = false:=by rfl):EVR h₁ r sc vars a.X (Rp.lex a line rest push) (.Call (.Attribute (.Name x p) name apos) args [] pos) d P':=by
 intro prog w A env s H Q E T R I O W pk k
 with_reducible refine mcall rfl hl ha.1 hn ((EVP.name hx hd) prog w A env s H _ E T R I O fun v s₁ st I₁ hv=>?_)
 have hv':=hv.asOpq
 subst hv'
 have p₁:LexAt a line rest push s₁.heap H:=Rp.grow _ pk st.st
 have p₁':(Rp.lex a line rest push).ok s₁.heap H:=p₁
 refine ex11 (T.frag I₁.kp) fun K C X=>?_
 refine ex30 p₁.dct fun hs ts n e=>?_
 refine methI X C (hm.at_ K C).1 (hm.at_ K C).2 p₁.obj e (hm.get _ _ _) ?_
 have hp:((backTo pos (starEach args env)).any (·.1) || ([]:List (Option Str × Sem Value)).any (·.1.isNone)) = false:=by rw [ha.1 env pos];rfl
 show wpAny (model prog w) A (callWith pos (.ref f) [.ref a.L] (backTo pos (starEach args env)) []) Q E s₁
 with_reducible refine callWith_of (P:=Kp h₁) hp (hk T _) (evalArgs_of (ha.1 env pos) (ha.2 prog w A env pos s₁ H _ E T R I₁ (O.grow st.st) fun vs s₂ st₂ I₂ hvs=>⟨I₂.kp,?_⟩))
 show wpAny (model prog w) A (PySem.call (.ref f) (.ref a.L::vs)) Q E s₂
 with_reducible refine hc prog w A s₂ H (.ref a.L::vs) Q E T R I₂ (.cons (.opq _) hvs) W.sub ((Rp.lex a line rest push).grow p₁' st₂.st) fun v s₃ st₃ I₃ p₃ hv=>?_
 exact k _ _ ((st.trans st₂).up.trans st₃) I₃ p₃ hv
theorem EVR.readL {x:Str}{p p2 apos pos cp:Pos}{n:Nat}(hx:vars.lookup x = some (opq a.L)) (hl:(apos.endLine == pos.line) = true:=by rfl) (hd:(x == ("__debug__":Str)) = false:=by rfl) :
  EVR h₁ (r + 1) sc vars a.X (Rp.lex a line rest push) (.Call (.Attribute (.Attribute (.Name x p) "instream" p2) "read" apos) [.Constant (.int 1) n cp] [] pos) (.str (S (rdS rest))) (Rp.lex a line rest.tail push):=by
 intro prog w A env s H Q E T R I O W pk k
 have ha:EVS h₁ (r + 1) sc vars [.Constant (.int 1) n cp] [.int 1]:=EVS.cons EVP.const_int EVS.nil
 with_reducible refine mcall rfl hl ha.1 (by simp) (EVR.attr hx LexG.ins hd prog w A env s H _ E T R I O W pk fun v s₁ st I₁ p₁ hv=>?_)
 have hv':=hv.asOpq
 subst hv'
 have p₁:LexAt a line rest push s₁.heap H:=p₁
 refine ex11 (T.frag I₁.kp) fun K C X=>?_
 refine ex30 p₁.dct fun hs ts nn e=>?_
 refine ex31 p₁.fn fun fo pm ctv hf hfd=>?_
 refine methO X C C.n5 p₁.obj e lexEs_rd rfl ?_
 have hp:((backTo pos (starEach [.Constant (.int 1) n cp] env)).any (·.1) || ([]:List (Option Str × Sem Value)).any (·.1.isNone)) = false:=by rw [ha.1 env pos];rfl
 have hk:∀ (h:Heap),h.get? a.f = some fo→∃ k,(k = Keeper.frame ∨ k = Keeper.machine ∨ k = Keeper.boundFrame)∧Looks (model prog w) h (keeperOf (.ref a.f)) k:=by
  intro h e
  refine ⟨.frame,.inl rfl,(Looks.ld (part:=none) e).andThen ?_⟩
  rw [hfd]
  exact .now
 have I₁':=I₁.toks (s₁.toks + 1)
 have O₁:=O.own W st.st
 show wpAny (model prog w) A (callWith pos (.ref a.f) [] (backTo pos (starEach [.Constant (.int 1) n cp] env)) []) Q E { s₁ with toks:=s₁.toks + 1 }
 with_reducible refine callWith_of (P:=fun h=>h.get? a.f = some fo) hp hk (evalArgs_of (ha.1 env pos) (ha.2 prog w A env pos { s₁ with toks:=s₁.toks + 1 } H _ E T R I₁' (O₁.grow (Step.refl _ _)) fun vs s₂ st₂ I₂ hvs=>⟨st₂.st.keep _ _ hf List.not_mem_nil (tabs_lt (p₁.low _ (by simp [LexA.X]))),?_⟩))
 show wpAny (model prog w) A (PySem.call (.ref a.f) vs) Q E s₂
 have p₂:=(Rp.lex a line rest push).grow (show (Rp.lex a line rest push).ok s₁.heap H from p₁) ((SStep.toks s₁ (s₁.toks + 1)).trans st₂).st
 with_reducible refine lam_ok prog w A s₂ H vs Q E T R I₂ hvs W.sub p₂ fun v s₃ st₃ I₃ p₃ hv=>?_
 exact k _ _ (st.trans (((SStep.toks s₁ (s₁.toks + 1)).trans st₂).up.trans st₃)) I₃ p₃ hv
theorem SXR1.incLine {x:Str}{p tp pos cp:Pos}{n:Nat}{Φ:Out→Rp a.X→Prop}(hx:vars.lookup x = some (opq a.L)) (hΦ:Φ (.next vars) (Rp.lex a (line + 1) rest push)) (hd:(x == ("__debug__":Str)) = false:=by rfl) :
  SXR1 h₁ r sc vars a.X (Rp.lex a line rest push) (.AugAssign (.Attribute (.Name x p) "lineno" tp) .Add (.Constant (.int 1) n cp) pos) Φ:=by
 intro prog w A env s H Q E T R I F W pk k
 refine wpAny_AugAssign_AttributeAny ((EVP.name hx hd) prog w A env s H _ E T R I F.ok fun v s₁ st I₁ hv=>?_)
 have hv':=hv.asOpq
 subst hv'
 have p₁:LexAt a line rest push s₁.heap H:=Rp.grow _ pk st.st
 refine ex11 (T.frag I₁.kp) fun K C X=>?_
 refine ex30 p₁.dct fun hs ts nn e=>?_
 refine getI X C C.n1 p₁.obj e lexEs_line rfl ?_
 with_reducible refine wpAny_Constant_int ?_
 with_reducible refine iadd_int ?_
 refine setI (s:={ s₁ with toks:=s₁.toks + 1 + 1 + 1 }) X C C.n1 p₁.obj e (by rw [lexEs_line];rfl) (by obtain ⟨ts',e'⟩:=lexEs_put (a:=a) (line:=line) (line':=line + 1) (hs:=hs) (ts:=ts) (hh:=PyData.keyHash (WW.w w).params "lineno") (t:=s₁.toks + 1 + 1 + 1 + 1) (t':=s₁.toks + 1 + 1);rw [e'];show 5 ≤ 1000;lia) fun h' hsb hd'=>?_
 have hdX:a.d ∈ a.X:=by simp [LexA.X]
 have hdN:=p₁.low _ (.tail _ hdX)
 have stE:=LexA.step (s:={ s₁ with toks:=s₁.toks + 1 + 1 + 1 }) (tk:=s₁.toks + 1 + 1 + 1 + 2) hdX hdN hsb
 have I₂:=(I₁.toks (s₁.toks + 1 + 1 + 1)).same (tk:=s₁.toks + 1 + 1 + 1 + 2) (W.sub _ hdX) hsb
 obtain ⟨ts',e'⟩:=lexEs_put (a:=a) (line:=line) (line':=line + 1) (hs:=hs) (ts:=ts) (hh:=PyData.keyHash (WW.w w).params "lineno") (t:=s₁.toks + 1 + 1 + 1 + 1) (t':=s₁.toks + 1 + 1)
 have p₂:=p₁.moveD (line':=line + 1) W.sub hsb ⟨hs,ts',_,by rw [hd',e']⟩
 have stA:=(st.trans (SStep.toks s₁ (s₁.toks + 1 + 1 + 1))).up.trans stE
 exact k _ _ .next _ hΦ stA.wX I₂ p₂ (F.own W stA.st)
end
end Mine
section
set_option maxRecDepth 100000
namespace Mine.F
theorem owner_ci:Manifest.owners.lookup (String.ofList ['r','o','t','a','r','e','t','i','_','e','l','b','a','l','l','a','c'].reverse) = some Manifest.sig_callable_iterator:=by kernel_rfl
theorem slot_ci_next:Slot "callable_iterator" "__next__" "callable_iterator.__next__":=
 .of (owner := "callable_iterator") (n := "__next__") (by rw [typeLookup_type,builtinLookup_eq_fast];kernel_rfl) (by decide +kernel) (by decide +kernel) (by decide +kernel)
  (by first | exact .inl (by decide +kernel) | exact .inr (by decide +kernel)) (by rw [isSubtype_type];kernel_rfl)
theorem slot_ci_iter:Slot "callable_iterator" "__iter__" "callable_iterator.__iter__":=
 .of (owner := "callable_iterator") (n := "__iter__") (by rw [typeLookup_type,builtinLookup_eq_fast];kernel_rfl) (by decide +kernel) (by decide +kernel) (by decide +kernel)
  (by first | exact .inl (by decide +kernel) | exact .inr (by decide +kernel)) (by rw [isSubtype_type];kernel_rfl)
theorem entry_ci_next:entryFor table "callable_iterator.__next__" = some Builtin.«callable_iterator.__next__»:=entryFor_of_tree (by kernel_rfl)
theorem entry_ci_iter:entryFor table "callable_iterator.__iter__" = some Builtin.«dict_keyiterator.__iter__»:=
 entryFor_alias (id' := "dict_keyiterator.__iter__") (by kernel_rfl) rfl (by decide +kernel) (by kernel_rfl)
theorem args_ci_next (a:Value):argsOk "callable_iterator.__next__" ⟨[a],[]⟩:=by
 unfold argsOk;rw [signature?_of (id := "callable_iterator.__next__") (n:=['_','_','t','x','e','n','_','_']) (o:=['r','o','t','a','r','e','t','i','_','e','l','b','a','l','l','a','c']) (by kernel_rfl) owner_ci];kernel_rfl
theorem args_ci_iter (a:Value):argsOk "callable_iterator.__iter__" ⟨[a],[]⟩:=by
 unfold argsOk;rw [signature?_of (id := "callable_iterator.__iter__") (n:=['_','_','r','e','t','i','_','_']) (o:=['r','o','t','a','r','e','t','i','_','e','l','b','a','l','l','a','c']) (by kernel_rfl) owner_ci];kernel_rfl
end Mine.F
end
namespace Mine
variable [Wd]
section
variable {h₁:Gl}{r:Nat}{sc:Sc}{vars:List (Str × D)}{a:LexA}{N:Int}{rest:List Nat}{push:List Str}{X:List Addr}
noncomputable def Rp.lexN (a:LexA) (N:Int) (rest:List Nat) (push:List Str):Rp a.X:=Rp.lex a (N - (rest.count 10:Nat)) rest push
theorem rdNl:∀ {rest:List Nat},(S (rdS rest) == Str.ofString "\n") = (rest.head? == some 10)
 | []=>rfl
 | c::r=>by
  show (S [c] == S [10]) = _
  rw [S_beq]
  by_cases h:c = 10
  ·subst h;rfl
  ·have:(c == 10) = false:=by simpa using h
   simp [this,h]
theorem defR:DefOf (mtOf 1) "_read_char" (parOf (mtOf 1)) (bodyOf (mtOf 1)) (scOf0 (mtOf 1)):=⟨⟨_,_,_,_,_,_,rfl⟩,rfl,rfl,rfl⟩
theorem read_cod:CodR h₁ (r + 2) (.ref 77) [opq a.L] a.X (Rp.lexN a N rest push) (.str (S (rdS rest))) (Rp.lexN a N rest.tail push):=by
 refine CodR.of_def (xs:=["self"]) (fun T=>T.fRead) defR ?_ ?_ (by decide) ?_
 ·intro m vs hl
  obtain ⟨_,rfl⟩:=len1 hl
  rfl
 ·intro x hx
  simp only [List.mem_cons,List.not_mem_nil,or_false] at hx
  subst hx;rfl
 show SXR h₁ (r + 1) ⟨scOf0 (mtOf 1),[]⟩ [(("self":Str),opq a.L)] a.X (Rp.lexN a N rest push) (bodyOf (mtOf 1)) _
 conv=>arg 7;whnf
 have vS:Has [(("self":Str),opq a.L)] "self" (opq a.L):=Has.here
 refine SXR.assign (EVR.readL vS) (.inl rfl) ?_
 refine SXR.ite (b:=rest.head? == some 10) (TSP.re ((TSP.cmp (EVP.name Has.here) EVP.const_str COp.eqS).as rdNl)) (fun hb=>?_) (fun hb=>?_)
 ·obtain ⟨r',rfl⟩:∃ r',rest = 10::r':=by
   cases rest with
   | nil=>simp at hb
   | cons c r'=>simp at hb;exact ⟨r',by rw [hb]⟩
  have e:N - (((10::r').count 10:Nat):Int) + 1 = N - ((r'.count 10:Nat):Int):=by
   rw [List.count_cons_self];lia
  refine SXR.kont (SXR1.incLine (Has.here.skip rfl) ?_)
  rw [e]
  refine SXR.done ?_
  refine SXR.ret (EVP.re (EVP.name Has.here)) ⟨rfl,.inl rfl⟩
 ·refine SXR.done ?_
  have e:Rp.lex a (N - ((rest.count 10:Nat):Int)) rest.tail push = Rp.lexN a N rest.tail push:=by
   unfold Rp.lexN
   congr 2
   cases rest with
   | nil=>rfl
   | cons c r'=>
    have:c ≠ 10:=by intro q;subst q;simp at hb
    rw [List.count_cons_of_ne this];rfl
  rw [e]
  refine SXR.ret (EVP.re (EVP.name Has.here)) ⟨rfl,.inl rfl⟩
theorem read_ok:CallR h₁ (r + 2) (.ref 77) [opq a.L] a.X (Rp.lexN a N rest push) (.str (S (rdS rest))) (Rp.lexN a N rest.tail push):=read_cod.call
theorem keepR:KeepOK h₁ (.ref 77):=KeepOK.fn fun T=>T.fRead
theorem EVR.rc {x:Str}{p apos pos:Pos}(hx:vars.lookup x = some (opq a.L)) (hl:(apos.endLine == pos.line) = true:=by rfl) (hd:(x == ("__debug__":Str)) = false:=by rfl) :
  EVR h₁ (r + 2) sc vars a.X (Rp.lexN a N rest push) (.Call (.Attribute (.Name x p) "_read_char" apos) [] [] pos) (.str (S (rdS rest))) (Rp.lexN a N rest.tail push):=
 EVR.methL hx LexM.rc keepR EVS.nil read_ok hl (by simp) hd
noncomputable def Rp.cons (b:Addr) (J:Rp [b]) (P:Rp X):Rp (b::X) where
 ok h H:=b ∉ X∧J.ok h H∧P.ok h H
 stab:=fun {h h' Y H H'} x st hY hH=>⟨x.1,J.stab x.2.1 st (fun y q=>⟨(hY y q).1,fun z=>(hY y q).2 (by rcases ms z with rfl;exact .head _)⟩) hH,P.stab x.2.2 st (fun y q=>⟨(hY y q).1,fun z=>(hY y q).2 (.tail _ z)⟩) hH⟩
variable {b:Addr}{J J':Rp [b]}{P P':Rp X}
theorem Own.tl {env:Env}{H:List Addr}(W:Own env (b::X) H):Own env X H:=⟨fun y q=>W.sub y (.tail _ q),fun q=>W.loc (.tail _ q),fun n c e q=>W.cel n c e (.tail _ q)⟩
theorem Rp.over {J:Rp [b]}{h h':Heap}{H:List Addr}(x:J.ok h H) (hb:b ∉ X) (hX:∀ y ∈ X,y ∈ H) (st:Step X h h'):J.ok h' H:=
 J.stab x st (fun y q=>⟨hX y q,fun z=>hb (by rcases ms z with rfl;exact q)⟩) fun _ q=>.inl q
theorem SStep.tail {s s':Shared}(st:SStep X s s'):SStep (b::X) s s':=st.mono fun _ q=>.inl (.tail _ q)
theorem EVR.over {e:Expr}{d:D}(he:EVR h₁ r sc vars X P e d P'):EVR h₁ r sc vars (b::X) (Rp.cons b J P) e d (Rp.cons b J P'):=by
 intro prog w A env s H Q E T R I O W p k
 refine ex02 p fun p1 p2 p3=>?_
 with_reducible refine he prog w A env s H Q E T R I O W.tl p3 fun v s' st I' p' hv=>k v s' st.tail I' ?_ hv
 exact ⟨p1,Rp.over p2 p1 W.tl.sub st.st,p'⟩
theorem TSR.over {e:Expr}{v:Bool}(he:TSR h₁ r sc vars X P e v P'):TSR h₁ r sc vars (b::X) (Rp.cons b J P) e v (Rp.cons b J P'):=by
 intro prog w A env s H Q E T R I O W p k
 refine ex02 p fun p1 p2 p3=>?_
 with_reducible refine he prog w A env s H Q E T R I O W.tl p3 fun s' st I' p'=>k s' st.tail I' ?_
 exact ⟨p1,Rp.over p2 p1 W.tl.sub st.st,p'⟩
abbrev NXR (h₁:Gl) (r:Nat) (it:Addr) (X:List Addr) (P:Rp X) (o:Option D) (P':Rp X):Prop:=
 ∀ (prog:Program) (w:WW) (A:Around) (s:Shared) (H:List Addr) (Q:Option Value→Shared→Prop) (E:Value→Shared→Prop),
  Top1 h₁→Room r A→Inv h₁ H s→(∀ x ∈ X,x ∈ H)→P.ok s.heap H →
  (∀ v s',SStep X s s'→Inv h₁ H s'→P'.ok s'.heap H→(match o with | none=>v = none | some d=>∃ u,v = some u∧V s'.heap H u d)→Q v s')→wpAny (model prog w) A (pyNext (.ref it)) Q E s
theorem SXR1.forIt {x y:Str}{px py:Pos}{body:List Stmt}{pos:Pos}{it:Addr}{Φ:Out→Rp X→Prop}(hx:vars.lookup y = some (opq it)) (M:Nat→List (Str × D)→Rp X→Prop) (n:Nat) (h0:M n vars P) (hs:Sto sc x)
  (hself:∀ n vs P,M n vs P→∀ (prog:Program) (w:WW) (A:Around) (s:Shared) (H:List Addr) (Q:Value→Shared→Prop) (E:Value→Shared→Prop),P.ok s.heap H→Q (.ref it) s→wpAny (model prog w) A (pyIter (.ref it)) Q E s)
  (turn:∀ n vs P,M n vs P→∃ o P',NXR h₁ r it X P o P'∧(match o with
   | none=>Φ (.next vs) P'
   | some d=>SXR h₁ r sc ((x,d)::vs) X P' body fun o P''=>match o with
    | .next vs''=>∃ m,m < n∧M m vs'' P''
    | .cont vs''=>∃ m,m < n∧M m vs'' P''
    | .brk vs''=>Φ (.next vs'') P''
    | .ret d=>Φ (.ret d) P'')) (hd:(y == ("__debug__":Str)) = false:=by rfl):SXR1 h₁ r sc vars X P (.For (.Name x px) (.Name y py) body [] pos) Φ:=by
 intro prog w A env s H Q E T R I F W pk k
 refine wpAny_For ((EVP.name hx hd) prog w A env s H _ E T R I F.ok fun v s₁ st I₁ hv=>?_) (by intro x;rfl)
 have hv':=hv.asOpq
 subst hv'
 have p₁:=Rp.grow P pk st.st
 refine hself n vars P h0 prog w A s₁ H _ E p₁ ?_
 refine codeAny_forLoop_any (fun n s'=>∃ vs P,M n vs P∧SStep (wr sc env ++ X) s s'∧Inv h₁ H s'∧Fm sc env vs s'.heap H∧P.ok s'.heap H) ?_ n ⟨vars,P,h0,st.up,I₁,F.grow st.st,p₁⟩
 intro n s₂ zq
 refine ex24 zq fun vs P₂ hM st₂ I₂ F₂ p₂=>?_
 refine ex21 (turn n vs P₂ hM) fun o P₃ hn ho=>?_
 refine hn prog w A s₂ H _ _ T R I₂ W.sub p₂ fun v s₃ st₃ I₃ p₃ hv=>?_
 have F₃:=F₂.own W st₃.st
 cases o with
 | none=>
  dsimp only at hv ho
  subst hv
  with_reducible refine wpAny_execs_nil ?_
  exact k _ _ .next _ ho (st₂.trans st₃.wX) I₃ p₃ F₃
 | some d=>
  dsimp only at hv ho
  refine ex11 hv fun u zq1 hu=>?_;subst zq1
  refine own_name _ _ _ ?_
  refine PyProof.Rows.assign_Name (store hs I₃ F₃ hu fun s₄ st₄ I₄ F₄=>?_)
  have p₄:=Rp.frame p₃ W F₃.w st₄.st
  refine ho prog w A env s₄ H _ _ T R I₄ F₄ W p₄ fun o P₅ f s₅ hk st₅ I₅ p₅ ok=>?_
  have stA:SStep (wr sc env ++ X) s s₅:=st₂.trans (st₃.wX.trans (st₄.wF.trans st₅))
  cases o with
  | next vs''=>
   cases f <;> first | (exact ok.elim) | skip
   refine ex11 hk fun m hm hM'=>?_
   exact ⟨m,hm,vs'',P₅,hM',stA,I₅,ok,p₅⟩
  | cont vs''=>
   cases f <;> first | (exact ok.elim) | skip
   refine ex11 hk fun m hm hM'=>?_
   exact ⟨m,hm,vs'',P₅,hM',stA,I₅,ok,p₅⟩
  | brk vs''=>
   cases f <;> first | (exact ok.elim) | skip
   exact k _ _ .next _ hk stA I₅ p₅ ok
  | ret d'=>
   cases f <;> first | (exact ok.elim) | skip
   exact k _ _ _ _ hk stA I₅ p₅ ok
end
end Mine
namespace Mine
theorem wpAny_callBorrowed {M:Model}{A:Around}{E:Value→Shared→Prop}{s:Shared}{f:Value}{pos:List Value}{Q:Value→Shared→Prop}(h:wpAny M A (PySem.call f pos) Q E s):wpAny M A (callBorrowed f pos) Q E s:=by
 have e:callBorrowed f pos = (PySem.call f pos).keep [borrowed]:=by
  unfold callBorrowed PySem.call runValue PySem.run
  show _ = Sem.keep _ (Sem.call _ none false [] _)
  simp only [Sem.keep,List.append_nil]
  congr 1
  funext r
  rcases r with e | (v | _ | _ | _) <;> rfl
 rw [e]
 exact Calls.wpAny_keep h
abbrev ciObj (f y:Value) (b:Bool):Obj:={ cls:=.type "callable_iterator",data:=.fields #[f,y,.bool b] }
section
variable {prog:Program}{w:World}{A:Around}{E:Value→Shared→Prop}{s:Shared}{it q:Addr}{f:Value}
theorem wpAny_borrows {g L:Addr}{fo:Obj}{fd:FuncData}{Q:Bool→Shared→Prop}(hq:s.heap.get? q = some (methodObj (.ref g) (.ref L))) (hg:s.heap.get? g = some fo) (hfd:fo.data = .func fd) (k:Q true s):wpAny (model prog w) A (borrowsExactly (.ref q)) Q E s:=by
 unfold borrowsExactly
 refine wpAny_bind (wpAny_load hq ?_)
 dsimp only
 rw [if_pos (by decide)]
 refine wpAny_bind (wpAny_load hg ?_)
 rw [hfd]
 exact wpAny_pure k
theorem ciSelf {y:Value}{b:Bool}{Q:Value→Shared→Prop}(hit:s.heap.get? it = some (ciObj f y b)) (h:Q (.ref it) s):wpAny (model prog w) A (pyIter (.ref it)) Q E s:=by
 have hT:s.TypeIs (.ref it) "callable_iterator":=⟨_,hit,rfl⟩
 refine wpAny_pyIter_slot hT F.slot_ci_iter (wpAny_call_entry F.slot_ci_iter hT F.entry_ci_iter ?_ (F.args_ci_iter _))
 show wpAny _ _ (ret (.ref it)) _ _ s
 exact wpAny_pure ⟨_,rfl, "callable_iterator",_,hT,F.slot_ci_next.lookup,h⟩
theorem raiseStop {α:Type}{R:α→Shared→Prop}(hh:A.handled = none) (k:∀ h' e,Heap.ExtBut s.heap.objs.size s.heap h'→s.heap.objs.size ≤ h'.objs.size→(∃ o,h'.get? e = some o∧o.cls = .type "StopIteration")→E (.ref e) { s with heap:=h' }):wpAny (model prog w) A (Builtin.SmallTypes.stopIteration:Sem α) R E s:=by
 show wpAny _ _ (newExc (.type "StopIteration") [] >>= _) _ _ _
 refine wpAny_bind ?_
 simp only [newExc,newTuple]
 refine wpAny_bind (wpAny_newObj_type ?_ (by size_fits))
 refine wpAny_bind (m:=firstArgMember _ _) (wpAny_of_eq (a:=Value.none) (by first | rfl | (simp only [firstArgMember];rfl)) ?_)
 refine wpAny_newObj_type ?_ (by size_fits)
 simp only [raiseNew]
 refine wpAny_bind (wpAny_handled ?_)
 first | rw [show A.in1.handled = none from hh] | rw [hh]
 refine wpAny_bind (wpAny_pure (wpAny_throw ?_))
 refine k _ _ (fun b o n e=>Heap.get?_push_of_some _ (Heap.get?_push_of_some _ e)) (by simp only [Heap.size_push];lia) ⟨_,Heap.get?_push_size _ rfl,rfl⟩
end
end Mine
namespace Mine
variable [Wd]
section
variable {h₁:Gl}{r:Nat}{sc:Sc}{vars:List (Str × D)}{a:LexA}{N:Int}{rest:List Nat}{push:List Str}{X:List Addr}
noncomputable def itSt (a:LexA) (q it:Addr) (live:Bool):Rp [it] where
 ok h H:=N0 ≤ it∧q ∉ H∧N0 ≤ q∧q ≠ it∧h.get? q = some (methodObj (.ref 77) (.ref a.L))∧(live = true→∃ t,h.get? it = some (ciObj (.ref q) (.str (S []) t) false))∧(live = false→h.get? it = some (ciObj .none .none true))
 stab:=fun {h h' Y H H'} x st hY hH=>by
  refine ex06 x fun x1 x2 x3 x4 x5 x6 x7=>?_
  have ki:∀ o,h.get? it = some o→h'.get? it = some o:=fun o e=>st.keep _ _ e (fun z=>(hY _ z).2 (.head _)) (tabs_lt x1)
  exact ⟨x1,fun z=>(hH _ z).elim x2 fun y=>Nat.lt_irrefl _ (Nat.lt_of_lt_of_le (Heap.lt_size x5) y),x3,x4,st.keep _ _ x5 (fun z=>x2 (hY _ z).1) (tabs_lt x3),fun e=>let ⟨t,g⟩:=x6 e;⟨t,ki _ g⟩,fun e=>ki _ (x7 e)⟩
noncomputable def Rp.it (a:LexA) (q it:Addr) (live:Bool) (N:Int) (rest:List Nat) (push:List Str):Rp (it::a.X):=Rp.cons it (itSt a q it live) (Rp.lexN a N rest push)
theorem itSelf {q it:Addr}{live:Bool}(prog:Program) (w:WW) (A:Around) (s:Shared) (H:List Addr) (Q:Value→Shared→Prop) (E:Value→Shared→Prop) (p:(Rp.it a q it live N rest push).ok s.heap H) (h:Q (.ref it) s):wpAny (model prog w) A (pyIter (.ref it)) Q E s:=by
 refine ex02 p fun _ zq1 _=>?_;obtain ⟨_,_,_,_,_,x6,x7⟩:=zq1
 cases live with
 | true=>obtain ⟨t,g⟩:=x6 rfl;exact ciSelf g h
 | false=>exact ciSelf (x7 rfl) h
theorem nxt_dead {q it:Addr}:NXR h₁ r it (it::a.X) (Rp.it a q it false N rest push) none (Rp.it a q it false N rest push):=by
 intro prog w A s H Q E T R I hX p k
 have hit:=p.2.1.2.2.2.2.2.2 rfl
 have hT:s.TypeIs (.ref it) "callable_iterator":=⟨_,hit,rfl⟩
 unfold pyNext
 refine wpAny_bind (wpAny_attempt (wpAny_callSpecial?_slot (name:=Str.ofString "__next__") hT F.slot_ci_next (wpAny_call_entry F.slot_ci_next hT F.entry_ci_next ?_ (F.args_ci_next _))))
 show wpAny _ _ (field (.ref it) 2 >>= _) _ _ s
 refine wpAny_bind (wpAny_field hit rfl (x:=.bool true) rfl ?_)
 rw [if_pos (by decide)]
 refine wpAny_bind (wpAny_rule ?_)
 refine wpAny_bind (raiseStop (show A.in1.handled = none from R.hd) fun h' e hx hz ho=>?_)
 refine wpAny_bind (wpAny_isInstance (T := "StopIteration") (b:=true) ho isSubtype_stop ?_)
 have st:SStep [] s { s with heap:=h' }:=SStep.heap' (Step.extBut hx hz)
 exact wpAny_pure (k _ _ st.up (I.extBut hx hz) (Rp.grow _ p st.st) rfl)
theorem nxt_live {q it:Addr}:NXR h₁ (r + 3) it (it::a.X) (Rp.it a q it true N rest push) (rest.head?.map fun c=>.str (S [c])) (Rp.it a q it (!rest.isEmpty) N rest.tail push):=by
 intro prog w A s H Q E T R I hX p k
 refine ex02 p fun p1 zq1 p3=>?_;obtain ⟨pN,qH,qN,qi,hq,hl,_⟩:=zq1
 obtain ⟨t,hit⟩:=hl rfl
 have hT:s.TypeIs (.ref it) "callable_iterator":=⟨_,hit,rfl⟩
 obtain ⟨m77,e77⟩:=T.fRead.1
 have h77:=I.kp _ _ e77 (by decide) (by decide)
 unfold pyNext
 refine wpAny_bind (wpAny_attempt (wpAny_callSpecial?_slot (name:=Str.ofString "__next__") hT F.slot_ci_next (wpAny_call_entry F.slot_ci_next hT F.entry_ci_next ?_ (F.args_ci_next _))))
 show wpAny _ _ (field (.ref it) 2 >>= _) _ _ s
 refine wpAny_bind (wpAny_field hit rfl (x:=.bool false) rfl ?_)
 rw [if_neg (by decide)]
 show wpAny _ _ (field (.ref it) 0 >>= _) _ _ s
 refine wpAny_bind (wpAny_field hit rfl (x:=.ref q) rfl ?_)
 refine wpAny_bind (wpAny_attempt ?_)
 unfold callOutOfASlot
 refine wpAny_bind (wpAny_borrows hq h77 rfl ?_)
 rw [if_pos rfl]
 refine wpAny_callBorrowed (wpAny_call (method_call hq ?_))
 have hXl:∀ y ∈ a.X,y ∈ H:=fun y hy=>hX y (.tail _ hy)
 refine read_cod prog w A.in1 s H [.ref a.L] _ _ T R.in1 I (.cons (.opq _) .nil) hXl p3 fun v s₁ st I₁ p₁ hv=>?_
 have itn:it ∉ a.X:=p1
 have q1:s₁.heap.get? q = some (methodObj (.ref 77) (.ref a.L)):=st.st.keep _ _ hq (fun z=>qH (hXl _ z)) (tabs_lt qN)
 have it1:s₁.heap.get? it = some (ciObj (.ref q) (.str (S []) t) false):=st.st.keep _ _ hit itn (tabs_lt pN)
 obtain ⟨_,rfl⟩:=V.strI hv
 rename_i u
 refine wpAny_bind (wpAny_field it1 rfl (x:=.bool false) rfl ?_)
 rw [if_neg (by decide)]
 refine wpAny_bind (wpAny_field it1 rfl (x:=.str (S []) t) rfl ?_)
 refine wpAny_bind (wpAny_holding (wpAny_eqBool_str ?_))
 cases rest with
 | cons c rest=>
  have hne:decide (S [] = S (rdS (c::rest))) = false:=by
   refine decide_eq_false fun z=>?_
   have:=(beq_iff_eq.mpr z:(S [] == S [c]) = true)
   rw [S_beq] at this
   simp at this
  rw [hne]
  rw [if_pos (by rfl)]
  refine wpAny_pure ⟨_,rfl,wpAny_pure ?_⟩
  exact k _ _ st.tail I₁ ⟨p1,⟨pN,qH,qN,qi,q1,fun _=>⟨t,it1⟩,fun e=>by cases e⟩,p₁⟩ ⟨_,rfl,.str _ _⟩
 | nil=>
  have hne:decide (S [] = S (rdS [])) = true:=rfl
  rw [hne]
  rw [if_neg (by decide)]
  refine wpAny_bind (wpAny_rule ?_)
  have h77':=I₁.kp _ _ e77 (by decide) (by decide)
  refine wpAny_bind ?_
  refine wpAny_bind (wpAny_field it1 rfl (x:=.ref q) rfl ?_)
  refine wpAny_bind ?_
  unfold slotLetsGo
  refine wpAny_bind (wpAny_borrows q1 h77' rfl ?_)
  rw [if_pos rfl]
  refine wpAny_pure ?_
  refine wpAny_bind (wpAny_setField_rec it1 (by simp) fun ha hita hsa=>?_)
  refine wpAny_bind (wpAny_setField_rec (s:={ s₁ with heap:=ha }) hita (by simp) fun hb hitb hsb=>?_)
  refine wpAny_setField_rec (s:={ s₁ with heap:=hb }) hitb (by simp) fun hc hitc hsc=>?_
  have hitH:it ∈ H:=hX _ (.head _)
  have hsa:Heap.SameBut it s₁.heap ha:=hsa
  have hsb:Heap.SameBut it ha hb:=hsb
  have hsc:Heap.SameBut it hb hc:=hsc
  have hs3:Heap.SameBut it s₁.heap hc:=⟨hsc.1.trans (hsb.1.trans hsa.1),fun b n=>(hsc.2 b n).trans ((hsb.2 b n).trans (hsa.2 b n))⟩
  have q3:Quiet [it] s₁ { s₁ with heap:=hc }:=Quiet.same (tk:=s₁.toks) hs3
  have st3:SStep [it] s₁ { s₁ with heap:=hc }:=q3.st fun y hy=>by rcases ms hy with rfl;exact pN
  have I₂:Inv h₁ H { s₁ with heap:=hc }:=I₁.quiet q3 fun y hy=>by rcases ms hy with rfl;exact hitH
  refine raiseStop (s:={ s₁ with heap:=hc }) (show A.in1.handled = none from R.hd) fun h' e hx hz ho=>?_
  refine wpAny_bind (wpAny_isInstance (T := "StopIteration") (b:=true) ho isSubtype_stop ?_)
  have st4:SStep [] { s₁ with heap:=hc } { s₁ with heap:=h' }:=SStep.heap' (s:={ s₁ with heap:=hc }) (Step.extBut hx hz)
  have p2:(Rp.it a q it false N [] push).ok hc H:=by
   refine ⟨p1,⟨pN,qH,qN,qi,(hs3.2 q qi).trans q1,(fun e=>by cases e),fun _=>?_⟩,?_⟩
   ·rw [hitc];rfl
   ·exact Rp.stab _ p₁ st3.st (fun y hy=>by rcases ms hy with rfl;exact ⟨hitH,itn⟩) fun _ z=>.inl z
  refine wpAny_pure (k _ _ ?_ (I₂.extBut hx hz) (Rp.grow _ p2 st4.st) rfl)
  exact st.tail.trans ((st3.mono fun y hy=>.inl (by rcases ms hy with rfl;exact .head _)).trans st4.up)
end
end Mine
section
set_option maxRecDepth 100000
namespace Mine.F
theorem iter_kind:builtinKind "iter" = none:=by decide +kernel
theorem iter_plain:plainId "iter" = true:=by decide +kernel
theorem iter_entry:entryFor table "iter" = some Builtin.«iter»:=entryFor_of_tree (by kernel_rfl)
theorem iter_args (a b:Value):argsOk "iter" ⟨[a,b],[]⟩:=by unfold argsOk;kernel_rfl
theorem method_call:typeLookup (.type "method") "__call__" = pure (some (.builtin "method.__call__")):=by rw [typeLookup_type,builtinLookup_eq_fast];kernel_rfl
end Mine.F
namespace Mine
variable [Wd]
section
variable {h₁:Gl}{r:Nat}{sc:Sc}{vars:List (Str × D)}{a:LexA}{N:Int}{rest:List Nat}{push:List Str}{X:List Addr}
theorem iter_call {prog:Program}{w:World}{A:Around}{E:Value→Shared→Prop}{s:Shared}{q:Addr}{y:Value}{Q:Value→Shared→Prop}{m:Obj}(hq:s.heap.get? q = some m) (hm:m.cls = .type "method")
  (k:Q (.ref s.heap.objs.size) { s with heap:=s.heap.push (ciObj (.ref q) y false) }):wpAny (model prog w) A (PySem.call (.builtin "iter") [.ref q,y]) Q E s:=by
 refine wpAny_call (codeAny_call_builtin F.iter_plain F.iter_entry ?_)
 simp only [checkBuiltinCall,F.iter_kind]
 have fin:wpAny (model prog w) A.in1 (Builtin.«iter» ⟨[.ref q,y],[]⟩) (fun fin s'=>match fin with | .done f=>(match (Except.ok f:Result) with | .ok (.ret v)=>Q v s' | .ok _=>False | .error e=>E e s') | .again c'=>c'.quiet = true∧codeAny (model prog w) A c' (fun r s'=>match r with | .ok (.ret v)=>Q v s' | .ok _=>False | .error e=>E e s') s') (fun e s'=>E e s') s:=by
  unfold Builtin.«iter»
  refine wpAny_bind (wpAny_pure ?_)
  dsimp only
  refine wpAny_bind (wpAny_specialOf ⟨_,hq,hm⟩ F.method_call ?_)
  rw [if_neg (by decide)]
  refine wpAny_bind (wpAny_rule ?_)
  exact wpAny_bind (wpAny_newObj_type (wpAny_pure k))
 cases hsig:Manifest.signature? "iter" with
 | none=>exact wpAny_pure fin
 | some sig=>
  have ok:=F.iter_args (.ref q) y
  simp only [argsOk,hsig] at ok
  show wpAny _ _ (Bind.checkArgs "iter" sig ⟨[.ref q,y],[]⟩) _ _ s
  rw [ok];exact wpAny_pure fin
theorem SXR.newIter {x y:Str}{p1 p2 p3 p4 p5 p6 p7:Pos}{n:Nat}{body:List Stmt}{Φ:Out→Rp a.X→Prop}(hx:vars.lookup x = some (opq a.L)) (hi:sc.names.lookup (Str.ofString "iter") = some .globalImplicit) (hs:Sto sc y)
  (h:∀ q it,it ∉ a.X→SXR h₁ r sc ((y,opq it)::vars) (it::a.X) (Rp.it a q it true N rest push) body fun o P₂=>∃ d P₁,o = .ret (.str d)∧Φ (.ret (.str d)) P₁∧∀ h H,P₂.ok h (it::H)→P₁.ok h H) (hd:(x == ("__debug__":Str)) = false:=by rfl) :
  SXR h₁ r sc vars a.X (Rp.lexN a N rest push) (.Assign [.Name y p1] (.Call (.Name "iter" p2) [.Attribute (.Name x p3) "_read_char" p4,.Constant (.str "") n p5] [] p6) p7::body) Φ:=by
 intro prog w A env s H Q E T R I F W pk k
 refine wpAny_execs_cons (wpAny_Assign_Name ?_ (swaps_no rfl))
 with_reducible refine wpAny_Call_NameR (NameIs.bi (f:=.builtin "iter") (by decide) boot_iter hi rfl prog w A env s H vars p2 _ E T I F.ok ?_)
 have hp:((backTo p6 (starEach [.Attribute (.Name x p3) "_read_char" p4,.Constant (.str "") n p5] env)).any (·.1) || ([]:List (Option Str × Sem Value)).any (·.1.isNone)) = false:=rfl
 refine callWith_of (P:=Kp h₁) hp (KeepOK.builtin T _) (evalArgs_of rfl ?_)
 rw [starEach_cons rfl,backTo_cons]
 refine Calls.spliced_cons (evalAttr ?_)
 with_reducible refine (EVP.name hx hd) prog w A env s H _ E T R I F.ok fun v s₁ st I₁ hv=>?_
 have hv':=hv.asOpq
 subst hv'
 have p₁:(Rp.lexN a N rest push).ok s₁.heap H:=Rp.grow _ pk st.st
 have p₁':LexAt a _ rest push s₁.heap H:=p₁
 refine ex11 (T.frag I₁.kp) fun K C X=>?_
 refine ex30 p₁'.dct fun hs' ts nn e=>?_
 refine boundI X C p₁'.obj e lexEs_rc ?_
 refine gr (s₁.heap.objs.size) fun q hqd=>?_
 rw [hqd]
 have hqs:s.heap.objs.size ≤ q:=hqd ▸ st.st.size
 have st2:SStep [] s₁ { s₁ with heap:=s₁.heap.push (methodObj (.ref 77) (.ref a.L)),toks:=s₁.toks + 1 }:=SStep.heap (Step.push _) _
 have I₂:Inv h₁ H { s₁ with heap:=s₁.heap.push (methodObj (.ref 77) (.ref a.L)),toks:=s₁.toks + 1 }:=(I₁.pushed _).toks _
 have hq2:(s₁.heap.push (methodObj (.ref 77) (.ref a.L))).get? q = some (methodObj (.ref 77) (.ref a.L)):=hqd ▸ Heap.get?_push_size _ rfl
 have hqN:N0 ≤ q:=hqd ▸ I₁.size
 have hqH:q ∉ H:=fun z=>by
  have:=(I₁.hok q z).2
  rw [hqd] at this;exact Nat.lt_irrefl _ this
 rw [starEach_cons rfl,backTo_cons]
 refine Calls.spliced_cons ?_
 with_reducible refine wpAny_Constant_str ?_
 refine Calls.spliced_nil ⟨(I₂.toks _).kp,?_⟩
 have I₃:=I₂.toks (s₁.toks + 1 + 1)
 refine iter_call (s:={ s₁ with heap:=s₁.heap.push (methodObj (.ref 77) (.ref a.L)),toks:=s₁.toks + 1 + 1 }) hq2 rfl ?_
 have hi2:(s₁.heap.push (methodObj (.ref 77) (.ref a.L))).objs.size = q + 1:=by rw [Heap.size_push,hqd]
 refine gr ((s₁.heap.push (methodObj (.ref 77) (.ref a.L))).objs.size) fun it hit=>?_
 have I₄:Inv h₁ (it::H) _:=hit ▸ I₃.pushHide (ciObj (.ref q) (.str (Str.ofString "") (s₁.toks + 1)) false)
 have hits:s.heap.objs.size ≤ it:=by rw [hit] at hi2;rw [hi2];exact Nat.le_succ_of_le hqs
 have hqit:q ≠ it:=fun z=>by rw [hit] at hi2;rw [← z] at hi2;exact absurd hi2 (Nat.ne_of_lt (Nat.lt_succ_self q))
 have haH:it ∉ H:=fun z=>absurd (I.hok it z).2 (Nat.not_lt.mpr hits)
 have haX:it ∉ a.X:=fun z=>haH (W.sub it z)
 have st3:SStep [] s { s₁ with heap:=(s₁.heap.push (methodObj (.ref 77) (.ref a.L))).push (ciObj (.ref q) (.str (Str.ofString "") (s₁.toks + 1)) false),toks:=s₁.toks + 1 + 1 }:=st.trans (st2.trans (SStep.heap (Step.push _) _))
 have hnew:∀ y ∈ it::H,y ∈ H ∨ s.heap.objs.size ≤ y:=fun y z=>by
  rcases mc z with rfl | z
  ·exact .inr hits
  ·exact .inl z
 have F₁:Fm sc env vars ((s₁.heap.push (methodObj (.ref 77) (.ref a.L))).push (ciObj (.ref q) (.str (Str.ofString "") (s₁.toks + 1)) false)) (it::H):=F.step st3.st (fun _ z=>nomatch z) (fun z=>nomatch z) (fun _ _ _ z=>nomatch z) hnew fun _ z=>.tail _ z
 have hal:env.locals ≠ it:=fun z=>haH (z ▸ F.w.loc)
 have hac:∀ n c,env.cells.lookup n = some c→c ≠ it:=fun n c e z=>absurd (F.ok.lt n c e) (Nat.not_lt.mpr (z ▸ hits))
 have W₁:Own env (it::a.X) (it::H):=by
  refine ⟨fun y hy=>?_,fun z=>?_,fun n c e z=>?_⟩
  ·rcases mc hy with rfl | hy
   ·exact .head _
   ·exact .tail _ (W.sub y hy)
  ·rcases List.mem_cons.mp z with z | z
   ·exact hal z
   ·exact W.loc z
  ·rcases List.mem_cons.mp z with z | z
   ·exact hac n c e z
   ·exact W.cel n c e z
 have hqnew:q ∉ it::H:=fun z=>by
  rcases List.mem_cons.mp z with z | z
  ·exact hqit z
  ·exact hqH z
 have p₄:(Rp.it a q it true N rest push).ok ((s₁.heap.push (methodObj (.ref 77) (.ref a.L))).push (ciObj (.ref q) (.str (Str.ofString "") (s₁.toks + 1)) false)) (it::H):=
  ⟨haX,⟨(I₄.hok it (.head _)).1,hqnew,hqN,hqit,Heap.get?_push_of_some _ hq2,fun _=>⟨_,hit ▸ Heap.get?_push_size _ rfl⟩,fun z=>nomatch z⟩,(Rp.lexN a N rest push).stab pk st3.st (fun _ z=>nomatch z) hnew⟩
 rw [hit]
 refine store hs I₄ F₁ (.opq it) fun s₅ st₅ I₅ F₅=>?_
 have p₅:=Rp.frame p₄ W₁ F₁.w st₅.st
 refine h q it haX prog w A env s₅ (it::H) Q E T R I₅ F₅ W₁ p₅ fun o P₂ f s₆ ho st₆ I₆ p₆ ok=>?_
 obtain ⟨d,P₁,rfl,hΦ,conv⟩:=ho
 cases f <;> first | (exact ok.elim) | skip
 have hv:V s₆.heap (it::H) _ (.str d):=ok
 refine k (.ret (.str d)) P₁ _ _ hΦ ?_ (I₆.sub fun _ z=>.tail _ z) (conv _ _ p₆) (hv.less fun _ z=>.inl (.tail _ z))
 have:SStep (wr sc env ++ (it::a.X)) s s₆:=(st3.up.trans (st₅.mono fun y hy=>.inl (List.mem_append_left _ hy))).trans st₆
 refine this.mono fun y hy=>?_
 rcases List.mem_append.mp hy with z | z
 ·exact .inl (List.mem_append_left _ z)
 ·rcases mc z with rfl | z
  ·exact .inr hits
  ·exact .inl (List.mem_append_right _ z)
end
end Mine
end
namespace Mine
variable [Wd]
section
variable {h₁:Gl}{r:Nat}{sc:Sc}{vars:List (Str × D)}{a:LexA}{N line:Int}{rest:List Nat}{push:List Str}{X:List Addr}
theorem TSR.pb {x:Str}{p pos:Pos}(hx:vars.lookup x = some (opq a.L)) (hd:(x == ("__debug__":Str)) = false:=by rfl):TSR h₁ r sc vars a.X (Rp.lex a line rest push) (.Attribute (.Name x p) "pushback" pos) (!push.isEmpty) (Rp.lex a line rest push):=by
 intro prog w A env s H Q E T R I O W pk k
 rw [isTrue_plainTest (e:=.Attribute (.Name x p) "pushback" pos) rfl]
 refine wpAny_bind (EVR.attr hx LexG.pb hd prog w A env s H _ E T R I O W pk fun v s₁ st I₁ p₁ hv=>?_)
 have hv':=hv.asOpq
 subst hv'
 have p₁':LexAt a line rest push s₁.heap H:=p₁
 refine wpAny_bind (wpAny_standAt (wpAny_holding ?_))
 refine LS.truthy p₁'.pb (by have:=p₁'.sz.2;lia) fun tk=>?_
 exact k _ (st.trans (SStep.toks _ _)) (I₁.toks _) p₁
theorem EVR.popP {x y:Str}{p p2 apos pos cp:Pos}{n:Nat}(hx:vars.lookup x = some (opq a.L)) (hl:(apos.endLine == pos.line) = true:=by rfl) (hd:(x == ("__debug__":Str)) = false:=by rfl) :
  EVR h₁ r sc vars a.X (Rp.lex a line rest (y::push)) (.Call (.Attribute (.Attribute (.Name x p) "pushback" p2) "pop" apos) [.Constant (.int 0) n cp] [] pos) (.str y) (Rp.lex a line rest push):=by
 intro prog w A env s H Q E T R I O W pk k
 have ha:EVS h₁ r sc vars [.Constant (.int 0) n cp] [.int 0]:=EVS.cons EVP.const_int EVS.nil
 with_reducible refine mcall rfl hl ha.1 (by simp) (EVR.attr hx LexG.pb hd prog w A env s H _ E T R I O W pk fun v s₁ st I₁ p₁ hv=>?_)
 have hv':=hv.asOpq
 subst hv'
 have p₁':LexAt a line rest (y::push) s₁.heap H:=p₁
 refine ex11 p₁'.pb.isList fun vs hL hlen=>?_
 have hnd:Heap.NoDictAt s₁.heap (.ref a.P):=by
  refine ex11 p₁'.pb fun vs zq1 _=>?_;obtain ⟨n,e⟩:=zq1
  exact ⟨_,e,rfl⟩
 refine getMethod_list_of PySem.F.slot_list_pop PySem.F.type_list_pop hL hnd ?_
 have hp:((backTo pos (starEach [.Constant (.int 0) n cp] env)).any (·.1) || ([]:List (Option Str × Sem Value)).any (·.1.isNone)) = false:=by rw [ha.1 env pos];rfl
 have O₁:=O.own W st.st
 show wpAny (model prog w) A (callWith pos (.builtin "list.pop") [.ref a.P] (backTo pos (starEach [.Constant (.int 0) n cp] env)) []) Q E s₁
 with_reducible refine callWith_of (P:=Kp h₁) hp (KeepOK.builtin T _) (evalArgs_of (ha.1 env pos) (ha.2 prog w A env pos s₁ H _ E T R I₁ O₁ fun vs s₂ st₂ I₂ hvs=>⟨I₂.kp,?_⟩))
 obtain ⟨u,rfl⟩:∃ u,vs = [.int 0 u]:=by
  refine ex11 (VL.one hvs) fun _ zq1 a=>?_;subst zq1
  obtain ⟨_,rfl⟩:=V.intI a;exact ⟨_,rfl⟩
 have p₂:LexAt a line rest (y::push) s₂.heap H:=Rp.grow _ p₁ st₂.st
 have hPX:a.P ∈ a.X:=by simp [LexA.X]
 refine LS.pop p₂.pb (by have:=p₂.sz.2;simp only [List.length_cons] at this;lia) fun h' u hs yl=>?_
 have stE:=LexA.step (a:=a) (s:=s₂) (tk:=s₂.toks) hPX (p₂.low _ (.tail _ hPX)) hs
 have I₃:=I₂.same (tk:=s₂.toks) (W.sub _ hPX) hs
 have p₃:=p₂.moveP W.sub hs yl (by have:=p₂.sz.2;simp only [List.length_cons] at this;lia)
 exact k _ _ (st.trans (st₂.up.trans stE)) I₃ p₃ (.str _ _)
theorem EVR.pushP {x:Str}{y:Str}{e:Expr}{p p2 apos pos:Pos}(hx:vars.lookup x = some (opq a.L)) (he:EVP h₁ r sc vars e (.str y)) (hst:isStarred e = false) (hz:push.length < 2 ^ 19) (hl:(apos.endLine == pos.line) = true:=by rfl) (hd:(x == ("__debug__":Str)) = false:=by rfl) :
  EVR h₁ r sc vars a.X (Rp.lex a line rest push) (.Call (.Attribute (.Attribute (.Name x p) "pushback" p2) "append" apos) [e] [] pos) .none (Rp.lex a line rest (push ++ [y])):=by
 intro prog w A env s H Q E T R I O W pk k
 have ha:EVS h₁ r sc vars [e] [.str y]:=EVS.cons he EVS.nil hst
 with_reducible refine mcall rfl hl ha.1 (by simp) (EVR.attr hx LexG.pb hd prog w A env s H _ E T R I O W pk fun v s₁ st I₁ p₁ hv=>?_)
 have hv':=hv.asOpq
 subst hv'
 have p₁':LexAt a line rest push s₁.heap H:=p₁
 refine ex11 p₁'.pb.isList fun vs hL hlen=>?_
 have hnd:Heap.NoDictAt s₁.heap (.ref a.P):=by
  refine ex11 p₁'.pb fun vs zq1 _=>?_;obtain ⟨n,e⟩:=zq1
  exact ⟨_,e,rfl⟩
 refine getMethod_list_of slot_list_append PySem.F.type_list_append hL hnd ?_
 have hp:((backTo pos (starEach [e] env)).any (·.1) || ([]:List (Option Str × Sem Value)).any (·.1.isNone)) = false:=by rw [ha.1 env pos];rfl
 have O₁:=O.own W st.st
 show wpAny (model prog w) A (callWith pos (.builtin "list.append") [.ref a.P] (backTo pos (starEach [e] env)) []) Q E s₁
 with_reducible refine callWith_of (P:=Kp h₁) hp (KeepOK.builtin T _) (evalArgs_of (ha.1 env pos) (ha.2 prog w A env pos s₁ H _ E T R I₁ O₁ fun vs s₂ st₂ I₂ hvs=>⟨I₂.kp,?_⟩))
 obtain ⟨u,rfl⟩:∃ u,vs = [.str y u]:=by
  refine ex11 (VL.one hvs) fun _ zq1 a=>?_;subst zq1
  obtain ⟨_,rfl⟩:=V.strI a;exact ⟨_,rfl⟩
 have p₂:LexAt a line rest push s₂.heap H:=Rp.grow _ p₁ st₂.st
 have hPX:a.P ∈ a.X:=by simp [LexA.X]
 refine ex11 p₂.pb fun ws pw hws=>?_
 have hlw:ws.size = push.length:=by have:=VL.lenS s₂.heap hws;simpa using this
 refine wpAny_list_append_plain pw (fun h' p' hs=>?_) (by rw [hlw,sizeLine_eq];lia)
 have stE:=LexA.step (a:=a) (s:=s₂) (tk:=s₂.toks) hPX (p₂.low _ (.tail _ hPX)) hs
 have I₃:=I₂.same (tk:=s₂.toks) (W.sub _ hPX) hs
 have p₃:=p₂.moveP (push':=push ++ [y]) W.sub hs ⟨_,p',fun h'' H'=>by
  have:=(hws h'' H').append (VL.cons (V.str (h:=h'') (H:=H') y u) VL.nil)
  simpa using this⟩ (by simp only [List.length_append,List.length_cons,List.length_nil];lia)
 exact k _ _ (st.trans (st₂.up.trans stE)) I₃ p₃ .none
theorem defP:DefOf (mtOf 3) "push_token" (parOf (mtOf 3)) (bodyOf (mtOf 3)) (scOf0 (mtOf 3)):=⟨⟨_,_,_,_,_,_,rfl⟩,rfl,rfl,rfl⟩
theorem push_ok {y:Str}(hz:push.length < 2 ^ 19):CallR h₁ (r + 1) (.ref 91) [opq a.L,.str y] a.X (Rp.lex a line rest push) .none (Rp.lex a line rest (push ++ [y])):=by
 refine CodR.call ?_
 refine CodR.of_def (xs:=["self", "token"]) (fun T=>T.fPush) defP ?_ ?_ (by decide) ?_
 ·intro m vs hl
  refine ex20 (len2 hl) fun _ _ zq1=>?_;subst zq1
  rfl
 ·exact fm rfl (fm rfl fn)
 show SXR h₁ r ⟨scOf0 (mtOf 3),[]⟩ [(("token":Str),PyData.str y),("self",opq a.L)] a.X (Rp.lex a line rest push) (bodyOf (mtOf 3)) _
 conv=>arg 7;whnf
 exact SXR.expr (EVR.pushP (Has.here.skip rfl) (EVP.name Has.here) rfl hz) (SXR.nil ⟨rfl,.inr ⟨rfl,_,rfl⟩⟩)
end
end Mine
namespace Mine
noncomputable def isWs (c:Nat):Bool:=decide (c ∈ [10,9,13,32])
noncomputable def quoted:List Nat→List Nat→List Nat × List Nat
 | tok,[]=>(tok,[])
 | tok,[c]=>if c = 34 then (tok,[]) else if c = 92 then (tok,[]) else (tok ++ [c],[])
 | tok,c::d::r=>if c = 34 then (tok,d::r) else if c = 92 then quoted (tok ++ [d]) r else quoted (tok ++ [c]) (d::r)
termination_by _ l=>l.length
noncomputable def plain:List Nat→List Nat→List Nat × List Nat
 | tok,[]=>(tok,[])
 | tok,[c]=>if isWs c then (tok,[]) else if c = 92 then (tok,[]) else (tok ++ [c],[])
 | tok,c::d::r=>if isWs c then (tok,d::r) else if c = 92 then plain (tok ++ [d]) r else plain (tok ++ [c]) (d::r)
termination_by _ l=>l.length
noncomputable def escd (c:Nat) (r:List Nat):List Nat × List Nat:=if c = 92 then (rdS r,r.tail) else ([c],r)
theorem quoted_nil (tok:List Nat):quoted tok [] = (tok,[]):=by rw [quoted]
theorem quoted_cons (tok:List Nat) (c:Nat) (r:List Nat):quoted tok (c::r) = if c = 34 then (tok,r) else quoted (tok ++ (escd c r).1) (escd c r).2:=by
 cases r with
 | nil=>
  rw [quoted]
  by_cases h1:c = 34
  ·simp [h1]
  ·by_cases h2:c = 92
   ·subst h2;simp [escd,rdS,quoted_nil]
   ·simp [h1,h2,escd,quoted_nil]
 | cons d r=>
  rw [quoted]
  by_cases h1:c = 34
  ·simp [h1]
  ·by_cases h2:c = 92
   ·subst h2;simp [escd,rdS]
   ·simp [h1,h2,escd]
theorem plain_nil (tok:List Nat):plain tok [] = (tok,[]):=by rw [plain]
theorem plain_cons (tok:List Nat) (c:Nat) (r:List Nat):plain tok (c::r) = if isWs c then (tok,r) else plain (tok ++ (escd c r).1) (escd c r).2:=by
 cases r with
 | nil=>
  rw [plain]
  by_cases h1:isWs c = true
  ·simp [h1]
  ·by_cases h2:c = 92
   ·subst h2;simp [escd,rdS,plain_nil,show isWs 92 = false from rfl]
   ·simp [h1,h2,escd,plain_nil]
 | cons d r=>
  rw [plain]
  by_cases h1:isWs c = true
  ·simp [h1]
  ·by_cases h2:c = 92
   ·subst h2;simp [escd,rdS,show isWs 92 = false from rfl]
   ·simp [h1,h2,escd]
noncomputable def tokOf:List Nat→List Nat × List Nat
 | []=>([],[])
 | c::r=>if isWs c then tokOf r else if c = 34 then quoted [] r else plain (escd c r).1 (escd c r).2
theorem tokOf_cons (c:Nat) (r:List Nat):tokOf (c::r) = if isWs c then tokOf r else if c = 34 then quoted [] r else plain (escd c r).1 (escd c r).2:=by rw [tokOf]
theorem escd_len (c:Nat) (r:List Nat):(escd c r).1.length + (escd c r).2.length ≤ r.length + 1∧(escd c r).2.length ≤ r.length:=by
 unfold escd
 split
 ·cases r <;> simp [rdS] <;> lia
 ·simp;lia
variable [Wd]
section
variable {h₁:Gl}{r:Nat}{sc:Sc}{vars:List (Str × D)}{a:LexA}{N line:Int}{rest:List Nat}{push:List Str}{X:List Addr}
theorem SXR1.cont {P:Rp X}{pos:Pos}{Φ:Out→Rp X→Prop}(h:Φ (.cont vars) P):SXR1 h₁ r sc vars X P (.Continue pos) Φ:=by
 intro prog w A env s H Q E T R I F W pk k
 with_reducible refine wpAny_Continue ?_
 exact k _ _ .cont _ h (SStep.refl _ _) I pk F
theorem TSR.ws {x:Str}{e:Expr}{p pos cpos:Pos}{c:Nat}(hx:vars.lookup x = some (opq a.L)) (he:EVP h₁ r sc vars e (.str (S [c]))) (hd:(x == ("__debug__":Str)) = false:=by rfl) :
  TSR h₁ r sc vars a.X (Rp.lex a line rest push) (.Compare e [.In] [.Attribute (.Name x p) "whitespace" pos] cpos) (isWs c) (Rp.lex a line rest push):=by
 have h:=TSR.cmp (pos:=cpos) (EVP.re (P:=Rp.lex a line rest push) he) (EVR.attr (rest:=rest) (push:=push) (p:=p) (pos:=pos) (r:=r) (h₁:=h₁) (sc:=sc) hx LexG.ws hd) COp.inS rfl
 rw [inSigns] at h
 exact h
theorem TSP.eqC {e:Expr}{cpos kpos:Pos}{n:Nat}{c k:Nat}{ks:Str}(hk:ks = S [k]) (he:EVP h₁ r sc vars e (.str (S [c]))):TSP h₁ r sc vars (.Compare e [.Eq] [.Constant (.str ks) n kpos] cpos) (decide (c = k)):=by
 subst hk
 refine (TSP.cmp he EVP.const_str COp.eqS rfl).as ?_
 rw [S_beq]
 simp
end
end Mine
namespace Mine
variable [Wd]
section
variable {h₁:Gl}{r:Nat}{vars:List (Str × D)}{a:LexA}{N line:Int}{rest:List Nat}{push:List Str}{X:List Addr}
abbrev scG:Sc:=⟨scOf0 (mtOf 2),[]⟩
structure GV (a:LexA) (it:Addr) (vs:List (Str × D)) (tok:List Nat):Prop where
 self:Has vs "self" (opq a.L)
 fit:Has vs "fiter" (opq it)
 tok:Has vs "token" (.str (S tok))
theorem GV.ch {it:Addr}{vs:List (Str × D)}{tok:List Nat}{d:D}(x:GV a it vs tok):GV a it (("ch",d)::vs) tok:=⟨x.self.skip rfl,x.fit.skip rfl,x.tok.skip rfl⟩
theorem GV.put {it:Addr}{vs:List (Str × D)}{tok tok':List Nat}(x:GV a it vs tok):GV a it (("token",.str (S tok'))::vs) tok':=⟨x.self.skip rfl,x.fit.skip rfl,Has.here⟩
theorem escStep {q it:Addr}{vs:List (Str × D)}{tok:List Nat}{c:Nat}{r':List Nat}{p1 p2 p3 p4 p5 p6 p7 p8 p9:Pos}{n:Nat}{rest:List Stmt}{Φ:Out→Rp (it::a.X)→Prop}(g:GV a it vs tok) (hc:Has vs "ch" (.str (S [c]))) (hl:(p5.endLine == p6.line) = true)
  (k:∀ vs',GV a it vs' tok→Has vs' "ch" (.str (S (escd c r').1))→SXR h₁ (r + 3) scG vs' (it::a.X) (Rp.it a q it true N (escd c r').2 push) rest Φ) :
  SXR h₁ (r + 3) scG vs (it::a.X) (Rp.it a q it true N r' push) (.If (.Compare (.Name "ch" p1) [.Eq] [.Constant (.str "\\") n p2] p3) [.Assign [.Name "ch" p4] (.Call (.Attribute (.Name "self" p7) "_read_char" p5) [] [] p6) p8] [] p9::rest) Φ:=by
 refine SXR.ite (TSP.re (TSP.eqC (k:=92) rfl (EVP.name hc rfl))) (fun hb=>?_) fun hb=>?_
 ·have hc':c = 92:=of_decide_eq_true hb
  refine SXR.assign (EVR.over (EVR.rc (r:=r + 1) g.self hl rfl)) (.inl rfl) (SXR.done ?_)
  have:=k (("ch",.str (S (escd c r').1))::vs) g.ch Has.here
  have e:escd c r' = (rdS r',r'.tail):=by unfold escd;rw [if_pos hc']
  rw [e] at this
  exact this
 ·have hc':¬ c = 92:=of_decide_eq_false hb
  refine SXR.done ?_
  have e:escd c r' = ([c],r'):=by unfold escd;rw [if_neg hc']
  rw [e] at k
  exact k vs g hc
theorem addTok {q it:Addr}{live:Bool}{vs:List (Str × D)}{tok x:List Nat}{r':List Nat}{p1 p2 p3:Pos}{rest:List Stmt}{Φ:Out→Rp (it::a.X)→Prop}(g:GV a it vs tok) (hc:Has vs "ch" (.str (S x))) (hz:tok.length + x.length ≤ 2 ^ 19)
  (k:∀ vs',GV a it vs' (tok ++ x)→SXR h₁ (r + 3) scG vs' (it::a.X) (Rp.it a q it live N r' push) rest Φ) :
  SXR h₁ (r + 3) scG vs (it::a.X) (Rp.it a q it live N r' push) (.AugAssign (.Name "token" p1) .Add (.Name "ch" p2) p3::rest) Φ:=by
 refine SXR.pure1 (SX1.augS g.tok (EVP.name hc rfl) (.inl rfl) (by rw [S_len,S_len];lia)) ?_
 have:=k (("token",.str (S (tok ++ x)))::vs) g.put
 rw [← S_append] at this
 exact this
theorem innerLoop {q it:Addr}{F:List Nat→List Nat→List Nat × List Nat}{stop:Nat→Bool}{tok:List Nat}{tgt:List Nat × List Nat}{t:Expr}{p1 p2 p3 p4 p5 p6 p7 p8 p9 pa pb pc pd pe pf pg ph pi:Pos}{n:Nat}{Φ:Out→Rp (it::a.X)→Prop}
  (F0:∀ tok,F tok [] = (tok,[])) (F1:∀ tok c r,F tok (c::r) = if stop c then (tok,r) else F (tok ++ (escd c r).1) (escd c r).2) (hl:(p5.endLine == p6.line) = true)
  (ht:∀ vs tok c r',GV a it vs tok→Has vs "ch" (.str (S [c]))→TSR h₁ (r + 3) scG vs (it::a.X) (Rp.it a q it true N r' push) t (stop c) (Rp.it a q it true N r' push))
  (g:GV a it vars tok) (hF:F tok rest = tgt) (hz:tok.length + rest.length ≤ 2 ^ 19)
  (hret:Φ (.ret (.str (S tgt.1))) (Rp.it a q it true N tgt.2 push)) (hnext:tgt.2 = []→∀ vs,GV a it vs tgt.1→Φ (.next vs) (Rp.it a q it false N [] push)) :
  SXR1 h₁ (r + 3) scG vars (it::a.X) (Rp.it a q it true N rest push) (.For (.Name "ch" pa) (.Name "fiter" pb) [.If t [.Return (some (.Name "token" pc)) pd] [.If (.Compare (.Name "ch" p1) [.Eq] [.Constant (.str "\\") n p2] p3) [.Assign [.Name "ch" p4] (.Call (.Attribute (.Name "self" p7) "_read_char" p5) [] [] p6) p8] [] p9] pe,.AugAssign (.Name "token" pf) .Add (.Name "ch" pg) ph] [] pi) Φ:=by
 refine SXR1.forIt (it:=it) g.fit (fun n vs P=>∃ tok rest',n = rest'.length∧GV a it vs tok∧P = Rp.it a q it true N rest' push∧F tok rest' = tgt∧tok.length + rest'.length ≤ 2 ^ 19) rest.length ⟨tok,rest,rfl,g,rfl,hF,hz⟩ (.inl rfl) ?_ ?_ rfl
 ·intro n vs P zq
  refine ex24 zq fun tok rest' zq1 g zq2 hF hz=>?_;subst zq1 zq2
  exact fun prog w A s H Q E p h=>itSelf prog w A s H Q E p h
 ·intro n vs P zq
  refine ex24 zq fun tok rest' zq1 g zq2 hF hz=>?_;subst zq1 zq2
  refine ⟨_,_,nxt_live,?_⟩
  cases rest' with
  | nil=>
   rw [F0] at hF
   subst hF
   exact hnext rfl vs g
  | cons c r'=>
   rw [F1] at hF
   show SXR h₁ (r + 3) scG (("ch",.str (S [c]))::vs) (it::a.X) (Rp.it a q it true N r' push) _ _
   refine SXR.ite (ht _ tok c r' g.ch Has.here) (fun hb=>?_) fun hb=>?_
   ·rw [if_pos hb] at hF
    subst hF
    exact SXR.ret (EVP.re (EVP.name g.ch.tok rfl)) hret
   ·rw [if_neg (by rw [hb];decide)] at hF
    refine escStep g.ch Has.here hl fun vs' g' hc'=>SXR.done ?_
    obtain ⟨l1,l2⟩:=escd_len c r'
    refine addTok g' hc' (by simp only [List.length_cons] at hz;lia) fun vs'' g''=>SXR.nil ?_
    exact ⟨(escd c r').2.length,by simp only [List.length_cons];lia,tok ++ (escd c r').1,_,rfl,g'',rfl,hF,by simp only [List.length_cons] at hz;simp only [List.length_append];lia⟩
theorem defG:DefOf (mtOf 2) "get_token" (parOf (mtOf 2)) (bodyOf (mtOf 2)) (scOf0 (mtOf 2)):=⟨⟨_,_,_,_,_,_,rfl⟩,rfl,rfl,rfl⟩
theorem get_push {y:Str}:CallR h₁ (r + 1) (.ref 84) [opq a.L] a.X (Rp.lex a line rest (y::push)) (.str y) (Rp.lex a line rest push):=by
 refine CodR.call ?_
 refine CodR.of_def (xs:=["self"]) (fun T=>T.fGet) defG ?_ ?_ (by decide) ?_
 ·intro m vs hl
  obtain ⟨_,rfl⟩:=len1 hl
  rfl
 ·intro x hx
  simp only [List.mem_cons,List.not_mem_nil,or_false] at hx
  subst hx;rfl
 show SXR h₁ r scG [(("self":Str),opq a.L)] a.X (Rp.lex a line rest (y::push)) (bodyOf (mtOf 2)) _
 conv=>arg 7;whnf
 have vS:Has [(("self":Str),opq a.L)] "self" (opq a.L):=Has.here
 refine SXR.ite (TSR.pb vS) (fun _=>?_) (fun hb=>by simp at hb)
 exact SXR.ret (EVR.popP vS) ⟨rfl,.inl rfl⟩
theorem get_read (hz:rest.length ≤ 2 ^ 18):CallR h₁ (r + 4) (.ref 84) [opq a.L] a.X (Rp.lexN a N rest []) (.str (S (tokOf rest).1)) (Rp.lexN a N (tokOf rest).2 []):=by
 refine CodR.call ?_
 refine CodR.of_def (xs:=["self"]) (fun T=>T.fGet) defG ?_ ?_ (by decide) ?_
 ·intro m vs hl
  obtain ⟨_,rfl⟩:=len1 hl
  rfl
 ·intro x hx
  simp only [List.mem_cons,List.not_mem_nil,or_false] at hx
  subst hx;rfl
 show SXR h₁ (r + 3) scG [(("self":Str),opq a.L)] a.X (Rp.lexN a N rest []) (bodyOf (mtOf 2)) _
 conv=>arg 7;whnf
 have vS:Has [(("self":Str),opq a.L)] "self" (opq a.L):=Has.here
 refine SXR.ite (TSR.pb vS) (fun hb=>by simp at hb) (fun _=>SXR.done ?_)
 refine SXR.assign (EVP.re EVP.const_str) (.inl rfl) ?_
 refine SXR.newIter (vS.skip rfl) rfl (.inl rfl) fun q it hit=>?_
 generalize hΨ:(fun (o:Out) (P₂:Rp (it::a.X))=>_) = Ψ
 have fin:∀ live,Ψ (.ret (.str (S (tokOf rest).1))) (Rp.it a q it live N (tokOf rest).2 []):=by
  subst hΨ
  exact fun live=>⟨_,Rp.lexN a N (tokOf rest).2 [],rfl,⟨rfl,.inl rfl⟩,fun h H p=>Rp.less _ p.2.2 fun x hx=>.inl (.tail _ hx)⟩
 clear hΨ
 generalize htgt:tokOf rest = tgt at fin
 have g0:GV a it [(("fiter":Str),opq it),("token",.str (Str.ofString "")),("self",opq a.L)] []:=⟨(Has.here.skip rfl).skip rfl,Has.here,Has.here.skip rfl⟩
 generalize [(("fiter":Str),opq it),("token",PyData.str (Str.ofString "")),("self",opq a.L)] = vs0 at g0
 refine SXR.kont (SXR1.forIt (it:=it) g0.fit (fun n vs P=>(∃ rest',n = rest'.length + 1∧GV a it vs []∧P = Rp.it a q it true N rest' []∧tokOf rest' = tgt∧rest'.length ≤ 2 ^ 18) ∨ (n = 0∧GV a it vs tgt.1∧P = Rp.it a q it false N [] []∧tgt.2 = [])) (rest.length + 1) (.inl ⟨rest,rfl,g0,rfl,htgt,hz⟩) (.inl rfl) ?_ ?_ rfl)
 ·rintro n vs P (⟨rest',rfl,g,rfl,hF,hz⟩ | ⟨rfl,g,rfl,hF⟩)
  ·exact fun prog w A s H Q E p h=>itSelf prog w A s H Q E p h
  ·exact fun prog w A s H Q E p h=>itSelf prog w A s H Q E p h
 rintro n vs P (⟨rest',rfl,g,rfl,hF,hz⟩ | ⟨rfl,g,rfl,hF⟩)
 ·refine ⟨_,_,nxt_live,?_⟩
  cases rest' with
  | nil=>
   have e:tgt = ([],[]):=by rw [← hF];rfl
   show SXR h₁ (r + 3) scG vs (it::a.X) (Rp.it a q it false N [] []) _ _
   refine SXR.ret (EVP.re (EVP.name g.tok rfl)) ?_
   have:=fin false
   rw [e] at this
   exact this
  | cons c r'=>
   show SXR h₁ (r + 3) scG (("ch",.str (S [c]))::vs) (it::a.X) (Rp.it a q it true N r' []) _ _
   have g1:GV a it (("ch",.str (S [c]))::vs) []:=g.ch
   have hc1:Has (("ch",.str (S [c]))::vs) "ch" (.str (S [c])):=Has.here
   generalize ((("ch":Str),PyData.str (S [c]))::vs) = vs1 at g1 hc1
   simp only [List.length_cons] at hz
   refine SXR.ite (TSR.over (TSR.ws g1.self (EVP.name hc1 rfl))) (fun hb=>?_) fun hb=>?_
   ·refine SXR.kont (SXR1.cont ?_)
    refine ⟨r'.length + 1,by simp only [List.length_cons];lia,.inl ⟨r',rfl,g1,rfl,?_,by lia⟩⟩
    rw [← hF,tokOf_cons,if_pos hb]
   ·have hF':(if c = 34 then quoted [] r' else plain (escd c r').1 (escd c r').2) = tgt:=by
     rw [tokOf_cons,if_neg (show ¬ isWs c = true from by rw [hb];decide)] at hF
     exact hF
    refine SXR.done ?_
    refine SXR.ite (TSP.re (TSP.eqC (k:=34) rfl (EVP.name hc1 rfl))) (fun hb2=>?_) fun hb2=>?_
    ·have hc':c = 34:=of_decide_eq_true hb2
     rw [if_pos hc'] at hF'
     refine SXR.kont (innerLoop (F:=quoted) (stop:=fun c=>decide (c = 34)) quoted_nil (fun tok c r=>by rw [quoted_cons];simp) rfl (fun vs tok c r' g hc=>TSP.re (TSP.eqC rfl (EVP.name hc rfl))) g1 hF' (by simp only [List.length_nil];lia) (fin true) fun e vs2 g2=>?_)
     refine SXR.done (SXR.nil ?_)
     exact ⟨0,by lia,.inr ⟨rfl,g2,rfl,e⟩⟩
    ·have hc':¬ c = 34:=of_decide_eq_false hb2
     rw [if_neg hc'] at hF'
     obtain ⟨l1,l2⟩:=escd_len c r'
     refine escStep g1 hc1 rfl fun vs2 g2 hc2=>?_
     refine addTok g2 hc2 (by simp only [List.length_nil];lia) fun vs3 g3=>?_
     refine SXR.kont (innerLoop (F:=plain) (stop:=isWs) plain_nil plain_cons rfl (fun vs tok c r' g hc=>TSR.over (TSR.ws g.self (EVP.name hc rfl))) g3 hF' (by simp only [List.nil_append];lia) (fin true) fun e vs4 g4=>?_)
     refine SXR.done (SXR.nil ?_)
     exact ⟨0,by lia,.inr ⟨rfl,g4,rfl,e⟩⟩
 ·refine ⟨none,_,nxt_dead,?_⟩
  show SXR h₁ (r + 3) scG vs (it::a.X) (Rp.it a q it false N [] []) _ _
  refine SXR.ret (EVP.re (EVP.name g.tok rfl)) ?_
  have:=fin false
  rw [hF] at this
  exact this
end
end Mine
namespace Mine
variable [Wd]
section
variable {h₁:Gl}{r:Nat}{sc:Sc}{vars:List (Str × D)}{env:Env}{H:List Addr}
theorem enterD {prog:Program}{w:WW}{A:Around}{s:Shared}{st:Stmt}{q:Str}{f c:Addr}{name:Str}{params:Arguments}{body:List Stmt}{scope:Scope}{xs:List Str}{ds:List D}{vs:List Value}{Rr:Result→Shared→Prop}
  (T:Top1 h₁) (R:Room (r + 1) A) (I:Inv h₁ H s) (x:VL s.heap H vs ds) (hf:FnAt h₁.h st q f c) (hd:DefOf st name params body scope)
  (hb:∀ m (vs:List Value),vs.length = ds.length→bindArgs (fdOf st q c m) ⟨vs,[]⟩ = pure (xs.zip vs)) (hloc:∀ x ∈ xs,scope.names.lookup x = some .local) (hcell:∀ x ∈ scope.names,x.2 ≠ .cell)
  (k:∀ (env:Env) (s₁:Shared),Room r (A.deeper env)→env.locals = s.heap.objs.size→env.cells = []→SStep [] s s₁→Inv h₁ (env.locals::H) s₁→Fm ⟨scope,[]⟩ env (xs.zip ds).reverse s₁.heap (env.locals::H)→(∀ b o,s.heap.get? b = some o→s₁.heap.get? b = some o) →
   wpAny (model prog w) (A.deeper env) (execs body env) (fun f s'=>Rr (.ok (.ret (match f with | .ret v=>v | _=>.none))) s') (fun e s'=>wpAny (model prog w) (A.deeper env) (leaving env e) (fun _ s''=>Rr (.error e) s'') (fun e' s''=>Rr (.error e') s'') s') s₁)
  (hl:f < N0:=by decide) (ht:f ∉ tabs:=by decide) (hlc:c < N0:=by decide) (htc:c ∉ tabs:=by decide) (hcal:¬ isCal scope = true:=by decide):codeAny (model prog w) A (.call (.ref f) ⟨vs,[]⟩) Rr s:=by
 obtain ⟨⟨m,e⟩,hcd⟩:=hf
 refine ex60 hd.eq fun dl ret tp ts bd pos zq1=>?_;subst zq1
 have kf:s.heap.get? f = _:=I.kp _ _ e hl ht
 have hlim:s.heap.NoLimit:=by
  refine ex11 T.lim fun mc a b=>?_
  exact ⟨mc,I.kp.ns a (by decide) (by decide),b⟩
 have hcd':s.heap.CodeRec (.ref c) q:=by
  refine ex43 hcd fun c' o vs' t e1 e2 e3 e4=>?_
  cases e1
  exact ⟨_,o,vs',t,rfl,I.kp _ _ e2 hlc htc,e3,e4⟩
 have hlen:vs.length = ds.length:=x.length
 refine codeAny_call_def (fd:=fdOf _ q c m) (body:=body) (binds:=xs.zip vs) R.limit kf rfl hlim hcd' rfl (BindsTo.of_eq (hb m vs hlen)) hcell (fun y hy=>hloc y.1 (List.of_mem_zip hy).1) (fun h₀ hns hk=>?_) hd.co hd.gen hd.fn
 have env0:callEnv (fdOf (.FunctionDef name params body dl ret tp scope ts bd pos) q c m) s.heap.objs.size f = { scope:=scope,locals:=s.heap.objs.size,globals:=mainGlobals,cells:=[],qual:=q ++ ".<locals>.",func:=some f,code:=.ref c,frame:=some s.heap.objs.size,builtins:=builtinsNs }:=rfl
 rw [env0]
 refine gr (s.heap.objs.size) fun L hL=>?_
 rw [hL] at hns ⊢
 have hz:L < h₀.objs.size:=hns.lt
 have hN:N0 ≤ L:=hL ▸ I.size
 have hf':∀ a ∈ L::H,a ∈ H ∨ s.heap.objs.size ≤ a:=fun a q=>by
  rcases mc q with rfl | q
  ·exact .inr (Nat.le_of_eq hL)
  ·exact .inl q
 have I':Inv h₁ (L::H) { s with heap:=h₀,toks:=s.toks + (xs.zip vs).length }:=by
  have g:=I.grown (h':=h₀) (t:=s.toks + (xs.zip vs).length) hk (by rw [hL];exact Nat.le_of_lt hz)
  have hlow:∀ a ∈ L::H,N0 ≤ a∧a < h₀.objs.size:=fun a q=>by
   rcases mc q with rfl | q
   ·exact ⟨hN,hz⟩
   ·exact g.hok a q
  exact ⟨g.kp,(I.tab.less hf').kept (fun b o e _=>hk b o e) (fun a q=>(hlow a q).1),g.bare,hlow,g.size,fun p hp=>let ⟨e1,e2,e3⟩:=I.fix p hp;⟨hk _ _ e1,(fun q=>(hf' _ q).elim e2 fun z=>Nat.lt_irrefl _ (Nat.lt_of_lt_of_le (Heap.lt_size e1) z)),e3⟩⟩
 have st0:Step [] s.heap h₀:=Step.of_keeps hk (by rw [hL];exact Nat.le_of_lt hz)
 have br:BR h₀ (L::H) (xs.zip vs).reverse (xs.zip ds).reverse:=(BR.zip (x.step (X:=[]) st0 (fun _ q=>(nomatch q)) hf')).reverse
 have F0:Fm ⟨scope,[]⟩ { scope:=scope,locals:=L,globals:=mainGlobals,cells:=[],qual:=q ++ ".<locals>.",func:=some f,code:=.ref c,frame:=some L,builtins:=builtinsNs } (xs.zip ds).reverse h₀ (L::H):=by
  refine ⟨⟨rfl,hd.fn,rfl,rfl,hN,(fun _ _ e=>by cases e),(fun h=>absurd h hcal),⟨_,hns,fun y d' e _=>br.lookup e,fun _ _ e=>by cases e⟩,fun y d' e kd=>?_,fun _ _ e=>by cases e⟩,⟨.head _,fun y hy=>absurd rfl (hcell _ hy),fun _ _ _ e=>by cases e⟩⟩
  exfalso
  have hy:=br.keys e
  refine ex11 (List.mem_map.mp hy) fun p hp zq1=>?_;subst zq1
  exact kd (hloc p.1 (List.of_mem_zip (List.mem_reverse.mp hp)).1)
 exact k _ { s with heap:=h₀,toks:=s.toks + (xs.zip vs).length } (R.deeper _) hL.symm rfl (SStep.heap st0 _) I' F0 hk
theorem putL_len (name:Str) (h:Int) (key v:Value):∀ es:List DictEntry,(putL name h key v es).length ≤ es.length + 1
 | []=>by simp [putL]
 | e::r=>by
  unfold putL
  split
  ·simp
  ·have:=putL_len name h key v r
   simp only [List.length_cons];lia
theorem setS {prog:Program}{w:WW}{A:Around}{s:Shared}{L d:Addr}{es:List DictEntry}{n:Nat}{name:Str}{v:Value}{Q:Unit→Shared→Prop}{E:Value→Shared→Prop}(T:Top1 h₁) (I:Inv h₁ H s) (F:Fm sc env vars s.heap H) (hdH:d ∈ H) (hdl:env.locals ≠ d) (hdc:∀ n c,env.cells.lookup n = some c→c ≠ d)
  (hnm:∀ K,ClsF K→findIn K (.ref 94) name = some none) (hL:s.heap.get? L = some (instObj 94 d)) (hd:s.heap.get? d = some (dictOf es n)) (hl:(getL name es).isSome = true) (hz:es.length ≤ 900)
  (k:∀ s' hh t n',SStep [d] s s'→Heap.SameBut d s.heap s'.heap→Inv h₁ H s'→Fm sc env vars s'.heap H→s'.heap.get? L = some (instObj 94 d)→s'.heap.get? d = some (dictOf (putL name hh (.str name t) v es) n')→Q () s'):wpAny (model prog w) A (setAttr (.ref L) name v) Q E s:=by
 refine ex11 (T.frag I.kp) fun K C X=>?_
 refine setI X C (hnm K C) hL hd hl (Nat.le_trans (putL_len _ _ _ _ _) (by lia)) fun h' hs hd'=>?_
 have hq:=Quiet.same (s:=s) (tk:=s.toks + 2) hs
 have hN:=(I.hok d hdH).1
 have DN:∀ y ∈ [d],N0 ≤ y:=fun y hy=>by rcases ms hy with rfl;exact hN
 have DH:∀ y ∈ [d],y ∈ H:=fun y hy=>by rcases ms hy with rfl;exact hdH
 have st:=hq.st DN
 have hLd:L ≠ d:=fun z=>by rw [z,hd] at hL;cases hL
 refine k _ _ _ _ st hs (I.quiet hq DH) (F.step st.st DH (fun z=>hdl (List.mem_singleton.mp z)) (fun n c e z=>hdc n c e (List.mem_singleton.mp z)) (fun _ z=>.inl z) fun _ z=>z) ((hs.2 L hLd).trans hL) hd'
theorem Inv.hideSeq {s₀ s:Shared}{P:Addr}{o:Obj}(I₀:Inv h₁ H s₀) (I:Inv h₁ H s) (hP:s₀.heap.objs.size ≤ P) (hg:s.heap.get? P = some o) (hd:∀ vs,o.data ≠ .fields vs):Inv h₁ (P::H) s:=by
 have ht:∀ {t line col q},TabAt s.heap H t line col q→TabAt s.heap (P::H) t line col q:=fun x=>by
  rcases x with e | ⟨c,o',vs,tk,e1,e2,e3,e4,e6,e7⟩
  ·exact .inl e
  ·refine .inr ⟨c,o',vs,tk,e1,fun z=>?_,e3,e4,e6,e7⟩
   rcases mc z with rfl | z
   ·rw [hg] at e4;cases e4;exact hd _ e6
   ·exact e2 z
 refine ⟨I.kp,⟨ht I.tab.i2d,ht I.tab.d2i,ht I.tab.cal,ht I.tab.lex⟩,I.bare,fun b q=>?_,I.size,fun p hp=>?_⟩
 ·rcases mc q with rfl | q
  ·exact ⟨Nat.le_trans I₀.size hP,Heap.lt_size hg⟩
  ·exact I.hok b q
 ·refine ex02 (I.fix p hp) fun e1 e2 e3=>?_
  refine ⟨e1,fun z=>?_,e3⟩
  rcases List.mem_cons.mp z with z | z
  ·have:=Heap.lt_size (I₀.fix p hp).1
   rw [z] at this
   exact Nat.lt_irrefl _ (Nat.lt_of_lt_of_le this hP)
  ·exact e2 z
theorem execSet {prog:Program}{w:WW}{A:Around}{s:Shared}{L d:Addr}{es:List DictEntry}{n:Nat}{name x:Str}{v:Value}{p tp pos:Pos}{e:Expr}{rest:List Stmt}{Ex:Shared→Prop}{Q:Flow→Shared→Prop}{E:Value→Shared→Prop}(T:Top1 h₁) (R:Room r A) (F:Fm sc env vars s.heap H)
  (hx:vars.lookup x = some (opq L)) (hdH:d ∈ H) (hdN:N0 ≤ d) (hLN:N0 ≤ L) (hdl:env.locals ≠ d) (hdc:∀ n c,env.cells.lookup n = some c→c ≠ d)
  (hnm:∀ K,ClsF K→findIn K (.ref 94) name = some none) (hL:s.heap.get? L = some (instObj 94 d)) (hd:s.heap.get? d = some (dictOf es n)) (hl:(getL name es).isSome = true) (hz:es.length ≤ 900)
  (hval:∀ (Q:Value→Shared→Prop) (E:Value→Shared→Prop),(∀ s₁,SStep [] s s₁→Inv h₁ H s₁→Ex s₁→Q v s₁)→wpAny (model prog w) A (eval e env) Q E s)
  (k:∀ s₁ s' hh t n',SStep [] s s₁→Ex s₁→SStep [d] s₁ s'→Inv h₁ H s'→Fm sc env vars s'.heap H→s'.heap.get? L = some (instObj 94 d)→s'.heap.get? d = some (dictOf (putL name hh (.str name t) v es) n')→wpAny (model prog w) A (execs rest env) Q E s')
  (hs:noSwap e = true:=by rfl) (hdb:(x == ("__debug__":Str)) = false:=by rfl):wpAny (model prog w) A (execs (.Assign [.Attribute (.Name x p) name tp] e pos::rest) env) Q E s:=by
 refine wpAny_execs_cons (plainObj_wpAny_Assign_Attribute (hval _ _ fun s₁ st I₁ ex=>?_) (swaps_no hs))
 with_reducible refine (EVP.name hx hdb) prog w A env s₁ H _ E T R I₁ (F.grow st.st).ok fun u s₂ st₂ I₂ hv=>?_
 have hv':=hv.asOpq
 subst hv'
 have st12:=st.trans st₂
 refine setS T I₂ (F.grow st12.st) hdH hdl hdc hnm (st12.st.keep _ _ hL List.not_mem_nil (tabs_lt hLN)) (st12.st.keep _ _ hd List.not_mem_nil (tabs_lt hdN)) hl hz fun s₃ hh t n' st₃ _ I₃ F₃ hL₃ hd₃=>?_
 exact k s₁ s₃ hh t n' st ex (st₂.up.trans st₃) I₃ F₃ hL₃ hd₃
noncomputable def initEs (P:Addr) (hs:Nat→Int) (ts:Nat→Tok):List DictEntry:=
 [⟨hs 0,.str "lineno" (ts 0),.int 1 (ts 5)⟩,⟨hs 1,.str "instream" (ts 1),.none⟩,⟨hs 2,.str "whitespace" (ts 2),.str (S [10,9,13,32]) (ts 6)⟩,⟨hs 3,.str "pushback" (ts 3),.ref P⟩]
theorem defI:DefOf (mtOf 0) "__init__" (parOf (mtOf 0)) (bodyOf (mtOf 0)) (scOf0 (mtOf 0)):=⟨⟨_,_,_,_,_,_,rfl⟩,rfl,rfl,rfl⟩
theorem init_ok {prog:Program}{w:WW}{A:Around}{s:Shared}{L d:Addr}{Rr:Result→Shared→Prop}(T:Top1 h₁) (R:Room (r + 1) A) (I:Inv h₁ H s) (hdH:d ∈ H) (hLN:N0 ≤ L) (hL:s.heap.get? L = some (instObj 94 d)) (hd:s.heap.get? d = some emptyDict)
  (k:∀ P s',SStep [d] s s'→Inv h₁ H s'→s.heap.objs.size ≤ P→s'.heap.get? L = some (instObj 94 d)→(∃ hs ts n,s'.heap.get? d = some (dictOf (initEs P hs ts) n))→s'.heap.get? P = some { cls:=.type "list",data:=.seq #[] }→Rr (.ok (.ret .none)) s') :
  codeAny (model prog w) A (.call (.ref 70) ⟨[.ref L,.none],[]⟩) Rr s:=by
 refine enterD (xs:=["self", "fp"]) (ds:=[opq L,.none]) T R I (.cons (.opq _) (.cons .none .nil)) T.fInit defI ?_ ?_ (by decide) fun env s₁ R₁ el ec st I₁ F₁ kk=>?_
 ·intro m vs hl
  refine ex20 (len2 hl) fun _ _ zq1=>?_;subst zq1
  rfl
 ·exact fm rfl (fm rfl fn)
 have F₁:Fm ⟨scOf0 (mtOf 0),[]⟩ env [(("fp":Str),PyData.none),("self",opq L)] s₁.heap (env.locals::H):=F₁
 have vS:Has [(("fp":Str),PyData.none),("self",opq L)] "self" (opq L):=Has.here.skip rfl
 have vF:Has [(("fp":Str),PyData.none),("self",opq L)] "fp" .none:=Has.here
 generalize [(("fp":Str),PyData.none),("self",opq L)] = vars at vS vF F₁
 have hdl:env.locals ≠ d:=fun z=>by
  have:=(I.hok d hdH).2
  rw [← z,el] at this
  exact Nat.lt_irrefl _ this
 have hdc:∀ n c,env.cells.lookup n = some c→c ≠ d:=fun n c e=>by rw [ec] at e;cases e
 have hdH':d ∈ env.locals::H:=.tail _ hdH
 have hdN:=(I.hok d hdH).1
 have hL1:=kk _ _ hL
 have hd1:s₁.heap.get? d = some (dictOf [] 0):=kk _ _ hd
 conv=>arg 3;arg 1;whnf
 refine execSet (v:=.int 1 s₁.toks) (Ex:=fun _=>True) T R₁ F₁ vS hdH' hdN hLN hdl hdc (fun K C=>C.n1) hL1 hd1 rfl (by simp) (fun Q E kq=>?_) fun a₁ s₂ h1 t1 n1 sa _ st₂ I₂ F₂ hL₂ hd₂=>?_
 ·with_reducible refine wpAny_Constant_int ?_
  exact kq _ (SStep.toks _ _) (I₁.toks _) trivial
 refine execSet (v:=.none) (Ex:=fun _=>True) T R₁ F₂ vS hdH' hdN hLN hdl hdc (fun K C=>C.n2) hL₂ hd₂ rfl (by simp [putL]) (fun Q E kq=>?_) fun a₂ s₃ h2 t2 n2 sb _ st₃ I₃ F₃ hL₃ hd₃=>?_
 ·with_reducible refine (EVP.name vF rfl) prog w _ env s₂ (env.locals::H) _ E T R₁ I₂ F₂.ok fun u s' st' I' hv=>?_
  obtain rfl:=V.noneI hv
  exact kq _ st' I' trivial
 refine execSet (v:=.str (S [10,9,13,32]) s₃.toks) (Ex:=fun _=>True) T R₁ F₃ vS hdH' hdN hLN hdl hdc (fun K C=>C.n3) hL₃ hd₃ rfl (by simp [putL];split <;> simp) (fun Q E kq=>?_) fun a₃ s₄ h3 t3 n3 sc _ st₄ I₄ F₄ hL₄ hd₄=>?_
 ·with_reducible refine wpAny_Constant_str ?_
  exact kq _ (SStep.toks _ _) (I₃.toks _) trivial
 refine execSet (v:=.ref s₄.heap.objs.size) (Ex:=fun z=>z.heap.get? s₄.heap.objs.size = some { cls:=.type "list",data:=.seq #[] }) T R₁ F₄ vS hdH' hdN hLN hdl hdc (fun K C=>C.n4) hL₄ hd₄ rfl (by exact Nat.le_of_ble_eq_true rfl) (fun Q E kq=>?_) fun a₄ s₅ h4 t4 n4 sd ex st₅ I₅ F₅ hL₅ hd₅=>?_
 ·with_reducible refine wpAny_List (Calls.spliced_nil ⟨?_,?_⟩)
  ·decide
  ·exact kq _ (SStep.heap' (Step.push _)) (I₄.pushed _) (Heap.get?_push_size _ rfl)
 with_reducible refine wpAny_execs_nil ?_
 have I₆:Inv h₁ H s₅:=I₅.less (fun b q=>.inl (.tail _ q)) fun b q=>I₅.hok b (.tail _ q)
 have hP4:s₁.heap.objs.size ≤ s₄.heap.objs.size:=Nat.le_trans sa.st.size (Nat.le_trans st₂.st.size (Nat.le_trans sb.st.size (Nat.le_trans st₃.st.size (Nat.le_trans sc.st.size st₄.st.size))))
 have hPs:s.heap.objs.size ≤ s₄.heap.objs.size:=Nat.le_trans st.st.size hP4
 have hdP:s₄.heap.objs.size ≠ d:=fun z=>by
  have:=(I.hok d hdH).2
  rw [← z] at this
  exact Nat.lt_irrefl _ (Nat.lt_of_lt_of_le this hPs)
 have gP:s₅.heap.get? s₄.heap.objs.size = some { cls:=.type "list",data:=.seq #[] }:=st₅.st.keep _ _ ex (fun z=>hdP (List.mem_singleton.mp z)) (tabs_lt (Nat.le_trans I.size hPs))
 refine k _ s₅ ?_ I₆ hPs hL₅ ⟨fun i=>match i with | 0=>h1 | 1=>h2 | 2=>h3 | _=>h4,fun i=>match i with | 0=>t1 | 1=>t2 | 2=>t3 | 3=>t4 | 5=>s₁.toks | _=>s₃.toks,n4,hd₅⟩ gP
 exact (st.trans sa).up.trans (st₂.trans (sb.up.trans (st₃.trans (sc.up.trans (st₄.trans (sd.up.trans st₅))))))
end
end Mine
namespace Mine
variable [Wd]
structure LamNew (h₀ h:Heap) (H:List Addr) (f c:Addr) (name qual:Str) (params:Arguments) (body:Expr) (scope:Scope) (clos:List (Str × Addr)):Prop where
 fn:∃ fo pm ctv,h.get? f = some fo∧fo.data = .func (kla_fn name qual params body scope clos pm (.ref c) ctv)
 new:h₀.objs.size ≤ f
 code:h.CodeRec (.ref c) qual
 cH:c ∉ H
 cN:N0 ≤ c
 ne:c ≠ f
section
variable {h₁:Gl}{r:Nat}{sc:Sc}{vars:List (Str × D)}{env:Env}
theorem makeLam {prog:Program}{w:WW}{A:Around}{s:Shared}{H:List Addr}{t c:Addr}{line col:Int}{qual name:Str}{params:Arguments}{body:Expr}{scope:Scope}{env:Env}{pos:Pos}{fl:Nat}{clos:List (Str × Addr)}{Q:Value→Shared→Prop}{E:Value→Shared→Prop}
  (S:TabSel t c line col qual) (T:Top1 h₁) (I:Inv h₁ H s) (hcl:closureFor scope env = pure clos) (hg:env.globals = mainGlobals) (hc:env.code = .ref c) (h1:line = pos.line) (h2:col = pos.col)
  (k:∀ f c' s',SStep [] s s'→Inv h₁ H s'→LamNew s.heap s'.heap H f c' name qual params body scope clos→Q (.ref f) s') :
  wpAny (model prog w) A (makeFunction name qual params (.expr body) scope env [] [] [] pos fl) Q E s:=by
 refine ex14 T.glob fun mg g1 _ _ _ g5=>?_
 refine ex13 T.bmod fun ob b1 b2 b3 b4=>?_
 have hns:s.heap.Ns mainGlobals mg:=I.kp.ns g1 (by decide) (by decide)
 have hb4:s.heap.get? 4 = some ob:=I.kp _ _ b1 (by decide) (by decide)
 have h4t:(4:Addr) ≠ t:=fun q=>absurd (q ▸ S.mem) (by decide)
 have hmt:mainGlobals ≠ t:=fun q=>absurd (q ▸ S.mem) (by decide)
 have hB:s.heap.BuiltinsAt mg t:=⟨4,ob,g5,by decide,by decide,h4t,hb4,b2,b3,b4⟩
 have C:CodeHd s.heap c t:=CodeHd.kp (S.hd T) I.kp S.low S.nt
 rcases S.get I.tab with e | ⟨c',o,vs,tk,e1,e2,e3,e4,e6,e7⟩
 ·refine kla_makeFunction (ps:=#[]) hcl hg hns hc C e trivial rfl hmt hB fun c' ctv h' tk hx hge hlt hrec htb=>?_
  refine ex43 hrec fun c₂ o vs tt q1 q2 q3 q4=>?_
  cases q1
  have hz:s.heap.objs.size ≤ h'.objs.size:=Nat.le_trans hge (Nat.le_of_lt hlt)
  have hcH:c' ∉ H:=fun q=>Nat.lt_irrefl _ (Nat.lt_of_lt_of_le (I.hok _ q).2 hge)
  have hcN:N0 ≤ c':=Nat.le_trans I.size hge
  have htab:TabAt h' H t line col qual:=.inr ⟨c',o,vs,tt,by rw [htb,h1,h2];rfl,hcH,hcN,q2,q3,q4⟩
  have I₁:=grown_tab (h₁:=h₁) S I hx hz htab tk
  have st₁:Step [] s.heap h':=step_tab S hx hz fun ps e'=>by rw [e] at e';cases e';exact ⟨_,htb⟩
  refine k _ c' _ (SStep.heap (st₁.trans (Step.push _)) tk) (I₁.kept (s':={ s with heap:=h'.push _,toks:=tk }) (fun b o e _=>Heap.get?_push_of_some _ e) (by show h'.objs.size ≤ _;simp) I.bare) ⟨⟨_,_,_,Heap.get?_push_size _ rfl,rfl⟩,hz,⟨_,o,vs,tt,rfl,Heap.get?_push_of_some _ q2,q3,q4⟩,hcH,hcN,fun z=>Nat.lt_irrefl _ (z ▸ hlt)⟩
 ·refine kla_makeFunctionHit hcl hg hns hc C e1 (by trivial) (codeAmong_one h1 h2) hB fun ctv h' tk' hk hz=>?_
  have I₁:=I.grown (h':=h') (t:=tk') hk hz
  refine k _ c' _ (SStep.heap ((Step.of_keeps hk hz).trans (Step.push _)) tk') (I₁.kept (s':={ s with heap:=h'.push _,toks:=tk' }) (fun b o e _=>Heap.get?_push_of_some _ e) (by show h'.objs.size ≤ _;simp) I.bare) ⟨⟨_,_,_,Heap.get?_push_size _ rfl,rfl⟩,hz,⟨_,o,vs,tk,rfl,Heap.get?_push_of_some _ (hk _ _ e4),e6,e7⟩,e2,e3,fun z=>Nat.lt_irrefl _ (z ▸ Heap.lt_size (hk _ _ e4))⟩
theorem Room.under1 {r:Nat}{A:Around}{c:Code}(x:Room (r + 1) A) (h1:c.weight = 1) (h2:c.cUnits = 1):Room r (A.under c):=
 ⟨x.hd,(by have:=x.dp;show A.depth + c.weight + r < 980;lia),(by have:=x.un;show A.units + c.cUnits + 16 * r < 9700;lia)⟩
theorem clsNew {prog:Program}{w:WW}{A:Around}{s:Shared}{H:List Addr}{Q:Value→Shared→Prop}{E:Value→Shared→Prop}(T:Top1 h₁) (R:Room (r + 2) A) (I:Inv h₁ H s)
  (k:∀ L d P s',SStep [] s s'→Inv h₁ (P::L::d::H) s'→s.heap.objs.size ≤ L∧s.heap.objs.size ≤ d∧s.heap.objs.size ≤ P→s'.heap.get? L = some (instObj 94 d)→(∃ hs ts n,s'.heap.get? d = some (dictOf (initEs P hs ts) n))→s'.heap.get? P = some { cls:=.type "list",data:=.seq #[] }→Q (.ref L) s') :
  wpAny (model prog w) A (PySem.call (.ref 94) [.none]) Q E s:=by
 refine ex11 (T.frag I.kp) fun K C X=>?_
 refine wpAny_call ?_
 obtain ⟨h,g,dr,t,os⟩:=s
 refine make_core (makes_of X C.mks) (looks_findIn X C.init) (fun self=>bind_fn X self C.t1) (.inl rfl) ?_
 refine gr (h.objs.size) fun d hd=>?_
 have hk:∀ b o,h.get? b = some o→((h.push emptyDict).push (instObj 94 h.objs.size)).get? b = some o:=fun b o e=>Heap.get?_push_of_some _ (Heap.get?_push_of_some _ e)
 have gL:((h.push emptyDict).push (instObj 94 h.objs.size)).get? (h.objs.size + 1) = some (instObj 94 h.objs.size):=by
  have:((h.push emptyDict).push (instObj 94 h.objs.size)).get? (h.push emptyDict).objs.size = some (instObj 94 h.objs.size):=Heap.get?_push_size _ rfl
  rwa [Heap.size_push] at this
 have gd:((h.push emptyDict).push (instObj 94 h.objs.size)).get? h.objs.size = some emptyDict:=Heap.get?_push_of_some _ (Heap.get?_push_size _ rfl)
 have st:SStep [] ⟨h,g,dr,t,os⟩ ⟨(h.push emptyDict).push (instObj 94 h.objs.size),g,dr,t,os⟩:=⟨Step.of_keeps hk (by simp only [Heap.size_push];lia),rfl,id⟩
 rw [hd] at hk gL gd st ⊢
 have I₂:Inv h₁ ([d + 1,d] ++ H) ⟨(h.push emptyDict).push (instObj 94 d),g,dr,t,os⟩:=I.hideNew st hk rfl fun y hy=>by
  rcases mc hy with rfl | hy
  ·exact ⟨by show h.objs.size ≤ d + 1;rw [hd];exact Nat.le_succ d,Heap.lt_size gL⟩
  ·rcases ms hy with rfl
   exact ⟨Nat.le_of_eq hd,Heap.lt_size gd⟩
 have hdN:N0 ≤ d:=hd ▸ I.size
 refine init_ok (r:=r) (L:=d + 1) (d:=d) T (R.under1 rfl rfl) I₂ (.tail _ (.head _)) (Nat.le_succ_of_le hdN) gL gd fun P s' st' I' hP hL hdd gP=>?_
 have hPs:h.objs.size ≤ P:=Nat.le_trans st.st.size hP
 refine ⟨rfl,?_⟩
 refine k (d + 1) d P s' ((st.up.trans st').mono fun y hy=>.inr (by rcases ms hy with rfl;exact Nat.le_of_eq hd)) ?_ ⟨?_,Nat.le_of_eq hd,hPs⟩ hL hdd gP
 ·exact I₂.hideSeq I' hP gP fun vs e=>by cases e
 ·show h.objs.size ≤ d + 1
  rw [hd];exact Nat.le_succ d
theorem keepC:KeepOK h₁ (.ref 94):=by
 intro T M h k
 refine ex11 (T.frag k) fun K C X=>?_
 refine ex11 (looks_keep (M:=M) C.ky X) fun kp a b=>?_
 exact ⟨kp,a.elim .inl fun e=>.inr (.inl e),b⟩
end
end Mine
namespace Mine
variable [Wd]
section
variable {h₁:Gl}{r:Nat}{sc:Sc}{vars:List (Str × D)}{env:Env}
theorem signs_vl {x:List Nat}{acc:Array Value}(h:ItemsOf (SignAt (S x)) acc (S x).cps.size):∀ h' H',VL h' H' acc.toList ((x.map fun c=>S [c]).map PyData.str):=by
 intro h' H'
 obtain ⟨acc⟩:=acc
 obtain ⟨h1,h2⟩:=h
 have h1:acc.length = x.length:=by simpa using h1
 have h2:∀ j v,acc[j]? = some v→SignAt (S x) j v:=fun j v e=>h2 j v (by simpa using e)
 suffices ∀ (i:Nat) (l:List Value) (m:List Nat),l.length = m.length→(∀ j,l[j]? = acc[i + j]?)→(∀ j,m[j]? = x[i + j]?)→VL h' H' l ((m.map fun c=>S [c]).map PyData.str) from
  this 0 acc x h1 (fun j=>by simp) fun j=>by simp
 intro i l
 induction l generalizing i with
 | nil=>intro m hl _ _;cases m with
  | nil=>exact .nil
  | cons _ _=>simp at hl
 | cons v l ih=>
  intro m hl ha hm
  cases m with
  | nil=>simp at hl
  | cons c m=>
   have a0:=ha 0
   have m0:=hm 0
   simp only [List.getElem?_cons_zero,Nat.add_zero] at a0 m0
   obtain ⟨t,rfl⟩:∃ t,v = .str (S [c]) t:=by
    have:=h2 i v a0.symm
    refine ex21 this fun c' u e1 zq1=>?_;subst zq1
    have e1':x[i]? = some c':=by simpa using e1
    rw [← m0] at e1'
    cases e1'
    exact ⟨u,rfl⟩
   refine .cons (.str _ _) (ih (i + 1) m (by simpa using hl) (fun j=>?_) fun j=>?_)
   ·have:=ha (j + 1);simp only [List.getElem?_cons_succ] at this;rw [this];congr 1;lia
   ·have:=hm (j + 1);simp only [List.getElem?_cons_succ] at this;rw [this];congr 1;lia
theorem execSetG {H:List Addr}{prog:Program}{w:WW}{A:Around}{s:Shared}{L d:Addr}{es:List DictEntry}{n:Nat}{name x:Str}{p tp pos:Pos}{e:Expr}{rest:List Stmt}{Ex:Value→Shared→Prop}{Q:Flow→Shared→Prop}{E:Value→Shared→Prop}(T:Top1 h₁) (R:Room r A) (F:Fm sc env vars s.heap H)
  (hx:vars.lookup x = some (opq L)) (hdH:d ∈ H) (hdN:N0 ≤ d) (hLN:N0 ≤ L) (hdl:env.locals ≠ d) (hdc:∀ n c,env.cells.lookup n = some c→c ≠ d)
  (hnm:∀ K,ClsF K→findIn K (.ref 94) name = some none) (hL:s.heap.get? L = some (instObj 94 d)) (hd:s.heap.get? d = some (dictOf es n)) (hl:(getL name es).isSome = true) (hz:es.length ≤ 900)
  (hval:∀ (Q:Value→Shared→Prop) (E:Value→Shared→Prop),(∀ s₁ v,SStep [] s s₁→Inv h₁ H s₁→Ex v s₁→Q v s₁)→wpAny (model prog w) A (eval e env) Q E s)
  (k:∀ s₁ v s' hh t n',SStep [] s s₁→Ex v s₁→SStep [d] s₁ s'→Inv h₁ H s'→Fm sc env vars s'.heap H→s'.heap.get? L = some (instObj 94 d)→s'.heap.get? d = some (dictOf (putL name hh (.str name t) v es) n')→wpAny (model prog w) A (execs rest env) Q E s')
  (hs:noSwap e = true:=by rfl) (hdb:(x == ("__debug__":Str)) = false:=by rfl):wpAny (model prog w) A (execs (.Assign [.Attribute (.Name x p) name tp] e pos::rest) env) Q E s:=by
 refine wpAny_execs_cons (plainObj_wpAny_Assign_Attribute (hval _ _ fun s₁ v st I₁ ex=>?_) (swaps_no hs))
 with_reducible refine (EVP.name hx hdb) prog w A env s₁ H _ E T R I₁ (F.grow st.st).ok fun u s₂ st₂ I₂ hv=>?_
 have hv':=hv.asOpq
 subst hv'
 have st12:=st.trans st₂
 refine setS T I₂ (F.grow st12.st) hdH hdl hdc hnm (st12.st.keep _ _ hL List.not_mem_nil (tabs_lt hLN)) (st12.st.keep _ _ hd List.not_mem_nil (tabs_lt hdN)) hl hz fun s₃ hh t n' st₃ _ I₃ F₃ hL₃ hd₃=>?_
 exact k s₁ v s₃ hh t n' st ex (st₂.up.trans st₃) I₃ F₃ hL₃ hd₃
theorem defL:DefOf (stOf 14) "_law_lexer" (parOf (stOf 14)) (bodyOf (stOf 14)) (scOf0 (stOf 14)):=⟨⟨_,_,_,_,_,_,rfl⟩,rfl,rfl,rfl⟩
theorem lamS_names:lamS.names = [(("count":Str),NameKind.local),("signs",.free)]:=rfl
theorem ne_obj {h:Heap}{a b:Addr}{o o':Obj}(e1:h.get? a = some o) (e2:h.get? b = some o') (n:o.data ≠ o'.data):a ≠ b:=fun q=>by
 subst q;rw [e1] at e2;cases e2;exact n rfl
theorem Fm.hide1 {sc:Sc}{env:Env}{vars:List (Str × D)}{h h':Heap}{H:List Addr}{P:Addr}(F:Fm sc env vars h H) (st:Step [] h h') (hP:h.objs.size ≤ P):Fm sc env vars h' (P::H):=
 F.step st (fun _ q=>nomatch q) (fun q=>nomatch q) (fun _ _ _ q=>nomatch q) (fun y q=>by
  rcases mc q with rfl | q
  ·exact .inr hP
  ·exact .inl q) fun _ q=>.tail _ q
set_option maxRecDepth 4000 in
theorem lexer_new {prog:Program}{w:WW}{A:Around}{s:Shared}{H:List Addr}{v:Value}{text:List Nat}{Q:Value→Shared→Prop}{E:Value→Shared→Prop}(T:Top1 h₁) (R:Room (r + 3) A) (I:Inv h₁ H s) (hv:V s.heap H v (.str (S text))) (hz:text.length ≤ 2 ^ 18)
  (k:∀ a s',SStep [] s s'→Inv h₁ (a.X ++ H) s'→(∀ x ∈ a.X,s.heap.objs.size ≤ x)→(Rp.lex a 1 text []).ok s'.heap (a.X ++ H)→Q (.ref a.L) s'):wpAny (model prog w) A (PySem.call (.ref 119) [v]) Q E s:=by
 refine enterC (xs:=["text"]) (ds:=[.str (S text)]) T R I (.cons hv .nil) T.fLex defL ?_ ?_ (fun env s₁ H₁ R₁ ec ecode esc eg eb equal st0 I₁ F₁ hsub hHin hloc hcs=>?_) (by decide) (by decide) (by decide) (by decide)
 ·intro m vs hl
  obtain ⟨_,rfl⟩:=len1 hl
  rfl
 ·intro x hx
  simp only [List.mem_cons,List.not_mem_nil,or_false] at hx
  subst hx;exact .inl rfl
 have F₁:Fm ⟨scOf0 (stOf 14),[]⟩ env [(("text":Str),.str (S text))] s₁.heap H₁:=F₁
 conv=>arg 3;arg 1;whnf
 refine wpAny_execs_cons (wpAny_Assign_Name ?_ (swaps_no rfl))
 refine evalCall (r:=r + 2) (NameIs.bi (f:=.type "list") (by decide) boot_list rfl) KeepOK.type (EVS.cons (EVP.name Has.here rfl) EVS.nil) T R₁ I₁ F₁.ok fun vs s₂ st₂ I₂ hvs=>?_
 obtain ⟨tt,rfl⟩:∃ tt,vs = [.str (S text) tt]:=by
  refine ex11 (VL.one hvs) fun _ zq1 a=>?_;subst zq1
  obtain ⟨_,rfl⟩:=V.strI a;exact ⟨_,rfl⟩
 have F₂:=F₁.grow st₂.st
 refine with_size (call_list_str R₁.hd (S text) tt (fun h₃ tk₃ acc c₃ hk₃ hS₃ hit hz₃=>?_) (by simp only [List.size_toArray,sizeLine_eq];lia))
 refine gr (s₂.heap.objs.size) fun Sa hSa=>?_
 rw [hSa] at hS₃ ⊢
 have st₃:SStep [] s₂ { s₂ with heap:=h₃,toks:=tk₃ }:=SStep.heap (Step.of_keeps hk₃ hz₃) _
 have I₃:Inv h₁ (Sa::H₁) { s₂ with heap:=h₃,toks:=tk₃ }:=I₂.hideSeq (I₂.grown hk₃ hz₃) (Nat.le_of_eq hSa) hS₃ fun vs e=>by cases e
 have F₃:Fm ⟨scOf0 (stOf 14),[]⟩ env [(("text":Str),.str (S text))] h₃ (Sa::H₁):=F₂.hide1 st₃.st (Nat.le_of_eq hSa)
 have SaN:N0 ≤ Sa:=(I₃.hok Sa (.head _)).1
 have hlS:LS h₃ Sa (text.map fun c=>S [c]):=⟨acc,⟨_,hS₃⟩,signs_vl hit⟩
 refine storeRawC (x := "signs") rfl I₃ F₃ rfl fun s₄ c hc st₄ I₄ F₄=>?_
 have hcs':s.heap.objs.size ≤ c:=hcs _ _ (lookup_mem hc)
 have hcell:=F₄.ok.raw "signs" (.ref Sa) rfl nofun
 refine ex0112 hcell fun _ c' hc' hcN zq1=>?_;obtain ⟨oc,hoc,hocd⟩:=zq1
 rw [hc] at hc';cases hc'
 have hcSa:Sa ≠ c:=fun z=>by
  have:=F₁.ok.lt _ _ hc
  rw [← z,← hSa] at this
  exact Nat.lt_irrefl _ (Nat.lt_of_lt_of_le this st₂.st.size)
 have hlS₄:LS s₄.heap Sa (text.map fun c=>S [c]):=hlS.at fun o e=>st₄.st.keep _ _ e (fun z=>hcSa (List.mem_singleton.mp z)) (tabs_lt SaN)
 have hcH₁:c ∈ Sa::H₁:=by
  refine ex23 (F₄.w.cel "signs" (lookup_mem rfl)) fun c2 v0 e1 e2 e3 e4=>?_
  rw [hc] at e1;cases e1;exact e3
 refine wpAny_execs_cons (wpAny_Assign_Name ?_ (swaps_no rfl))
 refine evalCall (r:=r + 2) (NameIs.glob (a:=94) (by decide) rfl) keepC (EVS.cons EVP.const_none EVS.nil) T R₁ I₄ F₄.ok fun vs s₅ st₅ I₅ hvs=>?_
 obtain rfl:vs = [.none]:=by
  refine ex11 (VL.one hvs) fun _ zq1 a=>?_;subst zq1
  obtain rfl:=V.noneI a;rfl
 refine clsNew T R₁ I₅ fun L d P s₆ st₆ I₆ hge hL hd hP=>?_
 refine ex02 hge fun geL ged geP=>?_
 have h45:=st₅.st.size
 have F₆:Fm ⟨scOf0 (stOf 14),[("signs",.ref Sa)]⟩ env [(("text":Str),.str (S text))] s₆.heap (P::L::d::Sa::H₁):=
  F₄.step (st₅.trans st₆).st (fun _ q=>nomatch q) (fun q=>nomatch q) (fun _ _ _ q=>nomatch q) (fun y q=>by
   rcases mc q with rfl | q
   ·exact .inr (Nat.le_trans h45 geP)
   rcases mc q with rfl | q
   ·exact .inr (Nat.le_trans h45 geL)
   rcases mc q with rfl | q
   ·exact .inr (Nat.le_trans h45 ged)
   ·exact .inl q) fun _ q=>.tail _ (.tail _ (.tail _ q))
 have h14:s₁.heap.objs.size ≤ s₄.heap.objs.size:=Nat.le_trans st₂.st.size (Nat.le_trans st₃.st.size st₄.st.size)
 have hdl:env.locals ≠ d:=fun z=>by
  have:=(I₄.hok _ F₄.w.loc).2
  rw [z] at this
  exact Nat.lt_irrefl _ (Nat.lt_of_lt_of_le this (Nat.le_trans h45 ged))
 have hdc:∀ n c,env.cells.lookup n = some c→c ≠ d:=fun n c e z=>by
  have:=F₄.ok.lt n c e
  rw [z] at this
  exact Nat.lt_irrefl _ (Nat.lt_of_lt_of_le this (Nat.le_trans h45 ged))
 have PH:P ∈ P::L::d::Sa::H₁:=.head _
 have LH:L ∈ P::L::d::Sa::H₁:=.tail _ (.head _)
 have dH:d ∈ P::L::d::Sa::H₁:=.tail _ (.tail _ (.head _))
 have SH:Sa ∈ P::L::d::Sa::H₁:=.tail _ (.tail _ (.tail _ (.head _)))
 have LN:=(I₆.hok _ LH).1
 have dN:=(I₆.hok _ dH).1
 have PN:=(I₆.hok _ PH).1
 refine store (x := "lexer") (d:=opq L) (.inl rfl) I₆ F₆ (.opq L) fun s₇ st₇ I₇ F₇=>?_
 have hwl:∀ b,b ∈ [L,d,P]→b ∉ wr ⟨scOf0 (stOf 14),[(("signs":Str),Value.ref Sa)]⟩ env:=fun b hb q=>by
  have hlt:b < s₄.heap.objs.size:=(I₄.hok b (wr_sub F₄.w b q)).2
  have hge:s₅.heap.objs.size ≤ b:=by
   simp only [mcI,List.not_mem_nil,or_false] at hb
   rcases hb with rfl | rfl | rfl
   ·exact geL
   ·exact ged
   ·exact geP
  exact Nat.lt_irrefl _ (Nat.lt_of_lt_of_le hlt (Nat.le_trans h45 hge))
 have L7:=st₇.st.keep _ _ hL (hwl L (by simp)) (tabs_lt LN)
 refine ex30 hd fun hs0 ts0 n0 hd=>?_
 have d7:=st₇.st.keep _ _ hd (hwl d (by simp)) (tabs_lt dN)
 have P7:=st₇.st.keep _ _ hP (hwl P (by simp)) (tabs_lt PN)
 have d7:s₇.heap.get? d = some (dictOf (initEs P hs0 ts0) n0):=d7
 have hcl:closureFor lamS env = pure [(("signs":Str),c)]:=closureFor_of (g:=fun _=>c) fun x hx=>by
  simp only [lamS_names,List.mem_cons,List.not_mem_nil,or_false,Prod.mk.injEq] at hx
  rcases hx with ⟨_,h⟩ | ⟨h,_⟩
  ·cases h
  ·rw [h];exact hc
 refine execSetG (Ex:=fun v z=>∃ f c',v = .ref f∧LamNew s₇.heap z.heap (P::L::d::Sa::H₁) f c' "<lambda>" lamQ lamP lamB lamS [("signs",c)]) T R₁ F₇ Has.here dH dN LN hdl hdc (fun K C=>C.n5) L7 d7 rfl (Nat.le_of_ble_eq_true rfl) (fun Q E kq=>?_) fun s₈ v s₉ h5 t5 n5 st₈ ex st₉ I₉ F₉ L9 d9=>?_
 ·have hq:env.qual ++ "<lambda>" = lamQ:=by rw [equal];rfl
  refine kla_eval rfl ?_
  rw [hq]
  exact makeLam selLex T I₇ hcl eg ecode rfl rfl fun f c' s' st I' N=>kq _ _ st I' ⟨f,c',rfl,N⟩
 refine ex21 ex fun f cd zq1 N=>?_;subst zq1
 refine execSetG (Ex:=fun v z=>v = .ref L) T R₁ F₉ Has.here dH dN LN hdl hdc (fun K C=>C.n2) L9 d9 rfl (Nat.le_of_ble_eq_true rfl) (fun Q E kq=>?_) fun s₁₀ v s₁₁ h6 t6 n6 st₁₀ ex st₁₁ I₁₁ F₁₁ L11 d11=>?_
 ·with_reducible refine (EVP.name Has.here rfl) prog w _ env s₉ _ _ E T R₁ I₉ F₉.ok fun u s' st' I' hv=>?_
  exact kq _ _ st' I' hv.asOpq
 subst ex
 refine wpAny_execs_cons ?_
 with_reducible refine wpAny_Return_some ?_
 with_reducible refine (EVP.name Has.here rfl) prog w _ env s₁₁ _ _ _ T R₁ I₁₁ F₁₁.ok fun u s₁₂ st₁₂ I₁₂ hu=>?_
 have hu':=hu.asOpq
 subst hu'
 have h7:s.heap.objs.size ≤ s₇.heap.objs.size:=Nat.le_trans st0.st.size (Nat.le_trans h14 (Nat.le_trans h45 (Nat.le_trans st₆.st.size st₇.st.size)))
 have h1s:=st0.st.size
 have hs5:s.heap.objs.size ≤ s₅.heap.objs.size:=Nat.le_trans h1s (Nat.le_trans h14 h45)
 have freshSa:s.heap.objs.size ≤ Sa:=Nat.le_trans h1s (hSa ▸ st₂.st.size)
 have freshf:s.heap.objs.size ≤ f:=Nat.le_trans h7 N.new
 have fN:N0 ≤ f:=Nat.le_trans I₇.size N.new
 have Sa5:Sa < s₅.heap.objs.size:=(I₅.hok Sa (.head _)).2
 have c5:c < s₅.heap.objs.size:=F₄.ok.lt _ _ hc |> fun q=>Nat.lt_of_lt_of_le q h45
 have big:∀ {x y:Addr},x < s₅.heap.objs.size→s₅.heap.objs.size ≤ y→x ≠ y:=fun h1 h2 z=>Nat.lt_irrefl _ (Nat.lt_of_lt_of_le h1 (z ▸ h2))
 have Sad:Sa ≠ d:=big Sa5 ged
 have Pd:P ≠ d:=ne_obj P7 d7 (by intro e;cases e)
 have nd1:∀ {b:Addr},b ≠ d→b ∉ [d]:=fun h z=>h (List.mem_singleton.mp z)
 have to12:∀ {b:Addr}{o:Obj},N0 ≤ b→b ≠ d→s₈.heap.get? b = some o→s₁₂.heap.get? b = some o:=fun hN hb e=>
  st₁₂.st.keep _ _ (st₁₁.st.keep _ _ (st₁₀.st.keep _ _ (st₉.st.keep _ _ e (nd1 hb) (tabs_lt hN)) List.not_mem_nil (tabs_lt hN)) (nd1 hb) (tabs_lt hN)) List.not_mem_nil (tabs_lt hN)
 have P12:=to12 PN Pd (st₈.st.keep _ _ P7 List.not_mem_nil (tabs_lt PN))
 have L12:=st₁₂.st.keep _ _ L11 List.not_mem_nil (tabs_lt LN)
 have d12:=st₁₂.st.keep _ _ d11 List.not_mem_nil (tabs_lt dN)
 refine ex31 N.fn fun fo pm ctv fg fd=>?_
 have fdn:f ≠ d:=fun z=>by
  have e:=st₈.st.keep _ _ d7 List.not_mem_nil (tabs_lt dN)
  rw [← z,fg] at e;cases e;cases fd
 have f12:=to12 fN fdn fg
 have cdd:cd ≠ d:=fun z=>N.cH (z ▸ dH)
 have code12:s₁₂.heap.CodeRec (.ref cd) lamQ:=codeRec_keep N.code fun o e=>to12 N.cN cdd e
 have S12:LS s₁₂.heap Sa (text.map fun c=>S [c]):=hlS₄.at fun o e=>to12 SaN Sad (st₈.st.keep _ _ (st₇.st.keep _ _ (st₆.st.keep _ _ (st₅.st.keep _ _ e List.not_mem_nil (tabs_lt SaN)) List.not_mem_nil (tabs_lt SaN)) (fun z=>by
   rcases wr_mem z with z | ⟨y,hy,e2⟩
   ·have h1:=F₁.ok.ns
    refine ex11 h1 fun mm hm _=>?_
    have hlt:=hm.lt
    rw [← z] at hlt
    rw [← hSa] at hlt
    exact Nat.lt_irrefl _ (Nat.lt_of_lt_of_le hlt st₂.st.size)
   ·have hlt:=F₁.ok.lt _ _ e2
    rw [← hSa] at hlt
    exact Nat.lt_irrefl _ (Nat.lt_of_lt_of_le hlt st₂.st.size)) (tabs_lt SaN)) List.not_mem_nil (tabs_lt SaN))
 refine ex0112 (F₁₁.ok.raw "signs" (.ref Sa) rfl nofun) fun _ c'' hc'' _ hcell11=>?_
 rw [hc] at hc'';cases hc''
 have hcell12:s₁₂.heap.IsCell c (some (.ref Sa)):=cell_step hcell11 st₁₂.st List.not_mem_nil hcN
 refine ex11 hcell12 fun oc12 goc12 doc12=>?_
 refine ex11 S12 fun vsS zq1 hvS=>?_;obtain ⟨nS,eS⟩:=zq1
 have Pc:P ≠ c:=(big c5 geP).symm
 have I₁₃:Inv h₁ (f::P::L::d::Sa::H₁) s₁₂:=I₇.hideSeq I₁₂ N.new f12 fun vs e=>by rw [fd] at e;cases e
 have hX:∀ x ∈ (⟨L,d,P,Sa,c,f,cd⟩:LexA).X,x ∈ f::P::L::d::Sa::H₁:=fun x hx=>by
  simp only [LexA.X,mcI,List.not_mem_nil,or_false] at hx
  rcases hx with rfl | rfl | rfl | rfl | rfl | rfl
  ·exact .tail _ LH
  ·exact .tail _ dH
  ·exact .tail _ PH
  ·exact .tail _ SH
  ·exact .tail _ (.tail _ (.tail _ (.tail _ hcH₁)))
  ·exact .head _
 have hXH:∀ x ∈ (⟨L,d,P,Sa,c,f,cd⟩:LexA).X ++ H,x ∈ f::P::L::d::Sa::H₁:=fun x hx=>by
  rcases List.mem_append.mp hx with hx | hx
  ·exact hX x hx
  ·exact .tail _ (.tail _ (.tail _ (.tail _ (.tail _ (hHin x hx)))))
 refine k ⟨L,d,P,Sa,c,f,cd⟩ s₁₂ ?_ (I₁₃.less (fun x hx=>.inl (hXH x hx)) fun x hx=>I₁₃.hok x (hXH x hx)) (fun x hx=>?_) ?_
 ·have b0:SStep [] s s₄:=(st0.trans (st₂.trans st₃)).up.trans st₄ |>.mono fun y hy=>.inr (by rcases ms hy with rfl;exact hcs')
  have b1:SStep [] s s₇:=((b0.trans (st₅.trans st₆)).up.trans st₇).mono fun y hy=>.inr (by
   rcases wr_mem hy with rfl | ⟨n,_,e⟩
   ·exact hloc
   ·exact hcs _ _ (lookup_mem e))
  have b2:SStep [d] s₇ s₁₂:=(st₈.up.trans st₉).trans ((st₁₀.up.trans st₁₁).trans st₁₂.up)
  exact (b1.up.trans b2).mono fun y hy=>.inr (by rcases ms hy with rfl;exact Nat.le_trans hs5 ged)
 ·simp only [LexA.X,mcI,List.not_mem_nil,or_false] at hx
  rcases hx with rfl | rfl | rfl | rfl | rfl | rfl
  ·exact Nat.le_trans hs5 geL
  ·exact Nat.le_trans hs5 ged
  ·exact Nat.le_trans hs5 geP
  ·exact freshSa
  ·exact hcs'
  ·exact freshf
 ·have g:LexAt ⟨L,d,P,Sa,c,f,cd⟩ 1 text [] s₁₂.heap ((⟨L,d,P,Sa,c,f,cd⟩:LexA).X ++ H):=by
   refine ⟨L12,⟨fun i=>match i with | 0=>hs0 0 | 1=>hs0 1 | 2=>hs0 2 | 3=>hs0 3 | _=>h5,fun i=>match i with | 0=>ts0 0 | 1=>ts0 1 | 2=>ts0 2 | 3=>ts0 3 | 5=>ts0 5 | 6=>ts0 6 | _=>t5,n6,d12⟩,⟨#[],⟨_,P12⟩,fun _ _=>.nil⟩,⟨vsS,⟨nS,eS⟩,hvS⟩,⟨oc12,goc12,doc12⟩,⟨fo,pm,ctv,f12,fd⟩,code12,fun z=>?_,fun x hx=>?_,?_,?_⟩
   ·rcases List.mem_cons.mp (hXH _ z) with z | z
    ·exact N.ne z
    ·exact N.cH z
   ·rcases mc hx with rfl | hx
    ·exact N.cN
    ·exact (I₁₃.hok x (hX x hx)).1
   ·have nLd:=ne_obj L12 d12 (by intro e;cases e)
    have nLP:=ne_obj L12 P12 (by intro e;cases e)
    have nLS:=ne_obj L12 eS (by intro e;cases e)
    have nLc:=ne_obj L12 goc12 (by rw [doc12];intro e;cases e)
    have nLf:=ne_obj L12 f12 (by rw [fd];intro e;cases e)
    have ndc:=ne_obj d12 goc12 (by rw [doc12];intro e;cases e)
    have ndf:=ne_obj d12 f12 (by rw [fd];intro e;cases e)
    have nPf:=ne_obj P12 f12 (by rw [fd];intro e;cases e)
    have nSf:=ne_obj eS f12 (by rw [fd];intro e;cases e)
    have ncf:=ne_obj goc12 f12 (by rw [fd,doc12];intro e;cases e)
    have nPS:P ≠ Sa:=(big Sa5 geP).symm
    simp only [LexA.X,List.nodup_cons,List.mem_cons,List.not_mem_nil,or_false,not_or,not_false_eq_true,List.nodup_nil,and_true]
    exact ⟨⟨nLd,nLP,nLS,nLc,nLf⟩,⟨Pd.symm,Sad.symm,ndc,ndf⟩,⟨nPS,Pc,nPf⟩,⟨hcSa,nSf⟩,ncf⟩
   ·exact ⟨by lia,by simp⟩
  exact g
end
end Mine
namespace Mine
section
variable {α:Type}
noncomputable def kD (f:α→D) (l:List (Nat × α)):List (Str × D):=l.map fun p=>(S [p.1],f p.2)
noncomputable def putK (l:List (Nat × α)) (c:Nat) (x:α):List (Nat × α):=if l.any (fun p=>p.1 == c) then l.map (fun p=>if p.1 == c then (p.1,x) else p) else l ++ [(c,x)]
noncomputable def mergeK (add:α→α→α) (l:List (Nat × α)) (c:Nat) (x:α):List (Nat × α):=match l.lookup c with
 | none=>putK l c x
 | some y=>putK l c (add y x)
theorem S1_beq (a c:Nat):(S [a] == S [c]) = (a == c):=by
 rw [S_beq]
 by_cases h:a = c
 ·subst h;simp
 ·have:¬ [a] = [c]:=fun e=>h (by simpa using e)
  simp [h]
theorem kD_lookup (f:α→D) (c:Nat):∀ l:List (Nat × α),(kD f l).lookup (S [c]) = (l.lookup c).map f
 | []=>rfl
 | (a,x)::l=>by
  show List.lookup (S [c]) ((S [a],f x)::kD f l) = _
  rw [List.lookup_cons,List.lookup_cons,S1_beq]
  cases h:(c == a) with
  | true=>rfl
  | false=>exact kD_lookup f c l
theorem kD_any (f:α→D) (c:Nat) (l:List (Nat × α)):((kD f l).any fun p=>p.1 == S [c]) = l.any fun p=>p.1 == c:=by
 unfold kD
 rw [List.any_map]
 congr 1
 funext p
 exact S1_beq p.1 c
theorem kD_put (f:α→D) (l:List (Nat × α)) (c:Nat) (x:α):dput (kD f l) (S [c]) (f x) = kD f (putK l c x):=by
 unfold dput putK
 rw [kD_any]
 split
 ·unfold kD
  rw [List.map_map,List.map_map]
  refine List.map_congr_left fun p _=>?_
  show (if (S [p.1] == S [c]) = true then (S [p.1],f x) else (S [p.1],f p.2)) = _
  rw [S1_beq]
  simp only [Function.comp]
  cases h:(p.1 == c) <;> simp
 ·simp [kD]
theorem kD_merge (f:α→D) (add:α→α→α) (ha:∀ x y,addD (f x) (f y) = f (add y x)) (l:List (Nat × α)) (c:Nat) (x:α):merge1 (kD f l) (S [c]) (f x) = kD f (mergeK add l c x):=by
 unfold merge1 mergeK dget
 rw [kD_lookup]
 cases h:l.lookup c with
 | none=>exact kD_put f l c x
 | some y=>
  show dput (kD f l) (S [c]) (addD (f x) (f y)) = _
  rw [ha]
  exact kD_put f l c _
structure KOK (sg:List Nat) (l:List (Nat × α)):Prop where
 nd:(l.map (·.1)).Nodup
 sub:∀ c ∈ l.map (·.1),c ∈ sg
theorem KOK.nil {sg:List Nat}:KOK sg ([]:List (Nat × α)):=⟨List.nodup_nil,fun c h=>by cases h⟩
theorem KOK.put {sg:List Nat}{l:List (Nat × α)}(h:KOK sg l) {c:Nat}(hc:c ∈ sg) (x:α):KOK sg (putK l c x):=by
 unfold putK
 split
 ·have e:(l.map (fun p=>if p.1 == c then (p.1,x) else p)).map (·.1) = l.map (·.1):=by
   rw [List.map_map]
   refine List.map_congr_left fun p _=>?_
   simp only [Function.comp]
   split <;> rfl
  exact ⟨by rw [e];exact h.nd,by rw [e];exact h.sub⟩
 ·rename_i q
  rw [List.any_eq_true] at q
  refine ⟨?_,fun d hd=>?_⟩
  ·rw [List.map_append]
   refine List.nodup_append.mpr ⟨h.nd,by simp,?_⟩
   intro a ha b hb e
   simp only [List.map_cons,List.map_nil,List.mem_singleton] at hb
   subst hb;subst e
   refine ex11 (List.mem_map.mp ha) fun p hp e=>?_
   exact q ⟨p,hp,by simp [e]⟩
  ·rw [List.map_append,List.mem_append] at hd
   rcases hd with hd | hd
   ·exact h.sub d hd
   ·simp at hd;subst hd;exact hc
theorem KOK.merge {sg:List Nat}{l:List (Nat × α)}(h:KOK sg l) {add:α→α→α}{c:Nat}(hc:c ∈ sg) (x:α):KOK sg (mergeK add l c x):=by
 unfold mergeK
 split
 ·exact h.put hc _
 ·exact h.put hc _
theorem nodup_len {sg:List Nat}:∀ {l:List Nat},l.Nodup→(∀ c ∈ l,c ∈ sg)→l.length ≤ sg.length:=by
 intro l
 induction l generalizing sg with
 | nil=>intro _ _;exact Nat.zero_le _
 | cons a l ih=>
  intro hn hs
  have ha:a ∈ sg:=hs a (.head _)
  rw [List.nodup_cons] at hn
  have:=ih (sg:=sg.erase a) hn.2 fun c hc=>(List.mem_erase_of_ne (fun e:c = a=>hn.1 (by rw [← e];exact hc))).mpr (hs c (.tail _ hc))
  rw [List.length_erase_of_mem ha] at this
  have hpos:=List.length_pos_of_mem ha
  simp only [List.length_cons]
  lia
theorem KOK.len {sg:List Nat}{l:List (Nat × α)}(h:KOK sg l):l.length ≤ sg.length:=by
 have:=nodup_len h.nd h.sub
 simpa using this
theorem KOK.keys {sg:List Nat}{l:List (Nat × α)}(h:KOK sg l) (f:α→D):((kD f l).map (·.1)).Nodup:=by
 have e:(kD f l).map (·.1) = (l.map (·.1)).map fun c=>S [c]:=by simp [kD,List.map_map,Function.comp_def]
 rw [e]
 have inj:∀ {l:List Nat},l.Nodup→(l.map fun c=>S [c]).Nodup:=by
  intro l
  induction l with
  | nil=>intro _;exact List.nodup_nil
  | cons a l ih=>
   intro h
   rw [List.nodup_cons] at h
   rw [List.map_cons,List.nodup_cons]
   refine ⟨fun q=>?_,ih h.2⟩
   refine ex11 (List.mem_map.mp q) fun b hb e=>?_
   have:=S_inj.mp e
   simp only [List.cons.injEq,and_true] at this
   exact h.1 (this ▸ hb)
 exact inj h.nd
end
abbrev St4:=Int × Int × Int × Int
noncomputable def addT (t:St4) (len cost:Nat):St4:=(1 + t.1,(len:Int) + t.2.1,(cost:Int) + t.2.2.1,((len * cost:Nat):Int) + t.2.2.2)
noncomputable def fO (x:Int):D:=.int x
noncomputable def fW (p:Int × Int):D:=.tuple [.int p.1,.int p.2]
noncomputable def stD {α:Type}(f:α→D) (t:St4) (l:List (Nat × α)):D:=.tuple [.int t.1,.int t.2.1,.int t.2.2.1,.int t.2.2.2,dictD (kD f l)]
structure PS where
 ot:St4
 oc:List (Nat × Int)
 xt:St4
 xc:List (Nat × (Int × Int))
 yt:St4
 yc:List (Nat × (Int × Int))
noncomputable def addI (y x:Int):Int:=y + x
noncomputable def addP (y x:Int × Int):Int × Int:=(x.1 + y.1,x.2 + y.2)
theorem fO_add (x y:Int):addD (fO x) (fO y) = fO (addI y x):=rfl
theorem fW_add (x y:Int × Int):addD (fW x) (fW y) = fW (addP y x):=rfl
noncomputable def PS.m (p:PS):List (Str × D):=[("open",stD fO p.ot p.oc),("one",stD fW p.xt p.xc),("two",stD fW p.yt p.yc)]
noncomputable def PS.open' (p:PS) (len cost c:Nat):PS:={ p with ot:=addT p.ot len cost,oc:=mergeK addI p.oc c (cost:Int) }
noncomputable def PS.one' (p:PS) (len cost c:Nat):PS:={ p with xt:=addT p.xt len cost,xc:=mergeK addP p.xc c (1,(cost:Int)) }
noncomputable def PS.two' (p:PS) (len cost c:Nat):PS:={ p with yt:=addT p.yt len cost,yc:=mergeK addP p.yc c (1,(cost:Int)) }
structure POK (sg:List Nat) (p:PS):Prop where
 o:KOK sg p.oc
 x:KOK sg p.xc
 y:KOK sg p.yc
noncomputable def pStep (u v:List Nat) (len cost:Nat) (w:List Nat) (s:PS × List (List Nat)) (c:Nat):PS × List (List Nat):=
 if u <:+ w ++ [c] then (s.1.one' len cost c,s.2) else if v <:+ w ++ [c] then (s.1.two' len cost c,s.2) else (s.1.open' len cost c,s.2 ++ [w ++ [c]])
noncomputable def pWord (sg u v:List Nat) (len cost:Nat) (s:PS × List (List Nat)) (w:List Nat):PS × List (List Nat):=sg.foldl (pStep u v len cost w) s
noncomputable def pRound (sg u v:List Nat) (len cost:Nat) (p:PS) (q:List (List Nat)):PS × List (List Nat):=q.foldl (pWord sg u v len cost) (p,[])
noncomputable def pPlay (sg u v:List Nat) (R base:Nat):Nat→PS × List (List Nat)
 | 0=>(⟨(1,0,((base ^ R:Nat):Int),0),[],(0,0,0,0),[],(0,0,0,0),[]⟩,[[]])
 | n + 1=>pRound sg u v (n + 1) (base ^ (R - (n + 1))) (pPlay sg u v R base n).1 (pPlay sg u v R base n).2
theorem POK.step {sg u v:List Nat}{len cost:Nat}{w:List Nat}{s:PS × List (List Nat)}{c:Nat}(h:POK sg s.1) (hc:c ∈ sg):POK sg (pStep u v len cost w s c).1:=by
 unfold pStep
 split
 ·exact ⟨h.o,h.x.merge hc _,h.y⟩
 ·split
  ·exact ⟨h.o,h.x,h.y.merge hc _⟩
  ·exact ⟨h.o.merge hc _,h.x,h.y⟩
theorem foldl_inv {α β:Type}{f:β→α→β}{I:β→Prop}{l:List α}{b:β}(h:I b) (k:∀ b a,a ∈ l→I b→I (f b a)):I (l.foldl f b):=by
 induction l generalizing b with
 | nil=>exact h
 | cons a l ih=>exact ih (k b a (.head _) h) fun b c hc=>k b c (.tail _ hc)
theorem POK.word {sg u v:List Nat}{len cost:Nat}{w:List Nat}{s:PS × List (List Nat)}(h:POK sg s.1):POK sg (pWord sg u v len cost s w).1:=
 foldl_inv (I:=fun s:PS × List (List Nat)=>POK sg s.1) h fun b a ha hb=>POK.step hb ha
theorem POK.round {sg u v:List Nat}{len cost:Nat}{p:PS}{q:List (List Nat)}(h:POK sg p):POK sg (pRound sg u v len cost p q).1:=
 foldl_inv (I:=fun s:PS × List (List Nat)=>POK sg s.1) h fun b a _ hb=>POK.word hb
theorem POK.play {sg u v:List Nat}{R base:Nat}:∀ n,POK sg (pPlay sg u v R base n).1
 | 0=>⟨KOK.nil,KOK.nil,KOK.nil⟩
 | n + 1=>POK.round (POK.play n)
theorem step_len {sg u v:List Nat}{len cost:Nat}{w:List Nat}{s:PS × List (List Nat)}{c:Nat}{n:Nat}(hw:w.length = n) (h:∀ z ∈ s.2,z.length = n + 1):∀ z ∈ (pStep u v len cost w s c).2,z.length = n + 1:=by
 unfold pStep
 split
 ·exact h
 ·split
  ·exact h
  ·intro z hz
   rcases List.mem_append.mp hz with hz | hz
   ·exact h z hz
   ·rw [List.mem_singleton.mp hz];simp [hw]
theorem play_len {sg u v:List Nat}{R base:Nat}:∀ n,∀ z ∈ (pPlay sg u v R base n).2,z.length = n
 | 0=>by intro z hz;rw [List.mem_singleton.mp hz];rfl
 | n + 1=>by
  refine foldl_inv (I:=fun s:PS × List (List Nat)=>∀ z ∈ s.2,z.length = n + 1) (by simp) fun b w hw hb=>?_
  exact foldl_inv (I:=fun s:PS × List (List Nat)=>∀ z ∈ s.2,z.length = n + 1) hb fun b c _ hb=>step_len (sg:=sg) (play_len n w hw) hb
theorem word_count {sg u v:List Nat}{len cost:Nat}{w:List Nat}(s:PS × List (List Nat)):(pWord sg u v len cost s w).2.length ≤ s.2.length + sg.length:=by
 unfold pWord
 induction sg generalizing s with
 | nil=>simp
 | cons c l ih=>
  rw [List.foldl_cons]
  refine Nat.le_trans (ih _) ?_
  have:(pStep u v len cost w s c).2.length ≤ s.2.length + 1:=by
   unfold pStep
   split
   ·simp
   ·split
    ·simp
    ·simp
  simp only [List.length_cons];lia
theorem fold_count {sg u v:List Nat}{len cost:Nat}:∀ (q:List (List Nat)) (s:PS × List (List Nat)),(q.foldl (pWord sg u v len cost) s).2.length ≤ s.2.length + q.length * sg.length
 | [],s=>by simp
 | w::q,s=>by
  rw [List.foldl_cons]
  refine Nat.le_trans (fold_count q _) ?_
  have:=word_count (sg:=sg) (u:=u) (v:=v) (len:=len) (cost:=cost) (w:=w) s
  simp only [List.length_cons,Nat.add_mul,Nat.one_mul];lia
theorem play_count {sg u v:List Nat}{R base:Nat}:∀ n,(pPlay sg u v R base n).2.length ≤ sg.length ^ n
 | 0=>by simp [pPlay]
 | n + 1=>by
  refine Nat.le_trans (fold_count _ _) ?_
  simp only [List.length_nil,Nat.zero_add,Nat.pow_succ]
  exact Nat.mul_le_mul_right _ (play_count n)
end Mine
namespace Mine
theorem foldl_snoc {α β:Type}{f:β→α→β}{I:β→List α→Prop}(h:∀ b l a,I b l→I (f b a) (l ++ [a])):∀ (l pre:List α) (b:β),I b pre→I (l.foldl f b) (pre ++ l)
 | [],pre,b,h0=>by simpa using h0
 | a::l,pre,b,h0=>by
  have:=foldl_snoc h l (pre ++ [a]) (f b a) (h b pre a h0)
  simpa using this
theorem putK_lookup {α:Type}(c d:Nat) (x:α):∀ l:List (Nat × α),(putK l c x).lookup d = if d = c then some x else l.lookup d:=by
 intro l
 unfold putK
 by_cases h:(l.any fun p=>p.1 == c) = true
 ·rw [if_pos h]
  induction l with
  | nil=>simp at h
  | cons p l ih=>
   obtain ⟨a,y⟩:=p
   rw [List.map_cons]
   by_cases e:a = c
   ·subst e
    simp only [beq_self_eq_true,if_true]
    rw [List.lookup_cons,List.lookup_cons]
    by_cases hd:d = a
    ·subst hd;simp
    ·have h1:(d == a) = false:=by simpa using hd
     rw [h1,if_neg hd]
     by_cases h2:(l.any fun p=>p.1 == a) = true
     ·rw [ih h2,if_neg hd]
     ·have h2':∀ p ∈ l,(p.1 == a) = false:=by
       intro p hp
       cases q:p.1 == a with
       | false=>rfl
       | true=>exact absurd (List.any_eq_true.mpr ⟨p,hp,q⟩) h2
      have e2:l.map (fun p=>if (p.1 == a) = true then (p.1,x) else p) = l:=by
       conv=>rhs;rw [← List.map_id l]
       exact List.map_congr_left fun p hp=>by rw [h2' p hp];rfl
      rw [e2]
   ·have e1:(a == c) = false:=by simpa using e
    rw [List.any_cons,e1,Bool.false_or] at h
    simp only [e1]
    rw [show (if false = true then (a,x) else (a,y)) = (a,y) from rfl,List.lookup_cons,List.lookup_cons,ih h]
    by_cases hd:d = a
    ·subst hd;simp [e]
    ·have h1:(d == a) = false:=by simpa using hd
     rw [h1]
 ·rw [if_neg h]
  have h2:∀ p ∈ l,(p.1 == c) = false:=by
   intro p hp
   cases q:p.1 == c with
   | false=>rfl
   | true=>exact absurd (List.any_eq_true.mpr ⟨p,hp,q⟩) h
  clear h
  induction l with
  | nil=>by_cases hd:d = c <;> simp [hd]
  | cons p l ih=>
   obtain ⟨a,y⟩:=p
   have e1:=h2 _ (.head _)
   rw [List.cons_append,List.lookup_cons,List.lookup_cons,ih fun p hp=>h2 p (.tail _ hp)]
   by_cases hd:d = a
   ·subst hd
    have:¬ d = c:=by simpa using e1
    simp [this]
   ·have h1:(d == a) = false:=by simpa using hd
    rw [h1]
noncomputable def valI (l:List (Nat × Int)) (c:Nat):Int:=(l.lookup c).getD 0
theorem merge_lookup (l:List (Nat × Int)) (c d:Nat) (x:Int):(mergeK addI l c x).lookup d = if d = c then some (valI l c + x) else l.lookup d:=by
 unfold mergeK valI
 cases h:l.lookup c with
 | none=>rw [putK_lookup];simp
 | some y=>rw [putK_lookup];rfl
theorem merge_val (l:List (Nat × Int)) (c d:Nat) (x:Int):valI (mergeK addI l c x) d = valI l d + if d = c then x else 0:=by
 unfold valI
 rw [merge_lookup]
 by_cases h:d = c
 ·subst h;simp [valI]
 ·rw [if_neg h,if_neg h];simp
noncomputable def solo (c m:Nat) (x:Nat):List (Nat × (Int × Int)):=if m = 0 then [] else [(c,((m:Int),(x:Int)))]
theorem solo_merge {c m x cost:Nat}(h:m = 0→x = 0):mergeK addP (solo c m x) c (1,(cost:Int)) = solo c (m + 1) (x + cost):=by
 unfold solo
 by_cases e:m = 0
 ·subst e
  have:=h rfl
  subst this
  simp [mergeK,putK]
 ·rw [if_neg e,if_neg (by lia)]
  simp [mergeK,putK,addP]
  lia
noncomputable def addTs (t:St4) (len cost m:Nat):St4:=(((m:Nat):Int) + t.1,((m * len:Nat):Int) + t.2.1,((m * cost:Nat):Int) + t.2.2.1,((m * (len * cost):Nat):Int) + t.2.2.2)
theorem addTs_zero (t:St4) (len cost:Nat):addTs t len cost 0 = t:=by simp [addTs]
theorem addTs_succ (t:St4) (len cost m:Nat):addT (addTs t len cost m) len cost = addTs t len cost (m + 1):=by
 unfold addT addTs
 simp only [Nat.succ_mul,Int.natCast_add]
 refine Prod.ext ?_ (Prod.ext ?_ (Prod.ext ?_ ?_)) <;> dsimp only <;> lia
noncomputable def opB (u v z:List Nat):Bool:=!decide (u <:+ z) && !decide (v <:+ z)
noncomputable def twB (u v z:List Nat):Bool:=!decide (u <:+ z) && decide (v <:+ z)
noncomputable def pZ (u v:List Nat) (len cost:Nat) (s:PS × List (List Nat)) (z:List Nat):PS × List (List Nat):=
 if u <:+ z then (s.1.one' len cost (z.getLastD 0),s.2) else if v <:+ z then (s.1.two' len cost (z.getLastD 0),s.2) else (s.1.open' len cost (z.getLastD 0),s.2 ++ [z])
theorem pRound_flat (sg u v:List Nat) (len cost:Nat) (p:PS) (q:List (List Nat)):pRound sg u v len cost p q = (q.flatMap fun w=>sg.map fun c=>w ++ [c]).foldl (pZ u v len cost) (p,[]):=by
 unfold pRound
 generalize (p,([]:List (List Nat))) = s
 induction q generalizing s with
 | nil=>rfl
 | cons w q ih=>
  rw [List.foldl_cons,List.flatMap_cons,List.foldl_append,ih]
  congr 1
  unfold pWord
  rw [List.foldl_map]
  congr 1
  funext s c
  simp [pStep,pZ]
theorem last_suf {x z:List Nat}(hx:x ≠ []) (h:x <:+ z):z.getLastD 0 = x.getLastD 0:=by
 obtain ⟨t,rfl⟩:=h
 rw [List.getLastD_eq_getLast?,List.getLastD_eq_getLast?,List.getLast?_append]
 cases q:x.getLast? with
 | none=>exact absurd (List.getLast?_eq_none_iff.mp q) hx
 | some y=>rfl
structure Rnd (u v:List Nat) (len cost:Nat) (p:PS) (mx xx my yy:Nat) (s:PS × List (List Nat)) (zs:List (List Nat)):Prop where
 left:s.2 = zs.filter (opB u v)
 ot:s.1.ot = addTs p.ot len cost (zs.countP (opB u v))
 xt:s.1.xt = addTs p.xt len cost (zs.countP fun z=>decide (u <:+ z))
 yt:s.1.yt = addTs p.yt len cost (zs.countP (twB u v))
 oc:∀ c,valI s.1.oc c = valI p.oc c + ((zs.countP (fun z=>opB u v z && decide (z.getLastD 0 = c)) * cost:Nat):Int)
 op:∀ c x,s.1.oc.lookup c = some x→0 < x
 xc:s.1.xc = solo (u.getLastD 0) (mx + zs.countP fun z=>decide (u <:+ z)) (xx + (zs.countP fun z=>decide (u <:+ z)) * cost)
 yc:s.1.yc = solo (v.getLastD 0) (my + zs.countP (twB u v)) (yy + zs.countP (twB u v) * cost)
theorem valI_nonneg {l:List (Nat × Int)}(h:∀ c x,l.lookup c = some x→0 < x) (c:Nat):0 ≤ valI l c:=by
 unfold valI
 cases q:l.lookup c with
 | none=>exact Int.le_refl _
 | some x=>exact Int.le_of_lt (h c x q)
theorem Rnd.step {u v:List Nat}{len cost:Nat}{p:PS}{mx xx my yy:Nat}(hc:0 < cost) (hu:u ≠ []) (hv:v ≠ []) (hx:mx = 0→xx = 0) (hy:my = 0→yy = 0) (s:PS × List (List Nat)) (zs:List (List Nat)) (z:List Nat) (h:Rnd u v len cost p mx xx my yy s zs):Rnd u v len cost p mx xx my yy (pZ u v len cost s z) (zs ++ [z]):=by
 obtain ⟨h1,h2,h3,h4,h5,h6,h7,h8⟩:=h
 unfold pZ
 by_cases a:u <:+ z
 ·rw [if_pos a]
  have o:opB u v z = false:=by simp [opB,a]
  have t:twB u v z = false:=by simp [twB,a]
  refine ⟨?_,?_,?_,?_,fun c=>?_,h6,?_,?_⟩
  ·simp [h1,o]
  ·simp [PS.one',h2,o]
  ·simp [PS.one',h3,a,addTs_succ]
  ·simp [PS.one',h4,t]
  ·simp [PS.one',h5,o]
  ·simp only [PS.one',h7,last_suf hu a,List.countP_append,List.countP_singleton,a,decide_true,if_true]
   rw [solo_merge fun q=>?_]
   ·rw [Nat.add_assoc,Nat.add_mul,Nat.one_mul,Nat.add_assoc]
   ·have e1:mx = 0:=by lia
    have e2:(zs.countP fun z=>decide (u <:+ z)) = 0:=by lia
    rw [hx e1,e2];simp
  ·simp [PS.one',h8,t]
 ·rw [if_neg a]
  by_cases b:v <:+ z
  ·rw [if_pos b]
   have o:opB u v z = false:=by simp [opB,b]
   have t:twB u v z = true:=by simp [twB,a,b]
   refine ⟨?_,?_,?_,?_,fun c=>?_,h6,?_,?_⟩
   ·simp [h1,o]
   ·simp [PS.two',h2,o]
   ·simp [PS.two',h3,a]
   ·simp [PS.two',h4,t,addTs_succ]
   ·simp [PS.two',h5,o]
   ·simp [PS.two',h7,a]
   ·simp only [PS.two',h8,last_suf hv b,List.countP_append,List.countP_singleton,t,if_true]
    rw [solo_merge fun q=>?_]
    ·rw [Nat.add_assoc,Nat.add_mul,Nat.one_mul,Nat.add_assoc]
    ·have e1:my = 0:=by lia
     have e2:zs.countP (twB u v) = 0:=by lia
     rw [hy e1,e2];simp
  ·rw [if_neg b]
   have o:opB u v z = true:=by simp [opB,a,b]
   have t:twB u v z = false:=by simp [twB,b]
   refine ⟨?_,?_,?_,?_,fun c=>?_,fun c x q=>?_,?_,?_⟩
   ·simp [h1,o]
   ·simp [PS.open',h2,o,addTs_succ]
   ·simp [PS.open',h3,a]
   ·simp [PS.open',h4,t]
   ·simp only [PS.open',merge_val,h5,List.countP_append,List.countP_singleton,o,Bool.true_and,decide_eq_true_iff]
    by_cases e:z.getLastD 0 = c
    ·simp only [e,if_true,Nat.add_mul,Nat.one_mul,Int.natCast_add];lia
    ·have e':¬ c = z.getLastD 0:=fun q=>e q.symm
     simp only [e,e',if_false,Nat.add_zero,Int.add_zero]
   ·simp only [PS.open'] at q
    rw [merge_lookup] at q
    by_cases e:c = z.getLastD 0
    ·rw [if_pos e] at q
     cases q
     have:=valI_nonneg h6 (z.getLastD 0)
     lia
    ·rw [if_neg e] at q;exact h6 c x q
   ·simp [PS.open',h7,a]
   ·simp [PS.open',h8,t]
end Mine
namespace Mine
theorem flt_next (sg u v:List Nat) (Q:List Nat→Bool):∀ rows:List (List Nat),((rows.filter (fre u v)).flatMap fun w=>sg.map fun c=>w ++ [c]).filter Q = (rows.flatMap fun w=>sg.map fun c=>w ++ [c]).filter fun z=>fre u v z.dropLast && Q z
 | []=>rfl
 | w::rows=>by
  have e:∀ l:List Nat,(l.map fun c=>w ++ [c]).filter (fun z=>fre u v z.dropLast && Q z) = if fre u v w then (l.map fun c=>w ++ [c]).filter Q else []:=by
   intro l
   induction l with
   | nil=>simp
   | cons c l ih=>
    rw [List.map_cons,List.filter_cons,List.filter_cons,ih,List.dropLast_concat]
    cases fre u v w <;> cases Q (w ++ [c]) <;> simp
  rw [List.flatMap_cons,List.filter_append,e,← flt_next sg u v Q rows,List.filter_cons]
  cases fre u v w with
  | true=>rw [if_pos rfl,if_pos rfl,List.flatMap_cons,List.filter_append]
  | false=>simp
theorem cnt_next (sg u v:List Nat) (Q:List Nat→Bool) (n:Nat):((freeWords sg u v n).flatMap fun w=>sg.map fun c=>w ++ [c]).countP Q = cn sg (n + 1) fun z=>fre u v z.dropLast && Q z:=by
 unfold cn
 rw [freeRows,List.countP_eq_length_filter,List.countP_eq_length_filter,← flt_next]
 rfl
theorem open_snoc {u v z:List Nat}{n:Nat}(hz:z.length = n + 1):(fre u v z.dropLast && opB u v z) = fre u v z:=by
 refine ex21 (snoc_of hz) fun w c zq1 _=>?_;subst zq1
 have i1:=infix_snoc (x:=u) (w:=w) (c:=c)
 have i2:=infix_snoc (x:=v) (w:=w) (c:=c)
 rw [List.dropLast_concat]
 unfold fre opB
 by_cases a1:u <:+: w <;> by_cases a2:v <:+: w <;> by_cases a3:u <:+ w ++ [c] <;> by_cases a4:v <:+ w ++ [c] <;> simp_all
theorem twB_eq {u v:List Nat}(h:UV u v) (z:List Nat):twB u v z = decide (v <:+ z):=by
 unfold twB
 by_cases b:v <:+ z
 ·have:¬ u <:+ z:=fun a=>h.not a b
  simp [this,b]
 ·simp [b]
noncomputable def eN (sg u v:List Nat) (c n:Nat):Nat:=cn sg n fun z=>fre u v z && decide (z.getLastD 0 = c)
theorem last_split {sg u v:List Nat}{c:Nat}(hn:sg.Nodup) (h:UV u v) (hc:c ∈ sg) (n:Nat) :
  fN sg u v n = eN sg u v c (n + 1) + ((if c = u.getLastD 0 then wN sg u v u (n + 1) else 0) + (if c = v.getLastD 0 then wN sg u v v (n + 1) else 0)):=by
 have e0:fN sg u v n = cn sg (n + 1) fun z=>fre u v z.dropLast && decide (z.getLastD 0 = c):=by
  rw [cn_last hn hc fun w d q=>?_]
  ·refine cn_congr fun w _=>?_
   simp
  ·simp at q
   exact q.2
 have w0:∀ x:List Nat,x ≠ []→(if c = x.getLastD 0 then wN sg u v x (n + 1) else 0) = cn sg (n + 1) fun z=>winB u v x z && decide (z.getLastD 0 = c):=by
  intro x hx
  by_cases e:c = x.getLastD 0
  ·rw [if_pos e]
   refine cn_congr fun z _=>?_
   unfold winB
   by_cases q:x <:+ z
   ·rw [last_suf hx q,← e,decide_eq_true rfl,Bool.and_true]
   ·simp [q]
  ·rw [if_neg e]
   refine (cn_none fun z _=>?_).symm
   unfold winB
   by_cases q:x <:+ z
   ·have q2:=last_suf hx q
    have:¬ z.getLastD 0 = c:=fun q3=>e (by rw [← q3,q2])
    rw [decide_eq_false this,Bool.and_false]
   ·simp [q]
 rw [e0,w0 u h.pos,w0 v h.pos']
 unfold eN
 rw [← cn_add (P:=fun z=>(winB u v u z || winB u v v z) && decide (z.getLastD 0 = c)),← cn_add]
 ·intro z hz
  refine ex21 (snoc_of hz) fun w d zq1 _=>?_;subst zq1
  have:=one_more (w:=w) (c:=d) h
  rw [List.dropLast_concat,winB_snoc,winB_snoc]
  have h3:¬ (u <:+ w ++ [d]∧v <:+ w ++ [d]):=fun q=>h.not q.1 q.2
  cases q:decide ((w ++ [d]).getLastD 0 = c) with
  | false=>simp only [Bool.and_false];rfl
  | true=>
   simp only [Bool.and_true]
   rw [this]
   by_cases a3:u <:+ w ++ [d] <;> by_cases a4:v <:+ w ++ [d] <;> simp_all
 ·intro z hz
  refine ex21 (snoc_of hz) fun w d zq1 _=>?_;subst zq1
  rw [winB_snoc,winB_snoc]
  have h3:¬ (u <:+ w ++ [d]∧v <:+ w ++ [d]):=fun q=>h.not q.1 q.2
  cases q:decide ((w ++ [d]).getLastD 0 = c) with
  | false=>simp only [Bool.and_false];rfl
  | true=>
   simp only [Bool.and_true]
   by_cases a3:u <:+ w ++ [d] <;> by_cases a4:v <:+ w ++ [d] <;> simp_all
noncomputable def colT (q R:Nat) (g:Nat→Nat) (n:Nat):St4:=(((sm g (n + 1):Nat):Int),((sm (fun i=>i * g i) (n + 1):Nat):Int),((sm (fun i=>g i * q ^ (R - i)) (n + 1):Nat):Int),((sm (fun i=>i * g i * q ^ (R - i)) (n + 1):Nat):Int))
theorem colT_succ (q R:Nat) (g:Nat→Nat) (n:Nat):addTs (colT q R g n) (n + 1) (q ^ (R - (n + 1))) (g (n + 1)) = colT q R g (n + 1):=by
 have e:∀ h:Nat→Nat,sm h (n + 1 + 1) = sm h (n + 1) + h (n + 1):=fun _=>rfl
 unfold colT addTs
 simp only [e]
 refine Prod.ext ?_ (Prod.ext ?_ (Prod.ext ?_ ?_)) <;> dsimp only
 ·lia
 ·rw [Nat.mul_comm (g (n + 1))];lia
 ·lia
 ·rw [← Nat.mul_assoc,Nat.mul_comm (g (n + 1))];lia
structure Pl (sg u v:List Nat) (R q n:Nat) (s:PS × List (List Nat)):Prop where
 left:s.2 = freeWords sg u v n
 ot:s.1.ot = colT q R (fN sg u v) n
 xt:s.1.xt = colT q R (wN sg u v u) n
 yt:s.1.yt = colT q R (wN sg u v v) n
 oc:∀ c,valI s.1.oc c = ((sm (fun i=>eN sg u v c (i + 1) * q ^ (R - (i + 1))) n:Nat):Int)
 op:∀ c x,s.1.oc.lookup c = some x→0 < x
 xc:s.1.xc = solo (u.getLastD 0) (sm (wN sg u v u) (n + 1)) (sm (fun i=>wN sg u v u i * q ^ (R - i)) (n + 1))
 yc:s.1.yc = solo (v.getLastD 0) (sm (wN sg u v v) (n + 1)) (sm (fun i=>wN sg u v v i * q ^ (R - i)) (n + 1))
theorem sm_zero_mul {g h:Nat→Nat}:∀ {n:Nat},sm g n = 0→sm (fun i=>g i * h i) n = 0
 | 0,_=>rfl
 | n + 1,e=>by
  have e':sm g n + g n = 0:=e
  have h1:g n = 0:=by lia
  have h2:sm g n = 0:=by lia
  rw [sm,sm_zero_mul h2,h1];simp
theorem play_is {sg u v:List Nat}{R q:Nat}(hq:0 < q) (h:UV u v):∀ n,Pl sg u v R q n (pPlay sg u v R q n)
 | 0=>by
  have f0:=free_zero (sg:=sg) h
  have a0:wN sg u v u 0 = 0:=win_short (List.length_pos_iff.mpr h.pos)
  have b0:wN sg u v v 0 = 0:=win_short (List.length_pos_iff.mpr h.pos')
  refine ⟨?_,?_,?_,?_,fun c=>?_,fun c x e=>(by cases e),?_,?_⟩
  ·have h1:¬ u <:+: []:=fun q=>h.pos (List.infix_nil.mp q)
   have h2:¬ v <:+: []:=fun q=>h.pos' (List.infix_nil.mp q)
   simp [pPlay,freeWords,freeRows,h1,h2]
  ·simp [pPlay,colT,sm,f0]
  ·simp [pPlay,colT,sm,a0]
  ·simp [pPlay,colT,sm,b0]
  ·rfl
  ·simp [pPlay,solo,sm,a0]
  ·simp [pPlay,solo,sm,b0]
 | n + 1=>by
  obtain ⟨h1,h2,h3,h4,h5,h6,h7,h8⟩:=play_is hq h n
  rw [pPlay]
  generalize pPlay sg u v R q n = s at *
  rw [pRound_flat,h1]
  have hc:0 < q ^ (R - (n + 1)):=Nat.pow_pos hq
  have I:=foldl_snoc (Rnd.step (len:=n + 1) (p:=s.1) (mx:=sm (wN sg u v u) (n + 1)) (xx:=sm (fun i=>wN sg u v u i * q ^ (R - i)) (n + 1)) (my:=sm (wN sg u v v) (n + 1)) (yy:=sm (fun i=>wN sg u v v i * q ^ (R - i)) (n + 1)) hc h.pos h.pos' sm_zero_mul sm_zero_mul)
   ((freeWords sg u v n).flatMap fun w=>sg.map fun c=>w ++ [c]) [] (s.1,[]) ⟨rfl,(addTs_zero _ _ _).symm,(addTs_zero _ _ _).symm,(addTs_zero _ _ _).symm,fun c=>by simp,h6,by simpa using h7,by simpa using h8⟩
  rw [List.nil_append] at I
  have eo:((freeWords sg u v n).flatMap fun w=>sg.map fun c=>w ++ [c]).countP (opB u v) = fN sg u v (n + 1):=by
   rw [cnt_next]
   exact cn_congr fun z hz=>open_snoc hz
  have ex:(((freeWords sg u v n).flatMap fun w=>sg.map fun c=>w ++ [c]).countP fun z=>decide (u <:+ z)) = wN sg u v u (n + 1):=cnt_next _ _ _ _ _
  have ey:((freeWords sg u v n).flatMap fun w=>sg.map fun c=>w ++ [c]).countP (twB u v) = wN sg u v v (n + 1):=by
   rw [cnt_next]
   refine cn_congr fun z hz=>?_
   rw [twB_eq h];rfl
  have ec:∀ c,(((freeWords sg u v n).flatMap fun w=>sg.map fun c=>w ++ [c]).countP fun z=>opB u v z && decide (z.getLastD 0 = c)) = eN sg u v c (n + 1):=by
   intro c
   rw [cnt_next]
   refine cn_congr fun z hz=>?_
   rw [← Bool.and_assoc,open_snoc hz]
  refine ⟨?_,?_,?_,?_,fun c=>?_,I.op,?_,?_⟩
  ·rw [I.left]
   unfold freeWords
   rw [freeRows]
   refine (flt_next sg u v (opB u v) (freeRows sg n)).trans ?_
   refine List.filter_congr fun z hz=>?_
   exact open_snoc (freeRows_len sg (n + 1) z hz)
  ·rw [I.ot,eo,h2];exact colT_succ _ _ _ _
  ·rw [I.xt,ex,h3];exact colT_succ _ _ _ _
  ·rw [I.yt,ey,h4];exact colT_succ _ _ _ _
  ·rw [I.oc,ec,h5];exact (Int.natCast_add _ _).symm
  ·rw [I.xc,ex];rfl
  ·rw [I.yc,ey];rfl
end Mine
namespace Mine
variable [Wd]
section
variable {h₁:Gl}{r:Nat}{sc:Sc}{vars:List (Str × D)}{X:List Addr}
theorem CallR.of_defC {st:Stmt}{q:Str}{f c:Addr}{name:Str}{params:Arguments}{body:List Stmt}{scope:Scope}{xs:List Str}{ds:List D}{d:D}{P P':Rp X}(hf:Top1 h₁→FnAt h₁.h st q f c) (hd:DefOf st name params body scope)
  (hb:∀ m (vs:List Value),vs.length = ds.length→bindArgs (fdOf st q c m) ⟨vs,[]⟩ = pure (xs.zip vs)) (hkind:∀ x ∈ xs,scope.names.lookup x = some .local ∨ scope.names.lookup x = some .cell)
  (hbody:SXR h₁ r ⟨scope,[]⟩ (xs.zip ds).reverse X P body fun o P₂=>P₂ = P'∧o = .ret d) (hl:f < N0:=by decide) (ht:f ∉ tabs:=by decide) (hlc:c < N0:=by decide) (htc:c ∉ tabs:=by decide) (hcal:¬ isCal scope = true:=by decide):CallR h₁ (r + 1) (.ref f) ds X P d P':=by
 intro prog w A s H vs Q E T R I x hX pk k
 refine enterC T R I x (hf T) hd hb hkind (fun env s₁ H₁ R₁ ec _ _ _ _ _ st0 I₁ F₁ hsub hHin hloc hcs=>?_) hl ht hlc htc (fun h=>absurd h hcal)
 have big:∀ {b:Addr},b ∈ X→¬ s.heap.objs.size ≤ b:=fun hb q=>Nat.lt_irrefl _ (Nat.lt_of_lt_of_le (I.hok _ (hX _ hb)).2 q)
 have W:Own env X H₁:=⟨fun y hy=>hHin y (hX y hy),fun q=>big q hloc,fun n c' e q=>big q (hcs _ _ (lookup_mem e))⟩
 have p₁:P.ok s₁.heap H₁:=P.stab pk st0.st (fun _ q=>nomatch q) hsub
 refine hbody prog w _ env s₁ H₁ _ _ T R₁ I₁ F₁ W p₁ fun o P₂ fl s' ho st I₂ p₂ ok=>?_
 obtain ⟨rfl,rfl⟩:=ho
 have hw:SStep X s s':=by
  refine (st0.up.trans st).mono fun y hy=>?_
  rcases List.mem_append.mp hy with hy | hy
  ·rcases wr_mem hy with rfl | ⟨n,hm,e⟩
   ·exact .inr hloc
   ·exact .inr (hcs _ _ (lookup_mem e))
  ·exact .inl hy
 have I₃:Inv h₁ H s':=I₂.less (fun a q=>.inl (hHin a q)) fun a q=>I₂.hok a (hHin a q)
 cases fl <;> first | (exact ok.elim) | skip
 have hv:V s'.heap H₁ _ d:=ok
 exact k _ _ hw I₃ (P₂.less p₂ fun a q=>.inl (hHin a q)) (hv.less fun a q=>.inl (hHin a q))
noncomputable def PV (core vs:List (Str × D)):Prop:=∀ k d,core.lookup k = some d→vs.lookup k = some d
theorem PV.refl {vs:List (Str × D)}:PV vs vs:=fun _ _ h=>h
theorem PV.get {core vs:List (Str × D)}(h:PV core vs) {k:Str}{d:D}(e:core.lookup k = some d):Has vs k d:=h k d e
theorem PV.skip {core vs:List (Str × D)}(h:PV core vs) {x:Str}{d:D}(hx:core.lookup x = none):PV core ((x,d)::vs):=fun k e he=>by
 rw [lookup_put]
 by_cases q:k = x
 ·subst q;rw [hx] at he;cases he
 ·rw [if_neg q];exact h k e he
theorem PV.low {core core' vs:List (Str × D)}(h:PV core vs) (k:PV core' core):PV core' vs:=fun x d e=>h x d (k x d e)
theorem IOp.powN {a n:Nat}(hz:bl a * n ≤ 134217728):IOp .Pow (a:Int) (n:Int) ((a ^ n:Nat):Int):=by
 have h:=IOp.pow (a:=(a:Int)) (n:=(n:Int)) (Int.natCast_nonneg n) (by rw [bits_nat];exact_mod_cast hz)
 refine h.as ?_
 simp
end
end Mine
namespace Mine
variable [Wd]
abbrev scP:Sc:=⟨scOf0 (stOf 16),[]⟩
noncomputable def roundB:List Stmt:=forBody (innOf (stOf 16) 2)
noncomputable def turnB:List Stmt:=forBody (roundB.getD 3 (.Pass ⟨0,0,0,0⟩))
noncomputable def signB:List Stmt:=forBody (turnB.getD 1 (.Pass ⟨0,0,0,0⟩))
section
variable {h₁:Gl}{r:Nat}{vars:List (Str × D)}{X:List Addr}{a:LexA}{N:Int}{rest:List Nat}{push:List Str}{prof:Addr}
theorem updProf {α:Type}{f:α→D}{add:α→α→α}(ha:∀ x y,addD (f x) (f y) = f (add y x)) (hA:∀ x y,Alike (f x) (f y)) {t:St4}{l:List (Nat × α)}{m:List (Str × D)}{k:Str}{c len cost:Nat}{x:α}{sg:List Nat}{vs:List (Str × D)}{P:Rp X}{Φ:Out→Rp (prof::X)→Prop}{p1 p2 p3 p4 p5 p6 p7 p8 p9 pa pb pc pd pe pf pg ph:Pos}{n1 n2:Nat}
  (hm:dget m k = some (stD f t l)) (hml:m.length ≤ 2 ^ 20) (hK:KOK sg l) (hsg:sg.length ≤ 1000) (hpX:prof ∉ X) (hz:bl len + bl cost ≤ 134217728)
  (v1:Has vs "name" (.str k)) (v2:Has vs "caller" (dictD [(S [c],f x)])) (v3:Has vs "length" (.int (len:Int))) (v4:Has vs "cost" (.int (cost:Int))) (v5:Has vs "profile" (opq prof))
  (hΦ:Φ (.next vs) (Rp.accD prof (dput m k (stD f (addT t len cost) (mergeK add l c x))) P)) :
  SXR1 h₁ (r + 3) scP vs (prof::X) (Rp.accD prof m P) (.Assign [.Subscript (.Name "profile" p1) (.Name "name" p2) p3] (.Call (.Name "add_func_stats" p4) [.Subscript (.Name "profile" p5) (.Name "name" p6) p7,.Tuple [.Constant (.int 1) n1 p8,.Name "length" p9,.Name "cost" pa,.BinOp (.Name "length" pb) .Mult (.Name "cost" pc) pd,.Name "caller" pe] n2 pf] [] pg) ph) Φ:=by
 have hcall:=stats_ok (h₁:=h₁) (r:=r + 1) (t:=kD f l) (k:=S [c]) (d:=f x) (a1:=t.1) (a2:=t.2.1) (a3:=t.2.2.1) (a4:=t.2.2.2) (b1:=1) (b2:=(len:Int)) (b3:=(cost:Int)) (b4:=((len * cost:Nat):Int)) tupadd (hK.keys f) (by have:=hK.len;simp only [kD,List.length_map];lia) (by
  show dget (kD f l) (S [c]) = none ∨ _
  unfold dget
  rw [kD_lookup]
  cases h:l.lookup c with
  | none=>exact .inl rfl
  | some y=>exact .inr ⟨f y,rfl,hA x y⟩)
 rw [kD_merge f add ha] at hcall
 refine SXR1.setD (m':=m) (P':=P) v5 ?_ (EVP.name v1 rfl) hml hpX hΦ
 refine EVR.callR (NameIs.glob (by decide) rfl) (KeepOK.fn Top1.fAdd) (EVSR.cons (EVR.getD v5 (EVP.name v1 rfl) hm) (EVSR.cons (EVP.re (EVP.tuple (EVS.cons EVP.const_int (EVS.cons (EVP.name v3 rfl) (EVS.cons (EVP.name v4 rfl) (EVS.cons (EVP.binop (EVP.name v3 rfl) (EVP.name v4 rfl) (IOp.mulN hz)) (EVS.cons (EVP.name v2 rfl) EVS.nil))))))) EVSR.nil)) ?_
 exact hcall
theorem eS (u z:List Nat):Txt.endswith (S z) (S u) = decide (u <:+ z):=endsS z u
abbrev lexQ (a:LexA) (N:Int) (rest:List Nat) (q:List (List Nat)):Rp a.X:=Rp.lexN a N rest (q.map S)
theorem PS.getO (p:PS):dget p.m "open" = some (stD fO p.ot p.oc):=rfl
theorem PS.getX (p:PS):dget p.m "one" = some (stD fW p.xt p.xc):=rfl
theorem PS.getY (p:PS):dget p.m "two" = some (stD fW p.yt p.yc):=rfl
theorem PS.putO (p:PS) (len cost c:Nat):dput p.m "open" (stD fO (addT p.ot len cost) (mergeK addI p.oc c (cost:Int))) = (p.open' len cost c).m:=rfl
theorem PS.putX (p:PS) (len cost c:Nat):dput p.m "one" (stD fW (addT p.xt len cost) (mergeK addP p.xc c (1,(cost:Int)))) = (p.one' len cost c).m:=rfl
theorem PS.putY (p:PS) (len cost c:Nat):dput p.m "two" (stD fW (addT p.yt len cost) (mergeK addP p.yc c (1,(cost:Int)))) = (p.two' len cost c).m:=rfl
noncomputable def strsD (q:List Nat):List D:=q.map fun c=>.str (S [c])
noncomputable def coreR (a:LexA) (prof:Addr) (sg u v:List Nat) (R base len cost:Nat):List (Str × D):=
 [("lexer",opq a.L),("signs",.list (strsD sg)),("one",.str (S u)),("two",.str (S v)),("rounds",.int (R:Int)),("base",.int (base:Int)),("profile",opq prof),("length",.int (len:Int)),("cost",.int (cost:Int))]
theorem signTurn {sg u v w:List Nat}{R base len cost c:Nat}{q:List (List Nat)}{s:PS × List (List Nat)}{vs:List (Str × D)}(hcs:PV (coreR a prof sg u v R base len cost) vs) (hw:Has vs "word" (.str (S w))) (hwt:Has vs "waiting" (.int ((s.2.length:Nat):Int))) (hsn:Has vs "sign" (.str (S [c])))
  (hP:POK sg s.1) (hc:c ∈ sg) (hsg:sg.length ≤ 1000) (hwl:w.length ≤ 1000) (hpX:prof ∉ a.X) (hz:bl len + bl cost ≤ 134217728) (hq:q.length + s.2.length < 2 ^ 19) :
  SXR h₁ (r + 3) scP vs (prof::a.X) (Rp.accD prof s.1.m (lexQ a N rest (q ++ s.2))) signB fun o P'=>∃ vs',o = .next vs'∧PV (coreR a prof sg u v R base len cost) vs'∧Has vs' "word" (.str (S w))∧Has vs' "waiting" (.int (((pStep u v len cost w s c).2.length:Nat):Int))∧P' = Rp.accD prof (pStep u v len cost w s c).1.m (lexQ a N rest (q ++ (pStep u v len cost w s c).2)):=by
 conv=>arg 7;whnf
 refine SXR.assign (EVP.re (EVP.addS (EVP.name hw rfl) (EVP.name hsn rfl) (by rw [S_len,S_len];simp only [List.length_cons,List.length_nil];lia))) (.inl rfl) ?_
 rw [S_append]
 have hcs1:PV (coreR a prof sg u v R base len cost) ((("longer":Str),PyData.str (S (w ++ [c])))::vs):=hcs.skip rfl
 have hlo:Has ((("longer":Str),PyData.str (S (w ++ [c])))::vs) "longer" (.str (S (w ++ [c]))):=Has.here
 have hw1:Has ((("longer":Str),PyData.str (S (w ++ [c])))::vs) "word" (.str (S w)):=hw.skip rfl
 have hwt1:Has ((("longer":Str),PyData.str (S (w ++ [c])))::vs) "waiting" (.int ((s.2.length:Nat):Int)):=hwt.skip rfl
 have hsn1:Has ((("longer":Str),PyData.str (S (w ++ [c])))::vs) "sign" (.str (S [c])):=hsn.skip rfl
 generalize ((("longer":Str),PyData.str (S (w ++ [c])))::vs) = vs1 at hcs1 hlo hw1 hwt1 hsn1
 have e1:∀ {p1 p2 p3 p4:Pos}{vs:List (Str × D)},(p2.endLine == p4.line) = true→PV (coreR a prof sg u v R base len cost) vs→Has vs "longer" (.str (S (w ++ [c])))→TSP h₁ (r + 3) scP vs (.Call (.Attribute (.Name "longer" p1) "endswith" p2) [.Name "one" p3] [] p4) (decide (u <:+ w ++ [c])):=fun hl hcs hlo=>by
  exact TSP.as (TSP.value (EVP.meth (EVP.name hlo rfl) (EVS.cons (EVP.name (hcs.get (k := "one") rfl) rfl) EVS.nil) MethOK.endswith rfl hl (show (1:Nat) < 28 from by decide)) Tru.bool rfl) (eS u _)
 have e2:∀ {p1 p2 p3 p4:Pos}{vs:List (Str × D)},(p2.endLine == p4.line) = true→PV (coreR a prof sg u v R base len cost) vs→Has vs "longer" (.str (S (w ++ [c])))→TSP h₁ (r + 3) scP vs (.Call (.Attribute (.Name "longer" p1) "endswith" p2) [.Name "two" p3] [] p4) (decide (v <:+ w ++ [c])):=fun hl hcs hlo=>by
  exact TSP.as (TSP.value (EVP.meth (EVP.name hlo rfl) (EVS.cons (EVP.name (hcs.get (k := "two") rfl) rfl) EVS.nil) MethOK.endswith rfl hl (show (1:Nat) < 28 from by decide)) Tru.bool rfl) (eS v _)
 refine SXR.ite (TSP.re (TSP.or2 (e1 rfl hcs1 hlo) fun _=>e2 rfl hcs1 hlo)) (fun hb=>?_) fun hb=>?_
 ·rw [Bool.or_eq_true,decide_eq_true_iff,decide_eq_true_iff] at hb
  refine SXR.assign (d:=.str (if u <:+ w ++ [c] then "one" else "two")) (EVP.re (EVP.ifexp (e1 rfl hcs1 hlo) (fun h=>?_) fun h=>?_)) (.inl rfl) ?_
  ·rw [if_pos (of_decide_eq_true h)];exact EVP.const_str
  ·rw [if_neg (of_decide_eq_false h)];exact EVP.const_str
  refine SXR.assign (d:=dictD [(S [c],fW (1,(cost:Int)))]) (EVP.re (EVP.dict (l:=[(_,_)]) (Rows.cons (EVP.name (hsn1.skip rfl) rfl) (EVP.tuple (EVS.cons EVP.const_int (EVS.cons (EVP.name ((hcs1.skip (x := "name") rfl).get (k := "cost") rfl) rfl) EVS.nil))) Rows.nil) (by simp) (by simp) (by simp) fun env=>rfl)) (.inl rfl) (SXR.done ?_)
  have hcs3:PV (coreR a prof sg u v R base len cost) ((("caller":Str),dictD [(S [c],fW (1,(cost:Int)))])::(("name":Str),PyData.str (if u <:+ w ++ [c] then "one" else "two"))::vs1):=(hcs1.skip rfl).skip rfl
  by_cases hu:u <:+ w ++ [c]
  ·rw [if_pos hu] at hcs3 ⊢
   have hst:pStep u v len cost w s c = (s.1.one' len cost c,s.2):=by unfold pStep;rw [if_pos hu]
   rw [hst]
   refine SXR.kont (updProf (f:=fW) (add:=addP) (x:=(1,(cost:Int))) (sg:=sg) fW_add (fun x y=>.inr ⟨_,_,_,_,rfl,rfl⟩) s.1.getX (by show 3 ≤ 2 ^ 20;decide) hP.x hsg hpX hz (Has.here.skip rfl) Has.here (hcs3.get rfl) (hcs3.get rfl) (hcs3.get rfl) ?_)
   rw [PS.putX]
   exact SXR.nil ⟨_,rfl,hcs3,(hw1.skip rfl).skip rfl,(hwt1.skip rfl).skip rfl,rfl⟩
  ·have hv:v <:+ w ++ [c]:=hb.resolve_left hu
   rw [if_neg hu] at hcs3 ⊢
   have hst:pStep u v len cost w s c = (s.1.two' len cost c,s.2):=by unfold pStep;rw [if_neg hu,if_pos hv]
   rw [hst]
   refine SXR.kont (updProf (f:=fW) (add:=addP) (x:=(1,(cost:Int))) (sg:=sg) fW_add (fun x y=>.inr ⟨_,_,_,_,rfl,rfl⟩) s.1.getY (by show 3 ≤ 2 ^ 20;decide) hP.y hsg hpX hz (Has.here.skip rfl) Has.here (hcs3.get rfl) (hcs3.get rfl) (hcs3.get rfl) ?_)
   rw [PS.putY]
   exact SXR.nil ⟨_,rfl,hcs3,(hw1.skip rfl).skip rfl,(hwt1.skip rfl).skip rfl,rfl⟩
 ·rw [Bool.or_eq_false_iff,decide_eq_false_iff_not,decide_eq_false_iff_not] at hb
  obtain ⟨hu,hv⟩:=hb
  have hst:pStep u v len cost w s c = (s.1.open' len cost c,s.2 ++ [w ++ [c]]):=by unfold pStep;rw [if_neg hu,if_neg hv]
  rw [hst]
  refine SXR.assign (d:=.str "open") (EVP.re EVP.const_str) (.inl rfl) ?_
  refine SXR.assign (d:=dictD [(S [c],fO (cost:Int))]) (EVP.re (EVP.dict (l:=[(_,_)]) (Rows.cons (EVP.name (hsn1.skip rfl) rfl) (EVP.name ((hcs1.skip (x := "name") rfl).get (k := "cost") rfl) rfl) Rows.nil) (by simp) (by simp) (by simp) fun env=>rfl)) (.inl rfl) ?_
  have hcs3:PV (coreR a prof sg u v R base len cost) ((("caller":Str),dictD [(S [c],fO (cost:Int))])::(("name":Str),PyData.str "open")::vs1):=(hcs1.skip rfl).skip rfl
  have hlen:(q ++ s.2).length < 2 ^ 19:=by rw [List.length_append];exact hq
  refine SXR.expr (d:=.none) (P':=Rp.accD prof s.1.m (lexQ a N rest (q ++ (s.2 ++ [w ++ [c]])))) (EVR.beside ?_ hpX) ?_
  ·have e:lexQ a N rest (q ++ (s.2 ++ [w ++ [c]])) = Rp.lex a (N - ((rest.count 10:Nat):Int)) rest ((q ++ s.2).map S ++ [S (w ++ [c])]):=by
    unfold lexQ Rp.lexN
    rw [← List.append_assoc,List.map_append (l₁:=q ++ s.2)];rfl
   rw [e]
   exact EVR.methL (hcs3.get (k := "lexer") rfl) LexM.pt (KeepOK.fn fun T=>T.fPush) (EVS.cons (EVP.name ((hlo.skip rfl).skip rfl) rfl) EVS.nil) (push_ok (y:=S (w ++ [c])) (by rw [List.length_map];exact hlen)) rfl (show (1:Nat) < 28 from by decide) rfl
  refine SXR.pure1 (SX1.aug ((hwt1.skip rfl).skip rfl) EVP.const_int IIp.add (.inl rfl)) (SXR.done ?_)
  have ew:((s.2.length:Nat):Int) + 1 = (((s.2 ++ [w ++ [c]]).length:Nat):Int):=by simp
  rw [ew]
  have hcs4:PV (coreR a prof sg u v R base len cost) ((("waiting":Str),PyData.int (((s.2 ++ [w ++ [c]]).length:Nat):Int))::(("caller":Str),dictD [(S [c],fO (cost:Int))])::(("name":Str),PyData.str "open")::vs1):=hcs3.skip rfl
  refine SXR.kont (updProf (f:=fO) (add:=addI) (x:=(cost:Int)) (sg:=sg) fO_add (fun x y=>.inl ⟨_,_,rfl,rfl⟩) s.1.getO (by show 3 ≤ 2 ^ 20;decide) hP.o hsg hpX hz ((Has.here.skip rfl).skip rfl) (Has.here.skip rfl) (hcs4.get rfl) (hcs4.get rfl) (hcs4.get rfl) ?_)
  rw [PS.putO]
  exact SXR.nil ⟨_,rfl,hcs4,((hw1.skip rfl).skip rfl).skip rfl,Has.here,rfl⟩
end
end Mine
namespace Mine
variable [Wd]
section
variable {h₁:Gl}{r:Nat}{vars:List (Str × D)}{X:List Addr}{a:LexA}{N:Int}{rest:List Nat}{push:List Str}{prof:Addr}
theorem foldl_take_succ {α β:Type}(f:β→α→β) {l:List α}{i:Nat}{x:α}(b:β) (h:l[i]? = some x):(l.take (i + 1)).foldl f b = f ((l.take i).foldl f b) x:=by
 rw [List.take_add_one,h,List.foldl_append];rfl
theorem strsD_get {q:List Nat}{i:Nat}{d:D}(h:(strsD q)[i]? = some d):∃ c,q[i]? = some c∧d = .str (S [c]):=by
 unfold strsD at h
 rw [List.getElem?_map] at h
 cases e:q[i]? with
 | none=>rw [e] at h;cases h
 | some c=>rw [e] at h;cases h;exact ⟨c,rfl,rfl⟩
theorem pWord_take {sg u v:List Nat}{len cost:Nat}{w:List Nat}(s:PS × List (List Nat)) (i:Nat):(pWord (sg.take i) u v len cost s w).2.length ≤ s.2.length + sg.length:=
 Nat.le_trans (word_count s) (Nat.add_le_add_left (by simp;lia) _)
theorem wordTurn {sg u v w:List Nat}{R base len cost:Nat}{q:List (List Nat)}{s:PS × List (List Nat)}{vs:List (Str × D)}{rest₀:List Nat}{push₀:List Str}{line₀:Int}(hcs:PV (coreR a prof sg u v R base len cost) vs) (hwt:Has vs "waiting" (.int ((s.2.length:Nat):Int)))
  (hget:CallR h₁ (r + 4) (.ref 84) [opq a.L] a.X (Rp.lex a line₀ rest₀ push₀) (.str (S w)) (lexQ a N rest (q ++ s.2)))
  (hP:POK sg s.1) (hsg:sg.length ≤ 1000) (hwl:w.length ≤ 1000) (hpX:prof ∉ a.X) (hz:bl len + bl cost ≤ 134217728) (hq:q.length + s.2.length + sg.length < 2 ^ 19) :
  SXR h₁ (r + 4) scP vs (prof::a.X) (Rp.accD prof s.1.m (Rp.lex a line₀ rest₀ push₀)) turnB fun o P'=>∃ vs',o = .next vs'∧PV (coreR a prof sg u v R base len cost) vs'∧Has vs' "waiting" (.int (((pWord sg u v len cost s w).2.length:Nat):Int))∧P' = Rp.accD prof (pWord sg u v len cost s w).1.m (lexQ a N rest (q ++ (pWord sg u v len cost s w).2)):=by
 refine ex80 (⟨_,_,_,_,_,_,_,_,rfl,rfl⟩:∃ p1 p2 p3 p4 p5 p6 p7 p8,turnB = [.Assign [.Name "word" p1] (.Call (.Attribute (.Name "lexer" p2) "get_token" p3) [] [] p4) p5,.For (.Name "sign" p6) (.Name "signs" p7) signB [] p8]∧(p3.endLine == p4.line) = true) fun p1 p2 p3 p4 p5 p6 p7 p8 hB=>?_
 rw [hB.1]
 refine SXR.assign (EVR.beside (EVR.methL (hcs.get (k := "lexer") rfl) LexM.gt (KeepOK.fn fun T=>T.fGet) EVS.nil hget hB.2 (by simp) rfl) hpX) (.inl rfl) ?_
 have hcs1:PV (coreR a prof sg u v R base len cost) ((("word":Str),PyData.str (S w))::vs):=hcs.skip rfl
 have hw1:Has ((("word":Str),PyData.str (S w))::vs) "word" (.str (S w)):=Has.here
 have hwt1:Has ((("word":Str),PyData.str (S w))::vs) "waiting" (.int ((s.2.length:Nat):Int)):=hwt.skip rfl
 generalize ((("word":Str),PyData.str (S w))::vs) = vs1 at hcs1 hw1 hwt1
 refine SXR.for_ (items:=strsD sg) (EVI.j (EVI.list (EVP.name (hcs1.get (k := "signs") rfl) rfl))) (fun i vs P=>PV (coreR a prof sg u v R base len cost) vs∧Has vs "word" (.str (S w))∧Has vs "waiting" (.int (((pWord (sg.take i) u v len cost s w).2.length:Nat):Int))∧P = Rp.accD prof (pWord (sg.take i) u v len cost s w).1.m (lexQ a N rest (q ++ (pWord (sg.take i) u v len cost s w).2))) ?_ ?_ ⟨hcs1,hw1,hwt1,rfl⟩ (fun _ _=>rfl)
 ·intro i d vs P hd zq
  refine ex03 zq fun hc hw hwt zq1=>?_;subst zq1
  refine ex11 (strsD_get hd) fun c hi zq1=>?_;subst zq1
  refine ⟨_,.name (.inl rfl),?_⟩
  have hcm:c ∈ sg:=List.mem_of_getElem? hi
  have e:pWord (sg.take (i + 1)) u v len cost s w = pStep u v len cost w (pWord (sg.take i) u v len cost s w) c:=foldl_take_succ _ _ hi
  have hPi:POK sg (pWord (sg.take i) u v len cost s w).1:=foldl_inv (I:=fun s:PS × List (List Nat)=>POK sg s.1) hP fun b a ha hb=>POK.step hb (List.mem_of_mem_take ha)
  refine SXR.mono (signTurn (hc.skip rfl) (hw.skip rfl) (hwt.skip rfl) Has.here hPi hcm hsg hwl hpX hz (by have:=pWord_take (sg:=sg) (u:=u) (v:=v) (len:=len) (cost:=cost) (w:=w) s i;lia)) fun o P' ho=>?_
  refine ex14 ho fun vs' zq1 h1 h2 h3 h4=>?_;subst zq1
  rw [← e] at h3 h4
  exact .inl ⟨vs',.inl rfl,h1,h2,h3,h4⟩
 ·intro vs P zq
  refine ex03 zq fun hc hw hwt zq1=>?_;subst zq1
  have e:pWord (sg.take (strsD sg).length) u v len cost s w = pWord sg u v len cost s w:=by simp [strsD]
  rw [e] at hwt ⊢
  exact SXR.nil ⟨vs,rfl,hc,hwt,rfl⟩
end
end Mine
namespace Mine
theorem bl_pow (a k:Nat):bl (a ^ k) ≤ bl a * k + 1:=by
 refine bl_le ?_
 have h:a ^ k ≤ (2 ^ bl a) ^ k:=Nat.pow_le_pow_left (Nat.le_of_lt (lt_bl a)) k
 rw [← Nat.pow_mul] at h
 exact Nat.lt_of_le_of_lt h (Nat.pow_lt_pow_right (by decide) (Nat.lt_succ_self _))
variable [Wd]
section
variable {h₁:Gl}{r:Nat}{vars:List (Str × D)}{X:List Addr}{a:LexA}{N:Int}{rest rest₀:List Nat}{push:List Str}{prof:Addr}
noncomputable def startQ (a:LexA) (N:Int) (rest₀ rest:List Nat) (fst:Bool) (q:List (List Nat)):Rp a.X:=if fst = true then Rp.lexN a N rest₀ [] else lexQ a N rest q
theorem turnLoop {sg u v:List Nat}{R base len cost:Nat}{qs:List (List Nat)}{p:PS}{vs:List (Str × D)}{fst:Bool}{p1 p2 p3 p4 p5:Pos}(hf:fst = true→qs = [[]]∧tokOf rest₀ = ([],rest)) (hr0:rest₀.length ≤ 2 ^ 18) (hcs:PV (coreR a prof sg u v R base len cost) vs) (hwt:Has vs "waiting" (.int ((0:Nat):Int))) (hcm:Has vs "came" (.int ((qs.length:Nat):Int)))
  (hP:POK sg p) (hsg:sg.length ≤ 1000) (hwl:∀ z ∈ qs,z.length ≤ 1000) (hpX:prof ∉ a.X) (hz:bl len + bl cost ≤ 134217728) (hq:qs.length + qs.length * sg.length + sg.length < 2 ^ 19) :
  SXR h₁ (r + 4) scP vs (prof::a.X) (Rp.accD prof p.m (startQ a N rest₀ rest fst qs)) [.For (.Name "turn" p1) (.Call (.Name "range" p2) [.Name "came" p3] [] p4) turnB [] p5] fun o P'=>∃ vs',o = .next vs'∧PV (coreR a prof sg u v R base len cost) vs'∧Has vs' "waiting" (.int (((pRound sg u v len cost p qs).2.length:Nat):Int))∧P' = Rp.accD prof (pRound sg u v len cost p qs).1.m (if qs = [] then startQ a N rest₀ rest fst qs else lexQ a N rest (pRound sg u v len cost p qs).2):=by
 refine SXR.for_ (items:=rangeL 0 qs.length) (EVI.j (EVI.range1 (EVP.name hcm rfl) (by lia) rfl)) (fun i vs P=>PV (coreR a prof sg u v R base len cost) vs∧Has vs "waiting" (.int ((((qs.take i).foldl (pWord sg u v len cost) (p,[])).2.length:Nat):Int))∧P = Rp.accD prof ((qs.take i).foldl (pWord sg u v len cost) (p,[])).1.m (if i = 0 then startQ a N rest₀ rest fst qs else lexQ a N rest (qs.drop i ++ ((qs.take i).foldl (pWord sg u v len cost) (p,[])).2))) ?_ ?_ ⟨hcs,hwt,rfl⟩ (fun _ _=>rfl)
 ·intro i d vs P hd zq
  refine ex02 zq fun hc hw zq1=>?_;subst zq1
  have hi:i < qs.length:=by
   have:=(List.getElem?_eq_some_iff.mp hd).1
   rw [rangeL_len] at this;lia
  refine ⟨_,.name (.inl rfl),?_⟩
  have hwi:qs[i]? = some qs[i]:=List.getElem?_eq_getElem hi
  have hwm:qs[i] ∈ qs:=List.getElem_mem hi
  generalize hwd:qs[i] = w at hwi hwm
  have e:=foldl_take_succ (pWord sg u v len cost) (l:=qs) (i:=i) (x:=w) (p,[]) hwi
  generalize hs:(qs.take i).foldl (pWord sg u v len cost) (p,[]) = s at hw e
  have hsP:POK sg s.1:=by
   rw [← hs]
   exact foldl_inv (I:=fun s:PS × List (List Nat)=>POK sg s.1) hP fun b a _ hb=>POK.word hb
  have hsl:s.2.length ≤ qs.length * sg.length:=by
   have:=fold_count (sg:=sg) (u:=u) (v:=v) (len:=len) (cost:=cost) (qs.take i) (p,[])
   rw [hs] at this
   simp only [List.length_nil,Nat.zero_add] at this
   exact Nat.le_trans this (Nat.mul_le_mul_right _ (by simp;lia))
  have hdrop:qs.drop i = w::qs.drop (i + 1):=by rw [List.drop_eq_getElem_cons hi,hwd]
  have hdl:(qs.drop (i + 1)).length ≤ qs.length:=by simp
  have fin:∀ {line₀:Int}{rest₁:List Nat}{push₁:List Str},CallR h₁ (r + 4) (.ref 84) [opq a.L] a.X (Rp.lex a line₀ rest₁ push₁) (.str (S w)) (lexQ a N rest (qs.drop (i + 1) ++ s.2)) →
    SXR h₁ (r + 4) scP ((("turn":Str),d)::vs) (prof::a.X) (Rp.accD prof s.1.m (Rp.lex a line₀ rest₁ push₁)) turnB fun o P'=>∃ vs'',(o = .next vs'' ∨ o = .cont vs'')∧(PV (coreR a prof sg u v R base len cost) vs''∧Has vs'' "waiting" (.int ((((qs.take (i + 1)).foldl (pWord sg u v len cost) (p,[])).2.length:Nat):Int))∧P' = Rp.accD prof ((qs.take (i + 1)).foldl (pWord sg u v len cost) (p,[])).1.m (if i + 1 = 0 then startQ a N rest₀ rest fst qs else lexQ a N rest (qs.drop (i + 1) ++ ((qs.take (i + 1)).foldl (pWord sg u v len cost) (p,[])).2))):=fun hget=>by
   refine SXR.mono (wordTurn (hc.skip rfl) (hw.skip rfl) hget hsP hsg (hwl w hwm) hpX hz (by lia)) fun o P' ho=>?_
   refine ex13 ho fun vs' zq1 h1 h2 h3=>?_;subst zq1
   refine ⟨vs',.inl rfl,h1,?_,?_⟩
   ·rw [e];exact h2
   ·rw [if_neg (Nat.succ_ne_zero i),e];exact h3
  by_cases hfi:fst = true∧i = 0
  ·obtain ⟨hft,rfl⟩:=hfi
   obtain ⟨rfl,htok⟩:=hf hft
   have hw0:w = []:=by rw [← hwd];rfl
   have hs0:s = (p,[]):=by rw [← hs];rfl
   rw [if_pos rfl]
   unfold startQ
   rw [if_pos hft]
   refine SXR.mono (fin ?_) fun o P' h=>.inl h
   have:=get_read (h₁:=h₁) (r:=r) (a:=a) (N:=N) hr0
   rw [htok] at this
   subst hw0 hs0
   exact this
  ·have hres:(if i = 0 then startQ a N rest₀ rest fst qs else lexQ a N rest (qs.drop i ++ s.2)) = lexQ a N rest (w::(qs.drop (i + 1) ++ s.2)):=by
    by_cases h0:i = 0
    ·subst h0
     have hff:fst = false:=by
      cases fst with
      | true=>exact absurd ⟨rfl,rfl⟩ hfi
      | false=>rfl
     have hs0:s = (p,[]):=by rw [← hs];rfl
     have hd0:qs = w::qs.drop 1:=by simpa using hdrop
     rw [if_pos rfl,hs0]
     unfold startQ
     rw [hff,if_neg (by decide),List.append_nil,← hd0]
    ·rw [if_neg h0,hdrop,List.cons_append]
   rw [hres]
   exact SXR.mono (fin (get_push (r:=r + 3))) fun o P' h=>.inl h
 ·intro vs P zq
  refine ex02 zq fun hc hw zq1=>?_;subst zq1
  rw [rangeL_len] at hw ⊢
  have e:(qs.take (qs.length - 0)).foldl (pWord sg u v len cost) (p,[]) = pRound sg u v len cost p qs:=by simp [pRound]
  rw [e] at hw ⊢
  refine SXR.nil ⟨vs,rfl,hc,hw,?_⟩
  congr 1
  by_cases h:qs = []
  ·subst h;simp
  ·have:¬ qs.length - 0 = 0:=by simp [h]
   rw [if_neg this,if_neg h]
   simp
end
end Mine
namespace Mine
variable [Wd]
section
variable {h₁:Gl}{r:Nat}{vars:List (Str × D)}{X:List Addr}{a:LexA}{N:Int}{rest rest₀:List Nat}{push:List Str}{prof:Addr}
noncomputable def core0 (a:LexA) (prof:Addr) (sg u v:List Nat) (R base:Nat):List (Str × D):=
 [("lexer",opq a.L),("signs",.list (strsD sg)),("one",.str (S u)),("two",.str (S v)),("rounds",.int (R:Int)),("base",.int (base:Int)),("profile",opq prof)]
theorem PV.round {sg u v:List Nat}{R base len cost:Nat}{vs:List (Str × D)}(h:PV (core0 a prof sg u v R base) vs) (h1:Has vs "length" (.int (len:Int))) (h2:Has vs "cost" (.int (cost:Int))):PV (coreR a prof sg u v R base len cost) vs:=by
 intro k d e
 have e':(core0 a prof sg u v R base ++ [(("length":Str),PyData.int (len:Int)),("cost",.int (cost:Int))]).lookup k = some d:=e
 rw [lookup_app] at e'
 cases q:(core0 a prof sg u v R base).lookup k with
 | some d'=>rw [q] at e';cases e';exact h k d q
 | none=>
  rw [q,Option.none_or] at e'
  exact lk h1 (lk h2 lkn) k d e'
theorem PV.un {sg u v:List Nat}{R base len cost:Nat}{vs:List (Str × D)}(h:PV (coreR a prof sg u v R base len cost) vs):PV (core0 a prof sg u v R base) vs:=by
 intro k d e
 refine h k d ?_
 show (core0 a prof sg u v R base ++ [(("length":Str),PyData.int (len:Int)),("cost",.int (cost:Int))]).lookup k = some d
 rw [lookup_app,e];rfl
theorem roundTurn {sg u v:List Nat}{R base i:Nat}{vs:List (Str × D)}{p:PS × List (List Nat)}{fst:Bool}(hf:fst = true→p.2 = [[]]∧tokOf rest₀ = ([],rest)) (hr0:rest₀.length ≤ 2 ^ 18) (hcs:PV (core0 a prof sg u v R base) vs) (hwt:Has vs "waiting" (.int ((p.2.length:Nat):Int))) (hln:Has vs "length" (.int ((i + 1:Nat):Int)))
  (hi:i + 1 ≤ R) (hR:R ≤ 10) (hb:bl base ≤ 2000) (hP:POK sg p.1) (hsg:sg.length ≤ 1000) (hwl:∀ z ∈ p.2,z.length ≤ 1000) (hpX:prof ∉ a.X) (hq:p.2.length + p.2.length * sg.length + sg.length < 2 ^ 19) :
  SXR h₁ (r + 4) scP vs (prof::a.X) (Rp.accD prof p.1.m (startQ a N rest₀ rest fst p.2)) roundB fun o P'=>∃ vs',o = .next vs'∧PV (core0 a prof sg u v R base) vs'∧Has vs' "waiting" (.int (((pRound sg u v (i + 1) (base ^ (R - (i + 1))) p.1 p.2).2.length:Nat):Int))∧P' = Rp.accD prof (pRound sg u v (i + 1) (base ^ (R - (i + 1))) p.1 p.2).1.m (lexQ a N rest (pRound sg u v (i + 1) (base ^ (R - (i + 1))) p.1 p.2).2):=by
 refine g18v (roundB) (F:=fun p1 p2 p3 p4 p5 p6 p7 p8 p9 pa pb pc pd pe pf pg ph pi=>[.Assign [.Name "cost" p1] (.BinOp (.Name "base" p2) .Pow (.BinOp (.Name "rounds" p3) .Sub (.Name "length" p4) p5) p6) p7,.Assign [.Name "came" p8] (.Name "waiting" p9) pa,.Assign [.Name "waiting" pb] (.Constant (.int 0) 0 pc) pd,.For (.Name "turn" pe) (.Call (.Name "range" pf) [.Name "came" pg] [] ph) turnB [] pi]) _ _ _ _ _ _ _ _ _ _ _ _ _ _ _ _ _ _ rfl fun p1 p2 p3 p4 p5 p6 p7 p8 p9 pa pb pc pd pe pf pg ph pi hB=>?_
 rw [hB]
 have hzc:bl (base ^ (R - (i + 1))) ≤ 20001:=Nat.le_trans (bl_pow _ _) (by
  have:bl base * (R - (i + 1)) ≤ 2000 * 10:=Nat.mul_le_mul hb (by lia)
  lia)
 have hzp:bl base * (R - (i + 1)) ≤ 134217728:=by
  have:bl base * (R - (i + 1)) ≤ 2000 * 10:=Nat.mul_le_mul hb (by lia)
  lia
 have hzl:bl (i + 1) ≤ 10:=bl_le (show i + 1 < 2 ^ 10 by lia)
 refine SXR.assign (d:=.int ((base ^ (R - (i + 1)):Nat):Int)) (EVP.re (EVP.binop (EVP.name (hcs.get (k := "base") rfl) rfl) (EVP.binop (EVP.name (hcs.get (k := "rounds") rfl) rfl) (EVP.name hln rfl) (IOp.subN hi)) (IOp.powN hzp))) (.inl rfl) ?_
 refine SXR.assign (EVP.re (EVP.name (hwt.skip rfl) rfl)) (.inl rfl) ?_
 refine SXR.assign (d:=.int ((0:Nat):Int)) (EVP.re EVP.const_int) (.inl rfl) ?_
 have hcr:PV (coreR a prof sg u v R base (i + 1) (base ^ (R - (i + 1)))) ((("waiting":Str),PyData.int ((0:Nat):Int))::(("came":Str),PyData.int ((p.2.length:Nat):Int))::(("cost":Str),PyData.int ((base ^ (R - (i + 1)):Nat):Int))::vs):=
  PV.round (((hcs.skip rfl).skip rfl).skip rfl) (((hln.skip rfl).skip rfl).skip rfl) ((Has.here.skip rfl).skip rfl)
 refine SXR.mono (turnLoop (fst:=fst) hf hr0 hcr Has.here (Has.here.skip rfl) hP hsg hwl hpX (by lia) hq) fun o P' ho=>?_
 refine ex13 ho fun vs' zq1 h1 h2 h3=>?_;subst zq1
 refine ⟨vs',rfl,h1.un,h2,?_⟩
 rw [h3]
 congr 1
 by_cases h:p.2 = []
 ·rw [if_pos h]
  have hff:fst = false:=by
   cases fst with
   | true=>rw [(hf rfl).1] at h;cases h
   | false=>rfl
  unfold startQ
  rw [hff,if_neg (by decide),h]
  rfl
 ·rw [if_neg h]
theorem defPl:DefOf (stOf 16) "_law_play" (parOf (stOf 16)) (bodyOf (stOf 16)) (scOf0 (stOf 16)):=⟨⟨_,_,_,_,_,_,rfl⟩,rfl,rfl,rfl⟩
end
end Mine
namespace Mine
variable [Wd]
section
variable {h₁:Gl}{r:Nat}{vars:List (Str × D)}{X:List Addr}{a:LexA}{N:Int}{rest rest₀:List Nat}{push:List Str}{prof:Addr}
noncomputable def wordsD (q:List (List Nat)):List D:=q.map fun z=>.str (S z)
noncomputable def playIs (sg u v:List Nat) (R base:Nat):D:=.tuple [dictD (pPlay sg u v R base R).1.m,.list (wordsD (pPlay sg u v R base R).2)]
theorem pow4 {n k:Nat}(hk:k ≤ 4) (hn:n ≤ 5):k ^ n ≤ 1024:=Nat.le_trans (Nat.pow_le_pow_left hk n) (Nat.le_trans (Nat.pow_le_pow_right (by decide) hn) (by decide))
theorem leftComp {q:List (List Nat)}{m:List (Str × D)}{vs:List (Str × D)}{p1 p2 p3 p4 p5 p6 p7 p8:Pos}{scope:Scope}(hsc:scope = { kind:=ScopeKind.function,names:=[((".0":Str),NameKind.local),("turn",NameKind.local),("lexer",NameKind.free)],isGenerator:=false,isCoroutine:=false }) (hl:(p2.endLine == p3.line) = true) (hL:Has vs "lexer" (opq a.L)) (hw:Has vs "waiting" (.int ((q.length:Nat):Int))) (hq:q.length ≤ 2 ^ 18) (hpX:prof ∉ a.X) :
  EVR h₁ (r + 4) scP vs (prof::a.X) (Rp.accD prof m (lexQ a N rest q)) (.ListComp (.Call (.Attribute (.Name "lexer" p1) "get_token" p2) [] [] p3) [⟨.Name "turn" p4,.Call (.Name "range" p5) [.Name "waiting" p6] [] p7,[],0⟩] scope p8) (.list (wordsD q)) (Rp.accD prof m (lexQ a N rest [])):=by
 subst hsc
 have hlen:(rangeL 0 q.length).length = q.length:=by rw [rangeL_len];lia
 have h:=EVR.listcomp (h₁:=h₁) (r:=r + 4) (sc:=scP) (vars:=vs) (X:=prof::a.X) (elt:=.Call (.Attribute (.Name "lexer" p1) "get_token" p2) [] [] p3) (pos:=p8) (ifs:=[]) rfl (CompOK.list (scope:={ kind:=ScopeKind.function,names:=[((".0":Str),NameKind.local),("turn",NameKind.local),("lexer",NameKind.free)],isGenerator:=false,isCoroutine:=false }) (fun _=>true) (fun i=>.str (S (q.getD i []))) (fun i=>Rp.accD prof m (lexQ a N rest (q.drop i))) (EVI.j (x := "turn") (p:=p4) (EVI.range1 (p:=p5) (pos:=p7) (EVP.name (pos:=p6) hw rfl) (by lia) rfl)) ?sc (by lia) (fun _ _=>rfl) fun i d hd=>?k2)
 case sc=>
  refine ⟨rfl,by decide,by decide,fun x hx=>?_⟩
  have:x = "lexer":=by simpa [freeOf] using hx
  subst this
  exact ⟨rfl,rfl,.inl (by rw [show vs.lookup (Str.ofString "lexer") = some (opq a.L) from hL];rfl)⟩
 case k2=>
  have hi:i < q.length:=by
   have:=(List.getElem?_eq_some_iff.mp hd).1
   lia
  refine ⟨_,.name rfl,skip_weak (cvars_none rfl) fun _ _ q=>q,.inl ⟨rfl,rfl⟩,nofun,fun _=>?_⟩
  have hdrop:q.drop i = q[i]::q.drop (i + 1):=List.drop_eq_getElem_cons hi
  have hg:q.getD i [] = q[i]:=by simp [hi]
  rw [hg,hdrop]
  have hL2:Has ((("turn":Str),d)::cvars vs { kind:=ScopeKind.function,names:=[((".0":Str),NameKind.local),("turn",NameKind.local),("lexer",NameKind.free)],isGenerator:=false,isCoroutine:=false }) "lexer" (opq a.L):=(cvars_has hL rfl).skip rfl
  exact EVR.beside (EVR.methL hL2 LexM.gt (KeepOK.fn fun T=>T.fGet) EVS.nil (get_push (r:=r + 3)) hl (by simp) rfl) hpX
 rw [hlen,List.drop_length,List.drop_zero] at h
 have e:compOut (fun _=>true) (fun i=>PyData.str (S (q.getD i []))) q.length = wordsD q:=by
  refine compOut_range (by simp [wordsD]) fun i hi=>?_
  simp [wordsD,hi]
 rw [e] at h
 exact h
noncomputable def m0 (R base:Nat):List (Str × D):=[("open",.tuple [.int 1,.int 0,.int ((base ^ R:Nat):Int),.int 0,dictD []]),("one",.tuple [.int 0,.int 0,.int 0,.int 0,dictD []]),("two",.tuple [.int 0,.int 0,.int 0,.int 0,dictD []])]
theorem m0_eq {sg u v:List Nat}{R base:Nat}:(pPlay sg u v R base 0).1.m = m0 R base:=rfl
theorem playInit {vs:List (Str × D)}{R base:Nat}(w5:Has vs "rounds" (.int (R:Int))) (w6:Has vs "base" (.int (base:Int))) (hzp:bl base * R ≤ 134217728):EVN h₁ r scP vs (valE (innOf (stOf 16) 0)) (m0 R base):=by
 have hm:((m0 R base).map (·.1)).Nodup:=by
  show ([("open":Str), "one", "two"]:List Str).Nodup
  decide
 obtain ⟨k1,k2,k3,b1,b2,b3,b4,b5,b6,b7,b8,c1,c2,c3,c4,c5,c6,d1,d2,d3,d4,d5,d6,pp,hE⟩:∃ k1 k2 k3 b1 b2 b3 b4 b5 b6 b7 b8 c1 c2 c3 c4 c5 c6 d1 d2 d3 d4 d5 d6 pp,valE (innOf (stOf 16) 0) = .Dict [some (.Constant (.str "open") 0 k1),some (.Constant (.str "one") 0 k2),some (.Constant (.str "two") 0 k3)] [.Tuple [.Constant (.int 1) 0 b1,.Constant (.int 0) 0 b2,.BinOp (.Name "base" b3) .Pow (.Name "rounds" b4) b5,.Constant (.int 0) 0 b6,.Dict [] [] b7] 0 b8,.Tuple [.Constant (.int 0) 0 c1,.Constant (.int 0) 0 c2,.Constant (.int 0) 0 c3,.Constant (.int 0) 0 c4,.Dict [] [] c5] 0 c6,.Tuple [.Constant (.int 0) 0 d1,.Constant (.int 0) 0 d2,.Constant (.int 0) 0 d3,.Constant (.int 0) 0 d4,.Dict [] [] d5] 0 d6] pp:=⟨_,_,_,_,_,_,_,_,_,_,_,_,_,_,_,_,_,_,_,_,_,_,_,_,rfl⟩
 rw [hE]
 refine EVN.dict (l:=[(.Constant (.str "open") 0 k1,.Tuple [.Constant (.int 1) 0 b1,.Constant (.int 0) 0 b2,.BinOp (.Name "base" b3) .Pow (.Name "rounds" b4) b5,.Constant (.int 0) 0 b6,.Dict [] [] b7] 0 b8),(.Constant (.str "one") 0 k2,.Tuple [.Constant (.int 0) 0 c1,.Constant (.int 0) 0 c2,.Constant (.int 0) 0 c3,.Constant (.int 0) 0 c4,.Dict [] [] c5] 0 c6),(.Constant (.str "two") 0 k3,.Tuple [.Constant (.int 0) 0 d1,.Constant (.int 0) 0 d2,.Constant (.int 0) 0 d3,.Constant (.int 0) 0 d4,.Dict [] [] d5] 0 d6)]) ?_ hm (by simp) (by simp) fun env=>rfl
 refine Rows.cons EVP.const_str (EVP.tuple (EVS.cons EVP.const_int (EVS.cons EVP.const_int (EVS.cons (EVP.binop (EVP.name w6 rfl) (EVP.name w5 rfl) (IOp.powN hzp)) (EVS.cons EVP.const_int (EVS.cons EVP.dict0 EVS.nil)))))) ?_
 refine Rows.cons EVP.const_str (EVP.tuple (EVS.cons EVP.const_int (EVS.cons EVP.const_int (EVS.cons EVP.const_int (EVS.cons EVP.const_int (EVS.cons EVP.dict0 EVS.nil)))))) ?_
 exact Rows.cons EVP.const_str (EVP.tuple (EVS.cons EVP.const_int (EVS.cons EVP.const_int (EVS.cons EVP.const_int (EVS.cons EVP.const_int (EVS.cons EVP.dict0 EVS.nil)))))) Rows.nil
theorem play_ok {sg u v:List Nat}{R base:Nat}(htok:tokOf rest₀ = ([],rest)) (hr0:rest₀.length ≤ 2 ^ 18) (hR:1 ≤ R∧R ≤ 5) (hb:bl base ≤ 2000) (hsg:sg.length ≤ 4) :
  CallR h₁ (r + 5) (.ref 129) [opq a.L,.list (strsD sg),.str (S u),.str (S v),.int (R:Int),.int (base:Int)] a.X (Rp.lexN a N rest₀ []) (playIs sg u v R base) (Rp.lexN a N rest []):=by
 refine CallR.of_defC (xs:=["lexer", "signs", "one", "two", "rounds", "base"]) (fun T=>T.fPlay) defPl ?_ ?_ ?_
 ·intro m vs hl
  refine ex60 (len6 hl) fun _ _ _ _ _ _ zq1=>?_;subst zq1
  rfl
 ·intro x hx
  simp only [mcI,List.not_mem_nil,or_false] at hx
  rcases hx with rfl | rfl | rfl | rfl | rfl | rfl
  ·exact .inr rfl
  all_goals exact .inl rfl
 show SXR h₁ (r + 4) scP [(("base":Str),PyData.int (base:Int)),("rounds",.int (R:Int)),("two",.str (S v)),("one",.str (S u)),("signs",.list (strsD sg)),("lexer",opq a.L)] a.X (Rp.lexN a N rest₀ []) (bodyOf (stOf 16)) _
 obtain ⟨vs,hvs⟩:∃ vs,vs = [(("base":Str),PyData.int (base:Int)),("rounds",.int (R:Int)),("two",.str (S v)),("one",.str (S u)),("signs",.list (strsD sg)),("lexer",opq a.L)]:=⟨_,rfl⟩
 have w1:Has vs "lexer" (opq a.L):=by rw [hvs];rfl
 have w2:Has vs "signs" (.list (strsD sg)):=by rw [hvs];rfl
 have w3:Has vs "one" (.str (S u)):=by rw [hvs];rfl
 have w4:Has vs "two" (.str (S v)):=by rw [hvs];rfl
 have w5:Has vs "rounds" (.int (R:Int)):=by rw [hvs];rfl
 have w6:Has vs "base" (.int (base:Int)):=by rw [hvs];rfl
 rw [← hvs]
 clear hvs
 have hb4:bodyOf (stOf 16) = innOf (stOf 16) 0::innOf (stOf 16) 1::innOf (stOf 16) 2::[innOf (stOf 16) 3]:=rfl
 rw [hb4]
 have hzp:bl base * R ≤ 134217728:=by
  have:bl base * R ≤ 2000 * 5:=Nat.mul_le_mul hb hR.2
  lia
 have hN:EVN h₁ (r + 4) scP vs (valE (innOf (stOf 16) 0)) (m0 R base):=by
  with_reducible exact playInit w5 w6 hzp
 generalize hvE:valE (innOf (stOf 16) 0) = vE at hN
 have hns:noSwap vE = true:=by rw [← hvE];rfl
 obtain ⟨q1,q2,hs0⟩:∃ q1 q2,innOf (stOf 16) 0 = .Assign [.Name "profile" q1] vE q2:=by rw [← hvE];exact ⟨_,_,rfl⟩
 rw [hs0]
 refine SXR.newDict hN (.inl rfl) hns fun prof hpX=>?_
 refine ex30 (⟨_,_,_,rfl⟩:∃ q3 q4 q5,innOf (stOf 16) 1 = .Assign [.Name "waiting" q3] (.Constant (.int 1) 0 q4) q5) fun q3 q4 q5 hs1=>?_
 rw [hs1]
 refine SXR.assign (d:=.int (((pPlay sg u v R base 0).2.length:Nat):Int)) (EVP.re EVP.const_int) (.inl rfl) ?_
 have hc0:PV (core0 a prof sg u v R base) ((("waiting":Str),PyData.int (((pPlay sg u v R base 0).2.length:Nat):Int))::(("profile":Str),opq prof)::vs):=by
  refine PV.skip ?_ rfl
  intro k d e
  rw [lookup_put]
  by_cases hk:k = "profile"
  ·subst hk;rw [if_pos rfl];exact e
  ·rw [if_neg hk]
   have e':List.lookup k [(("lexer":Str),opq a.L),("signs",.list (strsD sg)),("one",.str (S u)),("two",.str (S v)),("rounds",.int (R:Int)),("base",.int (base:Int)),("profile",opq prof)] = some d:=e
   have step:∀ {x:Str}{dx:D}{l:List (Str × D)},List.lookup k ((x,dx)::l) = some d→(vs.lookup x = some dx)→(List.lookup k l = some d→vs.lookup k = some d)→vs.lookup k = some d:=fun {x dx l} h1 h2 h3=>by
    rw [lookup_put] at h1
    by_cases hq:k = x
    ·rw [if_pos hq] at h1;cases h1;rw [hq];exact h2
    ·rw [if_neg hq] at h1;exact h3 h1
   refine step e' w1 fun e'=>step e' w2 fun e'=>step e' w3 fun e'=>step e' w4 fun e'=>step e' w5 fun e'=>step e' w6 fun e'=>?_
   rw [lookup_put,if_neg hk] at e'
   cases e'
 have hw0:Has ((("waiting":Str),PyData.int (((pPlay sg u v R base 0).2.length:Nat):Int))::(("profile":Str),opq prof)::vs) "waiting" (.int (((pPlay sg u v R base 0).2.length:Nat):Int)):=Has.here
 generalize ((("waiting":Str),PyData.int (((pPlay sg u v R base 0).2.length:Nat):Int))::(("profile":Str),opq prof)::vs) = vs1 at hc0 hw0
 refine ex90 (⟨_,_,_,_,_,_,_,_,_,rfl,rfl⟩:∃ f1 f2 f3 f4 f5 f6 f7 f8 f9,innOf (stOf 16) 2 = .For (.Name "length" f1) (.Call (.Name "range" f2) [.Constant (.int 1) 0 f3,.BinOp (.Name "rounds" f4) .Add (.Constant (.int 1) 0 f5) f6] [] f7) roundB [] f8∧f9 = f8) fun f1 f2 f3 f4 f5 f6 f7 f8 f9 hs2=>?_
 rw [hs2.1]
 have hrg:EVI h₁ (r + 4) scP vs1 (.Call (.Name "range" f2) [.Constant (.int 1) 0 f3,.BinOp (.Name "rounds" f4) .Add (.Constant (.int 1) 0 f5) f6] [] f7) (rangeL 1 (R + 1)):=
  EVI.range2 EVP.c1 (EVP.binop (EVP.name (hc0.get (k := "rounds") rfl) rfl) EVP.c1 IOp.addN) (by decide) (by lia) rfl
 have start0:Rp.accD prof (m0 R base) (Rp.lexN a N rest₀ []) = Rp.accD prof (pPlay sg u v R base 0).1.m (startQ a N rest₀ rest (decide (0 = 0)) (pPlay sg u v R base 0).2):=by
  rw [m0_eq];rfl
 refine SXR.for_ (items:=rangeL 1 (R + 1)) (EVI.j hrg) (fun i vs P=>PV (core0 a prof sg u v R base) vs∧Has vs "waiting" (.int (((pPlay sg u v R base i).2.length:Nat):Int))∧P = Rp.accD prof (pPlay sg u v R base i).1.m (startQ a N rest₀ rest (decide (i = 0)) (pPlay sg u v R base i).2)) ?_ ?_ ⟨hc0,hw0,start0⟩ (fun _ _=>rfl)
 ·intro i d vs P hd zq
  refine ex02 zq fun hc hw zq1=>?_;subst zq1
  have hi:i < R:=by
   have:=(List.getElem?_eq_some_iff.mp hd).1
   rw [rangeL_len] at this;lia
  have hdi:d = .int ((i + 1:Nat):Int):=by
   rw [rangeL_get (by lia)] at hd
   cases hd
   rw [Nat.add_comm]
  subst hdi
  refine ⟨_,.name (.inl rfl),?_⟩
  have hcnt:=play_count (sg:=sg) (u:=u) (v:=v) (R:=R) (base:=base) i
  have hp:=pow4 (n:=i) hsg (by lia)
  have hmul:(pPlay sg u v R base i).2.length * sg.length ≤ 1024 * 4:=Nat.mul_le_mul (Nat.le_trans hcnt hp) hsg
  refine SXR.mono (roundTurn (fst:=decide (i = 0)) (p:=pPlay sg u v R base i) (fun h=>?_) hr0 (hc.skip rfl) (hw.skip rfl) Has.here hi (by lia) hb (POK.play i) (by lia) (fun z hz=>?_) hpX ?_) fun o P' ho=>?_
  ·have:i = 0:=of_decide_eq_true h
   subst this
   exact ⟨rfl,htok⟩
  ·rw [play_len i z hz];lia
  ·lia
  ·refine ex13 ho fun vs' zq1 h1 h2 h3=>?_;subst zq1
   exact .inl ⟨vs',.inl rfl,h1,h2,h3⟩
 ·intro vs P zq
  refine ex02 zq fun hc hw zq1=>?_;subst zq1
  have eR:(rangeL 1 (R + 1)).length = R:=by rw [rangeL_len];lia
  rw [eR] at hw ⊢
  have hst:startQ a N rest₀ rest (decide (R = 0)) (pPlay sg u v R base R).2 = lexQ a N rest (pPlay sg u v R base R).2:=by
   unfold startQ
   rw [if_neg (by simp;lia)]
  rw [hst]
  have hcnt:=play_count (sg:=sg) (u:=u) (v:=v) (R:=R) (base:=base) R
  have hp:=pow4 (n:=R) hsg hR.2
  refine ex11_0 (⟨_,_,_,_,_,_,_,_,_,_,_,rfl,rfl⟩:∃ g1 g2 g3 g4 g5 g6 g7 g8 g9 ga gb,innOf (stOf 16) 3 = .Return (some (.Tuple [.Name "profile" g1,.ListComp (.Call (.Attribute (.Name "lexer" g2) "get_token" g3) [] [] g4) [⟨.Name "turn" g5,.Call (.Name "range" g6) [.Name "waiting" g7] [] g8,[],0⟩] { kind:=ScopeKind.function,names:=[((".0":Str),NameKind.local),("turn",NameKind.local),("lexer",NameKind.free)],isGenerator:=false,isCoroutine:=false } g9] 0 ga)) gb∧(g3.endLine == g4.line) = true) fun g1 g2 g3 g4 g5 g6 g7 g8 g9 ga gb hs3=>?_
  rw [hs3.1]
  refine SXR.ret (d:=.tuple [opq prof,.list (wordsD (pPlay sg u v R base R).2)]) (EVR.tuple (EVSR.cons (EVP.re (EVP.name (hc.get (k := "profile") rfl) rfl)) (EVSR.cons (leftComp rfl hs3.2 (hc.get rfl) hw (by lia) hpX) EVSR.nil)) (by simp)) ?_
  refine ⟨_,playIs sg u v R base,Rp.lexN a N rest [],rfl,⟨rfl,rfl⟩,fun h H v hpH hpN hv p=>?_⟩
  refine ex46 hv.asTuple fun t o ws n zq1 e1 e2 e3 e4 e5 vl=>?_;subst zq1
  refine ⟨?_,Rp.less _ p.2 fun x hx=>.inl (.tail _ hx)⟩
  have hsub:∀ x ∈ H,x ∈ prof::H ∨ h.objs.size ≤ x:=fun x hx=>.inl (.tail _ hx)
  refine .tuple e1 e2 e3 (fun z=>e4 (.tail _ z)) e5 ?_
  generalize hwl:ws.toList = wl at vl
  refine ex22 (VL.pair vl) fun x y zq1 a1 a2=>?_;subst zq1
  ·
   have:=a1.asOpq
   subst this
   exact .cons (p.1.2.drop.v hpH hpN) (.cons (a2.less hsub) .nil)
end
end Mine
namespace Mine
noncomputable def pickL {α:Type}(xs:List α) (lo hi st:Option Int):List α:=
 (sliceRange (sliceBounds lo hi st xs.length).1 (sliceBounds lo hi st xs.length).2.1 (sliceBounds lo hi st xs.length).2.2).filterMap (xs[·]?)
variable [Wd]
theorem VL.places {h:Heap}{H:List Addr}{vs:List Value}{ds:List D}(x:VL h H vs ds):∀ l:List Nat,VL h H (l.filterMap (vs[·]?)) (l.filterMap (ds[·]?))
 | []=>.nil
 | i::l=>by
  rw [List.filterMap_cons,List.filterMap_cons]
  have hlen:=x.length
  by_cases hi:i < ds.length
  ·have hd:ds[i]? = some ds[i]:=List.getElem?_eq_getElem hi
   refine ex11 (x.get hd) fun v e hv=>?_
   rw [e,hd]
   exact .cons hv (x.places l)
  ·have e1:ds[i]? = none:=List.getElem?_eq_none (by lia)
   have e2:vs[i]? = none:=List.getElem?_eq_none (by lia)
   rw [e1,e2]
   exact x.places l
section
variable {h₁:Gl}{r:Nat}{sc:Sc}{vars:List (Str × D)}{env:Env}{H:List Addr}
theorem VL.pick {h:Heap}{items:Array Value}{ds:List D}(x:VL h H items.toList ds) (lo hi st:Option Int):VL h H (slicePick items lo hi st).toList (pickL ds lo hi st):=by
 have hl:items.size = ds.length:=by have:=x.length;simpa using this
 have e:(slicePick items lo hi st).toList = (sliceRange (sliceBounds lo hi st ds.length).1 (sliceBounds lo hi st ds.length).2.1 (sliceBounds lo hi st ds.length).2.2).filterMap (items.toList[·]?):=by
  simp [slicePick,hl]
 rw [e]
 exact x.places _
abbrev PartI (h₁:Gl) (r:Nat) (sc:Sc) (vars:List (Str × D)) (p:Option Expr) (a:Option Int):Prop:=(p = none∧a = none) ∨ ∃ e i,p = some e∧a = some i∧EVP h₁ r sc vars e (.int i)
theorem PartI.run {prog:Program}{w:WW}{A:Around}{s:Shared}{p:Option Expr}{a:Option Int}{Q:Value→Shared→Prop}{E:Value→Shared→Prop}(h:PartI h₁ r sc vars p a) (T:Top1 h₁) (R:Room r A) (I:Inv h₁ H s) (O:EnvOK sc env vars s.heap H)
  (k:∀ v s',SStep [] s s'→Inv h₁ H s'→IsPart v a→Q v s'):wpAny (model prog w) A (evalPart p env) Q E s:=by
 rcases h with ⟨rfl,rfl⟩ | ⟨e,i,rfl,rfl,he⟩
 ·rw [evalPart_none]
  exact wpAny_pure (k _ s (SStep.refl _ _) I .none)
 ·rw [evalPart_some]
  refine he prog w A env s H Q E T R I O fun v s' st I' hv=>?_
  obtain ⟨_,rfl⟩:=V.intI hv
  exact k _ s' st I' (.int _ _)
theorem V.sliced {s:Shared}{l:Addr}{o:Obj}{items:Array Value}{n:Nat}{xs:List D}{lo hi st:Option Int}{sl:Obj}(I:Inv h₁ H s) (vl:VL s.heap H items.toList xs) :
  V ((s.heap.push sl).push { cls:=.type "list",data:=.seq (slicePick items lo hi st) }) H (.ref (s.heap.objs.size + 1)) (.list (pickL xs lo hi st)):=by
 have st1:Step [] s.heap ((s.heap.push sl).push { cls:=.type "list",data:=.seq (slicePick items lo hi st) }):=(Step.push _).trans (Step.push _)
 have hg:((s.heap.push sl).push { cls:=.type "list",data:=.seq (slicePick items lo hi st) }).get? (s.heap.objs.size + 1) = some { cls:=.type "list",data:=.seq (slicePick items lo hi st) }:=by
  have:=Heap.get?_push_size (h:=s.heap.push sl) (o:={ cls:=.type "list",data:=.seq (slicePick items lo hi st) }) rfl
  rwa [Heap.size_push] at this
 refine .list hg (fun q=>?_) (Nat.le_succ_of_le I.size) ((vl.pick lo hi st).grow st1)
 exact Nat.lt_irrefl _ (Nat.lt_trans (Nat.lt_succ_self _) (I.hok _ q).2)
theorem EVP.sliceL {value:Expr}{lower upper:Option Expr}{p pos:Pos}{xs:List D}{lo hi:Option Int}(hv:EVP h₁ r sc vars value (.list xs)) (hl:PartI h₁ r sc vars lower lo) (hu:PartI h₁ r sc vars upper hi) (hz:xs.length ≤ 2 ^ 20)
  (ht:∀ o r,letTemporaryGo value o r = pure ():=by intro _ _;rfl):EVP h₁ r sc vars (.Subscript value (.Slice lower upper none p) pos) (.list (pickL xs lo hi none)):=by
 intro prog w A env s H Q E T R I O k
 refine wpAny_Subscript_list_slice (hv prog w A env s H _ E T R I O fun v s₁ st I₁ hx=>?_) ht
 refine ex46 hx.asList fun a o items n zq1 e1 c1 c2 hH hN vl=>?_;subst zq1
 refine hl.run T R I₁ (O.grow st.st) fun v1 s₂ st₂ I₂ h1=>?_
 refine hu.run T R I₂ ((O.grow st.st).grow st₂.st) fun v2 s₃ st₃ I₃ h2=>?_
 have st13:=st₂.trans st₃
 have e3:=st13.st.keep _ _ e1 List.not_mem_nil (tabs_lt hN)
 have hlen:items.size = xs.length:=by have:=vl.length;simpa using this
 refine ⟨a,items,lo,hi,rfl,⟨o,e3,c1,n,c2⟩,by rw [hlen,sizeLine_eq];lia,h1,h2,?_⟩
 have st4:SStep [] s₃ { s₃ with heap:=(s₃.heap.push { cls:=.type "slice",data:=.fields #[v1,v2,.none] }).push { cls:=.type "list",data:=.seq (slicePick items lo hi none) } }:=SStep.heap' ((Step.push _).trans (Step.push _))
 exact k _ _ (st.trans (st13.trans st4)) ((I₃.pushed _).pushed _) (V.sliced (l:=a) (o:=o) (n:=n) I₃ (vl.grow st13.st))
end
end Mine
namespace Mine
variable [Wd]
section
variable {h₁:Gl}{r:Nat}{sc:Sc}{vars:List (Str × D)}{env:Env}{H:List Addr}
theorem EVP.sliceL3 {value:Expr}{lower upper:Option Expr}{ste:Expr}{p pos:Pos}{xs:List D}{lo hi:Option Int}{st:Int}(hv:EVP h₁ r sc vars value (.list xs)) (hl:PartI h₁ r sc vars lower lo) (hu:PartI h₁ r sc vars upper hi) (hs:EVP h₁ r sc vars ste (.int st)) (h0:st ≠ 0) (hz:xs.length ≤ 2 ^ 20)
  (ht:∀ o r,letTemporaryGo value o r = pure ():=by intro _ _;rfl):EVP h₁ r sc vars (.Subscript value (.Slice lower upper (some ste) p) pos) (.list (pickL xs lo hi (some st))):=by
 intro prog w A env s H Q E T R I O k
 refine wpAny_Subscript_Slice_step (T := "list") list_getitem_lookup (hv prog w A env s H _ E T R I O fun v s₁ st₁ I₁ hx=>?_) ht
 refine ex46 hx.asList fun a o items n zq1 e1 c1 c2 hH hN vl=>?_;subst zq1
 refine wpAny_Slice (hl.run T R I₁ (O.grow st₁.st) fun v1 s₂ st₂ I₂ h1=>?_)
 refine hu.run T R I₂ ((O.grow st₁.st).grow st₂.st) fun v2 s₃ st₃ I₃ h2=>?_
 rw [evalPart_some]
 refine hs prog w A env s₃ H _ E T R I₃ (((O.grow st₁.st).grow st₂.st).grow st₃.st) fun v3 s₄ st₄ I₄ h3=>?_
 obtain ⟨_,rfl⟩:=V.intI h3
 have st14:=st₂.trans (st₃.trans st₄)
 have e3:=st14.st.keep _ _ e1 List.not_mem_nil (tabs_lt hN)
 have hlen:items.size = xs.length:=by have:=vl.length;simpa using this
 have hL:s₄.heap.IsList a items:=⟨o,e3,c1,n,c2⟩
 refine ⟨(hL.push _).typeIs,wpAny_getItem_list_slice (hL.push _) (Heap.IsSliceOf.new ..) h1 h2 (.int _ _) (by simpa using h0) ?_ (by rw [hlen,sizeLine_eq];lia)⟩
 rw [Heap.size_push]
 refine k _ _ (st₁.trans (st14.trans (SStep.heap' ((Step.push _).trans (Step.push _))))) ((I₄.pushed _).pushed _) (V.sliced (l:=a) (o:=o) (n:=n) I₄ (vl.grow st14.st))
theorem EVP.addL {l rr:Expr}{pos:Pos}{xs ys:List D}(hl:EVP h₁ r sc vars l (.list xs)) (hr:EVP h₁ r sc vars rr (.list ys)) (hz:xs.length + ys.length ≤ 2 ^ 20):EVP h₁ r sc vars (.BinOp l .Add rr pos) (.list (xs ++ ys)):=by
 intro prog w A env s H Q E T R I O k
 with_reducible refine wpAny_BinOp (hl prog w A env s H _ E T R I O fun v s₁ st I₁ hv=>?_)
 with_reducible refine hr prog w A env s₁ H _ E T R I₁ (O.grow st.st) fun v' s₂ st₂ I₂ hv₂=>?_
 refine ex34 hv.asListX fun a vs n zq1 e1 aH aN vl=>?_;subst zq1
 refine ex34 hv₂.asListX fun b ws n2 zq1 e2 bH bN wl=>?_;subst zq1
 have e1':=st₂.st.keep _ _ e1 List.not_mem_nil (tabs_lt aN)
 have h1:vs.size = xs.length:=by have:=vl.length;simpa using this
 have h2:ws.size = ys.length:=by have:=wl.length;simpa using this
 refine P.add_list e1' e2 ?_ (by rw [h1,h2,sizeLine_eq];lia)
 refine k _ _ (st.trans (st₂.trans (SStep.heap' (Step.push _)))) (I₂.pushed _) (.list (Heap.get?_push_size _ rfl) (fun q=>Nat.lt_irrefl _ (I₂.hok _ q).2) I₂.size ?_)
 rw [Array.toList_append]
 exact ((vl.grow st₂.st).append wl).grow (Step.push _)
theorem EVP.addT {l rr:Expr}{pos:Pos}{xs ys:List D}(hl:EVP h₁ r sc vars l (.tuple xs)) (hr:EVP h₁ r sc vars rr (.tuple ys)) (hx:xs ≠ []) (hy:ys ≠ []) (hz:xs.length + ys.length ≤ 2 ^ 20):EVP h₁ r sc vars (.BinOp l .Add rr pos) (.tuple (xs ++ ys)):=by
 intro prog w A env s H Q E T R I O k
 with_reducible refine wpAny_BinOp (hl prog w A env s H _ E T R I O fun v s₁ st I₁ hv=>?_)
 with_reducible refine hr prog w A env s₁ H _ E T R I₁ (O.grow st.st) fun v' s₂ st₂ I₂ hv₂=>?_
 refine ex46 hv.asTuple fun a o vs n zq1 e1 c1 d1 aH aN vl=>?_;subst zq1
 refine ex46 hv₂.asTuple fun b o2 ws n2 zq1 e2 c2 d2 bH bN wl=>?_;subst zq1
 have e1':=st₂.st.keep _ _ e1 List.not_mem_nil (tabs_lt aN)
 have h1:vs.size = xs.length:=by have:=vl.length;simpa using this
 have h2:ws.size = ys.length:=by have:=wl.length;simpa using this
 obtain ⟨oc,od,oda,osl⟩:=o
 obtain ⟨oc2,od2,oda2,osl2⟩:=o2
 dsimp only at c1 d1 c2 d2
 subst c1 d1 c2 d2
 have n1:¬ vs.isEmpty = true:=fun q=>hx (by
  have:vs.size = 0:=by simpa [Array.isEmpty] using q
  exact List.eq_nil_of_length_eq_zero (by lia))
 have n2':¬ ws.isEmpty = true:=fun q=>hy (by
  have:ws.size = 0:=by simpa [Array.isEmpty] using q
  exact List.eq_nil_of_length_eq_zero (by lia))
 refine concat_meets ⟨_,e1',rfl⟩ ⟨_,e2,rfl⟩ noFill_tuple_add seq_tuple_add PySem.F.slot_tuple_add PySem.F.entry_tuple_add (PySem.F.args_tuple_add_2 _ _) (tuple_addW2 a b vs ws n n2 od od2 osl osl2 n1 n2' (by rw [h1,h2,sizeLine_eq];lia)) ⟨e1',e2,?_⟩
 refine k _ _ (st.trans (st₂.trans (SStep.heap' (Step.push _)))) (I₂.pushed _) (.tuple (Heap.get?_push_size _ rfl) rfl rfl (fun q=>Nat.lt_irrefl _ (I₂.hok _ q).2) I₂.size ?_)
 rw [Array.toList_append]
 exact ((vl.grow st₂.st).append wl).grow (Step.push _)
theorem CallOK.min2 {a b:Int}:CallOK h₁ r (.builtin "min") [.int a,.int b] (.int (if b < a then b else a)):=by
 intro prog w A s H vs Q E T R I x k
 refine ex22 (VL.pair x) fun _ _ zq1 x1 x2=>?_;subst zq1
 ·
  obtain ⟨_,rfl⟩:=V.intI x1;obtain ⟨_,rfl⟩:=V.intI x2
  refine with_size (min_two_ints R.hd fun h' tk hk hz=>?_)
  refine k _ _ (SStep.heap (Step.of_keeps hk hz) tk) (I.grown hk hz) ?_
  by_cases h:b < a
  ·simp only [h,if_true];exact .int _ _
  ·simp only [h,if_false];exact .int _ _
theorem CallOK.listStr {x:List Nat}(hz:x.length ≤ 2 ^ 20):CallOK h₁ r (.type "list") [.str (S x)] (.list (strsD x)):=by
 intro prog w A s H vs Q E T R I hx k
 refine ex11 (VL.one hx) fun _ zq1 x1=>?_;subst zq1
 ·
  obtain ⟨_,rfl⟩:=V.strI x1
  refine with_size (call_list_str R.hd (S x) _ (fun h' tk acc c hk hg hit hz'=>?_) (by simp only [List.size_toArray,sizeLine_eq];lia))
  refine k _ _ (SStep.heap (Step.of_keeps hk hz') tk) (I.grown hk hz') (.list hg (fun q=>Nat.lt_irrefl _ (I.hok _ q).2) I.size ?_)
  have:=signs_vl hit h' H
  simpa [strsD,List.map_map,Function.comp_def] using this
theorem EVP.andV {a b:Expr}{pos:Pos}{x y:Bool}(ha:EVP h₁ r sc vars a (.bool x)) (hb:EVP h₁ r sc vars b (.bool y)):EVP h₁ r sc vars (.BoolOp .And [a,b] pos) (.bool (x && y)):=by
 intro prog w A env s H Q E T R I O k
 refine wpAny_And2 (ha prog w A env s H _ E T R I O fun v s₁ st I₁ hv=>?_)
 obtain rfl:=V.boolI hv
 refine wpAny_truthy_bool ?_
 cases x with
 | false=>exact k _ _ st I₁ (.bool _)
 | true=>
  simp only [if_true]
  exact hb prog w A env s₁ H _ E T R I₁ (O.grow st.st) fun v s₂ st₂ I₂ hv=>k _ _ (st.trans st₂) I₂ hv
theorem IOp.twice {x:List Nat}(h0:x ≠ []) (hz:x.length ≤ 1000):∀ (prog:Program) (w:WW) (A:Around) (s:Shared) (t u:Tok) (Q:Value→Shared→Prop) (E:Value→Shared→Prop),
  Q (.str (S (x ++ x)) s.toks) { s with toks:=s.toks + 1 }→wpAny (model prog w) A (binaryOp .Mult (.str (S x) t) (.int 2 u)) Q E s:=by
 intro prog w A s t u Q E k
 have hl:(S x).length = x.length:=S_len x
 have hp:0 < x.length:=List.length_pos_iff.mpr h0
 refine P.mul_str (by decide) (fun _ _=>?_) (fun _ _=>?_) ?_
 ·rw [hl];lia
 ·rw [hl];show decide (_ > sizeLine) = false;rw [sizeLine_eq];exact decide_eq_false (by show ¬ x.length * 2 > _;lia)
 ·have e1:¬ ((2:Int) < 1):=by decide
  have e2:((2:Int) == 1 || (S x).length == 0) = false:=by rw [hl];simp;exact h0
  rw [if_neg e1,e2,if_neg (by decide)]
  have e3:(⟨(List.replicate (2:Int).toNat (S x).cps).foldl (· ++ ·) #[]⟩:Str) = S (x ++ x):=by
   show (⟨#[] ++ x.toArray ++ x.toArray⟩:Str) = _
   simp
  rw [e3]
  refine ⟨?_,k⟩
  rw [S_len,List.length_append,sizeLine_eq];lia
theorem EVP.mulS2 {l:Expr}{pos p2:Pos}{n:Nat}{x:List Nat}(hl:EVP h₁ r sc vars l (.str (S x))) (h0:x ≠ []) (hz:x.length ≤ 1000):EVP h₁ r sc vars (.BinOp l .Mult (.Constant (.int 2) n p2) pos) (.str (S (x ++ x))):=by
 intro prog w A env s H Q E T R I O k
 with_reducible refine wpAny_BinOp (hl prog w A env s H _ E T R I O fun v s₁ st I₁ hv=>?_)
 obtain ⟨_,rfl⟩:=V.strI hv
 with_reducible refine wpAny_Constant_int ?_
 refine IOp.twice h0 hz prog w A _ _ _ _ E ?_
 exact k _ _ (st.trans (SStep.toks s₁ _)) (I₁.toks _) (.str _ _)
end
end Mine
namespace Mine
noncomputable def EqW (prog:Program) (w:World) (A:Around) (s:Shared) (y x:Value):Prop:=∀ (E:Value→Shared→Prop) (Q:Bool→Shared→Prop),Q true s→wpAny (model prog w) A (eqBool y x) Q E s
section
open AutoSeq1 (wpAny_loadPart')
open MeetsSeq MeetsSeq2 MeetsSeq3
variable {prog:Program}{w:World}{A:Around}{E:Value→Shared→Prop}{s:Shared}{l b:Addr}{items items2:Array Value}{n n2:Nat}{dd dd2:Option Addr}{sl sl2:Array (Option Value)}
theorem tupEqW (hl:s.heap.get? l = some { cls:=.type "tuple",dict:=dd,data:=.seq items n,slots:=sl }) (hb:s.heap.get? b = some { cls:=.type "tuple",dict:=dd2,data:=.seq items2 n2,slots:=sl2 }) (hsz:items.size = items2.size)
  (he:∀ j (h1:j < items.size) (h2:j < items2.size),EqW prog w A s items[j] items2[j]) {Q:PySem.Fin→Shared→Prop}(h:Q (.done (.ret (.bool true))) s):wpAny (model prog w) A (Builtin.«tuple.__eq__» ⟨[.ref l,.ref b],[]⟩) Q E s:=by
 obtain ⟨hp,g,d,tk,os⟩:=s
 have f2:=AutoSeq1.sub_tuple_tuple
 wp_walk using wpAny_loadPart' hl,wpAny_loadPart' hb,wpAny_forIn_list _ (fun rest b s'=>b.1 = none∧s' = ⟨hp,g,d,tk,os⟩∧∃ i,rest = (items.toList.zip items2.toList).drop i) _
 case turn=>
  rintro ⟨y,x⟩ rest b s' ⟨hb',rfl,i,hz⟩
  have hlt:i < (items.toList.zip items2.toList).length:=by
   rcases Nat.lt_or_ge i (items.toList.zip items2.toList).length with h' | h'
   ·exact h'
   ·rw [List.drop_of_length_le h'] at hz;cases hz
  have h1:i < items.size:=by simp at hlt;lia
  have h2:i < items2.size:=by lia
  rw [List.drop_eq_getElem_cons hlt] at hz
  injection hz with hyx hrest
  have hy:y = items[i]:=by have:=congrArg Prod.fst hyx;simpa using this
  have hx:x = items2[i]:=by have:=congrArg Prod.snd hyx;simpa using this
  subst hy hx
  refine wpAny_bind (he i h1 h2 _ _ ?_)
  wp_walk
  exact ⟨rfl,rfl,i + 1,hrest⟩
 case fin=>
  rintro ⟨b1,b2⟩ s' ⟨hb',rfl,i,hz⟩
  simp only at hb'
  subst hb'
  wp_walk
  simpa [Builtin.Tuple.tupleCompareSizes,hsz] using h
 case h=>
  exact ⟨rfl,rfl,0,rfl⟩
theorem tupNeW (hl:s.heap.get? l = some { cls:=.type "tuple",dict:=dd,data:=.seq items n,slots:=sl }) (hb:s.heap.get? b = some { cls:=.type "tuple",dict:=dd2,data:=.seq items2 n2,slots:=sl2 }) (hsz:items.size = items2.size)
  (he:∀ j (h1:j < items.size) (h2:j < items2.size),EqW prog w A s items[j] items2[j]) {Q:PySem.Fin→Shared→Prop}(h:Q (.done (.ret (.bool false))) s):wpAny (model prog w) A (Builtin.«tuple.__ne__» ⟨[.ref l,.ref b],[]⟩) Q E s:=by
 obtain ⟨hp,g,d,tk,os⟩:=s
 have f2:=AutoSeq1.sub_tuple_tuple
 wp_walk using wpAny_loadPart' hl,wpAny_loadPart' hb,wpAny_forIn_list _ (fun rest b s'=>b.1 = none∧s' = ⟨hp,g,d,tk,os⟩∧∃ i,rest = (items.toList.zip items2.toList).drop i) _
 case turn=>
  rintro ⟨y,x⟩ rest b s' ⟨hb',rfl,i,hz⟩
  have hlt:i < (items.toList.zip items2.toList).length:=by
   rcases Nat.lt_or_ge i (items.toList.zip items2.toList).length with h' | h'
   ·exact h'
   ·rw [List.drop_of_length_le h'] at hz;cases hz
  have h1:i < items.size:=by simp at hlt;lia
  have h2:i < items2.size:=by lia
  rw [List.drop_eq_getElem_cons hlt] at hz
  injection hz with hyx hrest
  have hy:y = items[i]:=by have:=congrArg Prod.fst hyx;simpa using this
  have hx:x = items2[i]:=by have:=congrArg Prod.snd hyx;simpa using this
  subst hy hx
  refine wpAny_bind (he i h1 h2 _ _ ?_)
  wp_walk
  exact ⟨rfl,rfl,i + 1,hrest⟩
 case fin=>
  rintro ⟨b1,b2⟩ s' ⟨hb',rfl,i,hz⟩
  simp only at hb'
  subst hb'
  wp_walk
  simpa [Builtin.Tuple.tupleCompareSizes,hsz] using h
 case h=>
  exact ⟨rfl,rfl,0,rfl⟩
end
section
variable [Wd] {prog:Program}{w:WW}{A:Around}{s:Shared}{H:List Addr}
theorem eqW_sh {v1 v2:Value}{d1 d2:D}(x1:V s.heap H v1 d1) (x2:V s.heap H v2 d2) (h1:shaped d1 = true) (h2:shaped d2 = true) (he:PyData.eqv d1 d2 = true) (hu:A.units + 64 < cLine):EqAt A s v1 v2 true:=by
 obtain ⟨_,r1⟩:=x1.reads (canLay_of_shaped h1)
 obtain ⟨_,r2⟩:=x2.reads (canLay_of_shaped h2)
 rw [← he]
 exact eqAt_reads d1 d2 A s v1 v2 _ _ r1 r2 (canLay_of_shaped h1) (canLay_of_shaped h2) (room_of_shaped h1 hu)
noncomputable def SameD (m1 m2:List (Str × D)):Prop:=m1.length = m2.length∧∀ p ∈ m1,shaped p.2 = true∧∃ d',dget m2 p.1 = some d'∧shaped d' = true∧PyData.eqv p.2 d' = true
theorem VP.hits {A:Around}{m2:List (Str × D)}{kb:List (Str × Value)}(pb:VP s.heap H kb m2) (hu:A.units + 64 < cLine) {ka:List (Str × Value)}{m1:List (Str × D)}(x:VP s.heap H ka m1) (h:∀ p ∈ m1,shaped p.2 = true∧∃ d',dget m2 p.1 = some d'∧shaped d' = true∧PyData.eqv p.2 d' = true):KeqHits A s kb ka true:=by
 induction x with
 | nil=>exact .nil
 | @cons k v d l m hv hr ih=>
  refine ex0112 (h (k,d) (.head _)) fun h1 d' h2 h3 h4=>?_
  rcases pb.get k with ⟨e,_⟩ | ⟨d'',u,e,e2,hu'⟩
  ·rw [e] at h2;cases h2
  ·rw [e] at h2;cases h2
   have:=KeqHits.hit (K:=Str) (A:=A) (s:=s) (v:=v) e2 (eqW_sh hv hu' h1 h3 h4 hu) (ih fun p hp=>h p (.tail _ hp))
   exact this
theorem eqW_dict {v1 v2:Value}{m1 m2:List (Str × D)}(x1:V s.heap H v1 (dictD m1)) (x2:V s.heap H v2 (dictD m2)) (h:SameD m1 m2) (hu:A.units + 70 < cLine):EqW prog w A s v1 v2:=by
 refine ex13 x1.asDI fun a zq1 aH aN da=>?_;subst zq1
 refine ex13 x2.asDI fun b zq1 bH bN db=>?_;subst zq1
 by_cases hab:a = b
 ·subst hab;exact fun E Q hq=>EqAt.same _ prog w E Q hq
 intro E Q hq
 unfold eqBool
 refine wpAny_holding ?_
 refine wpAny_ite_split (fun hq=>absurd (by have:=eq_of_beq hq;injection this) hab) (fun _=>?_)
 refine ex11 (da.dictOf prog w) fun ka dka pa=>?_
 refine ex11 (db.dictOf prog w) fun kb dkb pb=>?_
 refine wpAny_bind ?_
 refine keq_eq (r:=true) (notSys aN) (notSys bN) dka dkb (by lia) (fun _=>pb.hits (by show A.units + 1 + 64 < cLine;lia) pa h.2) ?_
 have e:(ka.length == kb.length && true) = true:=by
  have h1:=pa.length
  have h2:=pb.length
  have h3:=h.1
  simp;lia
 rw [e]
 exact wpAny_truthy_bool hq
noncomputable def rowD (t:Int × Int × Int × Int) (m:List (Str × D)):D:=.tuple [.int t.1,.int t.2.1,.int t.2.2.1,.int t.2.2.2,dictD m]
theorem rowEls {v1 v2:List Value}{t:Int × Int × Int × Int}{m1 m2:List (Str × D)}(x1:VL s.heap H v1 [.int t.1,.int t.2.1,.int t.2.2.1,.int t.2.2.2,dictD m1]) (x2:VL s.heap H v2 [.int t.1,.int t.2.1,.int t.2.2.1,.int t.2.2.2,dictD m2]) (h:SameD m1 m2) (hu:A.units + 70 < cLine) :
  ∀ j (h1:j < v1.length) (h2:j < v2.length),EqW prog w A s v1[j] v2[j]:=by
 have hin:∀ {a b:Value}{i:Int},V s.heap H a (.int i)→V s.heap H b (.int i)→EqW prog w A s a b:=fun ha hb E Q hq=>eqW_sh ha hb rfl rfl (by simp [PyData.eqv]) (by lia) prog w E Q hq
 have key:∀ {i:Nat}{d1 d2:D},[PyData.int t.1,.int t.2.1,.int t.2.2.1,.int t.2.2.2,dictD m1][i]? = some d1→[PyData.int t.1,.int t.2.1,.int t.2.2.1,.int t.2.2.2,dictD m2][i]? = some d2→(∀ {a b:Value},V s.heap H a d1→V s.heap H b d2→EqW prog w A s a b)→∀ (h1:i < v1.length) (h2:i < v2.length),EqW prog w A s v1[i] v2[i]:=by
  intro i d1 d2 e1 e2 f h1 h2
  refine ex11 (x1.get e1) fun a ea va=>?_
  refine ex11 (x2.get e2) fun b eb vb=>?_
  rw [List.getElem?_eq_getElem h1] at ea
  rw [List.getElem?_eq_getElem h2] at eb
  obtain rfl:=Option.some.inj ea
  obtain rfl:=Option.some.inj eb
  exact f va vb
 intro j h1 h2
 have hl:j < 5:=by rw [x1.length] at h1;exact h1
 rcases j with _ | _ | _ | _ | _ | j
 ·exact key rfl rfl hin h1 h2
 ·exact key rfl rfl hin h1 h2
 ·exact key rfl rfl hin h1 h2
 ·exact key rfl rfl hin h1 h2
 ·exact key rfl rfl (fun a b=>eqW_dict a b h hu) h1 h2
 ·exact absurd (Nat.lt_of_add_lt_add_right (n:=5) (k:=j) (m:=0) hl) (Nat.not_lt_zero _)
theorem COp.rowEq {t:Int × Int × Int × Int}{m1 m2:List (Str × D)}(h:SameD m1 m2):COp .Eq (rowD t m1) (rowD t m2) true:=by
 intro prog w A s H v1 v2 Q E R x1 x2 k
 refine ex46 x1.asTuple fun a o vs n zq1 e1 c1 d1 aH aN vl=>?_;subst zq1
 refine ex46 x2.asTuple fun b o2 ws n2 zq1 e2 c2 d2 bH bN wl=>?_;subst zq1
 obtain ⟨oc,od,oda,osl⟩:=o
 obtain ⟨oc2,od2,oda2,osl2⟩:=o2
 dsimp only at c1 d1 c2 d2
 subst c1 d1 c2 d2
 have n1:vs.size = 5:=by have:=vl.length;simpa using this
 have n2':ws.size = 5:=by have:=wl.length;simpa using this
 have hu:=R.units
 have hun:=R.un
 refine wpAny_richCompare_same_room (op:=.Eq) ⟨_,e1,rfl⟩ ⟨_,e2,rfl⟩ PySem.F.slot_tuple_eq (wpAny_call_entry PySem.F.slot_tuple_eq ⟨_,e1,rfl⟩ PySem.F.entry_tuple_eq ?_ (PySem.F.args_tuple_eq_2 _ _)) (by lia)
 refine tupEqW e1 e2 (by lia) (fun j h1 h2=>?_) ⟨_,rfl,(fun x=>nomatch x),k⟩
 have:=rowEls (A:=A.in1) (prog:=prog) (w:=w) vl wl h (by show A.units + 1 + 70 < cLine;simp only [cLine];lia) j (by simpa using h1) (by simpa using h2)
 simpa using this
theorem COp.rowNe {t:Int × Int × Int × Int}{m1 m2:List (Str × D)}(h:SameD m1 m2):COp .NotEq (rowD t m1) (rowD t m2) false:=by
 intro prog w A s H v1 v2 Q E R x1 x2 k
 refine ex46 x1.asTuple fun a o vs n zq1 e1 c1 d1 aH aN vl=>?_;subst zq1
 refine ex46 x2.asTuple fun b o2 ws n2 zq1 e2 c2 d2 bH bN wl=>?_;subst zq1
 obtain ⟨oc,od,oda,osl⟩:=o
 obtain ⟨oc2,od2,oda2,osl2⟩:=o2
 dsimp only at c1 d1 c2 d2
 subst c1 d1 c2 d2
 have n1:vs.size = 5:=by have:=vl.length;simpa using this
 have n2':ws.size = 5:=by have:=wl.length;simpa using this
 have hu:=R.units
 have hun:=R.un
 refine wpAny_richCompare_same_room (op:=.NotEq) ⟨_,e1,rfl⟩ ⟨_,e2,rfl⟩ PySem.F.slot_tuple_ne (wpAny_call_entry PySem.F.slot_tuple_ne ⟨_,e1,rfl⟩ PySem.F.entry_tuple_ne ?_ (PySem.F.args_tuple_ne_2 _ _)) (by lia)
 refine tupNeW e1 e2 (by lia) (fun j h1 h2=>?_) ⟨_,rfl,(fun x=>nomatch x),k⟩
 have:=rowEls (A:=A.in1) (prog:=prog) (w:=w) vl wl h (by show A.units + 1 + 70 < cLine;simp only [cLine];lia) j (by simpa using h1) (by simpa using h2)
 simpa using this
end
end Mine
namespace Mine
noncomputable def fxL:List Int:=[0,2,4,1,1100]
noncomputable def drw (ns:List Int) (i:Nat):Int:=(pickL ns (some (i:Int)) none (some 5)).sum + fxL.getD i 0
noncomputable def drawsL (ns:List Int):List Int:=(List.range 5).map (drw ns)
theorem pickL_map {α β:Type}(f:α→β) (xs:List α) (lo hi st:Option Int):pickL (xs.map f) lo hi st = (pickL xs lo hi st).map f:=by
 unfold pickL
 rw [List.length_map,List.map_filterMap]
 congr 1
 funext i
 rw [List.getElem?_map]
variable [Wd]
abbrev scL:Sc:=⟨scOf0 (stOf 20),[]⟩
section
variable {h₁:Gl}{r:Nat}{vars:List (Str × D)}
theorem law_draws {ns:List Int}{vs:List (Str × D)}(v1:Has vs "script" (.list (intL ns))) (hz:ns.length ≤ 2 ^ 20):SX1 h₁ r scL vs (innOf (stOf 20) 0) (· = .next (("draws",.list (intL (drawsL ns)))::vs)):=by
 have e0:PyData.list (intL (drawsL ns)) = .list (compOut (fun _=>true) (fun i=>.int (drw ns i)) (enumL (intL fxL)).length):=by
  rw [compOut_range (l:=intL (drawsL ns)) (by simp [drawsL,enumL,fxL]) fun i hi=>?_]
  have hi':i < 5:=by simpa [enumL,fxL] using hi
  simp [intL,drawsL,hi']
 rw [e0]
 conv=>arg 5;whnf
 refine SXR1.pure (P:=Rp.nil) (SXR1.assignComp (P':=Rp.nil) rfl (CompOK.list (fun _=>true) (fun i=>.int (drw ns i)) (fun _=>Rp.nil) (EVJ.enumerate (xs:=intL fxL) (EVP.list (EVS.cons EVP.const_int (EVS.cons EVP.const_int (EVS.cons EVP.const_int (EVS.cons EVP.const_int (EVS.cons EVP.const_int EVS.nil))))) (by decide)) rfl) ?k1 (by rw [enumL_len];simp [fxL]) (fun _ _=>rfl) fun i d hd=>?k2) rfl rfl rfl rfl) Rp.nil_ok
 case k1=>
  refine ⟨rfl,by decide,by decide,?_⟩
  intro z hz
  have hz':z ∈ (["script"]:List Str):=hz
  rcases ms hz' with rfl
  exact ⟨rfl,rfl,.inl (by rw [v1];rfl)⟩
 case k2=>
  have hi:i < 5:=by
   have:=(List.getElem?_eq_some_iff.mp hd).1
   rw [enumL_len] at this;simpa [fxL] using this
  have hfx:(intL fxL)[i]? = some (.int (fxL.getD i 0)):=by
   have:i < fxL.length:=hi
   simp [intL,this]
  rw [enumL_get hfx] at hd
  cases hd
  refine ⟨_,.tup rfl ?_ rfl,?_,.inl ⟨rfl,rfl⟩,nofun,fun _=>?_⟩
  ·exact fm rfl (fm rfl fn)
  ·exact skip_weak (cvars_none rfl) (skip_weak (cvars_none rfl) fun _ _ q=>q)
  ·have w1:Has (("fixed",.int (fxL.getD i 0))::("place",.int (i:Int))::cvars vs (compScope (valE (innOf (stOf 20) 0)))) "script" (.list (intL ns)):=((cvars_has v1 rfl).skip rfl).skip rfl
   have w2:Has (("fixed",.int (fxL.getD i 0))::("place",.int (i:Int))::cvars vs (compScope (valE (innOf (stOf 20) 0)))) "place" (.int (i:Int)):=Has.here.skip rfl
   have w3:Has (("fixed",.int (fxL.getD i 0))::("place",.int (i:Int))::cvars vs (compScope (valE (innOf (stOf 20) 0)))) "fixed" (.int (fxL.getD i 0)):=Has.here
   refine EVP.re (EVP.binop (a:=(pickL ns (some (i:Int)) none (some 5)).sum) (EVP.call (NameIs.bi (f:=.builtin "sum") (by decide) rfl rfl) KeepOK.builtin (EVS.cons (d:=.list (intL (pickL ns (some (i:Int)) none (some 5)))) ?_ EVS.nil) CallOK.sum) (EVP.name w3 rfl) IOp.add)
   have:=pickL_map PyData.int ns (some (i:Int)) none (some 5)
   unfold intL
   rw [← this]
   exact EVP.sliceL3 (EVP.name w1 rfl) (.inr ⟨_,_,rfl,rfl,EVP.name w2 rfl⟩) (.inl ⟨rfl,rfl⟩) EVP.const_int (by decide) (by simpa [intL] using hz)
end
end Mine
namespace Mine
noncomputable def zSize (ns:List Int):Nat:=2 + (drw ns 0 % 3).toNat
noncomputable def zR (ns:List Int):Nat:=7 - zSize ns
noncomputable def zL (ns:List Int):Nat:=1 + (drw ns 1 % ((min 4 (zR ns):Nat):Int)).toNat
noncomputable def zQ (ns:List Int):Nat:=zSize ns ^ zL ns
noncomputable def zF (ns:List Int):Nat:=(drw ns 2 % (zQ ns:Int)).toNat
noncomputable def zS (ns:List Int):Nat:=(zF ns + 1 + (drw ns 3 % ((zQ ns - 1:Nat):Int)).toNat) % zQ ns
noncomputable def zStart (ns:List Int):Nat:=(drw ns 0 / 3 % 6).toNat
noncomputable def zW (ns:List Int):Nat:=9 + (drw ns 4 % 1200).toNat
noncomputable def alph:List Nat:=[97,34,92,32,10,35]
noncomputable def zSg (ns:List Int):List Nat:=((alph ++ alph).drop (zStart ns)).take (zSize ns)
noncomputable def wordOf (sg:List Nat) (k L n:Nat):List Nat:=(List.range L).map fun p=>sg.getD (n / k ^ p % k) 0
noncomputable def zU (ns:List Int):List Nat:=wordOf (zSg ns) (zSize ns) (zL ns) (zF ns)
noncomputable def zV (ns:List Int):List Nat:=wordOf (zSg ns) (zSize ns) (zL ns) (zS ns)
noncomputable def zB (ns:List Int):Nat:=2 ^ zW ns
theorem zSize_b (ns:List Int):2 ≤ zSize ns∧zSize ns ≤ 4:=by unfold zSize;lia
theorem zR_b (ns:List Int):3 ≤ zR ns∧zR ns ≤ 5:=by have:=zSize_b ns;unfold zR;lia
theorem zL_b (ns:List Int):1 ≤ zL ns∧zL ns ≤ min 4 (zR ns):=by
 have h:=zR_b ns
 have h1:(0:Int) < ((min 4 (zR ns):Nat):Int):=by lia
 have h2:=Int.emod_nonneg (drw ns 1) (Int.ne_of_gt h1)
 have h3:=Int.emod_lt_of_pos (drw ns 1) h1
 unfold zL;lia
theorem zQ_b (ns:List Int):2 ≤ zQ ns∧zQ ns ≤ 256:=by
 have h1:=zSize_b ns
 have h2:=zL_b ns
 unfold zQ
 refine ⟨?_,?_⟩
 ·exact Nat.le_trans h1.1 (Nat.le_trans (Nat.le_of_eq (Nat.pow_one _).symm) (Nat.pow_le_pow_right (by lia) h2.1))
 ·exact Nat.le_trans (Nat.pow_le_pow_left h1.2 _) (Nat.le_trans (Nat.pow_le_pow_right (by decide) (show zL ns ≤ 4 by lia)) (by decide))
theorem zF_b (ns:List Int):zF ns < zQ ns:=by
 have h:=zQ_b ns
 have h1:(0:Int) < (zQ ns:Int):=by lia
 have h2:=Int.emod_nonneg (drw ns 2) (Int.ne_of_gt h1)
 have h3:=Int.emod_lt_of_pos (drw ns 2) h1
 unfold zF;lia
theorem zS_b (ns:List Int):zS ns < zQ ns:=Nat.mod_lt _ (by have:=zQ_b ns;lia)
theorem zStart_b (ns:List Int):zStart ns < 6:=by unfold zStart;lia
theorem zW_b (ns:List Int):9 ≤ zW ns∧zW ns ≤ 1208:=by unfold zW;lia
theorem zSg_len (ns:List Int):(zSg ns).length = zSize ns:=by
 have h1:=zSize_b ns
 have h2:=zStart_b ns
 unfold zSg
 rw [List.length_take,List.length_drop]
 have:(alph ++ alph).length = 12:=rfl
 lia
variable [Wd]
section
variable {h₁:Gl}{r:Nat}{vars:List (Str × D)}
theorem drawE {ns:List Int}{vs:List (Str × D)}{k:Nat}{p1 p2 p3:Pos}{n:Nat}(v1:Has vs "draws" (.list (intL (drawsL ns)))) (hk:k < 5):EVP h₁ r scL vs (.Subscript (.Name "draws" p1) (.Constant (.int (k:Int)) n p2) p3) (.int (drw ns k)):=by
 refine EVP.item (EVP.name v1 rfl) EVP.constN (GetOK.list ?_ (by lia)) rfl
 simp [intL,drawsL,hk]
theorem st_size {ns:List Int}{vs:List (Str × D)}(v1:Has vs "draws" (.list (intL (drawsL ns)))):SX1 h₁ r scL vs (innOf (stOf 20) 1) (· = .next (("size",.int (zSize ns:Int))::vs)):=by
 conv=>arg 5;whnf
 refine SX1.assign (EVP.as (EVP.binop EVP.const_int (EVP.binop (drawE (k:=0) v1 (by decide)) EVP.const_int (IOp.modP (b:=3) (by decide))) IOp.add) ?_) (.inr rfl)
 have:(2 + drw ns 0 % ((3:Nat):Int)) = (zSize ns:Int):=by unfold zSize;lia
 rw [this]
theorem st_rounds {ns:List Int}{vs:List (Str × D)}(v1:Has vs "size" (.int (zSize ns:Int))):SX1 h₁ r scL vs (innOf (stOf 20) 2) (· = .next (("rounds",.int (zR ns:Int))::vs)):=by
 conv=>arg 5;whnf
 have hb:=zSize_b ns
 refine SX1.assign (EVP.item (EVP.tuple (EVS.cons EVP.const_int (EVS.cons EVP.const_int (EVS.cons EVP.const_int EVS.nil)))) (EVP.binop (EVP.name v1 rfl) (EVP.constI (k:=2) rfl) (IOp.subN hb.1)) (GetOK.tuple ?_ (by lia)) rfl) (.inl rfl)
 have h:zSize ns = 2 ∨ zSize ns = 3 ∨ zSize ns = 4:=by lia
 unfold zR
 rcases h with h | h | h <;> rw [h] <;> rfl
theorem st_length {ns:List Int}{vs:List (Str × D)}(v1:Has vs "draws" (.list (intL (drawsL ns)))) (v2:Has vs "rounds" (.int (zR ns:Int))):SX1 h₁ r scL vs (innOf (stOf 20) 3) (· = .next (("length",.int (zL ns:Int))::vs)):=by
 conv=>arg 5;whnf
 have hb:=zR_b ns
 have hm:(if (zR ns:Int) < 4 then (zR ns:Int) else 4) = ((min 4 (zR ns):Nat):Int):=by split <;> lia
 have h0:0 < min 4 (zR ns):=Nat.lt_min.mpr ⟨by decide,Nat.lt_of_lt_of_le (by decide) hb.1⟩
 have h1:(0:Int) < ((min 4 (zR ns):Nat):Int):=Int.ofNat_lt.mpr h0
 refine SX1.assign (EVP.as (EVP.binop EVP.const_int (EVP.binop (b:=((min 4 (zR ns):Nat):Int)) (drawE (k:=1) v1 (by decide)) (EVP.as (EVP.call (NameIs.bi (f:=.builtin "min") (by decide) rfl rfl) KeepOK.builtin (EVS.cons EVP.const_int (EVS.cons (EVP.name v2 rfl) EVS.nil)) CallOK.min2) (by rw [hm])) (IOp.modP h0)) IOp.add) ?_) (.inl rfl)
 have h2:=Int.emod_nonneg (drw ns 1) (Int.ne_of_gt h1)
 have:(1 + drw ns 1 % ((min 4 (zR ns):Nat):Int)) = (zL ns:Int):=by unfold zL;lia
 rw [this]
theorem powE {ns:List Int}{vs:List (Str × D)}{p1 p2 p3:Pos}(v1:Has vs "size" (.int (zSize ns:Int))) (v2:Has vs "length" (.int (zL ns:Int))):EVP h₁ r scL vs (.BinOp (.Name "size" p1) .Pow (.Name "length" p2) p3) (.int (zQ ns:Int)):=by
 have h1:=zSize_b ns
 have h2:=zL_b ns
 refine EVP.binop (EVP.name v1 rfl) (EVP.name v2 rfl) (IOp.powN ?_)
 have h3:bl (zSize ns) ≤ 3:=bl_le (by lia)
 have h4:bl (zSize ns) * zL ns ≤ 3 * 4:=Nat.mul_le_mul h3 (by lia)
 lia
theorem st_first {ns:List Int}{vs:List (Str × D)}(v0:Has vs "draws" (.list (intL (drawsL ns)))) (v1:Has vs "size" (.int (zSize ns:Int))) (v2:Has vs "length" (.int (zL ns:Int))):SX1 h₁ r scL vs (innOf (stOf 20) 4) (· = .next (("first",.int (zF ns:Int))::vs)):=by
 conv=>arg 5;whnf
 have hb:=zQ_b ns
 refine SX1.assign (EVP.as (EVP.binop (drawE (k:=2) v0 (by decide)) (powE v1 v2) (IOp.modP (by lia))) ?_) (.inr rfl)
 have h1:(0:Int) < (zQ ns:Int):=by lia
 have h2:=Int.emod_nonneg (drw ns 2) (Int.ne_of_gt h1)
 have:drw ns 2 % (zQ ns:Int) = (zF ns:Int):=by unfold zF;lia
 rw [this]
theorem st_second {ns:List Int}{vs:List (Str × D)}(v0:Has vs "draws" (.list (intL (drawsL ns)))) (v1:Has vs "size" (.int (zSize ns:Int))) (v2:Has vs "length" (.int (zL ns:Int))) (v3:Has vs "first" (.int (zF ns:Int))):SX1 h₁ r scL vs (innOf (stOf 20) 5) (· = .next (("second",.int (zS ns:Int))::vs)):=by
 conv=>arg 5;whnf
 have hb:=zQ_b ns
 refine SX1.assign (EVP.as (EVP.binop (EVP.binop (EVP.binop (EVP.name v3 rfl) EVP.const_int IOp.add) (EVP.binop (drawE (k:=3) v0 (by decide)) (EVP.binop (powE v1 v2) EVP.c1 (IOp.subN (by lia))) (IOp.modP (by lia))) IOp.add) (powE v1 v2) (IOp.modP (by lia))) ?_) (.inr rfl)
 have h1:(0:Int) < ((zQ ns - 1:Nat):Int):=by lia
 have h2:=Int.emod_nonneg (drw ns 3) (Int.ne_of_gt h1)
 have:((zF ns:Int) + 1 + drw ns 3 % ((zQ ns - 1:Nat):Int)) % (zQ ns:Int) = (zS ns:Int):=by
  unfold zS
  rw [Int.natCast_emod]
  congr 1
  lia
 rw [this]
theorem st_start {ns:List Int}{vs:List (Str × D)}(v0:Has vs "draws" (.list (intL (drawsL ns)))):SX1 h₁ r scL vs (innOf (stOf 20) 6) (· = .next (("start",.int (zStart ns:Int))::vs)):=by
 conv=>arg 5;whnf
 refine SX1.assign (EVP.as (EVP.binop (EVP.binop (drawE (k:=0) v0 (by decide)) EVP.const_int (IOp.divP (b:=3) (by decide) (by decide))) EVP.const_int (IOp.modP (b:=6) (by decide))) ?_) (.inl rfl)
 have:drw ns 0 / ((3:Nat):Int) % ((6:Nat):Int) = (zStart ns:Int):=by unfold zStart;lia
 rw [this]
end
end Mine
namespace Mine
variable [Wd]
section
variable {h₁:Gl}{r:Nat}{sc:Sc}{vars:List (Str × D)}{env:Env}{H:List Addr}
theorem subscriptTail_slice {prog:Program}{w:WW}{A:Around}{E:Value→Shared→Prop}{s:Shared}{value:Expr}{lower upper:Option Expr}{p:Pos}{o i:Value}{T id:String}{Q:Value→Shared→Prop}(hT:s.TypeIs o T)
  (hl:typeLookup (.type T) "__getitem__" = pure (some (.builtin id))) (h:wpAny (model prog w) A (getItem o i) Q E s) :
  wpAny (model prog w) A (subscriptTail value (.Slice lower upper none p) o i) Q E s:=by
 unfold subscriptTail
 refine wpAny_bind ?_
 rw [getitemInPython_of_ne hT.not_modules]
 refine wpAny_bind (wpAny_specialOf hT hl ?_)
 have fin:wpAny (model prog w) A (subscripted (.Slice lower upper none p) false o i) (fun r s₃=>wpAny (model prog w) A (letTemporaryGo value o r >>= fun _=>pure r) Q E s₃) E s:=by
  refine wpAny_operating (wpAny_mono h (fun r s₃ h₃=>wpAny_bind (wpAny_letTemporaryGo (wpAny_pure h₃))) fun _ _ x=>x)
 first
  | exact wpAny_pure (wpAny_bind fin)
  | exact wpAny_bind (wpAny_pure (wpAny_bind fin))
  | exact wpAny_bind fin
theorem EVP.sliceS2 {value:Expr}{lower upper:Option Expr}{p pos:Pos}{x:Str}{a b:Nat}(hv:EVP h₁ r sc vars value (.str x)) (hl:PartP h₁ r sc vars lower a 0) (hu:PartP h₁ r sc vars upper b x.length) (hab:a ≤ b) (hb:b ≤ x.length) (hx20:x.length ≤ 2 ^ 20):EVP h₁ r sc vars (.Subscript value (.Slice lower upper none p) pos) (.str (subS x a b)):=by
 intro prog w A env s H Q E T R I O k
 with_reducible refine Subscript_ (hv prog w A env s H _ E T R I O fun v s₁ st I₁ hx=>?_)
 obtain ⟨_,rfl⟩:=V.strI hx
 rename_i t
 refine wpAny_Slice (hl.run T R I₁ (O.grow st.st) fun ql s₂ st₂ I₂ hql=>?_)
 refine hu.run T R I₂ ((O.grow st.st).grow st₂.st) fun qu s₃ st₃ I₃ hqu=>?_
 rw [evalPart_none]
 refine wpAny_pure ?_
 refine subscriptTail_slice (typeIs_str _ x t) PySem.F.slot_str_getitem.lookup (wpAny_getItem_str_slice (l:=ql) (u:=qu) (st:=none) ⟨_,Heap.get?_push_size _ rfl,rfl,rfl⟩ rfl ?_)
 exact sliceFin hab hb hx20 hql hqu (st.trans (st₂.trans st₃)) I₃ k
theorem st_signs {ns:List Int}{vs:List (Str × D)}(v1:Has vs "start" (.int (zStart ns:Int))) (v2:Has vs "size" (.int (zSize ns:Int))):SX1 h₁ r scL vs (innOf (stOf 20) 7) (· = .next (("signs",.list (strsD (zSg ns)))::vs)):=by
 conv=>arg 5;whnf
 have hb:=zSize_b ns
 have hs:=zStart_b ns
 have hl:(S (alph ++ alph)).length = 12:=rfl
 have hal:(Str.ofString "a\"\\ \n#") = S alph:=rfl
 have e:subS (S (alph ++ alph)) (zStart ns) (zStart ns + zSize ns) = S (zSg ns):=by
  rw [subS_S]
  unfold zSg
  congr 3
  exact Nat.add_sub_cancel_left ..
 refine SX1.assign (EVP.call (NameIs.bi (f:=.type "list") (by decide) boot_list rfl) KeepOK.type (EVS.cons (EVP.as (EVP.sliceS2 (x:=S (alph ++ alph)) (a:=zStart ns) (b:=zStart ns + zSize ns) (EVP.mulS2 (x:=alph) EVP.const_str (by decide) (by decide)) (.inr ⟨_,rfl,EVP.name v1 rfl⟩) (.inr ⟨_,rfl,EVP.binop (EVP.name v1 rfl) (EVP.name v2 rfl) IOp.addN⟩) (Nat.le_add_right ..) (by rw [hl];exact Nat.le_trans (Nat.add_le_add (Nat.le_of_lt hs) hb.2) (by decide)) (by rw [hl];decide)) (by rw [e])) EVS.nil) (CallOK.listStr (by rw [zSg_len];exact Nat.le_trans hb.2 (by decide)))) (.inr rfl)
theorem wordComp {sg:List Nat}{k L n:Nat}{x:Str}{vs:List (Str × D)}{p1 p2 p3 p4 p5 p6 p7 p8 p9 pa pb pc pd pe:Pos}{scope:Scope}(hk:2 ≤ k∧k ≤ 4) (hL:L ≤ 4) (hsg:sg.length = k) (v1:Has vs "signs" (.list (strsD sg))) (v2:Has vs "size" (.int (k:Int))) (v3:Has vs x (.int (n:Int))) (v4:Has vs "length" (.int (L:Int)))
  (hx:(x == ("place":Str)) = false) (hx2:inFree scope x = true) (hx3:(x == ("__debug__":Str)) = false) (f1:inFree scope "signs" = true) (f2:inFree scope "size" = true) (f3:inFree scope "place" = false) (hc:CompSc scL vs scope) (ht:stoK (csc scL scope) "place" = some .local) :
  EVP h₁ r scL vs (.ListComp (.Subscript (.Name "signs" p1) (.BinOp (.BinOp (.Name x p2) .FloorDiv (.BinOp (.Name "size" p3) .Pow (.Name "place" p4) p5) p6) .Mod (.Name "size" p7) p8) p9) [⟨.Name "place" pa,.Call (.Name "range" pb) [.Name "length" pc] [] pd,[],0⟩] scope pe) (.list (strL ((wordOf sg k L n).map fun c=>S [c]))):=by
 have hlen:(rangeL 0 L).length = L:=by rw [rangeL_len];rfl
 have hk0:0 < k:=Nat.lt_of_lt_of_le (by decide) hk.1
 have h:=EVR.pure (P:=Rp.nil) (P':=Rp.nil) (EVR.listcomp (h₁:=h₁) (r:=r) (sc:=scL) (vars:=vs) (X:=[]) (elt:=.Subscript (.Name "signs" p1) (.BinOp (.BinOp (.Name x p2) .FloorDiv (.BinOp (.Name "size" p3) .Pow (.Name "place" p4) p5) p6) .Mod (.Name "size" p7) p8) p9) (pos:=pe) (ifs:=[]) rfl (CompOK.list (scope:=scope) (fun _=>true) (fun i=>.str (S [sg.getD (n / k ^ i % k) 0])) (fun _=>Rp.nil) (EVI.j (x := "place") (p:=pa) (EVI.range1 (p:=pb) (pos:=pd) (EVP.name (pos:=pc) v4 rfl) (Nat.lt_of_le_of_lt hL (by decide)) rfl)) hc (Nat.le_trans (Nat.le_of_eq hlen) (Nat.le_trans hL (by decide))) (fun _ _=>rfl) fun i d hd=>?k2)) Rp.nil_ok
 case k2=>
  have hi:i < L:=by
   exact hlen ▸ (List.getElem?_eq_some_iff.mp hd).1
  have hi4:=Nat.le_trans (Nat.le_of_lt hi) hL
  rw [rangeL_get hi] at hd
  cases hd
  refine ⟨_,.name ht,skip_weak (cvars_none f3) fun _ _ q=>q,.inl ⟨rfl,rfl⟩,nofun,fun _=>EVP.re ?_⟩
  have w1:Has ((("place":Str),PyData.int ((0 + i:Nat):Int))::cvars vs scope) "signs" (.list (strsD sg)):=(cvars_has v1 f1).skip rfl
  have w2:Has ((("place":Str),PyData.int ((0 + i:Nat):Int))::cvars vs scope) "size" (.int (k:Int)):=(cvars_has v2 f2).skip rfl
  have w3:Has ((("place":Str),PyData.int ((0 + i:Nat):Int))::cvars vs scope) x (.int (n:Int)):=(cvars_has v3 hx2).skip hx
  have w4:Has ((("place":Str),PyData.int ((0 + i:Nat):Int))::cvars vs scope) "place" (.int ((0 + i:Nat):Int)):=Has.here
  have hpw:k ^ i ≤ 256:=Nat.le_trans (Nat.pow_le_pow_left hk.2 i) (Nat.le_trans (Nat.pow_le_pow_right (by decide) hi4) (by decide))
  have hpp:0 < k ^ i:=Nat.pow_pos hk0
  have hbl:bl k * i ≤ 134217728:=by
   have h3:bl k ≤ 3:=bl_le (Nat.lt_of_le_of_lt hk.2 (by decide))
   exact Nat.le_trans (Nat.mul_le_mul h3 hi4) (by decide)
  have hidx:n / k ^ i % k < sg.length:=by rw [hsg];exact Nat.mod_lt _ hk0
  refine EVP.item (EVP.name w1 rfl) (di:=.int ((n / k ^ i % k:Nat):Int)) (EVP.as (EVP.binop (EVP.binop (EVP.name w3 hx3) (EVP.binop (EVP.name w2 rfl) (EVP.name w4 rfl) (IOp.powN (a:=k) (n:=0 + i) (by rw [Nat.zero_add];exact hbl))) (IOp.divP (b:=k ^ (0 + i)) (by rw [Nat.zero_add];exact hpp) (by rw [Nat.zero_add];omega))) (EVP.name w2 rfl) (IOp.modP (b:=k) hk0)) (by rw [Nat.zero_add];simp)) (GetOK.list ?_ ?_) rfl
  ·simp [strsD,hidx]
  ·exact Nat.lt_trans hidx (Nat.lt_of_le_of_lt (hsg ▸ hk.2) (by decide))
 rw [hlen] at h
 have e:compOut (fun _=>true) (fun i=>PyData.str (S [sg.getD (n / k ^ i % k) 0])) L = strL ((wordOf sg k L n).map fun c=>S [c]):=by
  refine compOut_range (by simp [wordOf]) fun i hi=>?_
  simp [wordOf,hi]
 rw [e] at h
 exact h
theorem flat1:∀ l:List Nat,(l.map fun c=>[c]).flatten = l
 | []=>rfl
 | a::l=>by rw [List.map_cons,List.flatten_cons,flat1 l];rfl
theorem ones_sum:∀ l:List Nat,((l.map fun c=>[c]).map List.length).sum = l.length
 | []=>rfl
 | a::l=>by rw [List.map_cons,List.map_cons,List.sum_cons,ones_sum l];simp only [List.length_cons,List.length_nil];omega
theorem joinW {l:List Nat}(h:l.length ≤ 1000):JoinOk (S []) (l.map fun c=>S [c]) = true:=by
 have:=joinOk_small (l:=l.map fun c=>[c]) (by rw [ones_sum];exact h)
 rwa [List.map_map] at this
theorem join1 (l:List Nat):Txt.join (S []) (l.map fun c=>S [c]) = S l:=by
 have:=joinS (l.map fun c=>[c])
 rw [List.map_map] at this
 have e2:=flat1 l
 rw [e2] at this
 exact this
theorem wordOf_len (sg:List Nat) (k L n:Nat):(wordOf sg k L n).length = L:=by simp [wordOf]
set_option maxRecDepth 4000 in
theorem st_one {ns:List Int}{vs:List (Str × D)}(v1:Has vs "signs" (.list (strsD (zSg ns)))) (v2:Has vs "size" (.int (zSize ns:Int))) (v3:Has vs "first" (.int (zF ns:Int))) (v4:Has vs "length" (.int (zL ns:Int))):SX1 h₁ r scL vs (innOf (stOf 20) 8) (· = .next (("one",.str (S (zU ns)))::vs)):=by
 have hl:=zL_b ns
 conv=>arg 5;whnf
 refine SX1.assign (EVP.as (d':=.str (Txt.join (S []) ((wordOf (zSg ns) (zSize ns) (zL ns) (zF ns)).map fun c=>S [c]))) ?m ?e) (.inr rfl)
 case m=>
  with_reducible refine' EVP.meth EVP.const_str (EVS.cons (d:=.list (strL ((wordOf (zSg ns) (zSize ns) (zL ns) (zF ns)).map fun c=>S [c]))) ?c EVS.nil ?q0) (MethOK.join ?j) ?q1 ?q2 ?q3
  case q0=>exact rfl
  case q1=>exact rfl
  case q2=>exact rfl
  case q3=>decide
  case j=>exact joinW (by rw [wordOf_len];exact Nat.le_trans hl.2 (Nat.le_trans (Nat.min_le_left ..) (by decide)))
  case c=>
   with_reducible refine wordComp (x := "first") (n:=zF ns) (zSize_b ns) (Nat.le_trans hl.2 (Nat.min_le_left ..)) (zSg_len ns) v1 v2 v3 v4 rfl rfl rfl rfl rfl rfl ?_ rfl
   refine ⟨rfl,by decide,by decide,fm ⟨rfl,rfl,.inl (by rw [v3];rfl)⟩ (fm ⟨rfl,rfl,.inl (by rw [v1];rfl)⟩ (fm ⟨rfl,rfl,.inl (by rw [v2];rfl)⟩ fn))⟩
 case e=>
  have:=join1 (wordOf (zSg ns) (zSize ns) (zL ns) (zF ns))
  show PyData.str (Txt.join (S []) _) = _
  rw [this];rfl
set_option maxRecDepth 4000 in
theorem st_two {ns:List Int}{vs:List (Str × D)}(v1:Has vs "signs" (.list (strsD (zSg ns)))) (v2:Has vs "size" (.int (zSize ns:Int))) (v3:Has vs "second" (.int (zS ns:Int))) (v4:Has vs "length" (.int (zL ns:Int))):SX1 h₁ r scL vs (innOf (stOf 20) 9) (· = .next (("two",.str (S (zV ns)))::vs)):=by
 have hl:=zL_b ns
 conv=>arg 5;whnf
 refine SX1.assign (EVP.as (d':=.str (Txt.join (S []) ((wordOf (zSg ns) (zSize ns) (zL ns) (zS ns)).map fun c=>S [c]))) ?m ?e) (.inr rfl)
 case m=>
  with_reducible refine' EVP.meth EVP.const_str (EVS.cons (d:=.list (strL ((wordOf (zSg ns) (zSize ns) (zL ns) (zS ns)).map fun c=>S [c]))) ?c EVS.nil ?q0) (MethOK.join ?j) ?q1 ?q2 ?q3
  case q0=>exact rfl
  case q1=>exact rfl
  case q2=>exact rfl
  case q3=>decide
  case j=>exact joinW (by rw [wordOf_len];exact Nat.le_trans hl.2 (Nat.le_trans (Nat.min_le_left ..) (by decide)))
  case c=>
   with_reducible refine wordComp (x := "second") (n:=zS ns) (zSize_b ns) (Nat.le_trans hl.2 (Nat.min_le_left ..)) (zSg_len ns) v1 v2 v3 v4 rfl rfl rfl rfl rfl rfl ?_ rfl
   refine ⟨rfl,by decide,by decide,fm ⟨rfl,rfl,.inl (by rw [v3];rfl)⟩ (fm ⟨rfl,rfl,.inl (by rw [v1];rfl)⟩ (fm ⟨rfl,rfl,.inl (by rw [v2];rfl)⟩ fn))⟩
 case e=>
  have:=join1 (wordOf (zSg ns) (zSize ns) (zL ns) (zS ns))
  show PyData.str (Txt.join (S []) _) = _
  rw [this];rfl
end
end Mine
namespace Mine
noncomputable def zWords (ns:List Int):List (List Nat):=(zSg ns).map (fun c=>[c]) ++ [zU ns,zV ns,[],[101,110,100]]
noncomputable def zM (ns:List Int):Int:=drw ns 1 / 4
noncomputable def zText (ns:List Int):List Nat:=fileText (zM ns) (zWords ns) (zWords ns).length
variable [Wd]
section
variable {h₁:Gl}{r:Nat}{vars:List (Str × D)}
theorem st_width {ns:List Int}{vs:List (Str × D)}(v1:Has vs "draws" (.list (intL (drawsL ns)))):SX1 h₁ r scL vs (innOf (stOf 20) 10) (· = .next (("width",.int (zW ns:Int))::vs)):=by
 conv=>arg 5;whnf
 refine SX1.assign (EVP.as (EVP.binop EVP.const_int (EVP.binop (drawE (k:=4) v1 (by decide)) EVP.const_int (IOp.modP (b:=1200) (by decide))) IOp.add) ?_) (.inr rfl)
 have:(9 + drw ns 4 % ((1200:Nat):Int)) = (zW ns:Int):=by unfold zW;lia
 rw [this]
theorem st_base {ns:List Int}{vs:List (Str × D)}(v1:Has vs "width" (.int (zW ns:Int))):SX1 h₁ r scL vs (innOf (stOf 20) 11) (· = .next (("base",.int (zB ns:Int))::vs)):=by
 conv=>arg 5;whnf
 have hb:=zW_b ns
 exact SX1.assign (EVP.binop (EVP.constI (k:=2) rfl) (EVP.name v1 rfl) (IOp.powN (a:=2) (n:=zW ns) (by have:bl 2 = 2:=rfl;rw [this];lia))) (.inl rfl)
theorem st_words {ns:List Int}{vs:List (Str × D)}(v1:Has vs "signs" (.list (strsD (zSg ns)))) (v2:Has vs "one" (.str (S (zU ns)))) (v3:Has vs "two" (.str (S (zV ns)))):SX1 h₁ r scL vs (innOf (stOf 20) 12) (· = .next (("words",.list (wordL (zWords ns)))::vs)):=by
 have hb:=zSize_b ns
 conv=>arg 5;whnf
 refine SX1.assign (EVP.as (EVP.addL (EVP.name v1 rfl) (EVP.list (EVS.cons (EVP.name v2 rfl) (EVS.cons (EVP.name v3 rfl) (EVS.cons EVP.const_str (EVS.cons EVP.const_str EVS.nil))))) ?_) ?_) (.inl rfl)
 ·simp only [strsD,List.length_map,zSg_len,List.length_cons,List.length_nil];lia
 ·show PyData.list (strsD (zSg ns) ++ [.str (S (zU ns)),.str (S (zV ns)),.str (S []),.str (S [101,110,100])]) = _
  unfold zWords strsD wordL
  rw [List.map_append,List.map_map]
  rfl
theorem zWords_len (ns:List Int):(zWords ns).length = zSize ns + 4:=by simp [zWords,zSg_len]
theorem zWords_small (ns:List Int):∀ w ∈ zWords ns,w.length ≤ 10:=by
 have hl:=zL_b ns
 intro w hw
 unfold zWords at hw
 rcases List.mem_append.mp hw with hw | hw
 ·refine ex11 (List.mem_map.mp hw) fun c _ zq1=>?_;subst zq1
  simp
 ·simp only [mcI,List.not_mem_nil,or_false] at hw
  rcases hw with rfl | rfl | rfl | rfl
  ·rw [zU,wordOf_len];lia
  ·rw [zV,wordOf_len];lia
  ·simp
  ·simp
theorem st_text {ns:List Int}{vs:List (Str × D)}(v1:Has vs "draws" (.list (intL (drawsL ns)))) (v2:Has vs "words" (.list (wordL (zWords ns)))) (hr:20 ≤ r):SX1 h₁ r scL vs (innOf (stOf 20) 13) (· = .next (("text",.str (S (zText ns)))::vs)):=by
 have hb:=zSize_b ns
 conv=>arg 5;whnf
 have hf:CallOK h₁ r (.ref 124) [.list (wordL (zWords ns)),.int (zM ns)] (.str (S (zText ns))):=fun prog w A s H vs Q E T R I x k=>file_ok (by rw [zWords_len];lia) (zWords_small ns) prog w A s H vs Q E T (R.less hr) I x k
 exact SX1.assign (EVP.call (NameIs.glob (by decide) rfl) (KeepOK.fn fun T=>T.fFile) (EVS.cons (EVP.name v2 rfl) (EVS.cons (EVP.binop (drawE (k:=1) v1 (by decide)) EVP.const_int (IOp.divP (b:=4) (by decide) (by decide))) EVS.nil)) hf) (.inl rfl)
end
end Mine
namespace Mine
noncomputable def coreP (ns:List Int):List (Str × D):=
 [("size",.int (zSize ns:Int)),("rounds",.int (zR ns:Int)),("signs",.list (strsD (zSg ns))),("one",.str (S (zU ns))),("two",.str (S (zV ns))),("width",.int (zW ns:Int)),("base",.int (zB ns:Int)),("words",.list (wordL (zWords ns))),("text",.str (S (zText ns)))]
variable [Wd]
theorem PV.of {core vs:List (Str × D)}(h:∀ p ∈ core,vs.lookup p.1 = some p.2):PV core vs:=fun k d e=>h (k,d) (lookup_mem e)
section
variable {h₁:Gl}{r:Nat}{vars:List (Str × D)}
set_option maxRecDepth 4000 in
theorem law_pre {ns:List Int}{vs:List (Str × D)}{rest:List Stmt}{Φ:Out→Prop}(v1:Has vs "script" (.list (intL ns))) (hz:ns.length ≤ 2 ^ 20) (hr:20 ≤ r) (k:∀ vs',PV (coreP ns) vs'→SX h₁ r scL vs' rest Φ) :
  SX h₁ r scL vs (innOf (stOf 20) 0::innOf (stOf 20) 1::innOf (stOf 20) 2::innOf (stOf 20) 3::innOf (stOf 20) 4::innOf (stOf 20) 5::innOf (stOf 20) 6::innOf (stOf 20) 7::innOf (stOf 20) 8::innOf (stOf 20) 9::innOf (stOf 20) 10::innOf (stOf 20) 11::innOf (stOf 20) 12::innOf (stOf 20) 13::rest) Φ:=by
 refine SX.step (law_draws v1 hz) ?_
 refine SX.step (st_size Has.here) ?_
 refine SX.step (st_rounds Has.here) ?_
 refine SX.step (st_length ((Has.here.skip rfl).skip rfl) Has.here) ?_
 refine SX.step (st_first (((Has.here.skip rfl).skip rfl).skip rfl) ((Has.here.skip rfl).skip rfl) Has.here) ?_
 refine SX.step (st_second ((((Has.here.skip rfl).skip rfl).skip rfl).skip rfl) (((Has.here.skip rfl).skip rfl).skip rfl) (Has.here.skip rfl) Has.here) ?_
 refine SX.step (st_start (((((Has.here.skip rfl).skip rfl).skip rfl).skip rfl).skip rfl)) ?_
 refine SX.step (st_signs Has.here (((((Has.here.skip rfl).skip rfl).skip rfl).skip rfl).skip rfl)) ?_
 refine SX.step (st_one Has.here ((((((Has.here.skip rfl).skip rfl).skip rfl).skip rfl).skip rfl).skip rfl) (((Has.here.skip rfl).skip rfl).skip rfl) ((((Has.here.skip rfl).skip rfl).skip rfl).skip rfl)) ?_
 refine SX.step (st_two (Has.here.skip rfl) (((((((Has.here.skip rfl).skip rfl).skip rfl).skip rfl).skip rfl).skip rfl).skip rfl) (((Has.here.skip rfl).skip rfl).skip rfl) (((((Has.here.skip rfl).skip rfl).skip rfl).skip rfl).skip rfl)) ?_
 refine SX.step (st_width (((((((((Has.here.skip rfl).skip rfl).skip rfl).skip rfl).skip rfl).skip rfl).skip rfl).skip rfl).skip rfl)) ?_
 refine SX.step (st_base Has.here) ?_
 refine SX.step (st_words ((((Has.here.skip rfl).skip rfl).skip rfl).skip rfl) (((Has.here.skip rfl).skip rfl).skip rfl) ((Has.here.skip rfl).skip rfl)) ?_
 refine SX.step (st_text ((((((((((((Has.here.skip rfl).skip rfl).skip rfl).skip rfl).skip rfl).skip rfl).skip rfl).skip rfl).skip rfl).skip rfl).skip rfl).skip rfl) Has.here hr) ?_
 refine k _ (PV.of fun p hp=>?_)
 simp only [coreP,List.mem_cons,List.not_mem_nil,or_false] at hp
 rcases hp with rfl | rfl | rfl | rfl | rfl | rfl | rfl | rfl | rfl <;> rfl
theorem SX.lex {x y:Str}{p1 p2 p3 p4 p5:Pos}{text:List Nat}{rest:List Stmt}{Φ:Out→Prop}(hy:Has vars y (.str (S text))) (hyd:(y == ("__debug__":Str)) = false) (hs:Sto scL x) (hz:text.length ≤ 2 ^ 18)
  (h:∀ a:LexA,SXR h₁ (r + 3) scL ((x,opq a.L)::vars) a.X (Rp.lexN a (1 + (text.count 10:Nat)) text []) rest fun o P₂=>∃ b,o = .ret (.bool b)∧Φ (.ret (.bool b))) :
  SX h₁ (r + 3) scL vars (.Assign [.Name x p1] (.Call (.Name "_law_lexer" p2) [.Name y p3] [] p4) p5::rest) Φ:=by
 intro prog w A env s H Q E T R I F k
 refine wpAny_execs_cons (wpAny_Assign_Name ?_ (swaps_no rfl))
 refine evalCall (r:=r + 3) (NameIs.glob (a:=119) (by decide) rfl) (KeepOK.fn fun T=>T.fLex) (EVS.cons (EVP.name hy hyd) EVS.nil) T R I F.ok fun vs s₁ st I₁ hvs=>?_
 obtain ⟨v,rfl,hv⟩:∃ v,vs = [v]∧V s₁.heap H v (.str (S text)):=by
  exact VL.one hvs
 refine lexer_new (r:=r) T R I₁ hv hz fun a s₂ st₂ I₂ hnew p₂=>?_
 have hge:∀ x ∈ a.X,s.heap.objs.size ≤ x:=fun x hx=>Nat.le_trans st.st.size (hnew x hx)
 have st12:=st.trans st₂
 have hsub:∀ x ∈ a.X ++ H,x ∈ H ∨ s.heap.objs.size ≤ x:=fun x hx=>(List.mem_append.mp hx).symm.imp id fun q=>hge x q
 have F₂:Fm scL env vars s₂.heap (a.X ++ H):=F.step st12.st (fun _ q=>nomatch q) (fun q=>nomatch q) (fun _ _ _ q=>nomatch q) hsub fun _ q=>List.mem_append_right _ q
 have p₂':(Rp.lexN a (1 + (text.count 10:Nat)) text []).ok s₂.heap (a.X ++ H):=by
  have e:(1 + ((text.count 10:Nat):Int)) - ((text.count 10:Nat):Int) = 1:=by lia
  unfold Rp.lexN
  rw [e];exact p₂
 have W:Own env a.X (a.X ++ H):=⟨fun x hx=>List.mem_append_left _ hx,fun q=>Nat.lt_irrefl _ (Nat.lt_of_lt_of_le (I.hok _ F.w.loc).2 (hge _ q)),fun n c e q=>Nat.lt_irrefl _ (Nat.lt_of_lt_of_le (F.ok.lt n c e) (hge _ q))⟩
 refine store hs I₂ F₂ (.opq a.L) fun s₃ st₃ I₃ F₃=>?_
 have p₃:=Rp.frame p₂' W F₂.w st₃.st
 refine h a prog w A env s₃ (a.X ++ H) Q E T R I₃ F₃ W p₃ fun o P₂ f s₄ ho st₄ I₄ p₄ ok=>?_
 obtain ⟨b,rfl,hΦ⟩:=ho
 cases f <;> first | (exact ok.elim) | skip
 have hv:V s₄.heap (a.X ++ H) _ (.bool b):=ok
 refine k (.ret (.bool b)) _ _ hΦ ?_ (I₄.sub fun _ q=>List.mem_append_right _ q) (hv.less fun _ q=>.inl (List.mem_append_right _ q))
 refine ((st12.up.trans st₃.wF).trans st₄).mono fun y hy=>?_
 rcases List.mem_append.mp hy with q | q
 ·exact .inl q
 ·exact .inr (hge y q)
end
end Mine
namespace Mine
theorem filterMap_range {α:Type}:∀ (xs:List α) (m:Nat),m ≤ xs.length→(List.range m).filterMap (xs[·]?) = xs.take m:=by
 intro xs m hm
 induction m with
 | zero=>rfl
 | succ m ih=>
  rw [List.range_succ,List.filterMap_append,ih (by lia),List.take_add_one]
  have:xs[m]? = some xs[m]:=List.getElem?_eq_getElem (by lia)
  simp [this]
theorem pick_init {α:Type}(xs:List α) (h:2 ≤ xs.length):pickL xs none (some (-2)) none = xs.take (xs.length - 2):=by
 unfold pickL
 have e:sliceBounds none (some (-2)) none xs.length = (((0:Nat):Int),((xs.length - 2:Nat):Int),1):=by
  simp only [sliceBounds,Option.getD_none]
  have h1:((-2:Int) < 0):=by decide
  simp only [h1,if_true,show ((1:Int) > 0) from by decide]
  congr 1
  congr 1
  rw [show (-2:Int) + (xs.length:Int) = ((xs.length - 2:Nat):Int) from (Int.add_comm _ _).trans (Int.ofNat_sub h).symm,Int.min_eq_left (Int.ofNat_le.mpr (Nat.sub_le _ _)),Int.max_eq_right (Int.natCast_nonneg _)]
 rw [e]
 show (sliceRange ((0:Nat):Int) ((xs.length - 2:Nat):Int) 1).filterMap (xs[·]?) = _
 rw [sliceRange_one]
 simp only [Nat.zero_add,Nat.sub_zero,List.map_id']
 exact filterMap_range xs _ (Nat.sub_le _ _)
structure TokH (ns:List Int) (rs:Nat→List Nat):Prop where
 zero:rs 0 = zText ns
 step:∀ i,i < zSize ns + 4→tokOf (rs i) = ((zWords ns).getD i [],rs (i + 1))
 last:rs (zSize ns + 4) = []
 len:∀ i,(rs i).length ≤ 2 ^ 18
theorem eqv_words:∀ l:List (List Nat),PyData.eqvAll (l.map fun x=>PyData.str (S x)) (l.map fun x=>PyData.str (S x)) = true
 | []=>rfl
 | x::l=>by
  rw [List.map_cons]
  unfold PyData.eqvAll
  rw [eqv_words l]
  simp [PyData.eqv]
variable [Wd]
section
variable {h₁:Gl}{r:Nat}{vars:List (Str × D)}{a:LexA}{N:Int}{rest:List Nat}
noncomputable def okW (l:List (List Nat)):Prop:=∀ w ∈ l,∀ c ∈ w,c < 1114112
theorem lay_words:∀ l:List (List Nat),okW l→PyData.canLayAll0 (wordL l) = true∧PyData.depthAll (wordL l) = 0
 | [],_=>⟨rfl,rfl⟩
 | x::l,h=>by
  obtain ⟨h1,h2⟩:=lay_words l fun w hw=>h w (.tail _ hw)
  have hx:PyData.strOk (S x) = true:=by
   unfold PyData.strOk
   simp only [List.all_toArray,List.all_eq_true,decide_eq_true_eq]
   exact fun c hc=>h x (.head _) c hc
  refine ⟨?_,?_⟩
  ·show PyData.canLayAll0 (PyData.str (S x)::wordL l) = true
   simp [PyData.canLayAll0,PyData.canLay0,h1,hx]
  ·show PyData.depthAll (PyData.str (S x)::wordL l) = 0
   simp [PyData.depthAll,PyData.depth,h2]
theorem shaped_words {l:List (List Nat)}(h:okW l):shaped (.list (wordL l)) = true:=by
 obtain ⟨h1,h2⟩:=lay_words l h
 simp [shaped,PyData.canLay0,PyData.depth,h1,h2]
theorem COp.neWords {l:List (List Nat)}(h:okW l):COp .NotEq (.list (wordL l)) (.list (wordL l)) false:=by
 have:=COp.ne (d1:=.list (wordL l)) (d2:=.list (wordL l)) (shaped_words h) (shaped_words h)
 have e:PyData.eqv (.list (wordL l)) (.list (wordL l)) = true:=by
  unfold PyData.eqv
  exact eqv_words l
 rw [e] at this
 exact this
theorem alph_ok:∀ c ∈ alph ++ alph,c < 1114112:=by decide
theorem zSg_ok (ns:List Int):∀ c ∈ zSg ns,c < 1114112:=fun c hc=>alph_ok c (List.mem_of_mem_drop (List.mem_of_mem_take hc))
theorem wordOf_mem {sg:List Nat}{k L n:Nat}(hk:0 < k) (hsg:sg.length = k):∀ c ∈ wordOf sg k L n,c ∈ sg:=by
 intro c hc
 unfold wordOf at hc
 refine ex11 (List.mem_map.mp hc) fun p _ zq1=>?_;subst zq1
 have h:n / k ^ p % k < sg.length:=by rw [hsg];exact Nat.mod_lt _ hk
 rw [List.getD_eq_getElem?_getD,List.getElem?_eq_getElem h]
 exact List.getElem_mem h
theorem zU_mem (ns:List Int):∀ c ∈ zU ns,c ∈ zSg ns:=wordOf_mem (by have:=zSize_b ns;lia) (zSg_len ns)
theorem zV_mem (ns:List Int):∀ c ∈ zV ns,c ∈ zSg ns:=wordOf_mem (by have:=zSize_b ns;lia) (zSg_len ns)
theorem zWords_ok (ns:List Int):okW (zWords ns):=by
 intro w hw c hc
 unfold zWords at hw
 rcases List.mem_append.mp hw with hw | hw
 ·refine ex11 (List.mem_map.mp hw) fun d hd zq1=>?_;subst zq1
  rw [List.mem_singleton.mp hc];exact zSg_ok ns d hd
 ·simp only [mcI,List.not_mem_nil,or_false] at hw
  rcases hw with rfl | rfl | rfl | rfl
  ·exact zSg_ok ns c (zU_mem ns c hc)
  ·exact zSg_ok ns c (zV_mem ns c hc)
  ·cases hc
  ·revert c;decide
theorem wordsE {ns:List Int}{vs:List (Str × D)}{p1 p2 p3 p4 p5:Pos}{n:Nat}(v1:Has vs "words" (.list (wordL (zWords ns)))):EVP h₁ r scL vs (.Subscript (.Name "words" p1) (.Slice none (some (.UnaryOp .USub (.Constant (.int 2) n p2) p3)) none p4) p5) (.list (wordL ((zWords ns).take (zSize ns + 2)))):=by
 have hl:=zWords_len ns
 have hb:=zSize_b ns
 have e:pickL (wordL (zWords ns)) none (some (-2)) none = wordL ((zWords ns).take (zSize ns + 2)):=by
  unfold wordL
  rw [pickL_map,pick_init _ (by lia),hl]
  rfl
 refine EVP.as (EVP.sliceL (EVP.name v1 rfl) (.inl ⟨rfl,rfl⟩) (.inr ⟨_,_,rfl,rfl,EVP.neg EVP.const_int⟩) (by simp [hl];lia)) (by rw [e])
theorem st_check {ns:List Int}{rs:Nat→List Nat}{vs:List (Str × D)}{rest:List Stmt}{Φ:Out→Rp a.X→Prop}(hT:TokH ns rs) (hL:Has vs "lexer" (opq a.L)) (v1:Has vs "words" (.list (wordL (zWords ns))))
  (k:SXR h₁ (r + 4) scL vs a.X (Rp.lexN a N (rs (zSize ns + 2)) []) rest Φ):SXR h₁ (r + 4) scL vs a.X (Rp.lexN a N (zText ns) []) (innOf (stOf 20) 15::rest) Φ:=by
 have hl:=zWords_len ns
 have hb:=zSize_b ns
 refine ex19_0 (⟨_,_,_,_,_,_,_,_,_,_,_,_,_,_,_,_,_,_,_,rfl,rfl⟩:∃ p1 p2 p3 p4 p5 p6 p7 p8 p9 pa pb pc pd pe pf pg ph pi pj,innOf (stOf 20) 15 = .If (.Compare (.ListComp (.Call (.Attribute (.Name "lexer" p1) "get_token" p2) [] [] p3) [⟨.Name "word" p4,.Subscript (.Name "words" p5) (.Slice none (some (.UnaryOp .USub (.Constant (.int 2) 0 p6) p7)) none p8) p9,[],0⟩] { kind:=ScopeKind.function,names:=[((".0":Str),NameKind.local),("word",NameKind.local),("lexer",NameKind.free)],isGenerator:=false,isCoroutine:=false } pa) [.NotEq] [.Subscript (.Name "words" pb) (.Slice none (some (.UnaryOp .USub (.Constant (.int 2) 0 pc) pd)) none pe) pf] pg) [.Return (some (.Constant (.bool false) 0 ph)) pi] [] pj∧(p2.endLine == p3.line) = true) fun p1 p2 p3 p4 p5 p6 p7 p8 p9 pa pb pc pd pe pf pg ph pi pj hs=>?_
 rw [hs.1]
 have hlen:(wordL ((zWords ns).take (zSize ns + 2))).length = zSize ns + 2:=by simp [hl]
 have hcomp:=EVR.listcomp (h₁:=h₁) (r:=r + 4) (sc:=scL) (vars:=vs) (X:=a.X) (elt:=.Call (.Attribute (.Name "lexer" p1) "get_token" p2) [] [] p3) (pos:=pa) (ifs:=[]) rfl (CompOK.list (scope:={ kind:=ScopeKind.function,names:=[((".0":Str),NameKind.local),("word",NameKind.local),("lexer",NameKind.free)],isGenerator:=false,isCoroutine:=false }) (fun _=>true) (fun i=>.str (S ((zWords ns).getD i []))) (fun i=>Rp.lexN a N (rs i) []) (EVI.j (x := "word") (p:=p4) (EVI.list (wordsE (p1:=p5) (p2:=p6) (p3:=p7) (p4:=p8) (p5:=p9) (n:=0) v1))) ?sc (by lia) (fun _ _=>rfl) fun i d hd=>?k2)
 case sc=>
  refine ⟨rfl,by decide,by decide,fun x hx=>?_⟩
  have hx':x ∈ (["lexer"]:List Str):=hx
  rcases ms hx' with rfl
  exact ⟨rfl,rfl,.inl (by rw [hL];rfl)⟩
 case k2=>
  have hi:i < zSize ns + 2:=by
   have:=(List.getElem?_eq_some_iff.mp hd).1
   lia
  refine ⟨_,.name rfl,skip_weak (cvars_none rfl) fun _ _ q=>q,.inl ⟨rfl,rfl⟩,nofun,fun _=>?_⟩
  have hL2:Has ((("word":Str),d)::cvars vs { kind:=ScopeKind.function,names:=[((".0":Str),NameKind.local),("word",NameKind.local),("lexer",NameKind.free)],isGenerator:=false,isCoroutine:=false }) "lexer" (opq a.L):=(cvars_has hL rfl).skip rfl
  have hg:=get_read (h₁:=h₁) (r:=r) (a:=a) (N:=N) (hT.len i)
  rw [hT.step i (by lia)] at hg
  exact EVR.methL hL2 LexM.gt (KeepOK.fn fun T=>T.fGet) EVS.nil hg hs.2 (by simp) rfl
 have e:compOut (fun _=>true) (fun i=>PyData.str (S ((zWords ns).getD i []))) (wordL ((zWords ns).take (zSize ns + 2))).length = wordL ((zWords ns).take (zSize ns + 2)):=by
  refine compOut_range rfl fun i hi=>?_
  have hi':i < zSize ns + 2:=by lia
  have:i < (zWords ns).length:=by lia
  simp [wordL,hi',this]
 rw [e,hlen,hT.zero] at hcomp
 refine SXR.ite (TSR.cmp hcomp (EVP.re (wordsE v1)) (COp.neWords fun w hw=>zWords_ok ns w (List.mem_of_mem_take hw))) (fun hb=>by cases hb) (fun _=>SXR.done k)
end
end Mine
namespace Mine
theorem freeRows_count (sg:List Nat):∀ k,(freeRows sg k).length = sg.length ^ k
 | 0=>rfl
 | k + 1=>by
  have:∀ l:List (List Nat),(l.flatMap fun row=>sg.map fun c=>row ++ [c]).length = l.length * sg.length:=by
   intro l
   induction l with
   | nil=>simp
   | cons a l ih=>rw [List.flatMap_cons,List.length_append,ih];simp [Nat.add_mul];lia
  rw [freeRows,this,freeRows_count sg k,Nat.pow_succ]
theorem freeRows_ok {sg:List Nat}(h:∀ c ∈ sg,c < 1114112):∀ k,okW (freeRows sg k)
 | 0=>by intro w hw c hc;simp [freeRows] at hw;subst hw;cases hc
 | k + 1=>by
  intro w hw c hc
  rw [freeRows] at hw
  refine ex11 (List.mem_flatMap.mp hw) fun row hr hw=>?_
  refine ex11 (List.mem_map.mp hw) fun d hd zq1=>?_;subst zq1
  rcases List.mem_append.mp hc with hc | hc
  ·exact freeRows_ok h k row hr c hc
  ·rw [List.mem_singleton.mp hc];exact h d hd
theorem bl_two (k:Nat):bl (2 ^ k) ≤ k + 1:=bl_le (Nat.pow_lt_pow_right (by decide) (Nat.lt_succ_self k))
variable [Wd]
section
variable {h₁:Gl}{r:Nat}{vars:List (Str × D)}{a:LexA}{N:Int}{rest:List Nat}
noncomputable def coreX (a:LexA) (ns:List Int):List (Str × D):=("lexer",opq a.L)::coreP ns
theorem coreX_P (a:LexA) (ns:List Int):PV (coreP ns) (coreX a ns):=PV.refl.skip rfl
theorem st_play {ns:List Int}{rs:Nat→List Nat}{vs:List (Str × D)}{rest:List Stmt}{Φ:Out→Rp a.X→Prop}(hT:TokH ns rs) (hP:PV (coreX a ns) vs)
  (k:∀ vs',PV (coreX a ns) vs'→Has vs' "profile" (dictD (pPlay (zSg ns) (zU ns) (zV ns) (zR ns) (zB ns) (zR ns)).1.m)→Has vs' "left" (.list (wordsD (pPlay (zSg ns) (zU ns) (zV ns) (zR ns) (zB ns) (zR ns)).2))→SXR h₁ (r + 5) scL vs' a.X (Rp.lexN a N (rs (zSize ns + 3)) []) rest Φ):SXR h₁ (r + 5) scL vs a.X (Rp.lexN a N (rs (zSize ns + 2)) []) (innOf (stOf 20) 16::rest) Φ:=by
 have hb:=zSize_b ns
 have hR:=zR_b ns
 have hW:=zW_b ns
 have htok:tokOf (rs (zSize ns + 2)) = ([],rs (zSize ns + 3)):=by
  rw [hT.step _ (by lia)]
  congr 1
  unfold zWords
  rw [List.getD_eq_getElem?_getD,List.getElem?_append_right (by simp [zSg_len])]
  simp [zSg_len]
 have hcall:=play_ok (h₁:=h₁) (r:=r) (a:=a) (N:=N) (sg:=zSg ns) (u:=zU ns) (v:=zV ns) (R:=zR ns) (base:=zB ns) htok (hT.len _) ⟨by lia,hR.2⟩ (by have:=bl_two (zW ns);unfold zB;lia) (by rw [zSg_len];exact hb.2)
 conv=>arg 7;arg 1;whnf
 refine SXR.kont (SXR1.unpack (EVR.call (NameIs.glob (by decide) rfl) (KeepOK.fn fun T=>T.fPlay) (EVS.cons (EVP.name (hP.get (k := "lexer") rfl) rfl) (EVS.cons (EVP.name (hP.get (k := "signs") rfl) rfl) (EVS.cons (EVP.name (hP.get (k := "one") rfl) rfl) (EVS.cons (EVP.name (hP.get (k := "two") rfl) rfl) (EVS.cons (EVP.name (hP.get (k := "rounds") rfl) rfl) (EVS.cons (EVP.name (hP.get (k := "base") rfl) rfl) EVS.nil)))))) hcall) rfl ?_ ?_)
 ·exact fm (.inl rfl) (fm (.inl rfl) fn)
 ·refine k _ ?_ (Has.here.skip rfl) Has.here
  exact (hP.skip rfl).skip rfl
theorem st_left {ns:List Int}{vs:List (Str × D)}{rest:List Stmt}{P:Rp a.X}{Φ:Out→Rp a.X→Prop}(hr:40 ≤ r) (hP:PV (coreX a ns) vs) (hl:Has vs "left" (.list (wordsD (freeWords (zSg ns) (zU ns) (zV ns) (zR ns))))) (k:SXR h₁ r scL vs a.X P rest Φ):SXR h₁ r scL vs a.X P (innOf (stOf 20) 17::rest) Φ:=by
 have hb:=zSize_b ns
 have hR:=zR_b ns
 have hcount:∀ k,k ≤ zR ns→(freeRows (zSg ns) k).length ≤ 1000:=by
  intro k hk
  rw [freeRows_count,zSg_len]
  unfold zR at hk
  have h:zSize ns = 2 ∨ zSize ns = 3 ∨ zSize ns = 4:=by lia
  rcases h with h | h | h <;> rw [h] at hk ⊢
  ·exact Nat.le_trans (Nat.pow_le_pow_right (by decide) hk) (by decide)
  ·exact Nat.le_trans (Nat.pow_le_pow_right (by decide) hk) (by decide)
  ·exact Nat.le_trans (Nat.pow_le_pow_right (by decide) hk) (by decide)
 have hcall:=CallOK.up (h₁:=h₁) (free_ok (sg:=zSg ns) (one:=zU ns) (two:=zV ns) (R:=zR ns) (by lia) hcount (by rw [zSg_len];lia)) hr
 have e:wordL ((zSg ns).map fun c=>[c]) = strsD (zSg ns):=by simp [wordL,strsD,List.map_map,Function.comp_def]
 rw [e] at hcall
 have hok:okW (freeWords (zSg ns) (zU ns) (zV ns) (zR ns)):=fun w hw=>freeRows_ok (zSg_ok ns) _ w (List.mem_filter.mp hw).1
 conv=>arg 7;arg 1;whnf
 refine SXR.ite (TSP.re (TSP.cmp (EVP.name hl rfl) (EVP.call (NameIs.glob (by decide) rfl) (KeepOK.fn fun T=>T.fFree) (EVS.cons (EVP.name (hP.get (k := "signs") rfl) rfl) (EVS.cons (EVP.name (hP.get (k := "one") rfl) rfl) (EVS.cons (EVP.name (hP.get (k := "two") rfl) rfl) (EVS.cons (EVP.name (hP.get (k := "rounds") rfl) rfl) EVS.nil)))) hcall) (COp.neWords hok))) (fun hb=>by cases hb) (fun _=>SXR.done k)
end
end Mine
namespace Mine
theorem cnt_eq (c:Nat):∀ l:List Nat,cnt c l = ((l.count c:Nat):Int)
 | []=>rfl
 | n::r=>by
  rw [cnt_cons,cnt_eq c r]
  by_cases h:n = c
  ·subst h;rw [if_pos rfl,List.count_cons_self];lia
  ·rw [if_neg h,List.count_cons_of_ne h];lia
theorem countS (l:List Nat) (c:Nat):Txt.count (S l) (S [c]) = ((l.count c:Nat):Int):=by
 rw [← cnt_eq]
 exact count_is (S l) c
variable [Wd]
section
variable {h₁:Gl}{r:Nat}{vars:List (Str × D)}{a:LexA}{N:Int}{rest:List Nat}
theorem st_end {ns:List Int}{rs:Nat→List Nat}{vs:List (Str × D)}{rest:List Stmt}{Φ:Out→Rp a.X→Prop}(hT:TokH ns rs) (hP:PV (coreX a ns) vs) (k:SXR h₁ (r + 4) scL vs a.X (Rp.lexN a (1 + ((zText ns).count 10:Nat)) [] []) rest Φ):SXR h₁ (r + 4) scL vs a.X (Rp.lexN a (1 + ((zText ns).count 10:Nat)) (rs (zSize ns + 3)) []) (innOf (stOf 20) 18::rest) Φ:=by
 have hb:=zSize_b ns
 have htok:tokOf (rs (zSize ns + 3)) = ([101,110,100],[]):=by
  rw [hT.step _ (by lia),hT.last]
  congr 1
  unfold zWords
  rw [List.getD_eq_getElem?_getD,List.getElem?_append_right (by simp [zSg_len])]
  simp [zSg_len]
 have g1:=get_read (h₁:=h₁) (r:=r) (a:=a) (N:=1 + ((zText ns).count 10:Nat)) (hT.len (zSize ns + 3))
 rw [htok] at g1
 have g2:=get_read (h₁:=h₁) (r:=r) (a:=a) (N:=1 + ((zText ns).count 10:Nat)) (rest:=[]) (by simp)
 conv=>arg 7;arg 1;whnf
 have e1:(1 + (((zText ns).count 10:Nat):Int)) - ((([]:List Nat).count 10:Nat):Int) = 1 + (((zText ns).count 10:Nat):Int):=by simp
 have hline:LexG a (1 + (((zText ns).count 10:Nat):Int) - ((([]:List Nat).count 10:Nat):Int)) "lineno" (.int (1 + (((zText ns).count 10:Nat):Int))):=by
  have:=LexG.ln (a:=a) (line:=1 + (((zText ns).count 10:Nat):Int) - ((([]:List Nat).count 10:Nat):Int))
  rw [e1] at this ⊢
  exact this
 have hcmp:COp .NotEq (.list [.str (S [101,110,100]),.str (S []),.int (1 + (((zText ns).count 10:Nat):Int))]) (.list [.str (S [101,110,100]),.str (S []),.int (1 + (((zText ns).count 10:Nat):Int))]) false:=by
  have hsh:shaped (.list [.str (S [101,110,100]),.str (S []),.int (1 + (((zText ns).count 10:Nat):Int))]) = true:=by
   simp [shaped,PyData.canLay0,PyData.canLayAll0,PyData.depth,PyData.depthAll,PyData.strOk]
  have:=COp.ne hsh hsh
  have e:PyData.eqv (.list [.str (S [101,110,100]),.str (S []),.int (1 + (((zText ns).count 10:Nat):Int))]) (.list [.str (S [101,110,100]),.str (S []),.int (1 + (((zText ns).count 10:Nat):Int))]) = true:=by
   simp [PyData.eqv,PyData.eqvAll]
  rw [e] at this
  exact this
 refine SXR.ite (TSR.cmp (EVR.list (EVSR.cons (EVR.methL (hP.get (k := "lexer") rfl) LexM.gt (KeepOK.fn fun T=>T.fGet) EVS.nil g1 rfl (by simp) rfl) (EVSR.cons (EVR.methL (hP.get (k := "lexer") rfl) LexM.gt (KeepOK.fn fun T=>T.fGet) EVS.nil g2 rfl (by simp) rfl) (EVSR.cons (EVR.attr (hP.get (k := "lexer") rfl) hline) EVSR.nil))) (by simp))
  (EVP.re (EVP.list (EVS.cons EVP.const_str (EVS.cons EVP.const_str (EVS.cons (EVP.binop EVP.const_int (EVP.as (EVP.meth (EVP.name (hP.get (k := "text") rfl) rfl) (EVS.cons EVP.const_str EVS.nil) (MethOK.count (x:=S (zText ns)) (y:=S [10]))) (by rw [countS])) IOp.add) EVS.nil))))) hcmp) (fun hb=>by cases hb) (fun _=>SXR.done k)
end
end Mine
namespace Mine
noncomputable def zO (ns:List Int) (x y:List Nat):Nat:=dval (2 ^ zW ns) (ovl (S x) (S y))
noncomputable def zSh (ns:List Int):Nat:=zO ns (zV ns) (zV ns) - zO ns (zV ns) (zU ns)
noncomputable def zOt (ns:List Int):Nat:=zO ns (zU ns) (zU ns) - zO ns (zU ns) (zV ns)
noncomputable def zD (ns:List Int):Nat:=zO ns (zU ns) (zU ns) * zO ns (zV ns) (zV ns) - zO ns (zU ns) (zV ns) * zO ns (zV ns) (zU ns)
noncomputable def zUn (ns:List Int):Nat:=(zB ns - zSize ns) * zD ns + zSh ns + zOt ns
structure NumH (ns:List Int):Prop where
 vu:zO ns (zV ns) (zU ns) ≤ zO ns (zV ns) (zV ns)
 uv:zO ns (zU ns) (zV ns) ≤ zO ns (zU ns) (zU ns)
 d:zO ns (zU ns) (zV ns) * zO ns (zV ns) (zU ns) < zO ns (zU ns) (zU ns) * zO ns (zV ns) (zV ns)
 b1:∀ x y,x = zU ns ∨ x = zV ns→y = zU ns ∨ y = zV ns→bl (zO ns x y) ≤ 5000
theorem bl_mul (a b:Nat):bl (a * b) ≤ bl a + bl b:=by
 refine bl_le ?_
 rw [Nat.pow_add]
 by_cases ha:a = 0
 ·subst ha;rw [Nat.zero_mul];exact Nat.mul_pos (Nat.pow_pos (by decide)) (Nat.pow_pos (by decide))
 ·exact Nat.mul_lt_mul_of_lt_of_le (lt_bl a) (Nat.le_of_lt (lt_bl b)) (Nat.pow_pos (by decide))
theorem bl_add (a b:Nat):bl (a + b) ≤ max (bl a) (bl b) + 1:=by
 refine bl_le ?_
 have h1:a < 2 ^ max (bl a) (bl b):=Nat.lt_of_lt_of_le (lt_bl a) (Nat.pow_le_pow_right (by decide) (Nat.le_max_left _ _))
 have h2:b < 2 ^ max (bl a) (bl b):=Nat.lt_of_lt_of_le (lt_bl b) (Nat.pow_le_pow_right (by decide) (Nat.le_max_right _ _))
 rw [Nat.pow_succ];lia
variable [Wd]
section
variable {h₁:Gl}{r:Nat}{vars:List (Str × D)}
theorem overE {ns:List Int}{vs:List (Str × D)}{x y:Str}{p1 p2 p3 p4 p5:Pos}{l m:List Nat}(hr:70 ≤ r) (hx:Has vs x (.str (S l))) (hy:Has vs y (.str (S m))) (hW:Has vs "width" (.int (zW ns:Int))) (hl:l.length = zL ns) (hm:m.length = zL ns) (dx:(x == ("__debug__":Str)) = false) (dy:(y == ("__debug__":Str)) = false) :
  EVP h₁ r scL vs (.Call (.Name "_law_overlap" p1) [.Name x p2,.Name y p3,.Name "width" p4] [] p5) (.int ((zO ns l m:Nat):Int)):=by
 have h1:=zL_b ns
 have h2:=zW_b ns
 have hc:=CallOK.up (h₁:=h₁) (over_ok (x:=S l) (y:=S m) (n:=zW ns) (by rw [S_len];lia) (by rw [S_len,S_len,hl,hm]) (by lia) (by lia)) hr
 exact EVP.call (NameIs.glob (by decide) rfl) (KeepOK.fn fun T=>T.fOver) (EVS.cons (EVP.name hx dx) (EVS.cons (EVP.name hy dy) (EVS.cons (EVP.name hW rfl) EVS.nil))) hc
theorem zU_len (ns:List Int):(zU ns).length = zL ns:=wordOf_len _ _ _ _
theorem zV_len (ns:List Int):(zV ns).length = zL ns:=wordOf_len _ _ _ _
theorem st_share {ns:List Int}{vs:List (Str × D)}(hr:70 ≤ r) (hP:PV (coreP ns) vs) (hN:NumH ns):SX1 h₁ r scL vs (innOf (stOf 20) 19) (· = .next (("share",.int (zSh ns:Int))::vs)):=by
 conv=>arg 5;whnf
 exact SX1.assign (EVP.binop (overE hr (hP.get rfl) (hP.get rfl) (hP.get rfl) (zV_len ns) (zV_len ns) rfl rfl) (overE hr (hP.get rfl) (hP.get rfl) (hP.get rfl) (zV_len ns) (zU_len ns) rfl rfl) (IOp.subN hN.vu)) (.inl rfl)
theorem st_other {ns:List Int}{vs:List (Str × D)}(hr:70 ≤ r) (hP:PV (coreP ns) vs) (hN:NumH ns):SX1 h₁ r scL vs (innOf (stOf 20) 20) (· = .next (("other",.int (zOt ns:Int))::vs)):=by
 conv=>arg 5;whnf
 exact SX1.assign (EVP.binop (overE hr (hP.get rfl) (hP.get rfl) (hP.get rfl) (zU_len ns) (zU_len ns) rfl rfl) (overE hr (hP.get rfl) (hP.get rfl) (hP.get rfl) (zU_len ns) (zV_len ns) rfl rfl) (IOp.subN hN.uv)) (.inl rfl)
theorem st_alike {ns:List Int}{vs:List (Str × D)}(hr:70 ≤ r) (hP:PV (coreP ns) vs) (hN:NumH ns):SX1 h₁ r scL vs (innOf (stOf 20) 21) (· = .next (("alike",.int ((zO ns (zU ns) (zU ns) * zO ns (zV ns) (zV ns):Nat):Int))::vs)):=by
 conv=>arg 5;whnf
 have h1:=hN.b1 (zU ns) (zU ns) (.inl rfl) (.inl rfl)
 have h2:=hN.b1 (zV ns) (zV ns) (.inr rfl) (.inr rfl)
 exact SX1.assign (EVP.binop (overE hr (hP.get rfl) (hP.get rfl) (hP.get rfl) (zU_len ns) (zU_len ns) rfl rfl) (overE hr (hP.get rfl) (hP.get rfl) (hP.get rfl) (zV_len ns) (zV_len ns) rfl rfl) (IOp.mulN (by lia))) (.inl rfl)
theorem st_both {ns:List Int}{vs:List (Str × D)}(hr:70 ≤ r) (hP:PV (coreP ns) vs) (hA:Has vs "alike" (.int ((zO ns (zU ns) (zU ns) * zO ns (zV ns) (zV ns):Nat):Int))) (hN:NumH ns):SX1 h₁ r scL vs (innOf (stOf 20) 22) (· = .next (("both",.int (zD ns:Int))::vs)):=by
 conv=>arg 5;whnf
 have h1:=hN.b1 (zU ns) (zV ns) (.inl rfl) (.inr rfl)
 have h2:=hN.b1 (zV ns) (zU ns) (.inr rfl) (.inl rfl)
 exact SX1.assign (EVP.binop (EVP.name hA rfl) (EVP.binop (overE hr (hP.get rfl) (hP.get rfl) (hP.get rfl) (zU_len ns) (zV_len ns) rfl rfl) (overE hr (hP.get rfl) (hP.get rfl) (hP.get rfl) (zV_len ns) (zU_len ns) rfl rfl) (IOp.mulN (by lia))) (IOp.subN (Nat.le_of_lt hN.d))) (.inl rfl)
theorem zD_bl {ns:List Int}(hN:NumH ns):bl (zD ns) ≤ 10000:=by
 have h1:=hN.b1 (zU ns) (zU ns) (.inl rfl) (.inl rfl)
 have h2:=hN.b1 (zV ns) (zV ns) (.inr rfl) (.inr rfl)
 have h3:=bl_mul (zO ns (zU ns) (zU ns)) (zO ns (zV ns) (zV ns))
 have h4:bl (zD ns) ≤ bl (zO ns (zU ns) (zU ns) * zO ns (zV ns) (zV ns)):=bl_mono (Nat.sub_le _ _)
 lia
theorem zB_b (ns:List Int):512 ≤ zB ns∧bl (zB ns) ≤ 1209:=by
 have h2:=zW_b ns
 refine ⟨?_,?_⟩
 ·unfold zB
  exact Nat.le_trans (show 512 ≤ 2 ^ 9 by decide) (Nat.pow_le_pow_right (by decide) h2.1)
 ·have:=bl_two (zW ns);unfold zB;lia
theorem st_under {ns:List Int}{vs:List (Str × D)}(hP:PV (coreP ns) vs) (h1:Has vs "both" (.int (zD ns:Int))) (h2:Has vs "share" (.int (zSh ns:Int))) (h3:Has vs "other" (.int (zOt ns:Int))) (hN:NumH ns):SX1 h₁ r scL vs (innOf (stOf 20) 23) (· = .next (("under",.int (zUn ns:Int))::vs)):=by
 conv=>arg 5;whnf
 have hb:=zSize_b ns
 have hB:=zB_b ns
 have hD:=zD_bl hN
 have hm:bl (zB ns - zSize ns) ≤ 1209:=Nat.le_trans (bl_mono (Nat.sub_le _ _)) hB.2
 exact SX1.assign (EVP.binop (EVP.binop (EVP.binop (EVP.binop (EVP.name (hP.get (k := "base") rfl) rfl) (EVP.name (hP.get (k := "size") rfl) rfl) (IOp.subN (by lia))) (EVP.name h1 rfl) (IOp.mulN (by lia))) (EVP.name h2 rfl) IOp.addN) (EVP.name h3 rfl) IOp.addN) (.inl rfl)
end
end Mine
namespace Mine
variable [Wd]
noncomputable def zX1 (ns:List Int):Nat:=zB ns ^ zR ns * zSh ns
noncomputable def zX2 (ns:List Int):Nat:=zB ns ^ zR ns * zOt ns
noncomputable def zX3 (ns:List Int):Nat:=zB ns ^ (zR ns + 1) * zD ns
theorem bl_add_le {a b k:Nat}(h:bl a ≤ k) (h':bl b ≤ k):bl (a + b) ≤ k + 1:=Nat.le_trans (bl_add a b) (Nat.succ_le_succ (Nat.max_le.mpr ⟨h,h'⟩))
theorem le2 {s B:Nat}(h:2 * s ≤ B):B ≤ 2 * (B - s):=by omega
theorem zUn_b {ns:List Int}(hN:NumH ns):zB ns ≤ 2 * zUn ns∧zD ns ≤ zUn ns∧zSh ns ≤ zUn ns∧zOt ns ≤ zUn ns∧bl (zUn ns) ≤ 16000:=by
 have hb:=zSize_b ns
 have hB:=zB_b ns
 have hd:1 ≤ zD ns:=Nat.sub_pos_of_lt hN.d
 have hs:2 * zSize ns ≤ zB ns:=Nat.le_trans (Nat.mul_le_mul_left 2 hb.2) (Nat.le_trans (by decide) hB.1)
 have h1:(zB ns - zSize ns) * 1 ≤ (zB ns - zSize ns) * zD ns:=Nat.mul_le_mul_left _ hd
 have h3:zSize ns < zB ns:=Nat.lt_of_le_of_lt hb.2 (Nat.lt_of_lt_of_le (by decide) hB.1)
 have m1:=bl_mul (zB ns - zSize ns) (zD ns)
 have m2:bl ((zB ns - zSize ns) * zD ns) ≤ 11209:=Nat.le_trans m1 (Nat.add_le_add (Nat.le_trans (bl_mono (Nat.sub_le _ _)) hB.2) (zD_bl hN))
 have le:∀ {x},x ≤ 5000→x ≤ 11209:=fun h=>Nat.le_trans h (by decide)
 refine ⟨Nat.le_trans (le2 hs) (Nat.mul_le_mul_left 2 (Nat.le_trans (Nat.le_of_eq (Nat.mul_one _).symm) (Nat.le_trans h1 (Nat.le_trans (Nat.le_add_right _ _) (Nat.le_add_right _ _))))),Nat.le_trans (Nat.le_mul_of_pos_left _ (Nat.sub_pos_of_lt h3)) (Nat.le_trans (Nat.le_add_right _ _) (Nat.le_add_right _ _)),Nat.le_trans (Nat.le_add_left _ _) (Nat.le_add_right _ _),Nat.le_add_left _ _,?_⟩
 exact Nat.le_trans (bl_add_le (bl_add_le m2 (le (Nat.le_trans (bl_mono (Nat.sub_le _ _)) (hN.b1 _ _ (.inr rfl) (.inr rfl))))) (Nat.le_succ_of_le (le (Nat.le_trans (bl_mono (Nat.sub_le _ _)) (hN.b1 _ _ (.inl rfl) (.inl rfl)))))) (by decide)
theorem dm8 {a u w:Nat}(h:a ≤ 6 * w + 1 + u) (k:w ≤ u):a + u - 1 ≤ 9 * u:=by omega
theorem dmB {ns:List Int}(hN:NumH ns) {a:Nat}(ha:a ≤ zB ns ^ 6 * zUn ns):DmB a (zUn ns):=by
 refine ex04 (zUn_b hN) fun h1 _ _ _ h5=>?_
 have hB:=zB_b ns
 have hW:=zW_b ns
 have e6:bl (zB ns ^ 6) ≤ 6 * zW ns + 1:=by
  unfold zB
  rw [← Nat.pow_mul,Nat.mul_comm 6]
  exact bl_two _
 have hlow:zW ns ≤ bl (zUn ns):=by
  have h2:zB ns < 2 * 2 ^ bl (zUn ns):=Nat.lt_of_le_of_lt h1 ((Nat.mul_lt_mul_left (by decide)).mpr (lt_bl (zUn ns)))
  unfold zB at h2
  rw [Nat.mul_comm,← Nat.pow_succ] at h2
  exact Nat.le_of_lt_succ ((Nat.pow_lt_pow_iff_right (by decide:1 < 2)).mp h2)
 have hbl:bl a ≤ 6 * zW ns + 1 + bl (zUn ns):=Nat.le_trans (bl_mono ha) (Nat.le_trans (bl_mul _ _) (Nat.add_le_add_right e6 _))
 refine ⟨Nat.pos_of_ne_zero fun e=>by rw [e] at h1;exact absurd (Nat.le_trans hB.1 h1) (by decide),h5,Nat.le_trans hbl (Nat.le_trans (Nat.add_le_add (Nat.succ_le_succ (Nat.mul_le_mul_left 6 hW.2)) h5) (by decide)),?_⟩
 unfold ndig
 have h8:bl a + bl (zUn ns) - 1 ≤ 9 * bl (zUn ns):=dm8 hbl hlow
 have:(bl a + bl (zUn ns) - 1) / bl (zUn ns) ≤ 9 * bl (zUn ns) / bl (zUn ns):=Nat.div_le_div_right h8
 rw [Nat.mul_div_cancel _ (Nat.lt_of_lt_of_le (Nat.lt_of_lt_of_le (by decide) hW.1) hlow)] at this
 exact Nat.le_trans this (by decide)
theorem powMono {ns:List Int}{n:Nat}(h:n ≤ 6):zB ns ^ n ≤ zB ns ^ 6:=Nat.pow_le_pow_right (by have:=zB_b ns;lia) h
theorem zX1_le {ns:List Int}(hN:NumH ns):zX1 ns ≤ zB ns ^ 6 * zUn ns:=Nat.mul_le_mul (powMono (by have:=zR_b ns;lia)) (zUn_b hN).2.2.1
theorem zX2_le {ns:List Int}(hN:NumH ns):zX2 ns ≤ zB ns ^ 6 * zUn ns:=Nat.mul_le_mul (powMono (by have:=zR_b ns;lia)) (zUn_b hN).2.2.2.1
theorem zX3_le {ns:List Int}(hN:NumH ns):zX3 ns ≤ zB ns ^ 6 * zUn ns:=Nat.mul_le_mul (powMono (by have:=zR_b ns;lia)) (zUn_b hN).2.1
noncomputable def zWin (ns:List Int):Int:=(zX1 ns:Int) / (zUn ns:Int)
noncomputable def zRest (ns:List Int):Int:=(zX1 ns:Int) % (zUn ns:Int)
noncomputable def zLos (ns:List Int):Int:=(zX2 ns:Int) / (zUn ns:Int)
noncomputable def zOwe (ns:List Int):Int:=-((zX2 ns:Int) % (zUn ns:Int))
noncomputable def zMis (ns:List Int):Int:=(-1 - (zX3 ns:Int)) / (zUn ns:Int)
noncomputable def zOver (ns:List Int):Int:=(-1 - (zX3 ns:Int)) % (zUn ns:Int)
section
variable {h₁:Gl}{r:Nat}{vars:List (Str × D)}
theorem sto2 {x y:Str}{p q:Pos}(hx:Sto scL x) (hy:Sto scL y):∀ e ∈ ([.Name x p,.Name y q]:List Expr),Sto scL (nmOf e):=by
 exact fm hx (fm hy fn)
theorem powRE {ns:List Int}{vs:List (Str × D)}{p1 p2 p3:Pos}(hP:PV (coreP ns) vs):EVP h₁ r scL vs (.BinOp (.Name "base" p1) .Pow (.Name "rounds" p2) p3) (.int ((zB ns ^ zR ns:Nat):Int)):=by
 have hB:=zB_b ns
 have hR:=zR_b ns
 refine EVP.binop (EVP.name (hP.get (k := "base") rfl) rfl) (EVP.name (hP.get (k := "rounds") rfl) rfl) (IOp.powN ?_)
 have:bl (zB ns) * zR ns ≤ 1209 * 5:=Nat.mul_le_mul hB.2 hR.2
 lia
theorem powR_bl {ns:List Int}{n:Nat}(hn:n ≤ 6):bl (zB ns ^ n) ≤ 7300:=by
 have hW:=zW_b ns
 unfold zB
 rw [← Nat.pow_mul]
 have:=bl_two (zW ns * n)
 have h2:zW ns * n ≤ 1208 * 6:=Nat.mul_le_mul hW.2 hn
 lia
theorem x1E {ns:List Int}{vs:List (Str × D)}{p1 p2 p3 p4 p5:Pos}(hP:PV (coreP ns) vs) (h:Has vs "share" (.int (zSh ns:Int))) (hN:NumH ns):EVP h₁ r scL vs (.BinOp (.BinOp (.Name "base" p1) .Pow (.Name "rounds" p2) p3) .Mult (.Name "share" p4) p5) (.int (zX1 ns:Int)):=by
 have hR:=zR_b ns
 have s1:bl (zSh ns) ≤ 5000:=Nat.le_trans (bl_mono (Nat.sub_le _ _)) (hN.b1 _ _ (.inr rfl) (.inr rfl))
 have:=powR_bl (ns:=ns) (n:=zR ns) (by lia)
 exact EVP.binop (powRE hP) (EVP.name h rfl) (IOp.mulN (by lia))
theorem st_wins {ns:List Int}{vs:List (Str × D)}(hr:72 ≤ r) (hP:PV (coreP ns) vs) (h1:Has vs "share" (.int (zSh ns:Int))) (h2:Has vs "under" (.int (zUn ns:Int))) (hN:NumH ns):SX1 h₁ r scL vs (innOf (stOf 20) 24) (· = .next (("rest",.int (zRest ns))::("wins",.int (zWin ns))::vs)):=by
 have hd:=dmB hN (zX1_le hN)
 have hc:=CallOK.up (h₁:=h₁) (idm_nat (a:=zX1 ns) (b:=zUn ns) hd div2_ok) (show 71 ≤ r by lia)
 conv=>arg 5;whnf
 exact SX1.unpack (ds:=[.int (zWin ns),.int (zRest ns)]) (EVP.call (NameIs.glob (by decide) rfl) (KeepOK.fn fun T=>T.fDm) (EVS.cons (x1E hP h1 hN) (EVS.cons (EVP.name h2 rfl) EVS.nil)) hc) rfl (sto2 (.inr rfl) (.inl rfl))
end
end Mine
namespace Mine
variable [Wd]
section
variable {h₁:Gl}{r:Nat}{vars:List (Str × D)}
theorem bits_neg (n:Nat):Builtin.Int.intBits (-(n:Int)) = bl n:=by
 rw [← bits_nat]
 unfold Builtin.Int.intBits
 simp
theorem IOp.mulI {a b:Int}{n m:Nat}(ha:a = (n:Int) ∨ a = -(n:Int)) (hb:b = (m:Int) ∨ b = -(m:Int)) (h:bl n + bl m ≤ 134217728):IOp .Mult a b (a * b):=by
 refine IOp.mul ?_
 have h1:Builtin.Int.intBits a = bl n:=by
  rcases ha with rfl | rfl
  ·exact bits_nat n
  ·exact bits_neg n
 have h2:Builtin.Int.intBits b = bl m:=by
  rcases hb with rfl | rfl
  ·exact bits_nat m
  ·exact bits_neg m
 unfold IntMulOk
 intro q
 rw [Bool.and_eq_true] at q
 have q2:=q.2
 rw [h1,h2] at q2
 unfold Builtin.Int.intTooBig at q2
 have hb:bitsLine = 134217728:=rfl
 rw [decide_eq_true_eq,hb] at q2
 lia
theorem st_losses {ns:List Int}{vs:List (Str × D)}(hr:73 ≤ r) (hP:PV (coreP ns) vs) (h1:Has vs "other" (.int (zOt ns:Int))) (h2:Has vs "under" (.int (zUn ns:Int))) (hN:NumH ns):SX1 h₁ r scL vs (innOf (stOf 20) 25) (· = .next (("owed",.int (zOwe ns))::("losses",.int (zLos ns))::vs)):=by
 have hR:=zR_b ns
 have hd:=dmB hN (zX2_le hN)
 have ha:absI (-(-(zX2 ns:Int))) = zX2 ns:=by rw [Int.neg_neg];unfold absI;rw [if_neg (by lia)];simp
 have hc:=CallOK.up (h₁:=h₁) (idm_neg (a:=-(zX2 ns:Int)) (b:=zUn ns) (by rw [ha];exact hd) div2_ok) hr
 rw [Int.neg_neg] at hc
 conv=>arg 5;whnf
 have s1:bl (zOt ns) ≤ 5000:=Nat.le_trans (bl_mono (Nat.sub_le _ _)) (hN.b1 _ _ (.inl rfl) (.inl rfl))
 have hp:=powR_bl (ns:=ns) (n:=zR ns) (by lia)
 refine SX1.unpack (ds:=[.int (zLos ns),.int (zOwe ns)]) (EVP.call (NameIs.glob (by decide) rfl) (KeepOK.fn fun T=>T.fDm) (EVS.cons (EVP.as (EVP.binop (EVP.neg (powRE hP)) (EVP.name h1 rfl) (IOp.mulI (n:=zB ns ^ zR ns) (m:=zOt ns) (.inr rfl) (.inl rfl) (by lia))) ?_) (EVS.cons (EVP.neg (EVP.name h2 rfl)) EVS.nil)) hc) rfl (sto2 (.inr rfl) (.inl rfl))
 have:-((zB ns ^ zR ns:Nat):Int) * (zOt ns:Int) = -(zX2 ns:Int):=by
  unfold zX2
  rw [Int.natCast_mul,Int.neg_mul]
 rw [this]
theorem x3E {ns:List Int}{vs:List (Str × D)}{p1 p2 p3 p4 p5 p6 p7:Pos}{n:Nat}(hP:PV (coreP ns) vs) (h:Has vs "both" (.int (zD ns:Int))) (hN:NumH ns):EVP h₁ r scL vs (.BinOp (.BinOp (.Name "base" p1) .Pow (.BinOp (.Name "rounds" p2) .Add (.Constant (.int 1) n p3) p4) p5) .Mult (.Name "both" p6) p7) (.int (zX3 ns:Int)):=by
 have hR:=zR_b ns
 have hB:=zB_b ns
 have hD:=zD_bl hN
 have hp:=powR_bl (ns:=ns) (n:=zR ns + 1) (by lia)
 have hz:bl (zB ns) * (zR ns + 1) ≤ 1209 * 6:=Nat.mul_le_mul hB.2 (by lia)
 exact EVP.binop (EVP.binop (EVP.name (hP.get (k := "base") rfl) rfl) (EVP.binop (EVP.name (hP.get (k := "rounds") rfl) rfl) EVP.c1 IOp.addN) (IOp.powN (by lia))) (EVP.name h rfl) (IOp.mulN (by lia))
theorem st_missed {ns:List Int}{vs:List (Str × D)}(hr:72 ≤ r) (hP:PV (coreP ns) vs) (h1:Has vs "both" (.int (zD ns:Int))) (h2:Has vs "under" (.int (zUn ns:Int))) (hN:NumH ns):SX1 h₁ r scL vs (innOf (stOf 20) 26) (· = .next (("over",.int (zOver ns))::("missed",.int (zMis ns))::vs)):=by
 have hd:=dmB hN (zX3_le hN)
 have ha:absI (-1 - (zX3 ns:Int)) = zX3 ns:=by
  unfold absI;rw [if_pos (by lia)];lia
 have hc:=CallOK.up (h₁:=h₁) (idm_pos (a:=-1 - (zX3 ns:Int)) (b:=zUn ns) (by rw [ha];exact hd) div2_ok) hr
 conv=>arg 5;whnf
 exact SX1.unpack (ds:=[.int (zMis ns),.int (zOver ns)]) (EVP.call (NameIs.glob (by decide) rfl) (KeepOK.fn fun T=>T.fDm) (EVS.cons (EVP.binop (EVP.neg EVP.const_int) (x3E hP h1 hN) IOp.sub) (EVS.cons (EVP.name h2 rfl) EVS.nil)) hc) rfl (sto2 (.inl rfl) (.inl rfl))
end
end Mine
namespace Mine
variable [Wd]
theorem neg_div {x b:Nat}(hb:0 < b):(-1 - (x:Int)) / (b:Int) = -((x / b + 1:Nat):Int)∧(-1 - (x:Int)) % (b:Int) = ((b - 1 - x % b:Nat):Int):=by
 have hm:=Nat.mod_lt x hb
 have hx:=Nat.div_add_mod x b
 refine (Int.ediv_emod_unique (Int.ofNat_lt.mpr hb)).mpr ⟨?_,Int.natCast_nonneg _,Int.ofNat_lt.mpr (Nat.lt_of_le_of_lt (Nat.sub_le _ _) (Nat.sub_lt hb Nat.one_pos))⟩
 have e:((b - 1 - x % b:Nat):Int) = (b:Int) - 1 - ((x % b:Nat):Int):=by rw [Int.ofNat_sub (Nat.le_sub_one_of_lt hm),Int.ofNat_sub hb];rfl
 rw [e]
 have h2:(x:Int) = (b:Int) * ((x / b:Nat):Int) + ((x % b:Nat):Int):=by
  rw [← Int.natCast_mul,← Int.natCast_add,hx]
 have h3:(b:Int) * -((x / b + 1:Nat):Int) = -((b:Int) * ((x / b:Nat):Int)) - (b:Int):=by
  rw [Int.mul_neg,Int.natCast_add,Int.mul_add];simp;lia
 rw [h3]
 lia
section
variable {h₁:Gl}{r:Nat}{vars:List (Str × D)}
theorem zWin_nat (ns:List Int):zWin ns = ((zX1 ns / zUn ns:Nat):Int):=by simp [zWin]
theorem zLos_nat (ns:List Int):zLos ns = ((zX2 ns / zUn ns:Nat):Int):=by simp [zLos]
theorem zUn_pos {ns:List Int}(hN:NumH ns):0 < zUn ns:=by have:=zUn_b hN;have:=zB_b ns;lia
theorem zMis_nat {ns:List Int}(hN:NumH ns):zMis ns = -((zX3 ns / zUn ns + 1:Nat):Int):=(neg_div (zUn_pos hN)).1
theorem big_bl {ns:List Int}(hN:NumH ns) {a:Nat}(ha:a ≤ zB ns ^ 6 * zUn ns):bl a ≤ 24000:=by
 have h1:=powR_bl (ns:=ns) (n:=6) (by lia)
 have h2:=zUn_b hN
 have h3:=bl_mul (zB ns ^ 6) (zUn ns)
 have h4:=bl_mono ha
 lia
theorem x2E {ns:List Int}{vs:List (Str × D)}{p1 p2 p3 p4 p5:Pos}(hP:PV (coreP ns) vs) (h:Has vs "other" (.int (zOt ns:Int))) (hN:NumH ns):EVP h₁ r scL vs (.BinOp (.BinOp (.Name "base" p1) .Pow (.Name "rounds" p2) p3) .Mult (.Name "other" p4) p5) (.int (zX2 ns:Int)):=by
 have hR:=zR_b ns
 have s1:bl (zOt ns) ≤ 5000:=Nat.le_trans (bl_mono (Nat.sub_le _ _)) (hN.b1 _ _ (.inl rfl) (.inl rfl))
 have:=powR_bl (ns:=ns) (n:=zR ns) (by lia)
 exact EVP.binop (powRE hP) (EVP.name h rfl) (IOp.mulN (by lia))
structure NV (ns:List Int) (vs:List (Str × D)):Prop where
 P:PV (coreP ns) vs
 sh:Has vs "share" (.int (zSh ns:Int))
 ot:Has vs "other" (.int (zOt ns:Int))
 bo:Has vs "both" (.int (zD ns:Int))
 un:Has vs "under" (.int (zUn ns:Int))
 wi:Has vs "wins" (.int (zWin ns))
 re:Has vs "rest" (.int (zRest ns))
 lo:Has vs "losses" (.int (zLos ns))
 ow:Has vs "owed" (.int (zOwe ns))
 mi:Has vs "missed" (.int (zMis ns))
 ov:Has vs "over" (.int (zOver ns))
theorem test27 {ns:List Int}{vs:List (Str × D)}{rest:List Stmt}{Φ:Out→Prop}(V:NV ns vs) (hN:NumH ns) (k:SX h₁ r scL vs rest Φ):SX h₁ r scL vs (innOf (stOf 20) 27::rest) Φ:=by
 have hu:=zUn_pos hN
 have hub:=zUn_b hN
 have b1:=big_bl hN (a:=zX1 ns / zUn ns) (Nat.le_trans (Nat.div_le_self _ _) (zX1_le hN))
 have b2:=big_bl hN (a:=zX2 ns / zUn ns) (Nat.le_trans (Nat.div_le_self _ _) (zX2_le hN))
 have e1:zWin ns * (zUn ns:Int) + zRest ns = (zX1 ns:Int):=by unfold zWin zRest;rw [Int.mul_comm];exact Int.mul_ediv_add_emod _ _
 have e2:zLos ns * (zUn ns:Int) - zOwe ns = (zX2 ns:Int):=by unfold zLos zOwe;rw [Int.sub_neg,Int.mul_comm];exact Int.mul_ediv_add_emod _ _
 conv=>arg 5;arg 1;whnf
 refine SX.ite (b:=false) (TSP.as (TSP.or2 (TSP.cmp (EVP.binop (EVP.binop (EVP.name V.wi rfl) (EVP.name V.un rfl) (IOp.mulI (.inl (zWin_nat ns)) (.inl rfl) (by lia))) (EVP.name V.re rfl) IOp.add) (x1E V.P V.sh hN) COp.neI) fun _=>TSP.cmp (EVP.binop (EVP.binop (EVP.name V.lo rfl) (EVP.name V.un rfl) (IOp.mulI (.inl (zLos_nat ns)) (.inl rfl) (by lia))) (EVP.name V.ow rfl) IOp.sub) (x2E V.P V.ot hN) COp.neI) ?_) (fun hb=>by cases hb) (fun _=>SX.done k)
 rw [e1,e2];simp
theorem test28 {ns:List Int}{vs:List (Str × D)}{rest:List Stmt}{Φ:Out→Prop}(V:NV ns vs) (hN:NumH ns) (k:SX h₁ r scL vs rest Φ):SX h₁ r scL vs (innOf (stOf 20) 28::rest) Φ:=by
 have hu:=zUn_pos hN
 have hub:=zUn_b hN
 have b3:=big_bl hN (a:=zX3 ns / zUn ns) (Nat.le_trans (Nat.div_le_self _ _) (zX3_le hN))
 have b4:=bl_add (zX3 ns / zUn ns) 1
 have b5:bl 1 = 1:=rfl
 have e3:zMis ns * (zUn ns:Int) + zOver ns = -1 - (zX3 ns:Int):=by unfold zMis zOver;rw [Int.mul_comm];exact Int.mul_ediv_add_emod _ _
 conv=>arg 5;arg 1;whnf
 refine SX.ite (b:=false) (TSP.as (TSP.cmp (EVP.binop (EVP.binop (EVP.name V.mi rfl) (EVP.name V.un rfl) (IOp.mulI (n:=zX3 ns / zUn ns + 1) (.inr (zMis_nat hN)) (.inl rfl) (by lia))) (EVP.name V.ov rfl) IOp.add) (EVP.binop (EVP.neg EVP.const_int) (x3E V.P V.bo hN) IOp.sub) COp.neI) ?_) (fun hb=>by cases hb) (fun _=>SX.done k)
 rw [e3];simp
theorem st_play31 {ns:List Int}{vs:List (Str × D)}(V:NV ns vs) (hN:NumH ns):SX1 h₁ r scL vs (innOf (stOf 20) 31) (· = .next (("play",.int ((zX3 ns / zUn ns:Nat):Int))::vs)):=by
 conv=>arg 5;whnf
 refine SX1.assign (EVP.as (EVP.binop (EVP.neg EVP.const_int) (EVP.name V.mi rfl) IOp.sub) ?_) (.inr rfl)
 have:-1 - zMis ns = ((zX3 ns / zUn ns:Nat):Int):=by rw [zMis_nat hN];lia
 rw [this]
end
end Mine
namespace Mine
variable [Wd]
section
variable {h₁:Gl}{r:Nat}{vars:List (Str × D)}
theorem COp.nePair {a b:Int}:COp .NotEq (.tuple [.int a,.int b]) (.tuple [.int a,.int b]) false:=by
 have hsh:shaped (.tuple [.int a,.int b]) = true:=by simp [shaped,PyData.canLay0,PyData.canLayAll0,PyData.depth,PyData.depthAll]
 have:=COp.ne hsh hsh
 have e:PyData.eqv (.tuple [.int a,.int b]) (.tuple [.int a,.int b]) = true:=by simp [PyData.eqv,PyData.eqvAll]
 rw [e] at this
 exact this
theorem test29 {ns:List Int}{vs:List (Str × D)}{rest:List Stmt}{Φ:Out→Prop}(hr:72 ≤ r) (V:NV ns vs) (hN:NumH ns) (k:SX h₁ r scL vs rest Φ):SX h₁ r scL vs (innOf (stOf 20) 29::rest) Φ:=by
 have hu:=zUn_pos hN
 have hb:(0:Int) < (zUn ns:Int):=by lia
 have e1:zRest ns - (zX1 ns:Int) = -(zWin ns) * (zUn ns:Int):=by
  have:zWin ns * (zUn ns:Int) + zRest ns = (zX1 ns:Int):=by unfold zWin zRest;rw [Int.mul_comm];exact Int.mul_ediv_add_emod _ _
  rw [Int.neg_mul];lia
 have habs:absI (zRest ns - (zX1 ns:Int)) ≤ zX1 ns:=by
  have h1:0 ≤ zRest ns:=Int.emod_nonneg _ (by lia)
  unfold absI
  split
  ·lia
  ·have h2:zRest ns ≤ (zX1 ns:Int):=by
    unfold zRest
    have:=Nat.mod_le (zX1 ns) (zUn ns)
    rw [← Int.natCast_emod];lia
   lia
 have hd:=dmB hN (Nat.le_trans habs (zX1_le hN))
 have hc:=CallOK.up (h₁:=h₁) (idm_pos (a:=zRest ns - (zX1 ns:Int)) (b:=zUn ns) hd div2_ok) hr
 have q1:(zRest ns - (zX1 ns:Int)) / (zUn ns:Int) = -(zWin ns):=by rw [e1];exact Int.mul_ediv_cancel _ (by lia)
 have q2:(zRest ns - (zX1 ns:Int)) % (zUn ns:Int) = 0:=by rw [e1];exact Int.mul_emod_left _ _
 unfold qrI at hc
 rw [q1,q2] at hc
 conv=>arg 5;arg 1;whnf
 exact SX.ite (b:=false) (TSP.cmp (EVP.call (NameIs.glob (by decide) rfl) (KeepOK.fn fun T=>T.fDm) (EVS.cons (EVP.binop (EVP.name V.re rfl) (x1E V.P V.sh hN) IOp.sub) (EVS.cons (EVP.name V.un rfl) EVS.nil)) hc) (EVP.tuple (EVS.cons (EVP.neg (EVP.name V.wi rfl)) (EVS.cons EVP.const_int EVS.nil))) COp.nePair) (fun hb=>by cases hb) (fun _=>SX.done k)
theorem test30 {ns:List Int}{vs:List (Str × D)}{rest:List Stmt}{Φ:Out→Prop}(hr:73 ≤ r) (V:NV ns vs) (hN:NumH ns) (k:SX h₁ r scL vs rest Φ):SX h₁ r scL vs (innOf (stOf 20) 30::rest) Φ:=by
 have ea:-(1 + (zX3 ns:Int)) = -1 - (zX3 ns:Int):=by lia
 have habs:absI (-(1 + (zX3 ns:Int))) = zX3 ns:=by
  unfold absI;rw [if_pos (by lia)];lia
 have hd:=dmB hN (zX3_le hN)
 have hc:=CallOK.up (h₁:=h₁) (idm_neg (a:=1 + (zX3 ns:Int)) (b:=zUn ns) (by rw [habs];exact hd) div2_ok) hr
 rw [ea] at hc
 conv=>arg 5;arg 1;whnf
 exact SX.ite (b:=false) (TSP.cmp (EVP.call (NameIs.glob (by decide) rfl) (KeepOK.fn fun T=>T.fDm) (EVS.cons (EVP.binop EVP.const_int (x3E V.P V.bo hN) IOp.add) (EVS.cons (EVP.neg (EVP.name V.un rfl)) EVS.nil)) hc) (EVP.tuple (EVS.cons (EVP.name V.mi rfl) (EVS.cons (EVP.neg (EVP.name V.ov rfl)) EVS.nil))) COp.nePair) (fun hb=>by cases hb) (fun _=>SX.done k)
end
end Mine
namespace Mine
variable [Wd]
section
variable {h₁:Gl}{r:Nat}{vars:List (Str × D)}
noncomputable def coreY (ns:List Int) (pd:D):List (Str × D):=("profile",pd)::coreP ns
theorem coreY_P {ns:List Int}{pd:D}{vs:List (Str × D)}(h:PV (coreY ns pd) vs):PV (coreP ns) vs:=h.low (PV.refl.skip rfl)
set_option maxRecDepth 4000 in
theorem law_num {ns:List Int}{pd:D}{vs:List (Str × D)}{rest:List Stmt}{Φ:Out→Prop}(hr:73 ≤ r) (hP:PV (coreY ns pd) vs) (hN:NumH ns) (k:∀ vs',PV (coreY ns pd) vs'→NV ns vs'→Has vs' "play" (.int ((zX3 ns / zUn ns:Nat):Int))→SX h₁ r scL vs' rest Φ) :
  SX h₁ r scL vs (innOf (stOf 20) 19::innOf (stOf 20) 20::innOf (stOf 20) 21::innOf (stOf 20) 22::innOf (stOf 20) 23::innOf (stOf 20) 24::innOf (stOf 20) 25::innOf (stOf 20) 26::innOf (stOf 20) 27::innOf (stOf 20) 28::innOf (stOf 20) 29::innOf (stOf 20) 30::innOf (stOf 20) 31::rest) Φ:=by
 refine SX.step (st_share (by lia) (coreY_P hP) hN) ?_
 have hP1:PV (coreY ns pd) ((("share":Str),PyData.int (zSh ns:Int))::vs):=hP.skip rfl
 refine SX.step (st_other (by lia) (coreY_P hP1) hN) ?_
 have hP2:PV (coreY ns pd) ((("other":Str),PyData.int (zOt ns:Int))::(("share":Str),PyData.int (zSh ns:Int))::vs):=hP1.skip rfl
 refine SX.step (st_alike (by lia) (coreY_P hP2) hN) ?_
 have hP3:=PV.skip hP2 (x := "alike") (d:=.int ((zO ns (zU ns) (zU ns) * zO ns (zV ns) (zV ns):Nat):Int)) rfl
 refine SX.step (st_both (by lia) (coreY_P hP3) Has.here hN) ?_
 have hP4:=PV.skip hP3 (x := "both") (d:=.int (zD ns:Int)) rfl
 refine SX.step (st_under (coreY_P hP4) Has.here (((Has.here.skip rfl).skip rfl).skip rfl) ((Has.here.skip rfl).skip rfl) hN) ?_
 have hP5:=PV.skip hP4 (x := "under") (d:=.int (zUn ns:Int)) rfl
 refine SX.step (st_wins (by lia) (coreY_P hP5) ((((Has.here.skip rfl).skip rfl).skip rfl).skip rfl) Has.here hN) ?_
 have hP6:=(PV.skip hP5 (x := "wins") (d:=.int (zWin ns)) rfl).skip (x := "rest") (d:=.int (zRest ns)) rfl
 refine SX.step (st_losses hr (coreY_P hP6) (((((Has.here.skip rfl).skip rfl).skip rfl).skip rfl).skip rfl) ((Has.here.skip rfl).skip rfl) hN) ?_
 have hP7:=(PV.skip hP6 (x := "losses") (d:=.int (zLos ns)) rfl).skip (x := "owed") (d:=.int (zOwe ns)) rfl
 refine SX.step (st_missed (by lia) (coreY_P hP7) (((((Has.here.skip rfl).skip rfl).skip rfl).skip rfl).skip rfl) ((((Has.here.skip rfl).skip rfl).skip rfl).skip rfl) hN) ?_
 have hP8:=(PV.skip hP7 (x := "missed") (d:=.int (zMis ns)) rfl).skip (x := "over") (d:=.int (zOver ns)) rfl
 have V:NV ns _:=⟨coreY_P hP8,rfl,rfl,rfl,rfl,rfl,rfl,rfl,rfl,rfl,rfl⟩
 refine test27 V hN ?_
 refine test28 V hN ?_
 refine test29 (by lia) V hN ?_
 refine test30 hr V hN ?_
 refine SX.step (st_play31 V hN) ?_
 refine k _ (hP8.skip rfl) ⟨coreY_P (hP8.skip rfl),V.sh.skip rfl,V.ot.skip rfl,V.bo.skip rfl,V.un.skip rfl,V.wi.skip rfl,V.re.skip rfl,V.lo.skip rfl,V.ow.skip rfl,V.mi.skip rfl,V.ov.skip rfl⟩ Has.here
end
end Mine
namespace Mine
variable [Wd]
section
variable {h₁:Gl}{r:Nat}{sc:Sc}{vars:List (Str × D)}
theorem SX1.assignDC {x:Str}{p pos:Pos}{kx vx:Expr}{gens:List Comprehension}{scope:Scope}{cpos:Pos}{d:D}(he:EVP h₁ r sc vars (.DictComp kx vx gens scope cpos) d) (hx:stoK sc x = some .cell):SX1 h₁ r sc vars (.Assign [.Name x p] (.DictComp kx vx gens scope cpos) pos) (· = .next ((x,d)::vars)):=by
 intro prog w A env s H Q E T R I F k
 have hyk:env.kindOf x = some .cell:=F.ok.kindOf (stoK_names hx).1
 have hsw:swapsWith (.DictComp kx vx gens scope cpos) (some (.Name x p)) pos.line env = pure false:=by
  unfold swapsWith
  show pure (env.blockKind == .function && env.kindOf x == some .local && p.line == cpos.line && !(scope.names.any fun q=>q.1 == x && (q.2 == .local || q.2 == .cell))) = pure false
  rw [hyk,show (some NameKind.cell == some NameKind.local) = false from rfl,Bool.and_false,Bool.false_and,Bool.false_and]
 refine wpAny_Assign_Name (he prog w A env s H _ E T R I F.ok fun v s₁ st I₁ hv=>?_) hsw
 have F₁:=F.grow st.st
 with_reducible refine store (.inr hx) I₁ F₁ hv fun s₂ st₂ I₂ F₂=>?_
 exact k _ _ _ rfl (st.up.trans st₂) I₂ F₂
end
theorem dOut_kD {α:Type}(f:α→D) (g:Nat→α) (t:Nat→Bool):∀ (l:List Nat),l.Nodup→∀ n,n ≤ l.length→dOut (fun i=>t (l.getD i 0)) (fun i=>S [l.getD i 0]) (fun i=>f (g (l.getD i 0))) n = kD f (((l.take n).filter t).map fun c=>(c,g c))
 | l,hn,0,_=>by simp [dOut,kD]
 | l,hn,n + 1,h=>by
  have ih:=dOut_kD f g t l hn n (by lia)
  have hlt:n < l.length:=by lia
  have hg:l.getD n 0 = l[n]:=by simp [hlt]
  have htk:l.take (n + 1) = l.take n ++ [l[n]]:=by rw [List.take_add_one,List.getElem?_eq_getElem hlt];rfl
  show (if t (l.getD n 0) = true then _ else _) = _
  rw [ih,htk,List.filter_append,List.map_append]
  simp only [hg]
  by_cases ht:t l[n] = true
  ·rw [if_pos ht,kD_put]
   congr 1
   unfold putK
   have hno:¬ ((((l.take n).filter t).map fun c=>(c,g c)).any fun p=>p.1 == l[n]) = true:=by
    intro q
    refine ex11 (List.any_eq_true.mp q) fun p hp e=>?_
    refine ex11 (List.mem_map.mp hp) fun c hc zq1=>?_;subst zq1
    have hc':=(List.mem_filter.mp hc).1
    have e':c = l[n]:=by simpa using e
    subst e'
    obtain ⟨i,hi,e2⟩:=List.getElem_of_mem hc'
    rw [List.getElem_take] at e2
    have hi':i < n:=by simp at hi;lia
    exact (List.pairwise_iff_getElem.mp hn) i n (by lia) hlt hi' e2
   rw [if_neg hno]
   simp [ht]
  ·rw [if_neg ht]
   simp [ht]
end Mine
namespace Mine
variable [Wd]
noncomputable def lastU (ns:List Int):Nat:=(zU ns).getD (zL ns - 1) 0
noncomputable def lastV (ns:List Int):Nat:=(zV ns).getD (zL ns - 1) 0
noncomputable def goneI (ns:List Int) (c:Nat):Int:=(if c = lastU ns then zWin ns else 0) + (if c = lastV ns then zLos ns else 0)
theorem charLast {l:List Nat}{n:Nat}(hl:l.length = n) (hn:1 ≤ n) (hz:n ≤ 100):Txt.charAt (S l) (-1) = some (l.getD (n - 1) 0):=by
 unfold Txt.charAt
 have h1:seqIndex? (-1) (S l).length = some (n - 1):=by
  rw [S_len,hl]
  unfold seqIndex?
  simp
  rw [show (-1:Int) + (n:Int) = ((n - 1:Nat):Int) from (Int.add_comm _ _).trans (Int.ofNat_sub hn).symm]
  exact ⟨⟨Int.natCast_nonneg _,Int.ofNat_lt.mpr (Nat.sub_lt hn (by decide))⟩,Int.toNat_natCast _⟩
 rw [h1]
 have:n - 1 < l.length:=by rw [hl];exact Nat.sub_lt hn (by decide)
 simp [this]
section
variable {h₁:Gl}{r:Nat}{vars:List (Str × D)}
theorem lastE {sc:Sc}{x:Str}{l:List Nat}{n:Nat}{vs:List (Str × D)}{p1 p2 p3 p4:Pos}{k:Nat}(hx:Has vs x (.str (S l))) (hd:(x == ("__debug__":Str)) = false) (hl:l.length = n) (hn:1 ≤ n) (hz:n ≤ 100):EVP h₁ r sc vs (.Subscript (.Name x p1) (.UnaryOp .USub (.Constant (.int 1) k p2) p3) p4) (.str (S [l.getD (n - 1) 0])):=
 EVP.item (EVP.name hx hd) (EVP.neg EVP.const_int) (GetOK.str (by decide) (charLast hl hn hz)) rfl
theorem eq1 {a b:Nat}:(S [a] == S [b]) = decide (a = b):=by rw [S1_beq];by_cases h:a = b <;> simp [h]
set_option maxRecDepth 4000 in
theorem st_gone {ns:List Int}{vs:List (Str × D)}(V:NV ns vs) (hsg:(zSg ns).Nodup):SX1 h₁ r scL vs (innOf (stOf 20) 32) (· = .next (("gone",dictD (kD fO ((zSg ns).map fun c=>(c,goneI ns c))))::vs)):=by
 have hL:=zL_b ns
 conv=>arg 5;whnf
 have hlen:(strsD (zSg ns)).length = (zSg ns).length:=by simp [strsD]
 have hz:=zSize_b ns
 have hs:=zSg_len ns
 have e:dictD (kD fO ((zSg ns).map fun c=>(c,goneI ns c))) = dictD (dOut (fun i=>(fun _=>true) ((zSg ns).getD i 0)) (fun i=>S [(zSg ns).getD i 0]) (fun i=>fO (goneI ns ((zSg ns).getD i 0))) (strsD (zSg ns)).length):=by
  rw [dOut_kD fO (goneI ns) (fun _=>true) (zSg ns) hsg _ (by rw [hlen];exact Nat.le_refl _),hlen,List.take_length,List.filter_eq_self.mpr fun _ _=>rfl]
 rw [e]
 refine SX1.assignDC (EVR.pure (P:=Rp.nil) (P':=Rp.nil) (EVR.dictcomp rfl (CompOK.dict (P:=Rp.nil) (fun i=>(fun _=>true) ((zSg ns).getD i 0)) (fun i=>S [(zSg ns).getD i 0]) (fun i=>fO (goneI ns ((zSg ns).getD i 0))) (EVI.j (EVI.list (EVP.name (V.P.get (k := "signs") rfl) rfl))) ?k1 (by rw [hlen];omega) (fun _ _=>rfl) fun i d hd=>?k2)) Rp.nil_ok) rfl
 case k1=>
  refine ⟨rfl,by decide,by decide,fm ⟨rfl,rfl,.inl (by rw [V.lo];rfl)⟩ (fm ⟨rfl,rfl,.inl (by rw [V.P.get (k := "one") rfl];rfl)⟩ (fm ⟨rfl,rfl,.inl (by rw [V.P.get (k := "two") rfl];rfl)⟩ (fm ⟨rfl,rfl,.inl (by rw [V.wi];rfl)⟩ fn)))⟩
 case k2=>
  refine ex11 (strsD_get hd) fun c hc zq1=>?_;subst zq1
  have hg:(zSg ns).getD i 0 = c:=by rw [List.getD_eq_getElem?_getD,hc];rfl
  refine ⟨_,.name rfl,skip_weak (cvars_none rfl) fun _ _ q=>q,.inl ⟨rfl,rfl⟩,fun _=>?_⟩
  rw [hg]
  refine ⟨EVP.name Has.here rfl,?_⟩
  have t1:(S [c] == S [lastU ns]) = decide (c = lastU ns):=eq1
  have t2:(S [c] == S [lastV ns]) = decide (c = lastV ns):=eq1
  refine EVP.binop (a:=if c = lastU ns then zWin ns else 0) (b:=if c = lastV ns then zLos ns else 0) (EVP.ifexp (TSP.as (TSP.cmp (EVP.name Has.here rfl) (lastE ((cvars_has (V.P.get (k := "one") rfl) rfl).skip rfl) rfl (zU_len ns) (by omega) (by omega)) COp.eqS) t1) (fun h=>?_) fun h=>?_) (EVP.ifexp (TSP.as (TSP.cmp (EVP.name Has.here rfl) (lastE ((cvars_has (V.P.get (k := "two") rfl) rfl).skip rfl) rfl (zV_len ns) (by omega) (by omega)) COp.eqS) t2) (fun h=>?_) fun h=>?_) IOp.add
  ·rw [if_pos (of_decide_eq_true h)];exact EVP.name ((cvars_has V.wi rfl).skip rfl) rfl
  ·rw [if_neg (of_decide_eq_false h)];exact EVP.const_int
  ·rw [if_pos (of_decide_eq_true h)];exact EVP.name ((cvars_has V.lo rfl).skip rfl) rfl
  ·rw [if_neg (of_decide_eq_false h)];exact EVP.const_int
end
end Mine
namespace Mine
variable [Wd]
noncomputable def zPlay (ns:List Int):Nat:=zX3 ns / zUn ns
noncomputable def endI (ns:List Int) (c:Nat):Int:=((zPlay ns / 2 ^ zW ns:Nat):Int) - goneI ns c
section
variable {h₁:Gl}{r:Nat}{vars:List (Str × D)}
theorem kD_get {α:Type}{f:α→D}{g:Nat→α}{l:List Nat}{c:Nat}(hc:c ∈ l):dget (kD f (l.map fun c=>(c,g c))) (S [c]) = some (f (g c)):=by
 unfold dget
 rw [kD_lookup]
 have:(l.map fun c=>(c,g c)).lookup c = some (g c):=by
  induction l with
  | nil=>cases hc
  | cons a l ih=>
   rw [List.map_cons,List.lookup_cons]
   by_cases h:c = a
   ·subst h;simp
   ·have h2:(c == a) = false:=by simpa using h
    rw [h2]
    exact ih ((List.mem_cons.mp hc).resolve_left h)
 rw [this];rfl
set_option maxRecDepth 4000 in
theorem st_ends {ns:List Int}{vs:List (Str × D)}(V:NV ns vs) (hsg:(zSg ns).Nodup) (hp:Has vs "play" (.int ((zPlay ns:Nat):Int))) (hg:Has vs "gone" (dictD (kD fO ((zSg ns).map fun c=>(c,goneI ns c))))):SX1 h₁ r scL vs (innOf (stOf 20) 33) (· = .next (("ends",dictD (kD fO ((zSg ns).map fun c=>(c,endI ns c))))::vs)):=by
 conv=>arg 5;whnf
 have hlen:(strsD (zSg ns)).length = (zSg ns).length:=by simp [strsD]
 have hz:=zSize_b ns
 have hs:=zSg_len ns
 have e:dictD (kD fO ((zSg ns).map fun c=>(c,endI ns c))) = dictD (dOut (fun i=>(fun _=>true) ((zSg ns).getD i 0)) (fun i=>S [(zSg ns).getD i 0]) (fun i=>fO (endI ns ((zSg ns).getD i 0))) (strsD (zSg ns)).length):=by
  rw [dOut_kD fO (endI ns) (fun _=>true) (zSg ns) hsg _ (by rw [hlen];exact Nat.le_refl _),hlen,List.take_length,List.filter_eq_self.mpr fun _ _=>rfl]
 rw [e]
 refine SX1.assignDC (EVR.pure (P:=Rp.nil) (P':=Rp.nil) (EVR.dictcomp rfl (CompOK.dict (P:=Rp.nil) (fun i=>(fun _=>true) ((zSg ns).getD i 0)) (fun i=>S [(zSg ns).getD i 0]) (fun i=>fO (endI ns ((zSg ns).getD i 0))) (EVI.j (EVI.list (EVP.name (V.P.get (k := "signs") rfl) rfl))) ?k1 (by rw [hlen];lia) (fun _ _=>rfl) fun i d hd=>?k2)) Rp.nil_ok) rfl
 case k1=>
  refine ⟨rfl,by decide,by decide,fm ⟨rfl,rfl,.inl (by rw [hg];rfl)⟩ (fm ⟨rfl,rfl,.inl (by rw [hp];rfl)⟩ (fm ⟨rfl,rfl,.inl (by rw [V.P.get (k := "width") rfl];rfl)⟩ fn))⟩
 case k2=>
  refine ex11 (strsD_get hd) fun c hc zq1=>?_;subst zq1
  have hg':(zSg ns).getD i 0 = c:=by rw [List.getD_eq_getElem?_getD,hc];rfl
  have hcm:c ∈ zSg ns:=List.mem_of_getElem? hc
  refine ⟨_,.name rfl,skip_weak (cvars_none rfl) fun _ _ q=>q,.inl ⟨rfl,rfl⟩,fun _=>?_⟩
  rw [hg']
  refine ⟨EVP.name Has.here rfl,?_⟩
  exact EVP.binop (EVP.binop (EVP.name ((cvars_has hp rfl).skip rfl) rfl) (EVP.name ((cvars_has (V.P.get (k := "width") rfl) rfl).skip rfl) rfl) IOp.shrN) (EVP.item (EVP.name ((cvars_has hg rfl).skip rfl) rfl) (EVP.name Has.here rfl) (GetOK.dict (kD_get (f:=fO) (g:=goneI ns) hcm)) rfl) IOp.sub
end
end Mine
namespace Mine
variable [Wd]
noncomputable def digW (ns:List Int) (a:Nat):List Nat:=digs (2 ^ zW ns) (ndig (zW ns) a) a
noncomputable def entT (ns:List Int) (a:Nat):Int × Int × Int × Int:=((((digW ns a).sum:Nat):Int),(((spentL (zR ns) (digW ns a)).sum:Nat):Int),(a:Int),((dval (2 ^ zW ns) (spentL (zR ns) (digW ns a)):Nat):Int))
structure EntB (ns:List Int) (a:Nat):Prop where
 nd:ndig (zW ns) a ≤ zR ns + 1
 sp:∀ d ∈ spentL (zR ns) (digW ns a),d < 2 ^ zW ns
 bl:bl a ≤ 2 ^ 20
section
variable {h₁:Gl}{r:Nat}{vars:List (Str × D)}
theorem entE {ns:List Int}{a:Nat}{vs:List (Str × D)}{x:Str}{p1 p2 p3 p4 p5:Pos}(hr:80 ≤ r) (hB:EntB ns a) (hx:Has vs x (.int (a:Int))) (hd:(x == ("__debug__":Str)) = false) (hP:PV (coreP ns) vs) :
  EVP h₁ r scL vs (.Call (.Name "_law_entry" p1) [.Name x p2,.Name "rounds" p3,.Name "width" p4] [] p5) (.tuple [.int (entT ns a).1,.int (entT ns a).2.1,.int (entT ns a).2.2.1,.int (entT ns a).2.2.2]):=by
 have hR:=zR_b ns
 have hW:=zW_b ns
 have hc:=CallOK.up (h₁:=h₁) (entry_ok (a:=a) (n:=zW ns) (R:=zR ns) (by lia) (by lia) hB.bl (by lia) hB.nd hB.sp) hr
 exact EVP.call (NameIs.glob (by decide) rfl) (KeepOK.fn fun T=>T.fEntry) (EVS.cons (EVP.name hx hd) (EVS.cons (EVP.name (hP.get (k := "rounds") rfl) rfl) (EVS.cons (EVP.name (hP.get (k := "width") rfl) rfl) EVS.nil))) hc
theorem st_won {ns:List Int}{a:Nat}{vs:List (Str × D)}(hr:80 ≤ r) (hB:EntB ns a) (hx:Has vs "wins" (.int (a:Int))) (hP:PV (coreP ns) vs):SX1 h₁ r scL vs (innOf (stOf 20) 35) (· = .next (("won",.tuple [.int (entT ns a).1,.int (entT ns a).2.1,.int (entT ns a).2.2.1,.int (entT ns a).2.2.2])::vs)):=by
 conv=>arg 5;whnf
 exact SX1.assign (entE hr hB hx rfl hP) (.inl rfl)
theorem st_lost {ns:List Int}{a:Nat}{vs:List (Str × D)}(hr:80 ≤ r) (hB:EntB ns a) (hx:Has vs "losses" (.int (a:Int))) (hP:PV (coreP ns) vs):SX1 h₁ r scL vs (innOf (stOf 20) 36) (· = .next (("lost",.tuple [.int (entT ns a).1,.int (entT ns a).2.1,.int (entT ns a).2.2.1,.int (entT ns a).2.2.2])::vs)):=by
 conv=>arg 5;whnf
 exact SX1.assign (entE hr hB hx rfl hP) (.inl rfl)
end
end Mine
namespace Mine
variable [Wd]
noncomputable def openD (ns:List Int):List (Str × D):=kD fO (((zSg ns).filter fun c=>endI ns c != 0).map fun c=>(c,endI ns c))
section
variable {h₁:Gl}{r:Nat}{vars:List (Str × D)}
set_option maxRecDepth 4000 in
theorem openE {ns:List Int}{vs:List (Str × D)}(V:PV (coreP ns) vs) (hsg:(zSg ns).Nodup) (he:Has vs "ends" (dictD (kD fO ((zSg ns).map fun c=>(c,endI ns c))))) {p1 p2 p3 p4 p5 p6 p7 p8 p9 pa pb pc:Pos}{n:Nat} :
  EVP h₁ r scL vs (.DictComp (.Name "sign" p1) (.Subscript (.Name "ends" p2) (.Name "sign" p3) p4) [⟨.Name "sign" p5,.Name "signs" p6,[.Compare (.Subscript (.Name "ends" p7) (.Name "sign" p8) p9) [.NotEq] [.Constant (.int 0) n pa] pb],0⟩] { kind:=ScopeKind.function,names:=[((".0":Str),NameKind.local),("sign",NameKind.local),("ends",NameKind.free)],isGenerator:=false,isCoroutine:=false } pc) (dictD (openD ns)):=by
 have hlen:(strsD (zSg ns)).length = (zSg ns).length:=by simp [strsD]
 have hz:=zSize_b ns
 have hs:=zSg_len ns
 have e:dictD (openD ns) = dictD (dOut (fun i=>(fun c=>endI ns c != 0) ((zSg ns).getD i 0)) (fun i=>S [(zSg ns).getD i 0]) (fun i=>fO (endI ns ((zSg ns).getD i 0))) (strsD (zSg ns)).length):=by
  rw [dOut_kD fO (endI ns) (fun c=>endI ns c != 0) (zSg ns) hsg _ (by rw [hlen];exact Nat.le_refl _),hlen,List.take_length]
  rfl
 rw [e]
 refine EVR.pure (P:=Rp.nil) (P':=Rp.nil) (EVR.dictcomp rfl (CompOK.dict (P:=Rp.nil) (fun i=>(fun c=>endI ns c != 0) ((zSg ns).getD i 0)) (fun i=>S [(zSg ns).getD i 0]) (fun i=>fO (endI ns ((zSg ns).getD i 0))) (EVI.j (EVI.list (EVP.name (V.get (k := "signs") rfl) rfl))) ?k1 (by rw [hlen];lia) (fun _ _=>rfl) fun i d hd=>?k2)) Rp.nil_ok
 case k1=>
  refine ⟨rfl,by decide,by decide,fun x hx=>?_⟩
  have hx':x ∈ (["ends"]:List Str):=hx
  rcases ms hx' with rfl
  exact ⟨rfl,rfl,.inl (by rw [he];rfl)⟩
 case k2=>
  refine ex11 (strsD_get hd) fun c hc zq1=>?_;subst zq1
  have hg':(zSg ns).getD i 0 = c:=by rw [List.getD_eq_getElem?_getD,hc];rfl
  have hcm:c ∈ zSg ns:=List.mem_of_getElem? hc
  have hel:∀ {q1 q2 q3:Pos},EVP h₁ r (csc scL { kind:=ScopeKind.function,names:=[((".0":Str),NameKind.local),("sign",NameKind.local),("ends",NameKind.free)],isGenerator:=false,isCoroutine:=false }) ((("sign":Str),PyData.str (S [c]))::cvars vs { kind:=ScopeKind.function,names:=[((".0":Str),NameKind.local),("sign",NameKind.local),("ends",NameKind.free)],isGenerator:=false,isCoroutine:=false }) (.Subscript (.Name "ends" q1) (.Name "sign" q2) q3) (fO (endI ns c)):=fun {q1 q2 q3}=>
   EVP.item (EVP.name ((cvars_has he rfl).skip rfl) rfl) (EVP.name Has.here rfl) (GetOK.dict (kD_get (f:=fO) (g:=endI ns) hcm)) rfl
  refine ⟨_,.name rfl,skip_weak (cvars_none rfl) fun _ _ q=>q,?_,fun _=>?_⟩
  ·rw [hg']
   exact .inr ⟨_,rfl,TSP.cmp hel EVP.const_int COp.neI⟩
  ·rw [hg']
   exact ⟨EVP.name Has.here rfl,hel⟩
set_option maxRecDepth 4000 in
theorem test34 {ns:List Int}{m:List (Str × D)}{mo:List (Str × D)}{a:Nat}{vs:List (Str × D)}{rest:List Stmt}{Φ:Out→Prop}(hr:80 ≤ r) (hP:PV (coreY ns (dictD m)) vs) (hsg:(zSg ns).Nodup) (hB:EntB ns a) (hp:Has vs "play" (.int (a:Int))) (he:Has vs "ends" (dictD (kD fO ((zSg ns).map fun c=>(c,endI ns c)))))
  (hm:dget m "open" = some (rowD (entT ns a) mo)) (hs:SameD mo (openD ns)) (k:SX h₁ r scL vs rest Φ):SX h₁ r scL vs (innOf (stOf 20) 34::rest) Φ:=by
 conv=>arg 5;arg 1;whnf
 refine SX.ite (b:=false) (TSP.cmp (EVP.item (EVP.name (hP.get (k := "profile") rfl) rfl) EVP.const_str (GetOK.dict hm) rfl) (EVP.as (EVP.addT (entE hr hB hp rfl (coreY_P hP)) (EVP.tuple (EVS.cons (openE (coreY_P hP) hsg he) EVS.nil)) (by simp) (by simp) (by simp)) (d:=rowD (entT ns a) (openD ns)) rfl) (COp.rowNe hs)) (fun hb=>by cases hb) (fun _=>SX.done k)
end
end Mine
namespace Mine
variable [Wd]
section
variable {h₁:Gl}{r:Nat}{vars:List (Str × D)}
noncomputable def wonD (ns:List Int) (c a:Nat):List (Str × D):=[(S [c],.tuple [.int (entT ns a).1,.int (a:Int)])]
theorem rowE {ns:List Int}{m mo:List (Str × D)}{a c:Nat}{vs:List (Str × D)}{won one wins:Str}{kk:Str}{l:List Nat}{p1 p2 p3 p4 p5 p6 p7 p8 p9 pa pb pc pd pe pf pg ph:Pos}{n1 n2 n3:Nat}(hP:Has vs "profile" (dictD m)) (hw:Has vs won (.tuple [.int (entT ns a).1,.int (entT ns a).2.1,.int (entT ns a).2.2.1,.int (entT ns a).2.2.2])) (ho:Has vs one (.str (S l))) (hn:Has vs wins (.int (a:Int)))
  (d1:(won == ("__debug__":Str)) = false) (d2:(one == ("__debug__":Str)) = false) (d3:(wins == ("__debug__":Str)) = false) (hl:l.length = zL ns) (hc:l.getD (zL ns - 1) 0 = c)
  (hm:dget m kk = some (rowD (entT ns a) mo)) (hs:SameD mo (wonD ns c a)) :
  EVP h₁ r scL vs (.Compare (.Subscript (.Name "profile" p1) (.Constant (.str kk) n1 p2) p3) [.Eq] [.BinOp (.Name won p4) .Add (.Tuple [.Dict [some (.Subscript (.Name one p5) (.UnaryOp .USub (.Constant (.int 1) n2 p6) p7) p8)] [.Tuple [.Subscript (.Name won p9) (.Constant (.int 0) 0 pa) pb,.Name wins pc] 0 pd] pe] n3 pf) pg] ph) (.bool true):=by
 have hL:=zL_b ns
 have hk:EVP h₁ r scL vs (.Subscript (.Name one p5) (.UnaryOp .USub (.Constant (.int 1) n2 p6) p7) p8) (.str (S [c])):=by
  rw [← hc];exact lastE ho d2 hl (by omega) (by omega)
 have hv:EVP h₁ r scL vs (.Tuple [.Subscript (.Name won p9) (.Constant (.int 0) 0 pa) pb,.Name wins pc] 0 pd) (.tuple [.int (entT ns a).1,.int (a:Int)]):=
  EVP.tuple (EVS.cons (EVP.item (EVP.name hw d1) EVP.c0 (GetOK.tuple (i:=0) rfl (by decide)) rfl) (EVS.cons (EVP.name hn d3) EVS.nil))
 have hd:EVP h₁ r scL vs (.Dict [some (.Subscript (.Name one p5) (.UnaryOp .USub (.Constant (.int 1) n2 p6) p7) p8)] [.Tuple [.Subscript (.Name won p9) (.Constant (.int 0) 0 pa) pb,.Name wins pc] 0 pd] pe) (dictD (wonD ns c a)):=
  EVP.dict (l:=[(_,_)]) (Rows.cons hk hv Rows.nil) (by simp [wonD]) (by simp) (by simp) fun env=>rfl
 exact EVP.cmp (EVP.item (EVP.name hP rfl) EVP.const_str (GetOK.dict hm) rfl) (EVP.as (EVP.addT (EVP.name hw d1) (EVP.tuple (EVS.cons hd EVS.nil)) (by simp) (by simp) (by simp)) (d:=rowD (entT ns a) (wonD ns c a)) rfl) (COp.rowEq hs)
end
end Mine
namespace Mine
noncomputable def rv (g:Nat→Nat):Nat→List Nat
 | 0=>[g 0]
 | n + 1=>g (n + 1)::rv g n
theorem rv_len (g:Nat→Nat):∀ n,(rv g n).length = n + 1
 | 0=>rfl
 | n + 1=>by rw [rv,List.length_cons,rv_len g n]
theorem rv_sum (g:Nat→Nat):∀ n,(rv g n).sum = sm g (n + 1)
 | 0=>by simp [rv,sm]
 | n + 1=>by rw [rv,List.sum_cons,rv_sum g n,sm,Nat.add_comm];rfl
theorem rv_dval (q:Nat) (g:Nat→Nat):∀ n,dval q (rv g n) = hor q g n
 | 0=>by simp [rv,dval,hor]
 | n + 1=>by rw [rv,dval,rv_dval q g n,hor,Nat.add_comm]
theorem rv_mem {g:Nat→Nat}:∀ {n d:Nat},d ∈ rv g n→∃ i,i ≤ n∧d = g i
 | 0,d,h=>⟨0,Nat.le_refl _,List.mem_singleton.mp h⟩
 | n + 1,d,h=>by
  rcases mc h with rfl | h
  ·exact ⟨n + 1,Nat.le_refl _,rfl⟩
  ·refine ex11 (rv_mem h) fun i hi e=>?_
   exact ⟨i,by lia,e⟩
theorem rv_spent (g:Nat→Nat):∀ n,spentL n (rv g n) = rv (fun i=>i * g i) n
 | 0=>by simp [spentL,rv]
 | n + 1=>by
  have ih:=rv_spent g n
  unfold spentL at ih ⊢
  rw [rv,List.mapIdx_cons,rv,← ih]
  congr 1
  refine List.mapIdx_eq_mapIdx_iff.mpr fun i h=>?_
  rw [Nat.add_sub_add_right]
theorem hor_sum (q:Nat) (g:Nat→Nat):∀ n,hor q g n = sm (fun i=>g i * q ^ (n - i)) (n + 1)
 | 0=>by simp [hor,sm]
 | n + 1=>by
  rw [hor,hor_sum q g n,← sm_mul]
  show _ = sm (fun i=>g i * q ^ (n + 1 - i)) (n + 1) + g (n + 1) * q ^ (n + 1 - (n + 1))
  rw [Nat.sub_self,Nat.pow_zero,Nat.mul_one]
  congr 1
  refine sm_congr fun i hi=>?_
  rw [show n + 1 - i = (n - i) + 1 by lia,Nat.pow_succ]
  grind
variable [Wd]
theorem digs_zero (B:Nat):∀ k,digs B k 0 = List.replicate k 0
 | 0=>rfl
 | k + 1=>by rw [digs,Nat.zero_mod,Nat.zero_div,digs_zero B k];rfl
theorem digs_dval {B:Nat}(hB:0 < B):∀ {l:List Nat},(∀ d ∈ l,d < B)→digs B l.length (dval B l) = l
 | [],_=>rfl
 | d::l,h=>by
  have h1:=h d (.head _)
  rw [List.length_cons,digs,dval,Nat.add_mul_mod_self_left,Nat.mod_eq_of_lt h1,Nat.add_mul_div_left _ _ hB,Nat.div_eq_of_lt h1,Nat.zero_add,digs_dval hB fun x hx=>h x (.tail _ hx)]
theorem dval_zeros (B j:Nat):dval B (List.replicate j 0) = 0:=by
 induction j with
 | zero=>rfl
 | succ j ih=>rw [List.replicate_succ,dval,ih];simp
theorem ndig_le {W a n:Nat}(hW:0 < W) (h:a < (2 ^ W) ^ n):ndig W a ≤ n:=by
 rw [← Nat.pow_mul] at h
 have:=bl_le h
 unfold ndig
 have h2:(bl a + W - 1) / W ≤ (W * n + (W - 1)) / W:=Nat.div_le_div_right (by lia)
 rw [Nat.mul_add_div hW,Nat.div_eq_of_lt (show W - 1 < W by lia)] at h2
 lia
theorem digs_pad {W a n:Nat}(hW:0 < W) (h:ndig W a ≤ n):digs (2 ^ W) n a = digs (2 ^ W) (ndig W a) a ++ List.replicate (n - ndig W a) 0:=by
 have hlt:=lt_ndig (a:=a) hW
 rw [Nat.pow_mul] at hlt
 have:=digs_add (B:=2 ^ W) (Nat.two_pow_pos W) (ndig W a) (n - ndig W a) a
 rw [Nat.mod_eq_of_lt hlt,Nat.div_eq_of_lt hlt,digs_zero,show ndig W a + (n - ndig W a) = n by lia] at this
 exact this
theorem spent_pad (R:Nat) (l:List Nat) (j:Nat):spentL R (l ++ List.replicate j 0) = spentL R l ++ List.replicate j 0:=by
 unfold spentL
 rw [List.mapIdx_append]
 congr 1
 refine List.ext_getElem? fun i=>?_
 rw [List.getElem?_mapIdx,List.getElem?_replicate]
 by_cases h:i < j <;> simp [h]
theorem ent_is {ns:List Int}{g:Nat→Nat}(hg:∀ i,i ≤ zR ns→g i < zB ns) (hg2:∀ i,i ≤ zR ns→i * g i < zB ns):EntB ns (hor (zB ns) g (zR ns))∧entT ns (hor (zB ns) g (zR ns)) = colT (zB ns) (zR ns) g (zR ns):=by
 have hW:=zW_b ns
 have hR:=zR_b ns
 have hpos:0 < 2 ^ zW ns:=Nat.two_pow_pos _
 have hlt:∀ d ∈ rv g (zR ns),d < 2 ^ zW ns:=fun d hd=>by
  refine ex11 (rv_mem hd) fun i hi zq1=>?_;subst zq1
  exact hg i hi
 have hv:hor (zB ns) g (zR ns) < (2 ^ zW ns) ^ (zR ns + 1):=by
  have:=dval_lt hpos hlt
  rw [rv_len,rv_dval] at this
  exact this
 have hnd:=ndig_le (W:=zW ns) (by lia) hv
 have hd:rv g (zR ns) = digW ns (hor (zB ns) g (zR ns)) ++ List.replicate (zR ns + 1 - ndig (zW ns) (hor (zB ns) g (zR ns))) 0:=by
  unfold digW
  rw [← digs_pad (by lia) hnd]
  have:=digs_dval hpos hlt
  rw [rv_len,rv_dval] at this
  exact this.symm
 have hs:=rv_spent g (zR ns)
 rw [hd,spent_pad] at hs
 have e1:=congrArg List.sum hd
 rw [rv_sum,List.sum_append,List.sum_replicate_nat,Nat.mul_zero] at e1
 have e2:=congrArg List.sum hs
 rw [rv_sum,List.sum_append,List.sum_replicate_nat,Nat.mul_zero,Nat.add_zero] at e2
 have e3:=congrArg (dval (2 ^ zW ns)) hs
 rw [dval_append,dval_zeros,Nat.mul_zero,Nat.add_zero,rv_dval,hor_sum _ fun i=>i * g i] at e3
 refine ⟨⟨hnd,fun d hd=>?_,?_⟩,?_⟩
 ·have:d ∈ rv (fun i=>i * g i) (zR ns):=by rw [← hs];exact List.mem_append_left _ hd
  refine ex11 (rv_mem this) fun i hi zq1=>?_;subst zq1
  exact hg2 i hi
 ·rw [← Nat.pow_mul] at hv
  have:=bl_le hv
  have h2:zW ns * (zR ns + 1) ≤ 1208 * 6:=Nat.mul_le_mul hW.2 (by lia)
  lia
 ·unfold entT colT
  rw [e1,e2,e3,Nat.add_zero]
  rw [hor_sum (zB ns) g (zR ns)]
  rfl
end Mine
section
open PySem
namespace Mine
variable [Wd]
theorem nodup_inj {l:List Nat}(hn:l.Nodup) {i j:Nat}{hi:i < l.length}{hj:j < l.length}(e:l[i] = l[j]):i = j:=by
 have:=List.pairwise_iff_getElem.mp hn
 rcases Nat.lt_trichotomy i j with h | h | h
 ·exact absurd e (this i j hi hj h)
 ·exact h
 ·exact absurd e.symm (this j i hj hi h)
theorem alph_nodup:∀ s,s < 6→∀ k,k ≤ 4→(((alph ++ alph).drop s).take k).Nodup:=by decide
theorem zSg_nodup (ns:List Int):(zSg ns).Nodup:=alph_nodup _ (zStart_b ns) _ (zSize_b ns).2
theorem digits_inj {k n m:Nat}(hk:0 < k):∀ L,(∀ p,p < L→n / k ^ p % k = m / k ^ p % k)→n % k ^ L = m % k ^ L
 | 0,_=>by simp [Nat.mod_one]
 | L + 1,h=>by rw [Nat.mod_pow_succ,Nat.mod_pow_succ,digits_inj hk L fun p hp=>h p (by lia),h L (by lia)]
theorem wordOf_inj {sg:List Nat}{k L n m:Nat}(hsg:sg.length = k) (hn:sg.Nodup) (hk:0 < k) (h1:n < k ^ L) (h2:m < k ^ L) (h:wordOf sg k L n = wordOf sg k L m):n = m:=by
 have:=digits_inj (n:=n) (m:=m) hk L fun p hp=>by
  have e:=congrArg (fun l:List Nat=>l[p]?) h
  have a1:n / k ^ p % k < sg.length:=by rw [hsg];exact Nat.mod_lt _ hk
  have a2:m / k ^ p % k < sg.length:=by rw [hsg];exact Nat.mod_lt _ hk
  simp only [wordOf,List.getElem?_map,List.getElem?_range hp,Option.map_some,List.getD_eq_getElem?_getD,List.getElem?_eq_getElem a1,List.getElem?_eq_getElem a2,Option.getD_some,Option.some.injEq] at e
  exact nodup_inj hn e
 rwa [Nat.mod_eq_of_lt h1,Nat.mod_eq_of_lt h2] at this
theorem ne_step {f q n:Nat}(hf:f < q) (hn:n + 1 < q):(f + 1 + n) % q ≠ f:=fun e=>by
 have h:=Nat.div_add_mod (f + 1 + n) q
 rw [e,Nat.add_assoc,Nat.add_comm f,Nat.add_comm 1 n] at h
 exact Nat.not_le.mpr hn (Nat.le_of_dvd (Nat.succ_pos n) ⟨_,(Nat.add_right_cancel h).symm⟩)
theorem zF_ne (ns:List Int):zF ns ≠ zS ns:=by
 have h1:(0:Int) < ((zQ ns - 1:Nat):Int):=Int.ofNat_lt.mpr (Nat.sub_pos_of_lt (zQ_b ns).1)
 exact fun e=>ne_step (zF_b ns) (Nat.add_lt_of_lt_sub ((Int.toNat_lt (Int.emod_nonneg (drw ns 3) (Int.ne_of_gt h1))).mpr (Int.emod_lt_of_pos (drw ns 3) h1))) e.symm
theorem uv_ne (ns:List Int):UV (zU ns) (zV ns):=by
 have hb:=zSize_b ns
 have hL:=zL_b ns
 refine ⟨by rw [zU,zV,wordOf_len,wordOf_len],fun e=>zF_ne ns (wordOf_inj (zSg_len ns) (zSg_nodup ns) (by lia) (zF_b ns) (zS_b ns) e),fun e=>?_⟩
 have:=congrArg List.length e
 rw [zU,wordOf_len] at this
 simp only [List.length_nil] at this
 lia
theorem dval_range (q:Nat) (g:Nat→Nat):∀ n,dval q ((List.range n).map g) = sm (fun i=>g i * q ^ i) n
 | 0=>rfl
 | n + 1=>by
  have ap:∀ l m:List Nat,dval q (l ++ m) = dval q l + q ^ l.length * dval q m:=by
   intro l m
   induction l with
   | nil=>simp [dval]
   | cons d l ih=>rw [List.cons_append,dval,dval,ih,List.length_cons,Nat.pow_succ,Nat.mul_add,Nat.add_assoc,← Nat.mul_assoc,Nat.mul_comm q (q ^ l.length)]
  rw [List.range_succ,List.map_append,ap,dval_range q g n,List.length_map,List.length_range,sm]
  simp [dval,Nat.mul_comm]
theorem zO_is {ns:List Int}{x y:List Nat}(h:x.length = y.length):zO ns x y = ovS (zB ns) x y:=by
 unfold zO ovl
 rw [dval_range,S_len,h]
 refine sm_congr fun i hi=>?_
 congr 1
 unfold ovb
 have e:(subS (S x) (y.length - (1 + i)) y.length == subS (S y) 0 (1 + i)) = decide (y.take (i + 1) <:+ x):=by
  rw [subS_S,subS_S,S_beq,decide_eq_decide,List.suffix_iff_eq_drop,List.drop_zero,Nat.sub_zero,List.length_take,h,show min (i + 1) y.length = 1 + i by lia,Nat.add_comm i 1]
  have:(x.drop (y.length - (1 + i))).take (y.length - (y.length - (1 + i))) = x.drop (y.length - (1 + i)):=by
   refine List.take_of_length_le ?_
   rw [List.length_drop];lia
  rw [this]
  exact ⟨Eq.symm,Eq.symm⟩
 rw [e]
 by_cases q:y.take (i + 1) <:+ x <;> simp [q]
theorem ov_low {q:Nat}(hq:2 ≤ q) (x t:List Nat):∀ n,sm (fun i=>ovb t x i * q ^ i) n < q ^ n
 | 0=>by simp [sm]
 | n + 1=>by
  have ih:=ov_low hq x t n
  have h1:ovb t x n ≤ 1:=by unfold ovb;split <;> lia
  have h2:ovb t x n * q ^ n ≤ 1 * q ^ n:=Nat.mul_le_mul_right _ h1
  have h3:q ^ n * 2 ≤ q ^ n * q:=Nat.mul_le_mul_left _ hq
  rw [sm,Nat.pow_succ];lia
theorem ov_self {q:Nat}{t:List Nat}(ht:t ≠ []):q ^ (t.length - 1) ≤ ovS q t t:=by
 have hl:=List.length_pos_iff.mpr ht
 obtain ⟨n,hn⟩:∃ n,t.length = n + 1:=⟨t.length - 1,by lia⟩
 unfold ovS
 rw [hn,sm,Nat.add_sub_cancel]
 have:ovb t t n = 1:=by
  unfold ovb
  rw [← hn,List.take_length,if_pos (List.suffix_refl _)]
 rw [this];lia
theorem ov_other {q:Nat}(hq:2 ≤ q) {x t:List Nat}(ht:t ≠ []) (hl:x.length = t.length) (hne:x ≠ t):ovS q x t < q ^ (t.length - 1):=by
 have hp:=List.length_pos_iff.mpr ht
 obtain ⟨n,hn⟩:∃ n,t.length = n + 1:=⟨t.length - 1,by lia⟩
 unfold ovS
 rw [hn,sm,Nat.add_sub_cancel]
 have:ovb t x n = 0:=by
  unfold ovb
  rw [← hn,List.take_length,if_neg fun s=>hne (s.eq_of_length hl.symm).symm]
 rw [this,Nat.zero_mul,Nat.add_zero]
 exact ov_low hq x t n
theorem num_ok (ns:List Int):NumH ns:=by
 have h:=uv_ne ns
 have hW:=zW_b ns
 have hL:=zL_b ns
 have hq:2 ≤ zB ns:=by
  unfold zB
  exact Nat.le_trans (show 2 ≤ 2 ^ 9 by decide) (Nat.pow_le_pow_right (by decide) hW.1)
 have lu:(zU ns).length = zL ns:=by rw [zU,wordOf_len]
 have lv:(zV ns).length = zL ns:=by rw [zV,wordOf_len]
 have uu:=ov_self (q:=zB ns) h.pos
 have vv:=ov_self (q:=zB ns) h.pos'
 have uv:=ov_other (x:=zU ns) hq h.pos' h.len h.ne
 have vu:=ov_other (x:=zV ns) hq h.pos h.len.symm h.ne.symm
 rw [lu] at uu vu
 rw [lv] at vv uv
 refine ⟨?_,?_,?_,fun x y hx hy=>?_⟩
 ·rw [zO_is h.len.symm,zO_is rfl];lia
 ·rw [zO_is h.len,zO_is rfl];lia
 ·rw [zO_is h.len,zO_is h.len.symm,zO_is rfl,zO_is rfl]
  exact Nat.lt_of_lt_of_le (Nat.mul_lt_mul'' uv vu) (Nat.mul_le_mul uu vv)
 ·have lx:x.length = zL ns:=by rcases hx with rfl | rfl <;> assumption
  have ly:y.length = zL ns:=by rcases hy with rfl | rfl <;> assumption
  rw [zO_is (lx.trans ly.symm)]
  have:=ov_low hq x y y.length
  have h2:ovS (zB ns) x y < 2 ^ (zW ns * zL ns):=by
   rw [Nat.pow_mul]
   rw [ly] at this
   unfold ovS
   rw [ly]
   exact this
  have h3:=bl_le h2
  have h4:zW ns * zL ns ≤ 1208 * 4:=Nat.mul_le_mul hW.2 (by lia)
  lia
abbrev zf (ns:List Int):Nat→Nat:=fN (zSg ns) (zU ns) (zV ns)
abbrev za (ns:List Int):Nat→Nat:=wN (zSg ns) (zU ns) (zV ns) (zU ns)
abbrev zb (ns:List Int):Nat→Nat:=wN (zSg ns) (zU ns) (zV ns) (zV ns)
theorem cw_ok (ns:List Int):Cw (zSize ns) (zB ns) (zU ns) (zV ns) (zf ns) (za ns) (zb ns):=by
 have h:=uv_ne ns
 have hs:=zSize_b ns
 have hW:=zW_b ns
 have hn:=zSg_nodup ns
 have hl:=zSg_len ns
 have hq:512 ≤ zB ns:=by
  unfold zB
  exact Nat.le_trans (show 512 ≤ 2 ^ 9 by decide) (Nat.pow_le_pow_right (by decide) hW.1)
 refine ⟨h,by lia,by lia,free_zero h,fun n=>?_,fun n=>along hn h (fun c hc=>?_) rfl (.inl rfl) n,fun n=>along hn h (fun c hc=>?_) h.len.symm (.inr rfl) n,fun m hm=>win_short hm,fun m hm=>win_short hm,fun n=>?_,fun n=>?_,fun n=>?_⟩
 ·have:=all_next (sg:=zSg ns) h n
  rw [hl] at this
  exact this
 ·exact wordOf_mem (by lia) hl c hc
 ·exact wordOf_mem (by lia) hl c hc
 ·have:=cn_le (zSg ns) n (fre (zU ns) (zV ns));rw [hl] at this;exact this
 ·have:=cn_le (zSg ns) n (winB (zU ns) (zV ns) (zU ns));rw [hl] at this;exact this
 ·have:=cn_le (zSg ns) n (winB (zU ns) (zV ns) (zV ns));rw [hl] at this;exact this
theorem small_pow (ns:List Int):zSize ns ^ (zR ns + 1) + zSize ns < 512∧zR ns * zSize ns ^ zR ns < 512:=by
 have hs:=zSize_b ns
 have h:zSize ns = 2 ∨ zSize ns = 3 ∨ zSize ns = 4:=by lia
 unfold zR
 rcases h with h | h | h <;> rw [h] <;> decide
theorem quots (ns:List Int):zX1 ns / zUn ns = hor (zB ns) (za ns) (zR ns)∧zX2 ns / zUn ns = hor (zB ns) (zb ns) (zR ns)∧zX3 ns / zUn ns = hor (zB ns) (zf ns) (zR ns):=by
 have h:=uv_ne ns
 have hN:=num_ok ns
 have hW:=zW_b ns
 have hq:512 ≤ zB ns:=by
  unfold zB
  exact Nat.le_trans (show 512 ≤ 2 ^ 9 by decide) (Nat.pow_le_pow_right (by decide) hW.1)
 exact (cw_ok ns).end (zO_is rfl) (zO_is h.len) (zO_is h.len.symm) (zO_is rfl) hN.vu hN.uv hN.d (by have:=small_pow ns;lia)
theorem col_small {ns:List Int}{g:Nat→Nat}(h:∀ i,g i ≤ zSize ns ^ i):(∀ i,i ≤ zR ns→g i < zB ns)∧∀ i,i ≤ zR ns→i * g i < zB ns:=by
 have hs:=zSize_b ns
 have hR:=zR_b ns
 have hW:=zW_b ns
 have hp:=small_pow ns
 have hq:512 ≤ zB ns:=by
  unfold zB
  exact Nat.le_trans (show 512 ≤ 2 ^ 9 by decide) (Nat.pow_le_pow_right (by decide) hW.1)
 have hle:∀ i,i ≤ zR ns→g i ≤ zSize ns ^ zR ns:=fun i hi=>Nat.le_trans (h i) (Nat.pow_le_pow_right (by lia) hi)
 have h1:1 * zSize ns ^ zR ns ≤ zR ns * zSize ns ^ zR ns:=Nat.mul_le_mul_right _ (by lia)
 refine ⟨fun i hi=>?_,fun i hi=>?_⟩
 ·have:=hle i hi;lia
 ·have:=Nat.mul_le_mul hi (hle i hi);lia
end Mine
end
namespace Mine
variable [Wd]
theorem last_getD {l:List Nat}{n:Nat}(h:l.length = n):l.getD (n - 1) 0 = l.getLastD 0:=by
 rw [List.getLastD_eq_getLast?,List.getLast?_eq_getElem?,h,List.getD_eq_getElem?_getD]
theorem sm_shift (g:Nat→Nat):∀ n,sm g (n + 1) = g 0 + sm (fun i=>g (i + 1)) n
 | 0=>by simp [sm]
 | n + 1=>by
  have:=sm_shift g n
  show sm g (n + 1) + g (n + 1) = g 0 + (sm (fun i=>g (i + 1)) n + g (n + 1))
  lia
theorem sm_if (p:Prop) [Decidable p] (g:Nat→Nat):∀ n,sm (fun i=>if p then g i else 0) n = if p then sm g n else 0
 | 0=>by simp [sm]
 | n + 1=>by
  rw [sm,sm,sm_if p g n]
  split <;> simp
theorem hor_first {q:Nat}{g:Nat→Nat}(h:g 0 = 0) (n:Nat):hor q g n = sm (fun i=>g (i + 1) * q ^ (n - (i + 1))) n:=by
 rw [hor_sum,sm_shift,h];simp
theorem zPlay_is (ns:List Int):zPlay ns = hor (zB ns) (zf ns) (zR ns):=(quots ns).2.2
theorem end_is {ns:List Int}{c:Nat}(hc:c ∈ zSg ns):endI ns c = ((sm (fun i=>eN (zSg ns) (zU ns) (zV ns) c (i + 1) * zB ns ^ (zR ns - (i + 1))) (zR ns):Nat):Int):=by
 have h:=uv_ne ns
 have C:=cw_ok ns
 have hR:=zR_b ns
 obtain ⟨n,hn⟩:∃ n,zR ns = n + 1:=⟨zR ns - 1,by lia⟩
 have hlt:zf ns (zR ns) < zB ns:=(col_small C.fk).1 _ (Nat.le_refl _)
 have hpos:0 < zB ns:=by lia
 have lu:lastU ns = (zU ns).getLastD 0:=last_getD (zU_len ns)
 have lv:lastV ns = (zV ns).getLastD 0:=last_getD (zV_len ns)
 have hq:zPlay ns / 2 ^ zW ns = hor (zB ns) (zf ns) n:=by
  rw [zPlay_is,hn,hor]
  rw [hn] at hlt
  show (zB ns * _ + _) / zB ns = _
  rw [Nat.mul_add_div hpos,Nat.div_eq_of_lt hlt,Nat.add_zero]
 have e1:hor (zB ns) (zf ns) n = sm (fun i=>eN (zSg ns) (zU ns) (zV ns) c (i + 1) * zB ns ^ (zR ns - (i + 1))) (zR ns) + ((if c = lastU ns then hor (zB ns) (za ns) (zR ns) else 0) + (if c = lastV ns then hor (zB ns) (zb ns) (zR ns) else 0)):=by
  rw [hor_first (C.a0 0 (List.length_pos_iff.mpr h.pos)),hor_first (C.b0 0 (List.length_pos_iff.mpr h.pos')),← sm_if,← sm_if,← sm_add,← sm_add,hor_sum,hn]
  refine sm_congr fun i hi=>?_
  have:=last_split (u:=zU ns) (v:=zV ns) (zSg_nodup ns) h hc i
  rw [Nat.add_sub_add_right,lu,lv]
  show fN (zSg ns) (zU ns) (zV ns) i * _ = _
  rw [this,Nat.add_mul,Nat.add_mul]
  congr 1
  congr 1
  ·split <;> simp
  ·split <;> simp
 unfold endI goneI
 rw [hq,zWin_nat,zLos_nat,(quots ns).1,(quots ns).2.1,e1,Int.natCast_add,Int.natCast_add]
 have i1:(if c = lastU ns then ((hor (zB ns) (za ns) (zR ns):Nat):Int) else 0) = (((if c = lastU ns then hor (zB ns) (za ns) (zR ns) else 0):Nat):Int):=by split <;> rfl
 have i2:(if c = lastV ns then ((hor (zB ns) (zb ns) (zR ns):Nat):Int) else 0) = (((if c = lastV ns then hor (zB ns) (zb ns) (zR ns) else 0):Nat):Int):=by split <;> rfl
 rw [i1,i2]
 lia
theorem lookup_nd {α:Type}{l:List (Nat × α)}(hn:(l.map (·.1)).Nodup) {c:Nat}{x:α}(h:(c,x) ∈ l):l.lookup c = some x:=by
 induction l with
 | nil=>cases h
 | cons p l ih=>
  obtain ⟨a,y⟩:=p
  rw [List.map_cons,List.nodup_cons] at hn
  rcases List.mem_cons.mp h with e | h
  ·cases e;simp
  ·have hne:(c == a) = false:=by
    have:c ≠ a:=fun e=>hn.1 (by rw [← e];exact List.mem_map.mpr ⟨_,h,rfl⟩)
    simpa using this
   rw [List.lookup_cons,hne]
   exact ih hn.2 h
theorem same_open {ns:List Int}{l:List (Nat × Int)}(hk:KOK (zSg ns) l) (hv:∀ c,c ∈ zSg ns→valI l c = endI ns c) (hp:∀ c x,l.lookup c = some x→0 < x):SameD (kD fO l) (openD ns):=by
 have hkey:∀ c x,(c,x) ∈ l→c ∈ zSg ns∧endI ns c = x∧0 < x:=by
  intro c x h
  have h1:=lookup_nd hk.nd h
  have h2:=hk.sub c (List.mem_map.mpr ⟨_,h,rfl⟩)
  have h3:=hv c h2
  unfold valI at h3
  rw [h1] at h3
  exact ⟨h2,h3.symm,hp c x h1⟩
 have hnf:((zSg ns).filter fun c=>endI ns c != 0).Nodup:=(zSg_nodup ns).sublist List.filter_sublist
 refine ⟨?_,fun p hpm=>?_⟩
 ·have e1:(kD fO l).length = (l.map (·.1)).length:=by simp [kD]
  have e2:(openD ns).length = ((zSg ns).filter fun c=>endI ns c != 0).length:=by simp [openD,kD]
  rw [e1,e2]
  refine Nat.le_antisymm (nodup_len hk.nd fun c hc=>?_) (nodup_len hnf fun c hc=>?_)
  ·refine ex11 (List.mem_map.mp hc) fun zq1 h zq2=>?_;obtain ⟨d,x⟩:=zq1;subst zq2
   refine ex02 (hkey d x h) fun h1 h2 h3=>?_
   refine List.mem_filter.mpr ⟨h1,?_⟩
   dsimp only
   rw [h2]
   simp only [bne_iff_ne,ne_eq]
   lia
  ·obtain ⟨h1,h2⟩:=List.mem_filter.mp hc
   have h3:=hv c h1
   rw [← h3] at h2
   cases q:l.lookup c with
   | none=>unfold valI at h2;rw [q] at h2;exact absurd h2 (by decide)
   | some x=>exact List.mem_map.mpr ⟨(c,x),List.lookup_eq_some_iff.mp q |> fun ⟨l1,l2,e,_⟩=>by rw [e];simp,rfl⟩
 ·refine ex11 (List.mem_map.mp hpm) fun zq1 h zq2=>?_;obtain ⟨c,x⟩:=zq1;subst zq2
  refine ex02 (hkey c x h) fun h1 h2 h3=>?_
  refine ⟨rfl,fO (endI ns c),?_,rfl,?_⟩
  ·unfold openD
   refine kD_get (f:=fO) (g:=endI ns) (List.mem_filter.mpr ⟨h1,?_⟩)
   rw [h2]
   simp only [bne_iff_ne,ne_eq]
   lia
  ·rw [h2];simp [fO,PyData.eqv]
theorem same_won {ns:List Int}{c a m:Nat}(hm:m ≠ 0) (he:(entT ns a).1 = (m:Int)):SameD (kD fW (solo c m a)) (wonD ns c a):=by
 have e:kD fW (solo c m a) = wonD ns c a:=by
  unfold solo wonD
  rw [if_neg hm,he];rfl
 rw [e]
 refine ⟨rfl,fun p hp=>?_⟩
 rcases ms hp with rfl
 refine ⟨?_,.tuple [.int (entT ns a).1,.int (a:Int)],?_,?_,?_⟩
 ·simp [shaped,PyData.canLay0,PyData.canLayAll0,PyData.depth,PyData.depthAll]
 ·simp [dget,wonD]
 ·simp [shaped,PyData.canLay0,PyData.canLayAll0,PyData.depth,PyData.depthAll]
 ·simp [PyData.eqv,PyData.eqvAll]
theorem mem_rows {sg:List Nat}:∀ {n:Nat}{w:List Nat},w.length = n→(∀ c ∈ w,c ∈ sg)→w ∈ freeRows sg n
 | 0,w,h,_=>by rw [List.eq_nil_of_length_eq_zero h];simp [freeRows]
 | n + 1,w,h,hs=>by
  refine ex21 (snoc_of h) fun z c zq1 hz=>?_;subst zq1
  rw [freeRows]
  exact List.mem_flatMap.mpr ⟨z,mem_rows hz fun d hd=>hs d (List.mem_append_left _ hd),List.mem_map.mpr ⟨c,hs c (List.mem_append_right _ (.head _)),rfl⟩⟩
theorem win_pos {sg u v x:List Nat}(h:UV u v) (hx:x = u ∨ x = v) (hs:∀ c ∈ x,c ∈ sg):0 < wN sg u v x x.length:=by
 have lx:x.length = u.length:=by
  rcases hx with rfl | rfl
  ·rfl
  ·exact h.len.symm
 have hp:=List.length_pos_iff.mpr h.pos
 unfold wN cn
 refine List.countP_pos_iff.mpr ⟨x,mem_rows rfl hs,?_⟩
 have hf:∀ y:List Nat,y.length = u.length→¬ y <:+: x.dropLast:=fun y hy q=>by
  have:=q.length_le
  rw [List.length_dropLast] at this
  lia
 simp [winB,fre,hf u rfl,hf v h.len.symm]
theorem sm_pos {g:Nat→Nat}{i:Nat}(h:0 < g i):∀ {n:Nat},i < n→sm g n ≠ 0
 | n + 1,hi=>by
  rw [sm]
  by_cases e:i = n
  ·subst e;lia
  ·have:=sm_pos h (n:=n) (by lia);lia
structure RowsH (ns:List Int) (m:List (Str × D)):Prop where
 o:∃ mo,dget m "open" = some (rowD (entT ns (zPlay ns)) mo)∧SameD mo (openD ns)
 x:∃ mo,dget m "one" = some (rowD (entT ns (zX1 ns / zUn ns)) mo)∧SameD mo (wonD ns (lastU ns) (zX1 ns / zUn ns))
 y:∃ mo,dget m "two" = some (rowD (entT ns (zX2 ns / zUn ns)) mo)∧SameD mo (wonD ns (lastV ns) (zX2 ns / zUn ns))
 bo:EntB ns (zPlay ns)
 bx:EntB ns (zX1 ns / zUn ns)
 bY:EntB ns (zX2 ns / zUn ns)
theorem rows_ok (ns:List Int):RowsH ns (pPlay (zSg ns) (zU ns) (zV ns) (zR ns) (zB ns) (zR ns)).1.m∧(pPlay (zSg ns) (zU ns) (zV ns) (zR ns) (zB ns) (zR ns)).2 = freeWords (zSg ns) (zU ns) (zV ns) (zR ns):=by
 have h:=uv_ne ns
 have C:=cw_ok ns
 have hR:=zR_b ns
 have hL:=zL_b ns
 have hpos:0 < zB ns:=Nat.two_pow_pos _
 have P:=play_is (sg:=zSg ns) (R:=zR ns) hpos h (zR ns)
 have K:=POK.play (sg:=zSg ns) (u:=zU ns) (v:=zV ns) (R:=zR ns) (base:=zB ns) (zR ns)
 refine ex02 (quots ns) fun qa qb qf=>?_
 have fo:=ent_is (col_small C.fk).1 (col_small C.fk).2
 have fx:=ent_is (col_small C.ak).1 (col_small C.ak).2
 have fy:=ent_is (col_small C.bk).1 (col_small C.bk).2
 have lu:lastU ns = (zU ns).getLastD 0:=last_getD (zU_len ns)
 have lv:lastV ns = (zV ns).getLastD 0:=last_getD (zV_len ns)
 generalize pPlay (zSg ns) (zU ns) (zV ns) (zR ns) (zB ns) (zR ns) = s at P K
 refine ⟨⟨⟨kD fO s.1.oc,?_,?_⟩,⟨kD fW s.1.xc,?_,?_⟩,⟨kD fW s.1.yc,?_,?_⟩,?_,?_,?_⟩,P.left⟩
 ·rw [zPlay_is,fo.2,← P.ot];rfl
 ·exact same_open K.o (fun c hc=>by rw [P.oc,end_is hc]) P.op
 ·rw [qa,fx.2,← P.xt];rfl
 ·rw [qa,P.xc,← hor_sum,lu]
  refine same_won (sm_pos (win_pos h (.inl rfl) (zU_mem ns)) ?_) ?_
  ·rw [zU_len];lia
  ·rw [fx.2];rfl
 ·rw [qb,fy.2,← P.yt];rfl
 ·rw [qb,P.yc,← hor_sum,lv]
  refine same_won (sm_pos (win_pos h (.inr rfl) (zV_mem ns)) ?_) ?_
  ·rw [zV_len];lia
  ·rw [fy.2];rfl
 ·rw [zPlay_is];exact fo.1
 ·rw [qa];exact fx.1
 ·rw [qb];exact fy.1
end Mine
namespace Mine
variable [Wd]
section
variable {h₁:Gl}{r:Nat}{vars:List (Str × D)}
set_option maxRecDepth 4000 in
theorem st_ret {ns:List Int}{m:List (Str × D)}{vs:List (Str × D)}(hP:PV (coreY ns (dictD m)) vs) (hM:RowsH ns m) (hw:Has vs "won" (.tuple [.int (entT ns (zX1 ns / zUn ns)).1,.int (entT ns (zX1 ns / zUn ns)).2.1,.int (entT ns (zX1 ns / zUn ns)).2.2.1,.int (entT ns (zX1 ns / zUn ns)).2.2.2]))
  (hl:Has vs "lost" (.tuple [.int (entT ns (zX2 ns / zUn ns)).1,.int (entT ns (zX2 ns / zUn ns)).2.1,.int (entT ns (zX2 ns / zUn ns)).2.2.1,.int (entT ns (zX2 ns / zUn ns)).2.2.2])) (h1:Has vs "wins" (.int (zWin ns))) (h2:Has vs "losses" (.int (zLos ns))):SX h₁ r scL vs [innOf (stOf 20) 37] (· = .ret (.bool true)):=by
 rw [zWin_nat] at h1
 rw [zLos_nat] at h2
 refine ex11 hM.x fun mx x1 x2=>?_
 refine ex11 hM.y fun my y1 y2=>?_
 conv=>arg 5;arg 1;whnf
 exact SX.ret (d:=.bool (true && true)) (EVP.andV (rowE (hP.get (k := "profile") rfl) hw ((coreY_P hP).get (k := "one") rfl) h1 rfl rfl rfl (zU_len ns) rfl x1 x2) (rowE (hP.get (k := "profile") rfl) hl ((coreY_P hP).get (k := "two") rfl) h2 rfl rfl rfl (zV_len ns) rfl y1 y2)) rfl
set_option maxRecDepth 4000 in
theorem law_end {ns:List Int}{m:List (Str × D)}{vs:List (Str × D)}(hr:80 ≤ r) (hP:PV (coreY ns (dictD m)) vs) (hM:RowsH ns m) :
  SX h₁ r scL vs (innOf (stOf 20) 19::innOf (stOf 20) 20::innOf (stOf 20) 21::innOf (stOf 20) 22::innOf (stOf 20) 23::innOf (stOf 20) 24::innOf (stOf 20) 25::innOf (stOf 20) 26::innOf (stOf 20) 27::innOf (stOf 20) 28::innOf (stOf 20) 29::innOf (stOf 20) 30::innOf (stOf 20) 31::innOf (stOf 20) 32::innOf (stOf 20) 33::innOf (stOf 20) 34::innOf (stOf 20) 35::innOf (stOf 20) 36::[innOf (stOf 20) 37]) (· = .ret (.bool true)):=by
 refine law_num (by lia) hP (num_ok ns) fun vs₁ hP₁ V hp=>?_
 have hsg:=zSg_nodup ns
 refine SX.step (st_gone V hsg) ?_
 have V2:NV ns ((("gone":Str),dictD (kD fO ((zSg ns).map fun c=>(c,goneI ns c))))::vs₁):=⟨coreY_P (hP₁.skip rfl),V.sh.skip rfl,V.ot.skip rfl,V.bo.skip rfl,V.un.skip rfl,V.wi.skip rfl,V.re.skip rfl,V.lo.skip rfl,V.ow.skip rfl,V.mi.skip rfl,V.ov.skip rfl⟩
 refine SX.step (st_ends V2 hsg (hp.skip rfl) Has.here) ?_
 have hP2:=(PV.skip hP₁ (x := "gone") (d:=dictD (kD fO ((zSg ns).map fun c=>(c,goneI ns c)))) rfl).skip (x := "ends") (d:=dictD (kD fO ((zSg ns).map fun c=>(c,endI ns c)))) rfl
 refine ex11 hM.o fun mo o1 o2=>?_
 refine test34 hr hP2 hsg hM.bo ((hp.skip rfl).skip rfl) Has.here o1 o2 ?_
 have w1:Has ((("ends":Str),dictD (kD fO ((zSg ns).map fun c=>(c,endI ns c))))::(("gone":Str),dictD (kD fO ((zSg ns).map fun c=>(c,goneI ns c))))::vs₁) "wins" (.int (zWin ns)):=(V.wi.skip rfl).skip rfl
 have w2:Has ((("ends":Str),dictD (kD fO ((zSg ns).map fun c=>(c,endI ns c))))::(("gone":Str),dictD (kD fO ((zSg ns).map fun c=>(c,goneI ns c))))::vs₁) "losses" (.int (zLos ns)):=(V.lo.skip rfl).skip rfl
 rw [zWin_nat] at w1
 rw [zLos_nat] at w2
 refine SX.step (st_won hr hM.bx w1 (coreY_P hP2)) ?_
 have hP3:=PV.skip hP2 (x := "won") (d:=.tuple [.int (entT ns (zX1 ns / zUn ns)).1,.int (entT ns (zX1 ns / zUn ns)).2.1,.int (entT ns (zX1 ns / zUn ns)).2.2.1,.int (entT ns (zX1 ns / zUn ns)).2.2.2]) rfl
 refine SX.step (st_lost hr hM.bY (w2.skip rfl) (coreY_P hP3)) ?_
 exact st_ret (hP3.skip rfl) hM (Has.here.skip rfl) Has.here ((((V.wi.skip rfl).skip rfl).skip rfl).skip rfl) ((((V.lo.skip rfl).skip rfl).skip rfl).skip rfl)
theorem def20:DefOf (stOf 20) "law" (parOf (stOf 20)) (bodyOf (stOf 20)) (scOf0 (stOf 20)):=⟨⟨_,_,_,_,_,_,rfl⟩,rfl,rfl,rfl⟩
set_option maxRecDepth 4000 in
theorem law_ok {ns:List Int}{rs:Nat→List Nat}(hz:ns.length ≤ 2 ^ 20) (hT:TokH ns rs):CallOK h₁ 100 (.ref 149) [.list (intL ns)] (.bool true):=by
 refine CallOK.of_defC (r:=99) (xs:=["script"]) Top1.fLaw def20 ?_ ?_ ?_
 ·intro m vs hl
  obtain ⟨_,rfl⟩:=len1 hl
  rfl
 ·intro z hz
  rcases ms hz with rfl
  exact .inr rfl
 ·show SX h₁ 99 scL [(("script":Str),PyData.list (intL ns))] (bodyOf (stOf 20)) _
  have hb:bodyOf (stOf 20) = innOf (stOf 20) 0::innOf (stOf 20) 1::innOf (stOf 20) 2::innOf (stOf 20) 3::innOf (stOf 20) 4::innOf (stOf 20) 5::innOf (stOf 20) 6::innOf (stOf 20) 7::innOf (stOf 20) 8::innOf (stOf 20) 9::innOf (stOf 20) 10::innOf (stOf 20) 11::innOf (stOf 20) 12::innOf (stOf 20) 13::innOf (stOf 20) 14::innOf (stOf 20) 15::innOf (stOf 20) 16::innOf (stOf 20) 17::innOf (stOf 20) 18::innOf (stOf 20) 19::innOf (stOf 20) 20::innOf (stOf 20) 21::innOf (stOf 20) 22::innOf (stOf 20) 23::innOf (stOf 20) 24::innOf (stOf 20) 25::innOf (stOf 20) 26::innOf (stOf 20) 27::innOf (stOf 20) 28::innOf (stOf 20) 29::innOf (stOf 20) 30::innOf (stOf 20) 31::innOf (stOf 20) 32::innOf (stOf 20) 33::innOf (stOf 20) 34::innOf (stOf 20) 35::innOf (stOf 20) 36::[innOf (stOf 20) 37]:=rfl
  rw [hb]
  refine law_pre Has.here hz (by decide) fun vs hP=>?_
  refine g5v (innOf (stOf 20) 14) (F:=fun p1 p2 p3 p4 p5=>.Assign [.Name "lexer" p1] (.Call (.Name "_law_lexer" p2) [.Name "text" p3] [] p4) p5) _ _ _ _ _ rfl fun p1 p2 p3 p4 p5 hs=>?_
  rw [hs]
  refine SX.lex (r:=96) (hP.get (k := "text") rfl) rfl (.inr rfl) (by have:=hT.len 0;rw [hT.zero] at this;exact this) fun a=>?_
  have hP':PV (coreX a ns) ((("lexer":Str),opq a.L)::vs):=by
   intro k d e
   rw [coreX,List.lookup_cons] at e
   rw [List.lookup_cons]
   cases q:(k == ("lexer":Str)) with
   | true=>rw [q] at e;exact e
   | false=>rw [q] at e;exact hP k d e
  obtain ⟨hM,hF⟩:=rows_ok ns
  refine st_check (r:=95) hT (hP'.get (k := "lexer") rfl) (hP'.get (k := "words") rfl) ?_
  refine st_play (r:=94) hT hP' fun vs' hP2 hp hl=>?_
  rw [hF] at hl
  refine st_left (by decide) hP2 hl ?_
  refine st_end (r:=95) hT hP2 ?_
  refine SX.re (Φ:=(· = .ret (.bool true))) (law_end (m:=(pPlay (zSg ns) (zU ns) (zV ns) (zR ns) (zB ns) (zR ns)).1.m) (by decide) ?_ hM) fun o ho=>?_
  ·intro k d e
   rw [coreY,List.lookup_cons] at e
   cases q:(k == ("profile":Str)) with
   | true=>
    rw [q] at e
    have hk:k = "profile":=by simpa using q
    subst hk
    cases e
    exact hp
   | false=>rw [q] at e;exact (hP2.low (coreX_P a ns)) k d e
  ·subst ho
   exact ⟨true,rfl,.inl rfl⟩
end
end Mine
namespace Mine
variable [Wd]
theorem wsAt_ws (m:Int) (i:Nat):isWs (wsAt m i) = true:=by
 unfold wsAt
 have:((m / 2 + (i:Int)) % 4).toNat < 4:=by lia
 generalize ((m / 2 + (i:Int)) % 4).toNat = k at *
 have h:k = 0 ∨ k = 1 ∨ k = 2 ∨ k = 3:=by lia
 rcases h with rfl | rfl | rfl | rfl <;> decide
theorem quoted_reads (rest:List Nat):∀ (w tok:List Nat),quoted tok (w.flatMap escQ ++ 34::rest) = (tok ++ w,rest)
 | [],tok=>by
  show quoted tok (34::rest) = _
  rw [quoted_cons];simp
 | c::w,tok=>by
  rw [List.flatMap_cons,List.append_assoc]
  unfold escQ
  by_cases h:c ∈ [34,92]
  ·rw [if_pos h]
   show quoted tok (92::c::(w.flatMap escQ ++ 34::rest)) = _
   rw [quoted_cons,if_neg (by decide)]
   show quoted (tok ++ [c]) (w.flatMap escQ ++ 34::rest) = _
   rw [quoted_reads rest w];simp
  ·rw [if_neg h]
   have h1:c ≠ 34:=fun e=>h (by simp [e])
   have h2:c ≠ 92:=fun e=>h (by simp [e])
   show quoted tok (c::(w.flatMap escQ ++ 34::rest)) = _
   rw [quoted_cons,if_neg h1]
   have e:escd c (w.flatMap escQ ++ 34::rest) = ([c],w.flatMap escQ ++ 34::rest):=by unfold escd;rw [if_neg h2]
   rw [e,quoted_reads rest w];simp
theorem escB_cases (b:Bool) (c:Nat):escB b c = [92,c] ∨ (escB b c = [c]∧isWs c = false∧c ≠ 34∧c ≠ 92):=by
 unfold escB
 by_cases h:b = true ∨ c ∈ [34,92,10,9,13,32]
 ·rw [if_pos h];exact .inl rfl
 ·rw [if_neg h]
  refine .inr ⟨rfl,?_,fun e=>h (.inr (by simp [e])),fun e=>h (.inr (by simp [e]))⟩
  unfold isWs
  rw [decide_eq_false_iff_not]
  intro q
  refine h (.inr ?_)
  simp only [List.mem_cons,List.not_mem_nil,or_false] at q ⊢
  lia
theorem plain_reads (b:Bool) (rest:List Nat):∀ (w tok:List Nat),plain tok (w.flatMap (escB b) ++ rest) = plain (tok ++ w) rest
 | [],tok=>by simp
 | c::w,tok=>by
  rw [List.flatMap_cons,List.append_assoc]
  rcases escB_cases b c with e | ⟨e,h1,_,h2⟩
  ·rw [e]
   show plain tok (92::c::(w.flatMap (escB b) ++ rest)) = _
   rw [plain_cons,if_neg (by decide)]
   show plain (tok ++ [c]) (w.flatMap (escB b) ++ rest) = _
   rw [plain_reads b rest w];simp
  ·rw [e]
   show plain tok (c::(w.flatMap (escB b) ++ rest)) = _
   rw [plain_cons,if_neg (by rw [h1];decide)]
   have e:escd c (w.flatMap (escB b) ++ rest) = ([c],w.flatMap (escB b) ++ rest):=by unfold escd;rw [if_neg h2]
   rw [e,plain_reads b rest w];simp
theorem tok_plain (b:Bool) (rest:List Nat) {w:List Nat}(hw:w ≠ []):tokOf (w.flatMap (escB b) ++ rest) = plain w rest:=by
 cases w with
 | nil=>exact absurd rfl hw
 | cons c w=>
  rw [List.flatMap_cons,List.append_assoc]
  rcases escB_cases b c with e | ⟨e,h1,h3,h2⟩
  ·rw [e]
   show tokOf (92::c::(w.flatMap (escB b) ++ rest)) = _
   rw [tokOf_cons,if_neg (by decide),if_neg (by decide)]
   show plain [c] (w.flatMap (escB b) ++ rest) = _
   rw [plain_reads b rest w];rfl
  ·rw [e]
   show tokOf (c::(w.flatMap (escB b) ++ rest)) = _
   rw [tokOf_cons,if_neg (by rw [h1];decide),if_neg h3]
   have e:escd c (w.flatMap (escB b) ++ rest) = ([c],w.flatMap (escB b) ++ rest):=by unfold escd;rw [if_neg h2]
   rw [e,plain_reads b rest w];rfl
noncomputable def segT (m:Int) (words:List (List Nat)) (i k:Nat):List Nat:=(List.range' i k).flatMap fun j=>[wsAt m j] ++ tokText m j (words.getD j [])
theorem segT_succ (m:Int) (words:List (List Nat)) (i k:Nat):segT m words i (k + 1) = wsAt m i::(tokText m i (words.getD i []) ++ segT m words (i + 1) k):=by
 unfold segT
 rw [List.range'_succ,List.flatMap_cons];rfl
noncomputable def qtP (m:Int) (i:Nat) (w:List Nat):Prop:=w = [] ∨ (m + (i:Int)) % 2 = 0
instance (m:Int) (i:Nat) (w:List Nat):Decidable (qtP m i w):=by unfold qtP;infer_instance
noncomputable def rsT (m:Int) (words:List (List Nat)) (n i:Nat):List Nat:=if i = 0 ∨ qtP m (i - 1) (words.getD (i - 1) []) then segT m words i (n - i) else (segT m words i (n - i)).tail
theorem rsT_step (m:Int) (words:List (List Nat)) {n i:Nat}(hi:i < n):tokOf (rsT m words n i) = (words.getD i [],rsT m words n (i + 1)):=by
 have e1:segT m words i (n - i) = wsAt m i::(tokText m i (words.getD i []) ++ segT m words (i + 1) (n - (i + 1))):=by
  rw [show n - i = (n - (i + 1)) + 1 by lia,segT_succ]
 have e2:tokOf (rsT m words n i) = tokOf (tokText m i (words.getD i []) ++ segT m words (i + 1) (n - (i + 1))):=by
  unfold rsT
  rw [e1]
  split
  ·rw [tokOf_cons,if_pos (wsAt_ws m i)]
  ·rfl
 rw [e2]
 unfold rsT
 rw [Nat.add_sub_cancel]
 generalize words.getD i [] = w
 have e3:(i + 1 = 0 ∨ qtP m i w) ↔ qtP m i w:=⟨fun h=>h.resolve_left (by lia),.inr⟩
 unfold tokText
 by_cases h:w = [] ∨ (m + (i:Int)) % 2 = 0
 ·rw [if_pos h,if_pos (e3.mpr h)]
  show tokOf (34::(w.flatMap escQ ++ [34] ++ segT m words (i + 1) (n - (i + 1)))) = _
  rw [tokOf_cons,if_neg (by decide),if_pos rfl,List.append_assoc]
  exact quoted_reads _ w []
 ·rw [if_neg h,if_neg fun q=>h (e3.mp q)]
  rw [tok_plain _ _ fun e=>h (.inl e)]
  cases hk:n - (i + 1) with
  | zero=>exact plain_nil w
  | succ k=>rw [segT_succ,plain_cons,if_pos (wsAt_ws m (i + 1))];rfl
theorem tok_ok (ns:List Int):TokH ns (rsT (zM ns) (zWords ns) (zSize ns + 4)):=by
 have hl:=zWords_len ns
 have hs:=zSize_b ns
 have e0:fileText (zM ns) (zWords ns) (zSize ns + 4) = segT (zM ns) (zWords ns) 0 (zSize ns + 4):=by
  unfold fileText segT
  rw [List.range_eq_range']
 refine ⟨?_,fun i hi=>rsT_step _ _ hi,?_,fun i=>?_⟩
 ·unfold rsT zText
  rw [if_pos (.inl rfl),hl,e0];rfl
 ·unfold rsT
  rw [Nat.sub_self]
  split <;> rfl
 ·have h0:=fileText_len (zM ns) (zWords ns) (zWords_small ns) (zSize ns + 4)
  rw [e0] at h0
  have hle:∀ k i,(segT (zM ns) (zWords ns) (i + k) (zSize ns + 4 - (i + k))).length ≤ (segT (zM ns) (zWords ns) i (zSize ns + 4 - i)).length:=by
   intro k
   induction k with
   | zero=>intro i;exact Nat.le_refl _
   | succ k ih=>
    intro i
    have h:=ih (i + 1)
    rw [Nat.add_assoc,Nat.add_comm 1 k] at h
    refine Nat.le_trans h ?_
    by_cases q:i < zSize ns + 4
    ·rw [ar2 q,segT_succ,List.length_cons,List.length_append];exact Nat.le_succ_of_le (Nat.le_add_left _ _)
    ·rw [Nat.sub_eq_zero_of_le (Nat.not_lt.mp q),Nat.sub_eq_zero_of_le (Nat.le_succ_of_le (Nat.not_lt.mp q))];exact Nat.le_refl _
  have h1:=hle i 0
  rw [Nat.zero_add,Nat.sub_zero] at h1
  have h2:_ ≤ 2 ^ 18:=Nat.le_trans h1 (Nat.le_trans h0 (Nat.le_trans (Nat.mul_le_mul_left 30 (Nat.add_le_add_right hs.2 4)) (by decide)))
  unfold rsT
  split
  ·exact h2
  ·rw [List.length_tail];exact Nat.le_trans (Nat.sub_le _ _) h2
end Mine
namespace Mine
noncomputable def modAt (K:Frag) (f:Addr):Value:=match K.lookup f with
 | some o=>(match o.data with
  | .func fd=>fd.pyModule
  | _=>.none)
 | none=>.none
theorem oany {α:Type}{p:α→Bool}{o:Option α}(h:o.any p = true):∃ x,o = some x∧p x = true:=by
 cases o with
 | none=>cases h
 | some x=>exact ⟨x,rfl,h⟩
noncomputable def fldsOf:Data→Option (Array Value)
 | .fields vs=>some vs
 | _=>none
theorem fldsI {d:Data}{vs:Array Value}(h:fldsOf d = some vs):d = .fields vs:=by cases d <;> first | exact congrArg Data.fields (Option.some.inj h) | cases h
noncomputable def tyOf:Value→Option String
 | .type s=>some s
 | _=>none
theorem tyI {v:Value}{s:String}(h:tyOf v = some s):v = .type s:=by cases v <;> first | exact congrArg Value.type (Option.some.inj h) | cases h
noncomputable def strOf:Value→Option Str
 | .str s _=>some s
 | _=>none
theorem strI {v:Value}{s:Str}(h:strOf v = some s):∃ t,v = .str s t:=by cases v <;> first | exact ⟨_,congrArg (Value.str · _) (Option.some.inj h)⟩ | cases h
noncomputable def intOf:Value→Option Int
 | .int i _=>some i
 | _=>none
theorem intI {v:Value}{s:Int}(h:intOf v = some s):∃ t,v = .int s t:=by cases v <;> first | exact ⟨_,congrArg (Value.int · _) (Option.some.inj h)⟩ | cases h
noncomputable def refOf:Value→Option Addr
 | .ref a=>some a
 | _=>none
theorem refI {v:Value}{a:Addr}(h:refOf v = some a):v = .ref a:=by cases v <;> first | exact congrArg Value.ref (Option.some.inj h) | cases h
noncomputable def booOf:Value→Bool
 | .bool _=>true
 | _=>false
theorem booI {v:Value}(h:booOf v = true):∃ b,v = .bool b:=by cases v <;> first | exact ⟨_,rfl⟩ | cases h
noncomputable def codeChk (K:Frag) (c:Addr) (q:Str):Bool:=(K.lookup c).any fun o=>(fldsOf o.data).any fun vs=>(vs[1]?).any fun v=>strOf v == some q
structure FnK0 (K:Frag) (st:Stmt) (q:Str) (f c:Addr):Prop where
 e:K.lookup f = some { cls:=.type "function",data:=.func (fdOf st q c (modAt K f)) }
 k:codeChk K c q = true
theorem FnK0.at {K:Frag}{h:Heap}{st:Stmt}{q:Str}{f c:Addr}(x:FnK0 K st q f c) (KX:K.In h):FnAt h st q f c:=by
 refine ⟨⟨_,KX _ _ x.e⟩,?_⟩
 have k:=x.k
 refine ex11 (oany k) fun o e k=>?_
 refine ex11 (oany k) fun vs d k=>?_
 refine ex11 (oany k) fun v e1 k=>?_
 obtain ⟨t,rfl⟩:=strI (beq_iff_eq.mp k)
 exact ⟨c,o,vs,t,rfl,KX _ _ e,fldsI d,e1⟩
noncomputable def hdChk (K:Frag) (c P:Addr):Bool:=(K.lookup c).any fun o=>(fldsOf o.data).any fun vs=>tyOf o.cls == some "code" && ((vs[11]?).any fun v=>refOf v == some P) && (strOf (vs.getD 18 .none)).isSome && (intOf (vs.getD 7 .none)).isSome && booOf (vs.getD 9 .none) && (intOf (vs.getD 10 .none)).isSome && c != P
theorem hdChk.at {K:Frag}{h:Heap}{c P:Addr}(x:hdChk K c P = true) (KX:K.In h):CodeHd h c P:=by
 refine ex11 (oany x) fun o e x=>?_
 refine ex11 (oany x) fun vs hd x=>?_
 simp only [Bool.and_eq_true] at x
 obtain ⟨⟨⟨⟨⟨⟨hc,h1⟩,h2⟩,h3⟩,h4⟩,h5⟩,h6⟩:=x
 refine ex11 (oany h1) fun v h1 hv=>?_
 obtain rfl:=refI (beq_iff_eq.mp hv)
 obtain ⟨file,h2⟩:=Option.isSome_iff_exists.mp h2
 obtain ⟨flags,h3⟩:=Option.isSome_iff_exists.mp h3
 obtain ⟨text,h5⟩:=Option.isSome_iff_exists.mp h5
 obtain ⟨tf,h2⟩:=strI h2
 obtain ⟨tg,h3⟩:=intI h3
 obtain ⟨inF,h4⟩:=booI h4
 obtain ⟨tt,h5⟩:=intI h5
 refine ⟨o,vs,file,tf,flags,tg,inF,text,tt,KX _ _ e,tyI (beq_iff_eq.mp hc),fldsI hd,h1,?_,h2,h3,h4,h5,by simpa using h6⟩
 rw [show vs.getD 11 .none = (vs[11]?).getD .none by simp,h1];rfl
noncomputable def fragNs (K:Frag) (a:Addr) (n:Str):Option Value:=match K.lookup a with
 | some o=>(match o.data with
  | .dict es _=>nsFind es n
  | _=>none)
 | none=>none
theorem fragNs_is {K:Frag}{h:Heap}(KX:K.In h) {a:Addr}(hs:(K.lookup a).isSome = true) (n:Str):h.nsMap a n = fragNs K a n:=by
 unfold Heap.nsMap fragNs
 cases e:K.lookup a with
 | none=>rw [e] at hs;cases hs
 | some o=>rw [KX _ _ e];rfl
noncomputable def refChk (K:Frag) (n:Str) (a:Addr):Bool:=(fragNs K mainGlobals n).any fun v=>refOf v == some a
noncomputable def limChk (K:Frag):Bool:=(fragNs K mainGlobals "_DIV_LIMIT").any fun v=>intOf v == some 4000
noncomputable def plnD:Data→Bool
 | .plain=>true
 | _=>false
theorem plnI {d:Data}(h:plnD d = true):d = .plain:=by cases d <;> first | rfl | cases h
noncomputable def modChk (K:Frag):Bool:=(K.lookup 4).any fun o=>tyOf o.cls == some "module" && o.dict == some builtinsNs && plnD o.data
structure HeadF (K:Frag):Prop where
 gs:(K.lookup mainGlobals).isSome = true
 gl:(globL.all fun p=>refChk K p.1 p.2) = true
 dl:limChk K = true
 gb:(biL.all fun n=>(fragNs K mainGlobals n).isNone) = true
 bb:refChk K "__builtins__" 4 = true
 bm:modChk K = true
 fDiv2:FnK0 K (stOf 2) "_div2n1n" 21 20
 fDiv3:FnK0 K (stOf 3) "_div3n2n" 28 27
 fI2d:FnK0 K (stOf 4) "_int2digits" 35 34
 fD2i:FnK0 K (stOf 5) "_digits2int" 42 41
 fDpos:FnK0 K (stOf 6) "_divmod_pos" 49 48
 fDm:FnK0 K (stOf 7) "int_divmod" 56 55
 fInit:FnK0 K (mtOf 0) "_netrclex.__init__" 70 69
 fRead:FnK0 K (mtOf 1) "_netrclex._read_char" 77 76
 fGet:FnK0 K (mtOf 2) "_netrclex.get_token" 84 83
 fPush:FnK0 K (mtOf 3) "_netrclex.push_token" 91 90
 fAdd:FnK0 K (stOf 11) "add_func_stats" 105 104
 fCal:FnK0 K (stOf 12) "add_callers" 112 111
 fLex:FnK0 K (stOf 14) "_law_lexer" 119 118
 fFile:FnK0 K (stOf 15) "_law_file" 124 123
 fPlay:FnK0 K (stOf 16) "_law_play" 129 128
 fFree:FnK0 K (stOf 17) "_law_free" 134 133
 fOver:FnK0 K (stOf 18) "_law_overlap" 139 138
 fEntry:FnK0 K (stOf 19) "_law_entry" 144 143
 fLaw:FnK0 K (stOf 20) "law" 149 148
 hI2d:hdChk K 34 30 = true
 hD2i:hdChk K 41 37 = true
 hCal:hdChk K 111 107 = true
 hLex:hdChk K 118 114 = true
 t1:K.lookup 30 = some (tbl #[])
 t2:K.lookup 37 = some (tbl #[])
 t3:K.lookup 107 = some (tbl #[])
 t4:K.lookup 114 = some (tbl #[])
 lt:(K.all fun p=>decide (@LT.lt Nat _ p.1 N0)) = true
 cls:ClsF (K.filter fun p=>!(tabs.contains p.1))
theorem ref_of {K:Frag}{h:Heap}(KX:K.In h) (hs:(K.lookup mainGlobals).isSome = true) {n:Str}{a:Addr}(x:refChk K n a = true):h.nsMap mainGlobals n = some (.ref a):=by
 rw [fragNs_is KX hs]
 refine ex11 (oany x) fun v e q=>?_
 rw [e,refI (beq_iff_eq.mp q)]
theorem look_filter {α:Type}{f:Addr→Bool}{x:Addr}:∀ {l:List (Addr × α)}{v:α},(l.filter fun p=>f p.1).lookup x = some v→f x = true∧l.lookup x = some v
 | [],v,h=>by cases h
 | (y,z)::l,v,h=>by
  rw [List.filter_cons] at h
  by_cases hf:f y = true
  ·rw [if_pos hf,List.lookup_cons] at h
   rw [List.lookup_cons]
   cases q:(x == y) with
   | true=>
    rw [q] at h
    have:x = y:=beq_iff_eq.mp q
    exact ⟨this ▸ hf,h⟩
   | false=>
    rw [q] at h
    exact look_filter h
  ·rw [if_neg hf] at h
   obtain ⟨h1,h2⟩:=look_filter h
   refine ⟨h1,?_⟩
   have:(x == y) = false:=by
    cases q:(x == y) with
    | false=>rfl
    | true=>exact absurd (beq_iff_eq.mp q ▸ h1) hf
   rw [List.lookup_cons,this]
   exact h2
theorem look_mem {α:Type}{x:Addr}:∀ {l:List (Addr × α)}{v:α},l.lookup x = some v→(x,v) ∈ l
 | [],v,h=>by cases h
 | (y,z)::l,v,h=>by
  rw [List.lookup_cons] at h
  cases q:(x == y) with
  | true=>
   rw [q] at h;cases h
   rw [beq_iff_eq.mp q];exact .head _
  | false=>rw [q] at h;exact .tail _ (look_mem h)
theorem HeadF.top {K:Frag}{h:Heap}(F:HeadF K) (KX:K.In h) {mg mb:Str→Option Value}(hg:h.Ns mainGlobals mg) (hb:h.Ns builtinsNs mb) (hmb:∀ x:Str,x ≠ "__name__"→mb x = bootBuiltins x) (hl:h.NoLimit):Top1 ⟨h,[]⟩ where
 glob:=by
  have e:=hg.eq_nsMap
  refine ⟨mg,hg,fun p hp=>?_,?_,fun n hn=>?_,?_⟩
  ·rw [e];exact ref_of KX F.gs (List.all_eq_true.mp F.gl p hp)
  ·rw [e,fragNs_is KX F.gs]
   refine ex11 (oany F.dl) fun v q d=>?_
   obtain ⟨t,rfl⟩:=intI (beq_iff_eq.mp d)
   exact ⟨t,q⟩
  ·rw [e,fragNs_is KX F.gs]
   have:=List.all_eq_true.mp F.gb n hn
   simpa using this
  ·rw [e];exact ref_of KX F.gs F.bb
 bi:=⟨mb,hb,fun n hn=>hmb n fun e=>by subst e;revert hn;decide⟩
 lim:=hl
 bmod:=by
  refine ex11 (oany F.bm) fun o e b=>?_
  simp only [Bool.and_eq_true] at b
  exact ⟨o,KX _ _ e,tyI (beq_iff_eq.mp b.1.1),beq_iff_eq.mp b.1.2,plnI b.2⟩
 fDiv2:=F.fDiv2.at KX
 fDiv3:=F.fDiv3.at KX
 fI2d:=F.fI2d.at KX
 fD2i:=F.fD2i.at KX
 fDpos:=F.fDpos.at KX
 fDm:=F.fDm.at KX
 fInit:=F.fInit.at KX
 fRead:=F.fRead.at KX
 fGet:=F.fGet.at KX
 fPush:=F.fPush.at KX
 fAdd:=F.fAdd.at KX
 fCal:=F.fCal.at KX
 fLex:=F.fLex.at KX
 fFile:=F.fFile.at KX
 fPlay:=F.fPlay.at KX
 fFree:=F.fFree.at KX
 fOver:=F.fOver.at KX
 fEntry:=F.fEntry.at KX
 fLaw:=F.fLaw.at KX
 hI2d:=hdChk.at F.hI2d KX
 hD2i:=hdChk.at F.hD2i KX
 hCal:=hdChk.at F.hCal KX
 hLex:=hdChk.at F.hLex KX
 cls:=⟨_,F.cls,fun a o e=>by
  obtain ⟨h1,h2⟩:=look_filter (f:=fun a=>!(tabs.contains a)) e
  refine ⟨?_,?_,KX _ _ h2⟩
  ·exact of_decide_eq_true (List.all_eq_true.mp F.lt _ (look_mem h2))
  ·intro q
   rw [List.contains_iff_mem.mpr q] at h1
   cases h1⟩
theorem HeadF.tab {K:Frag}{h:Heap}(F:HeadF K) (KX:K.In h):TabOK h []:=⟨.inl (KX _ _ F.t1),.inl (KX _ _ F.t2),.inl (KX _ _ F.t3),.inl (KX _ _ F.t4)⟩
theorem HeadF.old {K:Frag}{h h':Heap}(F:HeadF K) (KX:K.In h) (st:Step [] h h'):OldK h h':=by
 have t:∀ b ∈ tabs,h.get? b = some (tbl #[])∧isCodeTable h b:=by
  intro b hb
  simp only [tabs,List.mem_cons,List.not_mem_nil,or_false] at hb
  rcases hb with rfl | rfl | rfl | rfl
  ·exact ⟨KX _ _ F.t1,((hdChk.at F.hI2d KX).tab (KX _ _ F.t1)).isCodeTable⟩
  ·exact ⟨KX _ _ F.t2,((hdChk.at F.hD2i KX).tab (KX _ _ F.t2)).isCodeTable⟩
  ·exact ⟨KX _ _ F.t3,((hdChk.at F.hCal KX).tab (KX _ _ F.t3)).isCodeTable⟩
  ·exact ⟨KX _ _ F.t4,((hdChk.at F.hLex KX).tab (KX _ _ F.t4)).isCodeTable⟩
 refine ⟨fun b o e=>?_,fun b o e=>?_⟩
 ·by_cases hb:b ∈ tabs
  ·obtain ⟨e1,c⟩:=t b hb
   rw [e1] at e;cases e
   obtain ⟨more,e2⟩:=st.tab b hb _ e1
   exact .inr (.inl ⟨c,rfl,#[],more,rfl,e2⟩)
  ·exact .inl (st.keep b o e (fun q=>nomatch q) hb)
 ·by_cases hb:b ∈ tabs
  ·obtain ⟨more,e2⟩:=st.tab b hb _ (t b hb).1
   exact ⟨_,e2⟩
  ·exact ⟨o,st.keep b o e (fun q=>nomatch q) hb⟩
theorem ints_VL [Wd] {h:Heap}{vs:List Value}{ns:List Int}(x:IntsAre vs ns):VL h [] vs (intL ns):=by
 induction x with
 | nil=>exact .nil
 | cons n t _ ih=>exact .cons (.int n t) ih
theorem law_run {w:World}{prog:Program}{K:Frag}{s:Shared}{mg mb:Str→Option Value}{vs:List Value}{ns:List Int}{Q:Value→Shared→Prop}{E:Value→Shared→Prop}(F:HeadF K) (KX:K.In s.heap)
  (hg:s.heap.Ns mainGlobals mg) (hb:s.heap.Ns builtinsNs mb) (hmb:∀ x:Str,x ≠ "__name__"→mb x = bootBuiltins x) (hl:s.heap.NoLimit) (hgen:s.gens = #[]) (hsz:s.heap.objs.size = 150 + 1)
  (ho:s.heap.get? 150 = some { cls:=.type "list",data:=.seq vs.toArray }) (hi:IntsAre vs ns) (hn:ns.length ≤ 2 ^ 20)
  (k:∀ s',OldK s.heap s'.heap→s'.os = s.os→AllBare s'.gens→Q (.bool true) s'):wpAny (model prog w) callerA (call (.ref 149) [.ref 150]) Q E s:=by
 letI:Wd:=⟨fun k=>hashStr w k⟩
 have T:Top1 ⟨s.heap,[]⟩:=F.top KX hg hb hmb hl
 have hbare:AllBare s.gens:=AllBare.of_eq hgen
 refine law_ok (h₁:=⟨s.heap,[]⟩) hn (tok_ok ns) prog ⟨w,fun _=>rfl⟩ callerA s [] [.ref 150] Q E T ⟨rfl,by show 1 + claimMargin + 100 < 980;decide,by show 4 + 16 * 100 < 9700;decide⟩ ⟨fun _ _ e _ _=>e,F.tab KX,hbare,fun _ q=>(nomatch q),?_,fun _ q=>(nomatch q)⟩ (.cons ?_ .nil) fun v s' st I' hv=>?_
 ·rw [hsz];decide
 ·exact .list ho (fun q=>nomatch q) (by decide) (by simpa using ints_VL hi)
 ·obtain rfl:=V.boolI hv
  exact k s' (F.old KX st.st) st.os (st.gens hbare)
end Mine
namespace Mine
noncomputable def nrm (o:Obj):Obj:={ o with data:=match o.data with
 | .func fd=>.func { fd with pyModule:=.none }
 | d=>d }
noncomputable def hK (h:Heap):Frag:=(List.range 150).filterMap fun a=>(h.get? a).map fun o=>(a,o)
theorem hK_look {h:Heap}{a:Addr}:∀ n,((List.range n).filterMap fun a=>(h.get? a).map fun o=>(a,o)).lookup a = if @LT.lt Nat _ a n then h.get? a else none
 | 0=>by simp
 | n + 1=>by
  rw [List.range_succ,List.filterMap_append,List.lookup_append,hK_look n]
  by_cases h1:@LT.lt Nat _ a n
  ·rw [if_pos h1,if_pos (Nat.lt_succ_of_lt h1)]
   cases h.get? a with
   | none=>
    cases q:h.get? n with
    | none=>simp [q]
    | some o=>
     simp [q]
     exact Nat.ne_of_lt h1
   | some o=>rfl
  ·rw [if_neg h1]
   by_cases h2:a = n
   ·subst h2
    rw [if_pos (Nat.lt_succ_self _)]
    cases q:h.get? a with
    | none=>simp [q]
    | some o=>simp [q]
   ·have h3:¬ @LT.lt Nat _ a (n + 1):=by
     intro q
     have:@LT.lt Nat _ a n:=Nat.lt_of_le_of_ne (Nat.le_of_lt_succ q) h2
     exact h1 this
    rw [if_neg h3]
    cases q:h.get? n with
    | none=>simp [q]
    | some o=>
     simp [q]
     exact h2
theorem hK_in (h:Heap):(hK h).In h:=by
 intro a o e
 unfold hK at e
 rw [hK_look] at e
 split at e
 ·exact e
 ·cases e
theorem fn_of {h:Heap}{st:Stmt}{q:Str}{f c:Addr}(hf:@LT.lt Nat _ f 150) (hst:∀ m,fdOf st q c m = { fdOf st q c .none with pyModule:=m }) (e:(h.get? f).map nrm = some { cls:=.type "function",data:=.func (fdOf st q c .none) }) (k:codeChk (hK h) c q = true):FnK0 (hK h) st q f c:=by
 refine ⟨?_,k⟩
 have hl:(hK h).lookup f = h.get? f:=by unfold hK;rw [hK_look,if_pos hf]
 have hm:modAt (hK h) f = match h.get? f with | some o=>(match o.data with | .func fd=>fd.pyModule | _=>.none) | none=>.none:=by unfold modAt;rw [hl];try rfl
 rw [hl,hm]
 cases g:h.get? f with
 | none=>rw [g] at e;cases e
 | some o=>
  rw [g,Option.map_some] at e
  have e':=Option.some.inj e
  obtain ⟨cls,dict,data,slots⟩:=o
  unfold nrm at e'
  injection e' with e1 e2 e3 e4
  subst e1 e2 e4
  cases data with
  | func fd=>
   injection e3 with e5
   have:fd = fdOf st q c fd.pyModule:=by rw [hst,← e5]
   show some _ = some _
   congr 2
   exact congrArg Data.func this
  | _=>cases e3
noncomputable def fnL:List (Stmt × Str × Addr × Addr):=[(stOf 2, "_div2n1n",21,20),(stOf 3, "_div3n2n",28,27),(stOf 4, "_int2digits",35,34),(stOf 5, "_digits2int",42,41),(stOf 6, "_divmod_pos",49,48),(stOf 7, "int_divmod",56,55),
 (mtOf 0, "_netrclex.__init__",70,69),(mtOf 1, "_netrclex._read_char",77,76),(mtOf 2, "_netrclex.get_token",84,83),(mtOf 3, "_netrclex.push_token",91,90),(stOf 11, "add_func_stats",105,104),(stOf 12, "add_callers",112,111),
 (stOf 14, "_law_lexer",119,118),(stOf 15, "_law_file",124,123),(stOf 16, "_law_play",129,128),(stOf 17, "_law_free",134,133),(stOf 18, "_law_overlap",139,138),(stOf 19, "_law_entry",144,143),(stOf 20, "law",149,148)]
noncomputable def hL (h:Heap):Frag:=(hK h).filter fun p=>!(tabs.contains p.1)
noncomputable def clsL:List (Str × Option (Option Value)):=[("__getattribute__",some (some (.builtin "object.__getattribute__"))),("__getattr__",some none),("__setattr__",some (some (.builtin "object.__setattr__"))),("__init__",some (some (.ref 70))),("_read_char",some (some (.ref 77))),("get_token",some (some (.ref 84))),("push_token",some (some (.ref 91))),
 ("lineno",some none),("instream",some none),("whitespace",some none),("pushback",some none),("read",some none)]
noncomputable def obsC (h:Heap):Bool:=((hK h).lookup mainGlobals).isSome && (globL.all fun p=>refChk (hK h) p.1 p.2) && limChk (hK h) && (biL.all fun n=>(fragNs (hK h) mainGlobals n).isNone) && refChk (hK h) "__builtins__" 4 && modChk (hK h) && (fnL.all fun p=>codeChk (hK h) p.2.2.2 p.2.1) &&
 hdChk (hK h) 34 30 && hdChk (hK h) 41 37 && hdChk (hK h) 111 107 && hdChk (hK h) 118 114 && makesIn (hL h) 94 && plainOver (hL h) 94 && hasDictIn (hL h) 94 && keepIn (hL h) (.ref 94)
abbrev ObsT:=Bool × List (Option Obj) × List (Option (Option Value)) × List (Option Value) × Option (Option Value) × Option Bool × List (Option Obj) × Nat
noncomputable def obsY (s:Shared):ObsT:=(obsC s.heap,fnL.map fun p=>(s.heap.get? p.2.2.1).map nrm,clsL.map fun p=>findIn (hL s.heap) (.ref 94) p.1,([70,77,84,91]:List Addr).map fun a=>typeIn (hL s.heap) (.ref a),specialIn (hL s.heap) (.ref 77) "__get__",takesIn (hL s.heap) (.ref 77),tabs.map s.heap.get?,s.heap.objs.size)
noncomputable def valY (_:World):ObsT:=(true,fnL.map fun p=>some { cls:=.type "function",data:=.func (fdOf p.1 p.2.1 p.2.2.2 .none) },clsL.map (·.2),([70,77,84,91]:List Addr).map fun _=>some (.type "function"),some (some (.builtin "function.__get__")),some false,tabs.map fun _=>some (tbl #[]),150)
theorem head_of {s:Shared}{w:World}(y:obsY s = valY w):HeadF (hK s.heap)∧s.heap.objs.size = 150:=by
 unfold obsY valY at y
 obtain ⟨y1,y⟩:=Prod.mk.inj y
 obtain ⟨y2,y⟩:=Prod.mk.inj y
 obtain ⟨y3,y⟩:=Prod.mk.inj y
 obtain ⟨y4,y⟩:=Prod.mk.inj y
 obtain ⟨y5,y⟩:=Prod.mk.inj y
 obtain ⟨y6,y⟩:=Prod.mk.inj y
 obtain ⟨y7,y8⟩:=Prod.mk.inj y
 unfold obsC at y1
 simp only [Bool.and_eq_true] at y1
 obtain ⟨⟨⟨⟨⟨⟨⟨⟨⟨⟨⟨⟨⟨⟨c1,c2⟩,c3⟩,c4⟩,c5⟩,c6⟩,c7⟩,d1⟩,d2⟩,d3⟩,d4⟩,e1⟩,e2⟩,e3⟩,e4⟩:=y1
 have fe:=List.map_inj_left.mp y2
 have ce:=List.map_inj_left.mp y3
 have te:=List.map_inj_left.mp y4
 have ke:=List.map_inj_left.mp y7
 have ck:=List.all_eq_true.mp c7
 have tb:∀ a ∈ tabs,(hK s.heap).lookup a = some (tbl #[]):=by
  intro a ha
  unfold hK
  rw [hK_look,if_pos ?_]
  ·exact ke a ha
  ·revert a;decide
 have fn:∀ i (hi:i < fnL.length),(∀ m,fdOf (fnL[i]).1 (fnL[i]).2.1 (fnL[i]).2.2.2 m = { fdOf (fnL[i]).1 (fnL[i]).2.1 (fnL[i]).2.2.2 .none with pyModule:=m })→@LT.lt Nat _ (fnL[i]).2.2.1 150→FnK0 (hK s.heap) (fnL[i]).1 (fnL[i]).2.1 (fnL[i]).2.2.1 (fnL[i]).2.2.2:=fun i hi h1 h2=>fn_of h2 h1 (fe _ (List.getElem_mem hi)) (ck _ (List.getElem_mem hi))
 have cl:∀ i (hi:i < clsL.length),findIn (hL s.heap) (.ref 94) (clsL[i]).1 = (clsL[i]).2:=fun i hi=>ce _ (List.getElem_mem hi)
 refine ⟨⟨c1,c2,c3,c4,c5,c6,fn 0 (by decide) (fun _=>rfl) (by decide),fn 1 (by decide) (fun _=>rfl) (by decide),fn 2 (by decide) (fun _=>rfl) (by decide),fn 3 (by decide) (fun _=>rfl) (by decide),fn 4 (by decide) (fun _=>rfl) (by decide),fn 5 (by decide) (fun _=>rfl) (by decide),fn 6 (by decide) (fun _=>rfl) (by decide),fn 7 (by decide) (fun _=>rfl) (by decide),fn 8 (by decide) (fun _=>rfl) (by decide),fn 9 (by decide) (fun _=>rfl) (by decide),fn 10 (by decide) (fun _=>rfl) (by decide),fn 11 (by decide) (fun _=>rfl) (by decide),fn 12 (by decide) (fun _=>rfl) (by decide),fn 13 (by decide) (fun _=>rfl) (by decide),fn 14 (by decide) (fun _=>rfl) (by decide),fn 15 (by decide) (fun _=>rfl) (by decide),fn 16 (by decide) (fun _=>rfl) (by decide),fn 17 (by decide) (fun _=>rfl) (by decide),fn 18 (by decide) (fun _=>rfl) (by decide),
  d1,d2,d3,d4,tb 30 (by decide),tb 37 (by decide),tb 107 (by decide),tb 114 (by decide),?_,⟨cl 0 (by decide),cl 1 (by decide),cl 2 (by decide),cl 3 (by decide),cl 4 (by decide),cl 5 (by decide),cl 6 (by decide),cl 7 (by decide),cl 8 (by decide),cl 9 (by decide),cl 10 (by decide),cl 11 (by decide),e1,e2,e3,te 70 (by decide),te 77 (by decide),te 84 (by decide),te 91 (by decide),y5,y6,e4⟩⟩,y8⟩
 rw [List.all_eq_true]
 intro p hp
 unfold hK at hp
 obtain ⟨a,ha,e⟩:=List.mem_filterMap.mp hp
 obtain ⟨o,_,rfl⟩:=Option.map_eq_some_iff.mp e
 exact decide_eq_true (List.mem_range.mp ha)
end Mine
open PySem.W.X PySem.W.ZRun
namespace Mine
noncomputable def qV : Program := { PySem.Challenge.pw_ph0132_01 with main := { PySem.Challenge.pw_ph0132_01.main with body := [stOf 1, stOf 2, stOf 3, stOf 4, stOf 5, stOf 6, stOf 7, stOf 9, stOf 11, stOf 12, stOf 14, stOf 15, stOf 16, stOf 17, stOf 18, stOf 19, stOf 20] } }
theorem law_at {K : Frag} {h : Heap} {mg : Str → Option Value} (F : HeadF K) (KX : K.In h) (hg : h.Ns mainGlobals mg) : mg "law" = some (.ref 149) := by
  rw [hg.eq_nsMap]
  exact ref_of KX F.gs (List.all_eq_true.mp F.gl ("law", 149) (by simp [globL]))
end Mine
set_option maxRecDepth 100000 in
set_option maxHeartbeats 0 in
theorem PySem.Challenge.cw_ph0132_01_holds : PySem.Challenge.rw_ph0132_01.Holds := by
  w_on
  refine holds_law (by kernel_rfl) fun said => ?_
  refine holds_openX (q := Mine.qV) (loose := []) (Xt := fun s => xlAt Mine.qV [] s && recOk (RowW.records (OpenRow.toRowW _)) s) (XP := XL Mine.qV []) (Yf := Mine.obsY) (Ya := Mine.valY) (N := 1802) ?hl (fun s e => xl_of s (Bool.and_eq_true_iff.mp e).1) XL.keeps (by rfl) (by rfl) (by rfl) (fun s e => recFacts_of (Bool.and_eq_true_iff.mp e).2) (by rfl) (by first | assumption | decide +kernel) (by decide +kernel) ⟨rfl, rfl, rfl, rfl, rfl, by decide +kernel⟩ ?hw ?hc
  case hl => intro w; kernel_rfl
  case hw => w_witness2
  intro w s₀ s₁ mg mb G y fa o pm cd doc dV kV ho hd hcd hD hmg hg args vals as L hpre hlay hrd hwl hlo
  obtain ⟨F, ZN⟩ := Mine.head_of y
  have KX := Frag.In.keeps (Mine.hK_in s₀.heap) L.keeps
  refine Ground.open G ?_
  intro T B D TE TW
  wrow_args hpre hlay hrd hwl hlo
  obtain ⟨hat, hsz⟩ := script_at L
  rw [ZN] at hat hsz
  subst hat
  all_lens
  have hI := ‹IntsAre _ _›
  have hL := ‹PySem.Heap.IsList _ _ _›
  have hlen := ‹_ = _ ∧ _ ≤ 2 ^ 20›
  have hobj := script_obj L hL
  have hfa := Mine.law_at F KX T.g
  obtain rfl : fa = 149 := Value.ref.inj (Option.some.inj (hmg.symm.trans hfa))
  clear hd hcd hD
  refine Mine.law_run F KX T.g T.b T.builtins T.nolimit hg hsz hobj hI hlen.2 ?_
  intro s' hK hos hb
  refine ⟨.inl ⟨_, _, [], rfl, fun _ => rfl, ReadsW.bool true, ?_, fun _ => ⟨List.nodup_nil, fun _ hm => (nomatch hm)⟩⟩, hK, hos, hb⟩
  wrow_post
