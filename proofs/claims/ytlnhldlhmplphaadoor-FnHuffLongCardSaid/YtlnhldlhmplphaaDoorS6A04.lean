/- Lemmas for the proof: P05 P06 P07 P08 X1 X2 X3. No conditions. -/
import Derived.Test.YtlnhldlhmplphaaDoorS6A03
set_option linter.unusedVariables false
set_option linter.unusedSimpArgs false
namespace Go.Sx
open Go Go.Proofs
set_option maxRecDepth 100000
def q110_J0 (p0:Addr) (K1:Unit→PT) (x14:Int):PT :=
 st (Addr.add p0 529) (.int .u8 x14)<|K1 ()
def q110_J1 (p0:Addr) (K1:Unit→PT) (x12:Int):PT :=
 joinP (fun R13=>cnd (decide ((12:Int)<x12)) (R13 (12:Int)) (R13 x12)) (q110_J0 p0 K1)
def q110_J2 (p0:Addr) (K1:Unit→PT) (x10:Int):PT :=
 joinP (fun R11=>cnd (decide (x10<(5:Int))) (R11 (5:Int)) (R11 x10)) (q110_J1 p0 K1)
def q110_J3 (p0:Addr) (K1:Unit→PT) (r3:Int) (x8:Int):PT :=
 joinP (fun R9=>cnd (decide (x8<r3)) (R9 r3) (R9 x8)) (q110_J2 p0 K1)
def q110 (p0:Addr) (K1:Unit→PT):PT :=
 ld (.I .u8) (Addr.add p0 533) fun (n2:Int)=>callP Tryd.prog 135 #[(.pointer (some p0))] [.c (.I .u8)] fun (r3:Int)=>ldL [.S,(.I .i64)] (Addr.add p0 512) 0 fun (r4:(Sl×Int))=>callP Tryd.prog 93 #[(.agg ⟨[(.slice r4.1.a r4.1.l r4.1.c),(.int .i64 r4.2)]⟩)] [.c (.I .i64)] fun (r5:Int)=>callP Tryd.prog 98 #[(.int .u32 (IntKind.wrap .u32 (IntKind.wrap .i64 (r5-(1:Int)))))] [.c (.I .u32)] fun (r6:Int)=>joinP (fun R7=>cnd (decide ((IntKind.wrap .u8 ((IntKind.wrap .u8 r6)-(2:Int)))<n2)) (R7 (IntKind.wrap .u8 ((IntKind.wrap .u8 r6)-(2:Int)))) (R7 n2)) (q110_J3 p0 K1 r3)
def h110:Hint:=⟨(.n (.n (.n .e 15 ([(2,.c (.I .u8))],[3,0]) .e) 31 ([(2,.c (.I .u8))],[0]) .e) 63 ([(2,.c (.I .u8))],[0]) (.n .e 127 ([(2,.c (.I .u8))],[0]) .e)),.e⟩
theorem q110_eq (p0:Addr) (K1:Unit→PT):fnE Cx h110 [] Tryd.f110 [.pt p0] K1=q110 p0 K1:=by kernel_rfl
theorem q110_fnok:fnOk Tryd.f110 1=true:=by kernel_rfl
theorem q110_ok (p0:Addr) (K1:Unit→PT) {w:World} (h:q110 p0 K1 w):Calls Tryd.prog 110 #[(.pointer (some p0))] w fun e w'=>∃r,e = .returned (resMk [] r)∧K1 r w' :=
 of_eq Tryd.func110 q110_fnok (by kernel_rfl) (by kernel_rfl) (q110_eq p0 K1) h
def q111_J0 (p0:Addr) (x10:(Int×Int×Int×Int)) (R12:Int×Int×Int→PT) (x20:(Int)) (x22:Int×Int):PT :=
 ixA 1 256 (Addr.add p0 256) x10.2.2.2 fun (p23:Addr)=>st p23 (.int .i16 x20)<|R12 ((IntKind.wrap .i16 (x10.1-x20)),x22.1,x22.2)
def q111_J1 (p0:Addr) (x10:(Int×Int×Int×Int)) (R12:Int×Int×Int→PT) (x20:Int):PT :=
 joinP (fun R21=>cnd (decide (x10.2.2.1<x20)) (R21 (x10.2.2.2,x20)) (R21 (x10.2.1,x10.2.2.1))) (q111_J0 p0 x10 R12 x20)
def q111_X2 (n2:Int) (r4:Int) (n14:Int) (R17:Int→PT):PT :=
 cnd (decide ((IntKind.wrap .i16 (shrI .u64 (IntKind.wrap .u64 ((IntKind.wrap .u64 n14)*(quoI .u64 (4611686018427387904:Int) (IntKind.wrap .u64 r4)))) (IntKind.wrap .u64 ((62:Int)-(IntKind.wrap .u64 n2)))))<(8:Int))) (ixA 1 8 ⟨6,0,none⟩ (IntKind.wrap .i16 (shrI .u64 (IntKind.wrap .u64 ((IntKind.wrap .u64 n14)*(quoI .u64 (4611686018427387904:Int) (IntKind.wrap .u64 r4)))) (IntKind.wrap .u64 ((62:Int)-(IntKind.wrap .u64 n2))))) fun (p18:Addr)=>ld (.I .u32) p18 fun (n19:Int)=>req (0≤(IntKind.wrap .u64 ((62:Int)-(IntKind.wrap .u64 n2))))<|cnd (decide ((IntKind.wrap .u64 ((shlI .u64 (1:Int) (IntKind.wrap .u64 ((IntKind.wrap .u64 ((62:Int)-(IntKind.wrap .u64 n2)))-(20:Int))))*(IntKind.wrap .u64 n19)))<(IntKind.wrap .u64 ((IntKind.wrap .u64 ((IntKind.wrap .u64 n14)*(quoI .u64 (4611686018427387904:Int) (IntKind.wrap .u64 r4))))-(shlI .u64 (IntKind.wrap .u64 (IntKind.wrap .i16 (shrI .u64 (IntKind.wrap .u64 ((IntKind.wrap .u64 n14)*(quoI .u64 (4611686018427387904:Int) (IntKind.wrap .u64 r4)))) (IntKind.wrap .u64 ((62:Int)-(IntKind.wrap .u64 n2)))))) (IntKind.wrap .u64 ((62:Int)-(IntKind.wrap .u64 n2)))))))) (R17 (IntKind.wrap .i16 ((IntKind.wrap .i16 (shrI .u64 (IntKind.wrap .u64 ((IntKind.wrap .u64 n14)*(quoI .u64 (4611686018427387904:Int) (IntKind.wrap .u64 r4)))) (IntKind.wrap .u64 ((62:Int)-(IntKind.wrap .u64 n2)))))+(1:Int)))) (R17 (IntKind.wrap .i16 (shrI .u64 (IntKind.wrap .u64 ((IntKind.wrap .u64 n14)*(quoI .u64 (4611686018427387904:Int) (IntKind.wrap .u64 r4)))) (IntKind.wrap .u64 ((62:Int)-(IntKind.wrap .u64 n2))))))) (R17 (IntKind.wrap .i16 (shrI .u64 (IntKind.wrap .u64 ((IntKind.wrap .u64 n14)*(quoI .u64 (4611686018427387904:Int) (IntKind.wrap .u64 r4)))) (IntKind.wrap .u64 ((62:Int)-(IntKind.wrap .u64 n2))))))
def q111_J3 (x10:(Int×Int×Int×Int)) (A11:(Int×Int×Int×Int)→PT) (x24:Int×Int×Int):PT :=
 A11 (x24.1,x24.2.1,x24.2.2,(IntKind.wrap .i64 (x10.2.2.2+(1:Int))))
def q111_X4 (p0:Addr) (n2:Int) (r4:Int) (r6:Int) (s9:Sl) (x10:(Int×Int×Int×Int)) (R12:(Int×Int×Int)→PT):PT :=
 ixS 1 s9 x10.2.2.2 fun (p13:Addr)=>ld (.I .u32) p13 fun (n14:Int)=>cnd (decide (n14=(0:Int))) (ixA 1 256 (Addr.add p0 256) x10.2.2.2 fun (p15:Addr)=>st p15 (.int .i16 (0:Int))<|R12 (x10.1,x10.2.1,x10.2.2.1)) (cnd (decide (n14≤(IntKind.wrap .u32 (shrI .i64 r6 n2)))) (ixA 1 256 (Addr.add p0 256) x10.2.2.2 fun (p16:Addr)=>st p16 (.int .i16 (-1:Int))<|R12 ((IntKind.wrap .i16 (x10.1-(1:Int))),x10.2.1,x10.2.2.1)) (req (0≤(IntKind.wrap .u64 ((62:Int)-(IntKind.wrap .u64 n2))))<|joinP (q111_X2 n2 r4 n14) (q111_J1 p0 x10 R12)))
def q111_L5 (p0:Addr) (n2:Int) (r4:Int) (r6:Int) (R7:Int×Int→PT) (s9:Sl) (x10:Int×Int×Int×Int) (A11:(Int×Int×Int×Int)→PT):PT :=
 cnd (decide (x10.2.2.2<(s9.l:Int))) (joinP (q111_X4 p0 n2 r4 r6 s9 x10) (q111_J3 x10 A11)) (R7 (x10.1,x10.2.1))
def q111_J6 (p0:Addr) (K1:(Value)→PT) (x25:Int×Int):PT :=
 ixA 1 256 (Addr.add p0 256) x25.2 fun (p26:Addr)=>ld (.I .i16) p26 fun (n27:Int)=>req (0≤(1:Int))<|cnd (decide ((shrI .i16 n27 (1:Int))≤(IntKind.wrap .i16 (0-x25.1)))) (callP Tryd.prog 136 #[(.pointer (some p0))] [.c .V] fun (r28:Value)=>K1 r28) (drw<|ixA 1 256 (Addr.add p0 256) x25.2 fun (p29:Addr)=>ld (.I .i16) p29 fun (n30:Int)=>ixA 1 256 (Addr.add p0 256) x25.2 fun (p31:Addr)=>st p31 (.int .i16 (IntKind.wrap .i16 (n30+x25.1)))<|K1 .nilIface)
def q111 (p0:Addr) (K1:(Value)→PT):PT :=
 ld (.I .u8) (Addr.add p0 529) fun (n2:Int)=>ldL [.S,(.I .i64)] (Addr.add p0 512) 0 fun (r3:(Sl×Int))=>callP Tryd.prog 93 #[(.agg ⟨[(.slice r3.1.a r3.1.l r3.1.c),(.int .i64 r3.2)]⟩)] [.c (.I .i64)] fun (r4:Int)=>req ((IntKind.wrap .u64 r4)≠0)<|req (0≤(IntKind.wrap .u64 ((IntKind.wrap .u64 ((62:Int)-(IntKind.wrap .u64 n2)))-(20:Int))))<|req (0≤n2)<|ldL [.S,(.I .i64)] (Addr.add p0 512) 0 fun (r5:(Sl×Int))=>callP Tryd.prog 93 #[(.agg ⟨[(.slice r5.1.a r5.1.l r5.1.c),(.int .i64 r5.2)]⟩)] [.c (.I .i64)] fun (r6:Int)=>req (0≤n2)<|joinP (fun R7=>drw<|ld (.I .u16) (Addr.add p0 528) fun (n8:Int)=>slcA 1 256 p0 none (some n8) none fun (s9:Sl)=>loopP ((shlI .i16 (1:Int) n2),(0:Int),(0:Int),(0:Int)) (q111_L5 p0 n2 r4 r6 R7 s9)) (q111_J6 p0 K1)
def h111:Hint:=⟨(.n (.n (.n .e 1023 ([(7,.c (.I .i16)),(8,.c (.I .i64))],[0]) .e) 8186 ([(7,.c (.I .i16)),(8,.c (.I .i64)),(9,.c (.I .i16)),(52,.c (.I .i64))],[0,10,4,5,6,50,51]) .e) 65491 ([(7,.c (.I .i16)),(8,.c (.I .i64)),(9,.c (.I .i16))],[52,0,10,4,5,6,50,51]) (.n (.n .e 8382879 ([(13,.c (.I .i16))],[8,9,11,7,52,0,10,4,5,6,50,51]) .e) 16765759 ([(8,.c (.I .i64)),(9,.c (.I .i16))],[11,7,13,52,0,10,4,5,6,50,51]) .e)),.e⟩
theorem q111_eq (p0:Addr) (K1:(Value)→PT):fnE Cx h111 [.c .V] Tryd.f111 [.pt p0] K1=q111 p0 K1:=by kernel_rfl
theorem q111_fnok:fnOk Tryd.f111 1=true:=by kernel_rfl
theorem q111_ok (p0:Addr) (K1:(Value)→PT) {w:World} (h:q111 p0 K1 w):Calls Tryd.prog 111 #[(.pointer (some p0))] w fun e w'=>∃r,e = .returned (resMk [.c .V] r)∧K1 r w' :=
 of_eq Tryd.func111 q111_fnok (by kernel_rfl) (by kernel_rfl) (q111_eq p0 K1) h
def q112_L0 (p0:Addr) (R16:Int→PT) (x17:Int) (A18:Int→PT):PT :=
 ixA 1 256 (Addr.add p0 256) x17 fun (p19:Addr)=>ld (.I .i16) p19 fun (n20:Int)=>cnd (decide (n20=(0:Int))) (A18 (IntKind.wrap .u16 (x17+(1:Int)))) (R16 x17)
def q112_L1 (s11:Sl) (x13:(Bool×Int×Int×Int×Int×Int×Int×Int)) (x21:(Int)) (R22:Int×Int×Int→PT) (x23:Int×Int×Int) (A24:(Int×Int×Int)→PT):PT :=
 cnd (decide ((IntKind.wrap .u16 (x23.2.2+(24:Int)))≤x21)) (req (0≤x13.2.2.2.1)<|ixS 1 s11 x23.2.1 fun (p25:Addr)=>st p25 (.int .u8 (IntKind.wrap .u8 (IntKind.wrap .u32 (x23.1+(shlI .u32 (65535:Int) x13.2.2.2.1)))))<|req (0≤(8:Int))<|ixS 1 s11 (IntKind.wrap .u64 (x23.2.1+(1:Int))) fun (p26:Addr)=>st p26 (.int .u8 (IntKind.wrap .u8 (shrI .u32 (IntKind.wrap .u32 (x23.1+(shlI .u32 (65535:Int) x13.2.2.2.1))) (8:Int))))<|req (0≤(16:Int))<|A24 ((shrI .u32 (IntKind.wrap .u32 (x23.1+(shlI .u32 (65535:Int) x13.2.2.2.1))) (16:Int)),(IntKind.wrap .u64 (x23.2.1+(2:Int))),(IntKind.wrap .u16 (x23.2.2+(24:Int))))) (R22 (x23.1,x23.2.1,x23.2.2))
def q112_L2 (x21:(Int)) (R28:Int×Int×Int→PT) (x29:Int×Int×Int) (A30:(Int×Int×Int)→PT):PT :=
 cnd (decide ((IntKind.wrap .u16 (x29.2.2+(3:Int)))≤x21)) (req (0≤x29.2.1)<|A30 ((IntKind.wrap .u32 (x29.1+(shlI .u32 (3:Int) x29.2.1))),(IntKind.wrap .u64 (x29.2.1+(2:Int))),(IntKind.wrap .u16 (x29.2.2+(3:Int))))) (R28 (x29.1,x29.2.1,x29.2.2))
def q112_J3 (s11:Sl) (R15:Int×Int×Int×Int→PT) (x21:(Int)) (x27:(Int×Int×Int)) (x31:Int×Int×Int):PT :=
 req (0≤x31.2.1)<|cnd (decide ((16:Int)<(IntKind.wrap .u64 (x31.2.1+(2:Int))))) (ixS 1 s11 x27.2.1 fun (p32:Addr)=>st p32 (.int .u8 (IntKind.wrap .u8 (IntKind.wrap .u32 (x31.1+(shlI .u32 (IntKind.wrap .u32 (IntKind.wrap .u16 (x21-x31.2.2))) x31.2.1)))))<|req (0≤(8:Int))<|ixS 1 s11 (IntKind.wrap .u64 (x27.2.1+(1:Int))) fun (p33:Addr)=>st p33 (.int .u8 (IntKind.wrap .u8 (shrI .u32 (IntKind.wrap .u32 (x31.1+(shlI .u32 (IntKind.wrap .u32 (IntKind.wrap .u16 (x21-x31.2.2))) x31.2.1))) (8:Int))))<|req (0≤(16:Int))<|R15 (x21,(shrI .u32 (IntKind.wrap .u32 (x31.1+(shlI .u32 (IntKind.wrap .u32 (IntKind.wrap .u16 (x21-x31.2.2))) x31.2.1))) (16:Int)),(IntKind.wrap .u64 ((IntKind.wrap .u64 (x31.2.1+(2:Int)))-(16:Int))),(IntKind.wrap .u64 (x27.2.1+(2:Int))))) (R15 (x21,(IntKind.wrap .u32 (x31.1+(shlI .u32 (IntKind.wrap .u32 (IntKind.wrap .u16 (x21-x31.2.2))) x31.2.1))),(IntKind.wrap .u64 (x31.2.1+(2:Int))),x27.2.1))
def q112_J4 (s11:Sl) (x13:(Bool×Int×Int×Int×Int×Int×Int×Int)) (R15:Int×Int×Int×Int→PT) (x21:(Int)) (x27:Int×Int×Int):PT :=
 joinP (fun R28=>loopP (x27.1,x13.2.2.2.1,x27.2.2) (q112_L2 x21 R28)) (q112_J3 s11 R15 x21 x27)
def q112_J5 (s11:Sl) (x13:(Bool×Int×Int×Int×Int×Int×Int×Int)) (R15:Int×Int×Int×Int→PT) (x21:Int):PT :=
 joinP (fun R22=>loopP (x13.2.2.1,x13.2.2.2.2.2.2.2,x13.2.1) (q112_L1 s11 x13 x21 R22)) (q112_J4 s11 x13 R15 x21)
def q112_L6 (x38:(Int)) (R44:Int×Int→PT) (x45:Int×Int) (A46:(Int×Int)→PT):PT :=
 cnd (decide (x38<x45.1)) (req (0≤(1:Int))<|A46 ((shrI .i16 x45.1 (1:Int)),(IntKind.wrap .u64 (x45.2-(1:Int))))) (R44 (x45.1,x45.2))
def q112_J7 (s11:Sl) (A14:(Bool×Int×Int×Int×Int×Int×Int×Int)→PT) (x34:(Int×Int×Int×Int)) (x38:(Int)) (x40:(Int)) (x42:(Int)) (x47:Int×Int):PT :=
 cnd (decide ((16:Int)<x42)) (ixS 1 s11 x34.2.2.2 fun (p48:Addr)=>st p48 (.int .u8 (IntKind.wrap .u8 (IntKind.wrap .u32 (x34.2.1+(shlI .u32 (IntKind.wrap .u32 x40) x34.2.2.1)))))<|req (0≤(8:Int))<|ixS 1 s11 (IntKind.wrap .u64 (x34.2.2.2+(1:Int))) fun (p49:Addr)=>st p49 (.int .u8 (IntKind.wrap .u8 (shrI .u32 (IntKind.wrap .u32 (x34.2.1+(shlI .u32 (IntKind.wrap .u32 x40) x34.2.2.1))) (8:Int))))<|req (0≤(16:Int))<|A14 ((decide (x40=(1:Int))),(IntKind.wrap .u16 (x34.1+(1:Int))),(shrI .u32 (IntKind.wrap .u32 (x34.2.1+(shlI .u32 (IntKind.wrap .u32 x40) x34.2.2.1))) (16:Int)),(IntKind.wrap .u64 (x42-(16:Int))),x38,x47.1,x47.2,(IntKind.wrap .u64 (x34.2.2.2+(2:Int))))) (A14 ((decide (x40=(1:Int))),(IntKind.wrap .u16 (x34.1+(1:Int))),(IntKind.wrap .u32 (x34.2.1+(shlI .u32 (IntKind.wrap .u32 x40) x34.2.2.1))),x42,x38,x47.1,x47.2,x34.2.2.2))
def q112_J8 (K1:(Value)→PT) (s11:Sl) (x13:(Bool×Int×Int×Int×Int×Int×Int×Int)) (A14:(Bool×Int×Int×Int×Int×Int×Int×Int)→PT) (x34:(Int×Int×Int×Int)) (x38:(Int)) (x40:(Int)) (x42:Int):PT :=
 cnd (decide (x38<(1:Int))) (callP Tryd.prog 62 #[(.string ⟨#[105,110,116,101,114,110,97,108,32,101,114,114,111,114,58,32,114,101,109,97,105,110,105,110,103,60,49]⟩)] [.c .V] fun (r43:Value)=>K1 r43) (joinP (fun R44=>loopP (x13.2.2.2.2.2.1,x13.2.2.2.2.2.2.1) (q112_L6 x38 R44)) (q112_J7 s11 A14 x34 x38 x40 x42))
def q112_J9 (K1:(Value)→PT) (s11:Sl) (x13:(Bool×Int×Int×Int×Int×Int×Int×Int)) (A14:(Bool×Int×Int×Int×Int×Int×Int×Int)→PT) (x34:(Int×Int×Int×Int)) (x38:(Int)) (x40:Int):PT :=
 req (0≤x34.2.2.1)<|joinP (fun R41=>cnd (decide (x40<(IntKind.wrap .i16 ((IntKind.wrap .i16 ((IntKind.wrap .i16 ((2:Int)*x13.2.2.2.2.2.1))-(1:Int)))-x13.2.2.2.2.1)))) (R41 (IntKind.wrap .u64 ((IntKind.wrap .u64 (x34.2.2.1+x13.2.2.2.2.2.2.1))-(1:Int)))) (R41 (IntKind.wrap .u64 (x34.2.2.1+x13.2.2.2.2.2.2.1)))) (q112_J8 K1 s11 x13 A14 x34 x38 x40)
def q112_J10 (K1:(Value)→PT) (s11:Sl) (x13:(Bool×Int×Int×Int×Int×Int×Int×Int)) (A14:(Bool×Int×Int×Int×Int×Int×Int×Int)→PT) (x34:(Int×Int×Int×Int)) (n36:Int) (x38:Int):PT :=
 joinP (fun R39=>cnd (decide (x13.2.2.2.2.2.1≤(IntKind.wrap .i16 (n36+(1:Int))))) (R39 (IntKind.wrap .i16 ((IntKind.wrap .i16 (n36+(1:Int)))+(IntKind.wrap .i16 ((IntKind.wrap .i16 ((IntKind.wrap .i16 ((2:Int)*x13.2.2.2.2.2.1))-(1:Int)))-x13.2.2.2.2.1))))) (R39 (IntKind.wrap .i16 (n36+(1:Int))))) (q112_J9 K1 s11 x13 A14 x34 x38)
def q112_J11 (p0:Addr) (K1:(Value)→PT) (s11:Sl) (x13:(Bool×Int×Int×Int×Int×Int×Int×Int)) (A14:(Bool×Int×Int×Int×Int×Int×Int×Int)→PT) (x34:Int×Int×Int×Int):PT :=
 ixA 1 256 (Addr.add p0 256) x34.1 fun (p35:Addr)=>ld (.I .i16) p35 fun (n36:Int)=>joinP (fun R37=>cnd (decide (n36<(0:Int))) (R37 (IntKind.wrap .i16 (x13.2.2.2.2.1+n36))) (R37 (IntKind.wrap .i16 (x13.2.2.2.2.1-n36)))) (q112_J10 K1 s11 x13 A14 x34 n36)
def q112_L12 (p0:Addr) (K1:(Value)→PT) (s11:Sl) (R12:Int×Int×Int×Int→PT) (x13:Bool×Int×Int×Int×Int×Int×Int×Int) (A14:(Bool×Int×Int×Int×Int×Int×Int×Int)→PT):PT :=
 cnd (decide ((1:Int)<x13.2.2.2.2.1)) (joinP (fun R15=>cnd x13.1 (joinP (fun R16=>loopP x13.2.1 (q112_L0 p0 R16)) (q112_J5 s11 x13 R15)) (R15 (x13.2.1,x13.2.2.1,x13.2.2.2.1,x13.2.2.2.2.2.2.2))) (q112_J11 p0 K1 s11 x13 A14)) (R12 (x13.2.1,x13.2.2.1,x13.2.2.2.1,x13.2.2.2.2.2.2.2))
def q112_J13 (p0:Addr) (K1:(Value)→PT) (s11:Sl) (x50:Int×Int×Int×Int):PT :=
 ixS 1 s11 x50.2.2.2 fun (p51:Addr)=>st p51 (.int .u8 (IntKind.wrap .u8 x50.2.1))<|req (0≤(8:Int))<|ixS 1 s11 (IntKind.wrap .u64 (x50.2.2.2+(1:Int))) fun (p52:Addr)=>st p52 (.int .u8 (IntKind.wrap .u8 (shrI .u32 x50.2.1 (8:Int))))<|req ((8:Int)≠0)<|ld (.I .u16) (Addr.add p0 528) fun (n53:Int)=>cnd (decide (n53<x50.1)) (callP Tryd.prog 62 #[(.string ⟨#[105,110,116,101,114,110,97,108,32,101,114,114,111,114,58,32,99,104,97,114,110,117,109,32,62,32,115,46,115,121,109,98,111,108,76,101,110]⟩)] [.c .V] fun (r54:Value)=>K1 r54) (slc 1 s11 none (some (IntKind.wrap .u64 (x50.2.2.2+(quoI .u64 (IntKind.wrap .u64 (x50.2.2.1+(7:Int))) (8:Int))))) none fun (s55:Sl)=>st (Addr.add p0 526) (.slice s55.a s55.l s55.c)<|K1 .nilIface)
def q112_J14 (p0:Addr) (K1:(Value)→PT) (n2:Int) (n3:Int) (x9:Unit):PT :=
 ld .S (Addr.add p0 526) fun (s10:Sl)=>slc 1 s10 none (some (IntKind.wrap .i64 ((shrI .i64 (IntKind.wrap .i64 ((IntKind.wrap .i64 ((IntKind.wrap .i64 ((IntKind.wrap .i64 n3)*(IntKind.wrap .i64 n2)))+(4:Int)))+(2:Int))) (3:Int))+(3:Int)))) none fun (s11:Sl)=>joinP (fun R12=>loopP (false,(0:Int),(IntKind.wrap .u32 (IntKind.wrap .u8 (n2-(5:Int)))),(4:Int),(IntKind.wrap .i16 (IntKind.wrap .i64 ((shlI .i64 (1:Int) n2)+(1:Int)))),(IntKind.wrap .i16 (shlI .i64 (1:Int) n2)),(IntKind.wrap .u64 (IntKind.wrap .u8 (n2+(1:Int)))),(0:Int)) (q112_L12 p0 K1 s11 R12)) (q112_J13 p0 K1 s11)
def q112_X15 (p0:Addr) (n2:Int) (n3:Int) (R4:Unit→PT):PT :=
 ld .S (Addr.add p0 526) fun (s5:Sl)=>cnd (decide ((s5.c:Int)<(IntKind.wrap .i64 ((shrI .i64 (IntKind.wrap .i64 ((IntKind.wrap .i64 ((IntKind.wrap .i64 ((IntKind.wrap .i64 n3)*(IntKind.wrap .i64 n2)))+(4:Int)))+(2:Int))) (3:Int))+(3:Int))))) (ldL [.S,(.I .i64)] (Addr.add p0 512) 0 fun (r6:(Sl×Int))=>callP Tryd.prog 93 #[(.agg ⟨[(.slice r6.1.a r6.1.l r6.1.c),(.int .i64 r6.2)]⟩)] [.c (.I .i64)] fun (r7:Int)=>mks z5 5 1 (0:Int) (IntKind.wrap .i64 (r7+(IntKind.wrap .i64 ((shrI .i64 (IntKind.wrap .i64 ((IntKind.wrap .i64 ((IntKind.wrap .i64 ((IntKind.wrap .i64 n3)*(IntKind.wrap .i64 n2)))+(4:Int)))+(2:Int))) (3:Int))+(3:Int))))) fun (s8:Sl)=>st (Addr.add p0 526) (.slice s8.a s8.l s8.c)<|R4 ()) (R4 ())
def q112 (p0:Addr) (K1:(Value)→PT):PT :=
 ld (.I .u8) (Addr.add p0 529) fun (n2:Int)=>req (0≤n2)<|ld (.I .u16) (Addr.add p0 528) fun (n3:Int)=>req (0≤(3:Int))<|joinP (q112_X15 p0 n2 n3) (q112_J14 p0 K1 n2 n3)
def h112:Hint:=⟨(.n (.n (.n (.n .e 4095 ([],[7,11,12,10,0,8,9,6,5]) .e) 32767 ([(6,.c (.I .u16)),(8,.c (.I .u32)),(9,.c (.I .u64)),(13,.c (.I .u64))],[14,0]) (.n .e 131068 ([(5,.c .B),(6,.c (.I .u16)),(8,.c (.I .u32)),(9,.c (.I .u64)),(10,.c (.I .i16)),(11,.c (.I .i16)),(12,.c (.I .u64)),(13,.c (.I .u64))],[0,14]) .e)) 1048546 ([(6,.c (.I .u16)),(8,.c (.I .u32)),(9,.c (.I .u64)),(13,.c (.I .u64))],[10,14,0,12,11]) (.n (.n .e 16776741 ([(6,.c (.I .u16))],[13,14,9,8,15,10,0,12,11]) .e) 16776751 ([(10,.c (.I .i16))],[16,8,9,17,6,14,0,13,12,11]) (.n .e 33553483 ([(8,.c (.I .u32)),(13,.c (.I .u64)),(15,.c (.I .u16))],[9,6,10,14,0,12,11]) .e))) 67106964 ([(6,.c (.I .u16))],[13,14,9,8,15,10,0,12,11]) (.n (.n (.n .e 67106967 ([(8,.c (.I .u32)),(9,.c (.I .u64)),(15,.c (.I .u16))],[13,6,10,14,0,12,11]) .e) 67107007 ([(16,.c (.I .i16))],[8,9,17,6,14,0,10,13,12,11]) (.n .e 134213932 ([(8,.c (.I .u32)),(13,.c (.I .u64)),(15,.c (.I .u16))],[14,9,6,10,0,12,11]) .e)) 268427868 ([(8,.c (.I .u32)),(9,.c (.I .u64)),(15,.c (.I .u16))],[13,6,10,14,0,12,11]) (.n (.n .e 536856063 ([(9,.c (.I .u64))],[16,6,14,0,10,8,13,12,11]) .e) 4294848511 ([(11,.c (.I .i16)),(12,.c (.I .u64))],[13,8,9,10,0,14,6,5]) (.n .e 17179394044 ([(11,.c (.I .i16)),(12,.c (.I .u64))],[13,8,9,10,0,14,6,5]) .e)))),.e⟩
theorem q112_eq (p0:Addr) (K1:(Value)→PT):fnE Cx h112 [.c .V] Tryd.f112 [.pt p0] K1=q112 p0 K1:=by kernel_rfl
theorem q112_fnok:fnOk Tryd.f112 1=true:=by kernel_rfl
theorem q112_ok (p0:Addr) (K1:(Value)→PT) {w:World} (h:q112 p0 K1 w):Calls Tryd.prog 112 #[(.pointer (some p0))] w fun e w'=>∃r,e = .returned (resMk [.c .V] r)∧K1 r w' :=
 of_eq Tryd.func112 q112_fnok (by kernel_rfl) (by kernel_rfl) (q112_eq p0 K1) h
def q113_J0 (x12:(Int×Int)) (A13:(Int×Int)→PT) (x24:Int):PT :=
 A13 (x24,(IntKind.wrap .i64 (x12.2+(1:Int))))
def q113_X1 (p3:Addr) (s6:Sl) (s11:Sl) (x12:(Int×Int)) (R14:Int→PT):PT :=
 ixS 1 s11 x12.2 fun (p15:Addr)=>ld (.I .i16) p15 fun (n16:Int)=>cnd (decide (n16=(-1:Int))) (ixA 1 257 p3 (IntKind.wrap .u8 x12.2) fun (p17:Addr)=>ld (.I .i16) p17 fun (n18:Int)=>ixA 1 257 p3 (IntKind.wrap .u8 ((IntKind.wrap .u8 x12.2)+(1:Int))) fun (p19:Addr)=>st p19 (.int .i16 (IntKind.wrap .i16 (n18+(1:Int))))<|ixS 1 s6 x12.1 fun (p20:Addr)=>st p20 (.int .u8 (IntKind.wrap .u8 x12.2))<|R14 (IntKind.wrap .u32 (x12.1-(1:Int)))) (ixA 1 257 p3 (IntKind.wrap .u8 x12.2) fun (p21:Addr)=>ld (.I .i16) p21 fun (n22:Int)=>ixA 1 257 p3 (IntKind.wrap .u8 ((IntKind.wrap .u8 x12.2)+(1:Int))) fun (p23:Addr)=>st p23 (.int .i16 (IntKind.wrap .i16 (n22+n16)))<|R14 x12.1)
def q113_L2 (p3:Addr) (s6:Sl) (R9:Int→PT) (s11:Sl) (x12:Int×Int) (A13:(Int×Int)→PT):PT :=
 cnd (decide (x12.2<(s11.l:Int))) (joinP (q113_X1 p3 s6 s11 x12) (q113_J0 x12 A13)) (R9 x12.1)
def q113_J3 (p0:Addr) (K1:(Value)→PT) (n2:Int) (p3:Addr) (R7:Int→PT) (x38:Int):PT :=
 ld (.I .u16) (Addr.add p0 528) fun (n39:Int)=>ixA 1 257 p3 n39 fun (p40:Addr)=>ld (.I .i16) p40 fun (n41:Int)=>cnd (!decide ((IntKind.wrap .u32 n41)=(shlI .u32 (1:Int) n2))) (callP Tryd.prog 62 #[(.string ⟨#[105,110,116,101,114,110,97,108,32,101,114,114,111,114,58,32,101,120,112,101,99,116,101,100,32,99,117,109,117,108,91,115,46,115,121,109,98,111,108,76,101,110,93,32,61,61,32,116,97,98,108,101,83,105,122,101]⟩)] [.c .V] fun (r42:Value)=>K1 r42) (ld (.I .u16) (Addr.add p0 528) fun (n43:Int)=>ixA 1 257 p3 n43 fun (p44:Addr)=>st p44 (.int .i16 (IntKind.wrap .i16 ((IntKind.wrap .i16 (shlI .u32 (1:Int) n2))+(1:Int))))<|R7 x38)
def q113_X4 (p3:Addr) (s6:Sl) (x25:(Int)) (n26:Int) (n29:Int) (R30:Int→PT):PT :=
 cnd (decide (n29=(-1:Int))) (ixA 1 257 p3 (IntKind.wrap .i64 (IntKind.wrap .u16 (n26-(1:Int)))) fun (p31:Addr)=>ld (.I .i16) p31 fun (n32:Int)=>ixA 1 257 p3 (IntKind.wrap .i64 ((IntKind.wrap .i64 (IntKind.wrap .u16 (n26-(1:Int))))+(1:Int))) fun (p33:Addr)=>st p33 (.int .i16 (IntKind.wrap .i16 (n32+(1:Int))))<|ixS 1 s6 x25 fun (p34:Addr)=>st p34 (.int .u8 (IntKind.wrap .u8 (IntKind.wrap .i64 (IntKind.wrap .u16 (n26-(1:Int))))))<|R30 (IntKind.wrap .u32 (x25-(1:Int)))) (ixA 1 257 p3 (IntKind.wrap .i64 (IntKind.wrap .u16 (n26-(1:Int)))) fun (p35:Addr)=>ld (.I .i16) p35 fun (n36:Int)=>ixA 1 257 p3 (IntKind.wrap .i64 ((IntKind.wrap .i64 (IntKind.wrap .u16 (n26-(1:Int))))+(1:Int))) fun (p37:Addr)=>st p37 (.int .i16 (IntKind.wrap .i16 (n36+n29)))<|R30 x25)
def q113_J5 (p0:Addr) (K1:(Value)→PT) (n2:Int) (p3:Addr) (s6:Sl) (R7:Int→PT) (x25:Int):PT :=
 ld (.I .u16) (Addr.add p0 528) fun (n26:Int)=>drw<|ld (.I .u16) (Addr.add p0 528) fun (n27:Int)=>ixA 1 256 (Addr.add p0 256) (IntKind.wrap .u16 (n27-(1:Int))) fun (p28:Addr)=>ld (.I .i16) p28 fun (n29:Int)=>joinP (q113_X4 p3 s6 x25 n26 n29) (q113_J3 p0 K1 n2 p3 R7)
def q113_L6 (n2:Int) (x45:(Int)) (r47:Int) (R61:Int→PT) (x63:Int) (A64:Int→PT):PT :=
 cnd (decide (x45<x63)) (A64 (andI .u32 (IntKind.wrap .u32 (x63+r47)) (IntKind.wrap .u32 ((shlI .u32 (1:Int) n2)-(1:Int))))) (R61 x63)
def q113_J7 (x59:(Int×Int)) (A60:(Int×Int)→PT) (x65:Int):PT :=
 A60 (x65,(IntKind.wrap .i16 (x59.2+(1:Int))))
def q113_L8 (n2:Int) (s6:Sl) (x45:(Int)) (r47:Int) (x52:(Int×Int)) (R54:Int→PT) (n56:Int) (x59:Int×Int) (A60:(Int×Int)→PT):PT :=
 cnd (decide (x59.2<n56)) (joinP (fun R61=>ixS 1 s6 x59.1 fun (p62:Addr)=>st p62 (.int .u8 (IntKind.wrap .u8 x52.2))<|loopP (andI .u32 (IntKind.wrap .u32 (x59.1+r47)) (IntKind.wrap .u32 ((shlI .u32 (1:Int) n2)-(1:Int)))) (q113_L6 n2 x45 r47 R61)) (q113_J7 x59 A60)) (R54 x59.1)
def q113_J9 (n2:Int) (s6:Sl) (x45:(Int)) (r47:Int) (x52:(Int×Int)) (R54:Int→PT) (n56:Int) (x58:Unit):PT :=
 loopP (x52.1,(0:Int)) (q113_L8 n2 s6 x45 r47 x52 R54 n56)
def q113_J10 (x52:(Int×Int)) (A53:(Int×Int)→PT) (x66:Int):PT :=
 A53 (x66,(IntKind.wrap .i64 (x52.2+(1:Int))))
def q113_L11 (p0:Addr) (n2:Int) (s6:Sl) (x45:(Int)) (r47:Int) (n48:Int) (R49:Int→PT) (s51:Sl) (x52:Int×Int) (A53:(Int×Int)→PT):PT :=
 cnd (decide (x52.2<(s51.l:Int))) (joinP (fun R54=>ixS 1 s51 x52.2 fun (p55:Addr)=>ld (.I .i16) p55 fun (n56:Int)=>joinP (fun R57=>cnd (decide ((shlI .i16 (1:Int) (IntKind.wrap .u8 (n48-(1:Int))))<n56)) (st (Addr.add p0 530) (.bool true)<|R57 ()) (R57 ())) (q113_J9 n2 s6 x45 r47 x52 R54 n56)) (q113_J10 x52 A53)) (R49 x52.1)
def q113_J12 (K1:(Value)→PT) (R46:Unit→PT) (x67:Int):PT :=
 cnd (!decide (x67=(0:Int))) (callP Tryd.prog 62 #[(.string ⟨#[112,111,115,105,116,105,111,110,33,61,48]⟩)] [.c .V] fun (r68:Value)=>K1 r68) (R46 ())
def q113_L13 (n2:Int) (p3:Addr) (s6:Sl) (s70:Sl) (R71:Unit→PT) (x72:Int) (A73:Int→PT):PT :=
 cnd (decide (x72<(s6.l:Int))) (ixS 1 s6 x72 fun (p74:Addr)=>ld (.I .u8) p74 fun (n75:Int)=>ixA 1 257 p3 n75 fun (p76:Addr)=>ld (.I .i16) p76 fun (n77:Int)=>ixS 1 s70 n77 fun (p78:Addr)=>st p78 (.int .u16 (IntKind.wrap .u16 (IntKind.wrap .i64 ((IntKind.wrap .i64 (shlI .u32 (1:Int) n2))+x72))))<|ixA 1 257 p3 n75 fun (p79:Addr)=>ld (.I .i16) p79 fun (n80:Int)=>ixA 1 257 p3 n75 fun (p81:Addr)=>st p81 (.int .i16 (IntKind.wrap .i16 (n80+(1:Int))))<|A73 (IntKind.wrap .i64 (x72+(1:Int)))) (R71 ())
def q113_J14 (s86:Sl) (n87:Int) (x91:(Int×Int)) (R93:Int→PT) (n95:Int) (x97:Bool):PT :=
 cnd x97 (ixS 2 s86 x91.2 fun (p98:Addr)=>st (Addr.add p98 1) (.int .u32 (IntKind.wrap .u32 ((shlI .u32 (IntKind.wrap .u32 n87) (16:Int))-(shlI .u32 (1:Int) n87))))<|ixS 2 s86 x91.2 fun (p99:Addr)=>st p99 (.int .i32 (IntKind.wrap .i32 (IntKind.wrap .i16 (x91.1-(1:Int)))))<|R93 (IntKind.wrap .i16 (x91.1+(1:Int)))) (callP Tryd.prog 98 #[(.int .u32 (IntKind.wrap .u32 (IntKind.wrap .i16 (n95-(1:Int)))))] [.c (.I .u32)] fun (r100:Int)=>req (0≤(IntKind.wrap .u32 ((IntKind.wrap .u32 n87)-r100)))<|req (0≤(16:Int))<|ixS 2 s86 x91.2 fun (p101:Addr)=>st (Addr.add p101 1) (.int .u32 (IntKind.wrap .u32 ((shlI .u32 (IntKind.wrap .u32 ((IntKind.wrap .u32 n87)-r100)) (16:Int))-(shlI .u32 (IntKind.wrap .u32 n95) (IntKind.wrap .u32 ((IntKind.wrap .u32 n87)-r100))))))<|ixS 2 s86 x91.2 fun (p102:Addr)=>st p102 (.int .i32 (IntKind.wrap .i32 (IntKind.wrap .i16 (x91.1-n95))))<|R93 (IntKind.wrap .i16 (x91.1+n95)))
def q113_J15 (x91:(Int×Int)) (A92:(Int×Int)→PT) (x103:Int):PT :=
 A92 (x103,(IntKind.wrap .i64 (x91.2+(1:Int))))
def q113_L16 (s86:Sl) (n87:Int) (R88:Int→PT) (s90:Sl) (x91:Int×Int) (A92:(Int×Int)→PT):PT :=
 cnd (decide (x91.2<(s90.l:Int))) (joinP (fun R93=>ixS 1 s90 x91.2 fun (p94:Addr)=>ld (.I .i16) p94 fun (n95:Int)=>cnd (decide (n95=(0:Int))) (R93 x91.1) (joinP (fun R96=>cnd (decide (n95=(-1:Int))) (R96 (decide (n95=(-1:Int)))) (R96 (decide (n95=(1:Int))))) (q113_J14 s86 n87 x91 R93 n95))) (q113_J15 x91 A92)) (R88 x91.1)
def q113_J17 (K1:(Value)→PT) (n2:Int) (R83:Unit→PT) (x104:Int):PT :=
 cnd (!decide (x104=(IntKind.wrap .i16 (shlI .u32 (1:Int) n2)))) (callP Tryd.prog 62 #[(.string ⟨#[116,111,116,97,108,32,109,105,115,109,97,116,99,104,32,40,103,111,116,41,32,33,61,32,40,119,97,110,116,41]⟩)] [.c .V] fun (r105:Value)=>K1 r105) (R83 ())
def q113_J18 (K1:(Value)→PT) (x106:Unit):PT :=
 K1 .nilIface
def q113_X19 (p0:Addr) (K1:(Value)→PT) (n2:Int) (R83:Unit→PT):PT :=
 drw<|ld .S (Addr.add (Addr.add p0 521) 2) fun (s84:Sl)=>ld (.I .u16) (Addr.add p0 528) fun (n85:Int)=>slc 2 s84 none (some n85) none fun (s86:Sl)=>ld (.I .u8) (Addr.add p0 529) fun (n87:Int)=>req (0≤(16:Int))<|req (0≤n87)<|joinP (fun R88=>drw<|ld (.I .u16) (Addr.add p0 528) fun (n89:Int)=>slcA 1 256 (Addr.add p0 256) none (some n89) none fun (s90:Sl)=>loopP ((0:Int),(0:Int)) (q113_L16 s86 n87 R88 s90)) (q113_J17 K1 n2 R83)
def q113_J20 (p0:Addr) (K1:(Value)→PT) (n2:Int) (x82:Unit):PT :=
 joinP (q113_X19 p0 K1 n2) (q113_J18 K1)
def q113_J21 (p0:Addr) (K1:(Value)→PT) (n2:Int) (p3:Addr) (s6:Sl) (x69:Unit):PT :=
 ld .S (Addr.add (Addr.add p0 521) 1) fun (s70:Sl)=>joinP (fun R71=>loopP (0:Int) (q113_L13 n2 p3 s6 s70 R71)) (q113_J20 p0 K1 n2)
def q113_X22 (p0:Addr) (K1:(Value)→PT) (n2:Int) (s6:Sl) (x45:(Int)) (R46:Unit→PT):PT :=
 callP Tryd.prog 97 #[(.int .u32 (shlI .u32 (1:Int) n2))] [.c (.I .u32)] fun (r47:Int)=>ld (.I .u8) (Addr.add p0 529) fun (n48:Int)=>req (0≤(IntKind.wrap .u8 (n48-(1:Int))))<|joinP (fun R49=>drw<|ld (.I .u16) (Addr.add p0 528) fun (n50:Int)=>slcA 1 256 (Addr.add p0 256) none (some n50) none fun (s51:Sl)=>loopP ((0:Int),(0:Int)) (q113_L11 p0 n2 s6 x45 r47 n48 R49 s51)) (q113_J12 K1 R46)
def q113_J23 (p0:Addr) (K1:(Value)→PT) (n2:Int) (p3:Addr) (s6:Sl) (x45:Int):PT :=
 st (Addr.add p0 530) (.bool false)<|joinP (q113_X22 p0 K1 n2 s6 x45) (q113_J21 p0 K1 n2 p3 s6)
def q113_X24 (p0:Addr) (K1:(Value)→PT) (n2:Int) (p3:Addr) (s6:Sl) (R7:Int→PT):PT :=
 ixA 1 257 p3 (0:Int) fun (p8:Addr)=>st p8 (.int .i16 (0:Int))<|joinP (fun R9=>drw<|ld (.I .u16) (Addr.add p0 528) fun (n10:Int)=>slcA 1 256 (Addr.add p0 256) none (some (IntKind.wrap .u16 (n10-(1:Int)))) none fun (s11:Sl)=>loopP ((IntKind.wrap .u32 ((shlI .u32 (1:Int) n2)-(1:Int))),(0:Int)) (q113_L2 p3 s6 R9 s11)) (q113_J5 p0 K1 n2 p3 s6 R7)
def q113 (p0:Addr) (K1:(Value)→PT):PT :=
 ld (.I .u8) (Addr.add p0 529) fun (n2:Int)=>req (0≤n2)<|nw z208 208 fun (p3:Addr)=>callP Tryd.prog 137 #[(.pointer (some p0))] [] fun (r4:Unit)=>ld .S (Addr.add p0 521) fun (s5:Sl)=>slc 1 s5 none (some (shlI .u32 (1:Int) n2)) none fun (s6:Sl)=>joinP (q113_X24 p0 K1 n2 p3 s6) (q113_J23 p0 K1 n2 p3 s6)
def h113:Hint:=⟨(.n (.n (.n (.n (.n .e 127 ([(4,.c (.I .u32))],[6,0,3,5]) .e) 509 ([(4,.c (.I .u32))],[5,3,0,6]) .e) 511 ([],[6,5,0,3]) (.n (.n .e 2047 ([],[0,3]) .e) 4074 ([(4,.c (.I .u32)),(58,.c (.I .i64))],[6,5,56,3,0,57]) .e)) 4079 ([(4,.c (.I .u32))],[5,3,0,6]) (.n (.n (.n .e 4095 ([],[]) .e) 16367 ([(14,.c (.I .u32))],[3,0,5,6]) .e) 32595 ([(4,.c (.I .u32))],[58,6,5,56,3,0,57]) (.n .e 32758 ([(216,.c (.I .i64))],[5,20,19,214,0,3,215]) .e))) 130938 ([(14,.c (.I .u32)),(169,.c (.I .i64))],[6,13,12,4,0,15,167,3,5,168]) (.n (.n (.n (.n .e 131055 ([(23,.c (.I .i16))],[3]) .e) 1047507 ([(14,.c (.I .u32))],[169,6,13,12,4,0,15,167,3,5,168]) .e) 1048442 ([(23,.c (.I .i16)),(265,.c (.I .i64))],[25,26,24,263,3,264]) (.n .e 8387539 ([(23,.c (.I .i16))],[265,25,26,24,263,3,264]) .e)) 16760115 ([],[17,4,12,13,14,18,6,169,0,15,167,3,5,168]) (.n (.n (.n .e 134080926 ([(14,.c (.I .u32)),(183,.c (.I .i16))],[4,12,13,18,6,169,0,15,167,3,5,168,182]) .e) 1072647411 ([(14,.c (.I .u32))],[183,4,12,13,18,6,169,0,15,167,3,5,168,182]) .e) 1073605019 ([(303,.c .B)],[28,27,23,265,25,26,24,263,3,264]) (.n .e 34324717158 ([(14,.c (.I .u32))],[13,12,183,4,18,6,169,0,15,167,3,5,168,182]) .e)))),.e⟩
theorem q113_eq (p0:Addr) (K1:(Value)→PT):fnE Cx h113 [.c .V] Tryd.f113 [.pt p0] K1=q113 p0 K1:=by kernel_rfl
theorem q113_fnok:fnOk Tryd.f113 1=true:=by kernel_rfl
theorem q113_ok (p0:Addr) (K1:(Value)→PT) {w:World} (h:q113 p0 K1 w):Calls Tryd.prog 113 #[(.pointer (some p0))] w fun e w'=>∃r,e = .returned (resMk [.c .V] r)∧K1 r w' :=
 of_eq Tryd.func113 q113_fnok (by kernel_rfl) (by kernel_rfl) (q113_eq p0 K1) h
def q114_L0 (p0:Addr) (s5:Sl) (p8:Addr) (p9:Addr) (R54:Unit→PT) (x57:Sl) (A58:Sl→PT):PT :=
 cnd (decide ((4:Int)≤(x57.l:Int))) (callP Tryd.prog 141 #[(.pointer (some (Addr.add p0 518)))] [] fun (r59:Unit)=>drw<|ixS 1 x57 (IntKind.wrap .i64 ((x57.l:Int)-(4:Int))) fun (p60:Addr)=>ld (.I .u8) p60 fun (n61:Int)=>ixS 1 x57 (IntKind.wrap .i64 ((x57.l:Int)-(3:Int))) fun (p62:Addr)=>ld (.I .u8) p62 fun (n63:Int)=>ixS 1 x57 (IntKind.wrap .i64 ((x57.l:Int)-(2:Int))) fun (p64:Addr)=>ld (.I .u8) p64 fun (n65:Int)=>ixS 1 x57 (IntKind.wrap .i64 ((x57.l:Int)-(1:Int))) fun (p66:Addr)=>ld (.I .u8) p66 fun (n67:Int)=>ixS 2 s5 n67 fun (p68:Addr)=>ldL [(.I .i32),(.I .u32)] p68 0 fun (r69:(Int×Int))=>callP Tryd.prog 142 #[(.pointer (some p9)),(.agg ⟨[(.int .i32 r69.1),(.int .u32 r69.2)]⟩)] [] fun (r70:Unit)=>ixS 2 s5 n65 fun (p71:Addr)=>ldL [(.I .i32),(.I .u32)] p71 0 fun (r72:(Int×Int))=>callP Tryd.prog 142 #[(.pointer (some p8)),(.agg ⟨[(.int .i32 r72.1),(.int .u32 r72.2)]⟩)] [] fun (r73:Unit)=>ixS 2 s5 n63 fun (p74:Addr)=>ldL [(.I .i32),(.I .u32)] p74 0 fun (r75:(Int×Int))=>callP Tryd.prog 142 #[(.pointer (some p9)),(.agg ⟨[(.int .i32 r75.1),(.int .u32 r75.2)]⟩)] [] fun (r76:Unit)=>ixS 2 s5 n61 fun (p77:Addr)=>ldL [(.I .i32),(.I .u32)] p77 0 fun (r78:(Int×Int))=>callP Tryd.prog 142 #[(.pointer (some p8)),(.agg ⟨[(.int .i32 r78.1),(.int .u32 r78.2)]⟩)] [] fun (r79:Unit)=>slc 1 x57 none (some (IntKind.wrap .i64 ((x57.l:Int)-(4:Int)))) none fun (s80:Sl)=>A58 s80) (R54 ())
def q114_L1 (p0:Addr) (s5:Sl) (p8:Addr) (p9:Addr) (R54:Unit→PT) (x82:Sl) (A83:Sl→PT):PT :=
 cnd (decide ((4:Int)≤(x82.l:Int))) (callP Tryd.prog 141 #[(.pointer (some (Addr.add p0 518)))] [] fun (r84:Unit)=>drw<|ixS 1 x82 (IntKind.wrap .i64 ((x82.l:Int)-(4:Int))) fun (p85:Addr)=>ld (.I .u8) p85 fun (n86:Int)=>ixS 1 x82 (IntKind.wrap .i64 ((x82.l:Int)-(3:Int))) fun (p87:Addr)=>ld (.I .u8) p87 fun (n88:Int)=>ixS 1 x82 (IntKind.wrap .i64 ((x82.l:Int)-(2:Int))) fun (p89:Addr)=>ld (.I .u8) p89 fun (n90:Int)=>ixS 1 x82 (IntKind.wrap .i64 ((x82.l:Int)-(1:Int))) fun (p91:Addr)=>ld (.I .u8) p91 fun (n92:Int)=>ixS 2 s5 n92 fun (p93:Addr)=>ldL [(.I .i32),(.I .u32)] p93 0 fun (r94:(Int×Int))=>callP Tryd.prog 142 #[(.pointer (some p9)),(.agg ⟨[(.int .i32 r94.1),(.int .u32 r94.2)]⟩)] [] fun (r95:Unit)=>ixS 2 s5 n90 fun (p96:Addr)=>ldL [(.I .i32),(.I .u32)] p96 0 fun (r97:(Int×Int))=>callP Tryd.prog 142 #[(.pointer (some p8)),(.agg ⟨[(.int .i32 r97.1),(.int .u32 r97.2)]⟩)] [] fun (r98:Unit)=>callP Tryd.prog 141 #[(.pointer (some (Addr.add p0 518)))] [] fun (r99:Unit)=>ixS 2 s5 n88 fun (p100:Addr)=>ldL [(.I .i32),(.I .u32)] p100 0 fun (r101:(Int×Int))=>callP Tryd.prog 142 #[(.pointer (some p9)),(.agg ⟨[(.int .i32 r101.1),(.int .u32 r101.2)]⟩)] [] fun (r102:Unit)=>ixS 2 s5 n86 fun (p103:Addr)=>ldL [(.I .i32),(.I .u32)] p103 0 fun (r104:(Int×Int))=>callP Tryd.prog 142 #[(.pointer (some p8)),(.agg ⟨[(.int .i32 r104.1),(.int .u32 r104.2)]⟩)] [] fun (r105:Unit)=>slc 1 x82 none (some (IntKind.wrap .i64 ((x82.l:Int)-(4:Int)))) none fun (s106:Sl)=>A83 s106) (R54 ())
def q114_L2 (p0:Addr) (s5:Sl) (p8:Addr) (p9:Addr) (R54:Unit→PT) (x108:Sl) (A109:Sl→PT):PT :=
 cnd (decide ((4:Int)≤(x108.l:Int))) (callP Tryd.prog 141 #[(.pointer (some (Addr.add p0 518)))] [] fun (r110:Unit)=>drw<|ixS 1 x108 (IntKind.wrap .i64 ((x108.l:Int)-(4:Int))) fun (p111:Addr)=>ld (.I .u8) p111 fun (n112:Int)=>ixS 1 x108 (IntKind.wrap .i64 ((x108.l:Int)-(3:Int))) fun (p113:Addr)=>ld (.I .u8) p113 fun (n114:Int)=>ixS 1 x108 (IntKind.wrap .i64 ((x108.l:Int)-(2:Int))) fun (p115:Addr)=>ld (.I .u8) p115 fun (n116:Int)=>ixS 1 x108 (IntKind.wrap .i64 ((x108.l:Int)-(1:Int))) fun (p117:Addr)=>ld (.I .u8) p117 fun (n118:Int)=>ixS 2 s5 n118 fun (p119:Addr)=>ldL [(.I .i32),(.I .u32)] p119 0 fun (r120:(Int×Int))=>callP Tryd.prog 140 #[(.pointer (some p9)),(.agg ⟨[(.int .i32 r120.1),(.int .u32 r120.2)]⟩)] [] fun (r121:Unit)=>ixS 2 s5 n116 fun (p122:Addr)=>ldL [(.I .i32),(.I .u32)] p122 0 fun (r123:(Int×Int))=>callP Tryd.prog 140 #[(.pointer (some p8)),(.agg ⟨[(.int .i32 r123.1),(.int .u32 r123.2)]⟩)] [] fun (r124:Unit)=>ixS 2 s5 n114 fun (p125:Addr)=>ldL [(.I .i32),(.I .u32)] p125 0 fun (r126:(Int×Int))=>callP Tryd.prog 140 #[(.pointer (some p9)),(.agg ⟨[(.int .i32 r126.1),(.int .u32 r126.2)]⟩)] [] fun (r127:Unit)=>ixS 2 s5 n112 fun (p128:Addr)=>ldL [(.I .i32),(.I .u32)] p128 0 fun (r129:(Int×Int))=>callP Tryd.prog 140 #[(.pointer (some p8)),(.agg ⟨[(.int .i32 r129.1),(.int .u32 r129.2)]⟩)] [] fun (r130:Unit)=>slc 1 x108 none (some (IntKind.wrap .i64 ((x108.l:Int)-(4:Int)))) none fun (s131:Sl)=>A109 s131) (R54 ())
def q114_L3 (p0:Addr) (s5:Sl) (p8:Addr) (p9:Addr) (R54:Unit→PT) (x132:Sl) (A133:Sl→PT):PT :=
 cnd (decide ((4:Int)≤(x132.l:Int))) (callP Tryd.prog 141 #[(.pointer (some (Addr.add p0 518)))] [] fun (r134:Unit)=>drw<|ixS 1 x132 (IntKind.wrap .i64 ((x132.l:Int)-(4:Int))) fun (p135:Addr)=>ld (.I .u8) p135 fun (n136:Int)=>ixS 1 x132 (IntKind.wrap .i64 ((x132.l:Int)-(3:Int))) fun (p137:Addr)=>ld (.I .u8) p137 fun (n138:Int)=>ixS 1 x132 (IntKind.wrap .i64 ((x132.l:Int)-(2:Int))) fun (p139:Addr)=>ld (.I .u8) p139 fun (n140:Int)=>ixS 1 x132 (IntKind.wrap .i64 ((x132.l:Int)-(1:Int))) fun (p141:Addr)=>ld (.I .u8) p141 fun (n142:Int)=>ixS 2 s5 n142 fun (p143:Addr)=>ldL [(.I .i32),(.I .u32)] p143 0 fun (r144:(Int×Int))=>callP Tryd.prog 140 #[(.pointer (some p9)),(.agg ⟨[(.int .i32 r144.1),(.int .u32 r144.2)]⟩)] [] fun (r145:Unit)=>ixS 2 s5 n140 fun (p146:Addr)=>ldL [(.I .i32),(.I .u32)] p146 0 fun (r147:(Int×Int))=>callP Tryd.prog 140 #[(.pointer (some p8)),(.agg ⟨[(.int .i32 r147.1),(.int .u32 r147.2)]⟩)] [] fun (r148:Unit)=>callP Tryd.prog 141 #[(.pointer (some (Addr.add p0 518)))] [] fun (r149:Unit)=>ixS 2 s5 n138 fun (p150:Addr)=>ldL [(.I .i32),(.I .u32)] p150 0 fun (r151:(Int×Int))=>callP Tryd.prog 140 #[(.pointer (some p9)),(.agg ⟨[(.int .i32 r151.1),(.int .u32 r151.2)]⟩)] [] fun (r152:Unit)=>ixS 2 s5 n136 fun (p153:Addr)=>ldL [(.I .i32),(.I .u32)] p153 0 fun (r154:(Int×Int))=>callP Tryd.prog 140 #[(.pointer (some p8)),(.agg ⟨[(.int .i32 r154.1),(.int .u32 r154.2)]⟩)] [] fun (r155:Unit)=>slc 1 x132 none (some (IntKind.wrap .i64 ((x132.l:Int)-(4:Int)))) none fun (s156:Sl)=>A133 s156) (R54 ())
def q114_L4 (p0:Addr) (s5:Sl) (p8:Addr) (p9:Addr) (R54:Unit→PT) (x158:Sl) (A159:Sl→PT):PT :=
 cnd (decide ((4:Int)≤(x158.l:Int))) (callP Tryd.prog 141 #[(.pointer (some (Addr.add p0 518)))] [] fun (r160:Unit)=>drw<|ixS 1 x158 (IntKind.wrap .i64 ((x158.l:Int)-(4:Int))) fun (p161:Addr)=>ld (.I .u8) p161 fun (n162:Int)=>ixS 1 x158 (IntKind.wrap .i64 ((x158.l:Int)-(3:Int))) fun (p163:Addr)=>ld (.I .u8) p163 fun (n164:Int)=>ixS 1 x158 (IntKind.wrap .i64 ((x158.l:Int)-(2:Int))) fun (p165:Addr)=>ld (.I .u8) p165 fun (n166:Int)=>ixS 1 x158 (IntKind.wrap .i64 ((x158.l:Int)-(1:Int))) fun (p167:Addr)=>ld (.I .u8) p167 fun (n168:Int)=>ixS 2 s5 n168 fun (p169:Addr)=>ldL [(.I .i32),(.I .u32)] p169 0 fun (r170:(Int×Int))=>callP Tryd.prog 142 #[(.pointer (some p9)),(.agg ⟨[(.int .i32 r170.1),(.int .u32 r170.2)]⟩)] [] fun (r171:Unit)=>ixS 2 s5 n166 fun (p172:Addr)=>ldL [(.I .i32),(.I .u32)] p172 0 fun (r173:(Int×Int))=>callP Tryd.prog 142 #[(.pointer (some p8)),(.agg ⟨[(.int .i32 r173.1),(.int .u32 r173.2)]⟩)] [] fun (r174:Unit)=>callP Tryd.prog 141 #[(.pointer (some (Addr.add p0 518)))] [] fun (r175:Unit)=>ixS 2 s5 n164 fun (p176:Addr)=>ldL [(.I .i32),(.I .u32)] p176 0 fun (r177:(Int×Int))=>callP Tryd.prog 142 #[(.pointer (some p9)),(.agg ⟨[(.int .i32 r177.1),(.int .u32 r177.2)]⟩)] [] fun (r178:Unit)=>ixS 2 s5 n162 fun (p179:Addr)=>ldL [(.I .i32),(.I .u32)] p179 0 fun (r180:(Int×Int))=>callP Tryd.prog 142 #[(.pointer (some p8)),(.agg ⟨[(.int .i32 r180.1),(.int .u32 r180.2)]⟩)] [] fun (r181:Unit)=>slc 1 x158 none (some (IntKind.wrap .i64 ((x158.l:Int)-(4:Int)))) none fun (s182:Sl)=>A159 s182) (R54 ())
def q114_L5 (p0:Addr) (s5:Sl) (p8:Addr) (p9:Addr) (R54:Unit→PT) (x184:Sl) (A185:Sl→PT):PT :=
 cnd (decide ((4:Int)≤(x184.l:Int))) (callP Tryd.prog 141 #[(.pointer (some (Addr.add p0 518)))] [] fun (r186:Unit)=>drw<|ixS 1 x184 (IntKind.wrap .i64 ((x184.l:Int)-(4:Int))) fun (p187:Addr)=>ld (.I .u8) p187 fun (n188:Int)=>ixS 1 x184 (IntKind.wrap .i64 ((x184.l:Int)-(3:Int))) fun (p189:Addr)=>ld (.I .u8) p189 fun (n190:Int)=>ixS 1 x184 (IntKind.wrap .i64 ((x184.l:Int)-(2:Int))) fun (p191:Addr)=>ld (.I .u8) p191 fun (n192:Int)=>ixS 1 x184 (IntKind.wrap .i64 ((x184.l:Int)-(1:Int))) fun (p193:Addr)=>ld (.I .u8) p193 fun (n194:Int)=>ixS 2 s5 n194 fun (p195:Addr)=>ldL [(.I .i32),(.I .u32)] p195 0 fun (r196:(Int×Int))=>callP Tryd.prog 140 #[(.pointer (some p9)),(.agg ⟨[(.int .i32 r196.1),(.int .u32 r196.2)]⟩)] [] fun (r197:Unit)=>ixS 2 s5 n192 fun (p198:Addr)=>ldL [(.I .i32),(.I .u32)] p198 0 fun (r199:(Int×Int))=>callP Tryd.prog 140 #[(.pointer (some p8)),(.agg ⟨[(.int .i32 r199.1),(.int .u32 r199.2)]⟩)] [] fun (r200:Unit)=>ixS 2 s5 n190 fun (p201:Addr)=>ldL [(.I .i32),(.I .u32)] p201 0 fun (r202:(Int×Int))=>callP Tryd.prog 140 #[(.pointer (some p9)),(.agg ⟨[(.int .i32 r202.1),(.int .u32 r202.2)]⟩)] [] fun (r203:Unit)=>ixS 2 s5 n188 fun (p204:Addr)=>ldL [(.I .i32),(.I .u32)] p204 0 fun (r205:(Int×Int))=>callP Tryd.prog 140 #[(.pointer (some p8)),(.agg ⟨[(.int .i32 r205.1),(.int .u32 r205.2)]⟩)] [] fun (r206:Unit)=>slc 1 x184 none (some (IntKind.wrap .i64 ((x184.l:Int)-(4:Int)))) none fun (s207:Sl)=>A185 s207) (R54 ())
def q114_L6 (p0:Addr) (s5:Sl) (p8:Addr) (p9:Addr) (R54:Unit→PT) (x208:Sl) (A209:Sl→PT):PT :=
 cnd (decide ((4:Int)≤(x208.l:Int))) (callP Tryd.prog 141 #[(.pointer (some (Addr.add p0 518)))] [] fun (r210:Unit)=>drw<|ixS 1 x208 (IntKind.wrap .i64 ((x208.l:Int)-(4:Int))) fun (p211:Addr)=>ld (.I .u8) p211 fun (n212:Int)=>ixS 1 x208 (IntKind.wrap .i64 ((x208.l:Int)-(3:Int))) fun (p213:Addr)=>ld (.I .u8) p213 fun (n214:Int)=>ixS 1 x208 (IntKind.wrap .i64 ((x208.l:Int)-(2:Int))) fun (p215:Addr)=>ld (.I .u8) p215 fun (n216:Int)=>ixS 1 x208 (IntKind.wrap .i64 ((x208.l:Int)-(1:Int))) fun (p217:Addr)=>ld (.I .u8) p217 fun (n218:Int)=>ixS 2 s5 n218 fun (p219:Addr)=>ldL [(.I .i32),(.I .u32)] p219 0 fun (r220:(Int×Int))=>callP Tryd.prog 140 #[(.pointer (some p9)),(.agg ⟨[(.int .i32 r220.1),(.int .u32 r220.2)]⟩)] [] fun (r221:Unit)=>ixS 2 s5 n216 fun (p222:Addr)=>ldL [(.I .i32),(.I .u32)] p222 0 fun (r223:(Int×Int))=>callP Tryd.prog 140 #[(.pointer (some p8)),(.agg ⟨[(.int .i32 r223.1),(.int .u32 r223.2)]⟩)] [] fun (r224:Unit)=>callP Tryd.prog 141 #[(.pointer (some (Addr.add p0 518)))] [] fun (r225:Unit)=>ixS 2 s5 n214 fun (p226:Addr)=>ldL [(.I .i32),(.I .u32)] p226 0 fun (r227:(Int×Int))=>callP Tryd.prog 140 #[(.pointer (some p9)),(.agg ⟨[(.int .i32 r227.1),(.int .u32 r227.2)]⟩)] [] fun (r228:Unit)=>ixS 2 s5 n212 fun (p229:Addr)=>ldL [(.I .i32),(.I .u32)] p229 0 fun (r230:(Int×Int))=>callP Tryd.prog 140 #[(.pointer (some p8)),(.agg ⟨[(.int .i32 r230.1),(.int .u32 r230.2)]⟩)] [] fun (r231:Unit)=>slc 1 x208 none (some (IntKind.wrap .i64 ((x208.l:Int)-(4:Int)))) none fun (s232:Sl)=>A209 s232) (R54 ())
def q114_J7 (p0:Addr) (K2:(Value)→PT) (p8:Addr) (p9:Addr) (x233:Unit):PT :=
 ld (.I .u8) (Addr.add p0 529) fun (n234:Int)=>callP Tryd.prog 143 #[(.pointer (some p9)),(.int .u8 n234)] [] fun (r235:Unit)=>ld (.I .u8) (Addr.add p0 529) fun (n236:Int)=>callP Tryd.prog 143 #[(.pointer (some p8)),(.int .u8 n236)] [] fun (r237:Unit)=>callP Tryd.prog 144 #[(.pointer (some (Addr.add p0 518)))] [] fun (r238:Unit)=>K2 .nilIface
def q114_X8 (p0:Addr) (s5:Sl) (p8:Addr) (p9:Addr) (s53:Sl) (R54:Unit→PT):PT :=
 ld .B (Addr.add p0 530) fun (b55:Bool)=>cnd (!b55) (ld (.I .u8) (Addr.add p0 529) fun (n56:Int)=>cnd (decide (n56≤(8:Int))) (loopP s53 (q114_L0 p0 s5 p8 p9 R54)) (ld .B (Addr.add p0 530) fun (b81:Bool)=>cnd (!b81) (loopP s53 (q114_L1 p0 s5 p8 p9 R54)) (ld (.I .u8) (Addr.add p0 529) fun (n107:Int)=>cnd (decide (n107≤(8:Int))) (loopP s53 (q114_L2 p0 s5 p8 p9 R54)) (loopP s53 (q114_L3 p0 s5 p8 p9 R54))))) (ld .B (Addr.add p0 530) fun (b157:Bool)=>cnd (!b157) (loopP s53 (q114_L4 p0 s5 p8 p9 R54)) (ld (.I .u8) (Addr.add p0 529) fun (n183:Int)=>cnd (decide (n183≤(8:Int))) (loopP s53 (q114_L5 p0 s5 p8 p9 R54)) (loopP s53 (q114_L6 p0 s5 p8 p9 R54))))
def q114_J9 (p0:Addr) (s1:Sl) (K2:(Value)→PT) (s5:Sl) (p8:Addr) (p9:Addr) (x52:Int):PT :=
 slc 1 s1 none (some x52) none fun (s53:Sl)=>joinP (q114_X8 p0 s5 p8 p9 s53) (q114_J7 p0 K2 p8 p9)
def q114_X10 (s1:Sl) (s5:Sl) (p8:Addr) (p9:Addr) (x40:(Int)) (R41:Int→PT):PT :=
 cnd (!decide ((andI .i64 x40 (2:Int))=(0:Int))) (ixS 1 s1 (IntKind.wrap .i64 (x40-(1:Int))) fun (p42:Addr)=>ld (.I .u8) p42 fun (n43:Int)=>ixS 2 s5 n43 fun (p44:Addr)=>ldL [(.I .i32),(.I .u32)] p44 0 fun (r45:(Int×Int))=>callP Tryd.prog 140 #[(.pointer (some p9)),(.agg ⟨[(.int .i32 r45.1),(.int .u32 r45.2)]⟩)] [] fun (r46:Unit)=>ixS 1 s1 (IntKind.wrap .i64 (x40-(2:Int))) fun (p47:Addr)=>ld (.I .u8) p47 fun (n48:Int)=>ixS 2 s5 n48 fun (p49:Addr)=>ldL [(.I .i32),(.I .u32)] p49 0 fun (r50:(Int×Int))=>callP Tryd.prog 140 #[(.pointer (some p8)),(.agg ⟨[(.int .i32 r50.1),(.int .u32 r50.2)]⟩)] [] fun (r51:Unit)=>R41 (IntKind.wrap .i64 (x40-(2:Int)))) (R41 x40)
def q114_J11 (p0:Addr) (s1:Sl) (K2:(Value)→PT) (s5:Sl) (p8:Addr) (p9:Addr) (x40:Int):PT :=
 joinP (q114_X10 s1 s5 p8 p9 x40) (q114_J9 p0 s1 K2 s5 p8 p9)
def q114_X12 (p0:Addr) (s1:Sl) (s5:Sl) (p8:Addr) (p9:Addr) (R10:Int→PT):PT :=
 cnd (decide ((andI .i64 (s1.l:Int) (1:Int))=(1:Int))) (drw<|ld (.I .u8) (Addr.add p0 529) fun (n11:Int)=>ixS 1 s1 (IntKind.wrap .i64 ((s1.l:Int)-(1:Int))) fun (p12:Addr)=>ld (.I .u8) p12 fun (n13:Int)=>ixS 2 s5 n13 fun (p14:Addr)=>ldL [(.I .i32),(.I .u32)] p14 0 fun (r15:(Int×Int))=>callP Tryd.prog 139 #[(.pointer (some p8)),(.pointer (some (Addr.add p0 518))),(.pointer (some (Addr.add p0 521))),(.int .u8 n11),(.agg ⟨[(.int .i32 r15.1),(.int .u32 r15.2)]⟩)] [] fun (r16:Unit)=>drw<|ld (.I .u8) (Addr.add p0 529) fun (n17:Int)=>ixS 1 s1 (IntKind.wrap .i64 ((s1.l:Int)-(2:Int))) fun (p18:Addr)=>ld (.I .u8) p18 fun (n19:Int)=>ixS 2 s5 n19 fun (p20:Addr)=>ldL [(.I .i32),(.I .u32)] p20 0 fun (r21:(Int×Int))=>callP Tryd.prog 139 #[(.pointer (some p9)),(.pointer (some (Addr.add p0 518))),(.pointer (some (Addr.add p0 521))),(.int .u8 n17),(.agg ⟨[(.int .i32 r21.1),(.int .u32 r21.2)]⟩)] [] fun (r22:Unit)=>ixS 1 s1 (IntKind.wrap .i64 ((s1.l:Int)-(3:Int))) fun (p23:Addr)=>ld (.I .u8) p23 fun (n24:Int)=>ixS 2 s5 n24 fun (p25:Addr)=>ldL [(.I .i32),(.I .u32)] p25 0 fun (r26:(Int×Int))=>callP Tryd.prog 140 #[(.pointer (some p8)),(.agg ⟨[(.int .i32 r26.1),(.int .u32 r26.2)]⟩)] [] fun (r27:Unit)=>R10 (IntKind.wrap .i64 ((s1.l:Int)-(3:Int)))) (drw<|ld (.I .u8) (Addr.add p0 529) fun (n28:Int)=>ixS 1 s1 (IntKind.wrap .i64 ((s1.l:Int)-(1:Int))) fun (p29:Addr)=>ld (.I .u8) p29 fun (n30:Int)=>ixS 2 s5 n30 fun (p31:Addr)=>ldL [(.I .i32),(.I .u32)] p31 0 fun (r32:(Int×Int))=>callP Tryd.prog 139 #[(.pointer (some p9)),(.pointer (some (Addr.add p0 518))),(.pointer (some (Addr.add p0 521))),(.int .u8 n28),(.agg ⟨[(.int .i32 r32.1),(.int .u32 r32.2)]⟩)] [] fun (r33:Unit)=>drw<|ld (.I .u8) (Addr.add p0 529) fun (n34:Int)=>ixS 1 s1 (IntKind.wrap .i64 ((s1.l:Int)-(2:Int))) fun (p35:Addr)=>ld (.I .u8) p35 fun (n36:Int)=>ixS 2 s5 n36 fun (p37:Addr)=>ldL [(.I .i32),(.I .u32)] p37 0 fun (r38:(Int×Int))=>callP Tryd.prog 139 #[(.pointer (some p8)),(.pointer (some (Addr.add p0 518))),(.pointer (some (Addr.add p0 521))),(.int .u8 n34),(.agg ⟨[(.int .i32 r38.1),(.int .u32 r38.2)]⟩)] [] fun (r39:Unit)=>R10 (IntKind.wrap .i64 ((s1.l:Int)-(2:Int))))
def q114 (p0:Addr) (s1:Sl) (K2:(Value)→PT):PT :=
 cnd (decide ((s1.l:Int)≤(2:Int))) (callP Tryd.prog 62 #[(.string ⟨#[99,111,109,112,114,101,115,115,58,32,115,114,99,32,116,111,111,32,115,109,97,108,108]⟩)] [.c .V] fun (r3:Value)=>K2 r3) (ld .S (Addr.add (Addr.add p0 521) 2) fun (s4:Sl)=>slc 2 s4 none (some (256:Int)) none fun (s5:Sl)=>drw<|ld .S (Addr.add p0 526) fun (s6:Sl)=>callP Tryd.prog 138 #[(.pointer (some (Addr.add p0 518))),(.slice s6.a s6.l s6.c)] [] fun (r7:Unit)=>nw z213 213 fun (p8:Addr)=>nw z213 213 fun (p9:Addr)=>joinP (q114_X12 p0 s1 s5 p8 p9) (q114_J11 p0 s1 K2 s5 p8 p9))
def h114:Hint:=⟨(.n (.n (.n (.n .e 127 ([(8,.c (.I .i64))],[1,6,5,7,0]) .e) 255 ([(8,.c (.I .i64))],[1,6,5,7,0]) .e) 1023 ([],[7,6,0]) (.n (.n .e 32740 ([(1,.c .S)],[6,5,7,0]) .e) 130972 ([(1,.c .S)],[6,5,7,0]) .e)) 130972 ([(1,.c .S)],[6,5,7,0]) (.n (.n (.n .e 523900 ([(1,.c .S)],[6,5,7,0]) .e) 523900 ([(1,.c .S)],[6,5,7,0]) .e) 523902 ([(1,.c .S)],[6,5,7,0]) (.n .e 523902 ([(1,.c .S)],[6,5,7,0]) .e))),.e⟩
theorem q114_eq (p0:Addr) (s1:Sl) (K2:(Value)→PT):fnE Cx h114 [.c .V] Tryd.f114 [.pt p0,.v (.slice s1.a s1.l s1.c)] K2=q114 p0 s1 K2:=by kernel_rfl
theorem q114_fnok:fnOk Tryd.f114 2=true:=by kernel_rfl
theorem q114_ok (p0:Addr) (s1:Sl) (K2:(Value)→PT) {w:World} (h:q114 p0 s1 K2 w):Calls Tryd.prog 114 #[(.pointer (some p0)),(.slice s1.a s1.l s1.c)] w fun e w'=>∃r,e = .returned (resMk [.c .V] r)∧K2 r w' :=
 of_eq Tryd.func114 q114_fnok (by kernel_rfl) (by kernel_rfl) (q114_eq p0 s1 K2) h
def q117_L0 (p0:Addr) (s1:Sl) (R4:Unit→PT) (x5:Int) (A6:Int→PT):PT :=
 cnd (decide (x5<(s1.l:Int))) (ixS 1 s1 x5 fun (p7:Addr)=>ld (.I .u8) p7 fun (n8:Int)=>drw<|ixA 1 256 p0 n8 fun (p9:Addr)=>ld (.I .u32) p9 fun (n10:Int)=>ixA 1 256 p0 n8 fun (p11:Addr)=>st p11 (.int .u32 (IntKind.wrap .u32 (n10+(1:Int))))<|A6 (IntKind.wrap .i64 (x5+(1:Int)))) (R4 ())
def q117_J1 (p0:Addr) (x17:(Bool×Int×Int)) (R19:Bool×Int→PT) (x23:Int):PT :=
 st (Addr.add p0 265) (.int .u16 (IntKind.wrap .u16 ((IntKind.wrap .u16 x17.2.2)+(1:Int))))<|ld .S (Addr.add p0 270) fun (s24:Sl)=>cnd (decide ((s24.l:Int)≤x17.2.2)) (R19 (false,x23)) (ld .S (Addr.add p0 270) fun (s25:Sl)=>ixS 2 s25 x17.2.2 fun (p26:Addr)=>ld (.I .u8) (Addr.add p26 1) fun (n27:Int)=>cnd (decide (n27=(0:Int))) (R19 (false,x23)) (R19 (x17.1,x23)))
def q117_J2 (x17:(Bool×Int×Int)) (A18:(Bool×Int×Int)→PT) (x28:Bool×Int):PT :=
 A18 (x28.1,x28.2,(IntKind.wrap .i64 (x17.2.2+(1:Int))))
def q117_L3 (p0:Addr) (R15:Bool×Int→PT) (s16:Sl) (x17:Bool×Int×Int) (A18:(Bool×Int×Int)→PT):PT :=
 cnd (decide (x17.2.2<(s16.l:Int))) (joinP (fun R19=>ixS 1 s16 x17.2.2 fun (p20:Addr)=>ld (.I .u32) p20 fun (n21:Int)=>cnd (decide (n21=(0:Int))) (R19 (x17.1,x17.2.1)) (joinP (fun R22=>cnd (decide (x17.2.1<n21)) (R22 n21) (R22 x17.2.1)) (q117_J1 p0 x17 R19))) (q117_J2 x17 A18)) (R15 (x17.1,x17.2.1))
def q117_J4 (K2:(Int×Bool)→PT) (x29:Bool×Int):PT :=
 K2 ((IntKind.wrap .i64 x29.2),x29.1)
def q117_J5 (p0:Addr) (x33:(Int×Int)) (R35:Int→PT) (x39:Int):PT :=
 st (Addr.add p0 265) (.int .u16 (IntKind.wrap .u16 ((IntKind.wrap .u16 x33.2)+(1:Int))))<|R35 x39
def q117_J6 (x33:(Int×Int)) (A34:(Int×Int)→PT) (x40:Int):PT :=
 A34 (x40,(IntKind.wrap .i64 (x33.2+(1:Int))))
def q117_L7 (p0:Addr) (R31:Int→PT) (s32:Sl) (x33:Int×Int) (A34:(Int×Int)→PT):PT :=
 cnd (decide (x33.2<(s32.l:Int))) (joinP (fun R35=>ixS 1 s32 x33.2 fun (p36:Addr)=>ld (.I .u32) p36 fun (n37:Int)=>cnd (decide (n37=(0:Int))) (R35 x33.1) (joinP (fun R38=>cnd (decide (x33.1<n37)) (R38 n37) (R38 x33.1)) (q117_J5 p0 x33 R35))) (q117_J6 x33 A34)) (R31 x33.1)
def q117_J8 (K2:(Int×Bool)→PT) (x41:Int):PT :=
 K2 ((IntKind.wrap .i64 x41),false)
def q117_J9 (p0:Addr) (K2:(Int×Bool)→PT) (x30:Int):PT :=
 joinP (fun R31=>slcA 1 256 p0 none none none fun (s32:Sl)=>loopP (x30,(0:Int)) (q117_L7 p0 R31 s32)) (q117_J8 K2)
def q117_J10 (p0:Addr) (K2:(Int×Bool)→PT) (x12:Unit):PT :=
 joinP (fun R13=>ld .S (Addr.add p0 270) fun (s14:Sl)=>cnd (decide ((0:Int)<(s14.l:Int))) (joinP (fun R15=>slcA 1 256 p0 none none none fun (s16:Sl)=>loopP (true,(0:Int),(0:Int)) (q117_L3 p0 R15 s16)) (q117_J4 K2)) (R13 (0:Int))) (q117_J9 p0 K2)
def q117 (p0:Addr) (s1:Sl) (K2:(Int×Bool)→PT):PT :=
 ldA 256 p0 fun (c3:Array Value)=>joinP (fun R4=>loopP (0:Int) (q117_L0 p0 s1 R4)) (q117_J10 p0 K2)
def h117:Hint:=⟨(.n (.n (.n (.n .e 15 ([],[0,5]) .e) 63 ([(8,.c (.I .u32))],[0]) .e) 122 ([(19,.c (.I .i64))],[0,17,5,18]) (.n (.n .e 127 ([(8,.c (.I .u32))],[]) .e) 506 ([(5,.c .B),(8,.c (.I .u32))],[]) .e)) 1018 ([(8,.c (.I .u32)),(87,.c (.I .i64))],[0,85,86]) (.n (.n (.n .e 4050 ([(5,.c .B),(8,.c (.I .u32)),(45,.c (.I .i64))],[0,43,44]) .e) 8147 ([(8,.c (.I .u32))],[87,0,85,86]) .e) 32403 ([(5,.c .B),(8,.c (.I .u32))],[45,0,43,44]) (.n (.n .e 130355 ([(8,.c (.I .u32))],[11,87,0,85,86]) .e) 518451 ([(8,.c (.I .u32))],[5,9,45,0,43,44]) .e))),.e⟩
theorem q117_eq (p0:Addr) (s1:Sl) (K2:(Int×Bool)→PT):fnE Cx h117 [.c (.I .i64),.c .B] Tryd.f117 [.pt p0,.v (.slice s1.a s1.l s1.c)] K2=q117 p0 s1 K2:=by kernel_rfl
theorem q117_fnok:fnOk Tryd.f117 2=true:=by kernel_rfl
theorem q117_ok (p0:Addr) (s1:Sl) (K2:(Int×Bool)→PT) {w:World} (h:q117 p0 s1 K2 w):Calls Tryd.prog 117 #[(.pointer (some p0)),(.slice s1.a s1.l s1.c)] w fun e w'=>∃r,e = .returned (resMk [.c (.I .i64),.c .B] r)∧K2 r w' :=
 of_eq Tryd.func117 q117_fnok (by kernel_rfl) (by kernel_rfl) (q117_eq p0 s1 K2) h
def q119_L0 (s1:Sl) (R3:Int→PT) (s4:Sl) (x5:Int×Int) (A6:(Int×Int)→PT):PT :=
 cnd (decide (x5.2<(s4.l:Int))) (ixS 2 s4 x5.2 fun (p7:Addr)=>ldL [(.I .u16),(.I .u8)] p7 0 fun (r8:(Int×Int))=>nw z140 140 fun (p9:Addr)=>stL p9 0 [(.int .u16 r8.1),(.int .u8 r8.2)]<|drw<|ld (.I .u8) (Addr.add p9 1) fun (n10:Int)=>ixS 1 s1 x5.2 fun (p11:Addr)=>ld (.I .u32) p11 fun (n12:Int)=>A6 ((IntKind.wrap .u32 (x5.1+(IntKind.wrap .u32 ((IntKind.wrap .u32 n10)*n12)))),(IntKind.wrap .i64 (x5.2+(1:Int))))) (R3 x5.1)
def q119_J1 (K2:Int→PT) (x13:Int):PT :=
 req (0≤(3:Int))<|K2 (IntKind.wrap .i64 (shrI .u32 x13 (3:Int)))
def q119 (s0:Sl) (s1:Sl) (K2:Int→PT):PT :=
 joinP (fun R3=>slc 2 s0 none (some (s1.l:Int)) none fun (s4:Sl)=>loopP ((7:Int),(0:Int)) (q119_L0 s1 R3 s4)) (q119_J1 K2)
def h119:Hint:=⟨(.n (.n .e 7 ([(5,.c (.I .u32))],[]) .e) 58 ([(5,.c (.I .u32)),(13,.c (.I .i64))],[1,11,12]) .e),.e⟩
theorem q119_eq (s0:Sl) (s1:Sl) (K2:Int→PT):fnE Cx h119 [.c (.I .i64)] Tryd.f119 [.v (.slice s0.a s0.l s0.c),.v (.slice s1.a s1.l s1.c)] K2=q119 s0 s1 K2:=by kernel_rfl
theorem q119_fnok:fnOk Tryd.f119 2=true:=by kernel_rfl
theorem q119_ok (s0:Sl) (s1:Sl) (K2:Int→PT) {w:World} (h:q119 s0 s1 K2 w):Calls Tryd.prog 119 #[(.slice s0.a s0.l s0.c),(.slice s1.a s1.l s1.c)] w fun e w'=>∃r,e = .returned (resMk [.c (.I .i64)] r)∧K2 r w' :=
 of_eq Tryd.func119 q119_fnok (by kernel_rfl) (by kernel_rfl) (q119_eq s0 s1 K2) h
def q120_L0 (s2:Sl) (p4:Addr) (s6:Sl) (R7:Unit→PT) (x8:Int) (A9:Int→PT):PT :=
 cnd (decide ((0:Int)<x8)) (ixS 1 s2 (IntKind.wrap .i64 ((IntKind.wrap .i64 ((IntKind.wrap .i64 ((s2.l:Int)-(andI .i64 (s2.l:Int) (3:Int))))+x8))-(1:Int))) fun (p10:Addr)=>ld (.I .u8) p10 fun (n11:Int)=>callP Tryd.prog 147 #[(.pointer (some p4)),(.slice s6.a s6.l s6.c),(.int .u8 n11)] [] fun (r12:Unit)=>A9 (IntKind.wrap .i64 (x8-(1:Int)))) (R7 ())
def q120_L1 (s2:Sl) (s6:Sl) (p17:Addr) (x22:(Int×Sl)) (A23:(Int×Sl)→PT) (n24:Int) (x29:Int) (A30:Int→PT):PT :=
 cnd (decide ((maxI (IntKind.wrap .i64 (x22.1-(IntKind.wrap .i64 ((4:Int)*(quoI .i64 (IntKind.wrap .i64 ((IntKind.wrap .i64 ((x22.2.l:Int)-n24))-(8:Int))) (6:Int)))))) (-4:Int))<x29)) (ldL [(.I .u64),(.I .u64),(.I .i64)] p17 0 fun (r31:(Int×Int×Int))=>callP Tryd.prog 149 #[(.agg ⟨[(.int .u64 r31.1),(.int .u64 r31.2.1),(.int .i64 r31.2.2)]⟩),(.slice x22.2.a x22.2.l x22.2.c)] [.m [(.I .u64),(.I .u64),(.I .i64)]] fun (r32:(Int×Int×Int))=>stL p17 0 [(.int .u64 r32.1),(.int .u64 r32.2.1),(.int .i64 r32.2.2)]<|slc 1 s2 (some x29) (some (IntKind.wrap .i64 (x29+(4:Int)))) none fun (s33:Sl)=>drw<|ldL [(.I .u64),(.I .u64),(.I .i64)] p17 0 fun (r34:(Int×Int×Int))=>ixS 1 s33 (3:Int) fun (p35:Addr)=>ld (.I .u8) p35 fun (n36:Int)=>ixS 2 s6 n36 fun (p37:Addr)=>ldL [(.I .u16),(.I .u8)] p37 0 fun (r38:(Int×Int))=>ixS 1 s33 (2:Int) fun (p39:Addr)=>ld (.I .u8) p39 fun (n40:Int)=>ixS 2 s6 n40 fun (p41:Addr)=>ldL [(.I .u16),(.I .u8)] p41 0 fun (r42:(Int×Int))=>ixS 1 s33 (1:Int) fun (p43:Addr)=>ld (.I .u8) p43 fun (n44:Int)=>ixS 2 s6 n44 fun (p45:Addr)=>ldL [(.I .u16),(.I .u8)] p45 0 fun (r46:(Int×Int))=>ixS 1 s33 (0:Int) fun (p47:Addr)=>ld (.I .u8) p47 fun (n48:Int)=>ixS 2 s6 n48 fun (p49:Addr)=>ldL [(.I .u16),(.I .u8)] p49 0 fun (r50:(Int×Int))=>callP Tryd.prog 151 #[(.agg ⟨[(.int .u16 r38.1),(.int .u8 r38.2)]⟩),(.agg ⟨[(.int .u16 r42.1),(.int .u8 r42.2)]⟩),(.agg ⟨[(.int .u16 r46.1),(.int .u8 r46.2)]⟩),(.agg ⟨[(.int .u16 r50.1),(.int .u8 r50.2)]⟩)] [.c (.I .u64),.c (.I .u64)] fun (r51:Int×Int)=>kp [(Addr.add p17 0,(.int .u64 r34.1)),(Addr.add p17 1,(.int .u64 r34.2.1)),(Addr.add p17 2,(.int .i64 r34.2.2))]<|callP Tryd.prog 150 #[(.agg ⟨[(.int .u64 r34.1),(.int .u64 r34.2.1),(.int .i64 r34.2.2)]⟩),(.int .u64 r51.1),(.int .u64 r51.2)] [.m [(.I .u64),(.I .u64),(.I .i64)]] fun (r52:(Int×Int×Int))=>stL p17 0 [(.int .u64 r52.1),(.int .u64 r52.2.1),(.int .i64 r52.2.2)]<|A30 (IntKind.wrap .i64 (x29-(4:Int)))) (A23 (x29,x22.2))
def q120_L2 (s2:Sl) (s6:Sl) (p17:Addr) (R21:Sl→PT) (x22:Int×Sl) (A23:(Int×Sl)→PT):PT :=
 cnd (decide ((0:Int)≤x22.1)) (ld (.I .i64) (Addr.add p17 2) fun (n24:Int)=>req ((6:Int)≠0)<|cnd (decide ((quoI .i64 (IntKind.wrap .i64 ((IntKind.wrap .i64 ((x22.2.l:Int)-n24))-(8:Int))) (6:Int))≤(0:Int))) (ld (.I .i64) (Addr.add p17 2) fun (n25:Int)=>slc 1 x22.2 none (some n25) none fun (s26:Sl)=>req ((4:Int)≠0)<|callP Tryd.prog 148 #[(.slice s26.a s26.l s26.c),(.int .i64 (IntKind.wrap .i64 ((IntKind.wrap .i64 ((IntKind.wrap .i64 ((quoI .i64 x22.1 (4:Int))+(1:Int)))*(6:Int)))+(8:Int))))] [.c .S] fun (r27:Sl)=>slc 1 r27 none (some (r27.c:Int)) none fun (s28:Sl)=>A23 (x22.1,s28)) (loopP x22.1 (q120_L1 s2 s6 p17 x22 A23 n24))) (R21 x22.2)
def q120_J3 (K3:Sl→PT) (p4:Addr) (p17:Addr) (x53:Sl):PT :=
 drw<|ld (.I .u64) p17 fun (n54:Int)=>ld (.I .u64) (Addr.add p17 1) fun (n55:Int)=>ld (.I .i64) (Addr.add p17 2) fun (n56:Int)=>slc 1 x53 none (some n56) none fun (s57:Sl)=>st p4 (.int .u64 n54)<|kp [((Addr.add p17 2),(.int .i64 n56)),((Addr.add p17 1),(.int .u64 n55))]<|st (Addr.add p4 1) (.int .u8 (IntKind.wrap .u8 n55))<|kp [((Addr.add p17 2),(.int .i64 n56))]<|st (Addr.add p4 2) (.slice s57.a s57.l s57.c)<|callP Tryd.prog 152 #[(.pointer (some p4))] [] fun (r58:Unit)=>ld .S (Addr.add p4 2) fun (s59:Sl)=>K3 s59
def q120_J4 (s2:Sl) (K3:Sl→PT) (p4:Addr) (s6:Sl) (x13:Unit):PT :=
 ld (.I .u64) p4 fun (n14:Int)=>ld (.I .u8) (Addr.add p4 1) fun (n15:Int)=>ld .S (Addr.add p4 2) fun (s16:Sl)=>nw z222 222 fun (p17:Addr)=>stL p17 0 [(.int .u64 n14),(.int .u64 (IntKind.wrap .u64 n15)),(.int .i64 (s16.l:Int))]<|ld .S (Addr.add p4 2) fun (s18:Sl)=>ld .S (Addr.add p4 2) fun (s19:Sl)=>slc 1 s18 none (some (s19.c:Int)) none fun (s20:Sl)=>joinP (fun R21=>loopP ((IntKind.wrap .i64 ((IntKind.wrap .i64 ((s2.l:Int)-(andI .i64 (s2.l:Int) (3:Int))))-(4:Int))),s20) (q120_L2 s2 s6 p17 R21)) (q120_J3 K3 p4 p17)
def q120 (p0:Addr) (s1:Sl) (s2:Sl) (K3:Sl→PT):PT :=
 nw z219 219 fun (p4:Addr)=>stL p4 0 [(.int .u64 (0:Int)),(.int .u8 (0:Int)),(.slice s1.a s1.l s1.c)]<|ld .S (Addr.add p0 271) fun (s5:Sl)=>slc 2 s5 none (some (256:Int)) none fun (s6:Sl)=>joinP (fun R7=>loopP (andI .i64 (s2.l:Int) (3:Int)) (q120_L0 s2 p4 s6 R7)) (q120_J4 s2 K3 p4 s6)
def h120:Hint:=⟨(.n (.n (.n .e 63 ([],[8,9,2,7]) .e) 506 ([(10,.c (.I .i64))],[7,8,2,9]) .e) 1023 ([(12,.c .S)],[11,7]) (.n (.n .e 4092 ([(8,.c (.I .i64)),(12,.c .S)],[11,9,2,7]) .e) 523822 ([(8,.c (.I .i64))],[11,9,2,12,7,14]) .e)),.e⟩
theorem q120_eq (p0:Addr) (s1:Sl) (s2:Sl) (K3:Sl→PT):fnE Cx h120 [.c .S] Tryd.f120 [.pt p0,.v (.slice s1.a s1.l s1.c),.v (.slice s2.a s2.l s2.c)] K3=q120 p0 s1 s2 K3:=by kernel_rfl
theorem q120_fnok:fnOk Tryd.f120 3=true:=by kernel_rfl
theorem q120_ok (p0:Addr) (s1:Sl) (s2:Sl) (K3:Sl→PT) {w:World} (h:q120 p0 s1 s2 K3 w):Calls Tryd.prog 120 #[(.pointer (some p0)),(.slice s1.a s1.l s1.c),(.slice s2.a s2.l s2.c)] w fun e w'=>∃r,e = .returned (resMk [.c .S] r)∧K3 r w' :=
 of_eq Tryd.func120 q120_fnok (by kernel_rfl) (by kernel_rfl) (q120_eq p0 s1 s2 K3) h
def q121_J0 (p0:Addr) (K1:Unit→PT) (x13:Int):PT :=
 st (Addr.add p0 268) (.int .u8 x13)<|K1 ()
def q121_J1 (p0:Addr) (K1:Unit→PT) (x11:Int):PT :=
 joinP (fun R12=>cnd (decide ((11:Int)<x11)) (R12 (11:Int)) (R12 x11)) (q121_J0 p0 K1)
def q121_J2 (p0:Addr) (K1:Unit→PT) (x9:Int):PT :=
 joinP (fun R10=>cnd (decide (x9<(5:Int))) (R10 (5:Int)) (R10 x9)) (q121_J1 p0 K1)
def q121_J3 (p0:Addr) (K1:Unit→PT) (r3:Int) (x7:Int):PT :=
 joinP (fun R8=>cnd (decide (x7<r3)) (R8 r3) (R8 x7)) (q121_J2 p0 K1)
def q121 (p0:Addr) (K1:Unit→PT):PT :=
 ld (.I .u8) (Addr.add p0 262) fun (n2:Int)=>callP Tryd.prog 153 #[(.pointer (some p0))] [.c (.I .u8)] fun (r3:Int)=>ld (.I .i64) (Addr.add p0 260) fun (n4:Int)=>callP Tryd.prog 64 #[(.int .u32 (IntKind.wrap .u32 (IntKind.wrap .i64 (n4-(1:Int)))))] [.c (.I .u32)] fun (r5:Int)=>joinP (fun R6=>cnd (decide ((IntKind.wrap .u8 ((IntKind.wrap .u8 r5)-(1:Int)))<n2)) (R6 (IntKind.wrap .u8 ((IntKind.wrap .u8 r5)-(1:Int)))) (R6 n2)) (q121_J3 p0 K1 r3)
def h121:Hint:=⟨(.n (.n (.n .e 15 ([(2,.c (.I .u8))],[3,0]) .e) 31 ([(2,.c (.I .u8))],[0]) .e) 63 ([(2,.c (.I .u8))],[0]) (.n .e 127 ([(2,.c (.I .u8))],[0]) .e)),.e⟩
theorem q121_eq (p0:Addr) (K1:Unit→PT):fnE Cx h121 [] Tryd.f121 [.pt p0] K1=q121 p0 K1:=by kernel_rfl
theorem q121_fnok:fnOk Tryd.f121 1=true:=by kernel_rfl
theorem q121_ok (p0:Addr) (K1:Unit→PT) {w:World} (h:q121 p0 K1 w):Calls Tryd.prog 121 #[(.pointer (some p0))] w fun e w'=>∃r,e = .returned (resMk [] r)∧K1 r w' :=
 of_eq Tryd.func121 q121_fnok (by kernel_rfl) (by kernel_rfl) (q121_eq p0 K1) h
def q122_L0 (p5:Addr) (R6:Unit→PT) (s8:Sl) (x9:Int) (A10:Int→PT):PT :=
 cnd (decide (x9<(s8.l:Int))) (ixS 1 s8 x9 fun (p11:Addr)=>ld (.I .u32) p11 fun (n12:Int)=>callP Tryd.prog 64 #[(.int .u32 (IntKind.wrap .u32 (n12+(1:Int))))] [.c (.I .u32)] fun (r13:Int)=>ixA 2 32 p5 (andI .u32 r13 (31:Int)) fun (p14:Addr)=>ld (.I .u32) p14 fun (n15:Int)=>ixA 2 32 p5 (andI .u32 r13 (31:Int)) fun (p16:Addr)=>st p16 (.int .u32 (IntKind.wrap .u32 (n15+(1:Int))))<|A10 (IntKind.wrap .i64 (x9+(1:Int)))) (R6 ())
def q122_L1 (p5:Addr) (R18:Unit→PT) (x19:Int) (A20:Int→PT):PT :=
 cnd (decide ((0:Int)<x19)) (drw<|ixA 2 32 p5 (IntKind.wrap .i64 (x19-(1:Int))) fun (p21:Addr)=>ld (.I .u32) p21 fun (n22:Int)=>ixA 2 32 p5 x19 fun (p23:Addr)=>ld (.I .u32) p23 fun (n24:Int)=>ixA 2 32 p5 (IntKind.wrap .i64 (x19-(1:Int))) fun (p25:Addr)=>st p25 (.int .u32 (IntKind.wrap .u32 (n22+n24)))<|A20 (IntKind.wrap .i64 (x19-(1:Int)))) (R18 ())
def q122_L2 (p5:Addr) (R27:Unit→PT) (s28:Sl) (x29:Int) (A30:Int→PT):PT :=
 cnd (decide (x29<(s28.l:Int))) (ixA 2 32 p5 x29 fun (p31:Addr)=>ld (.I .u32) p31 fun (n32:Int)=>ixA 2 32 p5 x29 fun (p33:Addr)=>st (Addr.add p33 1) (.int .u32 n32)<|A30 (IntKind.wrap .i64 (x29+(1:Int)))) (R27 ())
def q122_L3 (s4:Sl) (p5:Addr) (n41:Int) (r42:Int) (p50:Addr) (R51:Int→PT) (x52:Int) (A53:Int→PT):PT :=
 ixA 2 32 p5 (andI .u32 (IntKind.wrap .u32 (r42+(1:Int))) (31:Int)) fun (p54:Addr)=>ld (.I .u32) p54 fun (n55:Int)=>cnd (decide (n55<x52)) (callP Tryd.prog 123 #[(.pointer (some p50))] [.c (.I .u32)] fun (r56:Int)=>cnd (decide (r56<n41)) (ld (.I .u64) p50 fun (n57:Int)=>ixS 1 s4 (andI .u32 x52 (511:Int)) fun (p58:Addr)=>st p58 (.int .u64 n57)<|ixS 1 s4 (andI .u32 (IntKind.wrap .u32 ((IntKind.wrap .u32 (x52-(1:Int)))-(1:Int))) (511:Int)) fun (p59:Addr)=>ld (.I .u64) p59 fun (n60:Int)=>st p50 (.int .u64 n60)<|A53 (IntKind.wrap .u32 (x52-(1:Int)))) (R51 x52)) (R51 x52)
def q122_J4 (s4:Sl) (x37:(Int)) (R39:Unit→PT) (n41:Int) (x61:Int):PT :=
 callP Tryd.prog 154 #[(.int .u32 n41),(.int .u8 (IntKind.wrap .u8 x37))] [.c (.I .u64)] fun (r62:Int)=>ixS 1 s4 (andI .u32 x61 (511:Int)) fun (p63:Addr)=>st p63 (.int .u64 r62)<|R39 ()
def q122_J5 (x37:(Int)) (A38:Int→PT) (x64:Unit):PT :=
 A38 (IntKind.wrap .i64 (x37+(1:Int)))
def q122_X6 (s4:Sl) (p5:Addr) (s36:Sl) (x37:(Int)) (R39:Unit→PT):PT :=
 ixS 1 s36 x37 fun (p40:Addr)=>ld (.I .u32) p40 fun (n41:Int)=>callP Tryd.prog 64 #[(.int .u32 (IntKind.wrap .u32 (n41+(1:Int))))] [.c (.I .u32)] fun (r42:Int)=>ixA 2 32 p5 (andI .u32 (IntKind.wrap .u32 (r42+(1:Int))) (31:Int)) fun (p43:Addr)=>ld (.I .u32) (Addr.add p43 1) fun (n44:Int)=>ixA 2 32 p5 (andI .u32 (IntKind.wrap .u32 (r42+(1:Int))) (31:Int)) fun (p45:Addr)=>ld (.I .u32) (Addr.add p45 1) fun (n46:Int)=>ixA 2 32 p5 (andI .u32 (IntKind.wrap .u32 (r42+(1:Int))) (31:Int)) fun (p47:Addr)=>st (Addr.add p47 1) (.int .u32 (IntKind.wrap .u32 (n46+(1:Int))))<|ixS 1 s4 (andI .u32 (IntKind.wrap .u32 (n44-(1:Int))) (511:Int)) fun (p48:Addr)=>ld (.I .u64) p48 fun (n49:Int)=>nw z196 196 fun (p50:Addr)=>st p50 (.int .u64 n49)<|joinP (fun R51=>loopP n44 (q122_L3 s4 p5 n41 r42 p50 R51)) (q122_J4 s4 x37 R39 n41)
def q122_L7 (K1:Unit→PT) (s4:Sl) (p5:Addr) (s36:Sl) (x37:Int) (A38:Int→PT):PT :=
 cnd (decide (x37<(s36.l:Int))) (joinP (q122_X6 s4 p5 s36 x37) (q122_J5 x37 A38)) (K1 ())
def q122_J8 (p0:Addr) (K1:Unit→PT) (s4:Sl) (p5:Addr) (x34:Unit):PT :=
 drw<|ld (.I .u16) (Addr.add p0 265) fun (n35:Int)=>slcA 1 256 p0 none (some n35) none fun (s36:Sl)=>loopP (0:Int) (q122_L7 K1 s4 p5 s36)
def q122_J9 (p0:Addr) (K1:Unit→PT) (s4:Sl) (p5:Addr) (x26:Unit):PT :=
 joinP (fun R27=>slcA 2 32 p5 none (some (19:Int)) none fun (s28:Sl)=>loopP (0:Int) (q122_L2 p5 R27 s28)) (q122_J8 p0 K1 s4 p5)
def q122_J10 (p0:Addr) (K1:Unit→PT) (s4:Sl) (p5:Addr) (x17:Unit):PT :=
 joinP (fun R18=>loopP (19:Int) (q122_L1 p5 R18)) (q122_J9 p0 K1 s4 p5)
def q122 (p0:Addr) (K1:Unit→PT):PT :=
 ld .S (Addr.add p0 273) fun (s2:Sl)=>slc 1 s2 none (some (513:Int)) none fun (s3:Sl)=>st (Addr.add p0 273) (.slice s3.a s3.l s3.c)<|slc 1 s3 (some (1:Int)) (some (513:Int)) none fun (s4:Sl)=>nw z229 229 fun (p5:Addr)=>joinP (fun R6=>drw<|ld (.I .u16) (Addr.add p0 265) fun (n7:Int)=>slcA 1 256 p0 none (some n7) none fun (s8:Sl)=>loopP (0:Int) (q122_L0 p5 R6 s8)) (q122_J10 p0 K1 s4 p5)
def h122:Hint:=⟨(.n (.n (.n (.n .e 31 ([],[3,0,2]) .e) 63 ([],[3,0,2]) .e) 127 ([],[0,3,2]) (.n (.n .e 250 ([(34,.c (.I .i64))],[3,32,0,2,33]) .e) 506 ([(7,.c (.I .i64))],[3,0,2]) .e)) 1018 ([(68,.c (.I .i64))],[3,0,2,67]) (.n (.n (.n .e 1022 ([(88,.c (.I .i64))],[3,2,86,87]) .e) 8179 ([],[88,3,2,86,87]) .e) 1046943 ([(12,.c (.I .u32))],[10,9,88,3,2,86,87]) (.n .e 4187772 ([(12,.c (.I .u32))],[13,2,10,9,88,3,86,87,11]) .e))),.e⟩
theorem q122_eq (p0:Addr) (K1:Unit→PT):fnE Cx h122 [] Tryd.f122 [.pt p0] K1=q122 p0 K1:=by kernel_rfl
theorem q122_fnok:fnOk Tryd.f122 1=true:=by kernel_rfl
theorem q122_ok (p0:Addr) (K1:Unit→PT) {w:World} (h:q122 p0 K1 w):Calls Tryd.prog 122 #[(.pointer (some p0))] w fun e w'=>∃r,e = .returned (resMk [] r)∧K1 r w' :=
 of_eq Tryd.func122 q122_fnok (by kernel_rfl) (by kernel_rfl) (q122_eq p0 K1) h
def q123 (p0:Addr) (K1:Int→PT):PT :=
 ld (.I .u64) p0 fun (n2:Int)=>K1 (IntKind.wrap .u32 n2)
def h123:Hint:=⟨.e,.e⟩
theorem q123_eq (p0:Addr) (K1:Int→PT):fnE Cx h123 [.c (.I .u32)] Tryd.f123 [.pt p0] K1=q123 p0 K1:=by kernel_rfl
theorem q123_fnok:fnOk Tryd.f123 1=true:=by kernel_rfl
theorem q123_ok (p0:Addr) (K1:Int→PT) {w:World} (h:q123 p0 K1 w):Calls Tryd.prog 123 #[(.pointer (some p0))] w fun e w'=>∃r,e = .returned (resMk [.c (.I .u32)] r)∧K1 r w' :=
 of_eq Tryd.func123 q123_fnok (by kernel_rfl) (by kernel_rfl) (q123_eq p0 K1) h
def q124 (p0:Addr) (n1:Int) (K2:Unit→PT):PT :=
 ld (.I .u64) p0 fun (n3:Int)=>st p0 (.int .u64 (orI .u64 (andI .u64 n3 (18446744069414584320:Int)) (IntKind.wrap .u64 n1)))<|K2 ()
def h124:Hint:=⟨.e,.e⟩
theorem q124_eq (p0:Addr) (n1:Int) (K2:Unit→PT):fnE Cx h124 [] Tryd.f124 [.pt p0,.v (.int .u32 n1)] K2=q124 p0 n1 K2:=by kernel_rfl
theorem q124_fnok:fnOk Tryd.f124 2=true:=by kernel_rfl
theorem q124_ok (p0:Addr) (n1:Int) (K2:Unit→PT) {w:World} (h:q124 p0 n1 K2 w):Calls Tryd.prog 124 #[(.pointer (some p0)),(.int .u32 n1)] w fun e w'=>∃r,e = .returned (resMk [] r)∧K2 r w' :=
 of_eq Tryd.func124 q124_fnok (by kernel_rfl) (by kernel_rfl) (q124_eq p0 n1 K2) h
def q125 (p0:Addr) (n1:Int) (K2:Unit→PT):PT :=
 ld (.I .u64) p0 fun (n3:Int)=>req (0≤(32:Int))<|st p0 (.int .u64 (orI .u64 (andI .u64 n3 (18446462603027808255:Int)) (shlI .u64 (IntKind.wrap .u64 (IntKind.wrap .u16 n1)) (32:Int))))<|K2 ()
def h125:Hint:=⟨.e,.e⟩
theorem q125_eq (p0:Addr) (n1:Int) (K2:Unit→PT):fnE Cx h125 [] Tryd.f125 [.pt p0,.v (.int .i16 n1)] K2=q125 p0 n1 K2:=by kernel_rfl
theorem q125_fnok:fnOk Tryd.f125 2=true:=by kernel_rfl
theorem q125_ok (p0:Addr) (n1:Int) (K2:Unit→PT) {w:World} (h:q125 p0 n1 K2 w):Calls Tryd.prog 125 #[(.pointer (some p0)),(.int .i16 n1)] w fun e w'=>∃r,e = .returned (resMk [] r)∧K2 r w' :=
 of_eq Tryd.func125 q125_fnok (by kernel_rfl) (by kernel_rfl) (q125_eq p0 n1 K2) h
def q126 (p0:Addr) (n1:Int) (K2:Unit→PT):PT :=
 ld (.I .u64) p0 fun (n3:Int)=>req (0≤(56:Int))<|st p0 (.int .u64 (orI .u64 (andI .u64 n3 (72057594037927935:Int)) (shlI .u64 (IntKind.wrap .u64 n1) (56:Int))))<|K2 ()
def h126:Hint:=⟨.e,.e⟩
theorem q126_eq (p0:Addr) (n1:Int) (K2:Unit→PT):fnE Cx h126 [] Tryd.f126 [.pt p0,.v (.int .u8 n1)] K2=q126 p0 n1 K2:=by kernel_rfl
theorem q126_fnok:fnOk Tryd.f126 2=true:=by kernel_rfl
theorem q126_ok (p0:Addr) (n1:Int) (K2:Unit→PT) {w:World} (h:q126 p0 n1 K2 w):Calls Tryd.prog 126 #[(.pointer (some p0)),(.int .u8 n1)] w fun e w'=>∃r,e = .returned (resMk [] r)∧K2 r w' :=
 of_eq Tryd.func126 q126_fnok (by kernel_rfl) (by kernel_rfl) (q126_eq p0 n1 K2) h
def q127 (p0:Addr) (K1:Int→PT):PT :=
 ld (.I .u64) p0 fun (n2:Int)=>req (0≤(32:Int))<|K1 (IntKind.wrap .u16 (shrI .u64 n2 (32:Int)))
def h127:Hint:=⟨.e,.e⟩
theorem q127_eq (p0:Addr) (K1:Int→PT):fnE Cx h127 [.c (.I .u16)] Tryd.f127 [.pt p0] K1=q127 p0 K1:=by kernel_rfl
theorem q127_fnok:fnOk Tryd.f127 1=true:=by kernel_rfl
theorem q127_ok (p0:Addr) (K1:Int→PT) {w:World} (h:q127 p0 K1 w):Calls Tryd.prog 127 #[(.pointer (some p0))] w fun e w'=>∃r,e = .returned (resMk [.c (.I .u16)] r)∧K1 r w' :=
 of_eq Tryd.func127 q127_fnok (by kernel_rfl) (by kernel_rfl) (q127_eq p0 K1) h
def q128 (p0:Addr) (K1:Int→PT):PT :=
 ld (.I .u64) p0 fun (n2:Int)=>req (0≤(56:Int))<|K1 (IntKind.wrap .u8 (shrI .u64 n2 (56:Int)))
def h128:Hint:=⟨.e,.e⟩
theorem q128_eq (p0:Addr) (K1:Int→PT):fnE Cx h128 [.c (.I .u8)] Tryd.f128 [.pt p0] K1=q128 p0 K1:=by kernel_rfl
theorem q128_fnok:fnOk Tryd.f128 1=true:=by kernel_rfl
theorem q128_ok (p0:Addr) (K1:Int→PT) {w:World} (h:q128 p0 K1 w):Calls Tryd.prog 128 #[(.pointer (some p0))] w fun e w'=>∃r,e = .returned (resMk [.c (.I .u8)] r)∧K1 r w' :=
 of_eq Tryd.func128 q128_fnok (by kernel_rfl) (by kernel_rfl) (q128_eq p0 K1) h
def q129_L0 (n3:Int) (s5:Sl) (r7:Int) (R8:Int×Int→PT) (x9:Int×Int) (A10:(Int×Int)→PT):PT :=
 ixS 1 s5 x9.2 fun (p11:Addr)=>callP Tryd.prog 128 #[(.pointer (some p11))] [.c (.I .u8)] fun (r12:Int)=>cnd (decide (n3<r12)) (ixS 1 s5 x9.2 fun (p13:Addr)=>callP Tryd.prog 128 #[(.pointer (some p13))] [.c (.I .u8)] fun (r14:Int)=>req (0≤(IntKind.wrap .u8 (r7-r14)))<|ixS 1 s5 x9.2 fun (p15:Addr)=>callP Tryd.prog 126 #[(.pointer (some p15)),(.int .u8 n3)] [] fun (r16:Unit)=>A10 ((IntKind.wrap .i64 (x9.1+(IntKind.wrap .i64 ((shlI .i64 (1:Int) (IntKind.wrap .u8 (r7-n3)))-(shlI .i64 (1:Int) (IntKind.wrap .u8 (r7-r14))))))),(IntKind.wrap .u32 (x9.2-(1:Int))))) (R8 (x9.1,x9.2))
def q129_L1 (n3:Int) (s5:Sl) (R18:Int→PT) (x19:Int) (A20:Int→PT):PT :=
 ixS 1 s5 x19 fun (p21:Addr)=>callP Tryd.prog 128 #[(.pointer (some p21))] [.c (.I .u8)] fun (r22:Int)=>cnd (decide (r22=n3)) (A20 (IntKind.wrap .u32 (x19-(1:Int)))) (R18 x19)
def q129_L2 (p25:Addr) (R26:Unit→PT) (s27:Sl) (x28:Int) (A29:Int→PT):PT :=
 cnd (decide (x28<(s27.l:Int))) (ixA 1 13 p25 x28 fun (p30:Addr)=>st p30 (.int .u32 (4042322160:Int))<|A29 (IntKind.wrap .i64 (x28+(1:Int)))) (R26 ())
def q129_J3 (x33:(Int×Int)) (A34:(Int×Int)→PT) (x41:Int):PT :=
 A34 (x41,(IntKind.wrap .i64 (x33.2-(1:Int))))
def q129_X4 (n3:Int) (s5:Sl) (p25:Addr) (x33:(Int×Int)) (R35:Int→PT):PT :=
 ixS 1 s5 x33.2 fun (p36:Addr)=>callP Tryd.prog 128 #[(.pointer (some p36))] [.c (.I .u8)] fun (r37:Int)=>cnd (decide (x33.1≤r37)) (R35 x33.1) (ixS 1 s5 x33.2 fun (p38:Addr)=>callP Tryd.prog 128 #[(.pointer (some p38))] [.c (.I .u8)] fun (r39:Int)=>ixA 1 13 p25 (IntKind.wrap .u8 (n3-r39)) fun (p40:Addr)=>st p40 (.int .u32 (IntKind.wrap .u32 x33.2))<|R35 r39)
def q129_L5 (n3:Int) (s5:Sl) (p25:Addr) (R32:Unit→PT) (x33:Int×Int) (A34:(Int×Int)→PT):PT :=
 cnd (decide ((0:Int)≤x33.2)) (joinP (q129_X4 n3 s5 p25 x33) (q129_J3 x33 A34)) (R32 ())
def q129_J6 (x48:(Int)) (A49:Int→PT) (x59:Unit):PT :=
 A49 (IntKind.wrap .u8 (x48-(1:Int)))
def q129_X7 (s5:Sl) (p25:Addr) (R47:Int→PT) (x48:(Int)) (R50:Unit→PT):PT :=
 ixA 1 13 p25 x48 fun (p51:Addr)=>ld (.I .u32) p51 fun (n52:Int)=>ixA 1 13 p25 (IntKind.wrap .u8 (x48-(1:Int))) fun (p53:Addr)=>ld (.I .u32) p53 fun (n54:Int)=>cnd (decide (n52=(4042322160:Int))) (R50 ()) (cnd (decide (n54=(4042322160:Int))) (R47 x48) (ixS 1 s5 n52 fun (p55:Addr)=>callP Tryd.prog 123 #[(.pointer (some p55))] [.c (.I .u32)] fun (r56:Int)=>ixS 1 s5 n54 fun (p57:Addr)=>callP Tryd.prog 123 #[(.pointer (some p57))] [.c (.I .u32)] fun (r58:Int)=>cnd (decide (r56≤(IntKind.wrap .u32 ((2:Int)*r58)))) (R47 x48) (R50 ())))
def q129_L8 (s5:Sl) (p25:Addr) (R47:Int→PT) (x48:Int) (A49:Int→PT):PT :=
 cnd (decide ((1:Int)<x48)) (joinP (q129_X7 s5 p25 R47 x48) (q129_J6 x48 A49)) (R47 x48)
def q129_L9 (p25:Addr) (R61:Int→PT) (x62:Int) (A63:Int→PT):PT :=
 cnd (decide (x62≤(11:Int))) (ixA 1 13 p25 x62 fun (p64:Addr)=>ld (.I .u32) p64 fun (n65:Int)=>cnd (decide (n65=(4042322160:Int))) (A63 (IntKind.wrap .u8 (x62+(1:Int)))) (R61 x62)) (R61 x62)
def q129_J10 (n3:Int) (s5:Sl) (p25:Addr) (x44:(Int)) (A45:Int→PT) (x66:(Int)) (x73:Unit):PT :=
 drw<|ixA 1 13 p25 x66 fun (p74:Addr)=>ld (.I .u32) p74 fun (n75:Int)=>ixS 1 s5 n75 fun (p76:Addr)=>ixA 1 13 p25 x66 fun (p77:Addr)=>ld (.I .u32) p77 fun (n78:Int)=>ixS 1 s5 n78 fun (p79:Addr)=>callP Tryd.prog 128 #[(.pointer (some p79))] [.c (.I .u8)] fun (r80:Int)=>kp [(p74,(.int .u32 n75))]<|callP Tryd.prog 126 #[(.pointer (some p76)),(.int .u8 (IntKind.wrap .u8 ((1:Int)+r80)))] [] fun (r81:Unit)=>ixA 1 13 p25 x66 fun (p82:Addr)=>ld (.I .u32) p82 fun (n83:Int)=>cnd (decide (n83=(0:Int))) (ixA 1 13 p25 x66 fun (p84:Addr)=>st p84 (.int .u32 (4042322160:Int))<|A45 (IntKind.wrap .i64 (x44-(shlI .i64 (1:Int) (IntKind.wrap .u8 (x66-(1:Int))))))) (ixA 1 13 p25 x66 fun (p85:Addr)=>ld (.I .u32) p85 fun (n86:Int)=>ixA 1 13 p25 x66 fun (p87:Addr)=>st p87 (.int .u32 (IntKind.wrap .u32 (n86-(1:Int))))<|ixA 1 13 p25 x66 fun (p88:Addr)=>ld (.I .u32) p88 fun (n89:Int)=>ixS 1 s5 n89 fun (p90:Addr)=>callP Tryd.prog 128 #[(.pointer (some p90))] [.c (.I .u8)] fun (r91:Int)=>cnd (!decide (r91=(IntKind.wrap .u8 (n3-x66)))) (ixA 1 13 p25 x66 fun (p92:Addr)=>st p92 (.int .u32 (4042322160:Int))<|A45 (IntKind.wrap .i64 (x44-(shlI .i64 (1:Int) (IntKind.wrap .u8 (x66-(1:Int))))))) (A45 (IntKind.wrap .i64 (x44-(shlI .i64 (1:Int) (IntKind.wrap .u8 (x66-(1:Int))))))))
def q129_J11 (n3:Int) (s5:Sl) (p25:Addr) (x44:(Int)) (A45:Int→PT) (x66:Int):PT :=
 req (0≤(IntKind.wrap .u8 (x66-(1:Int))))<|joinP (fun R67=>ixA 1 13 p25 (IntKind.wrap .u8 (x66-(1:Int))) fun (p68:Addr)=>ld (.I .u32) p68 fun (n69:Int)=>cnd (decide (n69=(4042322160:Int))) (ixA 1 13 p25 x66 fun (p70:Addr)=>ld (.I .u32) p70 fun (n71:Int)=>ixA 1 13 p25 (IntKind.wrap .u8 (x66-(1:Int))) fun (p72:Addr)=>st p72 (.int .u32 n71)<|R67 ()) (R67 ())) (q129_J10 n3 s5 p25 x44 A45 x66)
def q129_J12 (n3:Int) (s5:Sl) (p25:Addr) (x44:(Int)) (A45:Int→PT) (x60:Int):PT :=
 joinP (fun R61=>loopP x60 (q129_L9 p25 R61)) (q129_J11 n3 s5 p25 x44 A45)
def q129_L13 (n3:Int) (s5:Sl) (p25:Addr) (R43:Int→PT) (x44:Int) (A45:Int→PT):PT :=
 cnd (decide ((0:Int)<x44)) (callP Tryd.prog 64 #[(.int .u32 (IntKind.wrap .u32 x44))] [.c (.I .u32)] fun (r46:Int)=>joinP (fun R47=>loopP (IntKind.wrap .u8 ((IntKind.wrap .u8 r46)+(1:Int))) (q129_L8 s5 p25 R47)) (q129_J12 n3 s5 p25 x44 A45)) (R43 x44)
def q129_L14 (n3:Int) (s5:Sl) (R99:Int→PT) (x100:Int) (A101:Int→PT):PT :=
 ixS 1 s5 x100 fun (p102:Addr)=>callP Tryd.prog 128 #[(.pointer (some p102))] [.c (.I .u8)] fun (r103:Int)=>cnd (decide (r103=n3)) (A101 (IntKind.wrap .u32 (x100-(1:Int)))) (R99 x100)
def q129_J15 (s5:Sl) (p25:Addr) (x94:(Int×Int)) (A95:(Int×Int)→PT) (x104:Int):PT :=
 drw<|ixS 1 s5 (IntKind.wrap .u32 (x104+(1:Int))) fun (p105:Addr)=>ixS 1 s5 (IntKind.wrap .u32 (x104+(1:Int))) fun (p106:Addr)=>callP Tryd.prog 128 #[(.pointer (some p106))] [.c (.I .u8)] fun (r107:Int)=>callP Tryd.prog 126 #[(.pointer (some p105)),(.int .u8 (IntKind.wrap .u8 (r107-(1:Int))))] [] fun (r108:Unit)=>ixA 1 13 p25 (1:Int) fun (p109:Addr)=>st p109 (.int .u32 (IntKind.wrap .u32 (x104+(1:Int))))<|A95 ((IntKind.wrap .i64 (x94.1+(1:Int))),x104)
def q129_J16 (s5:Sl) (p25:Addr) (A95:(Int×Int)→PT) (x110:Int×Int):PT :=
 drw<|ixA 1 13 p25 (1:Int) fun (p111:Addr)=>ld (.I .u32) p111 fun (n112:Int)=>ixS 1 s5 (IntKind.wrap .u32 (n112+(1:Int))) fun (p113:Addr)=>ixA 1 13 p25 (1:Int) fun (p114:Addr)=>ld (.I .u32) p114 fun (n115:Int)=>ixS 1 s5 (IntKind.wrap .u32 (n115+(1:Int))) fun (p116:Addr)=>callP Tryd.prog 128 #[(.pointer (some p116))] [.c (.I .u8)] fun (r117:Int)=>kp [(p111,(.int .u32 n112))]<|callP Tryd.prog 126 #[(.pointer (some p113)),(.int .u8 (IntKind.wrap .u8 (r117-(1:Int))))] [] fun (r118:Unit)=>ixA 1 13 p25 (1:Int) fun (p119:Addr)=>ld (.I .u32) p119 fun (n120:Int)=>ixA 1 13 p25 (1:Int) fun (p121:Addr)=>st p121 (.int .u32 (IntKind.wrap .u32 (n120+(1:Int))))<|A95 ((IntKind.wrap .i64 (x110.1+(1:Int))),x110.2)
def q129_L17 (n3:Int) (s5:Sl) (R24:Unit→PT) (p25:Addr) (x94:Int×Int) (A95:(Int×Int)→PT):PT :=
 cnd (decide (x94.1<(0:Int))) (joinP (fun R96=>ixA 1 13 p25 (1:Int) fun (p97:Addr)=>ld (.I .u32) p97 fun (n98:Int)=>cnd (decide (n98=(4042322160:Int))) (joinP (fun R99=>loopP x94.2 (q129_L14 n3 s5 R99)) (q129_J15 s5 p25 x94 A95)) (R96 (x94.1,x94.2))) (q129_J16 s5 p25 A95)) (R24 ())
def q129_J18 (n3:Int) (s5:Sl) (x23:(Int)) (R24:Unit→PT) (p25:Addr) (x93:Int):PT :=
 loopP (x93,x23) (q129_L17 n3 s5 R24 p25)
def q129_J19 (n3:Int) (s5:Sl) (r7:Int) (x17:(Int×Int)) (x23:(Int)) (R24:Unit→PT) (p25:Addr) (x42:Unit):PT :=
 joinP (fun R43=>loopP (shrI .i64 x17.1 (IntKind.wrap .u8 (r7-n3))) (q129_L13 n3 s5 p25 R43)) (q129_J18 n3 s5 x23 R24 p25)
def q129_J20 (n3:Int) (s5:Sl) (r7:Int) (x17:(Int×Int)) (x23:(Int)) (R24:Unit→PT) (p25:Addr) (x31:Unit):PT :=
 joinP (fun R32=>loopP (n3,(IntKind.wrap .i64 x23)) (q129_L5 n3 s5 p25 R32)) (q129_J19 n3 s5 r7 x17 x23 R24 p25)
def q129_J21 (K2:Int→PT) (n3:Int) (x122:Unit):PT :=
 K2 n3
def q129_J22 (K2:Int→PT) (n3:Int) (s5:Sl) (r7:Int) (x17:(Int×Int)) (x23:Int):PT :=
 req (0≤(IntKind.wrap .u8 (r7-n3)))<|joinP (fun R24=>nw z233 233 fun (p25:Addr)=>joinP (fun R26=>slcA 1 13 p25 none none none fun (s27:Sl)=>loopP (0:Int) (q129_L2 p25 R26 s27)) (q129_J20 n3 s5 r7 x17 x23 R24 p25)) (q129_J21 K2 n3)
def q129_J23 (K2:Int→PT) (n3:Int) (s5:Sl) (r7:Int) (x17:Int×Int):PT :=
 joinP (fun R18=>loopP x17.2 (q129_L1 n3 s5 R18)) (q129_J22 K2 n3 s5 r7 x17)
def q129 (p0:Addr) (n1:Int) (K2:Int→PT):PT :=
 ld (.I .u8) (Addr.add p0 268) fun (n3:Int)=>ld .S (Addr.add p0 273) fun (s4:Sl)=>slc 1 s4 (some (1:Int)) (some (513:Int)) none fun (s5:Sl)=>ixS 1 s5 n1 fun (p6:Addr)=>callP Tryd.prog 128 #[(.pointer (some p6))] [.c (.I .u8)] fun (r7:Int)=>cnd (decide (r7≤n3)) (K2 r7) (req (0≤(IntKind.wrap .u8 (r7-n3)))<|joinP (fun R8=>loopP ((0:Int),(IntKind.wrap .u32 n1)) (q129_L0 n3 s5 r7 R8)) (q129_J23 K2 n3 s5 r7))
def h129:Hint:=⟨(.n (.n (.n (.n (.n .e 511 ([(8,.c (.I .i64)),(10,.c (.I .u32))],[7,6,5]) .e) 1023 ([(10,.c (.I .u32))],[8,7,6,5]) .e) 2044 ([(8,.c (.I .i64)),(10,.c (.I .u32))],[5,6,7,9]) (.n (.n .e 4092 ([(10,.c (.I .u32))],[8,7,6,5]) .e) 4095 ([],[5]) .e)) 16381 ([],[6,5,11,8,10]) (.n (.n (.n .e 32763 ([],[11,6,5,8,10]) .e) 65527 ([(8,.c (.I .i64))],[5,11,6,10]) .e) 131050 ([(82,.c (.I .i64))],[11,6,5,8,10,81]) (.n (.n .e 262108 ([(8,.c (.I .i64))],[11,6,5,10]) .e) 262110 ([(8,.c (.I .i64)),(10,.c (.I .u32))],[5,11,6]) .e))) 524214 ([(13,.c (.I .u8)),(14,.c (.I .i64))],[6,5,11,8,10]) (.n (.n (.n (.n .e 2096857 ([(13,.c (.I .u8))],[14,6,5,11,8,10]) .e) 2096882 ([(8,.c (.I .i64)),(10,.c (.I .u32))],[5,11,6]) .e) 4193733 ([(15,.c (.I .u8))],[8,11,6,5,10]) (.n (.n .e 8387467 ([(15,.c (.I .u8))],[8,11,6,5,10]) .e) 16774932 ([(15,.c (.I .u8))],[8,11,6,5,10]) .e)) 16775058 ([(10,.c (.I .u32))],[8,5,11,6]) (.n (.n (.n .e 33549868 ([(15,.c (.I .u8))],[8,11,6,5,10]) .e) 33549871 ([],[15,11,6,5,8,10]) .e) 67099729 ([],[15,8,11,6,5,10]) (.n .e 67100232 ([(10,.c (.I .u32))],[8,5,11,6]) .e)))),.e⟩
theorem q129_eq (p0:Addr) (n1:Int) (K2:Int→PT):fnE Cx h129 [.c (.I .u8)] Tryd.f129 [.pt p0,.v (.int .i64 n1)] K2=q129 p0 n1 K2:=by kernel_rfl
theorem q129_fnok:fnOk Tryd.f129 2=true:=by kernel_rfl
theorem q129_ok (p0:Addr) (n1:Int) (K2:Int→PT) {w:World} (h:q129 p0 n1 K2 w):Calls Tryd.prog 129 #[(.pointer (some p0)),(.int .i64 n1)] w fun e w'=>∃r,e = .returned (resMk [.c (.I .u8)] r)∧K2 r w' :=
 of_eq Tryd.func129 q129_fnok (by kernel_rfl) (by kernel_rfl) (q129_eq p0 n1 K2) h
def q130 (p0:Addr) (K1:Int→PT):PT :=
 ld (.I .u64) p0 fun (n2:Int)=>req (0≤(48:Int))<|K1 (IntKind.wrap .u8 (shrI .u64 n2 (48:Int)))
def h130:Hint:=⟨.e,.e⟩
theorem q130_eq (p0:Addr) (K1:Int→PT):fnE Cx h130 [.c (.I .u8)] Tryd.f130 [.pt p0] K1=q130 p0 K1:=by kernel_rfl
theorem q130_fnok:fnOk Tryd.f130 1=true:=by kernel_rfl
theorem q130_ok (p0:Addr) (K1:Int→PT) {w:World} (h:q130 p0 K1 w):Calls Tryd.prog 130 #[(.pointer (some p0))] w fun e w'=>∃r,e = .returned (resMk [.c (.I .u8)] r)∧K1 r w' :=
 of_eq Tryd.func130 q130_fnok (by kernel_rfl) (by kernel_rfl) (q130_eq p0 K1) h
def q135 (p0:Addr) (K1:Int→PT):PT :=
 ldL [.S,(.I .i64)] (Addr.add p0 512) 0 fun (r2:(Sl×Int))=>callP Tryd.prog 93 #[(.agg ⟨[(.slice r2.1.a r2.1.l r2.1.c),(.int .i64 r2.2)]⟩)] [.c (.I .i64)] fun (r3:Int)=>callP Tryd.prog 98 #[(.int .u32 (IntKind.wrap .u32 (IntKind.wrap .i64 (r3-(1:Int)))))] [.c (.I .u32)] fun (r4:Int)=>ld (.I .u16) (Addr.add p0 528) fun (n5:Int)=>callP Tryd.prog 98 #[(.int .u32 (IntKind.wrap .u32 (IntKind.wrap .u16 (n5-(1:Int)))))] [.c (.I .u32)] fun (r6:Int)=>cnd (decide ((IntKind.wrap .u32 (r4+(1:Int)))<(IntKind.wrap .u32 (r6+(2:Int))))) (K1 (IntKind.wrap .u8 (IntKind.wrap .u32 (r4+(1:Int))))) (K1 (IntKind.wrap .u8 (IntKind.wrap .u32 (r6+(2:Int)))))
def h135:Hint:=⟨.e,.e⟩
theorem q135_eq (p0:Addr) (K1:Int→PT):fnE Cx h135 [.c (.I .u8)] Tryd.f135 [.pt p0] K1=q135 p0 K1:=by kernel_rfl
theorem q135_fnok:fnOk Tryd.f135 1=true:=by kernel_rfl
theorem q135_ok (p0:Addr) (K1:Int→PT) {w:World} (h:q135 p0 K1 w):Calls Tryd.prog 135 #[(.pointer (some p0))] w fun e w'=>∃r,e = .returned (resMk [.c (.I .u8)] r)∧K1 r w' :=
 of_eq Tryd.func135 q135_fnok (by kernel_rfl) (by kernel_rfl) (q135_eq p0 K1) h
def q136_J0 (x8:(Int×Int×Int)) (A9:(Int×Int×Int)→PT) (x17:Int×Int):PT :=
 A9 (x17.1,x17.2,(IntKind.wrap .i64 (x8.2.2+(1:Int))))
def q136_X1 (p0:Addr) (r3:Int) (n4:Int) (s7:Sl) (x8:(Int×Int×Int)) (R10:(Int×Int)→PT):PT :=
 ixS 1 s7 x8.2.2 fun (p11:Addr)=>ld (.I .u32) p11 fun (n12:Int)=>cnd (decide (n12=(0:Int))) (ixA 1 256 (Addr.add p0 256) x8.2.2 fun (p13:Addr)=>st p13 (.int .i16 (0:Int))<|R10 (x8.1,x8.2.1)) (cnd (decide (n12≤(shrI .u32 (IntKind.wrap .u32 r3) n4))) (ixA 1 256 (Addr.add p0 256) x8.2.2 fun (p14:Addr)=>st p14 (.int .i16 (-1:Int))<|R10 ((IntKind.wrap .u32 (x8.1+(1:Int))),(IntKind.wrap .u32 (x8.2.1-n12)))) (cnd (decide (n12≤(shrI .u32 (IntKind.wrap .u32 ((IntKind.wrap .u32 r3)*(3:Int))) (IntKind.wrap .u8 (n4+(1:Int)))))) (ixA 1 256 (Addr.add p0 256) x8.2.2 fun (p15:Addr)=>st p15 (.int .i16 (1:Int))<|R10 ((IntKind.wrap .u32 (x8.1+(1:Int))),(IntKind.wrap .u32 (x8.2.1-n12)))) (ixA 1 256 (Addr.add p0 256) x8.2.2 fun (p16:Addr)=>st p16 (.int .i16 (-2:Int))<|R10 (x8.1,x8.2.1))))
def q136_L2 (p0:Addr) (r3:Int) (n4:Int) (R5:Int×Int→PT) (s7:Sl) (x8:Int×Int×Int) (A9:(Int×Int×Int)→PT):PT :=
 cnd (decide (x8.2.2<(s7.l:Int))) (joinP (q136_X1 p0 r3 n4 s7 x8) (q136_J0 x8 A9)) (R5 (x8.1,x8.2.1))
def q136_J3 (x23:(Int×Int×Int)) (A24:(Int×Int×Int)→PT) (x31:Int×Int):PT :=
 A24 (x31.1,x31.2,(IntKind.wrap .i64 (x23.2.2+(1:Int))))
def q136_X4 (p0:Addr) (n4:Int) (x18:(Int×Int)) (s22:Sl) (x23:(Int×Int×Int)) (R25:(Int×Int)→PT):PT :=
 ixS 1 s22 x23.2.2 fun (p26:Addr)=>ld (.I .u32) p26 fun (n27:Int)=>ixA 1 256 (Addr.add p0 256) x23.2.2 fun (p28:Addr)=>ld (.I .i16) p28 fun (n29:Int)=>cnd (decide (n29=(-2:Int))) (cnd (decide (n27≤(quoI .u32 (IntKind.wrap .u32 (x18.2*(3:Int))) (IntKind.wrap .u32 ((IntKind.wrap .u32 ((shlI .u32 (1:Int) n4)-x18.1))*(2:Int)))))) (ixA 1 256 (Addr.add p0 256) x23.2.2 fun (p30:Addr)=>st p30 (.int .i16 (1:Int))<|R25 ((IntKind.wrap .u32 (x23.1+(1:Int))),(IntKind.wrap .u32 (x23.2.1-n27)))) (R25 (x23.1,x23.2.1))) (R25 (x23.1,x23.2.1))
def q136_L5 (p0:Addr) (n4:Int) (x18:(Int×Int)) (R20:Int×Int→PT) (s22:Sl) (x23:Int×Int×Int) (A24:(Int×Int×Int)→PT):PT :=
 cnd (decide (x23.2.2<(s22.l:Int))) (joinP (q136_X4 p0 n4 x18 s22 x23) (q136_J3 x23 A24)) (R20 (x23.1,x23.2.1))
def q136_J6 (n4:Int) (R19:Int×Int×Int→PT) (x32:Int×Int):PT :=
 req (0≤n4)<|R19 (x32.1,x32.2,(IntKind.wrap .u32 ((shlI .u32 (1:Int) n4)-x32.1)))
def q136_J7 (x39:(Int×Int×Int)) (A40:(Int×Int×Int)→PT) (x44:Int×Int):PT :=
 A40 (x44.1,x44.2,(IntKind.wrap .i64 (x39.2.2+(1:Int))))
def q136_L8 (R36:Int→PT) (s38:Sl) (x39:Int×Int×Int) (A40:(Int×Int×Int)→PT):PT :=
 cnd (decide (x39.2.2<(s38.l:Int))) (joinP (fun R41=>ixS 1 s38 x39.2.2 fun (p42:Addr)=>ld (.I .u32) p42 fun (n43:Int)=>cnd (decide (x39.2.1<n43)) (R41 (x39.2.2,n43)) (R41 (x39.1,x39.2.1))) (q136_J7 x39 A40)) (R36 x39.1)
def q136_J9 (p0:Addr) (K1:(Value)→PT) (x33:(Int×Int×Int)) (x45:Int):PT :=
 drw<|ixA 1 256 (Addr.add p0 256) x45 fun (p46:Addr)=>ld (.I .i16) p46 fun (n47:Int)=>ixA 1 256 (Addr.add p0 256) x45 fun (p48:Addr)=>st p48 (.int .i16 (IntKind.wrap .i16 (n47+(IntKind.wrap .i16 x33.2.2))))<|K1 .nilIface
def q136_J10 (p0:Addr) (x52:(Int×Int)) (A53:(Int×Int)→PT) (x60:Int):PT :=
 ld (.I .u16) (Addr.add p0 528) fun (n61:Int)=>req ((IntKind.wrap .u32 n61)≠0)<|A53 (x60,(Int.tmod (IntKind.wrap .u32 (x52.2+(1:Int))) (IntKind.wrap .u32 n61)))
def q136_X11 (p0:Addr) (x52:(Int×Int)) (R54:Int→PT):PT :=
 ixA 1 256 (Addr.add p0 256) x52.2 fun (p55:Addr)=>ld (.I .i16) p55 fun (n56:Int)=>cnd (decide ((0:Int)<n56)) (drw<|ixA 1 256 (Addr.add p0 256) x52.2 fun (p57:Addr)=>ld (.I .i16) p57 fun (n58:Int)=>ixA 1 256 (Addr.add p0 256) x52.2 fun (p59:Addr)=>st p59 (.int .i16 (IntKind.wrap .i16 (n58+(1:Int))))<|R54 (IntKind.wrap .u32 (x52.1-(1:Int)))) (R54 x52.1)
def q136_L12 (p0:Addr) (R51:Unit→PT) (x52:Int×Int) (A53:(Int×Int)→PT):PT :=
 cnd (decide ((0:Int)<x52.1)) (joinP (q136_X11 p0 x52) (q136_J10 p0 x52 A53)) (R51 ())
def q136_J13 (K1:(Value)→PT) (x62:Unit):PT :=
 K1 .nilIface
def q136_J14 (x67:(Int×Int)) (A68:(Int×Int)→PT) (x76:Int):PT :=
 A68 (x76,(IntKind.wrap .i64 (x67.2+(1:Int))))
def q136_X15 (p0:Addr) (K1:(Value)→PT) (n4:Int) (x33:(Int×Int×Int)) (x63:(Int)) (s66:Sl) (x67:(Int×Int)) (R69:Int→PT):PT :=
 ixS 1 s66 x67.2 fun (p70:Addr)=>ld (.I .u32) p70 fun (n71:Int)=>ixA 1 256 (Addr.add p0 256) x67.2 fun (p72:Addr)=>ld (.I .i16) p72 fun (n73:Int)=>cnd (decide (n73=(-2:Int))) (req (0≤(IntKind.wrap .u64 ((62:Int)-(IntKind.wrap .u64 n4))))<|req (0≤(IntKind.wrap .u64 ((62:Int)-(IntKind.wrap .u64 n4))))<|cnd (decide ((IntKind.wrap .u32 ((IntKind.wrap .u32 (shrI .u64 (IntKind.wrap .u64 (x67.1+(IntKind.wrap .u64 ((IntKind.wrap .u64 n71)*(quoI .u64 (IntKind.wrap .u64 ((IntKind.wrap .u64 ((shlI .u64 (1:Int) (IntKind.wrap .u64 ((62:Int)-(IntKind.wrap .u64 n4))))*(IntKind.wrap .u64 x63)))+(IntKind.wrap .u64 ((shlI .u64 (1:Int) (IntKind.wrap .u64 ((IntKind.wrap .u64 ((62:Int)-(IntKind.wrap .u64 n4)))-(1:Int))))-(1:Int))))) (IntKind.wrap .u64 x33.2.1)))))) (IntKind.wrap .u64 ((62:Int)-(IntKind.wrap .u64 n4)))))-(IntKind.wrap .u32 (shrI .u64 x67.1 (IntKind.wrap .u64 ((62:Int)-(IntKind.wrap .u64 n4)))))))<(1:Int))) (callP Tryd.prog 62 #[(.string ⟨#[119,101,105,103,104,116,32,60,32,49]⟩)] [.c .V] fun (r74:Value)=>K1 r74) (ixA 1 256 (Addr.add p0 256) x67.2 fun (p75:Addr)=>st p75 (.int .i16 (IntKind.wrap .i16 (IntKind.wrap .u32 ((IntKind.wrap .u32 (shrI .u64 (IntKind.wrap .u64 (x67.1+(IntKind.wrap .u64 ((IntKind.wrap .u64 n71)*(quoI .u64 (IntKind.wrap .u64 ((IntKind.wrap .u64 ((shlI .u64 (1:Int) (IntKind.wrap .u64 ((62:Int)-(IntKind.wrap .u64 n4))))*(IntKind.wrap .u64 x63)))+(IntKind.wrap .u64 ((shlI .u64 (1:Int) (IntKind.wrap .u64 ((IntKind.wrap .u64 ((62:Int)-(IntKind.wrap .u64 n4)))-(1:Int))))-(1:Int))))) (IntKind.wrap .u64 x33.2.1)))))) (IntKind.wrap .u64 ((62:Int)-(IntKind.wrap .u64 n4)))))-(IntKind.wrap .u32 (shrI .u64 x67.1 (IntKind.wrap .u64 ((62:Int)-(IntKind.wrap .u64 n4)))))))))<|R69 (IntKind.wrap .u64 (x67.1+(IntKind.wrap .u64 ((IntKind.wrap .u64 n71)*(quoI .u64 (IntKind.wrap .u64 ((IntKind.wrap .u64 ((shlI .u64 (1:Int) (IntKind.wrap .u64 ((62:Int)-(IntKind.wrap .u64 n4))))*(IntKind.wrap .u64 x63)))+(IntKind.wrap .u64 ((shlI .u64 (1:Int) (IntKind.wrap .u64 ((IntKind.wrap .u64 ((62:Int)-(IntKind.wrap .u64 n4)))-(1:Int))))-(1:Int))))) (IntKind.wrap .u64 x33.2.1)))))))) (R69 x67.1)
def q136_L16 (p0:Addr) (K1:(Value)→PT) (n4:Int) (x33:(Int×Int×Int)) (x63:(Int)) (R64:Unit→PT) (s66:Sl) (x67:Int×Int) (A68:(Int×Int)→PT):PT :=
 cnd (decide (x67.2<(s66.l:Int))) (joinP (q136_X15 p0 K1 n4 x33 x63 s66 x67) (q136_J14 x67 A68)) (R64 ())
def q136_J17 (K1:(Value)→PT) (x77:Unit):PT :=
 K1 .nilIface
def q136_J18 (p0:Addr) (K1:(Value)→PT) (n4:Int) (x33:(Int×Int×Int)) (x63:Int):PT :=
 req (0≤(IntKind.wrap .u64 ((IntKind.wrap .u64 ((62:Int)-(IntKind.wrap .u64 n4)))-(1:Int))))<|req (0≤(IntKind.wrap .u64 ((62:Int)-(IntKind.wrap .u64 n4))))<|req ((IntKind.wrap .u64 x33.2.1)≠0)<|joinP (fun R64=>drw<|ld (.I .u16) (Addr.add p0 528) fun (n65:Int)=>slcA 1 256 p0 none (some n65) none fun (s66:Sl)=>loopP ((IntKind.wrap .u64 ((shlI .u64 (1:Int) (IntKind.wrap .u64 ((IntKind.wrap .u64 ((62:Int)-(IntKind.wrap .u64 n4)))-(1:Int))))-(1:Int))),(0:Int)) (q136_L16 p0 K1 n4 x33 x63 R64 s66)) (q136_J17 K1)
def q136_J19 (p0:Addr) (K1:(Value)→PT) (n4:Int) (x33:(Int×Int×Int)) (x49:Unit):PT :=
 joinP (fun R50=>cnd (decide (x33.2.1=(0:Int))) (joinP (fun R51=>loopP (x33.2.2,(0:Int)) (q136_L12 p0 R51)) (q136_J13 K1)) (R50 x33.2.2)) (q136_J18 p0 K1 n4 x33)
def q136_J20 (p0:Addr) (K1:(Value)→PT) (n4:Int) (x33:Int×Int×Int):PT :=
 joinP (fun R34=>ld (.I .u16) (Addr.add p0 528) fun (n35:Int)=>cnd (decide (x33.1=(IntKind.wrap .u32 ((IntKind.wrap .u32 n35)+(1:Int))))) (joinP (fun R36=>drw<|ld (.I .u16) (Addr.add p0 528) fun (n37:Int)=>slcA 1 256 p0 none (some n37) none fun (s38:Sl)=>loopP ((0:Int),(0:Int),(0:Int)) (q136_L8 R36 s38)) (q136_J9 p0 K1 x33)) (R34 ())) (q136_J19 p0 K1 n4 x33)
def q136_X21 (p0:Addr) (r3:Int) (n4:Int) (x18:(Int×Int)) (R19:(Int×Int×Int)→PT):PT :=
 req ((IntKind.wrap .u32 ((shlI .u32 (1:Int) n4)-x18.1))≠0)<|cnd (decide ((shrI .u32 (IntKind.wrap .u32 ((IntKind.wrap .u32 r3)*(3:Int))) (IntKind.wrap .u8 (n4+(1:Int))))<(quoI .u32 x18.2 (IntKind.wrap .u32 ((shlI .u32 (1:Int) n4)-x18.1))))) (req ((IntKind.wrap .u32 ((IntKind.wrap .u32 ((shlI .u32 (1:Int) n4)-x18.1))*(2:Int)))≠0)<|joinP (fun R20=>drw<|ld (.I .u16) (Addr.add p0 528) fun (n21:Int)=>slcA 1 256 p0 none (some n21) none fun (s22:Sl)=>loopP (x18.1,x18.2,(0:Int)) (q136_L5 p0 n4 x18 R20 s22)) (q136_J6 n4 R19)) (R19 (x18.1,x18.2,(IntKind.wrap .u32 ((shlI .u32 (1:Int) n4)-x18.1))))
def q136_J22 (p0:Addr) (K1:(Value)→PT) (r3:Int) (n4:Int) (x18:Int×Int):PT :=
 req (0≤n4)<|joinP (q136_X21 p0 r3 n4 x18) (q136_J20 p0 K1 n4)
def q136 (p0:Addr) (K1:(Value)→PT):PT :=
 ldL [.S,(.I .i64)] (Addr.add p0 512) 0 fun (r2:(Sl×Int))=>callP Tryd.prog 93 #[(.agg ⟨[(.slice r2.1.a r2.1.l r2.1.c),(.int .i64 r2.2)]⟩)] [.c (.I .i64)] fun (r3:Int)=>ld (.I .u8) (Addr.add p0 529) fun (n4:Int)=>req (0≤n4)<|req (0≤(IntKind.wrap .u8 (n4+(1:Int))))<|joinP (fun R5=>drw<|ld (.I .u16) (Addr.add p0 528) fun (n6:Int)=>slcA 1 256 p0 none (some n6) none fun (s7:Sl)=>loopP ((0:Int),(IntKind.wrap .u32 r3),(0:Int)) (q136_L2 p0 r3 n4 R5 s7)) (q136_J22 p0 K1 r3 n4)
def h136:Hint:=⟨(.n (.n (.n (.n (.n .e 127 ([(3,.c (.I .u32)),(4,.c (.I .u32))],[7,0,5]) .e) 511 ([(3,.c (.I .u32)),(4,.c (.I .u32)),(10,.c (.I .u32))],[5,0]) .e) 1018 ([(3,.c (.I .u32)),(4,.c (.I .u32)),(55,.c (.I .i64))],[0,6,7,53,5,54]) (.n .e 1023 ([],[4,5,0,10]) .e)) 2047 ([(10,.c (.I .u32))],[5,4,0]) (.n (.n (.n .e 8147 ([(3,.c (.I .u32)),(4,.c (.I .u32))],[55,0,6,7,53,5,54]) .e) 8181 ([(3,.c (.I .u32)),(4,.c (.I .u32))],[5,0]) .e) 16378 ([],[]) (.n .e 32747 ([(13,.c (.I .i64))],[0,10]) .e))) 65450 ([(3,.c (.I .u32)),(4,.c (.I .u32)),(122,.c (.I .i64))],[0,7,120,5,121]) (.n (.n (.n (.n .e 65535 ([],[]) .e) 131026 ([(10,.c (.I .u32)),(17,.c (.I .u32))],[0]) .e) 261978 ([(13,.c (.I .i64)),(14,.c (.I .u32)),(171,.c (.I .i64))],[169,0,10,170]) (.n .e 523603 ([(3,.c (.I .u32)),(4,.c (.I .u32))],[122,0,7,120,5,121]) .e)) 524105 ([(10,.c (.I .u32))],[17,0]) (.n (.n .e 524282 ([(21,.c (.I .u64)),(252,.c (.I .i64))],[0,18,20,250,251]) .e) 2095827 ([(13,.c (.I .i64)),(14,.c (.I .u32))],[171,169,0,10,170]) (.n .e 4194259 ([(21,.c (.I .u64))],[252,0,18,20,250,251]) .e)))),.e⟩
theorem q136_eq (p0:Addr) (K1:(Value)→PT):fnE Cx h136 [.c .V] Tryd.f136 [.pt p0] K1=q136 p0 K1:=by kernel_rfl
theorem q136_fnok:fnOk Tryd.f136 1=true:=by kernel_rfl
theorem q136_ok (p0:Addr) (K1:(Value)→PT) {w:World} (h:q136 p0 K1 w):Calls Tryd.prog 136 #[(.pointer (some p0))] w fun e w'=>∃r,e = .returned (resMk [.c .V] r)∧K1 r w' :=
 of_eq Tryd.func136 q136_fnok (by kernel_rfl) (by kernel_rfl) (q136_eq p0 K1) h
def q137_J0 (p0:Addr) (K1:Unit→PT) (x18:Unit):PT :=
 ld .S (Addr.add (Addr.add p0 521) 2) fun (s19:Sl)=>slc 2 s19 none (some (256:Int)) none fun (s20:Sl)=>st (Addr.add (Addr.add p0 521) 2) (.slice s20.a s20.l s20.c)<|K1 ()
def q137_J1 (p0:Addr) (K1:Unit→PT) (n2:Int) (x12:Unit):PT :=
 ld .S (Addr.add (Addr.add p0 521) 1) fun (s13:Sl)=>slc 1 s13 none (some (shlI .i64 (1:Int) n2)) none fun (s14:Sl)=>st (Addr.add (Addr.add p0 521) 1) (.slice s14.a s14.l s14.c)<|joinP (fun R15=>ld .S (Addr.add (Addr.add p0 521) 2) fun (s16:Sl)=>cnd (decide ((s16.c:Int)<(256:Int))) (mks z210 210 8 (256:Int) (256:Int) fun (s17:Sl)=>st (Addr.add (Addr.add p0 521) 2) (.slice s17.a s17.l s17.c)<|R15 ()) (R15 ())) (q137_J0 p0 K1)
def q137_J2 (p0:Addr) (K1:Unit→PT) (n2:Int) (x6:Unit):PT :=
 ld .S (Addr.add p0 521) fun (s7:Sl)=>slc 1 s7 none (some (shlI .i64 (1:Int) n2)) none fun (s8:Sl)=>st (Addr.add p0 521) (.slice s8.a s8.l s8.c)<|joinP (fun R9=>ld .S (Addr.add (Addr.add p0 521) 1) fun (s10:Sl)=>cnd (decide ((s10.c:Int)<(shlI .i64 (1:Int) n2))) (mks z81 81 2 (shlI .i64 (1:Int) n2) (shlI .i64 (1:Int) n2) fun (s11:Sl)=>st (Addr.add (Addr.add p0 521) 1) (.slice s11.a s11.l s11.c)<|R9 ()) (R9 ())) (q137_J1 p0 K1 n2)
def q137 (p0:Addr) (K1:Unit→PT):PT :=
 ld (.I .u8) (Addr.add p0 529) fun (n2:Int)=>req (0≤n2)<|joinP (fun R3=>ld .S (Addr.add p0 521) fun (s4:Sl)=>cnd (decide ((s4.c:Int)<(shlI .i64 (1:Int) n2))) (mks z5 5 1 (shlI .i64 (1:Int) n2) (shlI .i64 (1:Int) n2) fun (s5:Sl)=>st (Addr.add p0 521) (.slice s5.a s5.l s5.c)<|R3 ()) (R3 ())) (q137_J2 p0 K1 n2)
def h137:Hint:=⟨(.n (.n .e 3 ([],[2,0]) .e) 31 ([],[3,0]) (.n .e 127 ([],[0]) .e)),.e⟩
theorem q137_eq (p0:Addr) (K1:Unit→PT):fnE Cx h137 [] Tryd.f137 [.pt p0] K1=q137 p0 K1:=by kernel_rfl
theorem q137_fnok:fnOk Tryd.f137 1=true:=by kernel_rfl
theorem q137_ok (p0:Addr) (K1:Unit→PT) {w:World} (h:q137 p0 K1 w):Calls Tryd.prog 137 #[(.pointer (some p0))] w fun e w'=>∃r,e = .returned (resMk [] r)∧K1 r w' :=
 of_eq Tryd.func137 q137_fnok (by kernel_rfl) (by kernel_rfl) (q137_eq p0 K1) h
def q138 (p0:Addr) (s1:Sl) (K2:Unit→PT):PT :=
 st p0 (.int .u64 (0:Int))<|st (Addr.add p0 1) (.int .u8 (0:Int))<|st (Addr.add p0 2) (.slice s1.a s1.l s1.c)<|K2 ()
def h138:Hint:=⟨.e,.e⟩
theorem q138_eq (p0:Addr) (s1:Sl) (K2:Unit→PT):fnE Cx h138 [] Tryd.f138 [.pt p0,.v (.slice s1.a s1.l s1.c)] K2=q138 p0 s1 K2:=by kernel_rfl
theorem q138_fnok:fnOk Tryd.f138 2=true:=by kernel_rfl
theorem q138_ok (p0:Addr) (s1:Sl) (K2:Unit→PT) {w:World} (h:q138 p0 s1 K2 w):Calls Tryd.prog 138 #[(.pointer (some p0)),(.slice s1.a s1.l s1.c)] w fun e w'=>∃r,e = .returned (resMk [] r)∧K2 r w' :=
 of_eq Tryd.func138 q138_fnok (by kernel_rfl) (by kernel_rfl) (q138_eq p0 s1 K2) h
def q139 (p0:Addr) (o1:Option Addr) (o2:Option Addr) (n3:Int) (r4:(Int×Int)) (K5:Unit→PT):PT :=
 nw [(.int .i32 r4.1),(.int .u32 r4.2)] 210 fun (p6:Addr)=>st p0 (.pointer o1)<|nz o2 fun (p7:Addr)=>ld .S (Addr.add p7 1) fun (s8:Sl)=>st (Addr.add p0 1) (.slice s8.a s8.l s8.c)<|ld (.I .u32) (Addr.add p6 1) fun (n9:Int)=>req (0≤(16:Int))<|req (0≤(16:Int))<|ld (.I .u32) (Addr.add p6 1) fun (n10:Int)=>req (0≤(shrI .u32 (IntKind.wrap .u32 (n9+(32768:Int))) (16:Int)))<|ld (.I .i32) p6 fun (n11:Int)=>ld .S (Addr.add p0 1) fun (s12:Sl)=>ixS 1 s12 (IntKind.wrap .i32 ((shrI .i32 (IntKind.wrap .i32 (IntKind.wrap .u32 ((shlI .u32 (shrI .u32 (IntKind.wrap .u32 (n9+(32768:Int))) (16:Int)) (16:Int))-n10))) (shrI .u32 (IntKind.wrap .u32 (n9+(32768:Int))) (16:Int)))+n11)) fun (p13:Addr)=>ld (.I .u16) p13 fun (n14:Int)=>st (Addr.add p0 2) (.int .u16 n14)<|K5 ()
def h139:Hint:=⟨.e,.e⟩
theorem q139_eq (p0:Addr) (o1:Option Addr) (o2:Option Addr) (n3:Int) (r4:(Int×Int)) (K5:Unit→PT):fnE Cx h139 [] Tryd.f139 [.pt p0,.v (.pointer o1),.v (.pointer o2),.v (.int .u8 n3),.v (.agg ⟨[(.int .i32 r4.1),(.int .u32 r4.2)]⟩)] K5=q139 p0 o1 o2 n3 r4 K5:=by kernel_rfl
theorem q139_fnok:fnOk Tryd.f139 5=true:=by kernel_rfl
theorem q139_ok (p0:Addr) (o1:Option Addr) (o2:Option Addr) (n3:Int) (r4:(Int×Int)) (K5:Unit→PT) {w:World} (h:q139 p0 o1 o2 n3 r4 K5 w):Calls Tryd.prog 139 #[(.pointer (some p0)),(.pointer o1),(.pointer o2),(.int .u8 n3),(.agg ⟨[(.int .i32 r4.1),(.int .u32 r4.2)]⟩)] w fun e w'=>∃r,e = .returned (resMk [] r)∧K5 r w' :=
 of_eq Tryd.func139 q139_fnok (by kernel_rfl) (by kernel_rfl) (q139_eq p0 o1 o2 n3 r4 K5) h
def q140 (p0:Addr) (r1:(Int×Int)) (K2:Unit→PT):PT :=
 nw [(.int .i32 r1.1),(.int .u32 r1.2)] 210 fun (p3:Addr)=>drw<|ld (.I .u16) (Addr.add p0 2) fun (n4:Int)=>ld (.I .u32) (Addr.add p3 1) fun (n5:Int)=>req (0≤(16:Int))<|drw<|ld (.I .u16) (Addr.add p0 2) fun (n6:Int)=>req (0≤(andI .u32 (shrI .u32 (IntKind.wrap .u32 ((IntKind.wrap .u32 n4)+n5)) (16:Int)) (15:Int)))<|ld (.I .i32) p3 fun (n7:Int)=>drw<|ld .P p0 fun (o8:Option Addr)=>ld (.I .u16) (Addr.add p0 2) fun (n9:Int)=>callP Tryd.prog 156 #[(.pointer o8),(.int .u16 n9),(.int .u8 (IntKind.wrap .u8 (shrI .u32 (IntKind.wrap .u32 ((IntKind.wrap .u32 n4)+n5)) (16:Int))))] [] fun (r10:Unit)=>ld .S (Addr.add p0 1) fun (s11:Sl)=>ixS 1 s11 (IntKind.wrap .i32 ((IntKind.wrap .i32 (shrI .u16 n6 (andI .u32 (shrI .u32 (IntKind.wrap .u32 ((IntKind.wrap .u32 n4)+n5)) (16:Int)) (15:Int))))+n7)) fun (p12:Addr)=>ld (.I .u16) p12 fun (n13:Int)=>st (Addr.add p0 2) (.int .u16 n13)<|K2 ()
def h140:Hint:=⟨.e,.e⟩
theorem q140_eq (p0:Addr) (r1:(Int×Int)) (K2:Unit→PT):fnE Cx h140 [] Tryd.f140 [.pt p0,.v (.agg ⟨[(.int .i32 r1.1),(.int .u32 r1.2)]⟩)] K2=q140 p0 r1 K2:=by kernel_rfl
theorem q140_fnok:fnOk Tryd.f140 2=true:=by kernel_rfl
theorem q140_ok (p0:Addr) (r1:(Int×Int)) (K2:Unit→PT) {w:World} (h:q140 p0 r1 K2 w):Calls Tryd.prog 140 #[(.pointer (some p0)),(.agg ⟨[(.int .i32 r1.1),(.int .u32 r1.2)]⟩)] w fun e w'=>∃r,e = .returned (resMk [] r)∧K2 r w' :=
 of_eq Tryd.func140 q140_fnok (by kernel_rfl) (by kernel_rfl) (q140_eq p0 r1 K2) h
def q141 (p0:Addr) (K1:Unit→PT):PT :=
 ld (.I .u8) (Addr.add p0 1) fun (n2:Int)=>cnd (decide (n2<(32:Int))) (K1 ()) (drw<|ld .S (Addr.add p0 2) fun (s3:Sl)=>ld (.I .u64) p0 fun (n4:Int)=>ld (.I .u64) p0 fun (n5:Int)=>req (0≤(8:Int))<|ld (.I .u64) p0 fun (n6:Int)=>req (0≤(16:Int))<|ld (.I .u64) p0 fun (n7:Int)=>req (0≤(24:Int))<|nw [(.int .u8 (IntKind.wrap .u8 n4)),(.int .u8 (IntKind.wrap .u8 (shrI .u64 n5 (8:Int)))),(.int .u8 (IntKind.wrap .u8 (shrI .u64 n6 (16:Int)))),(.int .u8 (IntKind.wrap .u8 (shrI .u64 n7 (24:Int))))] 5 fun (p8:Addr)=>kp [((Addr.add p0 2),(.slice s3.a s3.l s3.c))]<|app z5 5 1 s3 ⟨(some p8),4,4⟩ fun (s9:Sl)=>st (Addr.add p0 2) (.slice s9.a s9.l s9.c)<|ld (.I .u8) (Addr.add p0 1) fun (n10:Int)=>st (Addr.add p0 1) (.int .u8 (IntKind.wrap .u8 (n10-(32:Int))))<|ld (.I .u64) p0 fun (n11:Int)=>req (0≤(32:Int))<|st p0 (.int .u64 (shrI .u64 n11 (32:Int)))<|K1 ())
def h141:Hint:=⟨.e,.e⟩
theorem q141_eq (p0:Addr) (K1:Unit→PT):fnE Cx h141 [] Tryd.f141 [.pt p0] K1=q141 p0 K1:=by kernel_rfl
theorem q141_fnok:fnOk Tryd.f141 1=true:=by kernel_rfl
theorem q141_ok (p0:Addr) (K1:Unit→PT) {w:World} (h:q141 p0 K1 w):Calls Tryd.prog 141 #[(.pointer (some p0))] w fun e w'=>∃r,e = .returned (resMk [] r)∧K1 r w' :=
 of_eq Tryd.func141 q141_fnok (by kernel_rfl) (by kernel_rfl) (q141_eq p0 K1) h
def q142 (p0:Addr) (r1:(Int×Int)) (K2:Unit→PT):PT :=
 nw [(.int .i32 r1.1),(.int .u32 r1.2)] 210 fun (p3:Addr)=>drw<|ld (.I .u16) (Addr.add p0 2) fun (n4:Int)=>ld (.I .u32) (Addr.add p3 1) fun (n5:Int)=>req (0≤(16:Int))<|drw<|ld (.I .u16) (Addr.add p0 2) fun (n6:Int)=>req (0≤(andI .u32 (shrI .u32 (IntKind.wrap .u32 ((IntKind.wrap .u32 n4)+n5)) (16:Int)) (15:Int)))<|ld (.I .i32) p3 fun (n7:Int)=>drw<|ld .P p0 fun (o8:Option Addr)=>ld (.I .u16) (Addr.add p0 2) fun (n9:Int)=>callP Tryd.prog 157 #[(.pointer o8),(.int .u16 n9),(.int .u8 (IntKind.wrap .u8 (shrI .u32 (IntKind.wrap .u32 ((IntKind.wrap .u32 n4)+n5)) (16:Int))))] [] fun (r10:Unit)=>ld .S (Addr.add p0 1) fun (s11:Sl)=>ixS 1 s11 (IntKind.wrap .i32 ((IntKind.wrap .i32 (shrI .u16 n6 (andI .u32 (shrI .u32 (IntKind.wrap .u32 ((IntKind.wrap .u32 n4)+n5)) (16:Int)) (15:Int))))+n7)) fun (p12:Addr)=>ld (.I .u16) p12 fun (n13:Int)=>st (Addr.add p0 2) (.int .u16 n13)<|K2 ()
def h142:Hint:=⟨.e,.e⟩
theorem q142_eq (p0:Addr) (r1:(Int×Int)) (K2:Unit→PT):fnE Cx h142 [] Tryd.f142 [.pt p0,.v (.agg ⟨[(.int .i32 r1.1),(.int .u32 r1.2)]⟩)] K2=q142 p0 r1 K2:=by kernel_rfl
theorem q142_fnok:fnOk Tryd.f142 2=true:=by kernel_rfl
theorem q142_ok (p0:Addr) (r1:(Int×Int)) (K2:Unit→PT) {w:World} (h:q142 p0 r1 K2 w):Calls Tryd.prog 142 #[(.pointer (some p0)),(.agg ⟨[(.int .i32 r1.1),(.int .u32 r1.2)]⟩)] w fun e w'=>∃r,e = .returned (resMk [] r)∧K2 r w' :=
 of_eq Tryd.func142 q142_fnok (by kernel_rfl) (by kernel_rfl) (q142_eq p0 r1 K2) h
def q143 (p0:Addr) (n1:Int) (K2:Unit→PT):PT :=
 ld .P p0 fun (o3:Option Addr)=>callP Tryd.prog 141 #[(.pointer o3)] [] fun (r4:Unit)=>drw<|ld .P p0 fun (o5:Option Addr)=>ld (.I .u16) (Addr.add p0 2) fun (n6:Int)=>callP Tryd.prog 157 #[(.pointer o5),(.int .u16 n6),(.int .u8 n1)] [] fun (r7:Unit)=>ld .P p0 fun (o8:Option Addr)=>callP Tryd.prog 158 #[(.pointer o8)] [] fun (r9:Unit)=>K2 ()
def h143:Hint:=⟨.e,.e⟩
theorem q143_eq (p0:Addr) (n1:Int) (K2:Unit→PT):fnE Cx h143 [] Tryd.f143 [.pt p0,.v (.int .u8 n1)] K2=q143 p0 n1 K2:=by kernel_rfl
theorem q143_fnok:fnOk Tryd.f143 2=true:=by kernel_rfl
theorem q143_ok (p0:Addr) (n1:Int) (K2:Unit→PT) {w:World} (h:q143 p0 n1 K2 w):Calls Tryd.prog 143 #[(.pointer (some p0)),(.int .u8 n1)] w fun e w'=>∃r,e = .returned (resMk [] r)∧K2 r w' :=
 of_eq Tryd.func143 q143_fnok (by kernel_rfl) (by kernel_rfl) (q143_eq p0 n1 K2) h
def q144 (p0:Addr) (K1:Unit→PT):PT :=
 callP Tryd.prog 159 #[(.pointer (some p0)),(.int .u16 (1:Int)),(.int .u8 (1:Int))] [] fun (r2:Unit)=>callP Tryd.prog 160 #[(.pointer (some p0))] [] fun (r3:Unit)=>K1 ()
def h144:Hint:=⟨.e,.e⟩
theorem q144_eq (p0:Addr) (K1:Unit→PT):fnE Cx h144 [] Tryd.f144 [.pt p0] K1=q144 p0 K1:=by kernel_rfl
theorem q144_fnok:fnOk Tryd.f144 1=true:=by kernel_rfl
theorem q144_ok (p0:Addr) (K1:Unit→PT) {w:World} (h:q144 p0 K1 w):Calls Tryd.prog 144 #[(.pointer (some p0))] w fun e w'=>∃r,e = .returned (resMk [] r)∧K1 r w' :=
 of_eq Tryd.func144 q144_fnok (by kernel_rfl) (by kernel_rfl) (q144_eq p0 K1) h
def q147_J0 (p0:Addr) (K3:Unit→PT) (p6:Addr) (x11:Unit):PT :=
 drw<|ld (.I .u8) (Addr.add p0 1) fun (n12:Int)=>ld (.I .u8) (Addr.add p6 1) fun (n13:Int)=>st (Addr.add p0 1) (.int .u8 (IntKind.wrap .u8 (n12+n13)))<|K3 ()
def q147 (p0:Addr) (s1:Sl) (n2:Int) (K3:Unit→PT):PT :=
 ixS 2 s1 n2 fun (p4:Addr)=>ldL [(.I .u16),(.I .u8)] p4 0 fun (r5:(Int×Int))=>nw z140 140 fun (p6:Addr)=>stL p6 0 [(.int .u16 r5.1),(.int .u8 r5.2)]<|drw<|ld (.I .u64) p0 fun (n7:Int)=>ld (.I .u16) p6 fun (n8:Int)=>ld (.I .u8) (Addr.add p0 1) fun (n9:Int)=>req (0≤(andI .u8 n9 (63:Int)))<|st p0 (.int .u64 (orI .u64 n7 (shlI .u64 (IntKind.wrap .u64 n8) (andI .u8 n9 (63:Int)))))<|joinP (fun R10=>R10 ()) (q147_J0 p0 K3 p6)
def h147:Hint:=⟨(.n .e 7 ([],[0,6]) .e),.e⟩
theorem q147_eq (p0:Addr) (s1:Sl) (n2:Int) (K3:Unit→PT):fnE Cx h147 [] Tryd.f147 [.pt p0,.v (.slice s1.a s1.l s1.c),.v (.int .u8 n2)] K3=q147 p0 s1 n2 K3:=by kernel_rfl
theorem q147_fnok:fnOk Tryd.f147 3=true:=by kernel_rfl
theorem q147_ok (p0:Addr) (s1:Sl) (n2:Int) (K3:Unit→PT) {w:World} (h:q147 p0 s1 n2 K3 w):Calls Tryd.prog 147 #[(.pointer (some p0)),(.slice s1.a s1.l s1.c),(.int .u8 n2)] w fun e w'=>∃r,e = .returned (resMk [] r)∧K3 r w' :=
 of_eq Tryd.func147 q147_fnok (by kernel_rfl) (by kernel_rfl) (q147_eq p0 s1 n2 K3) h
def q149 (r0:(Int×Int×Int)) (s1:Sl) (K2:((Int×Int×Int))→PT):PT :=
 nw [(.int .u64 r0.1),(.int .u64 r0.2.1),(.int .i64 r0.2.2)] 222 fun (p3:Addr)=>nw z222 222 fun (p4:Addr)=>ld (.I .i64) (Addr.add p3 2) fun (n5:Int)=>ld (.I .u64) p3 fun (n6:Int)=>callP Tryd.prog 161 #[(.slice s1.a s1.l s1.c),(.int .i64 n5),(.int .u64 n6)] [] fun (r7:Unit)=>ld (.I .i64) (Addr.add p3 2) fun (n8:Int)=>ld (.I .u64) (Addr.add p3 1) fun (n9:Int)=>req (0≤(3:Int))<|st (Addr.add p3 2) (.int .i64 (IntKind.wrap .i64 (n8+(IntKind.wrap .i64 (shrI .u64 n9 (3:Int))))))<|ld (.I .u64) p3 fun (n10:Int)=>ld (.I .u64) (Addr.add p3 1) fun (n11:Int)=>req (0≤(andI .u64 (andNotI .u64 n11 (7:Int)) (63:Int)))<|st p3 (.int .u64 (shrI .u64 n10 (andI .u64 (andNotI .u64 n11 (7:Int)) (63:Int))))<|ld (.I .u64) (Addr.add p3 1) fun (n12:Int)=>st (Addr.add p3 1) (.int .u64 (andI .u64 n12 (7:Int)))<|ldL [(.I .u64),(.I .u64),(.I .i64)] p3 0 fun (r13:(Int×Int×Int))=>stL p4 0 [(.int .u64 r13.1),(.int .u64 r13.2.1),(.int .i64 r13.2.2)]<|ldL [(.I .u64),(.I .u64),(.I .i64)] p4 0 fun (r14:(Int×Int×Int))=>K2 (r14.1,r14.2.1,r14.2.2)
def h149:Hint:=⟨.e,.e⟩
theorem q149_eq (r0:(Int×Int×Int)) (s1:Sl) (K2:((Int×Int×Int))→PT):fnE Cx h149 [.m [(.I .u64),(.I .u64),(.I .i64)]] Tryd.f149 [.v (.agg ⟨[(.int .u64 r0.1),(.int .u64 r0.2.1),(.int .i64 r0.2.2)]⟩),.v (.slice s1.a s1.l s1.c)] K2=q149 r0 s1 K2:=by kernel_rfl
theorem q149_fnok:fnOk Tryd.f149 2=true:=by kernel_rfl
theorem q149_ok (r0:(Int×Int×Int)) (s1:Sl) (K2:((Int×Int×Int))→PT) {w:World} (h:q149 r0 s1 K2 w):Calls Tryd.prog 149 #[(.agg ⟨[(.int .u64 r0.1),(.int .u64 r0.2.1),(.int .i64 r0.2.2)]⟩),(.slice s1.a s1.l s1.c)] w fun e w'=>∃r,e = .returned (resMk [.m [(.I .u64),(.I .u64),(.I .i64)]] r)∧K2 r w' :=
 of_eq Tryd.func149 q149_fnok (by kernel_rfl) (by kernel_rfl) (q149_eq r0 s1 K2) h
def q150 (r0:(Int×Int×Int)) (n1:Int) (n2:Int) (K3:((Int×Int×Int))→PT):PT :=
 nw [(.int .u64 r0.1),(.int .u64 r0.2.1),(.int .i64 r0.2.2)] 222 fun (p4:Addr)=>nw z222 222 fun (p5:Addr)=>ld (.I .u64) p4 fun (n6:Int)=>ld (.I .u64) (Addr.add p4 1) fun (n7:Int)=>req (0≤(andI .u64 n7 (63:Int)))<|st p4 (.int .u64 (orI .u64 n6 (shlI .u64 n1 (andI .u64 n7 (63:Int)))))<|ld (.I .u64) (Addr.add p4 1) fun (n8:Int)=>st (Addr.add p4 1) (.int .u64 (IntKind.wrap .u64 (n8+n2)))<|ldL [(.I .u64),(.I .u64),(.I .i64)] p4 0 fun (r9:(Int×Int×Int))=>stL p5 0 [(.int .u64 r9.1),(.int .u64 r9.2.1),(.int .i64 r9.2.2)]<|ldL [(.I .u64),(.I .u64),(.I .i64)] p5 0 fun (r10:(Int×Int×Int))=>K3 (r10.1,r10.2.1,r10.2.2)
def h150:Hint:=⟨.e,.e⟩
theorem q150_eq (r0:(Int×Int×Int)) (n1:Int) (n2:Int) (K3:((Int×Int×Int))→PT):fnE Cx h150 [.m [(.I .u64),(.I .u64),(.I .i64)]] Tryd.f150 [.v (.agg ⟨[(.int .u64 r0.1),(.int .u64 r0.2.1),(.int .i64 r0.2.2)]⟩),.v (.int .u64 n1),.v (.int .u64 n2)] K3=q150 r0 n1 n2 K3:=by kernel_rfl
theorem q150_fnok:fnOk Tryd.f150 3=true:=by kernel_rfl
theorem q150_ok (r0:(Int×Int×Int)) (n1:Int) (n2:Int) (K3:((Int×Int×Int))→PT) {w:World} (h:q150 r0 n1 n2 K3 w):Calls Tryd.prog 150 #[(.agg ⟨[(.int .u64 r0.1),(.int .u64 r0.2.1),(.int .i64 r0.2.2)]⟩),(.int .u64 n1),(.int .u64 n2)] w fun e w'=>∃r,e = .returned (resMk [.m [(.I .u64),(.I .u64),(.I .i64)]] r)∧K3 r w' :=
 of_eq Tryd.func150 q150_fnok (by kernel_rfl) (by kernel_rfl) (q150_eq r0 n1 n2 K3) h
def q151 (r0:(Int×Int)) (r1:(Int×Int)) (r2:(Int×Int)) (r3:(Int×Int)) (K4:(Int×Int)→PT):PT :=
 nw [(.int .u16 r0.1),(.int .u8 r0.2)] 140 fun (p5:Addr)=>nw [(.int .u16 r1.1),(.int .u8 r1.2)] 140 fun (p6:Addr)=>nw [(.int .u16 r2.1),(.int .u8 r2.2)] 140 fun (p7:Addr)=>nw [(.int .u16 r3.1),(.int .u8 r3.2)] 140 fun (p8:Addr)=>ld (.I .u8) (Addr.add p5 1) fun (n9:Int)=>ld (.I .u8) (Addr.add p6 1) fun (n10:Int)=>ld (.I .u8) (Addr.add p7 1) fun (n11:Int)=>ld (.I .u16) p5 fun (n12:Int)=>ld (.I .u16) p6 fun (n13:Int)=>req (0≤(andI .u64 (IntKind.wrap .u64 n9) (63:Int)))<|ld (.I .u16) p7 fun (n14:Int)=>req (0≤(andI .u64 (IntKind.wrap .u64 ((IntKind.wrap .u64 n9)+(IntKind.wrap .u64 n10))) (63:Int)))<|ld (.I .u16) p8 fun (n15:Int)=>req (0≤(andI .u64 (IntKind.wrap .u64 ((IntKind.wrap .u64 ((IntKind.wrap .u64 n9)+(IntKind.wrap .u64 n10)))+(IntKind.wrap .u64 n11))) (63:Int)))<|drw<|ld (.I .u8) (Addr.add p8 1) fun (n16:Int)=>K4 ((orI .u64 (orI .u64 (orI .u64 (IntKind.wrap .u64 n12) (shlI .u64 (IntKind.wrap .u64 n13) (andI .u64 (IntKind.wrap .u64 n9) (63:Int)))) (shlI .u64 (IntKind.wrap .u64 n14) (andI .u64 (IntKind.wrap .u64 ((IntKind.wrap .u64 n9)+(IntKind.wrap .u64 n10))) (63:Int)))) (shlI .u64 (IntKind.wrap .u64 n15) (andI .u64 (IntKind.wrap .u64 ((IntKind.wrap .u64 ((IntKind.wrap .u64 n9)+(IntKind.wrap .u64 n10)))+(IntKind.wrap .u64 n11))) (63:Int)))),(IntKind.wrap .u64 ((IntKind.wrap .u64 ((IntKind.wrap .u64 ((IntKind.wrap .u64 n9)+(IntKind.wrap .u64 n10)))+(IntKind.wrap .u64 n11)))+(IntKind.wrap .u64 n16))))
def h151:Hint:=⟨.e,.e⟩
theorem q151_eq (r0:(Int×Int)) (r1:(Int×Int)) (r2:(Int×Int)) (r3:(Int×Int)) (K4:(Int×Int)→PT):fnE Cx h151 [.c (.I .u64),.c (.I .u64)] Tryd.f151 [.v (.agg ⟨[(.int .u16 r0.1),(.int .u8 r0.2)]⟩),.v (.agg ⟨[(.int .u16 r1.1),(.int .u8 r1.2)]⟩),.v (.agg ⟨[(.int .u16 r2.1),(.int .u8 r2.2)]⟩),.v (.agg ⟨[(.int .u16 r3.1),(.int .u8 r3.2)]⟩)] K4=q151 r0 r1 r2 r3 K4:=by kernel_rfl
theorem q151_fnok:fnOk Tryd.f151 4=true:=by kernel_rfl
theorem q151_ok (r0:(Int×Int)) (r1:(Int×Int)) (r2:(Int×Int)) (r3:(Int×Int)) (K4:(Int×Int)→PT) {w:World} (h:q151 r0 r1 r2 r3 K4 w):Calls Tryd.prog 151 #[(.agg ⟨[(.int .u16 r0.1),(.int .u8 r0.2)]⟩),(.agg ⟨[(.int .u16 r1.1),(.int .u8 r1.2)]⟩),(.agg ⟨[(.int .u16 r2.1),(.int .u8 r2.2)]⟩),(.agg ⟨[(.int .u16 r3.1),(.int .u8 r3.2)]⟩)] w fun e w'=>∃r,e = .returned (resMk [.c (.I .u64),.c (.I .u64)] r)∧K4 r w' :=
 of_eq Tryd.func151 q151_fnok (by kernel_rfl) (by kernel_rfl) (q151_eq r0 r1 r2 r3 K4) h
def q152 (p0:Addr) (K1:Unit→PT):PT :=
 callP Tryd.prog 162 #[(.pointer (some p0)),(.int .u16 (1:Int)),(.int .u8 (1:Int))] [] fun (r2:Unit)=>callP Tryd.prog 163 #[(.pointer (some p0))] [] fun (r3:Unit)=>K1 ()
def h152:Hint:=⟨.e,.e⟩
theorem q152_eq (p0:Addr) (K1:Unit→PT):fnE Cx h152 [] Tryd.f152 [.pt p0] K1=q152 p0 K1:=by kernel_rfl
theorem q152_fnok:fnOk Tryd.f152 1=true:=by kernel_rfl
theorem q152_ok (p0:Addr) (K1:Unit→PT) {w:World} (h:q152 p0 K1 w):Calls Tryd.prog 152 #[(.pointer (some p0))] w fun e w'=>∃r,e = .returned (resMk [] r)∧K1 r w' :=
 of_eq Tryd.func152 q152_fnok (by kernel_rfl) (by kernel_rfl) (q152_eq p0 K1) h
def q153 (p0:Addr) (K1:Int→PT):PT :=
 ld (.I .i64) (Addr.add p0 260) fun (n2:Int)=>callP Tryd.prog 64 #[(.int .u32 (IntKind.wrap .u32 n2))] [.c (.I .u32)] fun (r3:Int)=>ld (.I .u16) (Addr.add p0 265) fun (n4:Int)=>callP Tryd.prog 64 #[(.int .u32 (IntKind.wrap .u32 (IntKind.wrap .u16 (n4-(1:Int)))))] [.c (.I .u32)] fun (r5:Int)=>cnd (decide ((IntKind.wrap .u32 (r3+(1:Int)))<(IntKind.wrap .u32 (r5+(2:Int))))) (K1 (IntKind.wrap .u8 (IntKind.wrap .u32 (r3+(1:Int))))) (K1 (IntKind.wrap .u8 (IntKind.wrap .u32 (r5+(2:Int)))))
def h153:Hint:=⟨.e,.e⟩
theorem q153_eq (p0:Addr) (K1:Int→PT):fnE Cx h153 [.c (.I .u8)] Tryd.f153 [.pt p0] K1=q153 p0 K1:=by kernel_rfl
theorem q153_fnok:fnOk Tryd.f153 1=true:=by kernel_rfl
theorem q153_ok (p0:Addr) (K1:Int→PT) {w:World} (h:q153 p0 K1 w):Calls Tryd.prog 153 #[(.pointer (some p0))] w fun e w'=>∃r,e = .returned (resMk [.c (.I .u8)] r)∧K1 r w' :=
 of_eq Tryd.func153 q153_fnok (by kernel_rfl) (by kernel_rfl) (q153_eq p0 K1) h
def q154 (n0:Int) (n1:Int) (K2:Int→PT):PT :=
 req (0≤(48:Int))<|K2 (orI .u64 (IntKind.wrap .u64 n0) (shlI .u64 (IntKind.wrap .u64 n1) (48:Int)))
def h154:Hint:=⟨.e,.e⟩
theorem q154_eq (n0:Int) (n1:Int) (K2:Int→PT):fnE Cx h154 [.c (.I .u64)] Tryd.f154 [.v (.int .u32 n0),.v (.int .u8 n1)] K2=q154 n0 n1 K2:=by kernel_rfl
theorem q154_fnok:fnOk Tryd.f154 2=true:=by kernel_rfl
theorem q154_ok (n0:Int) (n1:Int) (K2:Int→PT) {w:World} (h:q154 n0 n1 K2 w):Calls Tryd.prog 154 #[(.int .u32 n0),(.int .u8 n1)] w fun e w'=>∃r,e = .returned (resMk [.c (.I .u64)] r)∧K2 r w' :=
 of_eq Tryd.func154 q154_fnok (by kernel_rfl) (by kernel_rfl) (q154_eq n0 n1 K2) h
def q156 (p0:Addr) (n1:Int) (n2:Int) (K3:Unit→PT):PT :=
 cnd (decide (n2=(0:Int))) (K3 ()) (req (0≤(andI .u8 (IntKind.wrap .u8 ((16:Int)-n2)) (15:Int)))<|req (0≤(andI .u8 (IntKind.wrap .u8 ((16:Int)-n2)) (15:Int)))<|drw<|ld (.I .u64) p0 fun (n4:Int)=>ld (.I .u8) (Addr.add p0 1) fun (n5:Int)=>req (0≤(andI .u8 n5 (63:Int)))<|st p0 (.int .u64 (orI .u64 n4 (shlI .u64 (IntKind.wrap .u64 (shrI .u16 (shlI .u16 n1 (andI .u8 (IntKind.wrap .u8 ((16:Int)-n2)) (15:Int))) (andI .u8 (IntKind.wrap .u8 ((16:Int)-n2)) (15:Int)))) (andI .u8 n5 (63:Int)))))<|ld (.I .u8) (Addr.add p0 1) fun (n6:Int)=>st (Addr.add p0 1) (.int .u8 (IntKind.wrap .u8 (n6+n2)))<|K3 ())
def h156:Hint:=⟨.e,.e⟩
theorem q156_eq (p0:Addr) (n1:Int) (n2:Int) (K3:Unit→PT):fnE Cx h156 [] Tryd.f156 [.pt p0,.v (.int .u16 n1),.v (.int .u8 n2)] K3=q156 p0 n1 n2 K3:=by kernel_rfl
theorem q156_fnok:fnOk Tryd.f156 3=true:=by kernel_rfl
theorem q156_ok (p0:Addr) (n1:Int) (n2:Int) (K3:Unit→PT) {w:World} (h:q156 p0 n1 n2 K3 w):Calls Tryd.prog 156 #[(.pointer (some p0)),(.int .u16 n1),(.int .u8 n2)] w fun e w'=>∃r,e = .returned (resMk [] r)∧K3 r w' :=
 of_eq Tryd.func156 q156_fnok (by kernel_rfl) (by kernel_rfl) (q156_eq p0 n1 n2 K3) h
def q157 (p0:Addr) (n1:Int) (n2:Int) (K3:Unit→PT):PT :=
 drw<|ld (.I .u64) p0 fun (n4:Int)=>ixA 1 32 ⟨8,0,none⟩ (andI .u8 n2 (31:Int)) fun (p5:Addr)=>ld (.I .u16) p5 fun (n6:Int)=>ld (.I .u8) (Addr.add p0 1) fun (n7:Int)=>req (0≤(andI .u8 n7 (63:Int)))<|st p0 (.int .u64 (orI .u64 n4 (shlI .u64 (IntKind.wrap .u64 (andI .u16 n1 n6)) (andI .u8 n7 (63:Int)))))<|ld (.I .u8) (Addr.add p0 1) fun (n8:Int)=>st (Addr.add p0 1) (.int .u8 (IntKind.wrap .u8 (n8+n2)))<|K3 ()
def h157:Hint:=⟨.e,.e⟩
theorem q157_eq (p0:Addr) (n1:Int) (n2:Int) (K3:Unit→PT):fnE Cx h157 [] Tryd.f157 [.pt p0,.v (.int .u16 n1),.v (.int .u8 n2)] K3=q157 p0 n1 n2 K3:=by kernel_rfl
theorem q157_fnok:fnOk Tryd.f157 3=true:=by kernel_rfl
theorem q157_ok (p0:Addr) (n1:Int) (n2:Int) (K3:Unit→PT) {w:World} (h:q157 p0 n1 n2 K3 w):Calls Tryd.prog 157 #[(.pointer (some p0)),(.int .u16 n1),(.int .u8 n2)] w fun e w'=>∃r,e = .returned (resMk [] r)∧K3 r w' :=
 of_eq Tryd.func157 q157_fnok (by kernel_rfl) (by kernel_rfl) (q157_eq p0 n1 n2 K3) h
def q158_J0 (p0:Addr) (K1:Unit→PT) (n2:Int) (x65:Unit):PT :=
 ld (.I .u64) p0 fun (n66:Int)=>req (0≤(3:Int))<|req (0≤(shlI .u8 (shrI .u8 n2 (3:Int)) (3:Int)))<|st p0 (.int .u64 (shrI .u64 n66 (shlI .u8 (shrI .u8 n2 (3:Int)) (3:Int))))<|ld (.I .u8) (Addr.add p0 1) fun (n67:Int)=>st (Addr.add p0 1) (.int .u8 (andI .u8 n67 (7:Int)))<|K1 ()
def q158_X1 (p0:Addr) (n2:Int) (R3:Unit→PT):PT :=
 cnd (decide ((shrI .u8 n2 (3:Int))=(0:Int))) (R3 ()) (cnd (decide ((shrI .u8 n2 (3:Int))=(1:Int))) (drw<|ld .S (Addr.add p0 2) fun (s4:Sl)=>ld (.I .u64) p0 fun (n5:Int)=>nw [(.int .u8 (IntKind.wrap .u8 n5))] 5 fun (p6:Addr)=>kp [((Addr.add p0 2),(.slice s4.a s4.l s4.c))]<|app z5 5 1 s4 ⟨(some p6),1,1⟩ fun (s7:Sl)=>st (Addr.add p0 2) (.slice s7.a s7.l s7.c)<|R3 ()) (cnd (decide ((shrI .u8 n2 (3:Int))=(2:Int))) (drw<|ld .S (Addr.add p0 2) fun (s8:Sl)=>ld (.I .u64) p0 fun (n9:Int)=>ld (.I .u64) p0 fun (n10:Int)=>req (0≤(8:Int))<|nw [(.int .u8 (IntKind.wrap .u8 n9)),(.int .u8 (IntKind.wrap .u8 (shrI .u64 n10 (8:Int))))] 5 fun (p11:Addr)=>kp [((Addr.add p0 2),(.slice s8.a s8.l s8.c))]<|app z5 5 1 s8 ⟨(some p11),2,2⟩ fun (s12:Sl)=>st (Addr.add p0 2) (.slice s12.a s12.l s12.c)<|R3 ()) (cnd (decide ((shrI .u8 n2 (3:Int))=(3:Int))) (drw<|ld .S (Addr.add p0 2) fun (s13:Sl)=>ld (.I .u64) p0 fun (n14:Int)=>ld (.I .u64) p0 fun (n15:Int)=>req (0≤(8:Int))<|ld (.I .u64) p0 fun (n16:Int)=>req (0≤(16:Int))<|nw [(.int .u8 (IntKind.wrap .u8 n14)),(.int .u8 (IntKind.wrap .u8 (shrI .u64 n15 (8:Int)))),(.int .u8 (IntKind.wrap .u8 (shrI .u64 n16 (16:Int))))] 5 fun (p17:Addr)=>kp [((Addr.add p0 2),(.slice s13.a s13.l s13.c))]<|app z5 5 1 s13 ⟨(some p17),3,3⟩ fun (s18:Sl)=>st (Addr.add p0 2) (.slice s18.a s18.l s18.c)<|R3 ()) (cnd (decide ((shrI .u8 n2 (3:Int))=(4:Int))) (drw<|ld .S (Addr.add p0 2) fun (s19:Sl)=>ld (.I .u64) p0 fun (n20:Int)=>ld (.I .u64) p0 fun (n21:Int)=>req (0≤(8:Int))<|ld (.I .u64) p0 fun (n22:Int)=>req (0≤(16:Int))<|ld (.I .u64) p0 fun (n23:Int)=>req (0≤(24:Int))<|nw [(.int .u8 (IntKind.wrap .u8 n20)),(.int .u8 (IntKind.wrap .u8 (shrI .u64 n21 (8:Int)))),(.int .u8 (IntKind.wrap .u8 (shrI .u64 n22 (16:Int)))),(.int .u8 (IntKind.wrap .u8 (shrI .u64 n23 (24:Int))))] 5 fun (p24:Addr)=>kp [((Addr.add p0 2),(.slice s19.a s19.l s19.c))]<|app z5 5 1 s19 ⟨(some p24),4,4⟩ fun (s25:Sl)=>st (Addr.add p0 2) (.slice s25.a s25.l s25.c)<|R3 ()) (cnd (decide ((shrI .u8 n2 (3:Int))=(5:Int))) (drw<|ld .S (Addr.add p0 2) fun (s26:Sl)=>ld (.I .u64) p0 fun (n27:Int)=>ld (.I .u64) p0 fun (n28:Int)=>req (0≤(8:Int))<|ld (.I .u64) p0 fun (n29:Int)=>req (0≤(16:Int))<|ld (.I .u64) p0 fun (n30:Int)=>req (0≤(24:Int))<|ld (.I .u64) p0 fun (n31:Int)=>req (0≤(32:Int))<|nw [(.int .u8 (IntKind.wrap .u8 n27)),(.int .u8 (IntKind.wrap .u8 (shrI .u64 n28 (8:Int)))),(.int .u8 (IntKind.wrap .u8 (shrI .u64 n29 (16:Int)))),(.int .u8 (IntKind.wrap .u8 (shrI .u64 n30 (24:Int)))),(.int .u8 (IntKind.wrap .u8 (shrI .u64 n31 (32:Int))))] 5 fun (p32:Addr)=>kp [((Addr.add p0 2),(.slice s26.a s26.l s26.c))]<|app z5 5 1 s26 ⟨(some p32),5,5⟩ fun (s33:Sl)=>st (Addr.add p0 2) (.slice s33.a s33.l s33.c)<|R3 ()) (cnd (decide ((shrI .u8 n2 (3:Int))=(6:Int))) (drw<|ld .S (Addr.add p0 2) fun (s34:Sl)=>ld (.I .u64) p0 fun (n35:Int)=>ld (.I .u64) p0 fun (n36:Int)=>req (0≤(8:Int))<|ld (.I .u64) p0 fun (n37:Int)=>req (0≤(16:Int))<|ld (.I .u64) p0 fun (n38:Int)=>req (0≤(24:Int))<|ld (.I .u64) p0 fun (n39:Int)=>req (0≤(32:Int))<|ld (.I .u64) p0 fun (n40:Int)=>req (0≤(40:Int))<|nw [(.int .u8 (IntKind.wrap .u8 n35)),(.int .u8 (IntKind.wrap .u8 (shrI .u64 n36 (8:Int)))),(.int .u8 (IntKind.wrap .u8 (shrI .u64 n37 (16:Int)))),(.int .u8 (IntKind.wrap .u8 (shrI .u64 n38 (24:Int)))),(.int .u8 (IntKind.wrap .u8 (shrI .u64 n39 (32:Int)))),(.int .u8 (IntKind.wrap .u8 (shrI .u64 n40 (40:Int))))] 5 fun (p41:Addr)=>kp [((Addr.add p0 2),(.slice s34.a s34.l s34.c))]<|app z5 5 1 s34 ⟨(some p41),6,6⟩ fun (s42:Sl)=>st (Addr.add p0 2) (.slice s42.a s42.l s42.c)<|R3 ()) (cnd (decide ((shrI .u8 n2 (3:Int))=(7:Int))) (drw<|ld .S (Addr.add p0 2) fun (s43:Sl)=>ld (.I .u64) p0 fun (n44:Int)=>ld (.I .u64) p0 fun (n45:Int)=>req (0≤(8:Int))<|ld (.I .u64) p0 fun (n46:Int)=>req (0≤(16:Int))<|ld (.I .u64) p0 fun (n47:Int)=>req (0≤(24:Int))<|ld (.I .u64) p0 fun (n48:Int)=>req (0≤(32:Int))<|ld (.I .u64) p0 fun (n49:Int)=>req (0≤(40:Int))<|ld (.I .u64) p0 fun (n50:Int)=>req (0≤(48:Int))<|nw [(.int .u8 (IntKind.wrap .u8 n44)),(.int .u8 (IntKind.wrap .u8 (shrI .u64 n45 (8:Int)))),(.int .u8 (IntKind.wrap .u8 (shrI .u64 n46 (16:Int)))),(.int .u8 (IntKind.wrap .u8 (shrI .u64 n47 (24:Int)))),(.int .u8 (IntKind.wrap .u8 (shrI .u64 n48 (32:Int)))),(.int .u8 (IntKind.wrap .u8 (shrI .u64 n49 (40:Int)))),(.int .u8 (IntKind.wrap .u8 (shrI .u64 n50 (48:Int))))] 5 fun (p51:Addr)=>kp [((Addr.add p0 2),(.slice s43.a s43.l s43.c))]<|app z5 5 1 s43 ⟨(some p51),7,7⟩ fun (s52:Sl)=>st (Addr.add p0 2) (.slice s52.a s52.l s52.c)<|R3 ()) (cnd (decide ((shrI .u8 n2 (3:Int))=(8:Int))) (drw<|ld .S (Addr.add p0 2) fun (s53:Sl)=>ld (.I .u64) p0 fun (n54:Int)=>ld (.I .u64) p0 fun (n55:Int)=>req (0≤(8:Int))<|ld (.I .u64) p0 fun (n56:Int)=>req (0≤(16:Int))<|ld (.I .u64) p0 fun (n57:Int)=>req (0≤(24:Int))<|ld (.I .u64) p0 fun (n58:Int)=>req (0≤(32:Int))<|ld (.I .u64) p0 fun (n59:Int)=>req (0≤(40:Int))<|ld (.I .u64) p0 fun (n60:Int)=>req (0≤(48:Int))<|ld (.I .u64) p0 fun (n61:Int)=>req (0≤(56:Int))<|nw [(.int .u8 (IntKind.wrap .u8 n54)),(.int .u8 (IntKind.wrap .u8 (shrI .u64 n55 (8:Int)))),(.int .u8 (IntKind.wrap .u8 (shrI .u64 n56 (16:Int)))),(.int .u8 (IntKind.wrap .u8 (shrI .u64 n57 (24:Int)))),(.int .u8 (IntKind.wrap .u8 (shrI .u64 n58 (32:Int)))),(.int .u8 (IntKind.wrap .u8 (shrI .u64 n59 (40:Int)))),(.int .u8 (IntKind.wrap .u8 (shrI .u64 n60 (48:Int)))),(.int .u8 (IntKind.wrap .u8 (shrI .u64 n61 (56:Int))))] 5 fun (p62:Addr)=>kp [((Addr.add p0 2),(.slice s53.a s53.l s53.c))]<|app z5 5 1 s53 ⟨(some p62),8,8⟩ fun (s63:Sl)=>st (Addr.add p0 2) (.slice s63.a s63.l s63.c)<|R3 ()) (callP Tryd.prog 62 #[(.string ⟨#[98,105,116,115]⟩)] [.c .V] fun (r64:Value)=>F)))))))))
def q158 (p0:Addr) (K1:Unit→PT):PT :=
 ld (.I .u8) (Addr.add p0 1) fun (n2:Int)=>req (0≤(3:Int))<|joinP (q158_X1 p0 n2) (q158_J0 p0 K1 n2)
def h158:Hint:=⟨(.n .e 3 ([],[2,0]) .e),.e⟩
theorem q158_eq (p0:Addr) (K1:Unit→PT):fnE Cx h158 [] Tryd.f158 [.pt p0] K1=q158 p0 K1:=by kernel_rfl
theorem q158_fnok:fnOk Tryd.f158 1=true:=by kernel_rfl
theorem q158_ok (p0:Addr) (K1:Unit→PT) {w:World} (h:q158 p0 K1 w):Calls Tryd.prog 158 #[(.pointer (some p0))] w fun e w'=>∃r,e = .returned (resMk [] r)∧K1 r w' :=
 of_eq Tryd.func158 q158_fnok (by kernel_rfl) (by kernel_rfl) (q158_eq p0 K1) h
def q159 (p0:Addr) (n1:Int) (n2:Int) (K3:Unit→PT):PT :=
 drw<|ld (.I .u64) p0 fun (n4:Int)=>ld (.I .u8) (Addr.add p0 1) fun (n5:Int)=>req (0≤(andI .u8 n5 (63:Int)))<|st p0 (.int .u64 (orI .u64 n4 (shlI .u64 (IntKind.wrap .u64 n1) (andI .u8 n5 (63:Int)))))<|ld (.I .u8) (Addr.add p0 1) fun (n6:Int)=>st (Addr.add p0 1) (.int .u8 (IntKind.wrap .u8 (n6+n2)))<|K3 ()
def h159:Hint:=⟨.e,.e⟩
theorem q159_eq (p0:Addr) (n1:Int) (n2:Int) (K3:Unit→PT):fnE Cx h159 [] Tryd.f159 [.pt p0,.v (.int .u16 n1),.v (.int .u8 n2)] K3=q159 p0 n1 n2 K3:=by kernel_rfl
theorem q159_fnok:fnOk Tryd.f159 3=true:=by kernel_rfl
theorem q159_ok (p0:Addr) (n1:Int) (n2:Int) (K3:Unit→PT) {w:World} (h:q159 p0 n1 n2 K3 w):Calls Tryd.prog 159 #[(.pointer (some p0)),(.int .u16 n1),(.int .u8 n2)] w fun e w'=>∃r,e = .returned (resMk [] r)∧K3 r w' :=
 of_eq Tryd.func159 q159_fnok (by kernel_rfl) (by kernel_rfl) (q159_eq p0 n1 n2 K3) h
def q160_L0 (p0:Addr) (n2:Int) (R3:Unit→PT) (x4:Int) (A5:Int→PT):PT :=
 cnd (decide (x4<(shrI .u8 (IntKind.wrap .u8 (n2+(7:Int))) (3:Int)))) (drw<|ld .S (Addr.add p0 2) fun (s6:Sl)=>ld (.I .u64) p0 fun (n7:Int)=>req (0≤(IntKind.wrap .u8 (x4*(8:Int))))<|nw [(.int .u8 (IntKind.wrap .u8 (shrI .u64 n7 (IntKind.wrap .u8 (x4*(8:Int))))))] 5 fun (p8:Addr)=>kp [((Addr.add p0 2),(.slice s6.a s6.l s6.c))]<|app z5 5 1 s6 ⟨(some p8),1,1⟩ fun (s9:Sl)=>st (Addr.add p0 2) (.slice s9.a s9.l s9.c)<|A5 (IntKind.wrap .u8 (x4+(1:Int)))) (R3 ())
def q160_J1 (p0:Addr) (K1:Unit→PT) (x10:Unit):PT :=
 st (Addr.add p0 1) (.int .u8 (0:Int))<|st p0 (.int .u64 (0:Int))<|K1 ()
def q160 (p0:Addr) (K1:Unit→PT):PT :=
 ld (.I .u8) (Addr.add p0 1) fun (n2:Int)=>req (0≤(3:Int))<|joinP (fun R3=>loopP (0:Int) (q160_L0 p0 n2 R3)) (q160_J1 p0 K1)
def h160:Hint:=⟨(.n (.n .e 3 ([],[0]) .e) 26 ([(11,.c (.I .u8))],[0,10]) .e),.e⟩
theorem q160_eq (p0:Addr) (K1:Unit→PT):fnE Cx h160 [] Tryd.f160 [.pt p0] K1=q160 p0 K1:=by kernel_rfl
theorem q160_fnok:fnOk Tryd.f160 1=true:=by kernel_rfl
theorem q160_ok (p0:Addr) (K1:Unit→PT) {w:World} (h:q160 p0 K1 w):Calls Tryd.prog 160 #[(.pointer (some p0))] w fun e w'=>∃r,e = .returned (resMk [] r)∧K1 r w' :=
 of_eq Tryd.func160 q160_fnok (by kernel_rfl) (by kernel_rfl) (q160_eq p0 K1) h
def q161 (s0:Sl) (n1:Int) (n2:Int) (K3:Unit→PT):PT :=
 drw<|ldL [] ⟨7,0,none⟩ 0 fun (r4:(Unit))=>slc 1 s0 (some n1) none none fun (s5:Sl)=>callP Tryd.prog 164 #[(.agg ⟨[]⟩),(.slice s5.a s5.l s5.c),(.int .u64 n2)] [] fun (r6:Unit)=>K3 ()
def h161:Hint:=⟨.e,.e⟩
theorem q161_eq (s0:Sl) (n1:Int) (n2:Int) (K3:Unit→PT):fnE Cx h161 [] Tryd.f161 [.v (.slice s0.a s0.l s0.c),.v (.int .i64 n1),.v (.int .u64 n2)] K3=q161 s0 n1 n2 K3:=by kernel_rfl
theorem q161_fnok:fnOk Tryd.f161 3=true:=by kernel_rfl
theorem q161_ok (s0:Sl) (n1:Int) (n2:Int) (K3:Unit→PT) {w:World} (h:q161 s0 n1 n2 K3 w):Calls Tryd.prog 161 #[(.slice s0.a s0.l s0.c),(.int .i64 n1),(.int .u64 n2)] w fun e w'=>∃r,e = .returned (resMk [] r)∧K3 r w' :=
 of_eq Tryd.func161 q161_fnok (by kernel_rfl) (by kernel_rfl) (q161_eq s0 n1 n2 K3) h
def q162 (p0:Addr) (n1:Int) (n2:Int) (K3:Unit→PT):PT :=
 drw<|ld (.I .u64) p0 fun (n4:Int)=>ld (.I .u8) (Addr.add p0 1) fun (n5:Int)=>req (0≤(andI .u8 n5 (63:Int)))<|st p0 (.int .u64 (orI .u64 n4 (shlI .u64 (IntKind.wrap .u64 n1) (andI .u8 n5 (63:Int)))))<|ld (.I .u8) (Addr.add p0 1) fun (n6:Int)=>st (Addr.add p0 1) (.int .u8 (IntKind.wrap .u8 (n6+n2)))<|K3 ()
def h162:Hint:=⟨.e,.e⟩
theorem q162_eq (p0:Addr) (n1:Int) (n2:Int) (K3:Unit→PT):fnE Cx h162 [] Tryd.f162 [.pt p0,.v (.int .u16 n1),.v (.int .u8 n2)] K3=q162 p0 n1 n2 K3:=by kernel_rfl
theorem q162_fnok:fnOk Tryd.f162 3=true:=by kernel_rfl
theorem q162_ok (p0:Addr) (n1:Int) (n2:Int) (K3:Unit→PT) {w:World} (h:q162 p0 n1 n2 K3 w):Calls Tryd.prog 162 #[(.pointer (some p0)),(.int .u16 n1),(.int .u8 n2)] w fun e w'=>∃r,e = .returned (resMk [] r)∧K3 r w' :=
 of_eq Tryd.func162 q162_fnok (by kernel_rfl) (by kernel_rfl) (q162_eq p0 n1 n2 K3) h
def q163_L0 (p0:Addr) (n2:Int) (R3:Unit→PT) (x4:Int) (A5:Int→PT):PT :=
 cnd (decide (x4<(shrI .u8 (IntKind.wrap .u8 (n2+(7:Int))) (3:Int)))) (drw<|ld .S (Addr.add p0 2) fun (s6:Sl)=>ld (.I .u64) p0 fun (n7:Int)=>req (0≤(IntKind.wrap .u8 (x4*(8:Int))))<|nw [(.int .u8 (IntKind.wrap .u8 (shrI .u64 n7 (IntKind.wrap .u8 (x4*(8:Int))))))] 5 fun (p8:Addr)=>kp [((Addr.add p0 2),(.slice s6.a s6.l s6.c))]<|app z5 5 1 s6 ⟨(some p8),1,1⟩ fun (s9:Sl)=>st (Addr.add p0 2) (.slice s9.a s9.l s9.c)<|A5 (IntKind.wrap .u8 (x4+(1:Int)))) (R3 ())
def q163_J1 (p0:Addr) (K1:Unit→PT) (x10:Unit):PT :=
 st (Addr.add p0 1) (.int .u8 (0:Int))<|st p0 (.int .u64 (0:Int))<|K1 ()
def q163 (p0:Addr) (K1:Unit→PT):PT :=
 ld (.I .u8) (Addr.add p0 1) fun (n2:Int)=>req (0≤(3:Int))<|joinP (fun R3=>loopP (0:Int) (q163_L0 p0 n2 R3)) (q163_J1 p0 K1)
def h163:Hint:=⟨(.n (.n .e 3 ([],[0]) .e) 26 ([(11,.c (.I .u8))],[0,10]) .e),.e⟩
theorem q163_eq (p0:Addr) (K1:Unit→PT):fnE Cx h163 [] Tryd.f163 [.pt p0] K1=q163 p0 K1:=by kernel_rfl
theorem q163_fnok:fnOk Tryd.f163 1=true:=by kernel_rfl
theorem q163_ok (p0:Addr) (K1:Unit→PT) {w:World} (h:q163 p0 K1 w):Calls Tryd.prog 163 #[(.pointer (some p0))] w fun e w'=>∃r,e = .returned (resMk [] r)∧K1 r w' :=
 of_eq Tryd.func163 q163_fnok (by kernel_rfl) (by kernel_rfl) (q163_eq p0 K1) h
def q164 (r0:(Unit)) (s1:Sl) (n2:Int) (K3:Unit→PT):PT :=
 nw [] 234 fun (p4:Addr)=>ixS 1 s1 (7:Int) fun (p5:Addr)=>ld (.I .u8) p5 fun (n6:Int)=>ixS 1 s1 (0:Int) fun (p7:Addr)=>st p7 (.int .u8 (IntKind.wrap .u8 n2))<|req (0≤(8:Int))<|ixS 1 s1 (1:Int) fun (p8:Addr)=>st p8 (.int .u8 (IntKind.wrap .u8 (shrI .u64 n2 (8:Int))))<|req (0≤(16:Int))<|ixS 1 s1 (2:Int) fun (p9:Addr)=>st p9 (.int .u8 (IntKind.wrap .u8 (shrI .u64 n2 (16:Int))))<|req (0≤(24:Int))<|ixS 1 s1 (3:Int) fun (p10:Addr)=>st p10 (.int .u8 (IntKind.wrap .u8 (shrI .u64 n2 (24:Int))))<|req (0≤(32:Int))<|ixS 1 s1 (4:Int) fun (p11:Addr)=>st p11 (.int .u8 (IntKind.wrap .u8 (shrI .u64 n2 (32:Int))))<|req (0≤(40:Int))<|ixS 1 s1 (5:Int) fun (p12:Addr)=>st p12 (.int .u8 (IntKind.wrap .u8 (shrI .u64 n2 (40:Int))))<|req (0≤(48:Int))<|ixS 1 s1 (6:Int) fun (p13:Addr)=>st p13 (.int .u8 (IntKind.wrap .u8 (shrI .u64 n2 (48:Int))))<|req (0≤(56:Int))<|ixS 1 s1 (7:Int) fun (p14:Addr)=>st p14 (.int .u8 (IntKind.wrap .u8 (shrI .u64 n2 (56:Int))))<|K3 ()
def h164:Hint:=⟨.e,.e⟩
theorem q164_eq (r0:(Unit)) (s1:Sl) (n2:Int) (K3:Unit→PT):fnE Cx h164 [] Tryd.f164 [.v (.agg ⟨[]⟩),.v (.slice s1.a s1.l s1.c),.v (.int .u64 n2)] K3=q164 r0 s1 n2 K3:=by kernel_rfl
theorem q164_fnok:fnOk Tryd.f164 3=true:=by kernel_rfl
theorem q164_ok (r0:(Unit)) (s1:Sl) (n2:Int) (K3:Unit→PT) {w:World} (h:q164 r0 s1 n2 K3 w):Calls Tryd.prog 164 #[(.agg ⟨[]⟩),(.slice s1.a s1.l s1.c),(.int .u64 n2)] w fun e w'=>∃r,e = .returned (resMk [] r)∧K3 r w' :=
 of_eq Tryd.func164 q164_fnok (by kernel_rfl) (by kernel_rfl) (q164_eq r0 s1 n2 K3) h
end Go.Sx
namespace Go.Sx
open Go Go.Proofs
structure FS where
 count:Nat→Int
 norm:Nat→Int
 br:Sl
 brOff:Int
 bIn:Sl
 bOff:Int
 bVal:Int
 bRead:Int
 bc:Int
 bn:Int
 bo:Sl
 ts:Sl
 st:Sl
 tt:Sl
 dt:Sl
 maxC:Int
 out:Sl
 lim:Int
 symL:Int
 atl:Int
 zb:Bool
 cc:Bool
 msv:Int
 tl:Int
def Sl.val (s:Sl):Value := .slice s.a s.l s.c
def FS.tail (s:FS):List Value := [s.br.val,.int .i64 s.brOff,s.bIn.val,.int .u64 s.bOff,.int .u64 s.bVal,.int .u8 s.bRead,.int .u64 s.bc,.int .u8 s.bn,s.bo.val,s.ts.val,s.st.val,s.tt.val,s.dt.val,
 .int .i64 s.maxC,s.out.val,.int .i64 s.lim,.int .u16 s.symL,.int .u8 s.atl,.bool s.zb,.bool s.cc,.int .u8 s.msv,.int .u8 s.tl]
def FS.at (s:FS):Cells:=fun i=>if i<256 then some (.int .u32 (s.count i)) else if i<512 then some (.int .i16 (s.norm (i-256))) else s.tail[i-512]?
theorem FS.count_at (s:FS) {i:Nat} (h:i<256):s.at i=some (.int .u32 (s.count i)):=if_pos h
theorem FS.norm_at (s:FS) {i:Nat} (h:i<256):s.at (256+i)=some (.int .i16 (s.norm i)):=by
 unfold FS.at
 rw [if_neg (by omega),if_pos (by omega),Nat.add_sub_cancel_left]
theorem FS.setT {s s':FS} (k:Nat) {v:Value} (h1:s'.count=s.count) (h2:s'.norm=s.norm) (h3:s'.tail=s.tail.set k v) (h4:k<22):updC s.at (512+k) v=s'.at:=by
 funext i
 unfold updC FS.at
 rw [h1,h2,h3]
 by_cases e:i=512+k
 ·subst e
  rw [if_pos rfl,if_neg (by omega),if_neg (by omega),Nat.add_sub_cancel_left,List.getElem?_set_self (by exact h4)]
 ·rw [if_neg e]
  split
  ·rfl
  ·split
   ·rfl
   ·rw [List.getElem?_set_ne (by omega)]
theorem FS.setN {s:FS} {i:Nat} {x:Int} (h:i<256):updC s.at (256+i) (.int .i16 x)=({ s with norm:=updF s.norm i x } : FS).at:=by
 funext j
 unfold updC FS.at updF
 by_cases e:j=256+i
 ·subst e
  rw [if_pos rfl,if_neg (by omega),if_pos (by omega)]
  simp
 ·rw [if_neg e]
  by_cases h1:j<256
  ·rw [if_pos h1,if_pos h1]
  ·rw [if_neg h1,if_neg h1]
   by_cases h2:j<512
   ·rw [if_pos h2,if_pos h2]
    dsimp only
    rw [if_neg (by omega)]
   ·rw [if_neg h2,if_neg h2];rfl
theorem FS.setC {s:FS} {i:Nat} {x:Int} (h:i<256):updC s.at i (.int .u32 x)=({ s with count:=updF s.count i x } : FS).at:=by
 funext j
 unfold updC FS.at updF
 by_cases e:j=i
 ·subst e
  rw [if_pos rfl,if_pos h]
  simp
 ·rw [if_neg e]
  by_cases h1:j<256
  ·rw [if_pos h1,if_pos h1];simp [e]
  ·rw [if_neg h1,if_neg h1];rfl
theorem rep_get {α:Type} (n:Nat) (v:α) (r:List α) (i:Nat):(List.replicate n v++r)[i]? = if i<n then some v else r[i-n]? := by
 by_cases h:i<n
 ·rw [List.getElem?_append_left (by rw [List.length_replicate];exact h),List.getElem?_replicate,if_pos h,if_pos h]
 ·rw [List.getElem?_append_right (by rw [List.length_replicate];omega),List.length_replicate,if_neg h]
def FS.zero:FS:=⟨fun _=>0,fun _=>0,⟨none,0,0⟩,0,⟨none,0,0⟩,0,0,0,0,0,⟨none,0,0⟩,⟨none,0,0⟩,⟨none,0,0⟩,⟨none,0,0⟩,⟨none,0,0⟩,0,⟨none,0,0⟩,0,0,0,false,false,0,0⟩
theorem FS.atZ:(fun i=>(⟨z134⟩:Array Value)[i]?)=FS.zero.at:=by
 funext i
 simp only [List.getElem?_toArray]
 unfold z134 FS.at
 rw [rep_get,rep_get]
 by_cases h1:i<256
 ·rw [if_pos h1,if_pos h1];rfl
 ·rw [if_neg h1,if_neg h1]
  by_cases h2:i<512
  ·rw [if_pos (by omega),if_pos h2];rfl
  ·rw [if_neg (by omega),if_neg h2,show i-256-256=i-512 by omega]
   rfl
end Go.Sx
namespace Go.Sx
open Go Go.Proofs
set_option maxRecDepth 4000
def lenTab:ByteArray:=⟨#[0,1,2,2,3,3,3,3,4,4,4,4,4,4,4,4,5,5,5,5,5,5,5,5,5,5,5,5,5,5,5,5,6,6,6,6,6,6,6,6,6,6,6,6,6,6,6,6,6,6,6,6,6,6,6,6,6,6,6,6,6,6,6,6,7,7,7,7,7,7,7,7,7,7,7,7,7,7,7,7,7,7,7,7,7,7,7,7,7,7,7,7,7,7,7,7,7,7,7,7,7,7,7,7,7,7,7,7,7,7,7,7,7,7,7,7,7,7,7,7,7,7,7,7,7,7,7,7,8,8,8,8,8,8,8,8,8,8,8,8,8,8,8,8,8,8,8,8,8,8,8,8,8,8,8,8,8,8,8,8,8,8,8,8,8,8,8,8,8,8,8,8,8,8,8,8,8,8,8,8,8,8,8,8,8,8,8,8,8,8,8,8,8,8,8,8,8,8,8,8,8,8,8,8,8,8,8,8,8,8,8,8,8,8,8,8,8,8,8,8,8,8,8,8,8,8,8,8,8,8,8,8,8,8,8,8,8,8,8,8,8,8,8,8,8,8,8,8,8,8,8,8,8,8,8,8]⟩
def lenOf (n:Nat):Nat:=if n=0 then 0 else n.log2+1
theorem lenTab_all:((List.range 256).all fun k=>(lenTab.data[k]?.map UInt8.toNat)==some (lenOf k))=true:=by kernel_rfl
theorem lenTab_get (k:Nat) (h:k<lenTab.size) (h2:k<256):(lenTab[k]).toNat=lenOf k:=by
 have:=List.all_eq_true.1 lenTab_all k (List.mem_range.2 h2)
 have h3:lenTab.data[k]? = some lenTab[k]:=Array.getElem?_eq_getElem _
 rw [h3] at this
 simpa using this
theorem lenTab_size:lenTab.size=256:=by kernel_rfl
theorem lenOf_shift (n k:Nat) (h:2^k≤n):lenOf (n/2^k)+k=lenOf n:=by
 unfold lenOf
 have hp:=Nat.two_pow_pos k
 have h1:0<n/2^k:=Nat.div_pos h hp
 rw [if_neg (by omega),if_neg (by omega)]
 have:(n/2^k).log2=n.log2-k:=by
  have e1:=Nat.log2_self_le (n:=n) (by omega)
  have e2:=Nat.lt_log2_self (n:=n)
  have hk:k≤n.log2:=(Nat.le_log2 (by omega)).mpr h
  apply Nat.le_antisymm
  ·have:n/2^k<2^(n.log2-k+1):=by
    rw [Nat.div_lt_iff_lt_mul hp, ←Nat.pow_add,show n.log2-k+1+k=n.log2+1 by omega];exact e2
   have:=(Nat.log2_lt (by omega)).mpr this
   omega
  ·apply (Nat.le_log2 (by omega)).mpr
   rw [Nat.le_div_iff_mul_le hp, ←Nat.pow_add,show n.log2-k+k=n.log2 by omega];exact e1
 have hk:k≤n.log2:=(Nat.le_log2 (by omega)).mpr h
 omega
theorem c81 {w:World} {n:Nat} {K:Int→PT} (h:n<4294967296) (hk:K (lenOf n:Nat) w):callP Tryd.prog 81 #[.int .u32 n] [.c (.I .i64)] K w:=by
 apply q81_ok
 unfold q81
 have last:∀m a:Nat,m<256→a≤24→lenOf m+a=lenOf n→q81_J0 K ((m:Int),(a:Int)) w:=by
  intro m a hm ha he
  unfold q81_J0
  have e1:IntKind.u8.wrap (m:Int)=m:=wU8 (by omega) (by omega)
  have hsz:m<lenTab.size:=by rw [lenTab_size];exact hm
  have hg:=lenTab_get m hsz hm
  have hl:lenOf m≤8:=by
   unfold lenOf
   split
   ·omega
   ·have:=(Nat.log2_lt (n:=m) (k:=8) (by omega)).mpr hm;omega
  have hk2:K (IntKind.i64.wrap ((a:Int)+IntKind.i64.wrap ((lenOf m:Nat):Int))) w:=by
   rw [wI64 (x:=((lenOf m:Nat):Int)) (by omega) (by omega),wI64 (by omega) (by omega)]
   rw [show (a:Int)+((lenOf m:Nat):Int)=((lenOf n:Nat):Int) by omega]
   exact hk
  rw [←hg] at hk2
  exact ⟨m,e1,hsz,hk2⟩
 have mid:∀m a:Nat,m<65536→a≤16→lenOf m+a=lenOf n→q81_J1 K ((m:Int),(a:Int)) w:=by
  intro m a hm ha he
  unfold q81_J1
  refine joinP_id (cnd_d ?_ ?_)
  ·intro hc
   simp only at hc ⊢
   have e1:shrI .u32 (m:Int) 8=((m/2^8:Nat):Int):=shrI_nat .u32 m 8 (by simp only [IntKind.bits];omega)
   rw [e1,wI64 (by omega) (by omega)]
   refine ⟨by decide,?_⟩
   have:=lenOf_shift m 8 (by omega)
   exact last (m/2^8) (a+8) (by omega) (by omega) (by omega)
  ·intro hc
   simp only at hc ⊢
   exact last m a (by omega) (by omega) he
 refine joinP_id (cnd_d ?_ ?_)
 ·intro hc
  have e1:shrI .u32 (n:Int) 16=((n/2^16:Nat):Int):=shrI_nat .u32 n 16 (by simp only [IntKind.bits];omega)
  rw [e1]
  refine ⟨by decide,?_⟩
  have:=lenOf_shift n 16 (by omega)
  exact mid (n/2^16) 16 (by omega) (by omega) this
 ·intro hc
  exact mid n 0 (by omega) (by omega) rfl
theorem c98 {w:World} {n:Nat} {K:Int→PT} (h0:0<n) (h:n<4294967296) (hk:K (n.log2:Nat) w):callP Tryd.prog 98 #[.int .u32 n] [.c (.I .u32)] K w:=by
 apply q98_ok
 unfold q98
 refine c81 h ?_
 have hl:n.log2<32:=(Nat.log2_lt (by omega)).mpr (by omega)
 have e:lenOf n=n.log2+1:=by unfold lenOf;rw [if_neg (by omega)]
 rw [e,wI64 (by omega) (by omega),wU32 (by omega) (by omega)]
 rw [show (((n.log2+1:Nat):Int)-1)=((n.log2:Nat):Int) by omega]
 exact hk
theorem c93 {w:World} {s:Sl} {n:Nat} {K:Int→PT} (hl:s.l<2^60) (hn:n≤s.l) (hk:∀w',Fm w w' []→K ((s.l-n:Nat):Int) w'):callP Tryd.prog 93 #[.agg ⟨[.slice s.a s.l s.c,.int .i64 n]⟩] [.c (.I .i64)] K w:=by
 apply q93_ok (r0:=(s,(n:Int)))
 unfold q93 nw
 have B:Blk (w.alloc (.cells ⟨[.slice s.a s.l s.c,.int .i64 n]⟩ 122)) w.heap.size fun i=>(⟨[.slice s.a s.l s.c,.int .i64 n]⟩:Array Value)[i]? := Blk.new
 refine ld_b (x:=s) B rfl ?_
 rw [add_mk]
 refine ld_b (t := .I .i64) (x:=(n:Int)) B rfl ?_
 rw [wI64 (by omega) (by omega), ←Int.ofNat_sub hn]
 exact hk _ (Fm.refl w []).alloc
theorem c97 {w:World} {n:Nat} {K:Int→PT} (h:n<65536) (hk:K (stepOf n:Nat) w):callP Tryd.prog 97 #[.int .u32 n] [.c (.I .u32)] K w:=by
 apply q97_ok
 unfold q97
 have e1:shrI .u32 (n:Int) 1=((n/2^1:Nat):Int):=shrI_nat .u32 n 1 (by simp only [IntKind.bits];omega)
 have e2:shrI .u32 (n:Int) 3=((n/2^3:Nat):Int):=shrI_nat .u32 n 3 (by simp only [IntKind.bits];omega)
 rw [e1,e2,wU32 (x:=((n/2^1:Nat):Int)+_) (by omega) (by omega),wU32 (by omega) (by omega)]
 refine ⟨by decide,by decide,?_⟩
 have:((n/2^1:Nat):Int)+((n/2^3:Nat):Int)+3=((stepOf n:Nat):Int):=by unfold stepOf;omega
 rw [this]
 exact hk
def bwC (f:Cells) (o bc nb:Nat) (so:Sl):Cells:=fun i=>if i=o then some (.int .u64 bc) else if i=o+1 then some (.int .u8 nb) else if i=o+2 then some so.val else f i
theorem bwC0 (f:Cells) (o bc nb x:Nat) (so:Sl):updC (bwC f o bc nb so) o (.int .u64 (x:Nat))=bwC f o x nb so:=by
 funext i;unfold updC bwC;split<;>rfl
theorem bwC1 (f:Cells) (o bc nb x:Nat) (so:Sl):updC (bwC f o bc nb so) (o+1) (.int .u8 (x:Nat))=bwC f o bc x so:=by
 funext i;unfold updC bwC
 by_cases h:i=o+1
 ·subst h;simp
 ·simp [h]
theorem bwC2 (f:Cells) (o bc nb:Nat) (so x:Sl):updC (bwC f o bc nb so) (o+2) (.slice x.a x.l x.c)=bwC f o bc nb x:=by
 funext i;unfold updC bwC
 by_cases h:i=o+2
 ·subst h;simp [Sl.val]
 ·simp [h]
theorem bwC_0 (f:Cells) (o bc nb:Nat) (so:Sl):bwC f o bc nb so o=some (.int .u64 bc):=if_pos rfl
theorem bwC_1 (f:Cells) (o bc nb:Nat) (so:Sl):bwC f o bc nb so (o+1)=some (.int .u8 nb):=by unfold bwC;simp
theorem bwC_2 (f:Cells) (o bc nb:Nat) (so:Sl):bwC f o bc nb so (o+2)=some (.slice so.a so.l so.c):=by unfold bwC;simp [Sl.val]
theorem app_k {z:Value} {T T':TypeId} {bytes:Nat} {s:Sl} {κ:Sl→PT} {w:World} {l:List Value} {fs:List (Addr×Value)} (xs:List Value) {k:Nat} (hkl:k=xs.length) (h:Vec 1 w s l) (hv:∀v∈xs,one v=true) (hb:(s.l+xs.length)*bytes≤2^46)
  (hf:∀f∈fs,w.cell? f.1=some f.2)
  (hk:∀s' w',Vec 1 w' s' (l++xs)→Fm w w' s.bs→(∀b∈s'.bs,b∈s.bs∨w.heap.size≤b)→κ s' w'):nw xs T' (fun p=>kp fs (app [z] T bytes s ⟨some p,k,k⟩ κ)) w:=by
 subst hkl
 have h0:Fm w (w.alloc (.cells ⟨xs⟩ T')) []:=(Fm.refl w []).alloc
 refine ⟨?_,?_⟩
 ·intro f hff
  have h1:=hf f hff
  rw [World.cell?_alloc_lt _ _ _ (World.block_lt_of_cell? _ _ h1)]
  exact h1
 ·refine app_v (zs := [z]) (xs:=xs) (h.fr h0 (by simp)) ⟨by simp,?_,(fun h=>by cases h),hv⟩ (by simp) hb ?_
  ·intro b hb' i hi
   injection hb' with hb'
   subst hb'
   rw [add_mk,Nat.zero_add]
   simp
  ·intro s' w' h1 h2 h3
   refine hk s' w' h1 ((h0.mono (S':=s.bs) (by simp)).trans h2 (fun b hb => .inl hb)) ?_
   intro b hb'
   rcases h3 b hb' with h4|h4
   ·exact .inl h4
   ·right;rw [World.size_alloc] at h4;omega
def leB (n:Nat):Nat→List Nat
 | 0 => []
 | k+1=>n%256::leB (n/256) k
theorem leB_len (n k:Nat):(leB n k).length=k:=by
 induction k generalizing n with
 | zero=>rfl
 | succ k ih=>simp [leB,ih]
theorem leB_by (n k:Nat):By (leB n k):=by
 induction k generalizing n with
 | zero=>intro x hx;cases hx
 | succ k ih =>
  intro x hx
  rcases List.mem_cons.mp hx with h|h
  ·omega
  ·exact ih _ x h
theorem leB_val (n k:Nat):leN (leB n k)=n%256^k:=by
 induction k generalizing n with
 | zero=>simp [leB,leN,Nat.mod_one]
 | succ k ih =>
  rw [leB,leN,ih,Nat.pow_succ,Nat.mul_comm (256^k) 256,Nat.mod_mul]
theorem leB_snoc (n k:Nat):leB n (k+1)=leB n k ++ [n/256^k%256]:=by
 induction k generalizing n with
 | zero=>simp [leB]
 | succ k ih =>
  rw [leB,ih,leB,List.cons_append]
  congr 3
  rw [Nat.div_div_eq_div_mul, ←Nat.pow_succ']
structure BW (w:World) (b o:Nat) (f:Cells) (bc nb:Nat) (so:Sl) (ol:List Nat):Prop where
 blk:Blk w b (bwC f o bc nb so)
 vec:Vec 1 w so (bytes .u8 ol)
 lt:bc<2^nb
 dis:b∉so.bs
theorem or_add {a x n:Nat} (h:a<2^n):a ||| (x*2^n)=a+x*2^n:=by
 rw [Nat.or_comm,Nat.mul_comm, ←Nat.two_pow_add_eq_or_of_lt h,Nat.add_comm]
theorem and63 {n:Nat} (h:n<64):andI .u8 (n:Int) 63=n:=by
 have:=andI_nat (k := .u8) rfl n 63 (by simp only [IntKind.bits];omega) (by decide)
 have e:n &&& 63=n%64:=Nat.and_two_pow_sub_one_eq_mod n 6
 rw [e,Nat.mod_eq_of_lt h] at this
 exact this
theorem put_bits {bc nb x m:Nat} (hlt:bc<2^nb) (hx:x<2^m) (hn:nb+m≤64) (hn2:nb<64) :
  orI .u64 (bc:Int) (shlI .u64 (x:Int) (nb:Int))=((bc+x*2^nb:Nat):Int)∧bc+x*2^nb<2^(nb+m):=by
 have h1:(x+1)*2^nb≤2^m*2^nb:=Nat.mul_le_mul_right _ hx
 rw [Nat.add_mul,Nat.one_mul, ←Nat.pow_add,Nat.add_comm m nb] at h1
 have h2:2^(nb+m)≤2^64:=Nat.pow_le_pow_right (by omega) hn
 have h3:=Nat.two_pow_pos nb
 refine ⟨?_,by omega⟩
 rw [shlI_u (k := .u64) rfl x nb (by simp only [IntKind.bits];omega)]
 simp only [IntKind.bits]
 rw [Nat.mod_eq_of_lt (by omega)]
 rw [orI_nat (k := .u64) rfl bc (x*2^nb) (by simp only [IntKind.bits];omega) (by simp only [IntKind.bits];omega),or_add hlt]
theorem bits_tail {w:World} {b o bc nb x m:Nat} {f:Cells} {so:Sl} {ol:List Nat} {κ:PT} (H:BW w b o f bc nb so ol) (hx:x<2^m) (hm:m≤16) (hn:nb+m≤64) (hn2:nb<64)
  (hk:∀w',BW w' b o f (bc+x*2^nb) (nb+m) so ol→Fm w w' [b]→κ w') :
  (st ⟨b,o,none⟩ (.int .u64 (orI .u64 (bc:Int) (shlI .u64 (x:Int) (nb:Int))))<|ld (.I .u8) ⟨b,o+1,none⟩ fun (n6:Int)=>st ⟨b,o+1,none⟩ (.int .u8 (IntKind.wrap .u8 (n6+(m:Int))))<|κ) w:=by
 obtain ⟨h1,h2⟩:=put_bits H.lt hx hn hn2
 rw [h1]
 refine st_b H.blk (by rw [bwC_0];rfl) rfl ?_
 have B1:=H.blk.setW (o:=o) (v := .int .u64 ((bc+x*2^nb:Nat):Int)) (by rw [bwC_0];rfl) (bwC0 _ _ _ _ _ _)
 have F1:Fm w (w.setCell ⟨b,o,none⟩ (.int .u64 ((bc+x*2^nb:Nat):Int))) [b]:=(Fm.refl w [b]).set (.inl (by simp))
 refine ld_b (t := .I .u8) (x:=(nb:Int)) B1 (bwC_1 _ _ _ _ _) ?_
 refine st_b B1 (by rw [bwC_1];rfl) rfl ?_
 rw [wU8 (by omega) (by omega), ←Int.natCast_add]
 have B2:=B1.setW (o:=o+1) (v := .int .u8 ((nb+m:Nat):Int)) (by rw [bwC_1];rfl) (bwC1 _ _ _ _ _ _)
 have F2:=F1.set (a:=⟨b,o+1,none⟩) (v := .int .u8 ((nb+m:Nat):Int)) (.inl (by simp))
 exact hk _ ⟨B2,H.vec.fr F2 (by intro y hy;simp;intro e;subst e;exact H.dis hy),h2,H.dis⟩ F2
def maskAt (w:World):Prop:=∀n,n≤16→w.cell? ⟨8,n,none⟩=some (.int .u16 ((2^n-1:Nat):Int))
theorem BW.drew {w:World} {b o bc nb:Nat} {f:Cells} {so:Sl} {ol:List Nat} (H:BW w b o f bc nb so ol):BW w.drew b o f bc nb so ol :=
 ⟨H.blk.drew,H.vec.fr (Fm.refl w []).drew (by simp),H.lt,H.dis⟩
theorem c157 {w:World} {b o bc nb v m:Nat} {f:Cells} {so:Sl} {ol:List Nat} {K:Unit→PT} (H:BW w b o f bc nb so ol) (hM:maskAt w) (hv:v<65536) (hm:m≤16) (hn:nb+m≤64) (hn2:nb<64)
  (hk:∀w',BW w' b o f (bc+v%2^m*2^nb) (nb+m) so ol→Fm w w' [b]→K () w'):callP Tryd.prog 157 #[.pointer (some ⟨b,o,none⟩),.int .u16 v,.int .u8 m] [] K w:=by
 apply q157_ok
 unfold q157 drw
 refine ld_b (t := .I .u64) (x:=(bc:Int)) H.drew.blk (bwC_0 _ _ _ _ _) ?_
 have e31:andI .u8 (m:Int) 31=m:=by
  have:=andI_nat (k := .u8) rfl m 31 (by simp only [IntKind.bits];omega) (by decide)
  have e:m &&& 31=m%32:=Nat.and_two_pow_sub_one_eq_mod m 5
  rw [e,Nat.mod_eq_of_lt (by omega)] at this
  exact this
 rw [e31]
 refine ixA_b (k:=m) rfl (by omega) ?_
 rw [Nat.zero_add,Nat.mul_one,add_mk]
 refine ld_c (t := .I .u16) (x:=((2^m-1:Nat):Int)) (hM m hm) ?_
 refine ld_b (t := .I .u8) (x:=(nb:Int)) H.drew.blk (bwC_1 _ _ _ _ _) ?_
 have hp:2^m≤2^16:=Nat.pow_le_pow_right (by omega) hm
 have ea:andI .u16 (v:Int) ((2^m-1:Nat):Int)=((v%2^m:Nat):Int):=by
  rw [andI_nat (k := .u16) rfl v (2^m-1) (by simp only [IntKind.bits];omega) (by simp only [IntKind.bits];omega),Nat.and_two_pow_sub_one_eq_mod]
 have hlt:v%2^m<2^m:=Nat.mod_lt _ (Nat.two_pow_pos _)
 rw [ea,and63 hn2,wU64 (x:=((v%2^m:Nat):Int)) (by omega) (by omega)]
 refine ⟨by omega,bits_tail H.drew hlt hm hn hn2 ?_⟩
 intro w' H' F'
 exact hk w' H' (((Fm.refl w [b]).drew).trans F' (fun x hx => .inl hx))
theorem c156 {w:World} {b o bc nb v m:Nat} {f:Cells} {so:Sl} {ol:List Nat} {K:Unit→PT} (H:BW w b o f bc nb so ol) (hv:v<65536) (hm:m≤16) (hn:nb+m≤64) (hn2:nb<64)
  (hk:∀w',BW w' b o f (bc+v%2^m*2^nb) (nb+m) so ol→Fm w w' [b]→K () w'):callP Tryd.prog 156 #[.pointer (some ⟨b,o,none⟩),.int .u16 v,.int .u8 m] [] K w:=by
 apply q156_ok
 unfold q156
 refine cnd_d ?_ ?_
 ·intro hc
  have:m=0:=by omega
  subst this
  rw [Nat.pow_zero,Nat.mod_one,Nat.zero_mul] at hk
  exact hk w H (Fm.refl w _)
 ·intro hc
  have e15:andI .u8 (IntKind.wrap .u8 ((16:Int)-(m:Int))) 15=((16-m:Nat):Int):=by
   rw [wU8 (by omega) (by omega),show (16:Int)-(m:Int)=((16-m:Nat):Int) by omega]
   have:=andI_nat (k := .u8) rfl (16-m) 15 (by simp only [IntKind.bits];omega) (by decide)
   have e:(16-m) &&& 15=(16-m)%16:=Nat.and_two_pow_sub_one_eq_mod (16-m) 4
   rw [e,Nat.mod_eq_of_lt (by omega)] at this
   exact this
  rw [e15]
  have ev:shrI .u16 (shlI .u16 (v:Int) ((16-m:Nat):Int)) ((16-m:Nat):Int)=((v%2^m:Nat):Int):=by
   rw [shlI_u (k := .u16) rfl v (16-m) (by simp only [IntKind.bits];omega)]
   simp only [IntKind.bits]
   rw [shrI_nat .u16 _ (16-m) (by simp only [IntKind.bits];omega)]
   congr 1
   rw [show (2:Nat)^16=2^m*2^(16-m) by rw [←Nat.pow_add,show m+(16-m)=16 by omega]]
   rw [Nat.mul_mod_mul_right,Nat.mul_div_cancel _ (Nat.two_pow_pos _)]
  rw [ev]
  have hlt:v%2^m<2^m:=Nat.mod_lt _ (Nat.two_pow_pos _)
  have hp:2^m≤2^16:=Nat.pow_le_pow_right (by omega) hm
  unfold drw
  refine ⟨by omega,by omega,?_⟩
  refine ld_b (t := .I .u64) (x:=(bc:Int)) H.drew.blk (bwC_0 _ _ _ _ _) ?_
  rw [add_mk]
  refine ld_b (t := .I .u8) (x:=(nb:Int)) H.drew.blk (bwC_1 _ _ _ _ _) ?_
  rw [and63 hn2,wU64 (x:=((v%2^m:Nat):Int)) (by omega) (by omega)]
  refine ⟨by omega,bits_tail H.drew hlt hm hn hn2 ?_⟩
  intro w' H' F'
  exact hk w' H' (((Fm.refl w [b]).drew).trans F' (fun x hx => .inl hx))
theorem c159 {w:World} {b o bc nb v m:Nat} {f:Cells} {so:Sl} {ol:List Nat} {K:Unit→PT} (H:BW w b o f bc nb so ol) (hv:v<2^m) (hm:m≤16) (hn:nb+m≤64) (hn2:nb<64)
  (hk:∀w',BW w' b o f (bc+v*2^nb) (nb+m) so ol→Fm w w' [b]→K () w'):callP Tryd.prog 159 #[.pointer (some ⟨b,o,none⟩),.int .u16 v,.int .u8 m] [] K w:=by
 apply q159_ok
 unfold q159 drw
 have hp:2^m≤2^16:=Nat.pow_le_pow_right (by omega) hm
 refine ld_b (t := .I .u64) (x:=(bc:Int)) H.drew.blk (bwC_0 _ _ _ _ _) ?_
 rw [add_mk]
 refine ld_b (t := .I .u8) (x:=(nb:Int)) H.drew.blk (bwC_1 _ _ _ _ _) ?_
 rw [and63 hn2,wU64 (x:=((v:Nat):Int)) (by omega) (by omega)]
 refine ⟨by omega,bits_tail H.drew hv hm hn hn2 ?_⟩
 intro w' H' F'
 exact hk w' H' (((Fm.refl w [b]).drew).trans F' (fun x hx => .inl hx))
end Go.Sx
