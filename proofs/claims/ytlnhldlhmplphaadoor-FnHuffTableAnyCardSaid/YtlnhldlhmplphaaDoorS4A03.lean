/- Lemmas for the proof: P03 P04 W1 W2 W3 W4 W5 W6 W7 W8. No conditions. -/
import Derived.Test.YtlnhldlhmplphaaDoorS4A02
set_option linter.unusedVariables false
set_option linter.unusedSimpArgs false
namespace Go.Sx
open Go Go.Proofs
set_option maxRecDepth 100000
def q62 (t0:ByteArray) (K1:(Value)→PT):PT :=
 nw [(.string t0)] 162 fun (p2:Addr)=>K1 (.iface 160 (.pointer (some p2)))
def h62:Hint:=⟨.e,.e⟩
theorem q62_eq (t0:ByteArray) (K1:(Value)→PT):fnE Cx h62 [.c .V] Tryd.f62 [.v (.string t0)] K1=q62 t0 K1:=by kernel_rfl
theorem q62_fnok:fnOk Tryd.f62 1=true:=by kernel_rfl
theorem q62_ok (t0:ByteArray) (K1:(Value)→PT) {w:World} (h:q62 t0 K1 w):Calls Tryd.prog 62 #[(.string t0)] w fun e w'=>∃r,e = .returned (resMk [.c .V] r)∧K1 r w' :=
 of_eq Tryd.func62 q62_fnok (by kernel_rfl) (by kernel_rfl) (q62_eq t0 K1) h
def q63 (s0:Sl) (o1:Option Addr) (K2:(Sl×Value)→PT):PT :=
 callP Tryd.prog 77 #[(.pointer o1),(.slice s0.a s0.l s0.c)] [.c .P,.c .V] fun (r3:Option Addr×Value)=>req (isIf r3.2=true)<|cnd (!(isNil r3.2)) (K2 (⟨none,0,0⟩,r3.2)) (nz r3.1 fun (p4:Addr)=>ld .S (Addr.add p4 526) fun (s5:Sl)=>slc 1 s5 none (some (0:Int)) none fun (s6:Sl)=>nz r3.1 fun (p7:Addr)=>st (Addr.add p7 526) (.slice s6.a s6.l s6.c)<|callP Tryd.prog 78 #[(.pointer r3.1)] [.c .V] fun (r8:Value)=>req (isIf r8=true)<|cnd (!(isNil r8)) (K2 (⟨none,0,0⟩,r8)) (callP Tryd.prog 79 #[(.pointer r3.1)] [.c .V] fun (r9:Value)=>req (isIf r9=true)<|cnd (!(isNil r9)) (K2 (⟨none,0,0⟩,r9)) (callP Tryd.prog 80 #[(.pointer r3.1)] [.c .V] fun (r10:Value)=>req (isIf r10=true)<|cnd (!(isNil r10)) (K2 (⟨none,0,0⟩,r10)) (nz r3.1 fun (p11:Addr)=>ld .S (Addr.add p11 526) fun (s12:Sl)=>K2 (s12,.nilIface)))))
def h63:Hint:=⟨.e,.e⟩
theorem q63_eq (s0:Sl) (o1:Option Addr) (K2:(Sl×Value)→PT):fnE Cx h63 [.c .S,.c .V] Tryd.f63 [.v (.slice s0.a s0.l s0.c),.v (.pointer o1)] K2=q63 s0 o1 K2:=by kernel_rfl
theorem q63_fnok:fnOk Tryd.f63 2=true:=by kernel_rfl
theorem q63_ok (s0:Sl) (o1:Option Addr) (K2:(Sl×Value)→PT) {w:World} (h:q63 s0 o1 K2 w):Calls Tryd.prog 63 #[(.slice s0.a s0.l s0.c),(.pointer o1)] w fun e w'=>∃r,e = .returned (resMk [.c .S,.c .V] r)∧K2 r w' :=
 of_eq Tryd.func63 q63_fnok (by kernel_rfl) (by kernel_rfl) (q63_eq s0 o1 K2) h
def q64 (n0:Int) (K1:Int→PT):PT :=
 callP Tryd.prog 81 #[(.int .u32 n0)] [.c (.I .i64)] fun (r2:Int)=>K1 (IntKind.wrap .u32 (IntKind.wrap .i64 (r2-(1:Int))))
def h64:Hint:=⟨.e,.e⟩
theorem q64_eq (n0:Int) (K1:Int→PT):fnE Cx h64 [.c (.I .u32)] Tryd.f64 [.v (.int .u32 n0)] K1=q64 n0 K1:=by kernel_rfl
theorem q64_fnok:fnOk Tryd.f64 1=true:=by kernel_rfl
theorem q64_ok (n0:Int) (K1:Int→PT) {w:World} (h:q64 n0 K1 w):Calls Tryd.prog 64 #[(.int .u32 n0)] w fun e w'=>∃r,e = .returned (resMk [.c (.I .u32)] r)∧K1 r w' :=
 of_eq Tryd.func64 q64_fnok (by kernel_rfl) (by kernel_rfl) (q64_eq n0 K1) h
def q65_L0 (p3:Addr) (n5:Int) (R11:Unit→PT) (x12:Int) (A13:Int→PT):PT :=
 cnd (decide (x12<(IntKind.wrap .u8 (n5+(1:Int))))) (ixA 1 12 p3 x12 fun (p14:Addr)=>st p14 (.int .u8 (IntKind.wrap .u8 ((IntKind.wrap .u8 (n5+(1:Int)))-x12)))<|A13 (IntKind.wrap .u8 (x12+(1:Int)))) (R11 ())
def q65_L1 (s19:Sl) (R20:Unit→PT) (s21:Sl) (x22:Int) (A23:Int→PT):PT :=
 cnd (decide (x22<(s21.l:Int))) (ixS 1 s19 x22 fun (p24:Addr)=>st p24 (.int .u32 (0:Int))<|A23 (IntKind.wrap .i64 (x22+(1:Int)))) (R20 ())
def q65_L2 (s0:Sl) (p3:Addr) (n7:Int) (s9:Sl) (s19:Sl) (R26:Unit→PT) (x27:Int) (A28:Int→PT):PT :=
 cnd (decide (x27<(IntKind.wrap .u8 (IntKind.wrap .u16 (n7-(1:Int)))))) (ixS 2 s0 x27 fun (p29:Addr)=>ld (.I .u8) (Addr.add p29 1) fun (n30:Int)=>ixA 1 12 p3 n30 fun (p31:Addr)=>ld (.I .u8) p31 fun (n32:Int)=>ixS 1 s9 x27 fun (p33:Addr)=>st p33 (.int .u8 (andI .u8 n32 (15:Int)))<|ixS 1 s19 (andI .u8 n32 (15:Int)) fun (p34:Addr)=>ld (.I .u32) p34 fun (n35:Int)=>ixS 1 s19 (andI .u8 n32 (15:Int)) fun (p36:Addr)=>st p36 (.int .u32 (IntKind.wrap .u32 (n35+(1:Int))))<|A28 (IntKind.wrap .u8 (x27+(1:Int)))) (R26 ())
def q65_J3 (x41:(Int×Int×Int)) (A42:(Int×Int×Int)→PT) (x46:Int×Int):PT :=
 A42 (x46.1,x46.2,(IntKind.wrap .i64 (x41.2.2+(1:Int))))
def q65_L4 (R39:Int×Int→PT) (s40:Sl) (x41:Int×Int×Int) (A42:(Int×Int×Int)→PT):PT :=
 cnd (decide (x41.2.2<(s40.l:Int))) (joinP (fun R43=>ixS 1 s40 x41.2.2 fun (p44:Addr)=>ld (.I .u32) p44 fun (n45:Int)=>cnd (decide (n45=(0:Int))) (R43 (x41.1,x41.2.1)) (cnd (decide (x41.1<n45)) (R43 (n45,(IntKind.wrap .u8 x41.2.2))) (R43 (x41.1,(IntKind.wrap .u8 x41.2.2))))) (q65_J3 x41 A42)) (R39 (x41.1,x41.2.1))
def q65_J5 (o1:Option Addr) (K2:(Value)→PT) (n7:Int) (s9:Sl) (R38:Unit→PT) (x47:Int×Int):PT :=
 nz o1 fun (p48:Addr)=>ld .P (Addr.add p48 278) fun (o49:Option Addr)=>callP Tryd.prog 83 #[(.pointer o49),(.int .u8 x47.2),(.int .i64 (IntKind.wrap .i64 x47.1))] [] fun (r50:Unit)=>nz o1 fun (p51:Addr)=>ld .P (Addr.add p51 278) fun (o52:Option Addr)=>nz o52 fun (p53:Addr)=>st (Addr.add p53 533) (.int .u8 (6:Int))<|drw<|slc 1 s9 none (some (IntKind.wrap .u8 (IntKind.wrap .u16 (n7-(1:Int))))) none fun (s54:Sl)=>nz o1 fun (p55:Addr)=>ld .P (Addr.add p55 278) fun (o56:Option Addr)=>callP Tryd.prog 84 #[(.slice s54.a s54.l s54.c),(.pointer o56)] [.c .S,.c .V] fun (r57:Sl×Value)=>req (isIf r57.2=true)<|cnd (isNil r57.2) (nz o1 fun (p58:Addr)=>ld (.I .u16) (Addr.add p58 265) fun (n59:Int)=>req (0≤(1:Int))<|cnd (decide ((r57.1.l:Int)<(IntKind.wrap .i64 (shrI .u16 n59 (1:Int))))) (nz o1 fun (p60:Addr)=>ld .S (Addr.add p60 256) fun (s61:Sl)=>nw [(.int .u8 (IntKind.wrap .u8 (r57.1.l:Int)))] 5 fun (p62:Addr)=>app z5 5 1 s61 ⟨(some p62),1,1⟩ fun (s63:Sl)=>nz o1 fun (p64:Addr)=>st (Addr.add p64 256) (.slice s63.a s63.l s63.c)<|nz o1 fun (p65:Addr)=>ld .S (Addr.add p65 256) fun (s66:Sl)=>app z5 5 1 s66 r57.1 fun (s67:Sl)=>nz o1 fun (p68:Addr)=>st (Addr.add p68 256) (.slice s67.a s67.l s67.c)<|K2 .nilIface) (R38 ())) (R38 ())
def q65_L6 (n7:Int) (s9:Sl) (R76:Sl→PT) (x77:Sl×Int) (A78:(Sl×Int)→PT):PT :=
 cnd (decide (x77.2<(IntKind.wrap .u16 (IntKind.wrap .u8 (IntKind.wrap .u16 (n7-(1:Int))))))) (drw<|ixS 1 s9 x77.2 fun (p79:Addr)=>ld (.I .u8) p79 fun (n80:Int)=>req (0≤(4:Int))<|ixS 1 s9 (IntKind.wrap .u16 (x77.2+(1:Int))) fun (p81:Addr)=>ld (.I .u8) p81 fun (n82:Int)=>nw [(.int .u8 (orI .u8 (shlI .u8 n80 (4:Int)) n82))] 5 fun (p83:Addr)=>app z5 5 1 x77.1 ⟨(some p83),1,1⟩ fun (s84:Sl)=>A78 (s84,(IntKind.wrap .u16 (x77.2+(2:Int))))) (R76 x77.1)
def q65_J7 (o1:Option Addr) (K2:(Value)→PT) (x85:Sl):PT :=
 nz o1 fun (p86:Addr)=>st (Addr.add p86 256) (.slice x85.a x85.l x85.c)<|K2 .nilIface
def q65_J8 (o1:Option Addr) (K2:(Value)→PT) (n7:Int) (s9:Sl) (x69:Unit):PT :=
 cnd (decide ((128:Int)<(IntKind.wrap .u8 (IntKind.wrap .u16 (n7-(1:Int)))))) (ld .V ⟨0,0,none⟩ fun (v70:Value)=>K2 v70) (nz o1 fun (p71:Addr)=>ld .S (Addr.add p71 256) fun (s72:Sl)=>nw [(.int .u8 (orI .u8 (128:Int) (IntKind.wrap .u8 ((IntKind.wrap .u8 (IntKind.wrap .u16 (n7-(1:Int))))-(1:Int)))))] 5 fun (p73:Addr)=>app z5 5 1 s72 ⟨(some p73),1,1⟩ fun (s74:Sl)=>ixS 1 s9 (IntKind.wrap .u8 (IntKind.wrap .u16 (n7-(1:Int)))) fun (p75:Addr)=>st p75 (.int .u8 (0:Int))<|joinP (fun R76=>loopP (s74,(0:Int)) (q65_L6 n7 s9 R76)) (q65_J7 o1 K2))
def q65_J9 (o1:Option Addr) (K2:(Value)→PT) (n7:Int) (s9:Sl) (s19:Sl) (x37:Unit):PT :=
 joinP (fun R38=>cnd (decide ((2:Int)≤(IntKind.wrap .u8 (IntKind.wrap .u16 (n7-(1:Int)))))) (joinP (fun R39=>slc 1 s19 none (some (16:Int)) none fun (s40:Sl)=>loopP ((0:Int),(0:Int),(0:Int)) (q65_L4 R39 s40)) (q65_J5 o1 K2 n7 s9 R38)) (R38 ())) (q65_J8 o1 K2 n7 s9)
def q65_J10 (s0:Sl) (o1:Option Addr) (K2:(Value)→PT) (p3:Addr) (n7:Int) (s9:Sl) (s19:Sl) (x25:Unit):PT :=
 joinP (fun R26=>loopP (0:Int) (q65_L2 s0 p3 n7 s9 s19 R26)) (q65_J9 o1 K2 n7 s9 s19)
def q65_J11 (s0:Sl) (o1:Option Addr) (K2:(Value)→PT) (p3:Addr) (n7:Int) (s9:Sl) (x15:Unit):PT :=
 nz o1 fun (p16:Addr)=>ld .P (Addr.add p16 278) fun (o17:Option Addr)=>callP Tryd.prog 82 #[(.pointer o17)] [.c .S] fun (r18:Sl)=>slc 1 r18 none (some (256:Int)) none fun (s19:Sl)=>joinP (fun R20=>slc 1 s19 none (some (16:Int)) none fun (s21:Sl)=>loopP (0:Int) (q65_L1 s19 R20 s21)) (q65_J10 s0 o1 K2 p3 n7 s9 s19)
def q65 (s0:Sl) (o1:Option Addr) (K2:(Value)→PT):PT :=
 nw z167 167 fun (p3:Addr)=>nz o1 fun (p4:Addr)=>ld (.I .u8) (Addr.add p4 268) fun (n5:Int)=>nz o1 fun (p6:Addr)=>ld (.I .u16) (Addr.add p6 265) fun (n7:Int)=>nz o1 fun (p8:Addr)=>slcA 1 256 (Addr.add p8 279) none (some (256:Int)) none fun (s9:Sl)=>ixA 1 12 p3 (0:Int) fun (p10:Addr)=>st p10 (.int .u8 (0:Int))<|joinP (fun R11=>loopP (1:Int) (q65_L0 p3 n5 R11)) (q65_J11 s0 o1 K2 p3 n7 s9)
def h65:Hint:=⟨(.n (.n (.n (.n .e 127 ([],[8,5,0,7,1]) .e) 1018 ([(9,.c (.I .u8))],[5,6,8,0,7,1]) (.n .e 1023 ([],[10,8,5,0,7,1]) .e)) 2047 ([],[10,8,7,1]) (.n (.n .e 4095 ([],[7,1,8]) .e) 8186 ([(59,.c (.I .i64))],[10,8,5,0,7,1,58]) .e)) 16378 ([(67,.c (.I .u8))],[10,8,5,0,7,1,66]) (.n (.n (.n .e 131051 ([(14,.c (.I .u32)),(15,.c (.I .u8))],[8,7,1]) .e) 131071 ([(20,.c .S)],[1]) .e) 1048410 ([(14,.c (.I .u32)),(15,.c (.I .u8)),(94,.c (.I .i64))],[92,8,7,1,93]) (.n (.n .e 1048570 ([(20,.c .S),(21,.c (.I .u16))],[8,1,7]) .e) 8387283 ([(14,.c (.I .u32)),(15,.c (.I .u8))],[94,92,8,7,1,93]) .e))),.e⟩
theorem q65_eq (s0:Sl) (o1:Option Addr) (K2:(Value)→PT):fnE Cx h65 [.c .V] Tryd.f65 [.v (.slice s0.a s0.l s0.c),.v (.pointer o1)] K2=q65 s0 o1 K2:=by kernel_rfl
theorem q65_fnok:fnOk Tryd.f65 2=true:=by kernel_rfl
theorem q65_ok (s0:Sl) (o1:Option Addr) (K2:(Value)→PT) {w:World} (h:q65 s0 o1 K2 w):Calls Tryd.prog 65 #[(.slice s0.a s0.l s0.c),(.pointer o1)] w fun e w'=>∃r,e = .returned (resMk [.c .V] r)∧K2 r w' :=
 of_eq Tryd.func65 q65_fnok (by kernel_rfl) (by kernel_rfl) (q65_eq s0 o1 K2) h
def q66 (s0:Sl) (n1:Int) (s2:Sl) (K3:(Sl×Bool)→PT):PT :=
 callP Tryd.prog 85 #[(.slice s0.a s0.l s0.c),(.int .i64 n1)] [.c .S,.c .B] fun (r4:Sl×Bool)=>cnd (!r4.2) (K3 (⟨none,0,0⟩,false)) (callP Tryd.prog 86 #[(.slice s0.a s0.l s0.c),(.int .i64 n1),(.slice s2.a s2.l s2.c)] [.c .S,.c .B] fun (r5:Sl×Bool)=>cnd (!r5.2) (K3 (⟨none,0,0⟩,false)) (app z5 5 1 r4.1 r5.1 fun (s6:Sl)=>K3 (s6,true)))
def h66:Hint:=⟨.e,.e⟩
theorem q66_eq (s0:Sl) (n1:Int) (s2:Sl) (K3:(Sl×Bool)→PT):fnE Cx h66 [.c .S,.c .B] Tryd.f66 [.v (.slice s0.a s0.l s0.c),.v (.int .i64 n1),.v (.slice s2.a s2.l s2.c)] K3=q66 s0 n1 s2 K3:=by kernel_rfl
theorem q66_fnok:fnOk Tryd.f66 3=true:=by kernel_rfl
theorem q66_ok (s0:Sl) (n1:Int) (s2:Sl) (K3:(Sl×Bool)→PT) {w:World} (h:q66 s0 n1 s2 K3 w):Calls Tryd.prog 66 #[(.slice s0.a s0.l s0.c),(.int .i64 n1),(.slice s2.a s2.l s2.c)] w fun e w'=>∃r,e = .returned (resMk [.c .S,.c .B] r)∧K3 r w' :=
 of_eq Tryd.func66 q66_fnok (by kernel_rfl) (by kernel_rfl) (q66_eq s0 n1 s2 K3) h
def q67_J0 (p0:Addr) (n1:Int) (K2:Int→PT) (r5:Int×Bool) (x8:Unit):PT :=
 ld (.I .i64) (Addr.add p0 1) fun (n9:Int)=>st (Addr.add p0 1) (.int .i64 (IntKind.wrap .i64 (n9+n1)))<|K2 r5.1
def q67 (p0:Addr) (n1:Int) (K2:Int→PT):PT :=
 drw<|ld .S p0 fun (s3:Sl)=>ld (.I .i64) (Addr.add p0 1) fun (n4:Int)=>callP Tryd.prog 87 #[(.slice s3.a s3.l s3.c),(.int .i64 n4),(.int .i64 n1)] [.c (.I .i64),.c .B] fun (r5:Int×Bool)=>joinP (fun R6=>ld .B (Addr.add p0 2) fun (b7:Bool)=>cnd b7 (st (Addr.add p0 2) (.bool r5.2)<|R6 ()) (st (Addr.add p0 2) (.bool false)<|R6 ())) (q67_J0 p0 n1 K2 r5)
def h67:Hint:=⟨(.n .e 7 ([],[0,1,5]) .e),.e⟩
theorem q67_eq (p0:Addr) (n1:Int) (K2:Int→PT):fnE Cx h67 [.c (.I .i64)] Tryd.f67 [.pt p0,.v (.int .i64 n1)] K2=q67 p0 n1 K2:=by kernel_rfl
theorem q67_fnok:fnOk Tryd.f67 2=true:=by kernel_rfl
theorem q67_ok (p0:Addr) (n1:Int) (K2:Int→PT) {w:World} (h:q67 p0 n1 K2 w):Calls Tryd.prog 67 #[(.pointer (some p0)),(.int .i64 n1)] w fun e w'=>∃r,e = .returned (resMk [.c (.I .i64)] r)∧K2 r w' :=
 of_eq Tryd.func67 q67_fnok (by kernel_rfl) (by kernel_rfl) (q67_eq p0 n1 K2) h
def q68_J0 (K2:Int→PT) (x9:Int):PT :=
 K2 x9
def q68_J1 (n1:Int) (K2:Int→PT) (r3:Int) (x7:Int):PT :=
 joinP (fun R8=>req (0≤(IntKind.wrap .i64 ((IntKind.wrap .i64 (r3+(1:Int)))-(1:Int))))<|cnd (decide ((shlI .i64 (1:Int) (IntKind.wrap .i64 ((IntKind.wrap .i64 (r3+(1:Int)))-(1:Int))))≤x7)) (R8 (IntKind.wrap .i64 (x7-(IntKind.wrap .i64 ((IntKind.wrap .i64 ((shlI .i64 (1:Int) (IntKind.wrap .i64 (r3+(1:Int))))-(1:Int)))-n1))))) (R8 x7)) (q68_J0 K2)
def q68 (p0:Addr) (n1:Int) (K2:Int→PT):PT :=
 callP Tryd.prog 44 #[(.int .i64 n1)] [.c (.I .i64)] fun (r3:Int)=>req (0≤(IntKind.wrap .i64 (r3+(1:Int))))<|callP Tryd.prog 67 #[(.pointer (some p0)),(.int .i64 (IntKind.wrap .i64 ((IntKind.wrap .i64 (r3+(1:Int)))-(1:Int))))] [.c (.I .i64)] fun (r4:Int)=>cnd (decide (r4<(IntKind.wrap .i64 ((IntKind.wrap .i64 ((shlI .i64 (1:Int) (IntKind.wrap .i64 (r3+(1:Int))))-(1:Int)))-n1)))) (K2 r4) (joinP (fun R5=>callP Tryd.prog 67 #[(.pointer (some p0)),(.int .i64 (1:Int))] [.c (.I .i64)] fun (r6:Int)=>cnd (decide (r6=(1:Int))) (req (0≤(IntKind.wrap .i64 ((IntKind.wrap .i64 (r3+(1:Int)))-(1:Int))))<|R5 (IntKind.wrap .i64 (r4+(shlI .i64 (1:Int) (IntKind.wrap .i64 ((IntKind.wrap .i64 (r3+(1:Int)))-(1:Int))))))) (R5 r4)) (q68_J1 n1 K2 r3))
def h68:Hint:=⟨(.n (.n .e 63 ([(7,.c (.I .i64))],[5,6]) .e) 127 ([(7,.c (.I .i64))],[]) .e),.e⟩
theorem q68_eq (p0:Addr) (n1:Int) (K2:Int→PT):fnE Cx h68 [.c (.I .i64)] Tryd.f68 [.pt p0,.v (.int .i64 n1)] K2=q68 p0 n1 K2:=by kernel_rfl
theorem q68_fnok:fnOk Tryd.f68 2=true:=by kernel_rfl
theorem q68_ok (p0:Addr) (n1:Int) (K2:Int→PT) {w:World} (h:q68 p0 n1 K2 w):Calls Tryd.prog 68 #[(.pointer (some p0)),(.int .i64 n1)] w fun e w'=>∃r,e = .returned (resMk [.c (.I .i64)] r)∧K2 r w' :=
 of_eq Tryd.func68 q68_fnok (by kernel_rfl) (by kernel_rfl) (q68_eq p0 n1 K2) h
def q69_L0 (p0:Addr) (r5:Int) (R6:Unit→PT) (x7:Int) (A8:Int→PT):PT :=
 cnd (decide (x7<r5)) (ld .S (Addr.add p0 3) fun (s9:Sl)=>nw [(.int .i64 (0:Int))] 3 fun (p10:Addr)=>app z3 3 8 s9 ⟨(some p10),1,1⟩ fun (s11:Sl)=>st (Addr.add p0 3) (.slice s11.a s11.l s11.c)<|A8 (IntKind.wrap .i64 (x7+(1:Int)))) (R6 ())
def q69_J1 (p0:Addr) (K1:Unit→PT) (A3:Unit→PT) (r5:Int) (x12:Unit):PT :=
 cnd (decide (r5<(3:Int))) (K1 ()) (ld .S (Addr.add p0 3) fun (s13:Sl)=>cnd (decide ((256:Int)<(s13.l:Int))) (K1 ()) (A3 ()))
def q69_L2 (p0:Addr) (K1:Unit→PT) (x2:Unit) (A3:Unit→PT):PT :=
 ld .B (Addr.add p0 2) fun (b4:Bool)=>cnd b4 (callP Tryd.prog 67 #[(.pointer (some p0)),(.int .i64 (2:Int))] [.c (.I .i64)] fun (r5:Int)=>joinP (fun R6=>loopP (0:Int) (q69_L0 p0 r5 R6)) (q69_J1 p0 K1 A3 r5)) (K1 ())
def q69 (p0:Addr) (K1:Unit→PT):PT :=
 loopP () (q69_L2 p0 K1)
def h69:Hint:=⟨(.n (.n .e 2 ([],[0]) .e) 37 ([],[2,0]) (.n .e 298 ([(3,.c (.I .i64))],[0,2]) .e)),.e⟩
theorem q69_eq (p0:Addr) (K1:Unit→PT):fnE Cx h69 [] Tryd.f69 [.pt p0] K1=q69 p0 K1:=by kernel_rfl
theorem q69_fnok:fnOk Tryd.f69 1=true:=by kernel_rfl
theorem q69_ok (p0:Addr) (K1:Unit→PT) {w:World} (h:q69 p0 K1 w):Calls Tryd.prog 69 #[(.pointer (some p0))] w fun e w'=>∃r,e = .returned (resMk [] r)∧K1 r w' :=
 of_eq Tryd.func69 q69_fnok (by kernel_rfl) (by kernel_rfl) (q69_eq p0 K1) h
def q72 (s0:Sl) (K1:(Option Addr×Bool)→PT):PT :=
 cnd (decide ((s0.l:Int)=(0:Int))) (K1 ((none:Option Addr),false)) (ixS 1 s0 (IntKind.wrap .i64 ((s0.l:Int)-(1:Int))) fun (p2:Addr)=>ld (.I .u8) p2 fun (n3:Int)=>cnd (decide (n3=(0:Int))) (K1 ((none:Option Addr),false)) (ixS 1 s0 (IntKind.wrap .i64 ((s0.l:Int)-(1:Int))) fun (p4:Addr)=>ld (.I .u8) p4 fun (n5:Int)=>callP Tryd.prog 44 #[(.int .i64 (IntKind.wrap .i64 n5))] [.c (.I .i64)] fun (r6:Int)=>nw [(.slice s0.a s0.l s0.c),(.int .i64 (IntKind.wrap .i64 ((IntKind.wrap .i64 ((8:Int)*(IntKind.wrap .i64 ((s0.l:Int)-(1:Int)))))+r6)))] 115 fun (p7:Addr)=>K1 ((some p7),true)))
def h72:Hint:=⟨.e,.e⟩
theorem q72_eq (s0:Sl) (K1:(Option Addr×Bool)→PT):fnE Cx h72 [.c .P,.c .B] Tryd.f72 [.v (.slice s0.a s0.l s0.c)] K1=q72 s0 K1:=by kernel_rfl
theorem q72_fnok:fnOk Tryd.f72 1=true:=by kernel_rfl
theorem q72_ok (s0:Sl) (K1:(Option Addr×Bool)→PT) {w:World} (h:q72 s0 K1 w):Calls Tryd.prog 72 #[(.slice s0.a s0.l s0.c)] w fun e w'=>∃r,e = .returned (resMk [.c .P,.c .B] r)∧K1 r w' :=
 of_eq Tryd.func72 q72_fnok (by kernel_rfl) (by kernel_rfl) (q72_eq s0 K1) h
def q75_L0 (s3:Sl) (R4:Unit→PT) (x5:Int) (A6:Int→PT):PT :=
 cnd (decide (x5<(s3.l:Int))) (ixS 1 s3 x5 fun (p7:Addr)=>st p7 (.int .i64 (-1:Int))<|A6 (IntKind.wrap .i64 (x5+(1:Int)))) (R4 ())
def q75_J1 (x10:(Int×Int)) (A11:(Int×Int)→PT) (x16:Int):PT :=
 A11 (x16,(IntKind.wrap .i64 (x10.2+(1:Int))))
def q75_L2 (s0:Sl) (s3:Sl) (R9:Int→PT) (x10:Int×Int) (A11:(Int×Int)→PT):PT :=
 cnd (decide (x10.2<(s0.l:Int))) (joinP (fun R12=>ixS 1 s0 x10.2 fun (p13:Addr)=>ld (.I .i64) p13 fun (n14:Int)=>cnd (decide (n14=(-1:Int))) (cnd (decide ((0:Int)≤x10.1)) (ixS 1 s3 x10.1 fun (p15:Addr)=>st p15 (.int .i64 x10.2)<|R12 (IntKind.wrap .i64 (x10.1-(1:Int)))) (R12 x10.1)) (R12 x10.1)) (q75_J1 x10 A11)) (R9 x10.1)
def q75_L3 (n1:Int) (x17:(Int)) (R26:Int→PT) (x28:Int) (A29:Int→PT):PT :=
 cnd (decide (x17<x28)) (cnd (decide (x28<(shlI .i64 (1:Int) n1))) (cnd (decide ((0:Int)≤x17)) (req ((shlI .i64 (1:Int) n1)≠0)<|A29 (Int.tmod (IntKind.wrap .i64 (x28+(IntKind.wrap .i64 ((IntKind.wrap .i64 ((quoI .i64 (shlI .i64 (1:Int) n1) (2:Int))+(quoI .i64 (shlI .i64 (1:Int) n1) (8:Int))))+(3:Int))))) (shlI .i64 (1:Int) n1))) (R26 x28)) (R26 x28)) (R26 x28)
def q75_J4 (x24:(Int×Int)) (A25:(Int×Int)→PT) (x30:Int):PT :=
 A25 (x30,(IntKind.wrap .i64 (x24.2+(1:Int))))
def q75_X5 (n1:Int) (K2:Sl→PT) (s3:Sl) (x17:(Int)) (x19:(Int×Int)) (x24:(Int×Int)) (R26:Int→PT):PT :=
 cnd (decide (x17<x24.1)) (K2 ⟨none,0,0⟩) (ixS 1 s3 x24.1 fun (p27:Addr)=>st p27 (.int .i64 x19.2)<|req ((shlI .i64 (1:Int) n1)≠0)<|loopP (Int.tmod (IntKind.wrap .i64 (x24.1+(IntKind.wrap .i64 ((IntKind.wrap .i64 ((quoI .i64 (shlI .i64 (1:Int) n1) (2:Int))+(quoI .i64 (shlI .i64 (1:Int) n1) (8:Int))))+(3:Int))))) (shlI .i64 (1:Int) n1)) (q75_L3 n1 x17 R26))
def q75_L6 (n1:Int) (K2:Sl→PT) (s3:Sl) (x17:(Int)) (x19:(Int×Int)) (R21:Int→PT) (n23:Int) (x24:Int×Int) (A25:(Int×Int)→PT):PT :=
 cnd (decide (x24.2<(maxI n23 (0:Int)))) (joinP (q75_X5 n1 K2 s3 x17 x19 x24) (q75_J4 x24 A25)) (R21 x24.1)
def q75_J7 (x19:(Int×Int)) (A20:(Int×Int)→PT) (x31:Int):PT :=
 A20 (x31,(IntKind.wrap .i64 (x19.2+(1:Int))))
def q75_L8 (s0:Sl) (n1:Int) (K2:Sl→PT) (s3:Sl) (x17:(Int)) (R18:Unit→PT) (x19:Int×Int) (A20:(Int×Int)→PT):PT :=
 cnd (decide (x19.2<(s0.l:Int))) (joinP (fun R21=>ixS 1 s0 x19.2 fun (p22:Addr)=>ld (.I .i64) p22 fun (n23:Int)=>loopP (x19.1,(0:Int)) (q75_L6 n1 K2 s3 x17 x19 R21 n23)) (q75_J7 x19 A20)) (R18 ())
def q75_J9 (K2:Sl→PT) (s3:Sl) (x32:Unit):PT :=
 K2 s3
def q75_J10 (s0:Sl) (n1:Int) (K2:Sl→PT) (s3:Sl) (x17:Int):PT :=
 req ((2:Int)≠0)<|req ((8:Int)≠0)<|joinP (fun R18=>loopP ((0:Int),(0:Int)) (q75_L8 s0 n1 K2 s3 x17 R18)) (q75_J9 K2 s3)
def q75_J11 (s0:Sl) (n1:Int) (K2:Sl→PT) (s3:Sl) (x8:Unit):PT :=
 joinP (fun R9=>loopP ((IntKind.wrap .i64 ((shlI .i64 (1:Int) n1)-(1:Int))),(0:Int)) (q75_L2 s0 s3 R9)) (q75_J10 s0 n1 K2 s3)
def q75 (s0:Sl) (n1:Int) (K2:Sl→PT):PT :=
 req (0≤n1)<|mks z3 3 8 (shlI .i64 (1:Int) n1) (shlI .i64 (1:Int) n1) fun (s3:Sl)=>joinP (fun R4=>loopP (0:Int) (q75_L0 s3 R4)) (q75_J11 s0 n1 K2 s3)
def h75:Hint:=⟨(.n (.n (.n (.n .e 15 ([],[6,0,5]) .e) 63 ([(8,.c (.I .i64))],[0,5,6]) .e) 122 ([(21,.c (.I .i64))],[6,0,5,20]) (.n (.n .e 506 ([(8,.c (.I .i64)),(32,.c (.I .i64))],[6,30,0,5,31]) .e) 511 ([],[6]) .e)) 4051 ([(8,.c (.I .i64))],[32,6,30,0,5,31]) (.n (.n (.n .e 4090 ([(12,.c (.I .i64)),(58,.c (.I .i64))],[8,11,5,6,56,57]) .e) 32723 ([(12,.c (.I .i64))],[58,8,11,5,6,56,57]) .e) 1047142 ([(12,.c (.I .i64)),(65,.c (.I .i64))],[6,13,5,11,8,58,56,57,64]) (.n (.n .e 8377139 ([(12,.c (.I .i64))],[65,6,13,5,11,8,58,56,57,64]) .e) 536136910 ([(12,.c (.I .i64))],[5,11,65,6,13,8,58,56,57,64]) .e))),.e⟩
theorem q75_eq (s0:Sl) (n1:Int) (K2:Sl→PT):fnE Cx h75 [.c .S] Tryd.f75 [.v (.slice s0.a s0.l s0.c),.v (.int .i64 n1)] K2=q75 s0 n1 K2:=by kernel_rfl
theorem q75_fnok:fnOk Tryd.f75 2=true:=by kernel_rfl
theorem q75_ok (s0:Sl) (n1:Int) (K2:Sl→PT) {w:World} (h:q75 s0 n1 K2 w):Calls Tryd.prog 75 #[(.slice s0.a s0.l s0.c),(.int .i64 n1)] w fun e w'=>∃r,e = .returned (resMk [.c .S] r)∧K2 r w' :=
 of_eq Tryd.func75 q75_fnok (by kernel_rfl) (by kernel_rfl) (q75_eq s0 n1 K2) h
def q76 (s0:Sl) (n1:Int) (K2:(Int×Bool)→PT):PT :=
 cnd (decide (n1<(0:Int))) (K2 ((0:Int),false)) (req ((8:Int)≠0)<|cnd (decide ((s0.l:Int)≤(quoI .i64 n1 (8:Int)))) (K2 ((0:Int),false)) (req ((8:Int)≠0)<|ixS 1 s0 (quoI .i64 n1 (8:Int)) fun (p3:Addr)=>ld (.I .u8) p3 fun (n4:Int)=>req ((8:Int)≠0)<|req (0≤(Int.tmod n1 (8:Int)))<|K2 ((andI .i64 (IntKind.wrap .i64 (shrI .u8 n4 (Int.tmod n1 (8:Int)))) (1:Int)),true)))
def h76:Hint:=⟨.e,.e⟩
theorem q76_eq (s0:Sl) (n1:Int) (K2:(Int×Bool)→PT):fnE Cx h76 [.c (.I .i64),.c .B] Tryd.f76 [.v (.slice s0.a s0.l s0.c),.v (.int .i64 n1)] K2=q76 s0 n1 K2:=by kernel_rfl
theorem q76_fnok:fnOk Tryd.f76 2=true:=by kernel_rfl
theorem q76_ok (s0:Sl) (n1:Int) (K2:(Int×Bool)→PT) {w:World} (h:q76 s0 n1 K2 w):Calls Tryd.prog 76 #[(.slice s0.a s0.l s0.c),(.int .i64 n1)] w fun e w'=>∃r,e = .returned (resMk [.c (.I .i64),.c .B] r)∧K2 r w' :=
 of_eq Tryd.func76 q76_fnok (by kernel_rfl) (by kernel_rfl) (q76_eq s0 n1 K2) h
def q77_L0 (x5:(Addr)) (R21:Unit→PT) (x22:Int) (A23:Int→PT):PT :=
 cnd (decide (x22<(256:Int))) (ixA 1 256 x5 x22 fun (p24:Addr)=>st p24 (.int .u32 (0:Int))<|A23 (IntKind.wrap .i64 (x22+(1:Int)))) (R21 ())
def q77_J1 (x5:(Addr)) (R18:Unit→PT) (x25:Unit):PT :=
 st (Addr.add x5 531) (.bool false)<|R18 ()
def q77_J2 (K2:(Option Addr×Value)→PT) (x5:(Addr)) (x30:Unit):PT :=
 K2 ((some x5),.nilIface)
def q77_J3 (s1:Sl) (K2:(Option Addr×Value)→PT) (x5:(Addr)) (x26:Unit):PT :=
 callP Tryd.prog 92 #[(.pointer (some (Addr.add x5 512))),(.slice s1.a s1.l s1.c)] [] fun (r27:Unit)=>joinP (fun R28=>ld (.I .i64) (Addr.add x5 527) fun (n29:Int)=>cnd (decide (n29=(0:Int))) (st (Addr.add x5 527) (.int .i64 (2147483647:Int))<|R28 ()) (R28 ())) (q77_J2 K2 x5)
def q77_J4 (s1:Sl) (K2:(Option Addr×Value)→PT) (x5:(Addr)) (x17:Unit):PT :=
 joinP (fun R18=>ld .B (Addr.add x5 531) fun (b19:Bool)=>cnd b19 (ld (.I .i64) (Addr.add x5 525) fun (n20:Int)=>cnd (decide (n20=(0:Int))) (joinP (fun R21=>loopP (0:Int) (q77_L0 x5 R21)) (q77_J1 x5 R18)) (R18 ())) (R18 ())) (q77_J3 s1 K2 x5)
def q77_J5 (s1:Sl) (K2:(Option Addr×Value)→PT) (x5:(Addr)) (x11:Unit):PT :=
 ld (.I .u8) (Addr.add x5 533) fun (n12:Int)=>cnd (decide ((12:Int)<n12)) (callP Tryd.prog 62 #[(.string ⟨#[116,97,98,108,101,76,111,103,32,62,32,109,97,120,84,97,98,108,101,76,111,103]⟩)] [.c .V] fun (r13:Value)=>K2 ((none:Option Addr),r13)) (joinP (fun R14=>ld .S (Addr.add x5 526) fun (s15:Sl)=>cnd (decide ((s15.c:Int)=(0:Int))) (mks z5 5 1 (0:Int) (s1.l:Int) fun (s16:Sl)=>st (Addr.add x5 526) (.slice s16.a s16.l s16.c)<|R14 ()) (R14 ())) (q77_J4 s1 K2 x5))
def q77_J6 (s1:Sl) (K2:(Option Addr×Value)→PT) (x5:(Addr)) (x8:Unit):PT :=
 joinP (fun R9=>ld (.I .u8) (Addr.add x5 533) fun (n10:Int)=>cnd (decide (n10=(0:Int))) (st (Addr.add x5 533) (.int .u8 (11:Int))<|R9 ()) (R9 ())) (q77_J5 s1 K2 x5)
def q77_J7 (s1:Sl) (K2:(Option Addr×Value)→PT) (x5:Addr):PT :=
 joinP (fun R6=>ld (.I .u8) (Addr.add x5 532) fun (n7:Int)=>cnd (decide (n7=(0:Int))) (st (Addr.add x5 532) (.int .u8 (255:Int))<|R6 ()) (R6 ())) (q77_J6 s1 K2 x5)
def q77 (p0:Addr) (s1:Sl) (K2:(Option Addr×Value)→PT):PT :=
 joinP (fun R3=>cnd (Option.isNone (some p0)) (nwA ⟨z134⟩ 134 fun (p4:Addr)=>R3 p4) (R3 p0)) (q77_J7 s1 K2)
def h77:Hint:=⟨(.n (.n (.n (.n .e 3 ([(0,.q)],[1]) .e) 7 ([],[1,0]) .e) 15 ([],[1,0]) (.n .e 63 ([],[0,1]) .e)) 127 ([],[1,0]) (.n (.n .e 511 ([],[0]) .e) 1018 ([],[1,0]) (.n .e 8146 ([(56,.c (.I .i64))],[0,1]) .e))),.e⟩
theorem q77_eq (p0:Addr) (s1:Sl) (K2:(Option Addr×Value)→PT):fnE Cx h77 [.c .P,.c .V] Tryd.f77 [.pt p0,.v (.slice s1.a s1.l s1.c)] K2=q77 p0 s1 K2:=by kernel_rfl
theorem q77_fnok:fnOk Tryd.f77 2=true:=by kernel_rfl
theorem q77_ok (p0:Addr) (s1:Sl) (K2:(Option Addr×Value)→PT) {w:World} (h:q77 p0 s1 K2 w):Calls Tryd.prog 77 #[(.pointer (some p0)),(.slice s1.a s1.l s1.c)] w fun e w'=>∃r,e = .returned (resMk [.c .P,.c .V] r)∧K2 r w' :=
 of_eq Tryd.func77 q77_fnok (by kernel_rfl) (by kernel_rfl) (q77_eq p0 s1 K2) h
def q78_L0 (p0:Addr) (r3:Int) (R12:Int×Int×Int→PT) (x13:Int×Int×Int) (A14:(Int×Int×Int)→PT):PT :=
 cnd (decide ((andI .u32 x13.1 (65535:Int))=(65535:Int))) (ld (.I .i64) (Addr.add (Addr.add p0 512) 1) fun (n15:Int)=>cnd (decide (n15<(IntKind.wrap .i64 (r3-(5:Int))))) (callP Tryd.prog 95 #[(.pointer (some (Addr.add p0 512))),(.int .u64 (2:Int))] [] fun (r16:Unit)=>ldL [.S,(.I .i64)] (Addr.add p0 512) 0 fun (r17:(Sl×Int))=>callP Tryd.prog 94 #[(.agg ⟨[(.slice r17.1.a r17.1.l r17.1.c),(.int .i64 r17.2)]⟩)] [.c (.I .u32)] fun (r18:Int)=>req (0≤x13.2.1)<|A14 ((shrI .u32 r18 x13.2.1),x13.2.1,(IntKind.wrap .u16 (x13.2.2+(24:Int))))) (req (0≤(16:Int))<|A14 ((shrI .u32 x13.1 (16:Int)),(IntKind.wrap .u64 (x13.2.1+(16:Int))),(IntKind.wrap .u16 (x13.2.2+(24:Int)))))) (R12 (x13.1,x13.2.1,x13.2.2))
def q78_L1 (R20:Int×Int×Int→PT) (x21:Int×Int×Int) (A22:(Int×Int×Int)→PT):PT :=
 cnd (decide ((andI .u32 x21.1 (3:Int))=(3:Int))) (req (0≤(2:Int))<|A22 ((shrI .u32 x21.1 (2:Int)),(IntKind.wrap .u64 (x21.2.1+(2:Int))),(IntKind.wrap .u16 (x21.2.2+(3:Int))))) (R20 (x21.1,x21.2.1,x21.2.2))
def q78_L2 (p0:Addr) (x23:(Int×Int×Int)) (R25:Int→PT) (x26:Int) (A27:Int→PT):PT :=
 cnd (decide (x26<(IntKind.wrap .u16 (x23.2.2+(IntKind.wrap .u16 (andI .u32 x23.1 (3:Int))))))) (ixA 1 256 (Addr.add p0 256) (andI .u16 x26 (255:Int)) fun (p28:Addr)=>st p28 (.int .i16 (0:Int))<|A27 (IntKind.wrap .u16 (x26+(1:Int)))) (R25 x26)
def q78_J3 (p0:Addr) (r3:Int) (R11:Int×Int×Int→PT) (x23:(Int×Int×Int)) (x29:Int):PT :=
 ld (.I .i64) (Addr.add (Addr.add p0 512) 1) fun (n30:Int)=>cnd (decide (n30≤(IntKind.wrap .i64 (r3-(7:Int))))) (req (0≤(3:Int))<|callP Tryd.prog 95 #[(.pointer (some (Addr.add p0 512))),(.int .u64 (shrI .u64 (IntKind.wrap .u64 (x23.2.1+(2:Int))) (3:Int)))] [] fun (r31:Unit)=>ldL [.S,(.I .i64)] (Addr.add p0 512) 0 fun (r32:(Sl×Int))=>callP Tryd.prog 94 #[(.agg ⟨[(.slice r32.1.a r32.1.l r32.1.c),(.int .i64 r32.2)]⟩)] [.c (.I .u32)] fun (r33:Int)=>req (0≤(andI .u64 (IntKind.wrap .u64 (x23.2.1+(2:Int))) (7:Int)))<|R11 (x29,(shrI .u32 r33 (andI .u64 (IntKind.wrap .u64 (x23.2.1+(2:Int))) (7:Int))),(andI .u64 (IntKind.wrap .u64 (x23.2.1+(2:Int))) (7:Int)))) (ld (.I .i64) (Addr.add (Addr.add p0 512) 1) fun (n34:Int)=>req (0≤(3:Int))<|cnd (decide ((IntKind.wrap .i64 (n34+(IntKind.wrap .i64 (shrI .u64 (IntKind.wrap .u64 (x23.2.1+(2:Int))) (3:Int)))))≤(IntKind.wrap .i64 (r3-(4:Int))))) (req (0≤(3:Int))<|callP Tryd.prog 95 #[(.pointer (some (Addr.add p0 512))),(.int .u64 (shrI .u64 (IntKind.wrap .u64 (x23.2.1+(2:Int))) (3:Int)))] [] fun (r35:Unit)=>ldL [.S,(.I .i64)] (Addr.add p0 512) 0 fun (r36:(Sl×Int))=>callP Tryd.prog 94 #[(.agg ⟨[(.slice r36.1.a r36.1.l r36.1.c),(.int .i64 r36.2)]⟩)] [.c (.I .u32)] fun (r37:Int)=>req (0≤(andI .u64 (IntKind.wrap .u64 (x23.2.1+(2:Int))) (7:Int)))<|R11 (x29,(shrI .u32 r37 (andI .u64 (IntKind.wrap .u64 (x23.2.1+(2:Int))) (7:Int))),(andI .u64 (IntKind.wrap .u64 (x23.2.1+(2:Int))) (7:Int)))) (req (0≤(2:Int))<|R11 (x29,(shrI .u32 x23.1 (2:Int)),(IntKind.wrap .u64 (x23.2.1+(2:Int))))))
def q78_J4 (p0:Addr) (K1:(Value)→PT) (r3:Int) (x9:(Int×Bool×Int×Int×Int×Int×Int×Int)) (R11:Int×Int×Int→PT) (x23:Int×Int×Int):PT :=
 cnd (decide ((255:Int)<(IntKind.wrap .u16 (x23.2.2+(IntKind.wrap .u16 (andI .u32 x23.1 (3:Int))))))) (callP Tryd.prog 62 #[(.string ⟨#[109,97,120,83,121,109,98,111,108,86,97,108,117,101,32,116,111,111,32,115,109,97,108,108]⟩)] [.c .V] fun (r24:Value)=>K1 r24) (joinP (fun R25=>loopP x9.1 (q78_L2 p0 x23 R25)) (q78_J3 p0 r3 R11 x23))
def q78_J5 (p0:Addr) (K1:(Value)→PT) (r3:Int) (x9:(Int×Bool×Int×Int×Int×Int×Int×Int)) (R11:Int×Int×Int→PT) (x19:Int×Int×Int):PT :=
 joinP (fun R20=>loopP (x19.1,x19.2.1,x19.2.2) (q78_L1 R20)) (q78_J4 p0 K1 r3 x9 R11)
def q78_J6 (x9:(Int×Bool×Int×Int×Int×Int×Int×Int)) (x38:(Int×Int×Int)) (R39:Int×Int→PT) (x41:Int):PT :=
 R39 ((IntKind.wrap .u64 (x38.2.2+x9.2.2.2.1)),x41)
def q78_X7 (x9:(Int×Bool×Int×Int×Int×Int×Int×Int)) (x38:(Int×Int×Int)) (R40:Int→PT):PT :=
 cnd (decide (x9.2.2.2.2.2.2.1≤(andI .i32 (IntKind.wrap .i32 x38.2.1) (IntKind.wrap .i32 ((IntKind.wrap .i32 ((2:Int)*x9.2.2.2.2.2.2.1))-(1:Int)))))) (R40 (IntKind.wrap .i32 ((andI .i32 (IntKind.wrap .i32 x38.2.1) (IntKind.wrap .i32 ((IntKind.wrap .i32 ((2:Int)*x9.2.2.2.2.2.2.1))-(1:Int))))-(IntKind.wrap .i32 ((IntKind.wrap .i32 ((IntKind.wrap .i32 ((2:Int)*x9.2.2.2.2.2.2.1))-(1:Int)))-x9.2.2.2.2.2.1))))) (R40 (andI .i32 (IntKind.wrap .i32 x38.2.1) (IntKind.wrap .i32 ((IntKind.wrap .i32 ((2:Int)*x9.2.2.2.2.2.2.1))-(1:Int)))))
def q78_L8 (x44:(Int×Int)) (R47:Int×Int→PT) (x48:Int×Int) (A49:(Int×Int)→PT):PT :=
 cnd (decide (x44.1<x48.2)) (req (0≤(1:Int))<|A49 ((IntKind.wrap .u64 (x48.1-(1:Int))),(shrI .i32 x48.2 (1:Int)))) (R47 (x48.1,x48.2))
def q78_J9 (p0:Addr) (A10:(Int×Bool×Int×Int×Int×Int×Int×Int)→PT) (x38:(Int×Int×Int)) (x42:(Int×Int)) (x44:(Int×Int)) (x50:(Int×Int)) (x59:Int):PT :=
 ldL [.S,(.I .i64)] (Addr.add p0 512) 0 fun (r60:(Sl×Int))=>callP Tryd.prog 94 #[(.agg ⟨[(.slice r60.1.a r60.1.l r60.1.c),(.int .i64 r60.2)]⟩)] [.c (.I .u32)] fun (r61:Int)=>req (0≤(andI .u64 x59 (31:Int)))<|A10 ((IntKind.wrap .u16 (x38.1+(1:Int))),(decide ((IntKind.wrap .i32 (x42.2-(1:Int)))=(0:Int))),(shrI .u32 r61 (andI .u64 x59 (31:Int))),x50.1,x59,x44.1,x50.2,x44.2)
def q78_X10 (p0:Addr) (r3:Int) (x42:(Int×Int)) (R51:Int→PT):PT :=
 ld (.I .i64) (Addr.add (Addr.add p0 512) 1) fun (n52:Int)=>cnd (decide (n52≤(IntKind.wrap .i64 (r3-(7:Int))))) (req (0≤(3:Int))<|callP Tryd.prog 95 #[(.pointer (some (Addr.add p0 512))),(.int .u64 (shrI .u64 x42.1 (3:Int)))] [] fun (r53:Unit)=>R51 (andI .u64 x42.1 (7:Int))) (ld (.I .i64) (Addr.add (Addr.add p0 512) 1) fun (n54:Int)=>req (0≤(3:Int))<|cnd (decide ((IntKind.wrap .i64 (n54+(IntKind.wrap .i64 (shrI .u64 x42.1 (3:Int)))))≤(IntKind.wrap .i64 (r3-(4:Int))))) (req (0≤(3:Int))<|callP Tryd.prog 95 #[(.pointer (some (Addr.add p0 512))),(.int .u64 (shrI .u64 x42.1 (3:Int)))] [] fun (r55:Unit)=>R51 (andI .u64 x42.1 (7:Int))) (drw<|ld .S (Addr.add p0 512) fun (s56:Sl)=>ld (.I .i64) (Addr.add (Addr.add p0 512) 1) fun (n57:Int)=>ld .S (Addr.add p0 512) fun (s58:Sl)=>st (Addr.add (Addr.add p0 512) 1) (.int .i64 (IntKind.wrap .i64 ((s58.l:Int)-(4:Int))))<|R51 (IntKind.wrap .u64 (x42.1-(IntKind.wrap .u64 (IntKind.wrap .i64 ((8:Int)*(IntKind.wrap .i64 ((IntKind.wrap .i64 ((s56.l:Int)-(4:Int)))-n57)))))))))
def q78_J11 (p0:Addr) (r3:Int) (A10:(Int×Bool×Int×Int×Int×Int×Int×Int)→PT) (x38:(Int×Int×Int)) (x42:(Int×Int)) (x44:(Int×Int)) (x50:Int×Int):PT :=
 joinP (q78_X10 p0 r3 x42) (q78_J9 p0 A10 x38 x42 x44 x50)
def q78_J12 (p0:Addr) (K1:(Value)→PT) (r3:Int) (x9:(Int×Bool×Int×Int×Int×Int×Int×Int)) (A10:(Int×Bool×Int×Int×Int×Int×Int×Int)→PT) (x38:(Int×Int×Int)) (x42:(Int×Int)) (x44:Int×Int):PT :=
 cnd (decide ((32767:Int)<(IntKind.wrap .i32 (x42.2-(1:Int))))) (callP Tryd.prog 62 #[(.string ⟨#[99,111,114,114,117,112,116,105,111,110,32,100,101,116,101,99,116,101,100,32,40,99,111,117,110,116]⟩)] [.c .V] fun (r45:Value)=>K1 r45) (ixA 1 256 (Addr.add p0 256) (andI .u16 x38.1 (255:Int)) fun (p46:Addr)=>st p46 (.int .i16 (IntKind.wrap .i16 (IntKind.wrap .i32 (x42.2-(1:Int)))))<|joinP (fun R47=>loopP (x9.2.2.2.1,x9.2.2.2.2.2.2.1) (q78_L8 x44 R47)) (q78_J11 p0 r3 A10 x38 x42 x44))
def q78_X13 (x9:(Int×Bool×Int×Int×Int×Int×Int×Int)) (x42:(Int×Int)) (R43:(Int×Int)→PT):PT :=
 cnd (decide ((IntKind.wrap .i32 (x42.2-(1:Int)))<(0:Int))) (R43 ((IntKind.wrap .i32 (x9.2.2.2.2.2.1+(IntKind.wrap .i32 (x42.2-(1:Int))))),(IntKind.wrap .i32 (x9.2.2.2.2.2.2.2-(IntKind.wrap .i32 (x42.2-(1:Int))))))) (R43 ((IntKind.wrap .i32 (x9.2.2.2.2.2.1-(IntKind.wrap .i32 (x42.2-(1:Int))))),(IntKind.wrap .i32 (x9.2.2.2.2.2.2.2+(IntKind.wrap .i32 (x42.2-(1:Int)))))))
def q78_J14 (p0:Addr) (K1:(Value)→PT) (r3:Int) (x9:(Int×Bool×Int×Int×Int×Int×Int×Int)) (A10:(Int×Bool×Int×Int×Int×Int×Int×Int)→PT) (x38:(Int×Int×Int)) (x42:Int×Int):PT :=
 joinP (q78_X13 x9 x42) (q78_J12 p0 K1 r3 x9 A10 x38 x42)
def q78_X15 (x9:(Int×Bool×Int×Int×Int×Int×Int×Int)) (x38:(Int×Int×Int)) (R39:(Int×Int)→PT):PT :=
 cnd (decide ((andI .i32 (IntKind.wrap .i32 x38.2.1) (IntKind.wrap .i32 (x9.2.2.2.2.2.2.1-(1:Int))))<(IntKind.wrap .i32 ((IntKind.wrap .i32 ((IntKind.wrap .i32 ((2:Int)*x9.2.2.2.2.2.2.1))-(1:Int)))-x9.2.2.2.2.2.1)))) (R39 ((IntKind.wrap .u64 (x38.2.2+(IntKind.wrap .u64 (x9.2.2.2.1-(1:Int))))),(andI .i32 (IntKind.wrap .i32 x38.2.1) (IntKind.wrap .i32 (x9.2.2.2.2.2.2.1-(1:Int)))))) (joinP (q78_X7 x9 x38) (q78_J6 x9 x38 R39))
def q78_J16 (p0:Addr) (K1:(Value)→PT) (r3:Int) (x9:(Int×Bool×Int×Int×Int×Int×Int×Int)) (A10:(Int×Bool×Int×Int×Int×Int×Int×Int)→PT) (x38:Int×Int×Int):PT :=
 joinP (q78_X15 x9 x38) (q78_J14 p0 K1 r3 x9 A10 x38)
def q78_L17 (p0:Addr) (K1:(Value)→PT) (r3:Int) (R8:Int×Int×Int×Int→PT) (x9:Int×Bool×Int×Int×Int×Int×Int×Int) (A10:(Int×Bool×Int×Int×Int×Int×Int×Int)→PT):PT :=
 cnd (decide ((1:Int)<x9.2.2.2.2.2.1)) (joinP (fun R11=>cnd x9.2.1 (joinP (fun R12=>loopP (x9.2.2.1,x9.2.2.2.2.1,x9.1) (q78_L0 p0 r3 R12)) (q78_J5 p0 K1 r3 x9 R11)) (R11 (x9.1,x9.2.2.1,x9.2.2.2.2.1))) (q78_J16 p0 K1 r3 x9 A10)) (R8 (x9.1,x9.2.2.2.2.1,x9.2.2.2.2.2.1,x9.2.2.2.2.2.2.2))
def q78_J18 (p0:Addr) (K1:(Value)→PT) (x62:Int×Int×Int×Int):PT :=
 st (Addr.add p0 528) (.int .u16 x62.1)<|ld (.I .u16) (Addr.add p0 528) fun (n63:Int)=>cnd (decide (n63≤(1:Int))) (callP Tryd.prog 62 #[(.string ⟨#[115,121,109,98,111,108,76,101,110,32,116,111,111,32,115,109,97,108,108]⟩)] [.c .V] fun (r64:Value)=>K1 r64) (ld (.I .u16) (Addr.add p0 528) fun (n65:Int)=>cnd (decide ((256:Int)<n65)) (callP Tryd.prog 62 #[(.string ⟨#[115,121,109,98,111,108,76,101,110,32,116,111,111,32,98,105,103]⟩)] [.c .V] fun (r66:Value)=>K1 r66) (cnd (!decide (x62.2.2.1=(1:Int))) (callP Tryd.prog 62 #[(.string ⟨#[99,111,114,114,117,112,116,105,111,110,32,100,101,116,101,99,116,101,100,32,40,114,101,109,97,105,110,105,110,103,41]⟩)] [.c .V] fun (r67:Value)=>K1 r67) (cnd (decide ((32:Int)<x62.2.1)) (callP Tryd.prog 62 #[(.string ⟨#[99,111,114,114,117,112,116,105,111,110,32,100,101,116,101,99,116,101,100,32,40,98,105,116,67,111,117,110,116,41]⟩)] [.c .V] fun (r68:Value)=>K1 r68) (ld (.I .u8) (Addr.add p0 529) fun (n69:Int)=>req (0≤n69)<|cnd (!decide (x62.2.2.2=(shlI .i32 (1:Int) n69))) (callP Tryd.prog 62 #[(.string ⟨#[99,111,114,114,117,112,116,105,111,110,32,100,101,116,101,99,116,101,100,32,40,116,111,116,97,108]⟩)] [.c .V] fun (r70:Value)=>K1 r70) (req (0≤(3:Int))<|callP Tryd.prog 95 #[(.pointer (some (Addr.add p0 512))),(.int .u64 (shrI .u64 (IntKind.wrap .u64 (x62.2.1+(7:Int))) (3:Int)))] [] fun (r71:Unit)=>K1 .nilIface)))))
def q78_X19 (p0:Addr) (K1:(Value)→PT) (r3:Int) (r6:Int) (R8:(Int×Int×Int×Int)→PT):PT :=
 loopP ((0:Int),false,(shrI .u32 r6 (4:Int)),(IntKind.wrap .u64 ((IntKind.wrap .u64 (IntKind.wrap .u32 ((andI .u32 r6 (15:Int))+(5:Int))))+(1:Int))),(4:Int),(IntKind.wrap .i32 ((shlI .i32 (1:Int) (IntKind.wrap .u64 (IntKind.wrap .u32 ((andI .u32 r6 (15:Int))+(5:Int)))))+(1:Int))),(shlI .i32 (1:Int) (IntKind.wrap .u64 (IntKind.wrap .u32 ((andI .u32 r6 (15:Int))+(5:Int))))),(0:Int)) (q78_L17 p0 K1 r3 R8)
def q78 (p0:Addr) (K1:(Value)→PT):PT :=
 ldL [.S,(.I .i64)] (Addr.add p0 512) 0 fun (r2:(Sl×Int))=>callP Tryd.prog 93 #[(.agg ⟨[(.slice r2.1.a r2.1.l r2.1.c),(.int .i64 r2.2)]⟩)] [.c (.I .i64)] fun (r3:Int)=>cnd (decide (r3<(4:Int))) (callP Tryd.prog 62 #[(.string ⟨#[105,110,112,117,116,32,116,111,111,32,115,109,97,108,108]⟩)] [.c .V] fun (r4:Value)=>K1 r4) (ldL [.S,(.I .i64)] (Addr.add p0 512) 0 fun (r5:(Sl×Int))=>callP Tryd.prog 94 #[(.agg ⟨[(.slice r5.1.a r5.1.l r5.1.c),(.int .i64 r5.2)]⟩)] [.c (.I .u32)] fun (r6:Int)=>cnd (decide ((15:Int)<(IntKind.wrap .u64 (IntKind.wrap .u32 ((andI .u32 r6 (15:Int))+(5:Int)))))) (callP Tryd.prog 62 #[(.string ⟨#[116,97,98,108,101,76,111,103,32,116,111,111,32,108,97,114,103,101]⟩)] [.c .V] fun (r7:Value)=>K1 r7) (req (0≤(4:Int))<|st (Addr.add p0 529) (.int .u8 (IntKind.wrap .u8 (IntKind.wrap .u64 (IntKind.wrap .u32 ((andI .u32 r6 (15:Int))+(5:Int))))))<|req (0≤(IntKind.wrap .u64 (IntKind.wrap .u32 ((andI .u32 r6 (15:Int))+(5:Int)))))<|req (0≤(IntKind.wrap .u64 (IntKind.wrap .u32 ((andI .u32 r6 (15:Int))+(5:Int)))))<|joinP (q78_X19 p0 K1 r3 r6) (q78_J18 p0 K1)))
def h78:Hint:=⟨(.n (.n (.n (.n .e 131071 ([(3,.c (.I .u16)),(9,.c (.I .u64)),(10,.c (.I .i32)),(12,.c (.I .i32))],[0,5]) .e) 524284 ([(3,.c (.I .u16)),(4,.c .B),(7,.c (.I .u32)),(8,.c (.I .u64)),(9,.c (.I .u64)),(10,.c (.I .i32)),(11,.c (.I .i32)),(12,.c (.I .i32))],[0,6,5]) (.n .e 4194274 ([(3,.c (.I .u16)),(7,.c (.I .u32)),(9,.c (.I .u64))],[10,12,5,6,0,8,11]) .e)) 33554199 ([(9,.c (.I .u64)),(15,.c (.I .i32))],[10,12,5,6,0,8,11,3]) (.n (.n .e 67108389 ([(7,.c (.I .u32)),(9,.c (.I .u64)),(13,.c (.I .u16))],[11,8,6,5,12,10,0,3]) .e) 134216779 ([(7,.c (.I .u32)),(9,.c (.I .u64)),(13,.c (.I .u16))],[11,8,6,5,12,10,0,3]) (.n .e 134216799 ([(10,.c (.I .i32)),(12,.c (.I .i32))],[5,6,0,9,8,11,15,3]) .e))) 268433556 ([(7,.c (.I .u32)),(9,.c (.I .u64)),(13,.c (.I .u16))],[5,6,11,8,12,10,0,3]) (.n (.n (.n .e 536867116 ([(7,.c (.I .u32)),(9,.c (.I .u64)),(13,.c (.I .u16))],[11,8,6,5,12,10,0,3]) .e) 536867191 ([(15,.c (.I .i32))],[9,10,12,5,6,0,8,11,3]) (.n .e 2147468479 ([(3,.c (.I .u16))],[7,9,10,12,5,6,0,8,11]) .e)) 4294937599 ([(8,.c (.I .u64)),(11,.c (.I .i32))],[9,3,0,10,12,6,5,4]) (.n (.n .e 8589873916 ([(3,.c (.I .u16))],[0,7,9,10,12,5,6,8,11,13]) .e) 8589875199 ([(9,.c (.I .u64))],[3,0,10,12,8,11,6,5,4]) (.n .e 17179750396 ([(8,.c (.I .u64)),(11,.c (.I .i32))],[9,3,0,10,12,6,5,4]) .e)))),.e⟩
theorem q78_eq (p0:Addr) (K1:(Value)→PT):fnE Cx h78 [.c .V] Tryd.f78 [.pt p0] K1=q78 p0 K1:=by kernel_rfl
theorem q78_fnok:fnOk Tryd.f78 1=true:=by kernel_rfl
theorem q78_ok (p0:Addr) (K1:(Value)→PT) {w:World} (h:q78 p0 K1 w):Calls Tryd.prog 78 #[(.pointer (some p0))] w fun e w'=>∃r,e = .returned (resMk [.c .V] r)∧K1 r w' :=
 of_eq Tryd.func78 q78_fnok (by kernel_rfl) (by kernel_rfl) (q78_eq p0 K1) h
def q79_J0 (s5:Sl) (x10:(Int×Int)) (R12:Int→PT) (n14:Int) (x19:Unit):PT :=
 ixS 1 s5 x10.2 fun (p20:Addr)=>st p20 (.int .u16 (IntKind.wrap .u16 n14))<|R12 x10.1
def q79_J1 (x10:(Int×Int)) (A11:(Int×Int)→PT) (x21:Int):PT :=
 A11 (x21,(IntKind.wrap .i64 (x10.2+(1:Int))))
def q79_X2 (p0:Addr) (s5:Sl) (n7:Int) (s9:Sl) (x10:(Int×Int)) (R12:Int→PT):PT :=
 ixS 1 s9 x10.2 fun (p13:Addr)=>ld (.I .i16) p13 fun (n14:Int)=>cnd (decide (n14=(-1:Int))) (ld .S (Addr.add p0 524) fun (s15:Sl)=>ixS 3 s15 x10.1 fun (p16:Addr)=>st (Addr.add p16 1) (.int .u8 (IntKind.wrap .u8 x10.2))<|ixS 1 s5 x10.2 fun (p17:Addr)=>st p17 (.int .u16 (1:Int))<|R12 (IntKind.wrap .u32 (x10.1-(1:Int)))) (joinP (fun R18=>cnd (decide ((shlI .i16 (1:Int) (IntKind.wrap .u8 (n7-(1:Int))))≤n14)) (st (Addr.add p0 530) (.bool true)<|R18 ()) (R18 ())) (q79_J0 s5 x10 R12 n14))
def q79_L3 (p0:Addr) (s5:Sl) (R6:Int→PT) (n7:Int) (s9:Sl) (x10:Int×Int) (A11:(Int×Int)→PT):PT :=
 cnd (decide (x10.2<(s9.l:Int))) (joinP (q79_X2 p0 s5 n7 s9 x10) (q79_J1 x10 A11)) (R6 x10.1)
def q79_L4 (n2:Int) (x22:(Int)) (r24:Int) (R35:Int→PT) (x38:Int) (A39:Int→PT):PT :=
 cnd (decide (x22<x38)) (A39 (andI .u32 (IntKind.wrap .u32 (x38+r24)) (IntKind.wrap .u32 ((shlI .u32 (1:Int) n2)-(1:Int))))) (R35 x38)
def q79_J5 (x33:(Int×Int)) (A34:(Int×Int)→PT) (x40:Int):PT :=
 A34 (x40,(IntKind.wrap .i64 (x33.2+(1:Int))))
def q79_L6 (p0:Addr) (n2:Int) (x22:(Int)) (r24:Int) (x28:(Int×Int)) (R30:Int→PT) (n32:Int) (x33:Int×Int) (A34:(Int×Int)→PT):PT :=
 cnd (decide (x33.2<(IntKind.wrap .i64 n32))) (joinP (fun R35=>ld .S (Addr.add p0 524) fun (s36:Sl)=>ixS 3 s36 x33.1 fun (p37:Addr)=>st (Addr.add p37 1) (.int .u8 (IntKind.wrap .u8 x28.2))<|loopP (andI .u32 (IntKind.wrap .u32 (x33.1+r24)) (IntKind.wrap .u32 ((shlI .u32 (1:Int) n2)-(1:Int)))) (q79_L4 n2 x22 r24 R35)) (q79_J5 x33 A34)) (R30 x33.1)
def q79_J7 (x28:(Int×Int)) (A29:(Int×Int)→PT) (x41:Int):PT :=
 A29 (x41,(IntKind.wrap .i64 (x28.2+(1:Int))))
def q79_L8 (p0:Addr) (n2:Int) (x22:(Int)) (r24:Int) (R25:Int→PT) (s27:Sl) (x28:Int×Int) (A29:(Int×Int)→PT):PT :=
 cnd (decide (x28.2<(s27.l:Int))) (joinP (fun R30=>ixS 1 s27 x28.2 fun (p31:Addr)=>ld (.I .i16) p31 fun (n32:Int)=>loopP (x28.1,(0:Int)) (q79_L6 p0 n2 x22 r24 x28 R30 n32)) (q79_J7 x28 A29)) (R25 x28.1)
def q79_J9 (K1:(Value)→PT) (R23:Unit→PT) (x42:Int):PT :=
 cnd (!decide (x42=(0:Int))) (callP Tryd.prog 62 #[(.string ⟨#[99,111,114,114,117,112,116,101,100,32,105,110,112,117,116,32,40,112,111,115,105,116,105,111,110,32,33,61,32,48,41]⟩)] [.c .V] fun (r43:Value)=>K1 r43) (R23 ())
def q79_L10 (p0:Addr) (K1:(Value)→PT) (s5:Sl) (R45:Unit→PT) (n46:Int) (s47:Sl) (x48:Int) (A49:Int→PT):PT :=
 cnd (decide (x48<(s47.l:Int))) (ixS 3 s47 x48 fun (p50:Addr)=>ldL [(.I .u16),(.I .u8),(.I .u8)] p50 0 fun (r51:(Int×Int×Int))=>nw z180 180 fun (p52:Addr)=>stL p52 0 [(.int .u16 r51.1),(.int .u8 r51.2.1),(.int .u8 r51.2.2)]<|ld (.I .u8) (Addr.add p52 1) fun (n53:Int)=>ixS 1 s5 n53 fun (p54:Addr)=>ld (.I .u16) p54 fun (n55:Int)=>ixS 1 s5 n53 fun (p56:Addr)=>st p56 (.int .u16 (IntKind.wrap .u16 (n55+(1:Int))))<|drw<|ld (.I .u8) (Addr.add p0 529) fun (n57:Int)=>callP Tryd.prog 98 #[(.int .u32 (IntKind.wrap .u32 n55))] [.c (.I .u32)] fun (r58:Int)=>kp [((Addr.add p0 529),(.int .u8 n57))]<|ld .S (Addr.add p0 524) fun (s59:Sl)=>ixS 3 s59 x48 fun (p60:Addr)=>st (Addr.add p60 2) (.int .u8 (IntKind.wrap .u8 (n57-(IntKind.wrap .u8 r58))))<|req (0≤(IntKind.wrap .u8 (n57-(IntKind.wrap .u8 r58))))<|cnd (decide ((shlI .u16 (1:Int) n46)≤(IntKind.wrap .u16 ((shlI .u16 n55 (IntKind.wrap .u8 (n57-(IntKind.wrap .u8 r58))))-(shlI .u16 (1:Int) n46))))) (callP Tryd.prog 62 #[(.string ⟨#[110,101,119,83,116,97,116,101,32,111,117,116,115,105,100,101,32,116,97,98,108,101,32,115,105,122,101]⟩)] [.c .V] fun (r61:Value)=>K1 r61) (cnd (decide ((IntKind.wrap .u16 ((shlI .u16 n55 (IntKind.wrap .u8 (n57-(IntKind.wrap .u8 r58))))-(shlI .u16 (1:Int) n46)))=(IntKind.wrap .u16 x48))) (cnd (decide ((IntKind.wrap .u8 (n57-(IntKind.wrap .u8 r58)))=(0:Int))) (callP Tryd.prog 62 #[(.string ⟨#[110,101,119,83,116,97,116,101,32,61,61,32,111,108,100,83,116,97,116,101,32,97,110,100,32,110,111,32,98,105,116,115]⟩)] [.c .V] fun (r62:Value)=>K1 r62) (ld .S (Addr.add p0 524) fun (s63:Sl)=>ixS 3 s63 x48 fun (p64:Addr)=>st p64 (.int .u16 (IntKind.wrap .u16 ((shlI .u16 n55 (IntKind.wrap .u8 (n57-(IntKind.wrap .u8 r58))))-(shlI .u16 (1:Int) n46))))<|A49 (IntKind.wrap .i64 (x48+(1:Int))))) (ld .S (Addr.add p0 524) fun (s65:Sl)=>ixS 3 s65 x48 fun (p66:Addr)=>st p66 (.int .u16 (IntKind.wrap .u16 ((shlI .u16 n55 (IntKind.wrap .u8 (n57-(IntKind.wrap .u8 r58))))-(shlI .u16 (1:Int) n46))))<|A49 (IntKind.wrap .i64 (x48+(1:Int)))))) (R45 ())
def q79_J11 (K1:(Value)→PT) (x67:Unit):PT :=
 K1 .nilIface
def q79_J12 (p0:Addr) (K1:(Value)→PT) (s5:Sl) (x44:Unit):PT :=
 joinP (fun R45=>ld (.I .u8) (Addr.add p0 529) fun (n46:Int)=>req (0≤n46)<|ld .S (Addr.add p0 524) fun (s47:Sl)=>loopP (0:Int) (q79_L10 p0 K1 s5 R45 n46 s47)) (q79_J11 K1)
def q79_J13 (p0:Addr) (K1:(Value)→PT) (n2:Int) (s5:Sl) (x22:Int):PT :=
 joinP (fun R23=>callP Tryd.prog 97 #[(.int .u32 (shlI .u32 (1:Int) n2))] [.c (.I .u32)] fun (r24:Int)=>joinP (fun R25=>drw<|ld (.I .u16) (Addr.add p0 528) fun (n26:Int)=>slcA 1 256 (Addr.add p0 256) none (some n26) none fun (s27:Sl)=>loopP ((0:Int),(0:Int)) (q79_L8 p0 n2 x22 r24 R25 s27)) (q79_J9 K1 R23)) (q79_J12 p0 K1 s5)
def q79 (p0:Addr) (K1:(Value)→PT):PT :=
 ld (.I .u8) (Addr.add p0 529) fun (n2:Int)=>req (0≤n2)<|callP Tryd.prog 96 #[(.pointer (some p0))] [] fun (r3:Unit)=>ld .S (Addr.add (Addr.add p0 521) 1) fun (s4:Sl)=>slc 1 s4 none (some (256:Int)) none fun (s5:Sl)=>st (Addr.add p0 530) (.bool false)<|joinP (fun R6=>ld (.I .u8) (Addr.add p0 529) fun (n7:Int)=>req (0≤(IntKind.wrap .u8 (n7-(1:Int))))<|drw<|ld (.I .u16) (Addr.add p0 528) fun (n8:Int)=>slcA 1 256 (Addr.add p0 256) none (some n8) none fun (s9:Sl)=>loopP ((IntKind.wrap .u32 ((shlI .u32 (1:Int) n2)-(1:Int))),(0:Int)) (q79_L3 p0 s5 R6 n7 s9)) (q79_J13 p0 K1 n2 s5)
def h79:Hint:=⟨(.n (.n (.n (.n .e 127 ([(4,.c (.I .u32))],[3,0,5]) .e) 255 ([],[0,5]) (.n .e 511 ([],[]) .e)) 2038 ([(4,.c (.I .u32)),(55,.c (.I .i64))],[5,0,6,53,3,54]) (.n (.n .e 4087 ([(11,.c (.I .u32))],[5,0]) .e) 8182 ([(148,.c (.I .i64))],[0,15,5,146,147]) .e)) 16307 ([(4,.c (.I .u32))],[55,5,0,6,53,3,54]) (.n (.n (.n .e 32698 ([(11,.c (.I .u32)),(101,.c (.I .i64))],[0,9,10,4,99,5,100]) .e) 261587 ([(11,.c (.I .u32))],[101,0,9,10,4,99,5,100]) (.n .e 521831 ([],[7,8,55,5,4,0,6,53,3,54]) .e)) 8370790 ([(11,.c (.I .u32)),(14,.c (.I .i64))],[4,10,9,12,0,101,99,5,100,13]) (.n (.n .e 33483161 ([(11,.c (.I .u32))],[14,4,10,9,12,0,101,99,5,100,13]) .e) 1071461158 ([(11,.c (.I .u32))],[9,10,14,4,12,0,101,99,5,100,13]) .e))),.e⟩
theorem q79_eq (p0:Addr) (K1:(Value)→PT):fnE Cx h79 [.c .V] Tryd.f79 [.pt p0] K1=q79 p0 K1:=by kernel_rfl
theorem q79_fnok:fnOk Tryd.f79 1=true:=by kernel_rfl
theorem q79_ok (p0:Addr) (K1:(Value)→PT) {w:World} (h:q79 p0 K1 w):Calls Tryd.prog 79 #[(.pointer (some p0))] w fun e w'=>∃r,e = .returned (resMk [.c .V] r)∧K1 r w' :=
 of_eq Tryd.func79 q79_fnok (by kernel_rfl) (by kernel_rfl) (q79_eq p0 K1) h
def q80_L0 (p0:Addr) (K1:(Value)→PT) (p5:Addr) (p6:Addr) (s14:Sl) (R15:Int→PT) (x17:Int) (A18:Int→PT):PT :=
 ld (.I .u64) (Addr.add (Addr.add p0 514) 1) fun (n19:Int)=>cnd (decide ((8:Int)≤n19)) (callP Tryd.prog 102 #[(.pointer (some (Addr.add p0 514)))] [] fun (r20:Unit)=>callP Tryd.prog 103 #[(.pointer (some p5))] [.c (.I .u8)] fun (r21:Int)=>ixS 1 s14 (IntKind.wrap .u8 (x17+(0:Int))) fun (p22:Addr)=>st p22 (.int .u8 r21)<|callP Tryd.prog 103 #[(.pointer (some p6))] [.c (.I .u8)] fun (r23:Int)=>ixS 1 s14 (IntKind.wrap .u8 (x17+(1:Int))) fun (p24:Addr)=>st p24 (.int .u8 r23)<|callP Tryd.prog 102 #[(.pointer (some (Addr.add p0 514)))] [] fun (r25:Unit)=>callP Tryd.prog 103 #[(.pointer (some p5))] [.c (.I .u8)] fun (r26:Int)=>ixS 1 s14 (IntKind.wrap .u8 (x17+(2:Int))) fun (p27:Addr)=>st p27 (.int .u8 r26)<|callP Tryd.prog 103 #[(.pointer (some p6))] [.c (.I .u8)] fun (r28:Int)=>ixS 1 s14 (IntKind.wrap .u8 (x17+(3:Int))) fun (p29:Addr)=>st p29 (.int .u8 r28)<|cnd (decide ((IntKind.wrap .u8 (x17+(4:Int)))=(0:Int))) (ld .S (Addr.add p0 526) fun (s30:Sl)=>app z5 5 1 s30 s14 fun (s31:Sl)=>st (Addr.add p0 526) (.slice s31.a s31.l s31.c)<|drw<|ld .S (Addr.add p0 526) fun (s32:Sl)=>ld (.I .i64) (Addr.add p0 527) fun (n33:Int)=>cnd (decide (n33≤(s32.l:Int))) (callP Tryd.prog 62 #[(.string ⟨#[111,117,116,112,117,116,32,115,105,122,101,32,62,32,68,101,99,111,109,112,114,101,115,115,76,105,109,105,116]⟩)] [.c .V] fun (r34:Value)=>K1 r34) (A18 (IntKind.wrap .u8 (x17+(4:Int))))) (A18 (IntKind.wrap .u8 (x17+(4:Int))))) (R15 x17)
def q80_L1 (p0:Addr) (K1:(Value)→PT) (p5:Addr) (p6:Addr) (s14:Sl) (R15:Int→PT) (x35:Int) (A36:Int→PT):PT :=
 ld (.I .u64) (Addr.add (Addr.add p0 514) 1) fun (n37:Int)=>cnd (decide ((8:Int)≤n37)) (callP Tryd.prog 102 #[(.pointer (some (Addr.add p0 514)))] [] fun (r38:Unit)=>callP Tryd.prog 104 #[(.pointer (some p5))] [.c (.I .u8)] fun (r39:Int)=>ixS 1 s14 (IntKind.wrap .u8 (x35+(0:Int))) fun (p40:Addr)=>st p40 (.int .u8 r39)<|callP Tryd.prog 104 #[(.pointer (some p6))] [.c (.I .u8)] fun (r41:Int)=>ixS 1 s14 (IntKind.wrap .u8 (x35+(1:Int))) fun (p42:Addr)=>st p42 (.int .u8 r41)<|callP Tryd.prog 102 #[(.pointer (some (Addr.add p0 514)))] [] fun (r43:Unit)=>callP Tryd.prog 104 #[(.pointer (some p5))] [.c (.I .u8)] fun (r44:Int)=>ixS 1 s14 (IntKind.wrap .u8 (x35+(2:Int))) fun (p45:Addr)=>st p45 (.int .u8 r44)<|callP Tryd.prog 104 #[(.pointer (some p6))] [.c (.I .u8)] fun (r46:Int)=>ixS 1 s14 (IntKind.wrap .u8 (x35+(3:Int))) fun (p47:Addr)=>st p47 (.int .u8 r46)<|cnd (decide ((IntKind.wrap .u8 (x35+(4:Int)))=(0:Int))) (ld .S (Addr.add p0 526) fun (s48:Sl)=>app z5 5 1 s48 s14 fun (s49:Sl)=>st (Addr.add p0 526) (.slice s49.a s49.l s49.c)<|drw<|ld .S (Addr.add p0 526) fun (s50:Sl)=>ld (.I .i64) (Addr.add p0 527) fun (n51:Int)=>cnd (decide (n51≤(s50.l:Int))) (callP Tryd.prog 62 #[(.string ⟨#[111,117,116,112,117,116,32,115,105,122,101,32,62,32,68,101,99,111,109,112,114,101,115,115,76,105,109,105,116]⟩)] [.c .V] fun (r52:Value)=>K1 r52) (A36 (IntKind.wrap .u8 (x35+(4:Int))))) (A36 (IntKind.wrap .u8 (x35+(4:Int))))) (R15 x35)
def q80_L2 (p0:Addr) (K1:(Value)→PT) (p5:Addr) (p6:Addr) (R57:Unit→PT) (x58:Unit) (A59:Unit→PT):PT :=
 callP Tryd.prog 105 #[(.pointer (some p5))] [.c .B] fun (r60:Bool)=>cnd r60 (drw<|ld .S (Addr.add p0 526) fun (s61:Sl)=>callP Tryd.prog 106 #[(.pointer (some p5))] [.c (.I .u8)] fun (r62:Int)=>kp [((Addr.add p0 526),(.slice s61.a s61.l s61.c))]<|callP Tryd.prog 106 #[(.pointer (some p6))] [.c (.I .u8)] fun (r63:Int)=>kp [((Addr.add p0 526),(.slice s61.a s61.l s61.c))]<|nw [(.int .u8 r62),(.int .u8 r63)] 5 fun (p64:Addr)=>kp [((Addr.add p0 526),(.slice s61.a s61.l s61.c))]<|app z5 5 1 s61 ⟨(some p64),2,2⟩ fun (s65:Sl)=>st (Addr.add p0 526) (.slice s65.a s65.l s65.c)<|R57 ()) (callP Tryd.prog 107 #[(.pointer (some (Addr.add p0 514)))] [] fun (r66:Unit)=>drw<|ld .S (Addr.add p0 526) fun (s67:Sl)=>callP Tryd.prog 104 #[(.pointer (some p5))] [.c (.I .u8)] fun (r68:Int)=>kp [((Addr.add p0 526),(.slice s67.a s67.l s67.c))]<|nw [(.int .u8 r68)] 5 fun (p69:Addr)=>kp [((Addr.add p0 526),(.slice s67.a s67.l s67.c))]<|app z5 5 1 s67 ⟨(some p69),1,1⟩ fun (s70:Sl)=>st (Addr.add p0 526) (.slice s70.a s70.l s70.c)<|callP Tryd.prog 105 #[(.pointer (some p6))] [.c .B] fun (r71:Bool)=>cnd r71 (drw<|ld .S (Addr.add p0 526) fun (s72:Sl)=>callP Tryd.prog 106 #[(.pointer (some p6))] [.c (.I .u8)] fun (r73:Int)=>kp [((Addr.add p0 526),(.slice s72.a s72.l s72.c))]<|callP Tryd.prog 106 #[(.pointer (some p5))] [.c (.I .u8)] fun (r74:Int)=>kp [((Addr.add p0 526),(.slice s72.a s72.l s72.c))]<|nw [(.int .u8 r73),(.int .u8 r74)] 5 fun (p75:Addr)=>kp [((Addr.add p0 526),(.slice s72.a s72.l s72.c))]<|app z5 5 1 s72 ⟨(some p75),2,2⟩ fun (s76:Sl)=>st (Addr.add p0 526) (.slice s76.a s76.l s76.c)<|R57 ()) (drw<|ld .S (Addr.add p0 526) fun (s77:Sl)=>callP Tryd.prog 104 #[(.pointer (some p6))] [.c (.I .u8)] fun (r78:Int)=>kp [((Addr.add p0 526),(.slice s77.a s77.l s77.c))]<|nw [(.int .u8 r78)] 5 fun (p79:Addr)=>kp [((Addr.add p0 526),(.slice s77.a s77.l s77.c))]<|app z5 5 1 s77 ⟨(some p79),1,1⟩ fun (s80:Sl)=>st (Addr.add p0 526) (.slice s80.a s80.l s80.c)<|drw<|ld .S (Addr.add p0 526) fun (s81:Sl)=>ld (.I .i64) (Addr.add p0 527) fun (n82:Int)=>cnd (decide (n82≤(s81.l:Int))) (callP Tryd.prog 62 #[(.string ⟨#[111,117,116,112,117,116,32,115,105,122,101,32,62,32,68,101,99,111,109,112,114,101,115,115,76,105,109,105,116]⟩)] [.c .V] fun (r83:Value)=>K1 r83) (A59 ())))
def q80_J3 (p0:Addr) (K1:(Value)→PT) (x84:Unit):PT :=
 callP Tryd.prog 108 #[(.pointer (some (Addr.add p0 514)))] [.c .V] fun (r85:Value)=>K1 r85
def q80_J4 (p0:Addr) (K1:(Value)→PT) (p5:Addr) (p6:Addr) (s14:Sl) (x53:Int):PT :=
 drw<|ld .S (Addr.add p0 526) fun (s54:Sl)=>slc 1 s14 none (some x53) none fun (s55:Sl)=>app z5 5 1 s54 s55 fun (s56:Sl)=>st (Addr.add p0 526) (.slice s56.a s56.l s56.c)<|joinP (fun R57=>loopP () (q80_L2 p0 K1 p5 p6 R57)) (q80_J3 p0 K1)
def q80 (p0:Addr) (K1:(Value)→PT):PT :=
 ldL [.S,(.I .i64)] (Addr.add p0 512) 0 fun (r2:(Sl×Int))=>callP Tryd.prog 100 #[(.agg ⟨[(.slice r2.1.a r2.1.l r2.1.c),(.int .i64 r2.2)]⟩)] [.c .S] fun (r3:Sl)=>callP Tryd.prog 99 #[(.pointer (some (Addr.add p0 514))),(.slice r3.a r3.l r3.c)] [.c .V] fun (r4:Value)=>req (isIf r4=true)<|cnd (!(isNil r4)) (K1 r4) (nw z185 185 fun (p5:Addr)=>nw z185 185 fun (p6:Addr)=>drw<|ld .S (Addr.add p0 524) fun (s7:Sl)=>ld (.I .u8) (Addr.add p0 529) fun (n8:Int)=>callP Tryd.prog 101 #[(.pointer (some p5)),(.pointer (some (Addr.add p0 514))),(.slice s7.a s7.l s7.c),(.int .u8 n8)] [] fun (r9:Unit)=>drw<|ld .S (Addr.add p0 524) fun (s10:Sl)=>ld (.I .u8) (Addr.add p0 529) fun (n11:Int)=>callP Tryd.prog 101 #[(.pointer (some p6)),(.pointer (some (Addr.add p0 514))),(.slice s10.a s10.l s10.c),(.int .u8 n11)] [] fun (r12:Unit)=>ld .S (Addr.add p0 521) fun (s13:Sl)=>slc 1 s13 none (some (256:Int)) none fun (s14:Sl)=>joinP (fun R15=>ld .B (Addr.add p0 530) fun (b16:Bool)=>cnd (!b16) (loopP (0:Int) (q80_L0 p0 K1 p5 p6 s14 R15)) (loopP (0:Int) (q80_L1 p0 K1 p5 p6 s14 R15))) (q80_J4 p0 K1 p5 p6 s14))
def h80:Hint:=⟨(.n (.n (.n .e 511 ([(8,.c (.I .u8))],[7,3,6,5,0]) .e) 2047 ([],[3]) .e) 8180 ([(8,.c (.I .u8))],[0,7,6,5,3]) (.n (.n .e 8182 ([(8,.c (.I .u8))],[0,7,6,5,3]) .e) 8188 ([],[3,6,5,0]) .e)),.e⟩
theorem q80_eq (p0:Addr) (K1:(Value)→PT):fnE Cx h80 [.c .V] Tryd.f80 [.pt p0] K1=q80 p0 K1:=by kernel_rfl
theorem q80_fnok:fnOk Tryd.f80 1=true:=by kernel_rfl
theorem q80_ok (p0:Addr) (K1:(Value)→PT) {w:World} (h:q80 p0 K1 w):Calls Tryd.prog 80 #[(.pointer (some p0))] w fun e w'=>∃r,e = .returned (resMk [.c .V] r)∧K1 r w' :=
 of_eq Tryd.func80 q80_fnok (by kernel_rfl) (by kernel_rfl) (q80_eq p0 K1) h
def q81_J0 (K1:Int→PT) (x5:Int×Int):PT :=
 ixStr ⟨#[0,1,2,2,3,3,3,3,4,4,4,4,4,4,4,4,5,5,5,5,5,5,5,5,5,5,5,5,5,5,5,5,6,6,6,6,6,6,6,6,6,6,6,6,6,6,6,6,6,6,6,6,6,6,6,6,6,6,6,6,6,6,6,6,7,7,7,7,7,7,7,7,7,7,7,7,7,7,7,7,7,7,7,7,7,7,7,7,7,7,7,7,7,7,7,7,7,7,7,7,7,7,7,7,7,7,7,7,7,7,7,7,7,7,7,7,7,7,7,7,7,7,7,7,7,7,7,7,8,8,8,8,8,8,8,8,8,8,8,8,8,8,8,8,8,8,8,8,8,8,8,8,8,8,8,8,8,8,8,8,8,8,8,8,8,8,8,8,8,8,8,8,8,8,8,8,8,8,8,8,8,8,8,8,8,8,8,8,8,8,8,8,8,8,8,8,8,8,8,8,8,8,8,8,8,8,8,8,8,8,8,8,8,8,8,8,8,8,8,8,8,8,8,8,8,8,8,8,8,8,8,8,8,8,8,8,8,8,8,8,8,8,8,8,8,8,8,8,8,8,8,8,8,8,8,8]⟩ (IntKind.wrap .u8 x5.1) fun (n6:Int)=>K1 (IntKind.wrap .i64 (x5.2+(IntKind.wrap .i64 n6)))
def q81_J1 (K1:Int→PT) (x3:Int×Int):PT :=
 joinP (fun R4=>cnd (decide ((256:Int)≤x3.1)) (req (0≤(8:Int))<|R4 ((shrI .u32 x3.1 (8:Int)),(IntKind.wrap .i64 (x3.2+(8:Int))))) (R4 (x3.1,x3.2))) (q81_J0 K1)
def q81 (n0:Int) (K1:Int→PT):PT :=
 joinP (fun R2=>cnd (decide ((65536:Int)≤n0)) (req (0≤(16:Int))<|R2 ((shrI .u32 n0 (16:Int)),(16:Int))) (R2 (n0,(0:Int)))) (q81_J1 K1)
def h81:Hint:=⟨(.n (.n .e 3 ([(0,.c (.I .u32)),(2,.c (.I .i64))],[]) .e) 7 ([(0,.c (.I .u32)),(2,.c (.I .i64))],[]) .e),.e⟩
theorem q81_eq (n0:Int) (K1:Int→PT):fnE Cx h81 [.c (.I .i64)] Tryd.f81 [.v (.int .u32 n0)] K1=q81 n0 K1:=by kernel_rfl
theorem q81_fnok:fnOk Tryd.f81 1=true:=by kernel_rfl
theorem q81_ok (n0:Int) (K1:Int→PT) {w:World} (h:q81 n0 K1 w):Calls Tryd.prog 81 #[(.int .u32 n0)] w fun e w'=>∃r,e = .returned (resMk [.c (.I .i64)] r)∧K1 r w' :=
 of_eq Tryd.func81 q81_fnok (by kernel_rfl) (by kernel_rfl) (q81_eq n0 K1) h
def q82 (p0:Addr) (K1:Sl→PT):PT :=
 slcA 1 256 p0 none none none fun (s2:Sl)=>K1 s2
def h82:Hint:=⟨.e,.e⟩
theorem q82_eq (p0:Addr) (K1:Sl→PT):fnE Cx h82 [.c .S] Tryd.f82 [.pt p0] K1=q82 p0 K1:=by kernel_rfl
theorem q82_fnok:fnOk Tryd.f82 1=true:=by kernel_rfl
theorem q82_ok (p0:Addr) (K1:Sl→PT) {w:World} (h:q82 p0 K1 w):Calls Tryd.prog 82 #[(.pointer (some p0))] w fun e w'=>∃r,e = .returned (resMk [.c .S] r)∧K1 r w' :=
 of_eq Tryd.func82 q82_fnok (by kernel_rfl) (by kernel_rfl) (q82_eq p0 K1) h
def q83 (p0:Addr) (n1:Int) (n2:Int) (K3:Unit→PT):PT :=
 st (Addr.add p0 525) (.int .i64 n2)<|st (Addr.add p0 528) (.int .u16 (IntKind.wrap .u16 ((IntKind.wrap .u16 n1)+(1:Int))))<|st (Addr.add p0 531) (.bool (!decide (n2=(0:Int))))<|K3 ()
def h83:Hint:=⟨.e,.e⟩
theorem q83_eq (p0:Addr) (n1:Int) (n2:Int) (K3:Unit→PT):fnE Cx h83 [] Tryd.f83 [.pt p0,.v (.int .u8 n1),.v (.int .i64 n2)] K3=q83 p0 n1 n2 K3:=by kernel_rfl
theorem q83_fnok:fnOk Tryd.f83 3=true:=by kernel_rfl
theorem q83_ok (p0:Addr) (n1:Int) (n2:Int) (K3:Unit→PT) {w:World} (h:q83 p0 n1 n2 K3 w):Calls Tryd.prog 83 #[(.pointer (some p0)),(.int .u8 n1),(.int .i64 n2)] w fun e w'=>∃r,e = .returned (resMk [] r)∧K3 r w' :=
 of_eq Tryd.func83 q83_fnok (by kernel_rfl) (by kernel_rfl) (q83_eq p0 n1 n2 K3) h
def q84_J0 (s0:Sl) (K2:(Sl×Value)→PT) (r5:Option Addr×Value) (x10:Int):PT :=
 nz r5.1 fun (p11:Addr)=>st (Addr.add p11 531) (.bool true)<|nz r5.1 fun (p12:Addr)=>st (Addr.add p12 525) (.int .i64 (0:Int))<|cnd (decide (x10=(s0.l:Int))) (drw<|ld .V ⟨4,0,none⟩ fun (v13:Value)=>K2 (⟨none,0,0⟩,v13)) (cnd (decide (x10=(1:Int))) (drw<|ld .V ⟨3,0,none⟩ fun (v14:Value)=>K2 (⟨none,0,0⟩,v14)) (req (0≤(7:Int))<|cnd (decide (x10<(shrI .i64 (s0.l:Int) (7:Int)))) (drw<|ld .V ⟨3,0,none⟩ fun (v15:Value)=>K2 (⟨none,0,0⟩,v15)) (callP Tryd.prog 110 #[(.pointer r5.1)] [] fun (r16:Unit)=>callP Tryd.prog 111 #[(.pointer r5.1)] [.c .V] fun (r17:Value)=>req (isIf r17=true)<|cnd (!(isNil r17)) (K2 (⟨none,0,0⟩,r17)) (callP Tryd.prog 112 #[(.pointer r5.1)] [.c .V] fun (r18:Value)=>req (isIf r18=true)<|cnd (!(isNil r18)) (K2 (⟨none,0,0⟩,r18)) (callP Tryd.prog 113 #[(.pointer r5.1)] [.c .V] fun (r19:Value)=>req (isIf r19=true)<|cnd (!(isNil r19)) (K2 (⟨none,0,0⟩,r19)) (callP Tryd.prog 114 #[(.pointer r5.1),(.slice s0.a s0.l s0.c)] [.c .V] fun (r20:Value)=>req (isIf r20=true)<|cnd (!(isNil r20)) (K2 (⟨none,0,0⟩,r20)) (nz r5.1 fun (p21:Addr)=>ld .S (Addr.add (Addr.add p21 518) 2) fun (s22:Sl)=>nz r5.1 fun (p23:Addr)=>st (Addr.add p23 526) (.slice s22.a s22.l s22.c)<|nz r5.1 fun (p24:Addr)=>ld .S (Addr.add p24 526) fun (s25:Sl)=>cnd (decide ((s0.l:Int)≤(s25.l:Int))) (drw<|ld .V ⟨3,0,none⟩ fun (v26:Value)=>K2 (⟨none,0,0⟩,v26)) (nz r5.1 fun (p27:Addr)=>ld .S (Addr.add p27 526) fun (s28:Sl)=>K2 (s28,.nilIface)))))))))
def q84 (s0:Sl) (o1:Option Addr) (K2:(Sl×Value)→PT):PT :=
 cnd (decide ((s0.l:Int)≤(1:Int))) (drw<|ld .V ⟨3,0,none⟩ fun (v3:Value)=>K2 (⟨none,0,0⟩,v3)) (cnd (decide ((2147483647:Int)<(s0.l:Int))) (callP Tryd.prog 62 #[(.string ⟨#[105,110,112,117,116,32,116,111,111,32,98,105,103,44,32,109,117,115,116,32,98,101,32,60,32,50,71,66]⟩)] [.c .V] fun (r4:Value)=>K2 (⟨none,0,0⟩,r4)) (callP Tryd.prog 77 #[(.pointer o1),(.slice s0.a s0.l s0.c)] [.c .P,.c .V] fun (r5:Option Addr×Value)=>req (isIf r5.2=true)<|cnd (!(isNil r5.2)) (K2 (⟨none,0,0⟩,r5.2)) (nz r5.1 fun (p6:Addr)=>ld (.I .i64) (Addr.add p6 525) fun (n7:Int)=>joinP (fun R8=>cnd (decide (n7=(0:Int))) (callP Tryd.prog 109 #[(.pointer r5.1),(.slice s0.a s0.l s0.c)] [.c (.I .i64)] fun (r9:Int)=>R8 r9) (R8 n7)) (q84_J0 s0 K2 r5))))
def h84:Hint:=⟨(.n .e 127 ([(7,.c (.I .i64))],[0,1]) .e),.e⟩
theorem q84_eq (s0:Sl) (o1:Option Addr) (K2:(Sl×Value)→PT):fnE Cx h84 [.c .S,.c .V] Tryd.f84 [.v (.slice s0.a s0.l s0.c),.v (.pointer o1)] K2=q84 s0 o1 K2:=by kernel_rfl
theorem q84_fnok:fnOk Tryd.f84 2=true:=by kernel_rfl
theorem q84_ok (s0:Sl) (o1:Option Addr) (K2:(Sl×Value)→PT) {w:World} (h:q84 s0 o1 K2 w):Calls Tryd.prog 84 #[(.slice s0.a s0.l s0.c),(.pointer o1)] w fun e w'=>∃r,e = .returned (resMk [.c .S,.c .V] r)∧K2 r w' :=
 of_eq Tryd.func84 q84_fnok (by kernel_rfl) (by kernel_rfl) (q84_eq s0 o1 K2) h
def q85_L0 (r3:Sl×Bool) (s4:Sl) (R5:Unit→PT) (x6:Int) (A7:Int→PT):PT :=
 cnd (decide (x6<(r3.1.l:Int))) (ixS 1 r3.1 x6 fun (p8:Addr)=>ld (.I .i64) p8 fun (n9:Int)=>drw<|req ((8:Int)≠0)<|ixS 1 s4 (quoI .i64 x6 (8:Int)) fun (p10:Addr)=>ld (.I .u8) p10 fun (n11:Int)=>req ((8:Int)≠0)<|req (0≤(Int.tmod x6 (8:Int)))<|ixS 1 s4 (quoI .i64 x6 (8:Int)) fun (p12:Addr)=>st p12 (.int .u8 (orI .u8 n11 (IntKind.wrap .u8 (shlI .i64 n9 (Int.tmod x6 (8:Int))))))<|A7 (IntKind.wrap .i64 (x6+(1:Int)))) (R5 ())
def q85_J1 (K2:(Sl×Bool)→PT) (s4:Sl) (x13:Unit):PT :=
 K2 (s4,true)
def q85 (s0:Sl) (n1:Int) (K2:(Sl×Bool)→PT):PT :=
 callP Tryd.prog 115 #[(.slice s0.a s0.l s0.c),(.int .i64 n1)] [.c .S,.c .B] fun (r3:Sl×Bool)=>cnd (!r3.2) (K2 (⟨none,0,0⟩,false)) (req ((8:Int)≠0)<|mks z5 5 1 (quoI .i64 (IntKind.wrap .i64 ((r3.1.l:Int)+(7:Int))) (8:Int)) (quoI .i64 (IntKind.wrap .i64 ((r3.1.l:Int)+(7:Int))) (8:Int)) fun (s4:Sl)=>joinP (fun R5=>loopP (0:Int) (q85_L0 r3 s4 R5)) (q85_J1 K2 s4))
def h85:Hint:=⟨(.n (.n .e 31 ([],[8]) .e) 250 ([(26,.c (.I .i64))],[8,24,25]) .e),.e⟩
theorem q85_eq (s0:Sl) (n1:Int) (K2:(Sl×Bool)→PT):fnE Cx h85 [.c .S,.c .B] Tryd.f85 [.v (.slice s0.a s0.l s0.c),.v (.int .i64 n1)] K2=q85 s0 n1 K2:=by kernel_rfl
theorem q85_fnok:fnOk Tryd.f85 2=true:=by kernel_rfl
theorem q85_ok (s0:Sl) (n1:Int) (K2:(Sl×Bool)→PT) {w:World} (h:q85 s0 n1 K2 w):Calls Tryd.prog 85 #[(.slice s0.a s0.l s0.c),(.int .i64 n1)] w fun e w'=>∃r,e = .returned (resMk [.c .S,.c .B] r)∧K2 r w' :=
 of_eq Tryd.func85 q85_fnok (by kernel_rfl) (by kernel_rfl) (q85_eq s0 n1 K2) h
def q86_J0 (s2:Sl) (s5:Sl) (x7:(Int)) (R11:Unit→PT) (x12:(Int)) (R14:Unit→PT) (x29:Bool):PT :=
 cnd x29 (ixS 1 s5 x7 fun (p30:Addr)=>st p30 (.int .i64 x12)<|R11 ()) (cnd (decide ((s2.l:Int)≤(IntKind.wrap .i64 (x7+(2:Int))))) (ixS 1 s5 x7 fun (p31:Addr)=>st p31 (.int .i64 x12)<|R11 ()) (R14 ()))
def q86_X1 (s2:Sl) (s5:Sl) (x7:(Int)) (p17:Addr) (R21:Bool→PT):PT :=
 drw<|cnd (decide ((IntKind.wrap .i64 (x7+(2:Int)))<(s2.l:Int))) (ixS 1 s5 (IntKind.wrap .i64 (x7+(2:Int))) fun (p22:Addr)=>ld (.I .i64) p22 fun (n23:Int)=>ld (.I .i64) (Addr.add p17 2) fun (n24:Int)=>cnd (decide (n24≤n23)) (ixS 1 s5 (IntKind.wrap .i64 (x7+(2:Int))) fun (p25:Addr)=>ld (.I .i64) p25 fun (n26:Int)=>ld (.I .i64) (Addr.add p17 2) fun (n27:Int)=>ld (.I .i64) (Addr.add p17 1) fun (n28:Int)=>req (0≤n28)<|R21 (decide (n26<(IntKind.wrap .i64 (n27+(shlI .i64 (1:Int) n28)))))) (R21 false)) (R21 false)
def q86_J2 (x12:(Int)) (A13:Int→PT) (x32:Unit):PT :=
 A13 (IntKind.wrap .i64 (x12+(1:Int)))
def q86_X3 (s2:Sl) (r4:Sl×Bool) (s5:Sl) (x7:(Int)) (R11:Unit→PT) (x12:(Int)) (R14:Unit→PT):PT :=
 ixS 3 r4.1 x12 fun (p15:Addr)=>ldL [(.I .i64),(.I .i64),(.I .i64)] p15 0 fun (r16:(Int×Int×Int))=>nw z113 113 fun (p17:Addr)=>stL p17 0 [(.int .i64 r16.1),(.int .i64 r16.2.1),(.int .i64 r16.2.2)]<|drw<|ld (.I .i64) p17 fun (n18:Int)=>ixS 1 s2 x7 fun (p19:Addr)=>ld (.I .u8) p19 fun (n20:Int)=>cnd (!decide (n18=(IntKind.wrap .i64 n20))) (R14 ()) (joinP (q86_X1 s2 s5 x7 p17) (q86_J0 s2 s5 x7 R11 x12 R14))
def q86_L4 (s2:Sl) (r4:Sl×Bool) (s5:Sl) (x7:(Int)) (R11:Unit→PT) (x12:Int) (A13:Int→PT):PT :=
 cnd (decide (x12<(r4.1.l:Int))) (joinP (q86_X3 s2 r4 s5 x7 R11 x12) (q86_J2 x12 A13)) (R11 ())
def q86_J5 (K3:(Sl×Bool)→PT) (s5:Sl) (x7:(Int)) (R9:Unit→PT) (x33:Unit):PT :=
 ixS 1 s5 x7 fun (p34:Addr)=>ld (.I .i64) p34 fun (n35:Int)=>cnd (decide (n35<(0:Int))) (K3 (⟨none,0,0⟩,false)) (R9 ())
def q86_J6 (x7:(Int)) (A8:Int→PT) (x36:Unit):PT :=
 A8 (IntKind.wrap .i64 (x7-(1:Int)))
def q86_L7 (s2:Sl) (K3:(Sl×Bool)→PT) (r4:Sl×Bool) (s5:Sl) (R6:Unit→PT) (x7:Int) (A8:Int→PT):PT :=
 cnd (decide ((0:Int)≤x7)) (joinP (fun R9=>ixS 1 s5 x7 fun (p10:Addr)=>st p10 (.int .i64 (-1:Int))<|joinP (fun R11=>loopP (0:Int) (q86_L4 s2 r4 s5 x7 R11)) (q86_J5 K3 s5 x7 R9)) (q86_J6 x7 A8)) (R6 ())
def q86_L8 (s2:Sl) (r4:Sl×Bool) (s5:Sl) (R44:Sl→PT) (x45:Sl×Int) (A46:(Sl×Int)→PT):PT :=
 cnd (decide ((IntKind.wrap .i64 (x45.2+(2:Int)))<(s2.l:Int))) (ixS 1 s5 x45.2 fun (p47:Addr)=>ld (.I .i64) p47 fun (n48:Int)=>ixS 3 r4.1 n48 fun (p49:Addr)=>ldL [(.I .i64),(.I .i64),(.I .i64)] p49 0 fun (r50:(Int×Int×Int))=>nw z113 113 fun (p51:Addr)=>stL p51 0 [(.int .i64 r50.1),(.int .i64 r50.2.1),(.int .i64 r50.2.2)]<|drw<|ixS 1 s5 (IntKind.wrap .i64 (x45.2+(2:Int))) fun (p52:Addr)=>ld (.I .i64) p52 fun (n53:Int)=>ld (.I .i64) (Addr.add p51 2) fun (n54:Int)=>ld (.I .i64) (Addr.add p51 1) fun (n55:Int)=>callP Tryd.prog 116 #[(.slice x45.1.a x45.1.l x45.1.c),(.int .i64 (IntKind.wrap .i64 (n53-n54))),(.int .i64 n55)] [.c .S] fun (r56:Sl)=>A46 (r56,(IntKind.wrap .i64 (x45.2+(1:Int))))) (R44 x45.1)
def q86_J9 (K3:(Sl×Bool)→PT) (x57:Sl):PT :=
 callP Tryd.prog 54 #[(.slice x57.a x57.l x57.c)] [.c .S] fun (r58:Sl)=>K3 (r58,true)
def q86_J10 (n1:Int) (s2:Sl) (K3:(Sl×Bool)→PT) (r4:Sl×Bool) (s5:Sl) (x37:Unit):PT :=
 ixS 1 s5 (0:Int) fun (p38:Addr)=>ld (.I .i64) p38 fun (n39:Int)=>callP Tryd.prog 116 #[(.slice none 0 0),(.int .i64 n39),(.int .i64 n1)] [.c .S] fun (r40:Sl)=>ixS 1 s5 (1:Int) fun (p41:Addr)=>ld (.I .i64) p41 fun (n42:Int)=>callP Tryd.prog 116 #[(.slice r40.a r40.l r40.c),(.int .i64 n42),(.int .i64 n1)] [.c .S] fun (r43:Sl)=>joinP (fun R44=>loopP (r43,(0:Int)) (q86_L8 s2 r4 s5 R44)) (q86_J9 K3)
def q86 (s0:Sl) (n1:Int) (s2:Sl) (K3:(Sl×Bool)→PT):PT :=
 callP Tryd.prog 57 #[(.slice s0.a s0.l s0.c),(.int .i64 n1)] [.c .S,.c .B] fun (r4:Sl×Bool)=>cnd (!r4.2) (K3 (⟨none,0,0⟩,false)) (cnd (decide ((s2.l:Int)<(2:Int))) (K3 (⟨none,0,0⟩,false)) (mks z3 3 8 (s2.l:Int) (s2.l:Int) fun (s5:Sl)=>joinP (fun R6=>loopP (IntKind.wrap .i64 ((s2.l:Int)-(1:Int))) (q86_L7 s2 K3 r4 s5 R6)) (q86_J10 n1 s2 K3 r4 s5)))
def h86:Hint:=⟨(.n (.n (.n (.n .e 31 ([],[1,10,8,2]) .e) 250 ([(11,.c (.I .i64))],[10,2,8,1]) .e) 255 ([(15,.c .S)],[]) (.n .e 1001 ([],[11,10,2,8,1]) .e)) 2042 ([(15,.c .S),(16,.c (.I .i64))],[10,8,2]) (.n (.n (.n .e 8009 ([],[1,8,2,10,11]) .e) 64074 ([(46,.c (.I .i64))],[1,8,2,10,11,44,45]) .e) 512595 ([],[46,1,8,2,10,11,44,45]) (.n .e 8201523 ([(14,.c .B)],[45,44,46,12,1,8,2,10,11]) .e))),.e⟩
theorem q86_eq (s0:Sl) (n1:Int) (s2:Sl) (K3:(Sl×Bool)→PT):fnE Cx h86 [.c .S,.c .B] Tryd.f86 [.v (.slice s0.a s0.l s0.c),.v (.int .i64 n1),.v (.slice s2.a s2.l s2.c)] K3=q86 s0 n1 s2 K3:=by kernel_rfl
theorem q86_fnok:fnOk Tryd.f86 3=true:=by kernel_rfl
theorem q86_ok (s0:Sl) (n1:Int) (s2:Sl) (K3:(Sl×Bool)→PT) {w:World} (h:q86 s0 n1 s2 K3 w):Calls Tryd.prog 86 #[(.slice s0.a s0.l s0.c),(.int .i64 n1),(.slice s2.a s2.l s2.c)] w fun e w'=>∃r,e = .returned (resMk [.c .S,.c .B] r)∧K3 r w' :=
 of_eq Tryd.func86 q86_fnok (by kernel_rfl) (by kernel_rfl) (q86_eq s0 n1 s2 K3) h
def q87_J0 (x5:(Int×Bool×Int)) (A6:(Int×Bool×Int)→PT) (x9:Int×Bool):PT :=
 A6 (x9.1,x9.2,(IntKind.wrap .i64 (x5.2.2+(1:Int))))
def q87_L1 (s0:Sl) (n1:Int) (n2:Int) (R4:Int×Bool→PT) (x5:Int×Bool×Int) (A6:(Int×Bool×Int)→PT):PT :=
 cnd (decide (x5.2.2<n2)) (joinP (fun R7=>callP Tryd.prog 76 #[(.slice s0.a s0.l s0.c),(.int .i64 (IntKind.wrap .i64 (n1+x5.2.2)))] [.c (.I .i64),.c .B] fun (r8:Int×Bool)=>req (0≤x5.2.2)<|cnd x5.2.1 (R7 ((IntKind.wrap .i64 (x5.1+(shlI .i64 r8.1 x5.2.2))),r8.2)) (R7 ((IntKind.wrap .i64 (x5.1+(shlI .i64 r8.1 x5.2.2))),false))) (q87_J0 x5 A6)) (R4 (x5.1,x5.2.1))
def q87_J2 (K3:(Int×Bool)→PT) (x10:Int×Bool):PT :=
 K3 (x10.1,x10.2)
def q87 (s0:Sl) (n1:Int) (n2:Int) (K3:(Int×Bool)→PT):PT :=
 joinP (fun R4=>loopP ((0:Int),true,(0:Int)) (q87_L1 s0 n1 n2 R4)) (q87_J2 K3)
def h87:Hint:=⟨(.n (.n .e 7 ([(8,.c (.I .i64)),(9,.c .B)],[]) .e) 58 ([(8,.c (.I .i64)),(9,.c .B),(10,.c (.I .i64))],[1,0,2]) (.n .e 233 ([(8,.c (.I .i64)),(9,.c .B)],[10,1,0,2]) .e)),.e⟩
theorem q87_eq (s0:Sl) (n1:Int) (n2:Int) (K3:(Int×Bool)→PT):fnE Cx h87 [.c (.I .i64),.c .B] Tryd.f87 [.v (.slice s0.a s0.l s0.c),.v (.int .i64 n1),.v (.int .i64 n2)] K3=q87 s0 n1 n2 K3:=by kernel_rfl
theorem q87_fnok:fnOk Tryd.f87 3=true:=by kernel_rfl
theorem q87_ok (s0:Sl) (n1:Int) (n2:Int) (K3:(Int×Bool)→PT) {w:World} (h:q87 s0 n1 n2 K3 w):Calls Tryd.prog 87 #[(.slice s0.a s0.l s0.c),(.int .i64 n1),(.int .i64 n2)] w fun e w'=>∃r,e = .returned (resMk [.c (.I .i64),.c .B] r)∧K3 r w' :=
 of_eq Tryd.func87 q87_fnok (by kernel_rfl) (by kernel_rfl) (q87_eq s0 n1 n2 K3) h
def q92 (p0:Addr) (s1:Sl) (K2:Unit→PT):PT :=
 st p0 (.slice s1.a s1.l s1.c)<|st (Addr.add p0 1) (.int .i64 (0:Int))<|K2 ()
def h92:Hint:=⟨.e,.e⟩
theorem q92_eq (p0:Addr) (s1:Sl) (K2:Unit→PT):fnE Cx h92 [] Tryd.f92 [.pt p0,.v (.slice s1.a s1.l s1.c)] K2=q92 p0 s1 K2:=by kernel_rfl
theorem q92_fnok:fnOk Tryd.f92 2=true:=by kernel_rfl
theorem q92_ok (p0:Addr) (s1:Sl) (K2:Unit→PT) {w:World} (h:q92 p0 s1 K2 w):Calls Tryd.prog 92 #[(.pointer (some p0)),(.slice s1.a s1.l s1.c)] w fun e w'=>∃r,e = .returned (resMk [] r)∧K2 r w' :=
 of_eq Tryd.func92 q92_fnok (by kernel_rfl) (by kernel_rfl) (q92_eq p0 s1 K2) h
def q93 (r0:(Sl×Int)) (K1:Int→PT):PT :=
 nw [(.slice r0.1.a r0.1.l r0.1.c),(.int .i64 r0.2)] 122 fun (p2:Addr)=>ld .S p2 fun (s3:Sl)=>ld (.I .i64) (Addr.add p2 1) fun (n4:Int)=>K1 (IntKind.wrap .i64 ((s3.l:Int)-n4))
def h93:Hint:=⟨.e,.e⟩
theorem q93_eq (r0:(Sl×Int)) (K1:Int→PT):fnE Cx h93 [.c (.I .i64)] Tryd.f93 [.v (.agg ⟨[(.slice r0.1.a r0.1.l r0.1.c),(.int .i64 r0.2)]⟩)] K1=q93 r0 K1:=by kernel_rfl
theorem q93_fnok:fnOk Tryd.f93 1=true:=by kernel_rfl
theorem q93_ok (r0:(Sl×Int)) (K1:Int→PT) {w:World} (h:q93 r0 K1 w):Calls Tryd.prog 93 #[(.agg ⟨[(.slice r0.1.a r0.1.l r0.1.c),(.int .i64 r0.2)]⟩)] w fun e w'=>∃r,e = .returned (resMk [.c (.I .i64)] r)∧K1 r w' :=
 of_eq Tryd.func93 q93_fnok (by kernel_rfl) (by kernel_rfl) (q93_eq r0 K1) h
def q94 (r0:(Sl×Int)) (K1:Int→PT):PT :=
 nw [(.slice r0.1.a r0.1.l r0.1.c),(.int .i64 r0.2)] 122 fun (p2:Addr)=>ld .S p2 fun (s3:Sl)=>ld (.I .i64) (Addr.add p2 1) fun (n4:Int)=>slc 1 s3 (some n4) none none fun (s5:Sl)=>slc 1 s5 none (some (4:Int)) none fun (s6:Sl)=>ixS 1 s6 (3:Int) fun (p7:Addr)=>ld (.I .u8) p7 fun (n8:Int)=>ixS 1 s6 (2:Int) fun (p9:Addr)=>ld (.I .u8) p9 fun (n10:Int)=>ixS 1 s6 (1:Int) fun (p11:Addr)=>ld (.I .u8) p11 fun (n12:Int)=>ixS 1 s6 (0:Int) fun (p13:Addr)=>ld (.I .u8) p13 fun (n14:Int)=>req (0≤(8:Int))<|req (0≤(16:Int))<|req (0≤(24:Int))<|K1 (orI .u32 (orI .u32 (orI .u32 (IntKind.wrap .u32 n14) (shlI .u32 (IntKind.wrap .u32 n12) (8:Int))) (shlI .u32 (IntKind.wrap .u32 n10) (16:Int))) (shlI .u32 (IntKind.wrap .u32 n8) (24:Int)))
def h94:Hint:=⟨.e,.e⟩
theorem q94_eq (r0:(Sl×Int)) (K1:Int→PT):fnE Cx h94 [.c (.I .u32)] Tryd.f94 [.v (.agg ⟨[(.slice r0.1.a r0.1.l r0.1.c),(.int .i64 r0.2)]⟩)] K1=q94 r0 K1:=by kernel_rfl
theorem q94_fnok:fnOk Tryd.f94 1=true:=by kernel_rfl
theorem q94_ok (r0:(Sl×Int)) (K1:Int→PT) {w:World} (h:q94 r0 K1 w):Calls Tryd.prog 94 #[(.agg ⟨[(.slice r0.1.a r0.1.l r0.1.c),(.int .i64 r0.2)]⟩)] w fun e w'=>∃r,e = .returned (resMk [.c (.I .u32)] r)∧K1 r w' :=
 of_eq Tryd.func94 q94_fnok (by kernel_rfl) (by kernel_rfl) (q94_eq r0 K1) h
def q95 (p0:Addr) (n1:Int) (K2:Unit→PT):PT :=
 ld (.I .i64) (Addr.add p0 1) fun (n3:Int)=>st (Addr.add p0 1) (.int .i64 (IntKind.wrap .i64 (n3+(IntKind.wrap .i64 n1))))<|K2 ()
def h95:Hint:=⟨.e,.e⟩
theorem q95_eq (p0:Addr) (n1:Int) (K2:Unit→PT):fnE Cx h95 [] Tryd.f95 [.pt p0,.v (.int .u64 n1)] K2=q95 p0 n1 K2:=by kernel_rfl
theorem q95_fnok:fnOk Tryd.f95 2=true:=by kernel_rfl
theorem q95_ok (p0:Addr) (n1:Int) (K2:Unit→PT) {w:World} (h:q95 p0 n1 K2 w):Calls Tryd.prog 95 #[(.pointer (some p0)),(.int .u64 n1)] w fun e w'=>∃r,e = .returned (resMk [] r)∧K2 r w' :=
 of_eq Tryd.func95 q95_fnok (by kernel_rfl) (by kernel_rfl) (q95_eq p0 n1 K2) h
def q96_J0 (p0:Addr) (K1:Unit→PT) (x18:Unit):PT :=
 ld .S (Addr.add (Addr.add p0 521) 1) fun (s19:Sl)=>slc 1 s19 none (some (256:Int)) none fun (s20:Sl)=>st (Addr.add (Addr.add p0 521) 1) (.slice s20.a s20.l s20.c)<|K1 ()
def q96_J1 (p0:Addr) (K1:Unit→PT) (x12:Unit):PT :=
 ld .S (Addr.add p0 521) fun (s13:Sl)=>slc 1 s13 none (some (256:Int)) none fun (s14:Sl)=>st (Addr.add p0 521) (.slice s14.a s14.l s14.c)<|joinP (fun R15=>ld .S (Addr.add (Addr.add p0 521) 1) fun (s16:Sl)=>cnd (decide ((s16.c:Int)<(256:Int))) (mks z81 81 2 (256:Int) (256:Int) fun (s17:Sl)=>st (Addr.add (Addr.add p0 521) 1) (.slice s17.a s17.l s17.c)<|R15 ()) (R15 ())) (q96_J0 p0 K1)
def q96_J2 (p0:Addr) (K1:Unit→PT) (n2:Int) (x6:Unit):PT :=
 ld .S (Addr.add p0 524) fun (s7:Sl)=>slc 3 s7 none (some (shlI .i64 (1:Int) n2)) none fun (s8:Sl)=>st (Addr.add p0 524) (.slice s8.a s8.l s8.c)<|joinP (fun R9=>ld .S (Addr.add p0 521) fun (s10:Sl)=>cnd (decide ((s10.c:Int)<(256:Int))) (mks z5 5 1 (256:Int) (256:Int) fun (s11:Sl)=>st (Addr.add p0 521) (.slice s11.a s11.l s11.c)<|R9 ()) (R9 ())) (q96_J1 p0 K1)
def q96 (p0:Addr) (K1:Unit→PT):PT :=
 ld (.I .u8) (Addr.add p0 529) fun (n2:Int)=>req (0≤n2)<|joinP (fun R3=>ld .S (Addr.add p0 524) fun (s4:Sl)=>cnd (decide ((s4.c:Int)<(shlI .i64 (1:Int) n2))) (mks z180 180 4 (shlI .i64 (1:Int) n2) (shlI .i64 (1:Int) n2) fun (s5:Sl)=>st (Addr.add p0 524) (.slice s5.a s5.l s5.c)<|R3 ()) (R3 ())) (q96_J2 p0 K1 n2)
def h96:Hint:=⟨(.n (.n .e 3 ([],[2,0]) .e) 15 ([],[0]) (.n .e 63 ([],[0]) .e)),.e⟩
theorem q96_eq (p0:Addr) (K1:Unit→PT):fnE Cx h96 [] Tryd.f96 [.pt p0] K1=q96 p0 K1:=by kernel_rfl
theorem q96_fnok:fnOk Tryd.f96 1=true:=by kernel_rfl
theorem q96_ok (p0:Addr) (K1:Unit→PT) {w:World} (h:q96 p0 K1 w):Calls Tryd.prog 96 #[(.pointer (some p0))] w fun e w'=>∃r,e = .returned (resMk [] r)∧K1 r w' :=
 of_eq Tryd.func96 q96_fnok (by kernel_rfl) (by kernel_rfl) (q96_eq p0 K1) h
def q97 (n0:Int) (K1:Int→PT):PT :=
 req (0≤(1:Int))<|req (0≤(3:Int))<|K1 (IntKind.wrap .u32 ((IntKind.wrap .u32 ((shrI .u32 n0 (1:Int))+(shrI .u32 n0 (3:Int))))+(3:Int)))
def h97:Hint:=⟨.e,.e⟩
theorem q97_eq (n0:Int) (K1:Int→PT):fnE Cx h97 [.c (.I .u32)] Tryd.f97 [.v (.int .u32 n0)] K1=q97 n0 K1:=by kernel_rfl
theorem q97_fnok:fnOk Tryd.f97 1=true:=by kernel_rfl
theorem q97_ok (n0:Int) (K1:Int→PT) {w:World} (h:q97 n0 K1 w):Calls Tryd.prog 97 #[(.int .u32 n0)] w fun e w'=>∃r,e = .returned (resMk [.c (.I .u32)] r)∧K1 r w' :=
 of_eq Tryd.func97 q97_fnok (by kernel_rfl) (by kernel_rfl) (q97_eq n0 K1) h
def q98 (n0:Int) (K1:Int→PT):PT :=
 callP Tryd.prog 81 #[(.int .u32 n0)] [.c (.I .i64)] fun (r2:Int)=>K1 (IntKind.wrap .u32 (IntKind.wrap .i64 (r2-(1:Int))))
def h98:Hint:=⟨.e,.e⟩
theorem q98_eq (n0:Int) (K1:Int→PT):fnE Cx h98 [.c (.I .u32)] Tryd.f98 [.v (.int .u32 n0)] K1=q98 n0 K1:=by kernel_rfl
theorem q98_fnok:fnOk Tryd.f98 1=true:=by kernel_rfl
theorem q98_ok (n0:Int) (K1:Int→PT) {w:World} (h:q98 n0 K1 w):Calls Tryd.prog 98 #[(.int .u32 n0)] w fun e w'=>∃r,e = .returned (resMk [.c (.I .u32)] r)∧K1 r w' :=
 of_eq Tryd.func98 q98_fnok (by kernel_rfl) (by kernel_rfl) (q98_eq n0 K1) h
def q99_J0 (p0:Addr) (K2:(Value)→PT) (n5:Int) (x11:Unit):PT :=
 drw<|ld (.I .u8) (Addr.add p0 3) fun (n12:Int)=>callP Tryd.prog 98 #[(.int .u32 (IntKind.wrap .u32 n5))] [.c (.I .u32)] fun (r13:Int)=>kp [((Addr.add p0 3),(.int .u8 n12))]<|st (Addr.add p0 3) (.int .u8 (IntKind.wrap .u8 (n12+(IntKind.wrap .u8 ((8:Int)-(IntKind.wrap .u8 r13))))))<|K2 .nilIface
def q99 (p0:Addr) (s1:Sl) (K2:(Value)→PT):PT :=
 cnd (decide ((s1.l:Int)<(1:Int))) (callP Tryd.prog 62 #[(.string ⟨#[99,111,114,114,117,112,116,32,115,116,114,101,97,109,58,32,116,111,111,32,115,104,111,114,116]⟩)] [.c .V] fun (r3:Value)=>K2 r3) (st p0 (.slice s1.a s1.l s1.c)<|st (Addr.add p0 1) (.int .u64 (IntKind.wrap .u64 (s1.l:Int)))<|ixS 1 s1 (IntKind.wrap .i64 ((s1.l:Int)-(1:Int))) fun (p4:Addr)=>ld (.I .u8) p4 fun (n5:Int)=>cnd (decide (n5=(0:Int))) (callP Tryd.prog 62 #[(.string ⟨#[99,111,114,114,117,112,116,32,115,116,114,101,97,109,44,32,100,105,100,32,110,111,116,32,102,105,110,100,32,101,110,100,32,111,102,32,115,116,114,101,97,109]⟩)] [.c .V] fun (r6:Value)=>K2 r6) (st (Addr.add p0 3) (.int .u8 (64:Int))<|st (Addr.add p0 2) (.int .u64 (0:Int))<|joinP (fun R7=>cnd (decide ((8:Int)≤(s1.l:Int))) (callP Tryd.prog 131 #[(.pointer (some p0))] [] fun (r8:Unit)=>R7 ()) (callP Tryd.prog 107 #[(.pointer (some p0))] [] fun (r9:Unit)=>callP Tryd.prog 107 #[(.pointer (some p0))] [] fun (r10:Unit)=>R7 ())) (q99_J0 p0 K2 n5)))
def h99:Hint:=⟨(.n .e 511 ([],[0,5]) .e),.e⟩
theorem q99_eq (p0:Addr) (s1:Sl) (K2:(Value)→PT):fnE Cx h99 [.c .V] Tryd.f99 [.pt p0,.v (.slice s1.a s1.l s1.c)] K2=q99 p0 s1 K2:=by kernel_rfl
theorem q99_fnok:fnOk Tryd.f99 2=true:=by kernel_rfl
theorem q99_ok (p0:Addr) (s1:Sl) (K2:(Value)→PT) {w:World} (h:q99 p0 s1 K2 w):Calls Tryd.prog 99 #[(.pointer (some p0)),(.slice s1.a s1.l s1.c)] w fun e w'=>∃r,e = .returned (resMk [.c .V] r)∧K2 r w' :=
 of_eq Tryd.func99 q99_fnok (by kernel_rfl) (by kernel_rfl) (q99_eq p0 s1 K2) h
def q100 (r0:(Sl×Int)) (K1:Sl→PT):PT :=
 nw [(.slice r0.1.a r0.1.l r0.1.c),(.int .i64 r0.2)] 122 fun (p2:Addr)=>ld .S p2 fun (s3:Sl)=>ld (.I .i64) (Addr.add p2 1) fun (n4:Int)=>slc 1 s3 (some n4) none none fun (s5:Sl)=>K1 s5
def h100:Hint:=⟨.e,.e⟩
theorem q100_eq (r0:(Sl×Int)) (K1:Sl→PT):fnE Cx h100 [.c .S] Tryd.f100 [.v (.agg ⟨[(.slice r0.1.a r0.1.l r0.1.c),(.int .i64 r0.2)]⟩)] K1=q100 r0 K1:=by kernel_rfl
theorem q100_fnok:fnOk Tryd.f100 1=true:=by kernel_rfl
theorem q100_ok (r0:(Sl×Int)) (K1:Sl→PT) {w:World} (h:q100 r0 K1 w):Calls Tryd.prog 100 #[(.agg ⟨[(.slice r0.1.a r0.1.l r0.1.c),(.int .i64 r0.2)]⟩)] w fun e w'=>∃r,e = .returned (resMk [.c .S] r)∧K1 r w' :=
 of_eq Tryd.func100 q100_fnok (by kernel_rfl) (by kernel_rfl) (q100_eq r0 K1) h
def q101 (p0:Addr) (o1:Option Addr) (s2:Sl) (n3:Int) (K4:Unit→PT):PT :=
 st (Addr.add p0 2) (.slice s2.a s2.l s2.c)<|st (Addr.add p0 1) (.pointer o1)<|callP Tryd.prog 132 #[(.pointer o1),(.int .u8 n3)] [.c (.I .u16)] fun (r5:Int)=>st p0 (.int .u16 r5)<|K4 ()
def h101:Hint:=⟨.e,.e⟩
theorem q101_eq (p0:Addr) (o1:Option Addr) (s2:Sl) (n3:Int) (K4:Unit→PT):fnE Cx h101 [] Tryd.f101 [.pt p0,.v (.pointer o1),.v (.slice s2.a s2.l s2.c),.v (.int .u8 n3)] K4=q101 p0 o1 s2 n3 K4:=by kernel_rfl
theorem q101_fnok:fnOk Tryd.f101 4=true:=by kernel_rfl
theorem q101_ok (p0:Addr) (o1:Option Addr) (s2:Sl) (n3:Int) (K4:Unit→PT) {w:World} (h:q101 p0 o1 s2 n3 K4 w):Calls Tryd.prog 101 #[(.pointer (some p0)),(.pointer o1),(.slice s2.a s2.l s2.c),(.int .u8 n3)] w fun e w'=>∃r,e = .returned (resMk [] r)∧K4 r w' :=
 of_eq Tryd.func101 q101_fnok (by kernel_rfl) (by kernel_rfl) (q101_eq p0 o1 s2 n3 K4) h
end Go.Sx
namespace Go.Sx
open Go Go.Proofs
def bitZ (l:List Nat) (n:Int):Nat:=if n<0 then 0 else leN l/2^n.toNat%2
def inZ (l:List Nat) (n:Int):Bool:=decide (0≤n∧n<8*l.length)
theorem Arr.ldk {k:IntKind} {w:World} {s:Sl} {l:List Nat} (h:Arr k w s l) {i:Int} (n:Nat) {κ:Addr→PT} (hi:i=n) (hn:n<l.length) (hk:∀p,w.cell? p=some (.int k (l[n]:Nat))→κ p w):ixS 1 s i κ w:=by
 cases ha:s.a with
 | none=>have:=h.non ha;subst this;simp at hn
 | some b=>exact ⟨b,ha,n,hi,h.len▸hn,by rw [Nat.mul_one];exact hk _ (h.get b ha n hn)⟩
theorem ld_c {w:World} {t:CT} {p:Addr} {x:t.ty} {κ:t.ty→PT} (h:w.cell? p=some (t.mk x)) (hk:κ x w):ld t p κ w:=⟨x,h,hk⟩
theorem c76 {w:World} {s:Sl} {l:List Nat} {n:Int} {K:Int×Bool→PT} (h:Arr .u8 w s l) (hl:By l) (h1 : -4611686018427387904≤n) (h2:n<4611686018427387904)
  (hk:K ((bitZ l n:Nat),inZ l n) w):callP Tryd.prog 76 #[.slice s.a s.l s.c,.int .i64 n] [.c (.I .i64),.c .B] K w:=by
 apply q76_ok
 unfold q76
 refine cnd_d ?_ ?_
 ·intro hn
  unfold bitZ inZ at hk
  rw [if_pos hn] at hk
  rw [show decide (0≤n∧n<8*(l.length:Int))=false by simp;omega] at hk
  exact hk
 ·intro hn
  obtain ⟨m,rfl⟩:=Int.eq_ofNat_of_zero_le (show 0≤n by omega)
  have e8:quoI .i64 (m:Int) 8=((m/8:Nat):Int):=quoI_nat .i64 m 8 (by simp [IntKind.bits];omega)
  rw [e8]
  have hlen:=h.len
  refine ⟨by decide,cnd_d ?_ ?_⟩
  ·intro hc
   unfold bitZ inZ at hk
   rw [if_neg hn] at hk
   rw [show decide ((0:Int)≤(m:Int)∧(m:Int)<8*(l.length:Int))=false by simp;omega] at hk
   rw [Int.toNat_natCast,leN_bit m hl,getD_out (by omega)] at hk
   simpa using hk
  ·intro hc
   refine ⟨by decide,h.ldk (m/8) rfl (by omega) ?_⟩
   intro p hp
   refine ld_c (t := .I .u8) hp ⟨by decide,?_⟩
   have e9:Int.tmod (m:Int) 8=((m%8:Nat):Int):=rfl
   rw [e9]
   refine ⟨Int.natCast_nonneg _,?_⟩
   have hx:l[m/8]<256:=hl _ (List.getElem_mem _)
   rw [shrI_nat .u8 _ _ hx,wrap_nat .i64 _ (by have:=Nat.div_le_self l[m/8] (2^(m%8));simp [IntKind.bits];omega)]
   have e10:=andI_i64 (l[m/8]/2^(m%8)) 1 (by have:=Nat.div_le_self l[m/8] (2^(m%8));omega) (by decide)
   rw [Int.natCast_one] at e10
   rw [e10,Nat.and_one_is_mod]
   unfold bitZ inZ at hk
   rw [if_neg hn] at hk
   rw [show decide ((0:Int)≤(m:Int)∧(m:Int)<8*(l.length:Int))=true by simp;omega] at hk
   rw [Int.toNat_natCast,leN_bit m hl,getD_in (by omega)] at hk
   exact hk
theorem c44 {w:World} {n:Nat} {K:Int→PT} (h1:0<n) (h2:n<4611686018427387904) (hk:K (n.log2:Nat) w):callP Tryd.prog 44 #[.int .i64 n] [.c (.I .i64)] K w:=by
 apply q44_ok
 unfold q44
 refine ⟨fun k w'=>k=(n.log2:Nat)∧w'=w,?_,?_⟩
 ·rintro k w' ⟨rfl,rfl⟩
  exact hk
 ·refine ⟨fun s w'=>w'=w∧∃a k:Nat,s=((a:Int),(k:Int))∧0<a∧a≤n∧k≤n∧a.log2+k=n.log2,fun s _=>s.1.toNat,⟨rfl,n,0,rfl,h1,Nat.le_refl _,Nat.zero_le _,rfl⟩,?_⟩
  rintro s w' ⟨rfl,a,k,rfl,ha,han,hkn,he⟩
  unfold q44_L0
  refine cnd_d ?_ ?_
  ·intro hc
   have hc:1<a:=by simp only at hc;omega
   have e1:quoI .i64 (a:Int) 2=((a/2:Nat):Int):=quoI_nat .i64 a 2 (by simp [IntKind.bits];omega)
   have hlog:a.log2=(a/2).log2+1:=by rw [Nat.log2_def,if_pos (by omega)]
   have hlt:k<n:=by
    have:=Nat.log2_lt (n:=n) (k:=n) (by omega) |>.mpr (Nat.lt_two_pow_self)
    omega
   rw [e1,wI64 (by simp only;omega) (by simp only;omega)]
   refine ⟨by decide,⟨rfl,a/2,k+1,by simp,by omega,by omega,by omega,by omega⟩,?_⟩
   simp only [Int.toNat_natCast]
   omega
  ·intro hc
   have:a=1:=by simp at hc;omega
   subst this
   refine ⟨?_,rfl⟩
   have:Nat.log2 1=0:=by decide
   simp only
   congr 1
   omega
theorem Blk.setW {w:World} {b o:Nat} {f g:Cells} {v:Value} (h:Blk w b f) (ho:(f o).isSome) (e:updC f o v=g):Blk (w.setCell ⟨b,o,none⟩ v) b g:=e▸h.set ho
def okZ (l:List Nat) (at_ n:Nat):Bool:=decide (n=0∨at_+n≤8*l.length)
def tkZ (l:List Nat) (at_ n:Nat):Nat:=leN l/2^at_%2^n
theorem c87 {w:World} {s:Sl} {l:List Nat} {a n:Nat} {K:Int×Bool→PT} (h:Arr .u8 w s l) (hl:By l) (h1:a<1152921504606846976) (h2:n≤32)
  (hk:K ((tkZ l a n:Nat),okZ l a n) w):callP Tryd.prog 87 #[.slice s.a s.l s.c,.int .i64 a,.int .i64 n] [.c (.I .i64),.c .B] K w:=by
 apply q87_ok
 unfold q87
 refine ⟨fun x w'=>x=(((tkZ l a n:Nat):Int),okZ l a n)∧w'=w,?_,?_⟩
 ·rintro x w' ⟨rfl,rfl⟩
  exact hk
 ·refine ⟨fun x w'=>w'=w∧∃i:Nat,i≤n∧x=(((tkZ l a i:Nat):Int),okZ l a i,(i:Int)),fun x _=>n-x.2.2.toNat,⟨rfl,0,Nat.zero_le _,?_⟩,?_⟩
  ·simp [tkZ,okZ,Nat.mod_one]
  ·rintro x w' ⟨rfl,i,hi,rfl⟩
   unfold q87_L1
   refine cnd_d ?_ ?_
   ·intro hc
    have hc:i<n:=by simp only at hc;omega
    simp only
    rw [wI64 (by omega) (by omega)]
    refine joinP_id ?_
    refine c76 h hl (by omega) (by omega) ?_
    refine ⟨by omega,?_⟩
    have hb:bitZ l ((a:Int)+(i:Int))=leN l/2^(a+i)%2:=by
     unfold bitZ
     rw [if_neg (by omega),show ((a:Int)+(i:Int)).toNat=a+i by omega]
    have hlt:bitZ l ((a:Int)+(i:Int))<2:=by rw [hb];omega
    have hp:2^i<2^32:=Nat.pow_lt_pow_right (by omega) (by omega)
    have hs:shlI .i64 (bitZ l ((a:Int)+(i:Int)):Nat) (i:Nat)=((bitZ l ((a:Int)+(i:Int))*2^i:Nat):Int) :=
     shlI_nat .i64 _ _ (by simp [IntKind.bits];omega) (by
      simp only [IntKind.bits]
      have:bitZ l ((a:Int)+(i:Int))*2^i≤1*2^i:=Nat.mul_le_mul_right _ (by omega)
      omega)
    have ht:tkZ l a (i+1)=tkZ l a i+bitZ l ((a:Int)+(i:Int))*2^i:=by
     unfold tkZ
     rw [Nat.mod_pow_succ,Nat.div_div_eq_div_mul, ←Nat.pow_add,hb,Nat.mul_comm]
    have htl:tkZ l a (i+1)<2^(i+1):=Nat.mod_lt _ (Nat.two_pow_pos _)
    have hp2:2^(i+1)≤2^32:=Nat.pow_le_pow_right (by omega) (by omega)
    simp only
    have hv:IntKind.i64.wrap (((tkZ l a i:Nat):Int)+shlI .i64 (bitZ l ((a:Int)+(i:Int)):Nat) (i:Nat))=((tkZ l a (i+1):Nat):Int):=by
     rw [hs, ←Int.natCast_add, ←ht]
     exact wrap_nat .i64 _ (by simp only [IntKind.bits];omega)
    rw [hv]
    have hin:inZ l ((a:Int)+(i:Int))=decide (a+i<8*l.length):=by
     unfold inZ;congr 1;simp;omega
    have hok:∀b:Bool,b=okZ l a i→(b&&inZ l ((a:Int)+(i:Int)))=okZ l a (i+1):=by
     intro b hb;subst hb
     rw [hin];unfold okZ
     rw [←Bool.decide_and]
     congr 1;simp only [eq_iff_iff];omega
    constructor
    ·intro hb
     unfold q87_J0
     simp only
     rw [wI64 (by omega) (by omega)]
     have:=hok true hb.symm
     rw [Bool.true_and] at this
     rw [this]
     exact ⟨⟨trivial,i+1,by omega,by simp⟩,by omega⟩
    ·intro hb
     unfold q87_J0
     simp only
     rw [wI64 (by omega) (by omega)]
     have:=hok false hb.symm
     rw [Bool.false_and] at this
     rw [this]
     exact ⟨⟨trivial,i+1,by omega,by simp⟩,by omega⟩
   ·intro hc
    have hc:i=n:=by simp only at hc;omega
    subst hc
    exact ⟨rfl,rfl⟩
def hdC (b:Sl) (at_:Nat) (ok:Bool) (c:Sl):Cells:=fun i=>match i with
 | 0=>some (.slice b.a b.l b.c)
 | 1=>some (.int .i64 at_)
 | 2=>some (.bool ok)
 | 3=>some (.slice c.a c.l c.c)
 | _=>none
theorem hdC1 (b:Sl) (at_ n:Nat) (ok:Bool) (c:Sl):updC (hdC b at_ ok c) 1 (.int .i64 (n:Nat))=hdC b n ok c:=by
 funext i;rcases i with _|_|_|_|i<;>simp [updC,hdC]
theorem hdC2 (b:Sl) (at_:Nat) (ok k:Bool) (c:Sl):updC (hdC b at_ ok c) 2 (.bool k)=hdC b at_ k c:=by
 funext i;rcases i with _|_|_|_|i<;>simp [updC,hdC]
theorem hdC3 (b:Sl) (at_:Nat) (ok:Bool) (c d:Sl):updC (hdC b at_ ok c) 3 (.slice d.a d.l d.c)=hdC b at_ ok d:=by
 funext i;rcases i with _|_|_|_|i<;>simp [updC,hdC]
theorem c67 {w:World} {h at_ n:Nat} {b c:Sl} {ok:Bool} {l:List Nat} {K:Int→PT} (H:Blk w h (hdC b at_ ok c)) (hb:Arr .u8 w b l) (hl:By l) (h1:at_<1152921504606846976) (h2:n≤32)
  (hk:∀w',Blk w' h (hdC b (at_+n) (ok&&okZ l at_ n) c)→Fm w w' [h]→K (tkZ l at_ n:Nat) w'):callP Tryd.prog 67 #[.pointer (some ⟨h,0,none⟩),.int .i64 n] [.c (.I .i64)] K w:=by
 apply q67_ok
 unfold q67 drw
 refine ld_b (x:=b) H.drew rfl ?_
 rw [add_mk]
 refine ld_b (t := .I .i64) (x:=(at_:Int)) H.drew rfl ?_
 refine c87 (hb.fr (Fm.refl w []).drew (by simp)) hl h1 h2 ?_
 refine joinP_id ?_
 simp only [add_mk]
 refine ld_b (t := .B) (x:=ok) H.drew rfl ?_
 have fin:∀(k:Bool),k=(ok&&okZ l at_ n)→st ⟨h,0+2,none⟩ (.bool k) (q67_J0 ⟨h,0,none⟩ n K ((tkZ l at_ n:Nat),okZ l at_ n) ()) w.drew:=by
  intro k hkk
  refine st_b H.drew rfl rfl ?_
  have H2:=H.drew.setW (o:=0+2) (v := .bool k) rfl (hdC2 b at_ ok k c)
  unfold q67_J0
  simp only [add_mk]
  refine ld_b (t := .I .i64) (x:=(at_:Int)) H2 rfl ?_
  rw [wI64 (by omega) (by omega)]
  refine st_b H2 rfl rfl ?_
  have H3:=H2.setW (o:=0+1) (v := .int .i64 ((at_+n:Nat):Int)) rfl (hdC1 b at_ (at_+n) k c)
  rw [←Int.natCast_add]
  refine hk _ (hkk▸H3) ?_
  exact (((Fm.refl w [h]).drew).set (.inl (by simp))).set (.inl (by simp))
 constructor
 ·intro e
  refine fin _ ?_
  rw [e];rfl
 ·intro e
  refine fin _ ?_
  rw [e];rfl
def valZ (l:List Nat) (at_ most:Nat):Nat×Nat×Bool :=
 let bits:=most.log2+1
 let low:=2^bits-1-most
 let v:=tkZ l at_ (bits-1)
 if v<low then (v,at_+(bits-1),okZ l at_ (bits-1)) else
  let v2:=v+tkZ l (at_+(bits-1)) 1*2^(bits-1)
  (if 2^(bits-1)≤v2 then v2-low else v2,at_+bits,okZ l at_ (bits-1)&&okZ l (at_+(bits-1)) 1)
theorem c68 {w:World} {h at_ most:Nat} {b c:Sl} {ok:Bool} {l:List Nat} {K:Int→PT} (H:Blk w h (hdC b at_ ok c)) (hb:Arr .u8 w b l) (hh:∀a,b.a=some a→l ≠ []→a.block≠h) (hl:By l) (h1:at_<1152921504606846976-64) (h0:0<most) (h2:most<2^20)
  (hk:∀w',Blk w' h (hdC b (valZ l at_ most).2.1 (ok&&(valZ l at_ most).2.2) c)→Fm w w' [h]→K ((valZ l at_ most).1:Nat) w'):callP Tryd.prog 68 #[.pointer (some ⟨h,0,none⟩),.int .i64 most] [.c (.I .i64)] K w:=by
 apply q68_ok
 unfold q68
 refine c44 h0 (by omega) ?_
 have hlog:most.log2<20:=(Nat.log2_lt (by omega)).mpr h2
 have hp1:2^most.log2≤most:=Nat.log2_self_le (by omega)
 have hp2:most<2^(most.log2+1):=Nat.lt_log2_self
 generalize hg:most.log2=g at *
 have hgp:2^(g+1)≤2^20:=Nat.pow_le_pow_right (by omega) (by omega)
 have hpp:2^(g+1)=2*2^g:=Nat.pow_succ'
 have e1:IntKind.i64.wrap ((g:Int)+1)=((g+1:Nat):Int):=by rw [wI64 (by omega) (by omega)];simp
 have e2:IntKind.i64.wrap (((g+1:Nat):Int)-1)=(g:Nat):=by rw [wI64 (by omega) (by omega)];simp
 have e3:shlI .i64 1 ((g+1:Nat):Int)=((2^(g+1):Nat):Int):=by
  have:=shlI_nat .i64 1 (g+1) (by simp [IntKind.bits];omega) (by simp only [IntKind.bits];omega)
  rw [Nat.one_mul] at this;exact this
 have e4:shlI .i64 1 ((g:Nat):Int)=((2^g:Nat):Int):=by
  have:=shlI_nat .i64 1 g (by simp [IntKind.bits];omega) (by simp only [IntKind.bits];omega)
  rw [Nat.one_mul] at this;exact this
 have e5:IntKind.i64.wrap (((2^(g+1):Nat):Int)-1)=((2^(g+1)-1:Nat):Int):=by rw [wI64 (by omega) (by omega)];omega
 have e6:IntKind.i64.wrap (((2^(g+1)-1:Nat):Int)-(most:Int))=((2^(g+1)-1-most:Nat):Int):=by rw [wI64 (by omega) (by omega)];omega
 unfold valZ at hk
 rw [hg] at hk
 simp only [Nat.add_sub_cancel] at hk
 simp only [e1,e2,e3,e5,e6]
 refine ⟨by omega,c67 H hb hl (by omega) (by omega) ?_⟩
 intro w1 H1 F1
 have hv:tkZ l at_ g<2^g:=Nat.mod_lt _ (Nat.two_pow_pos _)
 refine cnd_d ?_ ?_
 ·intro hc
  have hc:tkZ l at_ g<2^(g+1)-1-most:=by omega
  simp only [if_pos hc] at hk
  exact hk w1 H1 F1
 ·intro hc
  have hc:¬tkZ l at_ g<2^(g+1)-1-most:=by omega
  simp only [if_neg hc] at hk
  refine joinP_id ?_
  refine c67 (n:=1) H1 (hb.fr F1 (by intro a ha hn;simpa using hh a ha hn)) hl (by omega) (by omega) ?_
  intro w2 H2 F2
  have F:=F1.trans F2 (by intro b hb;exact .inl hb)
  have ht:tkZ l (at_+g) 1<2:=Nat.mod_lt _ (by omega)
  have fin:∀v2:Nat,v2=tkZ l at_ g+tkZ l (at_+g) 1*2^g→q68_J1 most K g v2 w2:=by
   intro v2 hv2
   unfold q68_J1
   refine joinP_id ?_
   simp only [e1,e2,e3,e4,e5,e6]
   rw [←hv2] at hk
   rw [Bool.and_assoc] at H2
   have hlt:v2<2^(g+1):=by
    rw [hv2,hpp]
    have:tkZ l (at_+g) 1*2^g≤1*2^g:=Nat.mul_le_mul_right _ (by omega)
    omega
   refine ⟨by omega,cnd_d ?_ ?_⟩
   ·intro hc
    have hc:2^g≤v2:=by omega
    simp only [if_pos hc] at hk
    unfold q68_J0
    rw [wI64 (by omega) (by omega)]
    rw [←Int.ofNat_sub (by omega)]
    exact hk w2 H2 F
   ·intro hc
    have hc:¬2^g≤v2:=by omega
    simp only [if_neg hc] at hk
    exact hk w2 H2 F
  refine cnd_d ?_ ?_
  ·intro hc
   simp only [e1,e2,e4]
   refine ⟨by omega,?_⟩
   have ht1:tkZ l (at_+g) 1=1:=by omega
   have:=fin (tkZ l at_ g+2^g) (by rw [ht1,Nat.one_mul])
   rw [wI64 (by omega) (by omega), ←Int.natCast_add]
   exact this
  ·intro hc
   have ht1:tkZ l (at_+g) 1=0:=by omega
   exact fin _ (by rw [ht1,Nat.zero_mul,Nat.add_zero])
def ints (l:List Int):List Value:=l.map (Value.int .i64)
theorem ints_len (l:List Int):(ints l).length=l.length:=by simp [ints]
theorem ints_app (l m:List Int):ints (l++m)=ints l++ints m:=by simp [ints]
structure HS where
 pos:Nat
 ok:Bool
 cs:List Int
structure HD (w0 w:World) (h:Nat) (b:Sl) (s:HS):Prop where
 new:w0.heap.size≤h
 fr:Fm w0 w []
 body:∃c,Blk w h (hdC b s.pos s.ok c)∧Vec 1 w c (ints s.cs)∧∀x∈c.bs,x≠h∧w0.heap.size≤x
theorem HD.arr {w0 w:World} {h:Nat} {b:Sl} {s:HS} {l:List Nat} (H:HD w0 w h b s) (hb:Arr .u8 w0 b l):Arr .u8 w b l:=hb.fr H.fr (by simp)
theorem Arr.old {k:IntKind} {w:World} {s:Sl} {l:List Nat} (h:Arr k w s l) (hl:l ≠ []):∀a,s.a=some a→a.block<w.heap.size:=by
 intro a ha
 have h1:=h.get a ha 0 (by cases l;exact absurd rfl hl;simp)
 have h2:=World.block_lt_of_cell? _ _ h1
 unfold Addr.add at h2
 simpa using h2
theorem c67h {w0 w:World} {h n:Nat} {b:Sl} {s:HS} {l:List Nat} {K:Int→PT} (H:HD w0 w h b s) (hb:Arr .u8 w0 b l) (hl:By l) (h1:s.pos<1152921504606846976) (h2:n≤32)
  (hk:∀w',HD w0 w' h b ⟨s.pos+n,s.ok&&okZ l s.pos n,s.cs⟩→K (tkZ l s.pos n:Nat) w'):callP Tryd.prog 67 #[.pointer (some ⟨h,0,none⟩),.int .i64 n] [.c (.I .i64)] K w:=by
 obtain ⟨c,hc1,hc2,hc3⟩:=H.body
 refine c67 hc1 (H.arr hb) hl h1 h2 ?_
 intro w' h3 h4
 refine hk w' ⟨H.new,H.fr.trans h4 (by intro x hx;right;simp at hx;subst hx;exact H.new),c,h3,hc2.fr h4 ?_,hc3⟩
 intro x hx
 simp [(hc3 x hx).1]
theorem c68h {w0 w:World} {h most:Nat} {b:Sl} {s:HS} {l:List Nat} {K:Int→PT} (H:HD w0 w h b s) (hb:Arr .u8 w0 b l) (hl:By l) (h1:s.pos<1152921504606846976-64) (h0:0<most) (h2:most<2^20)
  (hk:∀w',HD w0 w' h b ⟨(valZ l s.pos most).2.1,s.ok&&(valZ l s.pos most).2.2,s.cs⟩→K ((valZ l s.pos most).1:Nat) w'):callP Tryd.prog 68 #[.pointer (some ⟨h,0,none⟩),.int .i64 most] [.c (.I .i64)] K w:=by
 obtain ⟨c,hc1,hc2,hc3⟩:=H.body
 refine c68 hc1 (H.arr hb) ?_ hl h1 h0 h2 ?_
 ·intro a ha hne
  have:=hb.old hne a ha
  have:=H.new
  omega
 ·intro w' h3 h4
  refine hk w' ⟨H.new,H.fr.trans h4 (by intro x hx;right;simp at hx;subst hx;exact H.new),c,h3,hc2.fr h4 ?_,hc3⟩
  intro x hx
  simp [(hc3 x hx).1]
theorem HD.push {w0 w:World} {h:Nat} {b:Sl} {s:HS} {κ:PT} {x:Int} {T:TypeId} (H:HD w0 w h b s) (hn:s.cs.length<2^40)
  (hk:∀w',HD w0 w' h b ⟨s.pos,s.ok,s.cs ++ [x]⟩→κ w') :
  ld .S ⟨h,0+3,none⟩ (fun (s9:Sl)=>nw [(.int .i64 x)] T fun (p10:Addr)=>app z3 3 8 s9 ⟨(some p10),1,1⟩ fun (s11:Sl)=>st ⟨h,0+3,none⟩ (.slice s11.a s11.l s11.c)<|κ) w:=by
 obtain ⟨c,hc1,hc2,hc3⟩:=H.body
 refine ld_b (x:=c) hc1 rfl ?_
 have hlen:=hc2.len
 rw [ints_len,Nat.mul_one] at hlen
 refine app_1 hc2 rfl (by omega) ?_
 intro c' w' h1 h2 h3
 have hcb:h∉c.bs:=fun e=>(hc3 h e).1 rfl
 have hB:=hc1.fr h2 hcb
 refine st_b hB rfl rfl ?_
 have hB2:=hB.setW (o:=0+3) (v := .slice c'.a c'.l c'.c) rfl (hdC3 b s.pos s.ok c c')
 have hlt:=hc1.lt
 have hc':∀x∈c'.bs,x≠h∧w0.heap.size≤x:=by
  intro x hx
  rcases h3 x hx with h4|h4
  ·exact hc3 x h4
  ·have:=H.fr.size
   exact ⟨by omega,by omega⟩
 have hF:Fm w0 w' []:=H.fr.trans h2 (by intro x hx;right;exact (hc3 x hx).2)
 refine hk _ ⟨H.new,hF.set (.inr H.new),c',hB2,?_,hc'⟩
 rw [ints_app]
 refine h1.fr ((Fm.refl w' [h]).set (.inl (by simp))) ?_
 intro x hx
 simp [(hc' x hx).1]
def zerosZ (l:List Nat) (s:HS):HS :=
 if s.ok then
  if hz:tkZ l s.pos 2<3∨256<s.cs.length+tkZ l s.pos 2 then ⟨s.pos+2,s.ok&&okZ l s.pos 2,s.cs++List.replicate (tkZ l s.pos 2) 0⟩
  else zerosZ l ⟨s.pos+2,s.ok&&okZ l s.pos 2,s.cs++List.replicate (tkZ l s.pos 2) 0⟩
 else s
termination_by 260-s.cs.length
decreasing_by
 simp only [List.length_append,List.length_replicate]
 omega
def hdLen (w:World) (h:Nat):Nat:=match w.cell? ⟨h,3,none⟩ with
 | some (.slice _ l _)=>l
 | _=>0
theorem HD.hdLen {w0 w:World} {h:Nat} {b:Sl} {s:HS} (H:HD w0 w h b s):hdLen w h=s.cs.length:=by
 obtain ⟨c,hc1,hc2,hc3⟩:=H.body
 have hlen:=hc2.len
 rw [ints_len,Nat.mul_one] at hlen
 unfold Go.Sx.hdLen
 rw [hc1.cell 3]
 exact hlen.symm
theorem HD.ldOk {w0 w:World} {h:Nat} {b:Sl} {s:HS} {κ:Bool→PT} (H:HD w0 w h b s) (hk:κ s.ok w):ld .B ⟨h,0+2,none⟩ κ w:=by
 obtain ⟨c,hc1,hc2,hc3⟩:=H.body
 exact ld_b (t := .B) (x:=s.ok) hc1 rfl hk
theorem HD.ldC {w0 w:World} {h:Nat} {b:Sl} {s:HS} {κ:Sl→PT} (H:HD w0 w h b s) (hk:∀c,c.l=s.cs.length→Vec 1 w c (ints s.cs)→(∀x∈c.bs,x≠h∧w0.heap.size≤x)→κ c w):ld .S ⟨h,0+3,none⟩ κ w:=by
 obtain ⟨c,hc1,hc2,hc3⟩:=H.body
 have hlen:=hc2.len
 rw [ints_len,Nat.mul_one] at hlen
 exact ld_b (x:=c) hc1 rfl (hk c hlen.symm hc2 hc3)
theorem c69 {w0 w:World} {h:Nat} {b:Sl} {s:HS} {l:List Nat} {K:Unit→PT} (H:HD w0 w h b s) (hb:Arr .u8 w0 b l) (hl:By l) (h1:s.pos<2^50) (h2:s.cs.length≤300)
  (hk:∀w',HD w0 w' h b (zerosZ l s)→(zerosZ l s).pos≤s.pos+2*((zerosZ l s).cs.length-s.cs.length)+2→s.cs.length≤(zerosZ l s).cs.length→(zerosZ l s).cs.length≤303→K () w'):callP Tryd.prog 69 #[.pointer (some ⟨h,0,none⟩)] [] K w:=by
 apply q69_ok
 unfold q69
 refine ⟨fun _ w'=>∃s',HD w0 w' h b s'∧zerosZ l s'=zerosZ l s∧s'.pos≤s.pos+2*(s'.cs.length-s.cs.length)∧s.cs.length≤s'.cs.length∧s'.cs.length≤300,
  fun _ w'=>301-hdLen w' h,⟨s,H,rfl,by omega,Nat.le_refl _,h2⟩,?_⟩
 rintro _ w' ⟨s',H',he,hp,hc,hc3⟩
 unfold q69_L2
 simp only [add_mk]
 refine H'.ldOk ⟨?_,?_⟩
 ·intro hok
  refine c67h (n:=2) H' hb hl (by omega) (by omega) ?_
  intro w1 H1
  have hn:tkZ l s'.pos 2<4:=Nat.mod_lt _ (by omega)
  have hz:zerosZ l s'=if tkZ l s'.pos 2<3∨256<s'.cs.length+tkZ l s'.pos 2 then ⟨s'.pos+2,s'.ok&&okZ l s'.pos 2,s'.cs++List.replicate (tkZ l s'.pos 2) 0⟩
    else zerosZ l ⟨s'.pos+2,s'.ok&&okZ l s'.pos 2,s'.cs++List.replicate (tkZ l s'.pos 2) 0⟩:=by
   rw [zerosZ,if_pos hok]
   split<;>simp_all
  generalize tkZ l s'.pos 2=n at *
  refine ⟨fun _ w2=>HD w0 w2 h b ⟨s'.pos+2,s'.ok&&okZ l s'.pos 2,s'.cs++List.replicate n 0⟩,?_,?_⟩
  ·intro _ w2 H2
   have hlen2:(s'.cs++List.replicate n 0).length=s'.cs.length+n:=by simp
   unfold q69_J1
   simp only [add_mk]
   refine cnd_d ?_ ?_
   ·intro hc
    have hc:n<3:=by omega
    rw [if_pos (.inl hc)] at hz
    rw [←he,hz] at hk
    simp only [hlen2] at hk
    exact hk w2 H2 (by omega) (by omega) (by omega)
   ·intro hc
    refine H2.ldC ?_
    intro c hcl _ _
    simp only [hlen2] at hcl
    refine cnd_d ?_ ?_
    ·intro hc5
     rw [if_pos (.inr (by omega))] at hz
     rw [←he,hz] at hk
     simp only [hlen2] at hk
     exact hk w2 H2 (by omega) (by omega) (by omega)
    ·intro hc5
     rw [if_neg (by omega)] at hz
     refine ⟨⟨_,H2,?_,?_,?_,?_⟩,?_⟩
     ·rw [←hz,he]
     ·simp only [hlen2];omega
     ·simp only [hlen2];omega
     ·simp only [hlen2];omega
     ·rw [H2.hdLen,H'.hdLen];simp only [hlen2];omega
  ·refine ⟨fun x w2=>∃i:Nat,x=(i:Int)∧i≤n∧HD w0 w2 h b ⟨s'.pos+2,s'.ok&&okZ l s'.pos 2,s'.cs++List.replicate i 0⟩,fun x _=>n-x.toNat,⟨0,rfl,Nat.zero_le _,by simpa using H1⟩,?_⟩
   rintro x w2 ⟨i,rfl,hi,H2⟩
   unfold q69_L0
   simp only [add_mk]
   refine cnd_d ?_ ?_
   ·intro hc
    refine H2.push (x:=0) (by simp;omega) ?_
    intro w3 H3
    rw [wI64 (by omega) (by omega)]
    refine ⟨⟨i+1,by simp,by omega,?_⟩,by omega⟩
    simp only at H3
    rw [List.append_assoc, ←List.replicate_succ'] at H3
    exact H3
   ·intro hc
    have:i=n:=by omega
    subst this
    exact H2
 ·intro hok
  have hz:zerosZ l s'=s':=by rw [zerosZ,if_neg (by simp [hok])]
  rw [←he,hz] at hk
  exact hk w' H' (by omega) hc (by omega)
theorem zerosZ_len (l:List Nat) (s:HS):s.cs.length≤(zerosZ l s).cs.length:=by
 fun_induction zerosZ l s with
 | case1 s h1 h2=>simp
 | case2 s h1 h2 ih=>simp at ih;omega
 | case3 s h1=>exact Nat.le_refl _
theorem okZ_le {l:List Nat} {a n:Nat} (h:okZ l a n=true) (ha:a≤8*l.length):a+n≤8*l.length:=by
 unfold okZ at h
 rcases of_decide_eq_true h with h|h<;>omega
def Pin (l:List Nat) (s:HS):Prop:=s.ok=true→s.pos≤8*l.length
theorem zerosZ_pin (l:List Nat) (s:HS) (h:Pin l s):Pin l (zerosZ l s):=by
 fun_induction zerosZ l s with
 | case1 s h1 h2 =>
  intro hk
  simp only [Bool.and_eq_true] at hk
  exact okZ_le hk.2 (h hk.1)
 | case2 s h1 h2 ih =>
  apply ih
  intro hk
  simp only [Bool.and_eq_true] at hk
  exact okZ_le hk.2 (h hk.1)
 | case3 s h1=>exact h
theorem valZ_pin {l:List Nat} {a m:Nat} (h:(valZ l a m).2.2=true) (ha:a≤8*l.length):(valZ l a m).2.1≤8*l.length:=by
 unfold valZ at h ⊢
 simp only at h ⊢
 split at h
 ·rename_i hc
  rw [if_pos hc]
  exact okZ_le h ha
 ·rename_i hc
  rw [if_neg hc]
  simp only [Bool.and_eq_true] at h
  have:=okZ_le h.2 (okZ_le h.1 ha)
  simp only
  omega
theorem valZ_le (l:List Nat) (a m:Nat) (h0:0<m):(valZ l a m).1≤m∧(valZ l a m).2.1≤a+m.log2+1:=by
 have hp1:2^m.log2≤m:=Nat.log2_self_le (by omega)
 have hp2:m<2^(m.log2+1):=Nat.lt_log2_self
 unfold valZ
 simp only [Nat.add_sub_cancel]
 generalize m.log2=g at *
 have hpp:2^(g+1)=2*2^g:=Nat.pow_succ'
 have hv:tkZ l a g<2^g:=Nat.mod_lt _ (Nat.two_pow_pos _)
 have ht:tkZ l (a+g) 1<2:=Nat.mod_lt _ (by omega)
 split
 ·simp only;omega
 ·simp only
  have:tkZ l (a+g) 1*2^g≤1*2^g:=Nat.mul_le_mul_right _ (by omega)
  split<;>omega
def stepZ (l:List Nat) (s:HS) (left:Nat):HS:=⟨(valZ l s.pos (left+1)).2.1,s.ok&&(valZ l s.pos (left+1)).2.2,s.cs ++ [((valZ l s.pos (left+1)).1:Int)-1]⟩
def leftZ (v left:Nat):Nat:=if v=0 then left-1 else left-(v-1)
def nextZ (l:List Nat) (s:HS) (left:Nat):HS:=if (valZ l s.pos (left+1)).1=1 then zerosZ l (stepZ l s left) else stepZ l s left
theorem nextZ_len (l:List Nat) (s:HS) (left:Nat):s.cs.length<(nextZ l s left).cs.length:=by
 unfold nextZ
 split
 ·have:=zerosZ_len l (stepZ l s left)
  simp [stepZ] at this ⊢
  omega
 ·simp [stepZ]
def readZ (l:List Nat) (s:HS) (left:Nat):Option (HS×Nat) :=
 if 0<left∧s.ok=true then
  if hc:255<s.cs.length then none else readZ l (nextZ l s left) (leftZ (valZ l s.pos (left+1)).1 left)
 else some (s,left)
termination_by 300-s.cs.length
decreasing_by
 have:=nextZ_len l s left
 omega
def fseRead (l:List Nat):Option (List Int×Nat×List Nat) :=
 if 15<tkZ l 0 4+5 then none else
  match readZ l ⟨4,okZ l 0 4,[]⟩ (2^(tkZ l 0 4+5)) with
  | none=>none
  | some (s,left)=>if s.ok=true∧left=0∧s.cs.length≤256 then some (s.cs,tkZ l 0 4+5,l.drop ((s.pos+7)/8)) else none
theorem add_add (a:Addr) (m n:Nat):(a.add m).add n=a.add (m+n):=by
 unfold Addr.add
 by_cases h1:m=0
 ·subst h1;simp
 ·by_cases h2:n=0
  ·subst h2;simp
  ·simp [h1,h2];omega
theorem Arr.drop {k:IntKind} {w:World} {s:Sl} {l:List Nat} (h:Arr k w s l) (n:Nat) (hn:n≤l.length):Arr k w ⟨slA s.a n s.c 1,s.l-n,s.c-n⟩ (l.drop n):=by
 have h1:=h.len
 have h2:=h.cap
 refine ⟨by simp [h1],by simp only;omega,?_,?_⟩
 ·intro e
  simp only [slA] at e
  split at e
  ·rw [h.non e];simp
  ·rw [h.non (by simpa using e)];simp
 ·intro b hb i hi
  simp only [List.length_drop] at hi
  simp only [slA] at hb
  rw [if_neg (by omega)] at hb
  cases ha:s.a with
  | none=>rw [ha] at hb;cases hb
  | some a =>
   rw [ha] at hb
   injection hb with hb
   subst hb
   rw [Nat.mul_one,add_add,h.get a ha (n+i) (by omega)]
   simp
theorem Arr.has {k:IntKind} {w:World} {s:Sl} {l:List Nat} (h:Arr k w s l):Has 1 w s (l.map fun x=>Value.int k (x:Nat)):=by
 refine ⟨by simp [h.len],?_,?_,?_⟩
 ·intro b hb i hi
  simp only [List.length_map] at hi
  rw [h.get b hb i hi]
  simp [hi]
 ·intro e;rw [h.non e];rfl
 ·intro v hv
  simp only [List.mem_map] at hv
  obtain ⟨x,_,rfl⟩:=hv
  rfl
def bytes (k:IntKind) (l:List Nat):List Value:=l.map fun x=>Value.int k (x:Nat)
theorem Vec.arr {k:IntKind} {w:World} {s:Sl} {l:List Nat} (h:Vec 1 w s (bytes k l)):Arr k w s l:=by
 have h1:=h.len
 simp only [bytes,List.length_map,Nat.mul_one] at h1
 refine ⟨h1.symm,h.cap,?_,?_⟩
 ·intro e
  have h2:=h.non e
  have h3:=h.cap
  exact List.length_eq_zero_iff.mp (by omega)
 ·intro b hb i hi
  obtain ⟨e1,e2,f,h3,h4,h5⟩:=h.blk b hb
  obtain ⟨ab,ao,asp⟩:=b
  simp only at e1 e2 h3
  subst e1 e2
  rw [add_mk,Nat.zero_add,h3.cell,h4 i (by simpa [bytes] using hi)]
  simp [bytes,hi]
theorem Vec.empty {w:World} {sz b:Nat} {f:Cells} (h:Blk w b f):Vec sz w ⟨some ⟨b,0,none⟩,0,0⟩ []:=by
 refine ⟨by simp,Nat.le_refl _,(fun h=>by cases h),?_⟩
 intro a ha
 injection ha with ha
 subst ha
 exact ⟨rfl,rfl,f,h,by simp,by simp⟩
theorem slc_lo {w:World} {s:Sl} {x:Int} {n:Nat} {κ:Sl→PT} (hx:x=n) (hn:n≤s.l) (h:κ ⟨slA s.a n s.c 1,s.l-n,s.c-n⟩ w):slc 1 s (some x) none none κ w :=
 ⟨n,s.l,s.c,rfl,rfl,⟨hx,hn⟩,h⟩
theorem maxI_le {a b:Int} (h:b≤a):maxI a b=a:=by unfold maxI;rw [if_neg (by omega)]
theorem maxI_gt {a b:Int} (h:a≤b):maxI a b=b:=by
 unfold maxI
 split
 ·rfl
 ·omega
theorem c49 {w:World} {s:Sl} {l:List Nat} {K:Sl×Int×Sl×Bool→PT} (hb:Arr .u8 w s l) (hl:By l) (hn:l.length<2^40)
  (h0:fseRead l=none→∀w',Fm w w' []→K (⟨none,0,0⟩,0,⟨none,0,0⟩,false) w')
  (h1:∀cs t rest,fseRead l=some (cs,t,rest)→∀w' c r,Fm w w' []→Vec 1 w' c (ints cs)→(∀x∈c.bs,w.heap.size≤x)→Arr .u8 w' r rest→(∀x∈r.bs,w.heap.size≤x)→K (c,((t:Nat):Int),r,true) w') :
  callP Tryd.prog 49 #[.slice s.a s.l s.c] [.c .S,.c (.I .i64),.c .S,.c .B] K w:=by
 apply q49_ok
 unfold q49
 have H0:HD w (w.alloc (.cells ⟨[(.slice s.a s.l s.c),(.int .i64 (0:Int)),(.bool true),(.slice none 0 0)]⟩ 148)) w.heap.size s ⟨0,true,[]⟩:=by
  refine ⟨Nat.le_refl _,(Fm.refl w []).alloc,⟨none,0,0⟩,Blk.new.congr ?_,Vec.nil,by simp [Sl.bs]⟩
  funext i;rcases i with _|_|_|_|i<;>simp [hdC]
 refine c67h (n:=4) H0 hb hl (by simp) (by omega) ?_
 intro w1 H1
 have ht:tkZ l 0 4<16:=Nat.mod_lt _ (by omega)
 simp only [Nat.zero_add,Bool.true_and] at H1
 have e1:IntKind.i64.wrap (((tkZ l 0 4:Nat):Int)+5)=((tkZ l 0 4+5:Nat):Int):=by rw [wI64 (by omega) (by omega)];simp
 have e2:shlI .i64 1 ((tkZ l 0 4+5:Nat):Int)=((2^(tkZ l 0 4+5):Nat):Int):=by
  have hpp:2^(tkZ l 0 4+5)≤2^20:=Nat.pow_le_pow_right (by omega) (by omega)
  have:=shlI_nat .i64 1 (tkZ l 0 4+5) (by simp [IntKind.bits];omega) (by simp only [IntKind.bits];omega)
  rw [Nat.one_mul] at this;exact this
 simp only at H1 ⊢
 rw [e1,e2]
 unfold fseRead at h0 h1
 refine ⟨by omega,cnd_d ?_ ?_⟩
 ·intro hc
  rw [if_pos (by omega)] at h0
  exact h0 rfl _ H1.fr
 ·intro hc
  rw [if_neg (by omega)] at h0 h1
  generalize tkZ l 0 4+5=t at *
  have htt:2^t≤2^15:=Nat.pow_le_pow_right (by omega) (by omega)
  have hp4:Pin l ⟨4,okZ l 0 4,[]⟩:=by intro hk;have:=okZ_le hk (by omega);simpa using this
  generalize hs0:(⟨4,okZ l 0 4,[]⟩:HS)=s0 at *
  have hs0p:s0.pos=4:=by rw [←hs0]
  have hs0c:s0.cs = []:=by rw [←hs0]
  refine ⟨fun x w'=>∃s' left,x=(((t:Nat):Int),((left:Nat):Int))∧HD w w' w.heap.size s s'∧readZ l s0 (2^t)=some (s',left)∧Pin l s'∧s'.pos≤100*s'.cs.length+4∧s'.cs.length≤303,?_,?_⟩
  ·rintro x w' ⟨s',left,rfl,H,hr,hp,hps,hcl⟩
   unfold q49_J2
   simp only [add_mk]
   rw [hr] at h0 h1
   simp only at h0 h1
   refine H.ldOk ⟨?_,?_⟩
   ·intro hk
    rw [if_neg (by intro hh;rw [hh.1] at hk;cases hk)] at h0
    exact h0 rfl _ H.fr
   ·intro hk
    have hk:s'.ok=true:=by simpa using hk
    refine cnd_nd ?_ ?_
    ·intro hc2
     rw [if_neg (by intro hh;exact hc2 (by rw [hh.2.1];rfl))] at h0
     exact h0 rfl _ H.fr
    ·intro hc2
     refine H.ldC ?_
     intro c hcl2 hv hx
     refine cnd_d ?_ ?_
     ·intro hc3
      rw [if_neg (by intro hh;omega)] at h0
      exact h0 rfl _ H.fr
     ·intro hc3
      rw [if_pos ⟨hk,by omega,by omega⟩] at h1
      unfold drw
      have H2:HD w w'.drew w.heap.size s s':=⟨H.new,H.fr.drew,by
       obtain ⟨c,a1,a2,a3⟩:=H.body
       exact ⟨c,a1.drew,a2.fr (Fm.refl w' []).drew (by simp),a3⟩⟩
      obtain ⟨c2,hB,hV,hX⟩:=H2.body
      refine ld_b (x:=c2) hB rfl ?_
      refine ld_b (t := .I .i64) (x:=(s'.pos:Int)) hB rfl ?_
      have hpos:=hp hk
      have hlen:=hb.len
      refine ⟨by decide,slc_lo (n:=(s'.pos+7)/8) ?_ (by omega) ?_⟩
      ·rw [wI64 (by omega) (by omega)]
       exact quoI_nat .i64 (s'.pos+7) 8 (by simp only [IntKind.bits];omega)
      ·unfold nw
       have F2:Fm w'.drew (w'.drew.alloc (.cells ⟨[]⟩ 5)) []:=(Fm.refl _ []).alloc
       have hB2:=hB.fr F2 (by simp)
       have hV2:=hV.fr F2 (by simp)
       have hA:=(H2.arr hb).fr F2 (by simp)
       have hN:Blk (w'.drew.alloc (.cells ⟨[]⟩ 5)) w'.drew.heap.size fun i=>(⟨[]⟩:Array Value)[i]? := Blk.new
       have hd:=hA.drop ((s'.pos+7)/8) (by omega)
       have hwh:=hB.lt
       refine ⟨?_,?_⟩
       ·intro f hf
        simp only [List.mem_cons,List.not_mem_nil,or_false] at hf
        rcases hf with rfl|rfl
        ·exact hB2.cell 1
        ·exact hB2.cell 3
       ·refine app_v (zs:=z5) (l := []) (Vec.empty hN) hd.has (by decide) (by simp only;omega) ?_
        intro r w3 g1 g2 g3
        have hne:w.heap.size∉Sl.bs ⟨some ⟨w'.drew.heap.size,0,none⟩,0,0⟩:=by
         simp [Sl.bs];have h9:w.heap.size<w'.heap.size:=hwh;omega
        have hB3:=hB2.fr g2 hne
        refine ⟨?_,?_⟩
        ·intro f hf
         simp only [List.mem_cons,List.not_mem_nil,or_false] at hf
         subst hf
         exact hB3.cell 3
        ·have hsz:=H.fr.size
         refine h1 _ _ _ rfl w3 c2 r ?_ ?_ (fun x hx=>(hX x hx).2) ?_ ?_
         ·exact ((H2.fr.trans F2 (by simp)).trans g2 (by intro x hx;right;simp [Sl.bs] at hx;subst hx;exact hsz))
         ·refine hV2.fr g2 ?_
          intro x hx hx2
          simp [Sl.bs] at hx2
          have h3:=hV.lt x hx
          subst hx2
          exact Nat.lt_irrefl _ h3
         ·rw [List.nil_append] at g1
          exact Vec.arr (k := .u8) g1
         ·intro x hx
          rcases g3 x hx with g4|g4
          ·simp [Sl.bs] at g4;subst g4;exact hsz
          ·have:=F2.size
           have:w'.heap.size≤w'.drew.heap.size:=Nat.le_refl _
           omega
  ·refine ⟨fun x w'=>∃s' left,x=(((t:Nat):Int),((left:Nat):Int))∧HD w w' w.heap.size s s'∧readZ l s' left=readZ l s0 (2^t)∧Pin l s'∧s'.pos≤100*s'.cs.length+4∧s'.cs.length≤303∧left≤2^15,
    fun _ w'=>304-hdLen w' w.heap.size,⟨s0,2^t,rfl,H1,rfl,hp4,by omega,by rw [hs0c];simp,htt⟩,?_⟩
   rintro x w' ⟨s',left,rfl,H,hr,hp,hps,hcl,hle⟩
   unfold q49_L1
   simp only [add_mk]
   refine cnd_d ?_ ?_
   ·intro hc2
    have hc2:0<left:=by omega
    refine H.ldOk ⟨?_,?_⟩
    ·intro hk
     refine H.ldC ?_
     intro c hcl2 hv hx
     rw [readZ,if_pos ⟨hc2,hk⟩] at hr
     refine cnd_d ?_ ?_
     ·intro hc3
      rw [dif_pos (by omega)] at hr
      rw [←hr] at h0
      exact h0 rfl _ H.fr
     ·intro hc3
      rw [dif_neg (by omega)] at hr
      rw [wI64 (by omega) (by omega)]
      refine c68h (most:=left+1) H hb hl (by omega) (by omega) (by omega) ?_
      intro w2 H2
      have hvl:=valZ_le l s'.pos (left+1) (by omega)
      have hlg:(left+1).log2<17:=(Nat.log2_lt (by omega)).mpr (by omega)
      have hpin2:Pin l (stepZ l s' left):=by
       intro hk2
       simp only [stepZ,Bool.and_eq_true] at hk2
       exact valZ_pin hk2.2 (hp hk2.1)
      have hst:stepZ l s' left=⟨(valZ l s'.pos (left+1)).2.1,s'.ok&&(valZ l s'.pos (left+1)).2.2,s'.cs ++ [((valZ l s'.pos (left+1)).1:Int)-1]⟩:=rfl
      unfold nextZ at hr
      generalize hS1:stepZ l s' left=S1 at *
      have hS1c:S1.cs.length=s'.cs.length+1:=by rw [hst];simp
      have hS1p:S1.pos≤s'.pos+18:=by rw [hst];simp only;omega
      generalize hv1:(valZ l s'.pos (left+1)).1=v at *
      rw [wI64 (by omega) (by omega)]
      refine H2.push (x:=(v:Int)-1) (by simp only;omega) ?_
      intro w3 H3
      simp only at H3
      rw [←hst] at H3
      have e4:∀y:Nat,(y:Int)=(if v=0 then left-1 else left:Nat)→IntKind.i64.wrap ((y:Int)-maxI ((v:Int)-1) 0)=((leftZ v left:Nat):Int):=by
       intro y hy
       unfold leftZ
       by_cases h5:v=0
       ·rw [if_pos h5] at hy ⊢
        rw [maxI_gt (by omega),wI64 (by omega) (by omega)];omega
       ·rw [if_neg h5] at hy ⊢
        rw [maxI_le (by omega),wI64 (by omega) (by omega)];omega
      have hll:leftZ v left≤left:=by unfold leftZ;split<;>omega
      have fin:∀y:Nat,(y:Int)=(if v=0 then left-1 else left:Nat)→q49_J0 ⟨w.heap.size,0,none⟩ (((t:Nat):Int),((left:Nat):Int)) (fun s'_1 w'_1=>(∃s'_2 left,s'_1=(((t:Nat):Int),((left:Nat):Int))∧HD w w'_1 w.heap.size s s'_2∧readZ l s'_2 left=readZ l s0 (2^t)∧Pin l s'_2∧s'_2.pos≤100*s'_2.cs.length+4∧s'_2.cs.length≤303∧left≤2^15)∧304-hdLen w'_1 w.heap.size<304-hdLen w' w.heap.size) v y w3:=by
       intro y hy
       unfold q49_J0
       simp only
       rw [wI64 (x:=(v:Int)-1) (by omega) (by omega),e4 y hy]
       refine cnd_d ?_ ?_
       ·intro h5
        have h5:v=1:=by omega
        rw [if_pos h5] at hr
        refine c69 H3 hb hl (by omega) (by omega) ?_
        intro w4 H4 b1 b2 b3
        refine ⟨⟨_,_,rfl,H4,hr,zerosZ_pin l _ hpin2,by omega,by omega,by omega⟩,?_⟩
        rw [H4.hdLen,H.hdLen];omega
       ·intro h5
        rw [if_neg (by omega)] at hr
        refine ⟨⟨_,_,rfl,H3,hr,hpin2,by omega,by omega,by omega⟩,?_⟩
        rw [H3.hdLen,H.hdLen];omega
      refine joinP_id (cnd_d ?_ ?_)
      ·intro h5
       rw [wI64 (by omega) (by omega)]
       have:=fin (left-1) (by rw [if_pos (by omega)])
       rw [show ((left-1:Nat):Int)=(left:Int)-1 by omega] at this
       exact this
      ·intro h5
       exact fin left (by rw [if_neg (by omega)])
    ·intro hk
     rw [readZ,if_neg (by simp [hk])] at hr
     exact ⟨s',left,rfl,H,hr.symm,hp,hps,hcl⟩
   ·intro hc2
    rw [readZ,if_neg (by omega)] at hr
    exact ⟨s',left,rfl,H,hr.symm,hp,hps,hcl⟩
def tkB (l:List Nat):Nat→Int→Nat
 | 0,_=>0
 | n+1,left=>2*tkB l n left+bitZ l (left-n-1)
theorem bitZ_lt (l:List Nat) (n:Int):bitZ l n<2:=by unfold bitZ;split<;>omega
theorem tkB_lt (l:List Nat) (n:Nat) (left:Int):tkB l n left<2^n:=by
 induction n with
 | zero=>simp [tkB]
 | succ n ih=>have:=bitZ_lt l (left-n-1);rw [tkB,Nat.pow_succ];omega
def backZ (l:List Nat):Option Nat:=match l.getLast? with
 | none=>none
 | some x=>if x=0 then none else some (8*(l.length-1)+x.log2)
def rbC (b:Sl) (left:Int):Cells:=fun i=>match i with
 | 0=>some (.slice b.a b.l b.c)
 | 1=>some (.int .i64 left)
 | _=>none
theorem rbC1 (b:Sl) (x y:Int):updC (rbC b x) 1 (.int .i64 y)=rbC b y:=by
 funext i;rcases i with _|_|i<;>simp [updC,rbC]
theorem c72 {w:World} {s:Sl} {l:List Nat} {K:Option Addr×Bool→PT} (hb:Arr .u8 w s l) (hl:By l) (hn:l.length<2^40)
  (h0:backZ l=none→K (none,false) w)
  (h1:∀left,backZ l=some left→∀w',Fm w w' []→Blk w' w.heap.size (rbC s left)→K (some ⟨w.heap.size,0,none⟩,true) w') :
  callP Tryd.prog 72 #[.slice s.a s.l s.c] [.c .P,.c .B] K w:=by
 apply q72_ok
 unfold q72
 have hlen:=hb.len
 refine cnd_d ?_ ?_
 ·intro hc
  have:l = []:=List.length_eq_zero_iff.mp (by omega)
  subst this
  exact h0 rfl
 ·intro hc
  have hpos:0<l.length:=by omega
  have hlast:l.getLast? = some l[l.length-1]:=by rw [List.getLast?_eq_getElem?,List.getElem?_eq_getElem (by omega)]
  have hx:l[l.length-1]<256:=hl _ (List.getElem_mem _)
  unfold backZ at h0 h1
  rw [hlast] at h0 h1
  simp only at h0 h1
  have e1:IntKind.i64.wrap ((s.l:Int)-1)=((l.length-1:Nat):Int):=by rw [wI64 (by omega) (by omega)];omega
  refine hb.ldk (l.length-1) e1 (by omega) ?_
  intro p hp
  refine ld_c (t := .I .u8) hp (cnd_d ?_ ?_)
  ·intro hc2
   rw [if_pos (by omega)] at h0
   exact h0 rfl
  ·intro hc2
   rw [if_neg (by omega)] at h1
   refine hb.ldk (l.length-1) e1 (by omega) ?_
   intro p hp
   refine ld_c (t := .I .u8) hp ?_
   rw [wI64 (x:=((l[l.length-1]:Nat):Int)) (by omega) (by omega)]
   refine c44 (by omega) (by omega) ?_
   have hlg:l[l.length-1].log2<8:=(Nat.log2_lt (by omega)).mpr hx
   rw [e1,wI64 (x:=8*_) (by omega) (by omega),wI64 (by omega) (by omega)]
   refine h1 _ rfl _ ((Fm.refl w []).alloc) (Blk.new.congr ?_)
   funext i;rcases i with _|_|i<;>simp [rbC]
theorem c59 {w:World} {h n:Nat} {b:Sl} {left:Int} {l:List Nat} {K:Int→PT} (H:Blk w h (rbC b left)) (hb:Arr .u8 w b l) (hh:∀a,b.a=some a→l ≠ []→a.block≠h) (hl:By l)
  (h1 : -1152921504606846976≤left) (h2:left<1152921504606846976) (hn:n≤32)
  (hk:∀w',Blk w' h (rbC b (left-n))→Fm w w' [h]→K (tkB l n left:Nat) w'):callP Tryd.prog 59 #[.pointer (some ⟨h,0,none⟩),.int .i64 n] [.c (.I .i64)] K w:=by
 apply q59_ok
 unfold q59
 refine ⟨fun x w'=>x=((tkB l n left:Nat):Int)∧Blk w' h (rbC b (left-n))∧Fm w w' [h],?_,?_⟩
 ·rintro x w' ⟨rfl,H1,F1⟩
  exact hk w' H1 F1
 ·refine ⟨fun x w'=>∃i:Nat,i≤n∧x=(((tkB l i left:Nat):Int),(i:Int))∧Blk w' h (rbC b (left-i))∧Fm w w' [h],fun x _=>n-x.2.toNat,⟨0,Nat.zero_le _,rfl,by simpa using H,Fm.refl w _⟩,?_⟩
  rintro x w' ⟨i,hi,rfl,H1,F1⟩
  unfold q59_L0
  simp only [add_mk]
  refine cnd_d ?_ ?_
  ·intro hc
   refine ld_b (t := .I .i64) (x:=left-i) H1 rfl ?_
   rw [wI64 (by omega) (by omega)]
   refine st_b H1 rfl rfl ?_
   have H2:=H1.setW (o:=0+1) (v := .int .i64 (left-i-1)) rfl (rbC1 b _ _)
   have F2:Fm w (w'.setCell ⟨h,0+1,none⟩ (.int .i64 (left-i-1))) [h]:=F1.set (.inl (by simp))
   unfold drw
   refine ld_b (x:=b) H2.drew rfl ?_
   refine ld_b (t := .I .i64) (x:=left-i-1) H2.drew rfl ?_
   refine c76 (hb.fr F2.drew (by intro a ha hn;simpa using hh a ha hn)) hl (by omega) (by omega) ?_
   have hlt:=tkB_lt l i left
   have hlt2:=bitZ_lt l (left-i-1)
   have hp:2^i≤2^32:=Nat.pow_le_pow_right (by omega) (by omega)
   simp only
   rw [wI64 (x:=2*_) (by omega) (by omega),wI64 (by omega) (by omega),wI64 (by omega) (by omega)]
   refine ⟨⟨i+1,by omega,?_,?_,F2.drew⟩,by omega⟩
   ·rw [tkB];simp
   ·have:=H2.drew
    rw [show left-((i+1:Nat):Int)=left-i-1 by omega]
    exact this
  ·intro hc
   have:i=n:=by omega
   subst this
   exact ⟨rfl,H1,F1⟩
theorem ld2_b {w:World} {b o:Nat} {f:Cells} {t u:CT} {x:t.ty} {y:u.ty} {κ:t.ty×u.ty→PT} (h:Blk w b f) (hx:f o=some (t.mk x)) (hy:f (o+1)=some (u.mk y)) (hk:κ (x,y) w):ldL [t,u] ⟨b,o,none⟩ 0 κ w:=by
 unfold ldL ldL
 simp only [add_mk,Nat.add_zero]
 exact ld_b h hx (ld_b h hy hk)
def c2C (x y:Int):Cells:=fun i=>match i with
 | 0=>some (.int .i64 x)
 | 1=>some (.int .i64 y)
 | _=>none
theorem c2C0 (x y z:Int):updC (c2C x y) 0 (.int .i64 z)=c2C z y:=by
 funext i;rcases i with _|_|i<;>simp [updC,c2C]
theorem c2C1 (x y z:Int):updC (c2C x y) 1 (.int .i64 z)=c2C x z:=by
 funext i;rcases i with _|_|i<;>simp [updC,c2C]
theorem st2_c2 {w:World} {b:Nat} {x y u v:Int} {κ:PT} (h:Blk w b (c2C x y)) (hk:∀w',Blk w' b (c2C u v)→Fm w w' [b]→κ w'):stL ⟨b,0,none⟩ 0 [.int .i64 u,.int .i64 v] κ w:=by
 unfold stL stL stL
 simp only [add_mk]
 refine st_b h rfl rfl ?_
 have h2:=h.setW (o:=0+0) (v := .int .i64 u) rfl (c2C0 x y u)
 refine st_b h2 rfl rfl ?_
 have h3:=h2.setW (o:=0+(0+1)) (v := .int .i64 v) rfl (c2C1 u y v)
 exact hk _ h3 (((Fm.refl w [b]).set (.inl (by simp))).set (.inl (by simp)))
theorem c58 {w:World} {s:Sl} {l:List Nat} {n:Nat} {K:Option Addr×(Int×Int)×Bool→PT} (hb:Arr .u8 w s l) (hl:By l) (hn:l.length<2^40) (hn2:n≤16)
  (h0:backZ l=none→∀w',Fm w w' []→K (none,(0,0),false) w')
  (h1:∀left,backZ l=some left→∀w' h,Fm w w' []→w.heap.size≤h→Blk w' h (rbC s ((left:Int)-n-n))→K (some ⟨h,0,none⟩,((tkB l n left:Nat),(tkB l n ((left:Int)-n):Nat)),decide (0≤(left:Int)-n-n)) w') :
  callP Tryd.prog 58 #[.slice s.a s.l s.c,.int .i64 n] [.c .P,.m [.I .i64,.I .i64],.c .B] K w:=by
 apply q58_ok
 unfold q58 nw
 have hlt:∀left,backZ l=some left→left<2^44:=by
  intro left h
  unfold backZ at h
  cases hg:l.getLast? with
  | none=>rw [hg] at h;cases h
  | some x =>
   rw [hg] at h
   simp only at h
   split at h
   ·cases h
   ·injection h with h
    have hx:x<256:=hl x (List.mem_of_getLast? hg)
    have hlg:x.log2<8:=(Nat.log2_lt (by assumption)).mpr hx
    omega
 have F1:Fm w (w.alloc (.cells ⟨z109⟩ 109)) []:=(Fm.refl w []).alloc
 have B1:Blk (w.alloc (.cells ⟨z109⟩ 109)) w.heap.size (c2C 0 0):=Blk.new.congr (by funext i;rcases i with _|_|i<;>simp [c2C,z109])
 refine c72 (hb.fr F1 (by simp)) hl hn ?_ ?_
 ·intro hbz
  refine ⟨fun _ => ?_,by simp⟩
  refine st2_c2 B1 ?_
  intro w2 B2 F2
  refine ld2_b (t := .I .i64) (u := .I .i64) (x:=(0:Int)) (y:=(0:Int)) B2 rfl rfl ?_
  exact h0 hbz w2 (F1.trans F2 (by simp))
 ·intro left hbz w2 F2 B2
  have hle:=hlt left hbz
  refine ⟨by simp,fun _ => ?_⟩
  have hs:(w.alloc (.cells ⟨z109⟩ 109)).heap.size=w.heap.size+1:=World.size_alloc _ _
  rw [hs] at B2
  have F12:=F1.trans F2 (by simp)
  simp only
  rw [hs]
  have hne:∀a,s.a=some a→l ≠ []→a.block≠w.heap.size+1:=by
   intro a ha hl2
   have:=hb.old hl2 a ha
   omega
  refine c59 B2 (hb.fr F12 (by simp)) hne hl (by omega) (by omega) (by omega) ?_
  intro w3 B3 F3
  have F13:Fm w w3 []:=F12.trans F3 (by simp)
  refine c59 B3 (hb.fr F13 (by simp)) hne hl (by omega) (by omega) (by omega) ?_
  intro w4 B4 F4
  have F14:Fm w w4 []:=F13.trans F4 (by simp)
  unfold drw
  refine ⟨_,rfl,?_⟩
  simp only [add_mk]
  refine ld_b (t := .I .i64) (x:=(left:Int)-n-n) B4.drew rfl ?_
  have B1':Blk w4.drew w.heap.size (c2C 0 0):=(((B1.fr F2 (by simp)).fr F3 (by simp)).fr F4 (by simp)).drew
  refine st2_c2 B1' ?_
  intro w5 B5 F5
  have F15:Fm w w5 []:=F14.drew.trans F5 (by simp)
  have B6:Blk w5 (w.heap.size+1) (rbC s ((left:Int)-n-n)):=B4.drew.fr F5 (by simp)
  refine ⟨?_,?_⟩
  ·intro f hf
   simp only [List.mem_cons,List.not_mem_nil,or_false] at hf
   subst hf
   exact B6.cell 1
  ·refine ld2_b (t := .I .i64) (u := .I .i64) (x:=((tkB l n left:Nat):Int)) (y:=((tkB l n ((left:Int)-n):Nat):Int)) B5 rfl rfl ?_
   exact h1 left hbz w5 _ F15 (by omega) B6
abbrev Cell3:=Nat×Nat×Int
def cell3 (c:Cell3):List Value := [.int .i64 (c.1:Nat),.int .i64 (c.2.1:Nat),.int .i64 c.2.2]
def flat3 (tab:List Cell3):List Value:=tab.flatMap cell3
theorem flat3_len (tab:List Cell3):(flat3 tab).length=tab.length*3:=by
 induction tab with
 | nil=>rfl
 | cons c r ih =>
  rw [show flat3 (c::r)=cell3 c++flat3 r from rfl,List.length_append,ih]
  simp [cell3];omega
theorem flat3_get (tab:List Cell3) (i j:Nat) (hi:i<tab.length) (hj:j<3):(flat3 tab)[i*3+j]? = (cell3 tab[i])[j]? := by
 induction tab generalizing i with
 | nil=>simp at hi
 | cons c r ih =>
  simp only [flat3,List.flatMap_cons] at ih ⊢
  cases i with
  | zero =>
   rw [Nat.zero_mul,Nat.zero_add,List.getElem?_append_left (by simp [cell3];exact hj)]
   rfl
  | succ i =>
   rw [List.getElem?_append_right (by simp [cell3];omega)]
   have:=ih i (by simpa using hi)
   simp only [cell3,List.length_cons,List.length_nil] at this ⊢
   rw [show (i+1)*3+j-(0+1+1+1)=i*3+j by omega,this]
   simp
theorem ld3_b {w:World} {b o:Nat} {f:Cells} {x y z:Int} {κ:Int×Int×Int→PT} (h:Blk w b f) (hx:f o=some (.int .i64 x)) (hy:f (o+1)=some (.int .i64 y)) (hz:f (o+2)=some (.int .i64 z)) (hk:κ (x,y,z) w) :
  ldL [.I .i64,.I .i64,.I .i64] ⟨b,o,none⟩ 0 κ w:=by
 unfold ldL ldL ldL
 simp only [add_mk,Nat.add_zero]
 exact ld_b (t := .I .i64) h hx (ld_b (t := .I .i64) h hy (ld_b (t := .I .i64) h hz hk))
theorem tab_ld {w:World} {s:Sl} {tab:List Cell3} {i:Int} (n:Nat) {κ:Addr→PT} (h:Vec 3 w s (flat3 tab)) (hi:i=n) (hn:n<tab.length)
  (hk:∀b o,(∃f,Blk w b f∧f o=some (.int .i64 (tab[n].1:Nat))∧f (o+1)=some (.int .i64 (tab[n].2.1:Nat))∧f (o+2)=some (.int .i64 tab[n].2.2))→κ ⟨b,o,none⟩ w):ixS 3 s i κ w:=by
 have h1:=h.len
 rw [flat3_len] at h1
 cases ha:s.a with
 | none=>have:=h.non ha;have:=h.cap;omega
 | some a =>
  obtain ⟨e1,e2,f,h3,h4,h5⟩:=h.blk a ha
  obtain ⟨ab,ao,asp⟩:=a
  simp only at e1 e2 h3
  subst e1 e2
  refine ixS_b ha hi (by omega) ?_
  rw [Nat.zero_add]
  refine hk _ _ ⟨f,h3,?_,?_,?_⟩
  ·rw [h4 _ (by rw [flat3_len];omega)];have:=flat3_get tab n 0 hn (by omega);simpa [cell3] using this
  ·rw [h4 _ (by rw [flat3_len];omega)];have:=flat3_get tab n 1 hn (by omega);simpa [cell3] using this
  ·rw [h4 _ (by rw [flat3_len];omega)];have:=flat3_get tab n 2 hn (by omega);simpa [cell3] using this
def c3C (x y z:Int):Cells:=fun i=>match i with
 | 0=>some (.int .i64 x)
 | 1=>some (.int .i64 y)
 | 2=>some (.int .i64 z)
 | _=>none
theorem nw3 {w:World} {x y z:Int} {κ:Addr→PT} (hk:∀w',Fm w w' []→w'.heap.size=w.heap.size+1→Blk w' w.heap.size (c3C x y z)→κ ⟨w.heap.size,0,none⟩ w') :
  nw z113 113 (fun p=>stL p 0 [.int .i64 x,.int .i64 y,.int .i64 z] (κ p)) w:=by
 unfold nw stL stL stL stL
 simp only [add_mk]
 have F1:Fm w (w.alloc (.cells ⟨z113⟩ 113)) []:=(Fm.refl w []).alloc
 have B1:Blk (w.alloc (.cells ⟨z113⟩ 113)) w.heap.size (c3C 0 0 0):=Blk.new.congr (by funext i;rcases i with _|_|_|i<;>simp [c3C,z113])
 refine st_b B1 rfl rfl ?_
 have B2:=B1.setW (o:=0+0) (v := .int .i64 x) (g:=c3C x 0 0) rfl (by funext i;rcases i with _|_|_|i<;>simp [updC,c3C])
 refine st_b B2 rfl rfl ?_
 have B3:=B2.setW (o:=0+(0+1)) (v := .int .i64 y) (g:=c3C x y 0) rfl (by funext i;rcases i with _|_|_|i<;>simp [updC,c3C])
 refine st_b B3 rfl rfl ?_
 have B4:=B3.setW (o:=0+(0+1+1)) (v := .int .i64 z) (g:=c3C x y z) rfl (by funext i;rcases i with _|_|_|i<;>simp [updC,c3C])
 exact hk _ (((F1.set (.inr (Nat.le_refl _))).set (.inr (Nat.le_refl _))).set (.inr (Nat.le_refl _))) (by simp) B4
def twoZ (l:List Nat) (tab:List Cell3) (limit:Nat) (left:Int) (a b:Nat) (out:List Nat):Option (List Nat) :=
 if hz:limit<out.length+1 then none else
  match tab[a]? with
  | none=>none
  | some c =>
   if left-(c.2.1:Nat)<0 then
    match tab[b]? with
    | none=>none
    | some d=>if limit<out.length+2 then none else some (out ++ [c.1%256] ++ [d.1%256])
   else if c.2.2+(tkB l c.2.1 left:Nat)<0∨(tab.length:Int)≤c.2.2+(tkB l c.2.1 left:Nat) then none
   else twoZ l tab limit (left-(c.2.1:Nat)) b (c.2.2+(tkB l c.2.1 left:Nat)).toNat (out ++ [c.1%256])
termination_by limit+1-out.length
decreasing_by
 simp only [List.length_append,List.length_cons,List.length_nil]
 omega
def twoStatesZ (l:List Nat) (tab:List Cell3) (n limit:Nat):Option (List Nat) :=
 match backZ l with
 | none=>none
 | some left=>if 0≤(left:Int)-n-n then twoZ l tab limit ((left:Int)-n-n) (tkB l n left) (tkB l n ((left:Int)-n)) [] else none
theorem backZ_lt {l:List Nat} {left:Nat} (hl:By l) (h:backZ l=some left):left<8*l.length:=by
 unfold backZ at h
 cases hg:l.getLast? with
 | none=>rw [hg] at h;cases h
 | some x =>
  rw [hg] at h
  simp only at h
  split at h
  ·cases h
  ·injection h with h
   have hx:x<256:=hl x (List.mem_of_getLast? hg)
   have hlg:x.log2<8:=(Nat.log2_lt (by assumption)).mpr hx
   have:l ≠ []:=by intro e;subst e;simp at hg
   have:=List.length_pos_iff.mpr this
   omega
theorem By.app {a b:List Nat} (ha:By a) (hb:By b):By (a++b):=by
 intro x hx
 rcases List.mem_append.mp hx with h|h
 ·exact ha x h
 ·exact hb x h
theorem c60 {w:World} {s s1:Sl} {l:List Nat} {tab:List Cell3} {n limit:Nat} {K:Sl×Bool→PT} (hb:Arr .u8 w s l) (hl:By l) (hn:l.length<2^40) (ht:Vec 3 w s1 (flat3 tab)) (hn2:n≤16) (htl:2^n≤tab.length) (htl2:tab.length≤2^20) (hlim:limit≤2^30)
  (hc:∀c∈tab,c.1<2^32∧c.2.1≤16 ∧ -4294967296≤c.2.2∧c.2.2<4294967296)
  (h0:twoStatesZ l tab n limit=none→∀w' s' l',Fm w w' []→Arr .u8 w' s' l'→By l'→l'.length≤limit+2→K (s',false) w')
  (h1:∀out,twoStatesZ l tab n limit=some out→∀w' s',Fm w w' []→Arr .u8 w' s' out→By out→(∀x∈s'.bs,w.heap.size≤x)→K (s',true) w') :
  callP Tryd.prog 60 #[.slice s.a s.l s.c,.slice s1.a s1.l s1.c,.int .i64 n,.int .i64 limit] [.c .S,.c .B] K w:=by
 apply q60_ok
 unfold q60
 have nilA:∀w':World,Arr .u8 w' ⟨none,0,0⟩ []:=fun w'=>⟨rfl,Nat.le_refl _,fun _=>rfl,by simp⟩
 have nilB:By []:=fun x hx=>by cases hx
 have h00:twoStatesZ l tab n limit=none→∀w',Fm w w' []→K (⟨none,0,0⟩,false) w':=fun h w' F=>h0 h w' _ [] F (nilA w') nilB (by simp)
 refine c58 hb hl hn hn2 ?_ ?_
 ·intro hbz w1 F1
  have F2:Fm w (w1.alloc (.cells ⟨z109⟩ 109)) []:=F1.alloc
  have B2:Blk (w1.alloc (.cells ⟨z109⟩ 109)) w1.heap.size (c2C 0 0):=Blk.new.congr (by funext i;rcases i with _|_|i<;>simp [c2C,z109])
  unfold nw
  refine st2_c2 B2 ?_
  intro w3 B3 F3
  refine ⟨fun _ => ?_,by simp⟩
  refine h00 (by unfold twoStatesZ;rw [hbz]) w3 (F2.trans F3 ?_)
  intro x hx;right;simp at hx;subst hx;exact F1.size
 ·intro left hbz w1 h F1 hh B1
  have hlt:=backZ_lt hl hbz
  have F2:Fm w (w1.alloc (.cells ⟨z109⟩ 109)) []:=F1.alloc
  have B2:Blk (w1.alloc (.cells ⟨z109⟩ 109)) w1.heap.size (c2C 0 0):=Blk.new.congr (by funext i;rcases i with _|_|i<;>simp [c2C,z109])
  unfold nw
  refine st2_c2 B2 ?_
  intro w3 B3 F3
  have hs1:=F1.size
  have F03:Fm w w3 []:=F2.trans F3 (by intro x hx;right;simp at hx;subst hx;exact hs1)
  have hhl:=B1.lt
  have B1':Blk w3 h (rbC s ((left:Int)-n-n)):=(B1.alloc).fr F3 (by simp;omega)
  have hp6:=B3.lt
  generalize hp6e:w1.heap.size=p6 at *
  refine cnd_nd ?_ ?_
  ·intro hc2
   refine h00 ?_ w3 F03
   unfold twoStatesZ
   rw [hbz]
   simp only
   rw [if_neg hc2]
  ·intro hc2
   have hz:twoStatesZ l tab n limit=twoZ l tab limit ((left:Int)-n-n) (tkB l n left) (tkB l n ((left:Int)-n)) []:=by
    unfold twoStatesZ
    rw [hbz]
    simp only
    rw [if_pos hc2]
   rw [hz] at h0 h00 h1
   refine ⟨fun x w'=>∃(lf:Int) (a b:Nat) (out:List Nat) (turn:Nat),x.2=(turn:Int)∧turn<2∧Vec 1 w' x.1 (bytes .u8 out)∧(∀y∈x.1.bs,w3.heap.size≤y)∧By out∧Fm w3 w' [h,p6] ∧
     Blk w' h (rbC s lf)∧Blk w' p6 (if turn=0 then c2C a b else c2C b a)∧a<tab.length∧b<tab.length∧0≤lf∧lf<2^50∧out.length≤limit ∧
     twoZ l tab limit lf a b out=twoZ l tab limit ((left:Int)-n-n) (tkB l n left) (tkB l n ((left:Int)-n)) [],fun x _=>limit+1-x.1.l,?_,?_⟩
   ·refine ⟨_,_,_,[],0,rfl,by omega,Vec.nil,by simp [Sl.bs],nilB,Fm.refl _ _,B1',B3,?_,?_,hc2,by omega,Nat.zero_le _,rfl⟩
    ·exact Nat.lt_of_lt_of_le (tkB_lt l n left) htl
    ·exact Nat.lt_of_lt_of_le (tkB_lt l n _) htl
   ·rintro ⟨xs,xt⟩ w' ⟨lf,a,b,out,turn,hxt,htn,hv,hvb,hob,F,BH,BP,ha,hb2,hl0,hl1,hol,heq⟩
    simp only
    simp only at hxt hv hvb
    subst hxt
    have F0:Fm w w' []:=F03.trans F (by intro x hx;right;simp at hx;rcases hx with rfl|rfl<;>omega)
    have hsz:=F.size
    have htb:∀y∈s1.bs,y ∉ [h,p6]:=by
     intro y hy
     have:=ht.lt y hy
     simp
     omega
    have hT:Vec 3 w' s1 (flat3 tab):=ht.fr F0 (by simp)
    have hA:Arr .u8 w' s l:=hb.fr F0 (by simp)
    have hlen:=hv.len
    simp only [bytes,List.length_map,Nat.mul_one] at hlen
    rw [twoZ] at heq
    have ga:tab[a]? = some tab[a]:=List.getElem?_eq_getElem ha
    have gb:tab[b]? = some tab[b]:=List.getElem?_eq_getElem hb2
    rw [ga] at heq
    simp only at heq
    obtain ⟨ca1,ca2,ca3,ca4⟩:=hc _ (List.getElem_mem ha)
    obtain ⟨cb1,cb2,cb3,cb4⟩:=hc _ (List.getElem_mem hb2)
    unfold q60_L0
    refine ixA_b (k:=turn) rfl htn ?_
    have BPt:(if turn=0 then c2C (a:Int) (b:Int) else c2C (b:Int) (a:Int)) (0+turn*1)=some (.int .i64 (a:Int)):=by
     rcases (show turn=0∨turn=1 by omega) with rfl|rfl<;>rfl
    have BPu:(if turn=0 then c2C (a:Int) (b:Int) else c2C (b:Int) (a:Int)) (0+(1-turn)*1)=some (.int .i64 (b:Int)):=by
     rcases (show turn=0∨turn=1 by omega) with rfl|rfl<;>rfl
    refine ld_b (t := .I .i64) (x:=(a:Int)) BP BPt ?_
    refine tab_ld a hT rfl ha ?_
    rintro tb to ⟨f,BT,g1,g2,g3⟩
    refine ld3_b BT g1 g2 g3 ?_
    refine nw3 ?_
    intro w4 F4 hs4 B4
    refine ld_b (t := .I .i64) (x:=((tab[a].1:Nat):Int)) B4 rfl ?_
    have hv4:=hv.fr F4 (by simp)
    have ew:IntKind.u8.wrap ((tab[a].1:Nat):Int)=((tab[a].1%256:Nat):Int):=wrap_u (k := .u8) rfl _
    rw [ew]
    refine app_1 hv4 rfl (by simp only;omega) ?_
    intro s16 w5 hv5 F5 hb5
    have ebs:bytes .u8 out ++ [.int .i64 0]=bytes .u8 out ++ [.int .i64 0]:=rfl
    rw [show bytes IntKind.u8 out ++ [Value.int .u8 ((tab[a].1%256:Nat):Int)]=bytes .u8 (out ++ [tab[a].1%256]) by simp [bytes]] at hv5
    have hlen5:=hv5.len
    simp only [bytes,List.length_map,Nat.mul_one,List.length_append,List.length_cons,List.length_nil] at hlen5
    have hob5:By (out ++ [tab[a].1%256]):=hob.app (by intro x hx;simp at hx;omega)
    have hsb:∀y∈xs.bs,y<w'.heap.size:=hv.lt
    have F35:Fm w3 w5 [h,p6]:=(F.trans F4 (by simp)).trans F5 (by intro x hx;right;exact hvb x hx)
    have F05:Fm w w5 []:=F03.trans F35 (by intro x hx;right;simp at hx;rcases hx with rfl|rfl<;>omega)
    have hb16:∀y∈s16.bs,w3.heap.size≤y:=by
     intro y hy
     rcases hb5 y hy with h6|h6
     ·exact hvb y h6
     ·omega
    have hb16n:∀y∈s16.bs,y≠w'.heap.size:=by
     intro y hy
     rcases hb5 y hy with h6|h6
     ·have:=hsb y h6;omega
     ·omega
    have BH5:Blk w5 h (rbC s lf):=(BH.fr F4 (by simp)).fr F5 (by intro e;have:=hvb h e;omega)
    have BP5:Blk w5 p6 (if turn=0 then c2C a b else c2C b a):=(BP.fr F4 (by simp)).fr F5 (by intro e;have:=hvb p6 e;omega)
    have B45:Blk w5 w'.heap.size (c3C (tab[a].1:Nat) (tab[a].2.1:Nat) tab[a].2.2):=B4.fr F5 (by intro e;have:=hsb _ e;omega)
    refine cnd_d ?_ ?_
    ·intro hc3
     rw [dif_pos (by omega)] at heq
     exact h00 heq.symm w5 F05
    ·intro hc3
     rw [dif_neg (by omega)] at heq
     simp only [add_mk]
     refine ld_b (t := .I .i64) (x:=((tab[a].2.1:Nat):Int)) B45 rfl ?_
     refine c59 BH5 (hb.fr F05 (by simp)) ?_ hl (by omega) (by omega) (by omega) ?_
     ·intro y hy hne
      have:=hb.old hne y hy
      omega
     intro w6 B6 F6
     have F36:Fm w3 w6 [h,p6]:=F35.trans F6 (by intro x hx;simp at hx;subst hx;left;simp)
     have F06:Fm w w6 []:=F03.trans F36 (by intro x hx;right;simp at hx;rcases hx with rfl|rfl<;>omega)
     have hne46:w'.heap.size≠h:=by omega
     have BP6:Blk w6 p6 (if turn=0 then c2C a b else c2C b a):=BP5.fr F6 (by simp;omega)
     have B46:Blk w6 w'.heap.size (c3C (tab[a].1:Nat) (tab[a].2.1:Nat) tab[a].2.2):=B45.fr F6 (by simp;omega)
     have hv6:Vec 1 w6 s16 (bytes .u8 (out ++ [tab[a].1%256])):=hv5.fr F6 (by intro y hy;have:=hb16 y hy;simp;omega)
     refine ⟨_,rfl,?_⟩
     simp only [add_mk]
     refine ld_b (t := .I .i64) (x:=lf-(tab[a].2.1:Nat)) B6 rfl ?_
     refine cnd_d ?_ ?_
     ·intro hc4
      rw [if_pos hc4,gb] at heq
      simp only at heq
      refine ixA_b (k:=1-turn) (by rw [wI64 (by omega) (by omega)];omega) (by omega) ?_
      refine ld_b (t := .I .i64) (x:=(b:Int)) BP6 BPu ?_
      refine tab_ld b (ht.fr F06 (by simp)) rfl hb2 ?_
      rintro tb to ⟨f,BT,g1,g2,g3⟩
      refine ld_b (t := .I .i64) (x:=((tab[b].1:Nat):Int)) BT g1 ?_
      have ew:IntKind.u8.wrap ((tab[b].1:Nat):Int)=((tab[b].1%256:Nat):Int):=wrap_u (k := .u8) rfl _
      rw [ew]
      refine app_1 hv6 rfl (by omega) ?_
      intro s26 w7 hv7 F7 hb7
      rw [show bytes IntKind.u8 (out ++ [tab[a].1%256]) ++ [Value.int .u8 ((tab[b].1%256:Nat):Int)]=bytes .u8 (out ++ [tab[a].1%256] ++ [tab[b].1%256]) by simp [bytes]] at hv7
      have hlen7:=hv7.len
      simp only [bytes,List.length_map,Nat.mul_one,List.length_append,List.length_cons,List.length_nil] at hlen7
      have hob7:By (out ++ [tab[a].1%256] ++ [tab[b].1%256]):=hob5.app (by intro x hx;simp at hx;omega)
      have F07:Fm w w7 []:=F06.trans F7 (by intro x hx;right;have:=hb16 x hx;omega)
      by_cases hc5:limit<out.length+2
      ·rw [if_pos hc5] at heq
       have:=h0 heq.symm w7 s26 _ F07 hv7.arr hob7 (by simp;omega)
       rw [show decide ((s26.l:Int)≤(limit:Int))=false by simp;omega]
       exact this
      ·rw [if_neg hc5] at heq
       rw [show decide ((s26.l:Int)≤(limit:Int))=true by simp;omega]
       refine h1 _ heq.symm w7 s26 F07 hv7.arr hob7 ?_
       intro x hx
       rcases hb7 x hx with h6|h6
       ·have:=hb16 x h6;omega
       ·have:=F06.size;omega
     ·intro hc4
      rw [if_neg hc4] at heq
      refine ld_b (t := .I .i64) (x:=tab[a].2.2) B46 rfl ?_
      refine ixA_b (k:=turn) rfl htn ?_
      have htk:=tkB_lt l tab[a].2.1 lf
      have hpw:2^tab[a].2.1≤2^16:=Nat.pow_le_pow_right (by omega) ca2
      have ew2:IntKind.i64.wrap (tab[a].2.2+((tkB l tab[a].2.1 lf:Nat):Int))=tab[a].2.2+((tkB l tab[a].2.1 lf:Nat):Int):=wI64 (by omega) (by omega)
      rw [ew2]
      generalize hV:tab[a].2.2+((tkB l tab[a].2.1 lf:Nat):Int)=v at *
      refine st_b BP6 (by rw [BPt];rfl) rfl ?_
      have BP7:=BP6.setW (o:=0+turn*1) (v := .int .i64 v) (g:=if turn=0 then c2C v b else c2C b v) (by rw [BPt];rfl) (by
       rcases (show turn=0∨turn=1 by omega) with rfl|rfl
       ·exact c2C0 _ _ _
       ·exact c2C1 _ _ _)
      have BPt7:(if turn=0 then c2C v (b:Int) else c2C (b:Int) v) (0+turn*1)=some (.int .i64 v):=by
       rcases (show turn=0∨turn=1 by omega) with rfl|rfl<;>rfl
      have F37:Fm w3 (w6.setCell ⟨p6,0+turn*1,none⟩ (.int .i64 v)) [h,p6]:=F36.set (.inl (by simp))
      have F67:Fm w6 (w6.setCell ⟨p6,0+turn*1,none⟩ (.int .i64 v)) [p6]:=(Fm.refl w6 [p6]).set (.inl (by simp))
      have F07:Fm w (w6.setCell ⟨p6,0+turn*1,none⟩ (.int .i64 v)) []:=F06.set (.inr (by simp only;omega))
      generalize w6.setCell ⟨p6,0+turn*1,none⟩ (.int .i64 v)=w7 at *
      refine ixA_b (k:=turn) rfl htn ?_
      refine ld_b (t := .I .i64) (x:=v) BP7 BPt7 ?_
      refine cnd_d ?_ ?_
      ·intro hc5
       rw [if_pos (.inl hc5)] at heq
       exact h00 heq.symm w7 F07
      ·intro hc5
       refine ixA_b (k:=turn) rfl htn ?_
       refine ld_b (t := .I .i64) (x:=v) BP7 BPt7 ?_
       have hsl:s1.l=tab.length:=by have:=ht.len;rw [flat3_len] at this;omega
       rw [hsl]
       refine cnd_d ?_ ?_
       ·intro hc6
        rw [if_pos (.inr hc6)] at heq
        exact h00 heq.symm w7 F07
       ·intro hc6
        rw [if_neg (by omega)] at heq
        have hvn:((v.toNat:Nat):Int)=v:=by omega
        refine ⟨⟨lf-(tab[a].2.1:Nat),b,v.toNat,out ++ [tab[a].1%256],1-turn,?_,by omega,?_,hb16,hob5,F37,?_,?_,hb2,by omega,by omega,by omega,by simp;omega,heq⟩,?_⟩
        ·rw [wI64 (by omega) (by omega)];omega
        ·exact hv6.fr F67 (by intro y hy;have:=hb16 y hy;simp;omega)
        ·exact B6.fr F67 (by simp;omega)
        ·rw [hvn]
         rcases (show turn=0∨turn=1 by omega) with rfl|rfl
         ·exact BP7
         ·exact BP7
        ·omega
def arrC (k:IntKind) (n:Nat) (f:Nat→Int):Cells:=fun i=>if i<n then some (.int k (f i)) else none
def updF (f:Nat→Int) (o:Nat) (v:Int):Nat→Int:=fun i=>if i=o then v else f i
theorem arrC_get {k:IntKind} {n i:Nat} {f:Nat→Int} (h:i<n):arrC k n f i=some (.int k (f i)):=if_pos h
theorem arrC_upd {k:IntKind} {n i:Nat} {f:Nat→Int} {v:Int} (h:i<n):updC (arrC k n f) i (.int k v)=arrC k n (updF f i v):=by
 funext j
 unfold updC arrC updF
 by_cases e:j=i
 ·subst e;simp [h]
 ·simp [e]
theorem zrep1 (v:Value) (n i:Nat):(zrep [v] n)[i]? = if i<n then some v else none:=by
 split
 ·rename_i h
  rw [Array.getElem?_eq_getElem (by rw [zrep_size];simpa using h)]
  simp [zrep,Nat.mod_one]
 ·rename_i h
  rw [Array.getElem?_eq_none (by rw [zrep_size];simp;omega)]
theorem mks1 {w:World} {k:IntKind} {v l c:Int} {n bytes:Nat} {T:TypeId} {κ:Sl→PT} (hl:l=n) (hc:c=n) (hn:n*bytes≤2^47)
  (hk:∀w',Fm w w' []→w'.heap.size=w.heap.size+1→Blk w' w.heap.size (arrC k n fun _=>v)→κ ⟨some ⟨w.heap.size,0,none⟩,n,n⟩ w'):mks [.int k v] T bytes l c κ w:=by
 refine ⟨n,n,hl,hc,Nat.le_refl _,hn,hk _ (Fm.refl w []).alloc (World.size_alloc _ _) (Blk.new.congr ?_)⟩
 funext i
 exact zrep1 _ _ _
theorem ixS1 {w:World} {b l c k:Nat} {i:Int} {κ:Addr→PT} (hi:i=k) (hk:k<l) (h:κ ⟨b,k,none⟩ w):ixS 1 ⟨some ⟨b,0,none⟩,l,c⟩ i κ w:=by
 refine ixS_b rfl hi hk ?_
 rw [Nat.zero_add,Nat.mul_one]
 exact h
theorem Vec.ldI {w:World} {s:Sl} {l:List Int} {i:Int} (n:Nat) {κ:Addr→PT} (h:Vec 1 w s (ints l)) (hi:i=n) (hn:n<l.length) (hk:∀p,w.cell? p=some (.int .i64 l[n])→κ p w):ixS 1 s i κ w:=by
 have h1:=h.len
 rw [ints_len,Nat.mul_one] at h1
 cases ha:s.a with
 | none=>have:=h.non ha;have:=h.cap;omega
 | some a =>
  obtain ⟨e1,e2,f,h3,h4,h5⟩:=h.blk a ha
  obtain ⟨ab,ao,asp⟩:=a
  simp only at e1 e2 h3
  subst e1 e2
  refine ixS_b ha hi (by omega) (hk _ ?_)
  rw [Nat.zero_add,Nat.mul_one,h3.cell,h4 n (by rw [ints_len];exact hn)]
  simp [ints,hn]
def muZ (size a:Nat):Nat:=((size-a)*(if size=32 then 7 else 3))%size
def stepOf (size:Nat):Nat:=size/2+size/8+3
theorem muZ_step (size a:Nat) (hs:size=32∨size=64) (ha:a<size) (h0:a≠0):muZ size a=muZ size ((a+stepOf size)%size)+1:=by
 have h32:∀a:Fin 32,a.val≠0→muZ 32 a.val=muZ 32 ((a.val+stepOf 32)%32)+1:=by decide
 have h64:∀a:Fin 64,a.val≠0→muZ 64 a.val=muZ 64 ((a.val+stepOf 64)%64)+1:=by decide
 rcases hs with rfl|rfl
 ·exact h32 ⟨a,ha⟩ h0
 ·exact h64 ⟨a,ha⟩ h0
def nxtF (size e:Nat):Nat→Nat→Nat
 | 0,a=>a
 | m+1,a=>if a<e then a else nxtF size e m ((a+stepOf size)%size)
def nxtZ (size e a:Nat):Nat:=nxtF size e (muZ size ((a+stepOf size)%size)) ((a+stepOf size)%size)
theorem nxtF_lt {size e m a:Nat} (h:a<e):nxtF size e m a=a:=by
 cases m with
 | zero=>rfl
 | succ m=>rw [nxtF,if_pos h]
def lowZ:List Int→Nat→Nat→(Nat→Int)→(Nat→Int)×Nat
 | [],_,e,f=>(f,e)
 | c::r,i,e,f=>if c = -1∧0<e then lowZ r (i+1) (e-1) (updF f (e-1) i) else lowZ r (i+1) e f
def symsZ:List Int→Nat→List Nat
 | [],_ => []
 | c::r,i=>List.replicate c.toNat i++symsZ r (i+1)
def layZ (size e:Nat):List Nat→Nat→(Nat→Int)→Option ((Nat→Int)×Nat)
 | [],a,f=>some (f,a)
 | s::r,a,f=>if e≤a then none else layZ size e r (nxtZ size e a) (updF f a s)
def spreadZ (cs:List Int) (size:Nat) (f0:Nat→Int):Option ((Nat→Int)×Nat) :=
 layZ size (lowZ cs 0 size f0).2 (symsZ cs 0) 0 (lowZ cs 0 size f0).1
theorem drop_cons {α:Type} {l:List α} {i:Nat} (h:i<l.length):l.drop i=l[i]::l.drop (i+1):=by
 rw [List.drop_eq_getElem_cons h]
theorem c75 {w:World} {s:Sl} {cs:List Int} {t:Nat} {K:Sl→PT} (hv:Vec 1 w s (ints cs)) (ht:t=5∨t=6) (hn:cs.length≤2^20) (hc:∀c∈cs, -1≤c∧c≤2^20)
  (h0:spreadZ cs (2^t) (fun _ => -1)=none→∀w',Fm w w' []→K ⟨none,0,0⟩ w')
  (h1:∀f a,spreadZ cs (2^t) (fun _ => -1)=some (f,a)→∀w' b,Fm w w' []→w.heap.size≤b→Blk w' b (arrC .i64 (2^t) f)→K ⟨some ⟨b,0,none⟩,2^t,2^t⟩ w') :
  callP Tryd.prog 75 #[.slice s.a s.l s.c,.int .i64 t] [.c .S] K w:=by
 apply q75_ok
 unfold q75
 have hsz:2^t=32∨2^t=64:=by rcases ht with rfl|rfl<;>simp
 have e1:shlI .i64 1 ((t:Nat):Int)=((2^t:Nat):Int):=by rcases ht with rfl|rfl<;>rfl
 have hvl:s.l=cs.length:=by have:=hv.len;rw [ints_len] at this;omega
 unfold q75_J11 q75_J10
 rw [e1]
 generalize hS:2^t=size at *
 have e2:quoI .i64 (size:Int) 2=((size/2:Nat):Int):=quoI_nat .i64 size 2 (by simp only [IntKind.bits];omega)
 have e3:quoI .i64 (size:Int) 8=((size/8:Nat):Int):=quoI_nat .i64 size 8 (by simp only [IntKind.bits];omega)
 have e5:IntKind.i64.wrap (IntKind.i64.wrap (((size/2:Nat):Int)+((size/8:Nat):Int))+3)=((stepOf size:Nat):Int):=by
  rw [wI64 (x:=((size/2:Nat):Int)+_) (by omega) (by omega),wI64 (by omega) (by omega)];simp [stepOf]
 have estep:∀a:Nat,a<size→Int.tmod (IntKind.i64.wrap ((a:Int)+((stepOf size:Nat):Int))) (size:Int)=(((a+stepOf size)%size:Nat):Int):=by
  intro a ha
  have:stepOf size<100:=by unfold stepOf;omega
  rw [wI64 (by omega) (by omega)]
  rfl
 refine ⟨by omega,mks1 (n:=size) rfl rfl (by omega) ?_⟩
 intro w1 F1 hs1 B1
 generalize hbe:w.heap.size=b at *
 refine ⟨fun _ w'=>Fm w1 w' [b]∧Blk w' b (arrC .i64 size fun _ => -1),?_,?_⟩
 ·rintro _ w2 ⟨F2,B2⟩
  have F02:Fm w w2 []:=F1.trans F2 (by intro x hx;right;simp at hx;omega)
  have hbl:=B2.lt
  refine ⟨fun x w'=>Fm w w' []∧∃(e:Nat) (f:Nat→Int),x=((e:Nat):Int)-1∧e≤size∧Blk w' b (arrC .i64 size f)∧(f,e)=lowZ cs 0 size fun _ => -1,?_,?_⟩
  ·rintro x w3 ⟨F3,e,f,rfl,he,B3,hlow⟩
   have hlow1:(lowZ cs 0 size fun _ => -1).1=f:=by rw [←hlow]
   have hlow2:(lowZ cs 0 size fun _ => -1).2=e:=by rw [←hlow]
   unfold spreadZ at h0 h1
   rw [hlow1,hlow2] at h0 h1
   refine ⟨by decide,by decide,?_⟩
   refine ⟨fun _ w'=>∃f' a',Fm w w' []∧layZ size e (symsZ cs 0) 0 f=some (f',a')∧Blk w' b (arrC .i64 size f'),?_,?_⟩
   ·rintro _ w4 ⟨f',a',F4,hl4,B4⟩
    exact h1 f' a' hl4 w4 b F4 (by omega) B4
   ·refine ⟨fun x w'=>∃(a i:Nat) (f':Nat→Int),x=((a:Int),(i:Int))∧i≤cs.length∧a<size∧Fm w w' []∧Blk w' b (arrC .i64 size f')∧layZ size e (symsZ (cs.drop i) i) a f'=layZ size e (symsZ cs 0) 0 f,
     fun x _=>cs.length-x.2.toNat,⟨0,0,f,rfl,by omega,by omega,F3,B3,rfl⟩,?_⟩
    rintro x w4 ⟨a,i,f4,rfl,hi,ha,F4,B4,hlay⟩
    unfold q75_L8
    simp only
    refine cnd_d ?_ ?_
    ·intro hc2
     have hi2:i<cs.length:=by omega
     have hcb:=hc _ (List.getElem_mem hi2)
     rw [drop_cons hi2,symsZ] at hlay
     refine ⟨fun x w'=>∃(a:Nat) (f':Nat→Int),x=(a:Int)∧a<size∧Fm w w' []∧Blk w' b (arrC .i64 size f')∧layZ size e (symsZ (cs.drop (i+1)) (i+1)) a f'=layZ size e (symsZ cs 0) 0 f,?_,?_⟩
     ·rintro x w5 ⟨a5,f5,rfl,ha5,F5,B5,hl5⟩
      unfold q75_J7
      simp only
      rw [wI64 (by omega) (by omega)]
      exact ⟨⟨a5,i+1,f5,by simp,by omega,ha5,F5,B5,hl5⟩,by omega⟩
     ·refine (hv.fr F4 (by simp)).ldI i rfl hi2 ?_
      intro p hp
      refine ld_c (t := .I .i64) hp ?_
      generalize cs[i]=c at *
      refine ⟨fun x w'=>∃(a k:Nat) (f':Nat→Int),x=((a:Int),(k:Int))∧k≤c.toNat∧a<size∧Fm w w' []∧Blk w' b (arrC .i64 size f') ∧
       layZ size e (List.replicate (c.toNat-k) i++symsZ (cs.drop (i+1)) (i+1)) a f'=layZ size e (symsZ cs 0) 0 f,fun x _=>c.toNat-x.2.toNat,⟨a,0,f4,rfl,by omega,ha,F4,B4,hlay⟩,?_⟩
      rintro x w5 ⟨a5,k,f5,rfl,hk,ha5,F5,B5,hl5⟩
      unfold q75_L6
      simp only
      have emax:maxI c 0=((c.toNat:Nat):Int):=by
       unfold maxI;split<;>omega
      rw [emax]
      refine cnd_d ?_ ?_
      ·intro hc3
       have hk2:k<c.toNat:=by omega
       rw [show c.toNat-k=(c.toNat-(k+1))+1 by omega,List.replicate_succ,List.cons_append,layZ] at hl5
       refine ⟨fun x w'=>∃(a':Nat),x=(a':Int)∧a'<size∧a'=nxtZ size e a5∧a5<e∧Fm w w' []∧Blk w' b (arrC .i64 size (updF f5 a5 i)),?_,?_⟩
       ·rintro x w6 ⟨a6,rfl,ha6,han,hlt,F6,B6⟩
        rw [if_neg (by omega), ←han] at hl5
        unfold q75_J4
        simp only
        rw [wI64 (by omega) (by omega)]
        exact ⟨⟨a6,k+1,_,by simp,by omega,ha6,F6,B6,hl5⟩,by omega⟩
       ·unfold q75_X5
        simp only
        refine cnd_d ?_ ?_
        ·intro hc4
         rw [if_pos (by omega)] at hl5
         exact h0 hl5.symm w5 F5
        ·intro hc4
         have hae:a5<e:=by omega
         refine ixS1 rfl ha5 ?_
         refine st_b B5 (by rw [arrC_get ha5];rfl) rfl ?_
         have B6:=B5.setW (o:=a5) (v := .int .i64 (i:Nat)) (by rw [arrC_get ha5];rfl) (arrC_upd ha5)
         have F6:Fm w (w5.setCell ⟨b,a5,none⟩ (.int .i64 (i:Nat))) []:=F5.set (.inr (by simp only;omega))
         generalize w5.setCell ⟨b,a5,none⟩ (.int .i64 (i:Nat))=w6 at *
         refine ⟨by omega,?_⟩
         simp only [e1,e2,e3,e5]
         rw [estep a5 ha5]
         have hm:(a5+stepOf size)%size<size:=Nat.mod_lt _ (by omega)
         refine ⟨fun x w'=>w'=w6∧∃a':Nat,x=(a':Int)∧a'<size∧nxtF size e (muZ size a') a'=nxtZ size e a5,fun x _=>muZ size x.toNat,⟨rfl,_,rfl,hm,rfl⟩,?_⟩
         rintro x w7 ⟨rfl,a7,rfl,ha7,hn7⟩
         unfold q75_L3
         simp only [e1,e2,e3,e5]
         refine cnd_d ?_ ?_
         ·intro hc5
          refine cnd_d ?_ (by intro h;omega)
          intro hc6
          refine cnd_d ?_ (by intro h;omega)
          intro hc7
          refine ⟨by omega,?_⟩
          rw [estep a7 ha7]
          have hm7:=muZ_step size a7 hsz ha7 (by omega)
          refine ⟨⟨rfl,_,rfl,Nat.mod_lt _ (by omega),?_⟩,?_⟩
          ·rw [←hn7,hm7,nxtF,if_neg (by omega)]
          ·simp only [Int.toNat_natCast];omega
         ·intro hc5
          refine ⟨a7,rfl,ha7,?_,hae,F6,B6⟩
          rw [←hn7,nxtF_lt (by omega)]
      ·intro hc3
       have hk2:k=c.toNat:=by omega
       rw [hk2,Nat.sub_self] at hl5
       exact ⟨a5,f5,rfl,ha5,F5,B5,hl5⟩
    ·intro hc2
     have hi2:i=cs.length:=by omega
     rw [hi2,List.drop_length] at hlay
     exact ⟨f4,a,F4,hlay.symm,B4⟩
  ·rw [wI64 (by omega) (by omega)]
   refine ⟨fun x w'=>Fm w w' []∧∃(e i:Nat) (f:Nat→Int),x=(((e:Nat):Int)-1,(i:Int))∧e≤size∧i≤cs.length∧Blk w' b (arrC .i64 size f)∧lowZ (cs.drop i) i e f=lowZ cs 0 size fun _ => -1,
    fun x _=>cs.length-x.2.toNat,⟨F02,size,0,_,rfl,Nat.le_refl _,Nat.zero_le _,B2,rfl⟩,?_⟩
   rintro x w3 ⟨F3,e,i,f,rfl,he,hi,B3,hlow⟩
   unfold q75_L2
   simp only
   refine cnd_d ?_ ?_
   ·intro hc2
    have hi2:i<cs.length:=by omega
    rw [drop_cons hi2,lowZ] at hlow
    refine joinP_id ?_
    refine (hv.fr F3 (by simp)).ldI i rfl hi2 ?_
    intro p hp
    refine ld_c (t := .I .i64) hp ?_
    unfold q75_J1
    simp only
    rw [wI64 (x:=(i:Int)+1) (by omega) (by omega)]
    refine cnd_d ?_ ?_
    ·intro hc3
     refine cnd_d ?_ ?_
     ·intro hc4
      have he0:0<e:=by omega
      rw [if_pos ⟨hc3,he0⟩] at hlow
      refine ixS1 (k:=e-1) (by omega) (by omega) ?_
      have hlt:e-1<size:=by omega
      refine st_b B3 (by rw [arrC_get hlt];rfl) rfl ?_
      have B4:=B3.setW (o:=e-1) (v := .int .i64 (i:Nat)) (by rw [arrC_get hlt];rfl) (arrC_upd hlt)
      rw [wI64 (by omega) (by omega)]
      exact ⟨⟨F3.set (.inr (by simp only;omega)),e-1,i+1,_,by simp;omega,by omega,by omega,B4,hlow⟩,by omega⟩
     ·intro hc4
      rw [if_neg (by omega)] at hlow
      exact ⟨⟨F3,e,i+1,f,by simp,he,by omega,B3,hlow⟩,by omega⟩
    ·intro hc3
     rw [if_neg (by omega)] at hlow
     exact ⟨⟨F3,e,i+1,f,by simp,he,by omega,B3,hlow⟩,by omega⟩
   ·intro hc2
    have hi2:i=cs.length:=by omega
    rw [hi2,List.drop_length] at hlow
    exact ⟨F3,e,f,rfl,he,B3,hlow⟩
 ·refine ⟨fun x w'=>∃(i:Nat) (f:Nat→Int),x=(i:Int)∧i≤size∧Fm w1 w' [b]∧Blk w' b (arrC .i64 size f)∧∀j,j<i→f j = -1,fun x _=>size-x.toNat,⟨0,_,rfl,Nat.zero_le _,Fm.refl _ _,B1,by simp⟩,?_⟩
  rintro x w2 ⟨i,f,rfl,hi,F2,B2,hf⟩
  unfold q75_L0
  simp only
  refine cnd_d ?_ ?_
  ·intro hc2
   have hi2:i<size:=by omega
   refine ixS1 rfl hi2 ?_
   refine st_b B2 (by rw [arrC_get hi2];rfl) rfl ?_
   have B3:=B2.setW (o:=i) (v := .int .i64 (-1)) (by rw [arrC_get hi2];rfl) (arrC_upd hi2)
   rw [wI64 (by omega) (by omega)]
   refine ⟨⟨i+1,_,by simp,by omega,F2.set (.inl (by simp)),B3,?_⟩,by omega⟩
   intro j hj
   unfold updF
   split
   ·rfl
   ·exact hf j (by omega)
  ·intro hc2
   have hi2:i=size:=by omega
   refine ⟨F2,B2.congr ?_⟩
   funext j
   unfold arrC
   split
   ·rw [hf j (by omega)]
   ·rfl
end Go.Sx
