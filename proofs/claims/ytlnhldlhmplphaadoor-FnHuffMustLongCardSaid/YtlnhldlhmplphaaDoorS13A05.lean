/- Lemmas for the proof: P07 P08 X1 X2 X3 X4 X5 X6 X7 X8 Y1 Y2 Y3 X9 X10 X11 X12 X13 X14 X15 X16. No conditions. -/
import Derived.Test.YtlnhldlhmplphaaDoorS13A04
set_option linter.unusedVariables false
set_option linter.unusedSimpArgs false
namespace Go.Sx
open Go Go.Proofs
set_option maxRecDepth 100000
def q142 (p0:Addr) (r1:(Int×Int)) (K2:Unit→PT):PT :=
 nw [(.int .i32 r1.1),(.int .u32 r1.2)] 210 fun (p3:Addr)=>drw<|ld (.I .u16) (Addr.add p0 2) fun (n4:Int)=>ld (.I .u32) (Addr.add p3 1) fun (n5:Int)=>req (0≤(16:Int))<|drw<|ld (.I .u16) (Addr.add p0 2) fun (n6:Int)=>req (0≤(andI .u32 (shrI .u32 (IntKind.wrap .u32 ((IntKind.wrap .u32 n4)+n5)) (16:Int)) (15:Int)))<|ld (.I .i32) p3 fun (n7:Int)=>drw<|ld .P p0 fun (o8:Option Addr)=>ld (.I .u16) (Addr.add p0 2) fun (n9:Int)=>callP Tryd.prog 157 #[(.pointer o8),(.int .u16 n9),(.int .u8 (IntKind.wrap .u8 (shrI .u32 (IntKind.wrap .u32 ((IntKind.wrap .u32 n4)+n5)) (16:Int))))] [] fun (r10:Unit)=>ld .S (Addr.add p0 1) fun (s11:Sl)=>ixS 1 s11 (IntKind.wrap .i32 ((IntKind.wrap .i32 (shrI .u16 n6 (andI .u32 (shrI .u32 (IntKind.wrap .u32 ((IntKind.wrap .u32 n4)+n5)) (16:Int)) (15:Int))))+n7)) fun (p12:Addr)=>ld (.I .u16) p12 fun (n13:Int)=>st (Addr.add p0 2) (.int .u16 n13)<|K2 ()
def h142:Hint:=⟨.e,.e⟩
theorem q142_eq (p0:Addr) (r1:(Int×Int)) (K2:Unit→PT):fnE Cx h142 [] Tryd.f142 [.pt p0,.v (.agg ⟨[(.int .i32 r1.1),(.int .u32 r1.2)]⟩)] K2=q142 p0 r1 K2:=by kernel_rfl
theorem q142_fnok:fnOk Tryd.f142 2=true:=by kernel_rfl
theorem q142_ok (p0:Addr) (r1:(Int×Int)) (K2:Unit→PT) {w:World} (h:q142 p0 r1 K2 w):Calls Tryd.prog 142 #[(.pointer (some p0)),(.agg ⟨[(.int .i32 r1.1),(.int .u32 r1.2)]⟩)] w fun e w'=>∃r,e = .returned (resMk [] r)∧K2 r w' :=
 of_eq Tryd.func142 q142_fnok (by kernel_rfl) (by kernel_rfl) (q142_eq p0 r1 K2) h
def q143 (p0:Addr) (n1:Int) (K2:Unit→PT):PT :=
 ld .P p0 fun (o3:Option Addr)=>callP Tryd.prog 141 #[(.pointer o3)] [] fun (r4:Unit)=>drw<|ld .P p0 fun (o5:Option Addr)=>ld (.I .u16) (Addr.add p0 2) fun (n6:Int)=>callP Tryd.prog 157 #[(.pointer o5),(.int .u16 n6),(.int .u8 n1)] [] fun (r7:Unit)=>ld .P p0 fun (o8:Option Addr)=>callP Tryd.prog 158 #[(.pointer o8)] [] fun (r9:Unit)=>K2 ()
def h143:Hint:=⟨.e,.e⟩
theorem q143_eq (p0:Addr) (n1:Int) (K2:Unit→PT):fnE Cx h143 [] Tryd.f143 [.pt p0,.v (.int .u8 n1)] K2=q143 p0 n1 K2:=by kernel_rfl
theorem q143_fnok:fnOk Tryd.f143 2=true:=by kernel_rfl
theorem q143_ok (p0:Addr) (n1:Int) (K2:Unit→PT) {w:World} (h:q143 p0 n1 K2 w):Calls Tryd.prog 143 #[(.pointer (some p0)),(.int .u8 n1)] w fun e w'=>∃r,e = .returned (resMk [] r)∧K2 r w' :=
 of_eq Tryd.func143 q143_fnok (by kernel_rfl) (by kernel_rfl) (q143_eq p0 n1 K2) h
def q144 (p0:Addr) (K1:Unit→PT):PT :=
 callP Tryd.prog 159 #[(.pointer (some p0)),(.int .u16 (1:Int)),(.int .u8 (1:Int))] [] fun (r2:Unit)=>callP Tryd.prog 160 #[(.pointer (some p0))] [] fun (r3:Unit)=>K1 ()
def h144:Hint:=⟨.e,.e⟩
theorem q144_eq (p0:Addr) (K1:Unit→PT):fnE Cx h144 [] Tryd.f144 [.pt p0] K1=q144 p0 K1:=by kernel_rfl
theorem q144_fnok:fnOk Tryd.f144 1=true:=by kernel_rfl
theorem q144_ok (p0:Addr) (K1:Unit→PT) {w:World} (h:q144 p0 K1 w):Calls Tryd.prog 144 #[(.pointer (some p0))] w fun e w'=>∃r,e = .returned (resMk [] r)∧K1 r w' :=
 of_eq Tryd.func144 q144_fnok (by kernel_rfl) (by kernel_rfl) (q144_eq p0 K1) h
def q147_J0 (p0:Addr) (K3:Unit→PT) (p6:Addr) (x11:Unit):PT :=
 drw<|ld (.I .u8) (Addr.add p0 1) fun (n12:Int)=>ld (.I .u8) (Addr.add p6 1) fun (n13:Int)=>st (Addr.add p0 1) (.int .u8 (IntKind.wrap .u8 (n12+n13)))<|K3 ()
def q147 (p0:Addr) (s1:Sl) (n2:Int) (K3:Unit→PT):PT :=
 ixS 2 s1 n2 fun (p4:Addr)=>ldL [(.I .u16),(.I .u8)] p4 0 fun (r5:(Int×Int))=>nw z140 140 fun (p6:Addr)=>stL p6 0 [(.int .u16 r5.1),(.int .u8 r5.2)]<|drw<|ld (.I .u64) p0 fun (n7:Int)=>ld (.I .u16) p6 fun (n8:Int)=>ld (.I .u8) (Addr.add p0 1) fun (n9:Int)=>req (0≤(andI .u8 n9 (63:Int)))<|st p0 (.int .u64 (orI .u64 n7 (shlI .u64 (IntKind.wrap .u64 n8) (andI .u8 n9 (63:Int)))))<|joinP (fun R10=>R10 ()) (q147_J0 p0 K3 p6)
def h147:Hint:=⟨(.n .e 7 ([],[0,6]) .e),.e⟩
theorem q147_eq (p0:Addr) (s1:Sl) (n2:Int) (K3:Unit→PT):fnE Cx h147 [] Tryd.f147 [.pt p0,.v (.slice s1.a s1.l s1.c),.v (.int .u8 n2)] K3=q147 p0 s1 n2 K3:=by kernel_rfl
theorem q147_fnok:fnOk Tryd.f147 3=true:=by kernel_rfl
theorem q147_ok (p0:Addr) (s1:Sl) (n2:Int) (K3:Unit→PT) {w:World} (h:q147 p0 s1 n2 K3 w):Calls Tryd.prog 147 #[(.pointer (some p0)),(.slice s1.a s1.l s1.c),(.int .u8 n2)] w fun e w'=>∃r,e = .returned (resMk [] r)∧K3 r w' :=
 of_eq Tryd.func147 q147_fnok (by kernel_rfl) (by kernel_rfl) (q147_eq p0 s1 n2 K3) h
def q149 (r0:(Int×Int×Int)) (s1:Sl) (K2:((Int×Int×Int))→PT):PT :=
 nw [(.int .u64 r0.1),(.int .u64 r0.2.1),(.int .i64 r0.2.2)] 222 fun (p3:Addr)=>nw z222 222 fun (p4:Addr)=>ld (.I .i64) (Addr.add p3 2) fun (n5:Int)=>ld (.I .u64) p3 fun (n6:Int)=>callP Tryd.prog 161 #[(.slice s1.a s1.l s1.c),(.int .i64 n5),(.int .u64 n6)] [] fun (r7:Unit)=>ld (.I .i64) (Addr.add p3 2) fun (n8:Int)=>ld (.I .u64) (Addr.add p3 1) fun (n9:Int)=>req (0≤(3:Int))<|st (Addr.add p3 2) (.int .i64 (IntKind.wrap .i64 (n8+(IntKind.wrap .i64 (shrI .u64 n9 (3:Int))))))<|ld (.I .u64) p3 fun (n10:Int)=>ld (.I .u64) (Addr.add p3 1) fun (n11:Int)=>req (0≤(andI .u64 (andNotI .u64 n11 (7:Int)) (63:Int)))<|st p3 (.int .u64 (shrI .u64 n10 (andI .u64 (andNotI .u64 n11 (7:Int)) (63:Int))))<|ld (.I .u64) (Addr.add p3 1) fun (n12:Int)=>st (Addr.add p3 1) (.int .u64 (andI .u64 n12 (7:Int)))<|ldL [(.I .u64),(.I .u64),(.I .i64)] p3 0 fun (r13:(Int×Int×Int))=>stL p4 0 [(.int .u64 r13.1),(.int .u64 r13.2.1),(.int .i64 r13.2.2)]<|ldL [(.I .u64),(.I .u64),(.I .i64)] p4 0 fun (r14:(Int×Int×Int))=>K2 (r14.1,r14.2.1,r14.2.2)
def h149:Hint:=⟨.e,.e⟩
theorem q149_eq (r0:(Int×Int×Int)) (s1:Sl) (K2:((Int×Int×Int))→PT):fnE Cx h149 [.m [(.I .u64),(.I .u64),(.I .i64)]] Tryd.f149 [.v (.agg ⟨[(.int .u64 r0.1),(.int .u64 r0.2.1),(.int .i64 r0.2.2)]⟩),.v (.slice s1.a s1.l s1.c)] K2=q149 r0 s1 K2:=by kernel_rfl
theorem q149_fnok:fnOk Tryd.f149 2=true:=by kernel_rfl
theorem q149_ok (r0:(Int×Int×Int)) (s1:Sl) (K2:((Int×Int×Int))→PT) {w:World} (h:q149 r0 s1 K2 w):Calls Tryd.prog 149 #[(.agg ⟨[(.int .u64 r0.1),(.int .u64 r0.2.1),(.int .i64 r0.2.2)]⟩),(.slice s1.a s1.l s1.c)] w fun e w'=>∃r,e = .returned (resMk [.m [(.I .u64),(.I .u64),(.I .i64)]] r)∧K2 r w' :=
 of_eq Tryd.func149 q149_fnok (by kernel_rfl) (by kernel_rfl) (q149_eq r0 s1 K2) h
def q150 (r0:(Int×Int×Int)) (n1:Int) (n2:Int) (K3:((Int×Int×Int))→PT):PT :=
 nw [(.int .u64 r0.1),(.int .u64 r0.2.1),(.int .i64 r0.2.2)] 222 fun (p4:Addr)=>nw z222 222 fun (p5:Addr)=>ld (.I .u64) p4 fun (n6:Int)=>ld (.I .u64) (Addr.add p4 1) fun (n7:Int)=>req (0≤(andI .u64 n7 (63:Int)))<|st p4 (.int .u64 (orI .u64 n6 (shlI .u64 n1 (andI .u64 n7 (63:Int)))))<|ld (.I .u64) (Addr.add p4 1) fun (n8:Int)=>st (Addr.add p4 1) (.int .u64 (IntKind.wrap .u64 (n8+n2)))<|ldL [(.I .u64),(.I .u64),(.I .i64)] p4 0 fun (r9:(Int×Int×Int))=>stL p5 0 [(.int .u64 r9.1),(.int .u64 r9.2.1),(.int .i64 r9.2.2)]<|ldL [(.I .u64),(.I .u64),(.I .i64)] p5 0 fun (r10:(Int×Int×Int))=>K3 (r10.1,r10.2.1,r10.2.2)
def h150:Hint:=⟨.e,.e⟩
theorem q150_eq (r0:(Int×Int×Int)) (n1:Int) (n2:Int) (K3:((Int×Int×Int))→PT):fnE Cx h150 [.m [(.I .u64),(.I .u64),(.I .i64)]] Tryd.f150 [.v (.agg ⟨[(.int .u64 r0.1),(.int .u64 r0.2.1),(.int .i64 r0.2.2)]⟩),.v (.int .u64 n1),.v (.int .u64 n2)] K3=q150 r0 n1 n2 K3:=by kernel_rfl
theorem q150_fnok:fnOk Tryd.f150 3=true:=by kernel_rfl
theorem q150_ok (r0:(Int×Int×Int)) (n1:Int) (n2:Int) (K3:((Int×Int×Int))→PT) {w:World} (h:q150 r0 n1 n2 K3 w):Calls Tryd.prog 150 #[(.agg ⟨[(.int .u64 r0.1),(.int .u64 r0.2.1),(.int .i64 r0.2.2)]⟩),(.int .u64 n1),(.int .u64 n2)] w fun e w'=>∃r,e = .returned (resMk [.m [(.I .u64),(.I .u64),(.I .i64)]] r)∧K3 r w' :=
 of_eq Tryd.func150 q150_fnok (by kernel_rfl) (by kernel_rfl) (q150_eq r0 n1 n2 K3) h
def q151 (r0:(Int×Int)) (r1:(Int×Int)) (r2:(Int×Int)) (r3:(Int×Int)) (K4:(Int×Int)→PT):PT :=
 nw [(.int .u16 r0.1),(.int .u8 r0.2)] 140 fun (p5:Addr)=>nw [(.int .u16 r1.1),(.int .u8 r1.2)] 140 fun (p6:Addr)=>nw [(.int .u16 r2.1),(.int .u8 r2.2)] 140 fun (p7:Addr)=>nw [(.int .u16 r3.1),(.int .u8 r3.2)] 140 fun (p8:Addr)=>ld (.I .u8) (Addr.add p5 1) fun (n9:Int)=>ld (.I .u8) (Addr.add p6 1) fun (n10:Int)=>ld (.I .u8) (Addr.add p7 1) fun (n11:Int)=>ld (.I .u16) p5 fun (n12:Int)=>ld (.I .u16) p6 fun (n13:Int)=>req (0≤(andI .u64 (IntKind.wrap .u64 n9) (63:Int)))<|ld (.I .u16) p7 fun (n14:Int)=>req (0≤(andI .u64 (IntKind.wrap .u64 ((IntKind.wrap .u64 n9)+(IntKind.wrap .u64 n10))) (63:Int)))<|ld (.I .u16) p8 fun (n15:Int)=>req (0≤(andI .u64 (IntKind.wrap .u64 ((IntKind.wrap .u64 ((IntKind.wrap .u64 n9)+(IntKind.wrap .u64 n10)))+(IntKind.wrap .u64 n11))) (63:Int)))<|drw<|ld (.I .u8) (Addr.add p8 1) fun (n16:Int)=>K4 ((orI .u64 (orI .u64 (orI .u64 (IntKind.wrap .u64 n12) (shlI .u64 (IntKind.wrap .u64 n13) (andI .u64 (IntKind.wrap .u64 n9) (63:Int)))) (shlI .u64 (IntKind.wrap .u64 n14) (andI .u64 (IntKind.wrap .u64 ((IntKind.wrap .u64 n9)+(IntKind.wrap .u64 n10))) (63:Int)))) (shlI .u64 (IntKind.wrap .u64 n15) (andI .u64 (IntKind.wrap .u64 ((IntKind.wrap .u64 ((IntKind.wrap .u64 n9)+(IntKind.wrap .u64 n10)))+(IntKind.wrap .u64 n11))) (63:Int)))),(IntKind.wrap .u64 ((IntKind.wrap .u64 ((IntKind.wrap .u64 ((IntKind.wrap .u64 n9)+(IntKind.wrap .u64 n10)))+(IntKind.wrap .u64 n11)))+(IntKind.wrap .u64 n16))))
def h151:Hint:=⟨.e,.e⟩
theorem q151_eq (r0:(Int×Int)) (r1:(Int×Int)) (r2:(Int×Int)) (r3:(Int×Int)) (K4:(Int×Int)→PT):fnE Cx h151 [.c (.I .u64),.c (.I .u64)] Tryd.f151 [.v (.agg ⟨[(.int .u16 r0.1),(.int .u8 r0.2)]⟩),.v (.agg ⟨[(.int .u16 r1.1),(.int .u8 r1.2)]⟩),.v (.agg ⟨[(.int .u16 r2.1),(.int .u8 r2.2)]⟩),.v (.agg ⟨[(.int .u16 r3.1),(.int .u8 r3.2)]⟩)] K4=q151 r0 r1 r2 r3 K4:=by kernel_rfl
theorem q151_fnok:fnOk Tryd.f151 4=true:=by kernel_rfl
theorem q151_ok (r0:(Int×Int)) (r1:(Int×Int)) (r2:(Int×Int)) (r3:(Int×Int)) (K4:(Int×Int)→PT) {w:World} (h:q151 r0 r1 r2 r3 K4 w):Calls Tryd.prog 151 #[(.agg ⟨[(.int .u16 r0.1),(.int .u8 r0.2)]⟩),(.agg ⟨[(.int .u16 r1.1),(.int .u8 r1.2)]⟩),(.agg ⟨[(.int .u16 r2.1),(.int .u8 r2.2)]⟩),(.agg ⟨[(.int .u16 r3.1),(.int .u8 r3.2)]⟩)] w fun e w'=>∃r,e = .returned (resMk [.c (.I .u64),.c (.I .u64)] r)∧K4 r w' :=
 of_eq Tryd.func151 q151_fnok (by kernel_rfl) (by kernel_rfl) (q151_eq r0 r1 r2 r3 K4) h
def q152 (p0:Addr) (K1:Unit→PT):PT :=
 callP Tryd.prog 162 #[(.pointer (some p0)),(.int .u16 (1:Int)),(.int .u8 (1:Int))] [] fun (r2:Unit)=>callP Tryd.prog 163 #[(.pointer (some p0))] [] fun (r3:Unit)=>K1 ()
def h152:Hint:=⟨.e,.e⟩
theorem q152_eq (p0:Addr) (K1:Unit→PT):fnE Cx h152 [] Tryd.f152 [.pt p0] K1=q152 p0 K1:=by kernel_rfl
theorem q152_fnok:fnOk Tryd.f152 1=true:=by kernel_rfl
theorem q152_ok (p0:Addr) (K1:Unit→PT) {w:World} (h:q152 p0 K1 w):Calls Tryd.prog 152 #[(.pointer (some p0))] w fun e w'=>∃r,e = .returned (resMk [] r)∧K1 r w' :=
 of_eq Tryd.func152 q152_fnok (by kernel_rfl) (by kernel_rfl) (q152_eq p0 K1) h
def q153 (p0:Addr) (K1:Int→PT):PT :=
 ld (.I .i64) (Addr.add p0 260) fun (n2:Int)=>callP Tryd.prog 64 #[(.int .u32 (IntKind.wrap .u32 n2))] [.c (.I .u32)] fun (r3:Int)=>ld (.I .u16) (Addr.add p0 265) fun (n4:Int)=>callP Tryd.prog 64 #[(.int .u32 (IntKind.wrap .u32 (IntKind.wrap .u16 (n4-(1:Int)))))] [.c (.I .u32)] fun (r5:Int)=>cnd (decide ((IntKind.wrap .u32 (r3+(1:Int)))<(IntKind.wrap .u32 (r5+(2:Int))))) (K1 (IntKind.wrap .u8 (IntKind.wrap .u32 (r3+(1:Int))))) (K1 (IntKind.wrap .u8 (IntKind.wrap .u32 (r5+(2:Int)))))
def h153:Hint:=⟨.e,.e⟩
theorem q153_eq (p0:Addr) (K1:Int→PT):fnE Cx h153 [.c (.I .u8)] Tryd.f153 [.pt p0] K1=q153 p0 K1:=by kernel_rfl
theorem q153_fnok:fnOk Tryd.f153 1=true:=by kernel_rfl
theorem q153_ok (p0:Addr) (K1:Int→PT) {w:World} (h:q153 p0 K1 w):Calls Tryd.prog 153 #[(.pointer (some p0))] w fun e w'=>∃r,e = .returned (resMk [.c (.I .u8)] r)∧K1 r w' :=
 of_eq Tryd.func153 q153_fnok (by kernel_rfl) (by kernel_rfl) (q153_eq p0 K1) h
def q154 (n0:Int) (n1:Int) (K2:Int→PT):PT :=
 req (0≤(48:Int))<|K2 (orI .u64 (IntKind.wrap .u64 n0) (shlI .u64 (IntKind.wrap .u64 n1) (48:Int)))
def h154:Hint:=⟨.e,.e⟩
theorem q154_eq (n0:Int) (n1:Int) (K2:Int→PT):fnE Cx h154 [.c (.I .u64)] Tryd.f154 [.v (.int .u32 n0),.v (.int .u8 n1)] K2=q154 n0 n1 K2:=by kernel_rfl
theorem q154_fnok:fnOk Tryd.f154 2=true:=by kernel_rfl
theorem q154_ok (n0:Int) (n1:Int) (K2:Int→PT) {w:World} (h:q154 n0 n1 K2 w):Calls Tryd.prog 154 #[(.int .u32 n0),(.int .u8 n1)] w fun e w'=>∃r,e = .returned (resMk [.c (.I .u64)] r)∧K2 r w' :=
 of_eq Tryd.func154 q154_fnok (by kernel_rfl) (by kernel_rfl) (q154_eq n0 n1 K2) h
def q156 (p0:Addr) (n1:Int) (n2:Int) (K3:Unit→PT):PT :=
 cnd (decide (n2=(0:Int))) (K3 ()) (req (0≤(andI .u8 (IntKind.wrap .u8 ((16:Int)-n2)) (15:Int)))<|req (0≤(andI .u8 (IntKind.wrap .u8 ((16:Int)-n2)) (15:Int)))<|drw<|ld (.I .u64) p0 fun (n4:Int)=>ld (.I .u8) (Addr.add p0 1) fun (n5:Int)=>req (0≤(andI .u8 n5 (63:Int)))<|st p0 (.int .u64 (orI .u64 n4 (shlI .u64 (IntKind.wrap .u64 (shrI .u16 (shlI .u16 n1 (andI .u8 (IntKind.wrap .u8 ((16:Int)-n2)) (15:Int))) (andI .u8 (IntKind.wrap .u8 ((16:Int)-n2)) (15:Int)))) (andI .u8 n5 (63:Int)))))<|ld (.I .u8) (Addr.add p0 1) fun (n6:Int)=>st (Addr.add p0 1) (.int .u8 (IntKind.wrap .u8 (n6+n2)))<|K3 ())
def h156:Hint:=⟨.e,.e⟩
theorem q156_eq (p0:Addr) (n1:Int) (n2:Int) (K3:Unit→PT):fnE Cx h156 [] Tryd.f156 [.pt p0,.v (.int .u16 n1),.v (.int .u8 n2)] K3=q156 p0 n1 n2 K3:=by kernel_rfl
theorem q156_fnok:fnOk Tryd.f156 3=true:=by kernel_rfl
theorem q156_ok (p0:Addr) (n1:Int) (n2:Int) (K3:Unit→PT) {w:World} (h:q156 p0 n1 n2 K3 w):Calls Tryd.prog 156 #[(.pointer (some p0)),(.int .u16 n1),(.int .u8 n2)] w fun e w'=>∃r,e = .returned (resMk [] r)∧K3 r w' :=
 of_eq Tryd.func156 q156_fnok (by kernel_rfl) (by kernel_rfl) (q156_eq p0 n1 n2 K3) h
def q157 (p0:Addr) (n1:Int) (n2:Int) (K3:Unit→PT):PT :=
 drw<|ld (.I .u64) p0 fun (n4:Int)=>ixA 1 32 ⟨8,0,none⟩ (andI .u8 n2 (31:Int)) fun (p5:Addr)=>ld (.I .u16) p5 fun (n6:Int)=>ld (.I .u8) (Addr.add p0 1) fun (n7:Int)=>req (0≤(andI .u8 n7 (63:Int)))<|st p0 (.int .u64 (orI .u64 n4 (shlI .u64 (IntKind.wrap .u64 (andI .u16 n1 n6)) (andI .u8 n7 (63:Int)))))<|ld (.I .u8) (Addr.add p0 1) fun (n8:Int)=>st (Addr.add p0 1) (.int .u8 (IntKind.wrap .u8 (n8+n2)))<|K3 ()
def h157:Hint:=⟨.e,.e⟩
theorem q157_eq (p0:Addr) (n1:Int) (n2:Int) (K3:Unit→PT):fnE Cx h157 [] Tryd.f157 [.pt p0,.v (.int .u16 n1),.v (.int .u8 n2)] K3=q157 p0 n1 n2 K3:=by kernel_rfl
theorem q157_fnok:fnOk Tryd.f157 3=true:=by kernel_rfl
theorem q157_ok (p0:Addr) (n1:Int) (n2:Int) (K3:Unit→PT) {w:World} (h:q157 p0 n1 n2 K3 w):Calls Tryd.prog 157 #[(.pointer (some p0)),(.int .u16 n1),(.int .u8 n2)] w fun e w'=>∃r,e = .returned (resMk [] r)∧K3 r w' :=
 of_eq Tryd.func157 q157_fnok (by kernel_rfl) (by kernel_rfl) (q157_eq p0 n1 n2 K3) h
def q158_J0 (p0:Addr) (K1:Unit→PT) (n2:Int) (x65:Unit):PT :=
 ld (.I .u64) p0 fun (n66:Int)=>req (0≤(3:Int))<|req (0≤(shlI .u8 (shrI .u8 n2 (3:Int)) (3:Int)))<|st p0 (.int .u64 (shrI .u64 n66 (shlI .u8 (shrI .u8 n2 (3:Int)) (3:Int))))<|ld (.I .u8) (Addr.add p0 1) fun (n67:Int)=>st (Addr.add p0 1) (.int .u8 (andI .u8 n67 (7:Int)))<|K1 ()
def q158_X1 (p0:Addr) (n2:Int) (R3:Unit→PT):PT :=
 cnd (decide ((shrI .u8 n2 (3:Int))=(0:Int))) (R3 ()) (cnd (decide ((shrI .u8 n2 (3:Int))=(1:Int))) (drw<|ld .S (Addr.add p0 2) fun (s4:Sl)=>ld (.I .u64) p0 fun (n5:Int)=>nw [(.int .u8 (IntKind.wrap .u8 n5))] 5 fun (p6:Addr)=>kp [((Addr.add p0 2),(.slice s4.a s4.l s4.c))]<|app z5 5 1 s4 ⟨(some p6),1,1⟩ fun (s7:Sl)=>st (Addr.add p0 2) (.slice s7.a s7.l s7.c)<|R3 ()) (cnd (decide ((shrI .u8 n2 (3:Int))=(2:Int))) (drw<|ld .S (Addr.add p0 2) fun (s8:Sl)=>ld (.I .u64) p0 fun (n9:Int)=>ld (.I .u64) p0 fun (n10:Int)=>req (0≤(8:Int))<|nw [(.int .u8 (IntKind.wrap .u8 n9)),(.int .u8 (IntKind.wrap .u8 (shrI .u64 n10 (8:Int))))] 5 fun (p11:Addr)=>kp [((Addr.add p0 2),(.slice s8.a s8.l s8.c))]<|app z5 5 1 s8 ⟨(some p11),2,2⟩ fun (s12:Sl)=>st (Addr.add p0 2) (.slice s12.a s12.l s12.c)<|R3 ()) (cnd (decide ((shrI .u8 n2 (3:Int))=(3:Int))) (drw<|ld .S (Addr.add p0 2) fun (s13:Sl)=>ld (.I .u64) p0 fun (n14:Int)=>ld (.I .u64) p0 fun (n15:Int)=>req (0≤(8:Int))<|ld (.I .u64) p0 fun (n16:Int)=>req (0≤(16:Int))<|nw [(.int .u8 (IntKind.wrap .u8 n14)),(.int .u8 (IntKind.wrap .u8 (shrI .u64 n15 (8:Int)))),(.int .u8 (IntKind.wrap .u8 (shrI .u64 n16 (16:Int))))] 5 fun (p17:Addr)=>kp [((Addr.add p0 2),(.slice s13.a s13.l s13.c))]<|app z5 5 1 s13 ⟨(some p17),3,3⟩ fun (s18:Sl)=>st (Addr.add p0 2) (.slice s18.a s18.l s18.c)<|R3 ()) (cnd (decide ((shrI .u8 n2 (3:Int))=(4:Int))) (drw<|ld .S (Addr.add p0 2) fun (s19:Sl)=>ld (.I .u64) p0 fun (n20:Int)=>ld (.I .u64) p0 fun (n21:Int)=>req (0≤(8:Int))<|ld (.I .u64) p0 fun (n22:Int)=>req (0≤(16:Int))<|ld (.I .u64) p0 fun (n23:Int)=>req (0≤(24:Int))<|nw [(.int .u8 (IntKind.wrap .u8 n20)),(.int .u8 (IntKind.wrap .u8 (shrI .u64 n21 (8:Int)))),(.int .u8 (IntKind.wrap .u8 (shrI .u64 n22 (16:Int)))),(.int .u8 (IntKind.wrap .u8 (shrI .u64 n23 (24:Int))))] 5 fun (p24:Addr)=>kp [((Addr.add p0 2),(.slice s19.a s19.l s19.c))]<|app z5 5 1 s19 ⟨(some p24),4,4⟩ fun (s25:Sl)=>st (Addr.add p0 2) (.slice s25.a s25.l s25.c)<|R3 ()) (cnd (decide ((shrI .u8 n2 (3:Int))=(5:Int))) (drw<|ld .S (Addr.add p0 2) fun (s26:Sl)=>ld (.I .u64) p0 fun (n27:Int)=>ld (.I .u64) p0 fun (n28:Int)=>req (0≤(8:Int))<|ld (.I .u64) p0 fun (n29:Int)=>req (0≤(16:Int))<|ld (.I .u64) p0 fun (n30:Int)=>req (0≤(24:Int))<|ld (.I .u64) p0 fun (n31:Int)=>req (0≤(32:Int))<|nw [(.int .u8 (IntKind.wrap .u8 n27)),(.int .u8 (IntKind.wrap .u8 (shrI .u64 n28 (8:Int)))),(.int .u8 (IntKind.wrap .u8 (shrI .u64 n29 (16:Int)))),(.int .u8 (IntKind.wrap .u8 (shrI .u64 n30 (24:Int)))),(.int .u8 (IntKind.wrap .u8 (shrI .u64 n31 (32:Int))))] 5 fun (p32:Addr)=>kp [((Addr.add p0 2),(.slice s26.a s26.l s26.c))]<|app z5 5 1 s26 ⟨(some p32),5,5⟩ fun (s33:Sl)=>st (Addr.add p0 2) (.slice s33.a s33.l s33.c)<|R3 ()) (cnd (decide ((shrI .u8 n2 (3:Int))=(6:Int))) (drw<|ld .S (Addr.add p0 2) fun (s34:Sl)=>ld (.I .u64) p0 fun (n35:Int)=>ld (.I .u64) p0 fun (n36:Int)=>req (0≤(8:Int))<|ld (.I .u64) p0 fun (n37:Int)=>req (0≤(16:Int))<|ld (.I .u64) p0 fun (n38:Int)=>req (0≤(24:Int))<|ld (.I .u64) p0 fun (n39:Int)=>req (0≤(32:Int))<|ld (.I .u64) p0 fun (n40:Int)=>req (0≤(40:Int))<|nw [(.int .u8 (IntKind.wrap .u8 n35)),(.int .u8 (IntKind.wrap .u8 (shrI .u64 n36 (8:Int)))),(.int .u8 (IntKind.wrap .u8 (shrI .u64 n37 (16:Int)))),(.int .u8 (IntKind.wrap .u8 (shrI .u64 n38 (24:Int)))),(.int .u8 (IntKind.wrap .u8 (shrI .u64 n39 (32:Int)))),(.int .u8 (IntKind.wrap .u8 (shrI .u64 n40 (40:Int))))] 5 fun (p41:Addr)=>kp [((Addr.add p0 2),(.slice s34.a s34.l s34.c))]<|app z5 5 1 s34 ⟨(some p41),6,6⟩ fun (s42:Sl)=>st (Addr.add p0 2) (.slice s42.a s42.l s42.c)<|R3 ()) (cnd (decide ((shrI .u8 n2 (3:Int))=(7:Int))) (drw<|ld .S (Addr.add p0 2) fun (s43:Sl)=>ld (.I .u64) p0 fun (n44:Int)=>ld (.I .u64) p0 fun (n45:Int)=>req (0≤(8:Int))<|ld (.I .u64) p0 fun (n46:Int)=>req (0≤(16:Int))<|ld (.I .u64) p0 fun (n47:Int)=>req (0≤(24:Int))<|ld (.I .u64) p0 fun (n48:Int)=>req (0≤(32:Int))<|ld (.I .u64) p0 fun (n49:Int)=>req (0≤(40:Int))<|ld (.I .u64) p0 fun (n50:Int)=>req (0≤(48:Int))<|nw [(.int .u8 (IntKind.wrap .u8 n44)),(.int .u8 (IntKind.wrap .u8 (shrI .u64 n45 (8:Int)))),(.int .u8 (IntKind.wrap .u8 (shrI .u64 n46 (16:Int)))),(.int .u8 (IntKind.wrap .u8 (shrI .u64 n47 (24:Int)))),(.int .u8 (IntKind.wrap .u8 (shrI .u64 n48 (32:Int)))),(.int .u8 (IntKind.wrap .u8 (shrI .u64 n49 (40:Int)))),(.int .u8 (IntKind.wrap .u8 (shrI .u64 n50 (48:Int))))] 5 fun (p51:Addr)=>kp [((Addr.add p0 2),(.slice s43.a s43.l s43.c))]<|app z5 5 1 s43 ⟨(some p51),7,7⟩ fun (s52:Sl)=>st (Addr.add p0 2) (.slice s52.a s52.l s52.c)<|R3 ()) (cnd (decide ((shrI .u8 n2 (3:Int))=(8:Int))) (drw<|ld .S (Addr.add p0 2) fun (s53:Sl)=>ld (.I .u64) p0 fun (n54:Int)=>ld (.I .u64) p0 fun (n55:Int)=>req (0≤(8:Int))<|ld (.I .u64) p0 fun (n56:Int)=>req (0≤(16:Int))<|ld (.I .u64) p0 fun (n57:Int)=>req (0≤(24:Int))<|ld (.I .u64) p0 fun (n58:Int)=>req (0≤(32:Int))<|ld (.I .u64) p0 fun (n59:Int)=>req (0≤(40:Int))<|ld (.I .u64) p0 fun (n60:Int)=>req (0≤(48:Int))<|ld (.I .u64) p0 fun (n61:Int)=>req (0≤(56:Int))<|nw [(.int .u8 (IntKind.wrap .u8 n54)),(.int .u8 (IntKind.wrap .u8 (shrI .u64 n55 (8:Int)))),(.int .u8 (IntKind.wrap .u8 (shrI .u64 n56 (16:Int)))),(.int .u8 (IntKind.wrap .u8 (shrI .u64 n57 (24:Int)))),(.int .u8 (IntKind.wrap .u8 (shrI .u64 n58 (32:Int)))),(.int .u8 (IntKind.wrap .u8 (shrI .u64 n59 (40:Int)))),(.int .u8 (IntKind.wrap .u8 (shrI .u64 n60 (48:Int)))),(.int .u8 (IntKind.wrap .u8 (shrI .u64 n61 (56:Int))))] 5 fun (p62:Addr)=>kp [((Addr.add p0 2),(.slice s53.a s53.l s53.c))]<|app z5 5 1 s53 ⟨(some p62),8,8⟩ fun (s63:Sl)=>st (Addr.add p0 2) (.slice s63.a s63.l s63.c)<|R3 ()) (callP Tryd.prog 62 #[(.string ⟨#[98,105,116,115]⟩)] [.c .V] fun (r64:Value)=>F)))))))))
def q158 (p0:Addr) (K1:Unit→PT):PT :=
 ld (.I .u8) (Addr.add p0 1) fun (n2:Int)=>req (0≤(3:Int))<|joinP (q158_X1 p0 n2) (q158_J0 p0 K1 n2)
def h158:Hint:=⟨(.n .e 3 ([],[2,0]) .e),.e⟩
theorem q158_eq (p0:Addr) (K1:Unit→PT):fnE Cx h158 [] Tryd.f158 [.pt p0] K1=q158 p0 K1:=by kernel_rfl
theorem q158_fnok:fnOk Tryd.f158 1=true:=by kernel_rfl
theorem q158_ok (p0:Addr) (K1:Unit→PT) {w:World} (h:q158 p0 K1 w):Calls Tryd.prog 158 #[(.pointer (some p0))] w fun e w'=>∃r,e = .returned (resMk [] r)∧K1 r w' :=
 of_eq Tryd.func158 q158_fnok (by kernel_rfl) (by kernel_rfl) (q158_eq p0 K1) h
def q159 (p0:Addr) (n1:Int) (n2:Int) (K3:Unit→PT):PT :=
 drw<|ld (.I .u64) p0 fun (n4:Int)=>ld (.I .u8) (Addr.add p0 1) fun (n5:Int)=>req (0≤(andI .u8 n5 (63:Int)))<|st p0 (.int .u64 (orI .u64 n4 (shlI .u64 (IntKind.wrap .u64 n1) (andI .u8 n5 (63:Int)))))<|ld (.I .u8) (Addr.add p0 1) fun (n6:Int)=>st (Addr.add p0 1) (.int .u8 (IntKind.wrap .u8 (n6+n2)))<|K3 ()
def h159:Hint:=⟨.e,.e⟩
theorem q159_eq (p0:Addr) (n1:Int) (n2:Int) (K3:Unit→PT):fnE Cx h159 [] Tryd.f159 [.pt p0,.v (.int .u16 n1),.v (.int .u8 n2)] K3=q159 p0 n1 n2 K3:=by kernel_rfl
theorem q159_fnok:fnOk Tryd.f159 3=true:=by kernel_rfl
theorem q159_ok (p0:Addr) (n1:Int) (n2:Int) (K3:Unit→PT) {w:World} (h:q159 p0 n1 n2 K3 w):Calls Tryd.prog 159 #[(.pointer (some p0)),(.int .u16 n1),(.int .u8 n2)] w fun e w'=>∃r,e = .returned (resMk [] r)∧K3 r w' :=
 of_eq Tryd.func159 q159_fnok (by kernel_rfl) (by kernel_rfl) (q159_eq p0 n1 n2 K3) h
def q160_L0 (p0:Addr) (n2:Int) (R3:Unit→PT) (x4:Int) (A5:Int→PT):PT :=
 cnd (decide (x4<(shrI .u8 (IntKind.wrap .u8 (n2+(7:Int))) (3:Int)))) (drw<|ld .S (Addr.add p0 2) fun (s6:Sl)=>ld (.I .u64) p0 fun (n7:Int)=>req (0≤(IntKind.wrap .u8 (x4*(8:Int))))<|nw [(.int .u8 (IntKind.wrap .u8 (shrI .u64 n7 (IntKind.wrap .u8 (x4*(8:Int))))))] 5 fun (p8:Addr)=>kp [((Addr.add p0 2),(.slice s6.a s6.l s6.c))]<|app z5 5 1 s6 ⟨(some p8),1,1⟩ fun (s9:Sl)=>st (Addr.add p0 2) (.slice s9.a s9.l s9.c)<|A5 (IntKind.wrap .u8 (x4+(1:Int)))) (R3 ())
def q160_J1 (p0:Addr) (K1:Unit→PT) (x10:Unit):PT :=
 st (Addr.add p0 1) (.int .u8 (0:Int))<|st p0 (.int .u64 (0:Int))<|K1 ()
def q160 (p0:Addr) (K1:Unit→PT):PT :=
 ld (.I .u8) (Addr.add p0 1) fun (n2:Int)=>req (0≤(3:Int))<|joinP (fun R3=>loopP (0:Int) (q160_L0 p0 n2 R3)) (q160_J1 p0 K1)
def h160:Hint:=⟨(.n (.n .e 3 ([],[0]) .e) 26 ([(11,.c (.I .u8))],[0,10]) .e),.e⟩
theorem q160_eq (p0:Addr) (K1:Unit→PT):fnE Cx h160 [] Tryd.f160 [.pt p0] K1=q160 p0 K1:=by kernel_rfl
theorem q160_fnok:fnOk Tryd.f160 1=true:=by kernel_rfl
theorem q160_ok (p0:Addr) (K1:Unit→PT) {w:World} (h:q160 p0 K1 w):Calls Tryd.prog 160 #[(.pointer (some p0))] w fun e w'=>∃r,e = .returned (resMk [] r)∧K1 r w' :=
 of_eq Tryd.func160 q160_fnok (by kernel_rfl) (by kernel_rfl) (q160_eq p0 K1) h
def q161 (s0:Sl) (n1:Int) (n2:Int) (K3:Unit→PT):PT :=
 drw<|ldL [] ⟨7,0,none⟩ 0 fun (r4:(Unit))=>slc 1 s0 (some n1) none none fun (s5:Sl)=>callP Tryd.prog 164 #[(.agg ⟨[]⟩),(.slice s5.a s5.l s5.c),(.int .u64 n2)] [] fun (r6:Unit)=>K3 ()
def h161:Hint:=⟨.e,.e⟩
theorem q161_eq (s0:Sl) (n1:Int) (n2:Int) (K3:Unit→PT):fnE Cx h161 [] Tryd.f161 [.v (.slice s0.a s0.l s0.c),.v (.int .i64 n1),.v (.int .u64 n2)] K3=q161 s0 n1 n2 K3:=by kernel_rfl
theorem q161_fnok:fnOk Tryd.f161 3=true:=by kernel_rfl
theorem q161_ok (s0:Sl) (n1:Int) (n2:Int) (K3:Unit→PT) {w:World} (h:q161 s0 n1 n2 K3 w):Calls Tryd.prog 161 #[(.slice s0.a s0.l s0.c),(.int .i64 n1),(.int .u64 n2)] w fun e w'=>∃r,e = .returned (resMk [] r)∧K3 r w' :=
 of_eq Tryd.func161 q161_fnok (by kernel_rfl) (by kernel_rfl) (q161_eq s0 n1 n2 K3) h
def q162 (p0:Addr) (n1:Int) (n2:Int) (K3:Unit→PT):PT :=
 drw<|ld (.I .u64) p0 fun (n4:Int)=>ld (.I .u8) (Addr.add p0 1) fun (n5:Int)=>req (0≤(andI .u8 n5 (63:Int)))<|st p0 (.int .u64 (orI .u64 n4 (shlI .u64 (IntKind.wrap .u64 n1) (andI .u8 n5 (63:Int)))))<|ld (.I .u8) (Addr.add p0 1) fun (n6:Int)=>st (Addr.add p0 1) (.int .u8 (IntKind.wrap .u8 (n6+n2)))<|K3 ()
def h162:Hint:=⟨.e,.e⟩
theorem q162_eq (p0:Addr) (n1:Int) (n2:Int) (K3:Unit→PT):fnE Cx h162 [] Tryd.f162 [.pt p0,.v (.int .u16 n1),.v (.int .u8 n2)] K3=q162 p0 n1 n2 K3:=by kernel_rfl
theorem q162_fnok:fnOk Tryd.f162 3=true:=by kernel_rfl
theorem q162_ok (p0:Addr) (n1:Int) (n2:Int) (K3:Unit→PT) {w:World} (h:q162 p0 n1 n2 K3 w):Calls Tryd.prog 162 #[(.pointer (some p0)),(.int .u16 n1),(.int .u8 n2)] w fun e w'=>∃r,e = .returned (resMk [] r)∧K3 r w' :=
 of_eq Tryd.func162 q162_fnok (by kernel_rfl) (by kernel_rfl) (q162_eq p0 n1 n2 K3) h
def q163_L0 (p0:Addr) (n2:Int) (R3:Unit→PT) (x4:Int) (A5:Int→PT):PT :=
 cnd (decide (x4<(shrI .u8 (IntKind.wrap .u8 (n2+(7:Int))) (3:Int)))) (drw<|ld .S (Addr.add p0 2) fun (s6:Sl)=>ld (.I .u64) p0 fun (n7:Int)=>req (0≤(IntKind.wrap .u8 (x4*(8:Int))))<|nw [(.int .u8 (IntKind.wrap .u8 (shrI .u64 n7 (IntKind.wrap .u8 (x4*(8:Int))))))] 5 fun (p8:Addr)=>kp [((Addr.add p0 2),(.slice s6.a s6.l s6.c))]<|app z5 5 1 s6 ⟨(some p8),1,1⟩ fun (s9:Sl)=>st (Addr.add p0 2) (.slice s9.a s9.l s9.c)<|A5 (IntKind.wrap .u8 (x4+(1:Int)))) (R3 ())
def q163_J1 (p0:Addr) (K1:Unit→PT) (x10:Unit):PT :=
 st (Addr.add p0 1) (.int .u8 (0:Int))<|st p0 (.int .u64 (0:Int))<|K1 ()
def q163 (p0:Addr) (K1:Unit→PT):PT :=
 ld (.I .u8) (Addr.add p0 1) fun (n2:Int)=>req (0≤(3:Int))<|joinP (fun R3=>loopP (0:Int) (q163_L0 p0 n2 R3)) (q163_J1 p0 K1)
def h163:Hint:=⟨(.n (.n .e 3 ([],[0]) .e) 26 ([(11,.c (.I .u8))],[0,10]) .e),.e⟩
theorem q163_eq (p0:Addr) (K1:Unit→PT):fnE Cx h163 [] Tryd.f163 [.pt p0] K1=q163 p0 K1:=by kernel_rfl
theorem q163_fnok:fnOk Tryd.f163 1=true:=by kernel_rfl
theorem q163_ok (p0:Addr) (K1:Unit→PT) {w:World} (h:q163 p0 K1 w):Calls Tryd.prog 163 #[(.pointer (some p0))] w fun e w'=>∃r,e = .returned (resMk [] r)∧K1 r w' :=
 of_eq Tryd.func163 q163_fnok (by kernel_rfl) (by kernel_rfl) (q163_eq p0 K1) h
def q164 (r0:(Unit)) (s1:Sl) (n2:Int) (K3:Unit→PT):PT :=
 nw [] 234 fun (p4:Addr)=>ixS 1 s1 (7:Int) fun (p5:Addr)=>ld (.I .u8) p5 fun (n6:Int)=>ixS 1 s1 (0:Int) fun (p7:Addr)=>st p7 (.int .u8 (IntKind.wrap .u8 n2))<|req (0≤(8:Int))<|ixS 1 s1 (1:Int) fun (p8:Addr)=>st p8 (.int .u8 (IntKind.wrap .u8 (shrI .u64 n2 (8:Int))))<|req (0≤(16:Int))<|ixS 1 s1 (2:Int) fun (p9:Addr)=>st p9 (.int .u8 (IntKind.wrap .u8 (shrI .u64 n2 (16:Int))))<|req (0≤(24:Int))<|ixS 1 s1 (3:Int) fun (p10:Addr)=>st p10 (.int .u8 (IntKind.wrap .u8 (shrI .u64 n2 (24:Int))))<|req (0≤(32:Int))<|ixS 1 s1 (4:Int) fun (p11:Addr)=>st p11 (.int .u8 (IntKind.wrap .u8 (shrI .u64 n2 (32:Int))))<|req (0≤(40:Int))<|ixS 1 s1 (5:Int) fun (p12:Addr)=>st p12 (.int .u8 (IntKind.wrap .u8 (shrI .u64 n2 (40:Int))))<|req (0≤(48:Int))<|ixS 1 s1 (6:Int) fun (p13:Addr)=>st p13 (.int .u8 (IntKind.wrap .u8 (shrI .u64 n2 (48:Int))))<|req (0≤(56:Int))<|ixS 1 s1 (7:Int) fun (p14:Addr)=>st p14 (.int .u8 (IntKind.wrap .u8 (shrI .u64 n2 (56:Int))))<|K3 ()
def h164:Hint:=⟨.e,.e⟩
theorem q164_eq (r0:(Unit)) (s1:Sl) (n2:Int) (K3:Unit→PT):fnE Cx h164 [] Tryd.f164 [.v (.agg ⟨[]⟩),.v (.slice s1.a s1.l s1.c),.v (.int .u64 n2)] K3=q164 r0 s1 n2 K3:=by kernel_rfl
theorem q164_fnok:fnOk Tryd.f164 3=true:=by kernel_rfl
theorem q164_ok (r0:(Unit)) (s1:Sl) (n2:Int) (K3:Unit→PT) {w:World} (h:q164 r0 s1 n2 K3 w):Calls Tryd.prog 164 #[(.agg ⟨[]⟩),(.slice s1.a s1.l s1.c),(.int .u64 n2)] w fun e w'=>∃r,e = .returned (resMk [] r)∧K3 r w' :=
 of_eq Tryd.func164 q164_fnok (by kernel_rfl) (by kernel_rfl) (q164_eq r0 s1 n2 K3) h
end Go.Sx
namespace Go.Sx
open Go Go.Proofs
structure FS where
 count:Nat→Int
 norm:Nat→Int
 br:Sl
 brOff:Int
 bIn:Sl
 bOff:Int
 bVal:Int
 bRead:Int
 bc:Int
 bn:Int
 bo:Sl
 ts:Sl
 st:Sl
 tt:Sl
 dt:Sl
 maxC:Int
 out:Sl
 lim:Int
 symL:Int
 atl:Int
 zb:Bool
 cc:Bool
 msv:Int
 tl:Int
def Sl.val (s:Sl):Value := .slice s.a s.l s.c
def FS.tail (s:FS):List Value := [s.br.val,.int .i64 s.brOff,s.bIn.val,.int .u64 s.bOff,.int .u64 s.bVal,.int .u8 s.bRead,.int .u64 s.bc,.int .u8 s.bn,s.bo.val,s.ts.val,s.st.val,s.tt.val,s.dt.val,
 .int .i64 s.maxC,s.out.val,.int .i64 s.lim,.int .u16 s.symL,.int .u8 s.atl,.bool s.zb,.bool s.cc,.int .u8 s.msv,.int .u8 s.tl]
def FS.at (s:FS):Cells:=fun i=>if i<256 then some (.int .u32 (s.count i)) else if i<512 then some (.int .i16 (s.norm (i-256))) else s.tail[i-512]?
theorem FS.count_at (s:FS) {i:Nat} (h:i<256):s.at i=some (.int .u32 (s.count i)):=if_pos h
theorem FS.norm_at (s:FS) {i:Nat} (h:i<256):s.at (256+i)=some (.int .i16 (s.norm i)):=by
 unfold FS.at
 rw [if_neg (by omega),if_pos (by omega),Nat.add_sub_cancel_left]
theorem FS.setT {s s':FS} (k:Nat) {v:Value} (h1:s'.count=s.count) (h2:s'.norm=s.norm) (h3:s'.tail=s.tail.set k v) (h4:k<22):updC s.at (512+k) v=s'.at:=by
 funext i
 unfold updC FS.at
 rw [h1,h2,h3]
 by_cases e:i=512+k
 ·subst e
  rw [if_pos rfl,if_neg (by omega),if_neg (by omega),Nat.add_sub_cancel_left,List.getElem?_set_self (by exact h4)]
 ·rw [if_neg e]
  split
  ·rfl
  ·split
   ·rfl
   ·rw [List.getElem?_set_ne (by omega)]
theorem FS.setN {s:FS} {i:Nat} {x:Int} (h:i<256):updC s.at (256+i) (.int .i16 x)=({ s with norm:=updF s.norm i x } : FS).at:=by
 funext j
 unfold updC FS.at updF
 by_cases e:j=256+i
 ·subst e
  rw [if_pos rfl,if_neg (by omega),if_pos (by omega)]
  simp
 ·rw [if_neg e]
  by_cases h1:j<256
  ·rw [if_pos h1,if_pos h1]
  ·rw [if_neg h1,if_neg h1]
   by_cases h2:j<512
   ·rw [if_pos h2,if_pos h2]
    dsimp only
    rw [if_neg (by omega)]
   ·rw [if_neg h2,if_neg h2];rfl
theorem FS.setC {s:FS} {i:Nat} {x:Int} (h:i<256):updC s.at i (.int .u32 x)=({ s with count:=updF s.count i x } : FS).at:=by
 funext j
 unfold updC FS.at updF
 by_cases e:j=i
 ·subst e
  rw [if_pos rfl,if_pos h]
  simp
 ·rw [if_neg e]
  by_cases h1:j<256
  ·rw [if_pos h1,if_pos h1];simp [e]
  ·rw [if_neg h1,if_neg h1];rfl
theorem rep_get {α:Type} (n:Nat) (v:α) (r:List α) (i:Nat):(List.replicate n v++r)[i]? = if i<n then some v else r[i-n]? := by
 by_cases h:i<n
 ·rw [List.getElem?_append_left (by rw [List.length_replicate];exact h),List.getElem?_replicate,if_pos h,if_pos h]
 ·rw [List.getElem?_append_right (by rw [List.length_replicate];omega),List.length_replicate,if_neg h]
def FS.zero:FS:=⟨fun _=>0,fun _=>0,⟨none,0,0⟩,0,⟨none,0,0⟩,0,0,0,0,0,⟨none,0,0⟩,⟨none,0,0⟩,⟨none,0,0⟩,⟨none,0,0⟩,⟨none,0,0⟩,0,⟨none,0,0⟩,0,0,0,false,false,0,0⟩
theorem FS.atZ:(fun i=>(⟨z134⟩:Array Value)[i]?)=FS.zero.at:=by
 funext i
 simp only [List.getElem?_toArray]
 unfold z134 FS.at
 rw [rep_get,rep_get]
 by_cases h1:i<256
 ·rw [if_pos h1,if_pos h1];rfl
 ·rw [if_neg h1,if_neg h1]
  by_cases h2:i<512
  ·rw [if_pos (by omega),if_pos h2];rfl
  ·rw [if_neg (by omega),if_neg h2,show i-256-256=i-512 by omega]
   rfl
end Go.Sx
namespace Go.Sx
open Go Go.Proofs
set_option maxRecDepth 4000
def lenTab:ByteArray:=⟨#[0,1,2,2,3,3,3,3,4,4,4,4,4,4,4,4,5,5,5,5,5,5,5,5,5,5,5,5,5,5,5,5,6,6,6,6,6,6,6,6,6,6,6,6,6,6,6,6,6,6,6,6,6,6,6,6,6,6,6,6,6,6,6,6,7,7,7,7,7,7,7,7,7,7,7,7,7,7,7,7,7,7,7,7,7,7,7,7,7,7,7,7,7,7,7,7,7,7,7,7,7,7,7,7,7,7,7,7,7,7,7,7,7,7,7,7,7,7,7,7,7,7,7,7,7,7,7,7,8,8,8,8,8,8,8,8,8,8,8,8,8,8,8,8,8,8,8,8,8,8,8,8,8,8,8,8,8,8,8,8,8,8,8,8,8,8,8,8,8,8,8,8,8,8,8,8,8,8,8,8,8,8,8,8,8,8,8,8,8,8,8,8,8,8,8,8,8,8,8,8,8,8,8,8,8,8,8,8,8,8,8,8,8,8,8,8,8,8,8,8,8,8,8,8,8,8,8,8,8,8,8,8,8,8,8,8,8,8,8,8,8,8,8,8,8,8,8,8,8,8,8,8,8,8,8,8]⟩
def lenOf (n:Nat):Nat:=if n=0 then 0 else n.log2+1
theorem lenTab_all:((List.range 256).all fun k=>(lenTab.data[k]?.map UInt8.toNat)==some (lenOf k))=true:=by kernel_rfl
theorem lenTab_get (k:Nat) (h:k<lenTab.size) (h2:k<256):(lenTab[k]).toNat=lenOf k:=by
 have:=List.all_eq_true.1 lenTab_all k (List.mem_range.2 h2)
 have h3:lenTab.data[k]? = some lenTab[k]:=Array.getElem?_eq_getElem _
 rw [h3] at this
 simpa using this
theorem lenTab_size:lenTab.size=256:=by kernel_rfl
theorem lenOf_shift (n k:Nat) (h:2^k≤n):lenOf (n/2^k)+k=lenOf n:=by
 unfold lenOf
 have hp:=Nat.two_pow_pos k
 have h1:0<n/2^k:=Nat.div_pos h hp
 rw [if_neg (by omega),if_neg (by omega)]
 have:(n/2^k).log2=n.log2-k:=by
  have e1:=Nat.log2_self_le (n:=n) (by omega)
  have e2:=Nat.lt_log2_self (n:=n)
  have hk:k≤n.log2:=(Nat.le_log2 (by omega)).mpr h
  apply Nat.le_antisymm
  ·have:n/2^k<2^(n.log2-k+1):=by
    rw [Nat.div_lt_iff_lt_mul hp, ←Nat.pow_add,show n.log2-k+1+k=n.log2+1 by omega];exact e2
   have:=(Nat.log2_lt (by omega)).mpr this
   omega
  ·apply (Nat.le_log2 (by omega)).mpr
   rw [Nat.le_div_iff_mul_le hp, ←Nat.pow_add,show n.log2-k+k=n.log2 by omega];exact e1
 have hk:k≤n.log2:=(Nat.le_log2 (by omega)).mpr h
 omega
theorem c81 {w:World} {n:Nat} {K:Int→PT} (h:n<4294967296) (hk:K (lenOf n:Nat) w):callP Tryd.prog 81 #[.int .u32 n] [.c (.I .i64)] K w:=by
 apply q81_ok
 unfold q81
 have last:∀m a:Nat,m<256→a≤24→lenOf m+a=lenOf n→q81_J0 K ((m:Int),(a:Int)) w:=by
  intro m a hm ha he
  unfold q81_J0
  have e1:IntKind.u8.wrap (m:Int)=m:=wU8 (by omega) (by omega)
  have hsz:m<lenTab.size:=by rw [lenTab_size];exact hm
  have hg:=lenTab_get m hsz hm
  have hl:lenOf m≤8:=by
   unfold lenOf
   split
   ·omega
   ·have:=(Nat.log2_lt (n:=m) (k:=8) (by omega)).mpr hm;omega
  have hk2:K (IntKind.i64.wrap ((a:Int)+IntKind.i64.wrap ((lenOf m:Nat):Int))) w:=by
   rw [wI64 (x:=((lenOf m:Nat):Int)) (by omega) (by omega),wI64 (by omega) (by omega)]
   rw [show (a:Int)+((lenOf m:Nat):Int)=((lenOf n:Nat):Int) by omega]
   exact hk
  rw [←hg] at hk2
  exact ⟨m,e1,hsz,hk2⟩
 have mid:∀m a:Nat,m<65536→a≤16→lenOf m+a=lenOf n→q81_J1 K ((m:Int),(a:Int)) w:=by
  intro m a hm ha he
  unfold q81_J1
  refine joinP_id (cnd_d ?_ ?_)
  ·intro hc
   simp only at hc ⊢
   have e1:shrI .u32 (m:Int) 8=((m/2^8:Nat):Int):=shrI_nat .u32 m 8 (by simp only [IntKind.bits];omega)
   rw [e1,wI64 (by omega) (by omega)]
   refine ⟨by decide,?_⟩
   have:=lenOf_shift m 8 (by omega)
   exact last (m/2^8) (a+8) (by omega) (by omega) (by omega)
  ·intro hc
   simp only at hc ⊢
   exact last m a (by omega) (by omega) he
 refine joinP_id (cnd_d ?_ ?_)
 ·intro hc
  have e1:shrI .u32 (n:Int) 16=((n/2^16:Nat):Int):=shrI_nat .u32 n 16 (by simp only [IntKind.bits];omega)
  rw [e1]
  refine ⟨by decide,?_⟩
  have:=lenOf_shift n 16 (by omega)
  exact mid (n/2^16) 16 (by omega) (by omega) this
 ·intro hc
  exact mid n 0 (by omega) (by omega) rfl
theorem c98 {w:World} {n:Nat} {K:Int→PT} (h0:0<n) (h:n<4294967296) (hk:K (n.log2:Nat) w):callP Tryd.prog 98 #[.int .u32 n] [.c (.I .u32)] K w:=by
 apply q98_ok
 unfold q98
 refine c81 h ?_
 have hl:n.log2<32:=(Nat.log2_lt (by omega)).mpr (by omega)
 have e:lenOf n=n.log2+1:=by unfold lenOf;rw [if_neg (by omega)]
 rw [e,wI64 (by omega) (by omega),wU32 (by omega) (by omega)]
 rw [show (((n.log2+1:Nat):Int)-1)=((n.log2:Nat):Int) by omega]
 exact hk
theorem c93 {w:World} {s:Sl} {n:Nat} {K:Int→PT} (hl:s.l<2^60) (hn:n≤s.l) (hk:∀w',Fm w w' []→K ((s.l-n:Nat):Int) w'):callP Tryd.prog 93 #[.agg ⟨[.slice s.a s.l s.c,.int .i64 n]⟩] [.c (.I .i64)] K w:=by
 apply q93_ok (r0:=(s,(n:Int)))
 unfold q93 nw
 have B:Blk (w.alloc (.cells ⟨[.slice s.a s.l s.c,.int .i64 n]⟩ 122)) w.heap.size fun i=>(⟨[.slice s.a s.l s.c,.int .i64 n]⟩:Array Value)[i]? := Blk.new
 refine ld_b (x:=s) B rfl ?_
 rw [add_mk]
 refine ld_b (t := .I .i64) (x:=(n:Int)) B rfl ?_
 rw [wI64 (by omega) (by omega), ←Int.ofNat_sub hn]
 exact hk _ (Fm.refl w []).alloc
theorem c97 {w:World} {n:Nat} {K:Int→PT} (h:n<65536) (hk:K (stepOf n:Nat) w):callP Tryd.prog 97 #[.int .u32 n] [.c (.I .u32)] K w:=by
 apply q97_ok
 unfold q97
 have e1:shrI .u32 (n:Int) 1=((n/2^1:Nat):Int):=shrI_nat .u32 n 1 (by simp only [IntKind.bits];omega)
 have e2:shrI .u32 (n:Int) 3=((n/2^3:Nat):Int):=shrI_nat .u32 n 3 (by simp only [IntKind.bits];omega)
 rw [e1,e2,wU32 (x:=((n/2^1:Nat):Int)+_) (by omega) (by omega),wU32 (by omega) (by omega)]
 refine ⟨by decide,by decide,?_⟩
 have:((n/2^1:Nat):Int)+((n/2^3:Nat):Int)+3=((stepOf n:Nat):Int):=by unfold stepOf;omega
 rw [this]
 exact hk
def bwC (f:Cells) (o bc nb:Nat) (so:Sl):Cells:=fun i=>if i=o then some (.int .u64 bc) else if i=o+1 then some (.int .u8 nb) else if i=o+2 then some so.val else f i
theorem bwC0 (f:Cells) (o bc nb x:Nat) (so:Sl):updC (bwC f o bc nb so) o (.int .u64 (x:Nat))=bwC f o x nb so:=by
 funext i;unfold updC bwC;split<;>rfl
theorem bwC1 (f:Cells) (o bc nb x:Nat) (so:Sl):updC (bwC f o bc nb so) (o+1) (.int .u8 (x:Nat))=bwC f o bc x so:=by
 funext i;unfold updC bwC
 by_cases h:i=o+1
 ·subst h;simp
 ·simp [h]
theorem bwC2 (f:Cells) (o bc nb:Nat) (so x:Sl):updC (bwC f o bc nb so) (o+2) (.slice x.a x.l x.c)=bwC f o bc nb x:=by
 funext i;unfold updC bwC
 by_cases h:i=o+2
 ·subst h;simp [Sl.val]
 ·simp [h]
theorem bwC_0 (f:Cells) (o bc nb:Nat) (so:Sl):bwC f o bc nb so o=some (.int .u64 bc):=if_pos rfl
theorem bwC_1 (f:Cells) (o bc nb:Nat) (so:Sl):bwC f o bc nb so (o+1)=some (.int .u8 nb):=by unfold bwC;simp
theorem bwC_2 (f:Cells) (o bc nb:Nat) (so:Sl):bwC f o bc nb so (o+2)=some (.slice so.a so.l so.c):=by unfold bwC;simp [Sl.val]
theorem app_k {z:Value} {T T':TypeId} {bytes:Nat} {s:Sl} {κ:Sl→PT} {w:World} {l:List Value} {fs:List (Addr×Value)} (xs:List Value) {k:Nat} (hkl:k=xs.length) (h:Vec 1 w s l) (hv:∀v∈xs,one v=true) (hb:(s.l+xs.length)*bytes≤2^46)
  (hf:∀f∈fs,w.cell? f.1=some f.2)
  (hk:∀s' w',Vec 1 w' s' (l++xs)→Fm w w' s.bs→(∀b∈s'.bs,b∈s.bs∨w.heap.size≤b)→κ s' w'):nw xs T' (fun p=>kp fs (app [z] T bytes s ⟨some p,k,k⟩ κ)) w:=by
 subst hkl
 have h0:Fm w (w.alloc (.cells ⟨xs⟩ T')) []:=(Fm.refl w []).alloc
 refine ⟨?_,?_⟩
 ·intro f hff
  have h1:=hf f hff
  rw [World.cell?_alloc_lt _ _ _ (World.block_lt_of_cell? _ _ h1)]
  exact h1
 ·refine app_v (zs := [z]) (xs:=xs) (h.fr h0 (by simp)) ⟨by simp,?_,(fun h=>by cases h),hv⟩ (by simp) hb ?_
  ·intro b hb' i hi
   injection hb' with hb'
   subst hb'
   rw [add_mk,Nat.zero_add]
   simp
  ·intro s' w' h1 h2 h3
   refine hk s' w' h1 ((h0.mono (S':=s.bs) (by simp)).trans h2 (fun b hb => .inl hb)) ?_
   intro b hb'
   rcases h3 b hb' with h4|h4
   ·exact .inl h4
   ·right;rw [World.size_alloc] at h4;omega
def leB (n:Nat):Nat→List Nat
 | 0 => []
 | k+1=>n%256::leB (n/256) k
theorem leB_len (n k:Nat):(leB n k).length=k:=by
 induction k generalizing n with
 | zero=>rfl
 | succ k ih=>simp [leB,ih]
theorem leB_by (n k:Nat):By (leB n k):=by
 induction k generalizing n with
 | zero=>intro x hx;cases hx
 | succ k ih =>
  intro x hx
  rcases List.mem_cons.mp hx with h|h
  ·omega
  ·exact ih _ x h
theorem leB_val (n k:Nat):leN (leB n k)=n%256^k:=by
 induction k generalizing n with
 | zero=>simp [leB,leN,Nat.mod_one]
 | succ k ih =>
  rw [leB,leN,ih,Nat.pow_succ,Nat.mul_comm (256^k) 256,Nat.mod_mul]
theorem leB_snoc (n k:Nat):leB n (k+1)=leB n k ++ [n/256^k%256]:=by
 induction k generalizing n with
 | zero=>simp [leB]
 | succ k ih =>
  rw [leB,ih,leB,List.cons_append]
  congr 3
  rw [Nat.div_div_eq_div_mul, ←Nat.pow_succ']
structure BW (w:World) (b o:Nat) (f:Cells) (bc nb:Nat) (so:Sl) (ol:List Nat):Prop where
 blk:Blk w b (bwC f o bc nb so)
 vec:Vec 1 w so (bytes .u8 ol)
 lt:bc<2^nb
 dis:b∉so.bs
theorem or_add {a x n:Nat} (h:a<2^n):a ||| (x*2^n)=a+x*2^n:=by
 rw [Nat.or_comm,Nat.mul_comm, ←Nat.two_pow_add_eq_or_of_lt h,Nat.add_comm]
theorem and63 {n:Nat} (h:n<64):andI .u8 (n:Int) 63=n:=by
 have:=andI_nat (k := .u8) rfl n 63 (by simp only [IntKind.bits];omega) (by decide)
 have e:n &&& 63=n%64:=Nat.and_two_pow_sub_one_eq_mod n 6
 rw [e,Nat.mod_eq_of_lt h] at this
 exact this
theorem put_bits {bc nb x m:Nat} (hlt:bc<2^nb) (hx:x<2^m) (hn:nb+m≤64) (hn2:nb<64) :
  orI .u64 (bc:Int) (shlI .u64 (x:Int) (nb:Int))=((bc+x*2^nb:Nat):Int)∧bc+x*2^nb<2^(nb+m):=by
 have h1:(x+1)*2^nb≤2^m*2^nb:=Nat.mul_le_mul_right _ hx
 rw [Nat.add_mul,Nat.one_mul, ←Nat.pow_add,Nat.add_comm m nb] at h1
 have h2:2^(nb+m)≤2^64:=Nat.pow_le_pow_right (by omega) hn
 have h3:=Nat.two_pow_pos nb
 refine ⟨?_,by omega⟩
 rw [shlI_u (k := .u64) rfl x nb (by simp only [IntKind.bits];omega)]
 simp only [IntKind.bits]
 rw [Nat.mod_eq_of_lt (by omega)]
 rw [orI_nat (k := .u64) rfl bc (x*2^nb) (by simp only [IntKind.bits];omega) (by simp only [IntKind.bits];omega),or_add hlt]
theorem bits_tail {w:World} {b o bc nb x m:Nat} {f:Cells} {so:Sl} {ol:List Nat} {κ:PT} (H:BW w b o f bc nb so ol) (hx:x<2^m) (hm:m≤16) (hn:nb+m≤64) (hn2:nb<64)
  (hk:∀w',BW w' b o f (bc+x*2^nb) (nb+m) so ol→Fm w w' [b]→κ w') :
  (st ⟨b,o,none⟩ (.int .u64 (orI .u64 (bc:Int) (shlI .u64 (x:Int) (nb:Int))))<|ld (.I .u8) ⟨b,o+1,none⟩ fun (n6:Int)=>st ⟨b,o+1,none⟩ (.int .u8 (IntKind.wrap .u8 (n6+(m:Int))))<|κ) w:=by
 obtain ⟨h1,h2⟩:=put_bits H.lt hx hn hn2
 rw [h1]
 refine st_b H.blk (by rw [bwC_0];rfl) rfl ?_
 have B1:=H.blk.setW (o:=o) (v := .int .u64 ((bc+x*2^nb:Nat):Int)) (by rw [bwC_0];rfl) (bwC0 _ _ _ _ _ _)
 have F1:Fm w (w.setCell ⟨b,o,none⟩ (.int .u64 ((bc+x*2^nb:Nat):Int))) [b]:=(Fm.refl w [b]).set (.inl (by simp))
 refine ld_b (t := .I .u8) (x:=(nb:Int)) B1 (bwC_1 _ _ _ _ _) ?_
 refine st_b B1 (by rw [bwC_1];rfl) rfl ?_
 rw [wU8 (by omega) (by omega), ←Int.natCast_add]
 have B2:=B1.setW (o:=o+1) (v := .int .u8 ((nb+m:Nat):Int)) (by rw [bwC_1];rfl) (bwC1 _ _ _ _ _ _)
 have F2:=F1.set (a:=⟨b,o+1,none⟩) (v := .int .u8 ((nb+m:Nat):Int)) (.inl (by simp))
 exact hk _ ⟨B2,H.vec.fr F2 (by intro y hy;simp;intro e;subst e;exact H.dis hy),h2,H.dis⟩ F2
def maskAt (w:World):Prop:=∀n,n≤16→w.cell? ⟨8,n,none⟩=some (.int .u16 ((2^n-1:Nat):Int))
theorem BW.drew {w:World} {b o bc nb:Nat} {f:Cells} {so:Sl} {ol:List Nat} (H:BW w b o f bc nb so ol):BW w.drew b o f bc nb so ol :=
 ⟨H.blk.drew,H.vec.fr (Fm.refl w []).drew (by simp),H.lt,H.dis⟩
theorem c157 {w:World} {b o bc nb v m:Nat} {f:Cells} {so:Sl} {ol:List Nat} {K:Unit→PT} (H:BW w b o f bc nb so ol) (hM:maskAt w) (hv:v<65536) (hm:m≤16) (hn:nb+m≤64) (hn2:nb<64)
  (hk:∀w',BW w' b o f (bc+v%2^m*2^nb) (nb+m) so ol→Fm w w' [b]→K () w'):callP Tryd.prog 157 #[.pointer (some ⟨b,o,none⟩),.int .u16 v,.int .u8 m] [] K w:=by
 apply q157_ok
 unfold q157 drw
 refine ld_b (t := .I .u64) (x:=(bc:Int)) H.drew.blk (bwC_0 _ _ _ _ _) ?_
 have e31:andI .u8 (m:Int) 31=m:=by
  have:=andI_nat (k := .u8) rfl m 31 (by simp only [IntKind.bits];omega) (by decide)
  have e:m &&& 31=m%32:=Nat.and_two_pow_sub_one_eq_mod m 5
  rw [e,Nat.mod_eq_of_lt (by omega)] at this
  exact this
 rw [e31]
 refine ixA_b (k:=m) rfl (by omega) ?_
 rw [Nat.zero_add,Nat.mul_one,add_mk]
 refine ld_c (t := .I .u16) (x:=((2^m-1:Nat):Int)) (hM m hm) ?_
 refine ld_b (t := .I .u8) (x:=(nb:Int)) H.drew.blk (bwC_1 _ _ _ _ _) ?_
 have hp:2^m≤2^16:=Nat.pow_le_pow_right (by omega) hm
 have ea:andI .u16 (v:Int) ((2^m-1:Nat):Int)=((v%2^m:Nat):Int):=by
  rw [andI_nat (k := .u16) rfl v (2^m-1) (by simp only [IntKind.bits];omega) (by simp only [IntKind.bits];omega),Nat.and_two_pow_sub_one_eq_mod]
 have hlt:v%2^m<2^m:=Nat.mod_lt _ (Nat.two_pow_pos _)
 rw [ea,and63 hn2,wU64 (x:=((v%2^m:Nat):Int)) (by omega) (by omega)]
 refine ⟨by omega,bits_tail H.drew hlt hm hn hn2 ?_⟩
 intro w' H' F'
 exact hk w' H' (((Fm.refl w [b]).drew).trans F' (fun x hx => .inl hx))
theorem c156 {w:World} {b o bc nb v m:Nat} {f:Cells} {so:Sl} {ol:List Nat} {K:Unit→PT} (H:BW w b o f bc nb so ol) (hv:v<65536) (hm:m≤16) (hn:nb+m≤64) (hn2:nb<64)
  (hk:∀w',BW w' b o f (bc+v%2^m*2^nb) (nb+m) so ol→Fm w w' [b]→K () w'):callP Tryd.prog 156 #[.pointer (some ⟨b,o,none⟩),.int .u16 v,.int .u8 m] [] K w:=by
 apply q156_ok
 unfold q156
 refine cnd_d ?_ ?_
 ·intro hc
  have:m=0:=by omega
  subst this
  rw [Nat.pow_zero,Nat.mod_one,Nat.zero_mul] at hk
  exact hk w H (Fm.refl w _)
 ·intro hc
  have e15:andI .u8 (IntKind.wrap .u8 ((16:Int)-(m:Int))) 15=((16-m:Nat):Int):=by
   rw [wU8 (by omega) (by omega),show (16:Int)-(m:Int)=((16-m:Nat):Int) by omega]
   have:=andI_nat (k := .u8) rfl (16-m) 15 (by simp only [IntKind.bits];omega) (by decide)
   have e:(16-m) &&& 15=(16-m)%16:=Nat.and_two_pow_sub_one_eq_mod (16-m) 4
   rw [e,Nat.mod_eq_of_lt (by omega)] at this
   exact this
  rw [e15]
  have ev:shrI .u16 (shlI .u16 (v:Int) ((16-m:Nat):Int)) ((16-m:Nat):Int)=((v%2^m:Nat):Int):=by
   rw [shlI_u (k := .u16) rfl v (16-m) (by simp only [IntKind.bits];omega)]
   simp only [IntKind.bits]
   rw [shrI_nat .u16 _ (16-m) (by simp only [IntKind.bits];omega)]
   congr 1
   rw [show (2:Nat)^16=2^m*2^(16-m) by rw [←Nat.pow_add,show m+(16-m)=16 by omega]]
   rw [Nat.mul_mod_mul_right,Nat.mul_div_cancel _ (Nat.two_pow_pos _)]
  rw [ev]
  have hlt:v%2^m<2^m:=Nat.mod_lt _ (Nat.two_pow_pos _)
  have hp:2^m≤2^16:=Nat.pow_le_pow_right (by omega) hm
  unfold drw
  refine ⟨by omega,by omega,?_⟩
  refine ld_b (t := .I .u64) (x:=(bc:Int)) H.drew.blk (bwC_0 _ _ _ _ _) ?_
  rw [add_mk]
  refine ld_b (t := .I .u8) (x:=(nb:Int)) H.drew.blk (bwC_1 _ _ _ _ _) ?_
  rw [and63 hn2,wU64 (x:=((v%2^m:Nat):Int)) (by omega) (by omega)]
  refine ⟨by omega,bits_tail H.drew hlt hm hn hn2 ?_⟩
  intro w' H' F'
  exact hk w' H' (((Fm.refl w [b]).drew).trans F' (fun x hx => .inl hx))
theorem c159 {w:World} {b o bc nb v m:Nat} {f:Cells} {so:Sl} {ol:List Nat} {K:Unit→PT} (H:BW w b o f bc nb so ol) (hv:v<2^m) (hm:m≤16) (hn:nb+m≤64) (hn2:nb<64)
  (hk:∀w',BW w' b o f (bc+v*2^nb) (nb+m) so ol→Fm w w' [b]→K () w'):callP Tryd.prog 159 #[.pointer (some ⟨b,o,none⟩),.int .u16 v,.int .u8 m] [] K w:=by
 apply q159_ok
 unfold q159 drw
 have hp:2^m≤2^16:=Nat.pow_le_pow_right (by omega) hm
 refine ld_b (t := .I .u64) (x:=(bc:Int)) H.drew.blk (bwC_0 _ _ _ _ _) ?_
 rw [add_mk]
 refine ld_b (t := .I .u8) (x:=(nb:Int)) H.drew.blk (bwC_1 _ _ _ _ _) ?_
 rw [and63 hn2,wU64 (x:=((v:Nat):Int)) (by omega) (by omega)]
 refine ⟨by omega,bits_tail H.drew hv hm hn hn2 ?_⟩
 intro w' H' F'
 exact hk w' H' (((Fm.refl w [b]).drew).trans F' (fun x hx => .inl hx))
theorem u8_shr {bc k:Nat} (h:bc<2^64):IntKind.u8.wrap (shrI .u64 (bc:Int) (k:Nat))=((bc/2^k%256:Nat):Int):=by
 rw [shrI_nat .u64 bc k (by simp only [IntKind.bits];exact h),wrap_u (k := .u8) rfl];rfl
theorem bytes_app (k:IntKind) (l m:List Nat):bytes k (l++m)=bytes k l++bytes k m:=by simp [bytes]
theorem BW.store {w:World} {b o bc nb:Nat} {f:Cells} {so s':Sl} {ol l':List Nat} {w':World} (H:BW w b o f bc nb so ol) (hv:Vec 1 w' s' (bytes .u8 l')) (F:Fm w w' so.bs) (hs:∀x∈s'.bs,x∈so.bs∨w.heap.size≤x) :
  Blk w' b (bwC f o bc nb so)∧BW (w'.setCell ⟨b,o+2,none⟩ (.slice s'.a s'.l s'.c)) b o f bc nb s' l'∧Fm w (w'.setCell ⟨b,o+2,none⟩ (.slice s'.a s'.l s'.c)) (b::so.bs):=by
 have B:=H.blk.fr F H.dis
 have hd:b∉s'.bs:=by
  intro hb
  rcases hs b hb with h|h
  ·exact H.dis h
  ·have:=H.blk.lt;omega
 refine ⟨B,⟨B.setW (by rw [bwC_2];rfl) (bwC2 _ _ _ _ _ _),hv.fr ((Fm.refl w' [b]).set (.inl (by simp))) ?_,H.lt,hd⟩,?_⟩
 ·intro y hy;simp;intro e;subst e;exact hd hy
 ·exact (F.mono (fun x hx => .inl (by simp [hx]))).set (.inl (by simp))
def Ext (w:World) (so so':Sl):Prop:=∀x∈so'.bs,x∈so.bs∨w.heap.size≤x
theorem c141 {w:World} {b o bc nb:Nat} {f:Cells} {so:Sl} {ol:List Nat} {K:Unit→PT} (H:BW w b o f bc nb so ol) (hn:nb≤64) (hol:ol.length<2^40)
  (h0:nb<32→K () w)
  (h1:32≤nb→∀w' so',BW w' b o f (bc/2^32) (nb-32) so' (ol++leB bc 4)→Fm w w' (b::so.bs)→Ext w so so'→K () w') :
  callP Tryd.prog 141 #[.pointer (some ⟨b,o,none⟩)] [] K w:=by
 apply q141_ok
 unfold q141
 simp only [add_mk]
 refine ld_b (t := .I .u8) (x:=(nb:Int)) H.blk (bwC_1 _ _ _ _ _) (cnd_d ?_ ?_)
 ·intro hc;exact h0 (by omega)
 ·intro hc
  have hc:32≤nb:=by omega
  have hbc:bc<2^64:=Nat.lt_of_lt_of_le H.lt (Nat.pow_le_pow_right (by omega) hn)
  unfold drw
  have HD:=H.drew
  refine ld_b (x:=so) HD.blk (bwC_2 _ _ _ _ _) ?_
  refine ld_b (t := .I .u64) (x:=(bc:Int)) HD.blk (bwC_0 _ _ _ _ _) ?_
  refine ld_b (t := .I .u64) (x:=(bc:Int)) HD.blk (bwC_0 _ _ _ _ _) ⟨by decide,?_⟩
  refine ld_b (t := .I .u64) (x:=(bc:Int)) HD.blk (bwC_0 _ _ _ _ _) ⟨by decide,?_⟩
  refine ld_b (t := .I .u64) (x:=(bc:Int)) HD.blk (bwC_0 _ _ _ _ _) ⟨by decide,?_⟩
  have hlen:=H.vec.len
  simp only [bytes,List.length_map,Nat.mul_one] at hlen
  have exs : [Value.int .u8 (IntKind.u8.wrap (bc:Int)),.int .u8 (IntKind.u8.wrap (shrI .u64 (bc:Int) 8)),.int .u8 (IntKind.u8.wrap (shrI .u64 (bc:Int) 16)),.int .u8 (IntKind.u8.wrap (shrI .u64 (bc:Int) 24))]=bytes .u8 (leB bc 4):=by
   rw [wrap_u (k := .u8) rfl bc]
   have e8:IntKind.u8.wrap (shrI .u64 (bc:Int) 8)=((bc/2^8%256:Nat):Int):=u8_shr (k:=8) hbc
   have e16:IntKind.u8.wrap (shrI .u64 (bc:Int) 16)=((bc/2^16%256:Nat):Int):=u8_shr (k:=16) hbc
   have e24:IntKind.u8.wrap (shrI .u64 (bc:Int) 24)=((bc/2^24%256:Nat):Int):=u8_shr (k:=24) hbc
   rw [e8,e16,e24]
   simp [bytes,leB,IntKind.bits,Nat.div_div_eq_div_mul]
  rw [exs]
  refine app_k (bytes .u8 (leB bc 4)) (by simp [bytes,leB_len]) HD.vec (by intro v hv;simp only [bytes,List.mem_map] at hv;obtain ⟨x,_,rfl⟩:=hv;rfl) (by simp [bytes,leB_len];omega) ?_ ?_
  ·intro f hf
   simp only [List.mem_cons,List.not_mem_nil,or_false] at hf
   subst hf
   exact (HD.blk.cell (o+2)).trans (bwC_2 _ _ _ _ _)
  ·intro s' w' hv' F' hs'
   rw [←bytes_app] at hv'
   obtain ⟨B1,H1,F1⟩:=HD.store hv' F' hs'
   refine st_b B1 (by rw [bwC_2];rfl) rfl ?_
   generalize w'.setCell ⟨b,o+2,none⟩ (.slice s'.a s'.l s'.c)=w2 at *
   refine ld_b (t := .I .u8) (x:=(nb:Int)) H1.blk (bwC_1 _ _ _ _ _) ?_
   rw [wU8 (by omega) (by omega),show (nb:Int)-32=((nb-32:Nat):Int) by omega]
   refine st_b H1.blk (by rw [bwC_1];rfl) rfl ?_
   have B3:=H1.blk.setW (o:=o+1) (v := .int .u8 ((nb-32:Nat):Int)) (by rw [bwC_1];rfl) (bwC1 _ _ _ _ _ _)
   have F3:=F1.set (a:=⟨b,o+1,none⟩) (v := .int .u8 ((nb-32:Nat):Int)) (.inl (by simp))
   have hV3:=H1.vec.fr ((Fm.refl w2 [b]).set (a:=⟨b,o+1,none⟩) (v := .int .u8 ((nb-32:Nat):Int)) (.inl (by simp))) (by intro y hy;simp;intro e;subst e;exact H1.dis hy)
   generalize w2.setCell ⟨b,o+1,none⟩ (.int .u8 ((nb-32:Nat):Int))=w3 at *
   refine ld_b (t := .I .u64) (x:=(bc:Int)) B3 (bwC_0 _ _ _ _ _) ⟨by decide,?_⟩
   have es:shrI .u64 (bc:Int) 32=((bc/2^32:Nat):Int):=shrI_nat .u64 bc 32 (by simp only [IntKind.bits];exact hbc)
   rw [es]
   refine st_b B3 (by rw [bwC_0];rfl) rfl ?_
   have B4:=B3.setW (o:=o) (v := .int .u64 ((bc/2^32:Nat):Int)) (by rw [bwC_0];rfl) (bwC0 _ _ _ _ _ _)
   have F4:=F3.set (a:=⟨b,o,none⟩) (v := .int .u64 ((bc/2^32:Nat):Int)) (.inl (by simp))
   have hV4:=hV3.fr ((Fm.refl w3 [b]).set (a:=⟨b,o,none⟩) (v := .int .u64 ((bc/2^32:Nat):Int)) (.inl (by simp))) (by intro y hy;simp;intro e;subst e;exact H1.dis hy)
   refine h1 hc _ s' ⟨B4,hV4,?_,H1.dis⟩ (((Fm.refl w _).drew).trans F4 (fun x hx => .inl hx)) hs'
   have:=H.lt
   rw [Nat.div_lt_iff_lt_mul (Nat.two_pow_pos _), ←Nat.pow_add,show nb-32+32=nb by omega]
   exact this
theorem c160 {w:World} {b o bc nb:Nat} {f:Cells} {so:Sl} {ol:List Nat} {K:Unit→PT} (H:BW w b o f bc nb so ol) (hn:nb≤64) (hol:ol.length<2^40)
  (hk:∀w' so',BW w' b o f 0 0 so' (ol++leB bc ((nb+7)/8))→Fm w w' (b::so.bs)→Ext w so so'→K () w') :
  callP Tryd.prog 160 #[.pointer (some ⟨b,o,none⟩)] [] K w:=by
 apply q160_ok
 unfold q160
 simp only [add_mk]
 refine ld_b (t := .I .u8) (x:=(nb:Int)) H.blk (bwC_1 _ _ _ _ _) ⟨by decide,?_⟩
 have hbc:bc<2^64:=Nat.lt_of_lt_of_le H.lt (Nat.pow_le_pow_right (by omega) hn)
 have en:shrI .u8 (IntKind.u8.wrap ((nb:Int)+7)) 3=(((nb+7)/8:Nat):Int):=by
  rw [wU8 (by omega) (by omega)]
  exact shrI_nat .u8 (nb+7) 3 (by simp only [IntKind.bits];omega)
 refine ⟨fun _ w'=>∃so',BW w' b o f bc nb so' (ol++leB bc ((nb+7)/8))∧Fm w w' (b::so.bs)∧Ext w so so',?_,?_⟩
 ·rintro _ w' ⟨so',H',F',E'⟩
  unfold q160_J1
  simp only [add_mk]
  refine st_b H'.blk (by rw [bwC_1];rfl) rfl ?_
  have B3:=H'.blk.setW (o:=o+1) (v := .int .u8 ((0:Nat):Int)) (by rw [bwC_1];rfl) (bwC1 _ _ _ _ _ _)
  have F3:=F'.set (a:=⟨b,o+1,none⟩) (v := .int .u8 ((0:Nat):Int)) (.inl (by simp))
  have hV3:=H'.vec.fr ((Fm.refl w' [b]).set (a:=⟨b,o+1,none⟩) (v := .int .u8 ((0:Nat):Int)) (.inl (by simp))) (by intro y hy;simp;intro e;subst e;exact H'.dis hy)
  rw [show ((0:Int))=((0:Nat):Int) from rfl]
  generalize w'.setCell ⟨b,o+1,none⟩ (.int .u8 ((0:Nat):Int))=w3 at *
  refine st_b B3 (by rw [bwC_0];rfl) rfl ?_
  have B4:=B3.setW (o:=o) (v := .int .u64 ((0:Nat):Int)) (by rw [bwC_0];rfl) (bwC0 _ _ _ _ _ _)
  have F4:=F3.set (a:=⟨b,o,none⟩) (v := .int .u64 ((0:Nat):Int)) (.inl (by simp))
  have hV4:=hV3.fr ((Fm.refl w3 [b]).set (a:=⟨b,o,none⟩) (v := .int .u64 ((0:Nat):Int)) (.inl (by simp))) (by intro y hy;simp;intro e;subst e;exact H'.dis hy)
  exact hk _ so' ⟨B4,hV4,by decide,H'.dis⟩ F4 E'
 ·refine ⟨fun x w'=>∃(i:Nat) (so':Sl),x=(i:Int)∧i≤(nb+7)/8∧BW w' b o f bc nb so' (ol++leB bc i)∧Fm w w' (b::so.bs)∧Ext w so so',fun x _=>(nb+7)/8-x.toNat,⟨0,so,rfl,Nat.zero_le _,by simpa [leB] using H,Fm.refl w _,fun x hx => .inl hx⟩,?_⟩
  rintro x w' ⟨i,so',rfl,hi,H',F',E'⟩
  unfold q160_L0
  rw [en]
  simp only [add_mk]
  refine cnd_d ?_ ?_
  ·intro hc
   have hi2:i<(nb+7)/8:=by omega
   unfold drw
   have HD:=H'.drew
   refine ld_b (x:=so') HD.blk (bwC_2 _ _ _ _ _) ?_
   refine ld_b (t := .I .u64) (x:=(bc:Int)) HD.blk (bwC_0 _ _ _ _ _) ?_
   have e8:IntKind.u8.wrap ((i:Int)*8)=((8*i:Nat):Int):=by rw [wU8 (by omega) (by omega)];omega
   rw [e8,u8_shr hbc]
   refine ⟨by omega,?_⟩
   have hlen:=H'.vec.len
   simp only [bytes,List.length_map,Nat.mul_one,List.length_append,leB_len] at hlen
   refine app_k [.int .u8 ((bc/2^(8*i)%256:Nat):Int)] rfl HD.vec (by simp [one]) (by simp;omega) ?_ ?_
   ·intro f hf
    simp only [List.mem_cons,List.not_mem_nil,or_false] at hf
    subst hf
    exact (HD.blk.cell (o+2)).trans (bwC_2 _ _ _ _ _)
   ·intro s' w2 hv' F2 hs'
    have e9:bytes .u8 (ol++leB bc i) ++ [.int .u8 ((bc/2^(8*i)%256:Nat):Int)]=bytes .u8 (ol++leB bc (i+1)):=by
     rw [leB_snoc,show (256:Nat)^i=2^(8*i) by rw [Nat.pow_mul], ←List.append_assoc,bytes_app _ (ol++leB bc i)];rfl
    rw [e9] at hv'
    obtain ⟨B1,H1,F1⟩:=HD.store hv' F2 hs'
    refine st_b B1 (by rw [bwC_2];rfl) rfl ?_
    rw [wU8 (by omega) (by omega)]
    refine ⟨⟨i+1,s',by simp,by omega,H1,F'.drew.trans F1 ?_,?_⟩,by omega⟩
    ·intro x hx
     rcases List.mem_cons.mp hx with h|h
     ·left;simp [h]
     ·rcases E' x h with h|h
      ·left;simp [h]
      ·right;exact h
    ·intro x hx
     rcases hs' x hx with h|h
     ·exact E' x h
     ·right;have h3:=F'.size;have h4:w'.heap.size≤x:=h;omega
  ·intro hc
   have hi2:i=(nb+7)/8:=by omega
   subst hi2
   exact ⟨so',H',F',E'⟩
theorem c144 {w:World} {b o bc nb:Nat} {f:Cells} {so:Sl} {ol:List Nat} {K:Unit→PT} (H:BW w b o f bc nb so ol) (hn:nb≤63) (hol:ol.length<2^40)
  (hk:∀w' so',BW w' b o f 0 0 so' (ol++leB (bc+2^nb) ((nb+1+7)/8))→Fm w w' (b::so.bs)→Ext w so so'→K () w') :
  callP Tryd.prog 144 #[.pointer (some ⟨b,o,none⟩)] [] K w:=by
 apply q144_ok
 unfold q144
 refine c159 (v:=1) (m:=1) H (by decide) (by omega) (by omega) (by omega) ?_
 intro w1 H1 F1
 rw [Nat.one_mul] at H1
 refine c160 H1 (by omega) hol ?_
 intro w2 so' H2 F2 E2
 exact hk w2 so' H2 ((F1.mono (fun x hx => .inl (by simp at hx;simp [hx]))).trans F2 (fun x hx => .inl hx)) (by
  intro x hx
  rcases E2 x hx with h|h
  ·exact .inl h
  ·right;have:=F1.size;omega)
theorem flush_tail {w w0:World} {b o bc nb:Nat} {f:Cells} {so so':Sl} {ol:List Nat} {K:Unit→PT} (H:BW w b o f bc nb so' (ol++leB bc (nb/8))) (hn:nb<64) (F:Fm w0 w (b::so.bs)) (E:Ext w0 so so')
  (hk:∀w' so',BW w' b o f (bc/2^(8*(nb/8))) (nb%8) so' (ol++leB bc (nb/8))→Fm w0 w' (b::so.bs)→Ext w0 so so'→K () w'):q158_J0 ⟨b,o,none⟩ K nb () w:=by
 unfold q158_J0
 simp only [add_mk]
 have hbc:bc<2^64:=Nat.lt_of_lt_of_le H.lt (Nat.pow_le_pow_right (by omega) (by omega))
 have e1:shrI .u8 (nb:Int) 3=((nb/8:Nat):Int):=shrI_nat .u8 nb 3 (by simp only [IntKind.bits];omega)
 have e2:shlI .u8 ((nb/8:Nat):Int) 3=((8*(nb/8):Nat):Int):=by
  have:=shlI_u (k := .u8) rfl (nb/8) 3 (by decide)
  simp only [IntKind.bits] at this
  rw [Nat.mod_eq_of_lt (by omega)] at this
  rw [Nat.mul_comm 8];exact this
 have e3:shrI .u64 (bc:Int) ((8*(nb/8):Nat):Int)=((bc/2^(8*(nb/8)):Nat):Int):=shrI_nat .u64 bc _ (by simp only [IntKind.bits];exact hbc)
 have e4:andI .u8 (nb:Int) 7=((nb%8:Nat):Int):=by
  have:=andI_nat (k := .u8) rfl nb 7 (by simp only [IntKind.bits];omega) (by decide)
  have e:nb &&& 7=nb%8:=Nat.and_two_pow_sub_one_eq_mod nb 3
  rw [e] at this;exact this
 rw [e1,e2]
 refine ld_b (t := .I .u64) (x:=(bc:Int)) H.blk (bwC_0 _ _ _ _ _) ⟨by decide,by omega,?_⟩
 rw [e3]
 refine st_b H.blk (by rw [bwC_0];rfl) rfl ?_
 have B3:=H.blk.setW (o:=o) (v := .int .u64 ((bc/2^(8*(nb/8)):Nat):Int)) (by rw [bwC_0];rfl) (bwC0 _ _ _ _ _ _)
 have F3:=F.set (a:=⟨b,o,none⟩) (v := .int .u64 ((bc/2^(8*(nb/8)):Nat):Int)) (.inl (by simp))
 have hV3:=H.vec.fr ((Fm.refl w [b]).set (a:=⟨b,o,none⟩) (v := .int .u64 ((bc/2^(8*(nb/8)):Nat):Int)) (.inl (by simp))) (by intro y hy;simp;intro e;subst e;exact H.dis hy)
 generalize w.setCell ⟨b,o,none⟩ (.int .u64 ((bc/2^(8*(nb/8)):Nat):Int))=w3 at *
 refine ld_b (t := .I .u8) (x:=(nb:Int)) B3 (bwC_1 _ _ _ _ _) ?_
 rw [e4]
 refine st_b B3 (by rw [bwC_1];rfl) rfl ?_
 have B4:=B3.setW (o:=o+1) (v := .int .u8 ((nb%8:Nat):Int)) (by rw [bwC_1];rfl) (bwC1 _ _ _ _ _ _)
 have F4:=F3.set (a:=⟨b,o+1,none⟩) (v := .int .u8 ((nb%8:Nat):Int)) (.inl (by simp))
 have hV4:=hV3.fr ((Fm.refl w3 [b]).set (a:=⟨b,o+1,none⟩) (v := .int .u8 ((nb%8:Nat):Int)) (.inl (by simp))) (by intro y hy;simp;intro e;subst e;exact H.dis hy)
 refine hk _ so' ⟨B4,hV4,?_,H.dis⟩ F4 E
 have:=H.lt
 rw [Nat.div_lt_iff_lt_mul (Nat.two_pow_pos _), ←Nat.pow_add,show nb%8+8*(nb/8)=nb by omega]
 exact this
theorem flush_app {w:World} {b o bc nb:Nat} {f:Cells} {so:Sl} {ol:List Nat} {K:Unit→PT} {fs:List (Addr×Value)} {xs:List Value} {k:Nat} (H:BW w b o f bc nb so ol) (hn:nb<64) (hol:ol.length<2^40) (hkk:k=nb/8) (hx:xs=bytes .u8 (leB bc k))
  (hf:∀f∈fs,w.cell? f.1=some f.2)
  (hk:∀w' so',BW w' b o f (bc/2^(8*(nb/8))) (nb%8) so' (ol++leB bc (nb/8))→Fm w w' (b::so.bs)→Ext w so so'→K () w') :
  nw xs 5 (fun p=>kp fs (app z5 5 1 so ⟨some p,k,k⟩ fun s'=>st ⟨b,o+2,none⟩ (.slice s'.a s'.l s'.c)<|q158_J0 ⟨b,o,none⟩ K nb ())) w:=by
 subst hkk hx
 have hlen:=H.vec.len
 simp only [bytes,List.length_map,Nat.mul_one] at hlen
 refine app_k (bytes .u8 (leB bc (nb/8))) (by simp [bytes,leB_len]) H.vec (by intro v hv;simp only [bytes,List.mem_map] at hv;obtain ⟨x,_,rfl⟩:=hv;rfl) (by simp [bytes,leB_len];omega) hf ?_
 intro s' w' hv' F' hs'
 rw [←bytes_app] at hv'
 obtain ⟨B1,H1,F1⟩:=H.store hv' F' hs'
 refine st_b B1 (by rw [bwC_2];rfl) rfl ?_
 exact flush_tail H1 hn F1 hs' hk
theorem c158 {w:World} {b o bc nb:Nat} {f:Cells} {so:Sl} {ol:List Nat} {K:Unit→PT} (H:BW w b o f bc nb so ol) (hn:nb<40) (hol:ol.length<2^40)
  (hk:∀w' so',BW w' b o f (bc/2^(8*(nb/8))) (nb%8) so' (ol++leB bc (nb/8))→Fm w w' (b::so.bs)→Ext w so so'→K () w') :
  callP Tryd.prog 158 #[.pointer (some ⟨b,o,none⟩)] [] K w:=by
 apply q158_ok
 unfold q158
 simp only [add_mk]
 refine ld_b (t := .I .u8) (x:=(nb:Int)) H.blk (bwC_1 _ _ _ _ _) ⟨by decide,?_⟩
 have hbc:bc<2^64:=Nat.lt_of_lt_of_le H.lt (Nat.pow_le_pow_right (by omega) (by omega))
 have e1:shrI .u8 (nb:Int) 3=((nb/8:Nat):Int):=shrI_nat .u8 nb 3 (by simp only [IntKind.bits];omega)
 refine joinP_id ?_
 unfold q158_X1
 rw [e1]
 simp only [add_mk]
 have HD:=H.drew
 have hk2:∀w' so',BW w' b o f (bc/2^(8*(nb/8))) (nb%8) so' (ol++leB bc (nb/8))→Fm w.drew w' (b::so.bs)→Ext w.drew so so'→K () w':=fun w' so' h1 h2 h3=>hk w' so' h1 (((Fm.refl w _).drew).trans h2 (fun x hx => .inl hx)) h3
 have L0:∀ {κ:Int→PT},κ (bc:Int) w.drew→ld (.I .u64) ⟨b,o,none⟩ κ w.drew:=fun h=>ld_b (t := .I .u64) (x:=(bc:Int)) HD.blk (bwC_0 _ _ _ _ _) h
 have fsok:∀f ∈ [((⟨b,o+2,none⟩:Addr),Value.slice so.a so.l so.c)],w.drew.cell? f.1=some f.2:=by
  intro f hf
  simp only [List.mem_cons,List.not_mem_nil,or_false] at hf
  subst hf
  exact (HD.blk.cell (o+2)).trans (bwC_2 _ _ _ _ _)
 have e8:IntKind.u8.wrap (shrI .u64 (bc:Int) 8)=((bc/2^8%256:Nat):Int):=u8_shr (k:=8) hbc
 have e16:IntKind.u8.wrap (shrI .u64 (bc:Int) 16)=((bc/2^16%256:Nat):Int):=u8_shr (k:=16) hbc
 have e24:IntKind.u8.wrap (shrI .u64 (bc:Int) 24)=((bc/2^24%256:Nat):Int):=u8_shr (k:=24) hbc
 refine cnd_d ?_ ?_
 ·intro hc
  have hz:nb/8=0:=by omega
  refine flush_tail (so:=so) ?_ (by omega) (Fm.refl w _) (fun x hx => .inl hx) hk
  rw [hz];simpa [leB] using H
 intro hc0
 refine cnd_d ?_ ?_
 ·intro hc
  refine ld_b (x:=so) HD.blk (bwC_2 _ _ _ _ _) (L0 ?_)
  refine flush_app (k:=1) HD (by omega) hol (by omega) ?_ fsok hk2
  rw [wrap_u (k := .u8) rfl bc];simp [bytes,leB,IntKind.bits]
 intro hc1
 refine cnd_d ?_ ?_
 ·intro hc
  refine ld_b (x:=so) HD.blk (bwC_2 _ _ _ _ _) (L0 (L0 ⟨by decide,?_⟩))
  refine flush_app (k:=2) HD (by omega) hol (by omega) ?_ fsok hk2
  rw [wrap_u (k := .u8) rfl bc,e8];simp [bytes,leB,IntKind.bits,Nat.div_div_eq_div_mul]
 intro hc2
 refine cnd_d ?_ ?_
 ·intro hc
  refine ld_b (x:=so) HD.blk (bwC_2 _ _ _ _ _) (L0 (L0 ⟨by decide,L0 ⟨by decide,?_⟩⟩))
  refine flush_app (k:=3) HD (by omega) hol (by omega) ?_ fsok hk2
  rw [wrap_u (k := .u8) rfl bc,e8,e16];simp [bytes,leB,IntKind.bits,Nat.div_div_eq_div_mul]
 intro hc3
 refine cnd_d ?_ ?_
 ·intro hc
  refine ld_b (x:=so) HD.blk (bwC_2 _ _ _ _ _) (L0 (L0 ⟨by decide,L0 ⟨by decide,L0 ⟨by decide,?_⟩⟩⟩))
  refine flush_app (k:=4) HD (by omega) hol (by omega) ?_ fsok hk2
  rw [wrap_u (k := .u8) rfl bc,e8,e16,e24];simp [bytes,leB,IntKind.bits,Nat.div_div_eq_div_mul]
 intro hc4
 exact absurd (show nb/8≤4 by omega) (by omega)
def csC (p:Addr) (sl:Sl) (x:Int):Cells:=fun i=>match i with
 | 0=>some (.pointer (some p))
 | 1=>some (.slice sl.a sl.l sl.c)
 | 2=>some (.int .u16 x)
 | _=>none
theorem csC2 (p:Addr) (sl:Sl) (x y:Int):updC (csC p sl x) 2 (.int .u16 y)=csC p sl y:=by
 funext i;rcases i with _|_|_|i<;>simp [updC,csC]
def ttC (df dn:Int):Cells:=fun i=>match i with
 | 0=>some (.int .i32 df)
 | 1=>some (.int .u32 dn)
 | _=>none
theorem nw_tt {w:World} {df dn:Int} {κ:Addr→PT} (hk:∀w',Fm w w' []→w'.heap.size=w.heap.size+1→Blk w' w.heap.size (ttC df dn)→κ ⟨w.heap.size,0,none⟩ w'):nw [(.int .i32 df),(.int .u32 dn)] 210 κ w :=
 hk _ (Fm.refl w []).alloc (World.size_alloc _ _) (Blk.new.congr (by funext i;rcases i with _|_|i<;>simp [ttC]))
theorem and15 {n:Nat} (h:n<16):andI .u32 (n:Int) 15=n:=by
 have:=andI_nat (k := .u32) rfl n 15 (by simp only [IntKind.bits];omega) (by decide)
 have e:n &&& 15=n%16:=Nat.and_two_pow_sub_one_eq_mod n 4
 rw [e,Nat.mod_eq_of_lt h] at this
 exact this
theorem BW.fr {w w':World} {b o bc nb:Nat} {f:Cells} {so:Sl} {ol:List Nat} {S:List Nat} (H:BW w b o f bc nb so ol) (F:Fm w w' S) (h1:b∉S) (h2:∀x∈so.bs,x∉S):BW w' b o f bc nb so ol :=
 ⟨H.blk.fr F h1,H.vec.fr F h2,H.lt,H.dis⟩
theorem c140 {w:World} {b o bc nb c x m j stb n cap y:Nat} {q df dn:Int} {f:Cells} {so:Sl} {ol:List Nat} {g:Cells} {K:Unit→PT} (H:BW w b o f bc nb so ol) (HC:Blk w c (csC ⟨b,o,none⟩ ⟨some ⟨stb,0,none⟩,n,cap⟩ x))
  (HT:Blk w stb g) (hcb:c≠b) (hcs:c∉so.bs) (hsb:stb≠b) (hsc:stb≠c) (hx:x<65536) (hq:IntKind.u32.wrap ((x:Int)+dn)=q) (hm:q/65536=(m:Nat)) (hq0:0≤q) (hq1:q<4294967296) (hm5:m<16)
  (hj:((x/2^m:Nat):Int)+df=(j:Nat)) (hjn:j<n) (hn16:n≤65536) (hgj:g j=some (.int .u16 (y:Nat))) (hn:nb+m≤64) (hn2:nb<64)
  (hk:∀w',BW w' b o f (bc+x%2^m*2^nb) (nb+m) so ol→Blk w' c (csC ⟨b,o,none⟩ ⟨some ⟨stb,0,none⟩,n,cap⟩ y)→Fm w w' [b,c]→K () w') :
  callP Tryd.prog 140 #[.pointer (some ⟨c,0,none⟩),.agg ⟨[.int .i32 df,.int .u32 dn]⟩] [] K w:=by
 apply q140_ok (r1:=(df,dn))
 unfold q140
 refine nw_tt ?_
 intro w1 F1 hs1 B1
 unfold drw
 have HC1:Blk w1 c (csC ⟨b,o,none⟩ ⟨some ⟨stb,0,none⟩,n,cap⟩ x):=HC.fr F1 (by simp)
 simp only [add_mk]
 have es:shrI .u32 q 16=(m:Int):=by
  have:=shrI_nat .u32 q.toNat 16 (by simp only [IntKind.bits];omega)
  rw [show ((q.toNat:Nat):Int)=q by omega] at this
  rw [show (16:Int)=((16:Nat):Int) from rfl,this, ←hm];omega
 refine ld_b (t := .I .u16) (x:=(x:Int)) HC1.drew rfl ?_
 refine ld_b (t := .I .u32) (x:=dn) B1.drew rfl ⟨by decide,?_⟩
 refine ld_b (t := .I .u16) (x:=(x:Int)) HC1.drew.drew rfl ?_
 rw [wU32 (x:=(x:Int)) (by omega) (by omega),hq,es,and15 hm5]
 refine ⟨by omega,?_⟩
 refine ld_b (t := .I .i32) (x:=df) B1.drew.drew rfl ?_
 refine ld_b (t := .P) (x:=some ⟨b,o,none⟩) HC1.drew.drew.drew rfl ?_
 refine ld_b (t := .I .u16) (x:=(x:Int)) HC1.drew.drew.drew rfl ?_
 have F13:Fm w w1.drew.drew.drew []:=F1.drew.drew.drew
 have HD:BW w1.drew.drew.drew b o f bc nb so ol:=H.fr F13 (by simp) (by simp)
 have HT3:=HT.fr F13 (by simp)
 have HC3:=HC.fr F13 (by simp)
 generalize w1.drew.drew.drew=w3 at *
 rw [wU8 (x:=(m:Int)) (by omega) (by omega)]
 refine c156 (v:=x) (m:=m) HD hx (by omega) hn hn2 ?_
 intro w4 H4 F4
 have HC4:Blk w4 c (csC ⟨b,o,none⟩ ⟨some ⟨stb,0,none⟩,n,cap⟩ x):=HC3.fr F4 (by simpa using hcb)
 have HT4:=HT3.fr F4 (by simpa using hsb)
 refine ld_b (t := .S) (x:=⟨some ⟨stb,0,none⟩,n,cap⟩) HC4 rfl ?_
 have ex:shrI .u16 (x:Int) (m:Int)=((x/2^m:Nat):Int):=shrI_nat .u16 x m (by simp only [IntKind.bits];omega)
 have hxm:x/2^m≤x:=Nat.div_le_self _ _
 have hx0:(0:Int)≤((x/2^m:Nat):Int):=Int.natCast_nonneg _
 have hx1:((x/2^m:Nat):Int)≤(x:Int):=Int.ofNat_le.mpr hxm
 rw [ex,wI32 (x:=((x/2^m:Nat):Int)) (Int.le_trans (by decide) hx0) (Int.lt_of_le_of_lt hx1 (by omega)),hj,wI32 (by omega) (by omega)]
 refine ixS1 rfl hjn ?_
 refine ld_b (t := .I .u16) (x:=(y:Int)) HT4 hgj ?_
 refine st_b HC4 rfl rfl ?_
 have HC5:=HC4.setW (o:=0+2) (v := .int .u16 (y:Nat)) rfl (csC2 _ _ _ _)
 refine hk _ (H4.fr ((Fm.refl w4 [c]).set (.inl (by simp))) (by simp;exact Ne.symm hcb) (by intro z hz;simp;intro e;subst e;exact hcs hz)) HC5 ?_
 exact ((F13.mono (by simp)).trans (F4.mono (S' := [b,c]) (by simp)) (fun x hx => .inl hx)).set (.inl (by simp))
theorem c142 {w:World} {b o bc nb c x m j stb n cap y:Nat} {q df dn:Int} {f:Cells} {so:Sl} {ol:List Nat} {g:Cells} {K:Unit→PT} (H:BW w b o f bc nb so ol) (HC:Blk w c (csC ⟨b,o,none⟩ ⟨some ⟨stb,0,none⟩,n,cap⟩ x))
  (HT:Blk w stb g) (hcb:c≠b) (hcs:c∉so.bs) (hsb:stb≠b) (hsc:stb≠c) (hM:∀w',Fm w w' []→maskAt w') (hx:x<65536) (hq:IntKind.u32.wrap ((x:Int)+dn)=q) (hm:q/65536=(m:Nat)) (hq0:0≤q) (hq1:q<4294967296) (hm5:m<16)
  (hj:((x/2^m:Nat):Int)+df=(j:Nat)) (hjn:j<n) (hn16:n≤65536) (hgj:g j=some (.int .u16 (y:Nat))) (hn:nb+m≤64) (hn2:nb<64)
  (hk:∀w',BW w' b o f (bc+x%2^m*2^nb) (nb+m) so ol→Blk w' c (csC ⟨b,o,none⟩ ⟨some ⟨stb,0,none⟩,n,cap⟩ y)→Fm w w' [b,c]→K () w') :
  callP Tryd.prog 142 #[.pointer (some ⟨c,0,none⟩),.agg ⟨[.int .i32 df,.int .u32 dn]⟩] [] K w:=by
 apply q142_ok (r1:=(df,dn))
 unfold q142
 refine nw_tt ?_
 intro w1 F1 hs1 B1
 unfold drw
 have HC1:Blk w1 c (csC ⟨b,o,none⟩ ⟨some ⟨stb,0,none⟩,n,cap⟩ x):=HC.fr F1 (by simp)
 simp only [add_mk]
 have es:shrI .u32 q 16=(m:Int):=by
  have:=shrI_nat .u32 q.toNat 16 (by simp only [IntKind.bits];omega)
  rw [show ((q.toNat:Nat):Int)=q by omega] at this
  rw [show (16:Int)=((16:Nat):Int) from rfl,this, ←hm];omega
 refine ld_b (t := .I .u16) (x:=(x:Int)) HC1.drew rfl ?_
 refine ld_b (t := .I .u32) (x:=dn) B1.drew rfl ⟨by decide,?_⟩
 refine ld_b (t := .I .u16) (x:=(x:Int)) HC1.drew.drew rfl ?_
 rw [wU32 (x:=(x:Int)) (by omega) (by omega),hq,es,and15 hm5]
 refine ⟨by omega,?_⟩
 refine ld_b (t := .I .i32) (x:=df) B1.drew.drew rfl ?_
 refine ld_b (t := .P) (x:=some ⟨b,o,none⟩) HC1.drew.drew.drew rfl ?_
 refine ld_b (t := .I .u16) (x:=(x:Int)) HC1.drew.drew.drew rfl ?_
 have F13:Fm w w1.drew.drew.drew []:=F1.drew.drew.drew
 have HD:BW w1.drew.drew.drew b o f bc nb so ol:=H.fr F13 (by simp) (by simp)
 have HT3:=HT.fr F13 (by simp)
 have HC3:=HC.fr F13 (by simp)
 generalize w1.drew.drew.drew=w3 at *
 rw [wU8 (x:=(m:Int)) (by omega) (by omega)]
 refine c157 (v:=x) (m:=m) HD (hM _ F13) hx (by omega) hn hn2 ?_
 intro w4 H4 F4
 have HC4:Blk w4 c (csC ⟨b,o,none⟩ ⟨some ⟨stb,0,none⟩,n,cap⟩ x):=HC3.fr F4 (by simpa using hcb)
 have HT4:=HT3.fr F4 (by simpa using hsb)
 refine ld_b (t := .S) (x:=⟨some ⟨stb,0,none⟩,n,cap⟩) HC4 rfl ?_
 have ex:shrI .u16 (x:Int) (m:Int)=((x/2^m:Nat):Int):=shrI_nat .u16 x m (by simp only [IntKind.bits];omega)
 have hxm:x/2^m≤x:=Nat.div_le_self _ _
 have hx0:(0:Int)≤((x/2^m:Nat):Int):=Int.natCast_nonneg _
 have hx1:((x/2^m:Nat):Int)≤(x:Int):=Int.ofNat_le.mpr hxm
 rw [ex,wI32 (x:=((x/2^m:Nat):Int)) (Int.le_trans (by decide) hx0) (Int.lt_of_le_of_lt hx1 (by omega)),hj,wI32 (by omega) (by omega)]
 refine ixS1 rfl hjn ?_
 refine ld_b (t := .I .u16) (x:=(y:Int)) HT4 hgj ?_
 refine st_b HC4 rfl rfl ?_
 have HC5:=HC4.setW (o:=0+2) (v := .int .u16 (y:Nat)) rfl (csC2 _ _ _ _)
 refine hk _ (H4.fr ((Fm.refl w4 [c]).set (.inl (by simp))) (by simp;exact Ne.symm hcb) (by intro z hz;simp;intro e;subst e;exact hcs hz)) HC5 ?_
 exact ((F13.mono (by simp)).trans (F4.mono (S' := [b,c]) (by simp)) (fun x hx => .inl hx)).set (.inl (by simp))
structure Fq (w w':World) (P:Nat→Prop):Prop where
 os:w'.os=w.os
 tape:w'.tape=w.tape
 out:w'.output=w.output
 size:w.heap.size≤w'.heap.size
 old:∀b,b<w.heap.size→¬P b→w'.heap[b]? = w.heap[b]?
theorem Fq.refl (w:World) (P:Nat→Prop):Fq w w P:=⟨rfl,rfl,rfl,Nat.le_refl _,fun _ _ _=>rfl⟩
theorem Fq.trans {w w1 w2:World} {P:Nat→Prop} (h:Fq w w1 P) (h':Fq w1 w2 P):Fq w w2 P :=
 ⟨h'.os.trans h.os,h'.tape.trans h.tape,h'.out.trans h.out,Nat.le_trans h.size h'.size,fun b hb hp=>by
  have:=h.size
  rw [h'.old b (by omega) hp,h.old b hb hp]⟩
theorem Fq.mono {w w':World} {P Q:Nat→Prop} (h:Fq w w' P) (hpq:∀x,P x→Q x):Fq w w' Q:=⟨h.os,h.tape,h.out,h.size,fun b hb hq=>h.old b hb fun hp=>hq (hpq b hp)⟩
theorem Fm.fq {w w':World} {S:List Nat} {P:Nat→Prop} (h:Fm w w' S) (hp:∀x∈S,P x):Fq w w' P:=⟨h.os,h.tape,h.out,h.size,fun b hb hq=>h.old b hb fun hs=>hq (hp b hs)⟩
theorem Fq.fm {w w':World} {S:List Nat} {P:Nat→Prop} (h:Fq w w' P) (hp:∀x,P x→x∈S∨w.heap.size≤x):Fm w w' S:=⟨h.os,h.tape,h.out,h.size,fun b hb hs=>h.old b hb fun hq=>by
 rcases hp b hq with h1|h1
 ·exact hs h1
 ·omega⟩
theorem Blk.fq {w w':World} {b:Nat} {f:Cells} {P:Nat→Prop} (h:Blk w b f) (h':Fq w w' P) (hS:¬P b):Blk w' b f :=
 ⟨fun i=>(cell?_of_heap (h'.old b h.lt hS) i none).trans (h.cell i),fun i=>(frozen?_of_heap (h'.old b h.lt hS) i none).trans (h.froz i),Nat.lt_of_lt_of_le h.lt h'.size⟩
theorem Arr.fq {k:IntKind} {w w':World} {s:Sl} {l:List Nat} {P:Nat→Prop} (h:Arr k w s l) (h':Fq w w' P) (hS:∀a,s.a=some a→l ≠ []→¬P a.block):Arr k w' s l:=by
 refine ⟨h.len,h.cap,h.non,?_⟩
 intro b hb i hi
 have h1:=h.get b hb i hi
 rw [←h1]
 have h2:=World.block_lt_of_cell? _ _ h1
 have h3:(b.add i).block=b.block:=by unfold Addr.add;split<;>rfl
 rw [h3] at h2
 have h4:=h'.old b.block h2 (hS b hb (by intro e;subst e;simp at hi))
 have h5:b.add i=⟨b.block,(b.add i).off,(b.add i).spot⟩:=by rw [←h3]
 rw [h5]
 exact cell?_of_heap h4 _ _
theorem maskAt.fq {w w':World} {P:Nat→Prop} (h:maskAt w) (h':Fq w w' P) (hp:¬P 8):maskAt w':=by
 intro n hn
 have h1:=h n hn
 have h2:=World.block_lt_of_cell? _ _ h1
 rw [←h1]
 exact cell?_of_heap (h'.old 8 h2 hp) _ _
structure CW (P:Nat→Prop) (w:World) (b o:Nat) (f:Cells) (nb V t:Nat):Prop where
 body:∃bc so ol,BW w b o f bc nb so ol∧By ol∧leN ol+2^(8*ol.length)*bc=V∧8*ol.length+nb=t∧∀x∈so.bs,P x
theorem content_add (ol:List Nat) (bc nb z V t:Nat) (h2:leN ol+2^(8*ol.length)*bc=V) (h3:8*ol.length+nb=t):leN ol+2^(8*ol.length)*(bc+z*2^nb)=V+z*2^t:=by
 rw [Nat.mul_add, ←Nat.add_assoc,h2, ←h3,Nat.pow_add]
 congr 1
 rw [Nat.mul_left_comm]
theorem content_out (ol:List Nat) (bc k V:Nat) (h2:leN ol+2^(8*ol.length)*bc=V):leN (ol++leB bc k)+2^(8*(ol++leB bc k).length)*(bc/2^(8*k))=V:=by
 rw [leN_append,leB_val,List.length_append,leB_len,show (256:Nat)^ol.length=2^(8*ol.length) by rw [Nat.pow_mul],show (256:Nat)^k=2^(8*k) by rw [Nat.pow_mul]]
 rw [Nat.mul_add 8,Nat.pow_add,Nat.mul_assoc,Nat.add_assoc, ←Nat.mul_add,Nat.mod_add_div]
 exact h2
section
variable {P:Nat→Prop} {w:World} {b o:Nat} {f:Cells} {nb V t:Nat} {K:Unit→PT}
def Newer (P:Nat→Prop) (w:World):Prop:=∀x,w.heap.size≤x→P x
theorem Newer.up {w w':World} (h:Newer P w) (hs:w.heap.size≤w'.heap.size):Newer P w':=fun x hx=>h x (by omega)
theorem CW.drew (H:CW P w b o f nb V t):CW P w.drew b o f nb V t:=by
 obtain ⟨bc,so,ol,h,r1,r2,r3,r4⟩:=H.body
 exact ⟨bc,so,ol,h.drew,r1,r2,r3,r4⟩
theorem k141 (H:CW P w b o f nb V t) (hP:Newer P w) (hb:P b) (hn:nb≤64) (ht:t<2^40)
  (hk:∀w' nb',nb'≤nb→(32≤nb→nb'=nb-32)→(nb<32→nb'=nb)→CW P w' b o f nb' V t→Fq w w' P→K () w'):callP Tryd.prog 141 #[.pointer (some ⟨b,o,none⟩)] [] K w:=by
 obtain ⟨bc,so,ol,h,r1,r2,r3,r4⟩:=H.body
 refine c141 h hn (by omega) ?_ ?_
 ·intro hlt
  exact hk w nb (Nat.le_refl _) (fun h=>by omega) (fun _=>rfl) H (Fq.refl w P)
 ·intro hge w' so' h' F' E'
  refine hk w' (nb-32) (by omega) (fun _=>rfl) (fun h=>by omega) ⟨_,so',_,h',r1.app (leB_by _ _),content_out ol bc 4 V r2,?_,?_⟩ (F'.fq ?_)
  ·rw [List.length_append,leB_len];omega
  ·intro x hx
   rcases E' x hx with h1|h1
   ·exact r4 x h1
   ·exact hP x h1
  ·intro x hx
   rcases List.mem_cons.mp hx with h1|h1
   ·rw [h1];exact hb
   ·exact r4 x h1
theorem k157 {v m:Nat} (H:CW P w b o f nb V t) (hb:P b) (hM:maskAt w) (hv:v<65536) (hm:m≤16) (hn:nb+m≤64) (hn2:nb<64)
  (hk:∀w',CW P w' b o f (nb+m) (V+v%2^m*2^t) (t+m)→Fm w w' [b]→K () w'):callP Tryd.prog 157 #[.pointer (some ⟨b,o,none⟩),.int .u16 v,.int .u8 m] [] K w:=by
 obtain ⟨bc,so,ol,h,r1,r2,r3,r4⟩:=H.body
 refine c157 h hM hv hm hn hn2 ?_
 intro w' h' F'
 exact hk w' ⟨_,so,ol,h',r1,content_add ol bc nb _ V t r2 r3,by omega,r4⟩ F'
theorem k158 (H:CW P w b o f nb V t) (hP:Newer P w) (hb:P b) (hn:nb<40) (ht:t<2^40)
  (hk:∀w',CW P w' b o f (nb%8) V t→Fq w w' P→K () w'):callP Tryd.prog 158 #[.pointer (some ⟨b,o,none⟩)] [] K w:=by
 obtain ⟨bc,so,ol,h,r1,r2,r3,r4⟩:=H.body
 refine c158 h hn (by omega) ?_
 intro w' so' h' F' E'
 refine hk w' ⟨_,so',_,h',r1.app (leB_by _ _),content_out ol bc _ V r2,?_,?_⟩ (F'.fq ?_)
 ·rw [List.length_append,leB_len];omega
 ·intro x hx
  rcases E' x hx with h1|h1
  ·exact r4 x h1
  ·exact hP x h1
 ·intro x hx
  rcases List.mem_cons.mp hx with h1|h1
  ·rw [h1];exact hb
  ·exact r4 x h1
theorem k144 (H:CW P w b o f nb V t) (hP:Newer P w) (hb:P b) (hn:nb≤63) (ht:t<2^40)
  (hk:∀w' so' ol',BW w' b o f 0 0 so' ol'→By ol'→leN ol'=V+2^t→ol'.length=t/8+1→(∀x∈so'.bs,P x)→Fq w w' P→K () w'):callP Tryd.prog 144 #[.pointer (some ⟨b,o,none⟩)] [] K w:=by
 obtain ⟨bc,so,ol,h,r1,r2,r3,r4⟩:=H.body
 refine c144 h hn (by omega) ?_
 intro w' so' h' F' E'
 have hlt:=h.lt
 have hle:bc+2^nb<256^((nb+1+7)/8):=by
  have h1:bc+2^nb<2^(nb+1):=by rw [Nat.pow_succ];omega
  have h2:2^(nb+1)≤2^(8*((nb+1+7)/8)):=Nat.pow_le_pow_right (by omega) (by omega)
  rw [Nat.pow_mul,show (2:Nat)^8=256 from rfl] at h2
  omega
 refine hk w' so' _ h' (r1.app (leB_by _ _)) ?_ ?_ ?_ (F'.fq ?_)
 ·rw [leN_append,leB_val,Nat.mod_eq_of_lt hle,show (256:Nat)^ol.length=2^(8*ol.length) by rw [Nat.pow_mul]]
  have:=content_add ol bc nb 1 V t r2 r3
  rw [Nat.one_mul,Nat.one_mul] at this
  exact this
 ·rw [List.length_append,leB_len];omega
 ·intro x hx
  rcases E' x hx with h1|h1
  ·exact r4 x h1
  ·exact hP x h1
 ·intro x hx
  rcases List.mem_cons.mp hx with h1|h1
  ·rw [h1];exact hb
  ·exact r4 x h1
theorem k143 {c x tl:Nat} {sl:Sl} (H:CW P w b o f nb V t) (hP:Newer P w) (hb:P b) (HC:Blk w c (csC ⟨b,o,none⟩ sl x)) (hc:¬P c) (hM:maskAt w) (h8:¬P 8) (hx:x<65536) (htl:tl<8) (hn:nb≤63) (ht:t<2^39)
  (hk:∀w' nb',nb'<8→CW P w' b o f nb' (V+x%2^tl*2^t) (t+tl)→Blk w' c (csC ⟨b,o,none⟩ sl x)→Fq w w' P→K () w') :
  callP Tryd.prog 143 #[.pointer (some ⟨c,0,none⟩),.int .u8 tl] [] K w:=by
 apply q143_ok
 unfold q143
 simp only [add_mk]
 refine ld_b (t := .P) (x:=some ⟨b,o,none⟩) HC rfl ?_
 refine k141 H hP hb (by omega) (by omega) ?_
 intro w1 nb1 hn1 hn2 hn3 H1 F1
 have HC1:=HC.fq F1 hc
 unfold drw
 refine ld_b (t := .P) (x:=some ⟨b,o,none⟩) HC1.drew rfl ?_
 refine ld_b (t := .I .u16) (x:=(x:Int)) HC1.drew rfl ?_
 have hcb:c≠b:=fun e=>hc (e▸hb)
 refine k157 (v:=x) (m:=tl) H1.drew hb ((hM.fq F1 h8).fq (P:=P) ((Fm.refl w1 []).drew.fq (by simp)) h8) hx (by omega) (by omega) (by omega) ?_
 intro w2 H2 F2
 have HC2:=HC1.drew.fr F2 (by simpa using hcb)
 refine ld_b (t := .P) (x:=some ⟨b,o,none⟩) HC2 rfl ?_
 have F12:Fq w w2 P:=F1.trans (((Fm.refl w1 []).drew.fq (P:=P) (by simp)).trans (F2.fq (by intro y hy;simp at hy;rw [hy];exact hb)))
 refine k158 H2 (hP.up F12.size) hb (by omega) (by omega) ?_
 intro w3 H3 F3
 exact hk w3 _ (Nat.mod_lt _ (by omega)) H3 (HC2.fq F3 hc) (F12.trans F3)
end
def cs0C:Cells:=fun i=>match i with
 | 0=>some (.pointer none)
 | 1=>some (.slice none 0 0)
 | 2=>some (.int .u16 0)
 | _=>none
section
variable {P:Nat→Prop} {w:World} {b o:Nat} {f:Cells} {nb V t:Nat} {K:Unit→PT}
theorem c139 {c stb n cap m im j y tb to:Nat} {q df dn:Int} {ft:Cells} {g:Cells} {tl:Int} (HC:Blk w c cs0C) (HF:Blk w tb ft) (hft:ft (to+1)=some (.slice (some ⟨stb,0,none⟩) n cap)) (htc:tb≠c)
  (HT:Blk w stb g) (hsc:stb≠c) (hq:IntKind.u32.wrap (dn+32768)=q) (hm:q/65536=(m:Nat)) (hq0:0≤q) (hq1:q<4294967296) (hm5:m<16)
  (him:IntKind.u32.wrap (((m*65536:Nat):Int)-dn)=(im:Nat)) (himb:im<65536)
  (hj:((im/2^m:Nat):Int)+df=(j:Nat)) (hjn:j<n) (hn16:n≤65536) (hgj:g j=some (.int .u16 (y:Nat)))
  (hk:∀w',Blk w' c (csC ⟨b,o,none⟩ ⟨some ⟨stb,0,none⟩,n,cap⟩ y)→Fm w w' [c]→K () w') :
  callP Tryd.prog 139 #[.pointer (some ⟨c,0,none⟩),.pointer (some ⟨b,o,none⟩),.pointer (some ⟨tb,to,none⟩),.int .u8 tl,.agg ⟨[.int .i32 df,.int .u32 dn]⟩] [] K w:=by
 apply q139_ok (r4:=(df,dn)) (o1:=some ⟨b,o,none⟩) (o2:=some ⟨tb,to,none⟩)
 unfold q139
 refine nw_tt ?_
 intro w1 F1 hs1 B1
 have HC1:=HC.fr F1 (by simp)
 have hcl:=HC.lt
 have hcne:c≠w.heap.size:=by omega
 simp only [add_mk]
 refine st_b HC1 rfl rfl ?_
 have HC2:=HC1.setW (o:=0) (v := .pointer (some ⟨b,o,none⟩)) (g:=updC cs0C 0 (.pointer (some ⟨b,o,none⟩))) rfl rfl
 have F2:Fm w1 (w1.setCell ⟨c,0,none⟩ (.pointer (some ⟨b,o,none⟩))) [c]:=(Fm.refl _ _).set (.inl (by simp))
 generalize w1.setCell ⟨c,0,none⟩ (.pointer (some ⟨b,o,none⟩))=w2 at *
 have HF2:Blk w2 tb ft:=(HF.fr F1 (by simp)).fr F2 (by simpa using htc)
 refine ⟨_,rfl,?_⟩
 simp only [add_mk]
 refine ld_b (t := .S) (x:=⟨some ⟨stb,0,none⟩,n,cap⟩) HF2 hft ?_
 refine st_b HC2 rfl rfl ?_
 have HC3:Blk (w2.setCell ⟨c,0+1,none⟩ (.slice (some ⟨stb,0,none⟩) n cap)) c (csC ⟨b,o,none⟩ ⟨some ⟨stb,0,none⟩,n,cap⟩ 0):=HC2.setW rfl (by funext i;rcases i with _|_|_|i<;>simp [updC,cs0C,csC])
 have F3:=F2.set (a:=⟨c,0+1,none⟩) (v := .slice (some ⟨stb,0,none⟩) n cap) (.inl (by simp))
 generalize w2.setCell ⟨c,0+1,none⟩ (.slice (some ⟨stb,0,none⟩) n cap)=w3 at *
 have B3:Blk w3 w.heap.size (ttC df dn):=B1.fr F3 (by simp;omega)
 have es:shrI .u32 q 16=(m:Int):=by
  have:=shrI_nat .u32 q.toNat 16 (by simp only [IntKind.bits];omega)
  rw [show ((q.toNat:Nat):Int)=q by omega] at this
  rw [show (16:Int)=((16:Nat):Int) from rfl,this, ←hm];omega
 have esl:shlI .u32 (m:Int) 16=((m*65536:Nat):Int):=by
  have:=shlI_u (k := .u32) rfl m 16 (by decide)
  simp only [IntKind.bits] at this
  rw [show m*2^16%2^32=m*65536 by rw [Nat.mod_eq_of_lt (by omega)]] at this
  exact this
 refine ld_b (t := .I .u32) (x:=dn) B3 rfl ⟨by decide,by decide,?_⟩
 refine ld_b (t := .I .u32) (x:=dn) B3 rfl ?_
 rw [hq,es,esl,him]
 refine ⟨by omega,?_⟩
 refine ld_b (t := .I .i32) (x:=df) B3 rfl ?_
 refine ld_b (t := .S) (x:=⟨some ⟨stb,0,none⟩,n,cap⟩) HC3 rfl ?_
 have e1:IntKind.i32.wrap (im:Int)=im:=wI32 (by omega) (by omega)
 have e2:shrI .i32 (im:Int) (m:Int)=((im/2^m:Nat):Int):=shrI_nat .i32 im m (by simp only [IntKind.bits];omega)
 rw [e1,e2,hj,wI32 (by omega) (by omega)]
 have HT3:Blk w3 stb g:=(HT.fr F1 (by simp)).fr F3 (by simpa using hsc)
 refine ixS1 rfl hjn ?_
 refine ld_b (t := .I .u16) (x:=(y:Int)) HT3 hgj ?_
 refine st_b HC3 rfl rfl ?_
 have HC4:=HC3.setW (o:=0+2) (v := .int .u16 (y:Nat)) rfl (csC2 _ _ _ _)
 exact hk _ HC4 (((F1.mono (by simp)).trans F3 (fun x hx => .inl hx)).set (.inl (by simp)))
theorem k142 {c x m j stb n cap y:Nat} {q df dn:Int} {g:Cells} (H:CW P w b o f nb V t) (hb:P b) (HC:Blk w c (csC ⟨b,o,none⟩ ⟨some ⟨stb,0,none⟩,n,cap⟩ x))
  (HT:Blk w stb g) (hc:¬P c) (hs:¬P stb) (hsc:stb≠c) (hM:maskAt w) (hx:x<65536) (hq:IntKind.u32.wrap ((x:Int)+dn)=q) (hm:q/65536=(m:Nat)) (hq0:0≤q) (hq1:q<4294967296) (hm5:m<16)
  (hj:((x/2^m:Nat):Int)+df=(j:Nat)) (hjn:j<n) (hn16:n≤65536) (hgj:g j=some (.int .u16 (y:Nat))) (hn:nb+m≤64) (hn2:nb<64)
  (hk:∀w',CW P w' b o f (nb+m) (V+x%2^m*2^t) (t+m)→Blk w' c (csC ⟨b,o,none⟩ ⟨some ⟨stb,0,none⟩,n,cap⟩ y)→Fm w w' [b,c]→K () w') :
  callP Tryd.prog 142 #[.pointer (some ⟨c,0,none⟩),.agg ⟨[.int .i32 df,.int .u32 dn]⟩] [] K w:=by
 obtain ⟨bc,so,ol,h,r1,r2,r3,r4⟩:=H.body
 refine c142 h HC HT (fun e=>hc (e▸hb)) (fun e=>hc (r4 c e)) (fun e=>hs (e▸hb)) hsc ?_ hx hq hm hq0 hq1 hm5 hj hjn hn16 hgj hn hn2 ?_
 ·intro w' F'
  intro k hk2
  have h1:=hM k hk2
  have h2:=World.block_lt_of_cell? _ _ h1
  rw [←h1]
  exact cell?_of_heap (F'.old 8 h2 (by simp)) _ _
 ·intro w' h' HC' F'
  exact hk w' ⟨_,so,ol,h',r1,content_add ol bc nb _ V t r2 r3,by omega,r4⟩ HC' F'
theorem k140 {c x m j stb n cap y:Nat} {q df dn:Int} {g:Cells} (H:CW P w b o f nb V t) (hb:P b) (HC:Blk w c (csC ⟨b,o,none⟩ ⟨some ⟨stb,0,none⟩,n,cap⟩ x))
  (HT:Blk w stb g) (hc:¬P c) (hs:¬P stb) (hsc:stb≠c) (hx:x<65536) (hq:IntKind.u32.wrap ((x:Int)+dn)=q) (hm:q/65536=(m:Nat)) (hq0:0≤q) (hq1:q<4294967296) (hm5:m<16)
  (hj:((x/2^m:Nat):Int)+df=(j:Nat)) (hjn:j<n) (hn16:n≤65536) (hgj:g j=some (.int .u16 (y:Nat))) (hn:nb+m≤64) (hn2:nb<64)
  (hk:∀w',CW P w' b o f (nb+m) (V+x%2^m*2^t) (t+m)→Blk w' c (csC ⟨b,o,none⟩ ⟨some ⟨stb,0,none⟩,n,cap⟩ y)→Fm w w' [b,c]→K () w') :
  callP Tryd.prog 140 #[.pointer (some ⟨c,0,none⟩),.agg ⟨[.int .i32 df,.int .u32 dn]⟩] [] K w:=by
 obtain ⟨bc,so,ol,h,r1,r2,r3,r4⟩:=H.body
 refine c140 h HC HT (fun e=>hc (e▸hb)) (fun e=>hc (r4 c e)) (fun e=>hs (e▸hb)) hsc hx hq hm hq0 hq1 hm5 hj hjn hn16 hgj hn hn2 ?_
 intro w' h' HC' F'
 exact hk w' ⟨_,so,ol,h',r1,content_add ol bc nb _ V t r2 r3,by omega,r4⟩ HC' F'
end
def LogOK (T:Nat):Prop:=T=5∨T=6
theorem LogOK.pow {T:Nat} (h:LogOK T):(T=5∧2^T=32)∨(T=6∧2^T=64):=by
 rcases h with rfl|rfl
 ·exact .inl ⟨rfl,rfl⟩
 ·exact .inr ⟨rfl,rfl⟩
def mbZ (T N:Nat):Nat:=if N≤1 then T else T-(N-1).log2
def dnZ (T N:Nat):Nat:=mbZ T N*65536-N*2^mbZ T N
def nbZ (T N x:Nat):Nat:=(x+dnZ T N)/65536
def encChk (T:Nat):Bool:=(List.range (2^T+1)).all fun N=>(List.range (2*2^T)).all fun x=>(N==0) || (decide (x<2^T)) || (decide (nbZ T N x≤T)&&decide (N≤x/2^nbZ T N x)&&decide (x/2^nbZ T N x<2*N))
theorem encChk5:encChk 5=true:=by kernel_rfl
theorem encChk6:encChk 6=true:=by kernel_rfl
theorem encNum {T N x:Nat} (hT:LogOK T) (h1:0<N) (h2:N≤2^T) (h3:2^T≤x) (h4:x<2*2^T):nbZ T N x≤T∧N≤x/2^nbZ T N x∧x/2^nbZ T N x<2*N:=by
 have hc:encChk T=true:=by rcases hT with rfl|rfl;exact encChk5;exact encChk6
 have:=List.all_eq_true.1 (List.all_eq_true.1 hc N (List.mem_range.2 (by omega))) x (List.mem_range.2 h4)
 simp only [Bool.or_eq_true,Bool.and_eq_true,decide_eq_true_eq,beq_iff_eq] at this
 omega
def iniChk (T:Nat):Bool:=(List.range (2^T+1)).all fun N=>(N==0) || (decide ((dnZ T N+32768)/65536=mbZ T N)&&decide (mbZ T N*65536-dnZ T N=N*2^mbZ T N)&&decide (dnZ T N≤mbZ T N*65536)&&decide (mbZ T N≤T)&&decide (N*2^mbZ T N≤2*2^T))
theorem iniChk5:iniChk 5=true:=by kernel_rfl
theorem iniChk6:iniChk 6=true:=by kernel_rfl
theorem initNum {T N:Nat} (hT:LogOK T) (h1:0<N) (h2:N≤2^T):(dnZ T N+32768)/65536=mbZ T N∧mbZ T N*65536-dnZ T N=N*2^mbZ T N∧dnZ T N≤mbZ T N*65536∧mbZ T N≤T∧N*2^mbZ T N≤2*2^T:=by
 have hc:iniChk T=true:=by rcases hT with rfl|rfl;exact iniChk5;exact iniChk6
 have:=List.all_eq_true.1 hc N (List.mem_range.2 (by omega))
 simp only [Bool.or_eq_true,Bool.and_eq_true,decide_eq_true_eq,beq_iff_eq] at this
 omega
structure TabOK (T:Nat) (tab:List Cell3) (N:Nat→Nat) (pos:Nat→Nat→Nat):Prop where
 log:LogOK T
 len:tab.length=2^T
 lt:∀s,N s<2^T
 cell:∀s j,j<N s→pos s j<2^T∧tab[pos s j]? = some (s,T-(N s+j).log2,(((N s+j)*2^(T-(N s+j).log2):Nat):Int)-((2^T:Nat):Int))
structure ES where
 a:Nat
 b:Nat
 V:Nat
 t:Nat
def encZ (T:Nat) (N:Nat→Nat) (pos:Nat→Nat→Nat):List Nat→ES
 | []=>⟨0,0,0,0⟩
 | [_]=>⟨0,0,0,0⟩
 | [s,u]=>⟨2^T+pos s 0,2^T+pos u 0,0,0⟩
 | s::u::v::r =>
  let e:=encZ T N pos (u::v::r)
  ⟨2^T+pos s (e.b/2^nbZ T (N s) e.b-N s),e.a,e.V+e.b%2^nbZ T (N s) e.b*2^e.t,e.t+nbZ T (N s) e.b⟩
section
variable {T:Nat} {N:Nat→Nat} {pos:Nat→Nat→Nat} {tab:List Cell3}
def StOK (T:Nat) (N:Nat→Nat) (pos:Nat→Nat→Nat) (x s:Nat):Prop:=∃j,j<N s∧x=2^T+pos s j
theorem encZ_ok (H:TabOK T tab N pos):∀(l:List Nat),2≤l.length→(∀s∈l,0<N s) →
  StOK T N pos (encZ T N pos l).a (l.getD 0 0)∧StOK T N pos (encZ T N pos l).b (l.getD 1 0)∧(encZ T N pos l).V<2^(encZ T N pos l).t∧(encZ T N pos l).t≤T*l.length
 | [],h,_=>by simp at h
 | [_],h,_=>by simp at h
 | [s,u],_,hp=>⟨⟨0,hp s (by simp),rfl⟩,⟨0,hp u (by simp),rfl⟩,by simp [encZ],by simp [encZ]⟩
 | s::u::v::r,_,hp=>by
  obtain ⟨h1,⟨j,hj,hb⟩,h3,h4⟩:=encZ_ok H (u::v::r) (by simp) (fun x hx=>hp x (List.mem_cons_of_mem _ hx))
  have hlt:=(H.cell _ j hj).1
  have hs:=hp s (by simp)
  have hN:=H.lt s
  simp only [encZ]
  generalize encZ T N pos (u::v::r)=e at *
  obtain ⟨n1,n2,n3⟩:=encNum H.log (N:=N s) (x:=e.b) hs (by omega) (by omega) (by omega)
  refine ⟨⟨e.b/2^nbZ T (N s) e.b-N s,(show _<N s by omega),rfl⟩,h1,?_,?_⟩
  ·have hm:e.b%2^nbZ T (N s) e.b<2^nbZ T (N s) e.b:=Nat.mod_lt _ (Nat.two_pow_pos _)
   have:(e.b%2^nbZ T (N s) e.b+1)*2^e.t≤2^nbZ T (N s) e.b*2^e.t:=Nat.mul_le_mul_right _ hm
   rw [Nat.add_mul,Nat.one_mul, ←Nat.pow_add,Nat.add_comm (nbZ T (N s) e.b)] at this
   omega
  ·simp only [List.length_cons] at h4 ⊢
   simp only [Nat.mul_add,Nat.mul_one] at h4 ⊢
   omega
theorem tkB_val (l:List Nat):∀(n left:Nat),n≤left→tkB l n (left:Int)=leN l/2^(left-n)%2^n
 | 0,left,_=>by simp [tkB,Nat.mod_one]
 | n+1,left,h=>by
  rw [tkB,tkB_val l n left (by omega)]
  have hb:bitZ l ((left:Int)-n-1)=leN l/2^(left-(n+1))%2:=by
   unfold bitZ
   rw [if_neg (by omega),show ((left:Int)-n-1).toNat=left-(n+1) by omega]
  rw [hb,show left-n=left-(n+1)+1 by omega,Nat.pow_succ, ←Nat.div_div_eq_div_mul,Nat.pow_succ]
  generalize leN l/2^(left-(n+1))=y
  rw [Nat.mul_comm (2^n) 2,Nat.mod_mul]
  omega
theorem decode (H:TabOK T tab N pos) (l:List Nat) (limit:Nat):∀(ws:List Nat) (out:List Nat),2≤ws.length→(∀s∈ws,0<N s∧s<256)→out.length+ws.length≤limit →
  leN l%2^(encZ T N pos ws).t=(encZ T N pos ws).V→twoZ l tab limit (encZ T N pos ws).t ((encZ T N pos ws).a-2^T) ((encZ T N pos ws).b-2^T) out=some (out++ws)
 | [],out,h,_,_,_=>by simp at h
 | [_],out,h,_,_,_=>by simp at h
 | [s,u],out,_,hp,hl,hV=>by
  simp only [encZ,Nat.add_sub_cancel_left]
  have h1:=hp s (by simp)
  have h2:=hp u (by simp)
  simp only [List.length_cons,List.length_nil] at hl
  have hN:=H.lt s
  rw [twoZ,dif_neg (by omega),(H.cell s 0 h1.1).2]
  have hlog:(N s).log2<T:=(Nat.log2_lt (by omega)).mpr (by omega)
  simp only [Nat.add_zero]
  rw [if_pos (by omega),(H.cell u 0 h2.1).2]
  simp only
  rw [if_neg (by omega),Nat.mod_eq_of_lt h1.2,Nat.mod_eq_of_lt h2.2]
  simp
 | s::u::v::r,out,_,hp,hl,hV=>by
  have ho:=encZ_ok H (u::v::r) (by simp) (fun x hx=>(hp x (List.mem_cons_of_mem _ hx)).1)
  have ih:=decode H l limit (u::v::r) (out ++ [s]) (by simp) (fun x hx=>hp x (List.mem_cons_of_mem _ hx)) (by simp at hl ⊢;omega)
  obtain ⟨_,⟨j,hj,hb⟩,h3,h4⟩:=ho
  have hlt:=(H.cell _ j hj).1
  have hs:=hp s (by simp)
  have hN:=H.lt s
  simp only [encZ] at hV ⊢
  generalize encZ T N pos (u::v::r)=e at *
  obtain ⟨n1,n2,n3⟩:=encNum H.log (N:=N s) (x:=e.b) hs.1 (by omega) (by omega) (by omega)
  generalize nbZ T (N s) e.b=nb at *
  have hkk:N s+(e.b/2^nb-N s)=e.b/2^nb:=by omega
  obtain ⟨c1,c2⟩:=H.cell s (e.b/2^nb-N s) (by omega)
  rw [hkk] at c2
  have hlog:(e.b/2^nb).log2=T-nb:=by
   have hTp:=Nat.two_pow_pos T
   have hTs:2^(T+1)=2*2^T:=Nat.pow_succ'
   have hp2:=Nat.two_pow_pos nb
   apply Nat.le_antisymm
   ·have:e.b/2^nb<2^(T-nb+1):=by
     rw [Nat.div_lt_iff_lt_mul hp2, ←Nat.pow_add,show T-nb+1+nb=T+1 by omega];omega
    have:=(Nat.log2_lt (by omega)).mpr this
    omega
   ·apply (Nat.le_log2 (by omega)).mpr
    rw [Nat.le_div_iff_mul_le hp2, ←Nat.pow_add,show T-nb+nb=T by omega];omega
  rw [hlog,show T-(T-nb)=nb by omega] at c2
  simp only [List.length_cons] at hl
  rw [twoZ,dif_neg (by omega),Nat.add_sub_cancel_left,c2]
  simp only
  rw [if_neg (by omega)]
  have htk:tkB l nb ((e.t+nb:Nat):Int)=e.b%2^nb:=by
   rw [tkB_val l nb (e.t+nb) (by omega),Nat.add_sub_cancel]
   have h5:leN l%2^(e.t+nb)/2^e.t=leN l/2^e.t%2^nb:=by
    rw [Nat.pow_add,Nat.mod_mul_right_div_self]
   rw [←h5,hV,Nat.add_mul_div_right _ _ (Nat.two_pow_pos _),Nat.div_eq_of_lt h3,Nat.zero_add]
  have hdm:=Nat.div_add_mod e.b (2^nb)
  have hval:(((e.b/2^nb*2^nb:Nat):Int)-((2^T:Nat):Int))+((tkB l nb ((e.t+nb:Nat):Int):Nat):Int)=((e.b-2^T:Nat):Int):=by
   rw [htk]
   rw [Nat.mul_comm] at hdm
   omega
  rw [hval,H.len]
  rw [if_neg (by omega)]
  have hV2:leN l%2^e.t=e.V:=by
   have h6:leN l%2^(e.t+nb)%2^e.t=leN l%2^e.t:=Nat.mod_mod_of_dvd _ (Nat.pow_dvd_pow 2 (by omega))
   rw [←h6,hV,Nat.add_mul_mod_self_right,Nat.mod_eq_of_lt h3]
  have:=ih hV2
  rw [show ((e.t+nb:Nat):Int)-((nb:Nat):Int)=((e.t:Nat):Int) by omega,Int.toNat_natCast,Nat.mod_eq_of_lt hs.2,this]
  simp
end
def vis (sz e:Nat):Nat→Nat→List Nat
 | 0,_ => []
 | n+1,a=>a::vis sz e n (nxtZ sz e a)
def visChk (sz:Nat):Bool:=(List.range (sz+1)).all fun e=>(vis sz e e 0).isPerm (List.range e)
theorem visChk5:visChk 32=true:=by kernel_rfl
theorem visChk6:visChk 64=true:=by kernel_rfl
theorem vis_perm {sz e:Nat} (hs:sz=32∨sz=64) (h:e≤sz):(vis sz e e 0).Perm (List.range e):=by
 have hc:visChk sz=true:=by rcases hs with rfl|rfl;exact visChk5;exact visChk6
 exact List.isPerm_iff.mp (List.all_eq_true.1 hc e (List.mem_range.2 (by omega)))
theorem layZ_vis (sz e:Nat):∀(l:List Nat) (a:Nat) (f f':Nat→Int) (a':Nat),(vis sz e l.length a).Nodup→layZ sz e l a f=some (f',a') →
  (∀p,p∉vis sz e l.length a→f' p=f p)∧(vis sz e l.length a).map f'=l.map (fun (s:Nat)=>(s:Int))∧∀p∈vis sz e l.length a,p<e
 | [],a,f,f',a',_,h=>by
  rw [layZ] at h;injection h with h;injection h with h1 h2
  subst h1
  exact ⟨fun _ _=>rfl,rfl,by simp [vis]⟩
 | s::r,a,f,f',a',hn,h=>by
  rw [layZ] at h
  split at h
  ·cases h
  ·rename_i hae
   rw [List.length_cons,vis] at hn ⊢
   rw [List.nodup_cons] at hn
   obtain ⟨h1,h2,h3⟩:=layZ_vis sz e r _ _ f' a' hn.2 h
   refine ⟨?_,?_,?_⟩
   ·intro p hp
    rw [List.mem_cons,not_or] at hp
    rw [h1 p hp.2]
    unfold updF
    rw [if_neg hp.1]
   ·rw [List.map_cons,List.map_cons,h2,h1 a hn.1]
    unfold updF
    rw [if_pos rfl]
   ·intro p hp
    rcases List.mem_cons.mp hp with h4|h4
    ·omega
    ·exact h3 p h4
theorem cntZ_eq (f:Nat→Int) (s:Int) (n:Nat):cntZ f s n=(List.range n).countP fun p=>decide (f p=s):=by
 induction n with
 | zero=>rfl
 | succ n ih =>
  rw [cntZ,ih,List.range_succ,List.countP_append,List.countP_singleton]
  simp
def lowN (cs:List Int):Nat:=cs.countP fun c=>decide (c = -1)
theorem lowZ_spec (r:List Int):∀(i e:Nat) (f:Nat→Int),lowN r≤e→(lowZ r i e f).2=e-lowN r∧(∀p,p<e-lowN r∨e≤p→(lowZ r i e f).1 p=f p) ∧
  ∀s:Nat,((List.range e).countP fun p=>decide ((lowZ r i e f).1 p=(s:Int)))=((List.range (e-lowN r)).countP fun p=>decide (f p=(s:Int)))+(if i≤s∧r.getD (s-i) 0 = -1 then 1 else 0):=by
 induction r with
 | nil =>
  intro i e f _
  refine ⟨by simp [lowZ,lowN],fun p _=>rfl,?_⟩
  intro s
  have h0:lowN []=0:=rfl
  simp only [lowZ,h0,Nat.sub_zero]
  rw [if_neg (by simp)]
  rfl
 | cons c r ih =>
  intro i e f h
  rw [lowZ]
  have hN:lowN (c::r)=lowN r+if c = -1 then 1 else 0:=by
   unfold lowN
   rw [List.countP_cons]
   simp
  have hget:∀s:Nat,(if i≤s∧(c::r).getD (s-i) 0 = -1 then 1 else 0)=(if s=i∧c = -1 then 1 else 0)+(if i+1≤s∧r.getD (s-(i+1)) 0 = -1 then (1:Nat) else 0):=by
   intro s
   by_cases h1:s=i
   ·subst h1
    rw [Nat.sub_self,List.getD_cons_zero]
    have:¬(s+1≤s∧r.getD (s-(s+1)) 0 = -1):=by omega
    rw [if_neg this]
    simp
   ·by_cases h2:i≤s
    ·rw [show s-i=(s-(i+1))+1 by omega,List.getD_cons_succ]
     have e1:¬(s=i∧c = -1):=fun h=>h1 h.1
     rw [if_neg e1,Nat.zero_add]
     by_cases h3:r.getD (s-(i+1)) 0 = -1
     ·rw [if_pos ⟨h2,h3⟩,if_pos ⟨by omega,h3⟩]
     ·rw [if_neg (fun h=>h3 h.2),if_neg (fun h=>h3 h.2)]
    ·rw [if_neg (fun h=>h2 h.1),if_neg (fun h=>h1 h.1),if_neg (fun h=>by omega)]
  by_cases hc:c = -1
  ·rw [hN,if_pos hc] at h ⊢
   rw [if_pos ⟨hc,by omega⟩]
   obtain ⟨h1,h2,h3⟩:=ih (i+1) (e-1) (updF f (e-1) i) (by omega)
   refine ⟨by rw [h1];omega,?_,?_⟩
   ·intro p hp
    rw [h2 p (by omega)]
    unfold updF
    rw [if_neg (by omega)]
   ·intro s
    rw [hget s]
    have he:List.range e=List.range (e-1) ++ [e-1]:=by rw [←List.range_succ,show (e-1).succ=e by omega]
    rw [he,List.countP_append,h3 s,List.countP_singleton,h2 (e-1) (by omega)]
    have e2:updF f (e-1) (i:Nat) (e-1)=(i:Int):=if_pos rfl
    rw [e2,show e-(lowN r+1)=e-1-lowN r by omega]
    have e3:((List.range (e-1-lowN r)).countP fun p=>decide (updF f (e-1) (i:Nat) p=(s:Int)))=(List.range (e-1-lowN r)).countP fun p=>decide (f p=(s:Int)):=by
     apply List.countP_congr
     intro p hp
     have:=List.mem_range.mp hp
     unfold updF
     rw [if_neg (by omega)]
    rw [e3]
    have e4:(if decide ((i:Int)=(s:Int))=true then 1 else 0)=(if s=i∧c = -1 then (1:Nat) else 0):=by
     by_cases h5:s=i
     ·subst h5;simp [hc]
     ·rw [if_neg (by simp;omega),if_neg (fun h=>h5 h.1)]
    rw [e4]
    omega
  ·rw [hN,if_neg hc,Nat.add_zero] at h ⊢
   rw [if_neg (fun h=>hc h.1)]
   obtain ⟨h1,h2,h3⟩:=ih (i+1) e f h
   refine ⟨h1,h2,?_⟩
   intro s
   have e1:(if s=i∧c = -1 then 1 else 0)=(0:Nat):=if_neg (fun h=>hc h.2)
   rw [hget s,e1,h3 s]
   simp only [Nat.add_zero,Nat.zero_add]
theorem symsZ_count (r:List Int):∀(i s:Nat),(symsZ r i).count s=if i≤s then (r.getD (s-i) 0).toNat else 0:=by
 induction r with
 | nil=>intro i s;simp [symsZ]
 | cons c r ih =>
  intro i s
  rw [symsZ,List.count_append,ih,List.count_replicate]
  by_cases h1:s=i
  ·subst h1
   rw [if_pos (by simp),if_neg (by omega),if_pos (Nat.le_refl _),Nat.sub_self,List.getD_cons_zero];rfl
  ·by_cases h2:i≤s
   ·rw [if_neg (by simp;omega),if_pos (by omega),if_pos h2,show s-i=(s-(i+1))+1 by omega,List.getD_cons_succ];simp
   ·rw [if_neg (by simp;omega),if_neg (by omega),if_neg h2]
theorem symsZ_len (r:List Int) (hr:∀c∈r, -1≤c):∀i,(symsZ r i).length+lowN r=sumZ r:=by
 induction r with
 | nil=>intro i;rfl
 | cons c r ih =>
  intro i
  have h1:=ih (fun x hx=>hr x (List.mem_cons_of_mem _ hx)) (i+1)
  have h2:=hr c (by simp)
  rw [symsZ,List.length_append,List.length_replicate]
  have hN:lowN (c::r)=lowN r+if c = -1 then 1 else 0:=by
   unfold lowN;rw [List.countP_cons];simp
  have hS:sumZ (c::r)=absZ c+sumZ r:=by unfold sumZ;simp
  rw [hN,hS]
  unfold absZ
  split<;>split<;>omega
theorem spread_count {sz:Nat} (hsz:sz=32∨sz=64) {cs:List Int} {f:Nat→Int} {a:Nat} (hr:∀c∈cs, -1≤c) (hs:sumZ cs=sz) (h:spreadZ cs sz (fun _ => -1)=some (f,a)) (s:Nat):cntZ f s sz=absZ (cs.getD s 0):=by
 unfold spreadZ at h
 have hlen:=symsZ_len cs hr 0
 obtain ⟨l1,l2,l3⟩:=lowZ_spec cs 0 sz (fun _ => -1) (by omega)
 have he:(symsZ cs 0).length=sz-lowN cs:=by omega
 rw [l1] at h
 have hp:=vis_perm hsz (e:=sz-lowN cs) (by omega)
 have hnd:(vis sz (sz-lowN cs) (symsZ cs 0).length 0).Nodup:=by
  rw [he]
  exact hp.nodup_iff.mpr List.nodup_range
 obtain ⟨v1,v2,v3⟩:=layZ_vis _ _ _ _ _ _ _ hnd h
 rw [he] at v1 v2 v3
 rw [cntZ_eq]
 have hsplit:List.range sz=List.range (sz-lowN cs)++(List.range (lowN cs)).map (sz-lowN cs + ·):=by
  rw [←List.range_add,show sz-lowN cs+lowN cs=sz by omega]
 have hb:∀g:Nat→Int,((List.range sz).countP fun p=>decide (g p=(s:Int)))=((List.range (sz-lowN cs)).countP fun p=>decide (g p=(s:Int)))+(((List.range (lowN cs)).map (sz-lowN cs + ·)).countP fun p=>decide (g p=(s:Int))):=by
  intro g;rw [hsplit,List.countP_append]
 rw [hb]
 have h3:=l3 s
 rw [hb] at h3
 have hend:(((List.range (lowN cs)).map (sz-lowN cs + ·)).countP fun p=>decide (f p=(s:Int)))=(((List.range (lowN cs)).map (sz-lowN cs + ·)).countP fun p=>decide ((lowZ cs 0 sz fun _ => -1).1 p=(s:Int))):=by
  apply List.countP_congr
  intro p hp
  obtain ⟨k,hk,rfl⟩:=List.mem_map.mp hp
  rw [v1 _ (fun hv=>by have:=v3 _ hv;omega)]
 have hbeg:((List.range (sz-lowN cs)).countP fun p=>decide ((lowZ cs 0 sz fun _ => -1).1 p=(s:Int)))=((List.range (sz-lowN cs)).countP fun p=>decide ((-1:Int)=(s:Int))):=by
  apply List.countP_congr
  intro p hp
  rw [l2 p (.inl (List.mem_range.mp hp))]
 have hlaid:((List.range (sz-lowN cs)).countP fun p=>decide (f p=(s:Int)))=(symsZ cs 0).count s:=by
  rw [←hp.countP_eq]
  have e1:(vis sz (sz-lowN cs) (sz-lowN cs) 0).countP (fun p=>decide (f p=(s:Int)))=((vis sz (sz-lowN cs) (sz-lowN cs) 0).map f).countP (fun y=>decide (y=(s:Int))):=by
   rw [List.countP_map];rfl
  rw [e1,v2,List.countP_map,List.count]
  apply List.countP_congr
  intro x _
  simp
  omega
 rw [hend,hlaid,symsZ_count]
 rw [hbeg] at h3
 simp only [Nat.zero_le,true_and,Nat.sub_zero,if_true] at h3 ⊢
 have h4:(((List.range (lowN cs)).map (sz-lowN cs + ·)).countP fun p=>decide ((lowZ cs 0 sz fun _ => -1).1 p=(s:Int)))=if cs.getD s 0 = -1 then 1 else 0:=by omega
 rw [h4]
 have hge : -1≤cs.getD s 0:=by
  by_cases hsl:s<cs.length
  ·rw [getD_Z hsl];exact hr _ (List.getElem_mem hsl)
  ·rw [List.getD_eq_getElem?_getD,List.getElem?_eq_none (by omega)];decide
 generalize cs.getD s 0=c at *
 unfold absZ
 split<;>split<;>omega
def posZ (sz:Nat) (f:Nat→Int) (s j:Nat):Nat:=((List.range sz).find? fun p=>decide (f p=(s:Int))&&decide (cntZ f s p=j)).getD 0
theorem cntZ_mid (f:Nat→Int) (s:Int) (j:Nat):∀n,j<cntZ f s n→∃p,p<n∧f p=s∧cntZ f s p=j
 | 0,h=>by simp [cntZ] at h
 | n+1,h=>by
  rw [cntZ] at h
  by_cases h1:j<cntZ f s n
  ·obtain ⟨p,h2,h3⟩:=cntZ_mid f s j n h1
   exact ⟨p,by omega,h3⟩
  ·by_cases h2:f n=s
   ·rw [if_pos h2] at h
    exact ⟨n,by omega,h2,by omega⟩
   ·rw [if_neg h2] at h;omega
theorem posZ_spec {sz:Nat} {f:Nat→Int} {s j:Nat} (h:j<cntZ f s sz):posZ sz f s j<sz∧f (posZ sz f s j)=(s:Int)∧cntZ f s (posZ sz f s j)=j:=by
 obtain ⟨p,h1,h2,h3⟩:=cntZ_mid f s j sz h
 unfold posZ
 cases hf:(List.range sz).find? fun p=>decide (f p=(s:Int))&&decide (cntZ f s p=j) with
 | none =>
  have:=List.find?_eq_none.mp hf p (List.mem_range.mpr h1)
  simp [h2,h3] at this
 | some q =>
  have hm:=List.mem_of_find?_eq_some hf
  have hs:=List.find?_some hf
  simp only [Bool.and_eq_true,decide_eq_true_eq] at hs
  exact ⟨List.mem_range.mp hm,hs.1,hs.2⟩
theorem posZ_of {sz:Nat} {f:Nat→Int} {s p:Nat} (hp:p<sz) (hs:f p=(s:Int)):posZ sz f s (cntZ f s p)=p:=by
 have mono:∀a b,a≤b→cntZ f s a≤cntZ f s b:=by
  intro a b h
  induction b with
  | zero=>have:a=0:=(by omega);subst this;exact Nat.le_refl _
  | succ b ih =>
   by_cases e:a=b+1
   ·subst e;exact Nat.le_refl _
   ·have:=ih (by omega)
    rw [cntZ];omega
 have h0:cntZ f s (p+1)=cntZ f s p+1:=by rw [cntZ,if_pos hs]
 have h1:=mono (p+1) sz (by omega)
 obtain ⟨a1,a2,a3⟩:=posZ_spec (sz:=sz) (f:=f) (s:=s) (j:=cntZ f s p) (by omega)
 generalize posZ sz f s (cntZ f s p)=q at *
 rcases Nat.lt_trichotomy q p with h|h|h
 ·have h2:cntZ f s (q+1)=cntZ f s q+1:=by rw [cntZ,if_pos a2]
  have:=mono (q+1) p h
  omega
 ·exact h
 ·have:=mono (p+1) q h
  omega
def shareZ (cs:List Int) (s:Nat):Nat:=absZ (cs.getD s 0)
theorem tabOK {T:Nat} (hT:LogOK T) {cs:List Int} {tab:List Cell3} {f:Nat→Int} {a:Nat} (hr:∀c∈cs, -1≤c) (hN:∀s,shareZ cs s<2^T) (h:statesZ cs T=some tab) (hf:spreadZ cs (2^T) (fun _ => -1)=some (f,a)):TabOK T tab (shareZ cs) (posZ (2^T) f):=by
 have hsz:2^T=32∨2^T=64:=by rcases hT with rfl|rfl;exact .inl rfl;exact .inr rfl
 unfold statesZ at h
 split at h
 ·rename_i hs
  rw [hf] at h
  simp only at h
  split at h
  ·rename_i hpos
   injection h with h
   subst h
   refine ⟨hT,by simp,hN,?_⟩
   intro s j hj
   have hc:=spread_count hsz hr hs hf s
   obtain ⟨h1,h2,h3⟩:=posZ_spec (sz:=2^T) (f:=f) (s:=s) (j:=j) (by unfold shareZ at hj;omega)
   refine ⟨h1,?_⟩
   rw [List.getElem?_map,List.getElem?_range h1]
   simp only [Option.map_some,Option.some.injEq]
   unfold cellZ
   have hk:kZ cs f (posZ (2^T) f s j)=shareZ cs s+j:=by unfold kZ shareZ;rw [h2,h3,Int.toNat_natCast]
   rw [hk,h2,Int.toNat_natCast]
  ·cases h
 ·cases h
theorem rep5:((List.range (32+1)).all fun e=>Nat.repeat (nxtZ 32 e) e 0==0)=true:=by kernel_rfl
theorem rep6:((List.range (64+1)).all fun e=>Nat.repeat (nxtZ 64 e) e 0==0)=true:=by kernel_rfl
theorem statesZ_some {T:Nat} (hT:LogOK T) {cs:List Int} (hr:∀c∈cs, -1≤c) (hs:sumZ cs=2^T):∃f,spreadZ cs (2^T) (fun _ => -1)=some (f,0)∧(∀p,p<2^T→0≤f p)∧statesZ cs T=some ((List.range (2^T)).map (cellZ cs T f)):=by
 have hsz:2^T=32∨2^T=64:=by rcases hT with rfl|rfl;exact .inl rfl;exact .inr rfl
 have hst:statesZ cs T=match spreadZ cs (2^T) (fun _ => -1) with
  | none=>none
  | some (f,_)=>if ∀i,i<2^T→0≤f i then some ((List.range (2^T)).map (cellZ cs T f)) else none:=by
  unfold statesZ
  rw [if_pos hs]
  rfl
 rw [hst]
 generalize hsz2:2^T=sz at *
 have hlen:=symsZ_len cs hr 0
 obtain ⟨l1,l2,l3⟩:=lowZ_spec cs 0 sz (fun _ => -1) (by omega)
 have hne:∀(e:Nat) (l:List Nat) (a:Nat) (f:Nat→Int),(∀p∈vis sz e l.length a,p<e)→∃f',layZ sz e l a f=some (f',Nat.repeat (nxtZ sz e) l.length a):=by
  intro e l
  induction l with
  | nil=>intro a f _;exact ⟨f,rfl⟩
  | cons s r ih =>
   intro a f h
   rw [layZ,if_neg (by have:=h a (by simp [vis]);omega)]
   obtain ⟨f',h'⟩:=ih (nxtZ sz e a) (updF f a s) (fun p hp=>h p (by simp [vis,hp]))
   refine ⟨f',?_⟩
   rw [h']
   have:∀n a,Nat.repeat (nxtZ sz e) n (nxtZ sz e a)=Nat.repeat (nxtZ sz e) (n+1) a:=by
    intro n
    induction n with
    | zero=>intro a;rfl
    | succ n ih=>intro a;show nxtZ sz e _=nxtZ sz e _;rw [ih a]
   rw [this]
   rfl
 have he:(symsZ cs 0).length=sz-lowN cs:=by omega
 have hp:=vis_perm hsz (e:=sz-lowN cs) (by omega)
 obtain ⟨f,hf⟩:=hne (sz-lowN cs) (symsZ cs 0) 0 (lowZ cs 0 sz fun _ => -1).1 (by
  intro p hpm
  rw [he] at hpm
  exact List.mem_range.mp (hp.mem_iff.mp hpm))
 have hrep:((List.range (sz+1)).all fun e=>Nat.repeat (nxtZ sz e) e 0==0)=true:=by rcases hsz with h|h<;>rw [h];exact rep5;exact rep6
 have h0:=List.all_eq_true.1 hrep (sz-lowN cs) (List.mem_range.2 (by omega))
 rw [he,eq_of_beq h0] at hf
 have hsp:spreadZ cs sz (fun _ => -1)=some (f,0):=by unfold spreadZ;rw [l1];exact hf
 have hpos:∀p,p<sz→0≤f p:=by
  have hl:=spreadZ_laid hsp
  have hnd:(vis sz (sz-lowN cs) (symsZ cs 0).length 0).Nodup:=by rw [he];exact hp.nodup_iff.mpr List.nodup_range
  obtain ⟨v1,v2,v3⟩:=layZ_vis _ _ _ _ _ _ _ hnd hf
  rw [he] at v1 v2 v3
  intro p hp32
  by_cases hpe:p<sz-lowN cs
  ·have hm:p∈vis sz (sz-lowN cs) (sz-lowN cs) 0:=hp.mem_iff.mpr (List.mem_range.mpr hpe)
   have:f p∈(vis sz (sz-lowN cs) (sz-lowN cs) 0).map f:=List.mem_map_of_mem hm
   rw [v2] at this
   obtain ⟨x,_,hx⟩:=List.mem_map.mp this
   omega
  ·rw [v1 p (fun hm=>by have:=v3 p hm;omega)]
   have low:∀(r:List Int) (i e:Nat) (g:Nat→Int),lowN r≤e→∀p,e-lowN r≤p→p<e→0≤(lowZ r i e g).1 p:=by
    intro r
    induction r with
    | nil=>intro i e g _ p h1 h2;have:lowN []=0:=rfl;omega
    | cons c r ih =>
     intro i e g h p h1 h2
     have hN:lowN (c::r)=lowN r+if c = -1 then 1 else 0:=by unfold lowN;rw [List.countP_cons];simp
     rw [lowZ]
     by_cases hc:c = -1
     ·rw [hN,if_pos hc] at h h1
      rw [if_pos ⟨hc,by omega⟩]
      by_cases hpe:p=e-1
      ·rw [(lowZ_spec r (i+1) (e-1) _ (by omega)).2.1 p (by omega)]
       unfold updF
       rw [if_pos hpe];omega
      ·exact ih _ _ _ (by omega) p (by omega) (by omega)
     ·rw [hN,if_neg hc] at h h1
      rw [if_neg (fun h=>hc h.1)]
      exact ih _ _ _ (by omega) p (by omega) h2
   exact low cs 0 sz _ (by omega) p (by omega) hp32
 refine ⟨f,hsp,hpos,?_⟩
 rw [hsp]
 simp only
 rw [if_pos hpos]
structure ET (T:Nat) (w:World) (ttb stb:Nat) (N cum:Nat→Nat) (pos:Nat→Nat→Nat) (hT:Cells) (g:Cells):Prop where
 log:LogOK T
 tt:Blk w ttb hT
 st:Blk w stb g
 num:∀s,s<256→0<N s→N s≤2^T∧hT (s*2)=some (.int .i32 ((cum s:Int)-(N s:Int)))∧hT (s*2+1)=some (.int .u32 (dnZ T (N s):Nat))∧cum s+N s≤2^T∧∀j,j<N s→g (cum s+j)=some (.int .u16 ((2^T+pos s j:Nat):Int))∧pos s j<2^T
theorem ET.fq {T:Nat} {w w':World} {ttb stb:Nat} {N cum:Nat→Nat} {pos:Nat→Nat→Nat} {hT:Cells} {g:Cells} {Q:Nat→Prop} (H:ET T w ttb stb N cum pos hT g) (F:Fq w w' Q) (h1:¬Q ttb) (h2:¬Q stb):ET T w' ttb stb N cum pos hT g :=
 ⟨H.log,H.tt.fq F h1,H.st.fq F h2,H.num⟩
section
variable {T:Nat} {P:Nat→Prop} {w:World} {b o:Nat} {f:Cells} {nb V t:Nat} {N cum:Nat→Nat} {pos:Nat→Nat→Nat} {hT:Cells} {g:Cells} {ttb stb cap l2 cap2:Nat}
theorem encZ_step {s:Nat} {r:List Nat} (hr:2≤r.length):encZ T N pos (s::r)=⟨2^T+pos s ((encZ T N pos r).b/2^nbZ T (N s) (encZ T N pos r).b-N s),(encZ T N pos r).a,(encZ T N pos r).V+(encZ T N pos r).b%2^nbZ T (N s) (encZ T N pos r).b*2^(encZ T N pos r).t,(encZ T N pos r).t+nbZ T (N s) (encZ T N pos r).b⟩:=by
 match r,hr with
 | u::v::r,_=>rfl
theorem dnZ_lt {T n:Nat} (hT:LogOK T) (h1:0<n) (h2:n≤2^T):dnZ T n<400000:=by
 obtain ⟨_,_,h3,h4,_⟩:=initNum hT h1 h2
 rcases hT with rfl|rfl<;>omega
theorem stepE {F:Nat} {cy x s:Nat} {κ:Unit→PT} (hF:F=140∨F=142) (H:CW P w b o f nb V t) (hb:P b) (HC:Blk w cy (csC ⟨b,o,none⟩ ⟨some ⟨stb,0,none⟩,2^T,cap⟩ x)) (HT:ET T w ttb stb N cum pos hT g)
  (hc:¬P cy) (hs:¬P stb) (hsc:stb≠cy) (hM:maskAt w) (hx1:2^T≤x) (hx2:x<2*2^T) (hs256:s<256) (hN:0<N s) (hl2:256≤l2) (hn:nb≤58)
  (hk:∀w',CW P w' b o f (nb+nbZ T (N s) x) (V+x%2^nbZ T (N s) x*2^t) (t+nbZ T (N s) x)→Blk w' cy (csC ⟨b,o,none⟩ ⟨some ⟨stb,0,none⟩,2^T,cap⟩ ((2^T+pos s (x/2^nbZ T (N s) x-N s):Nat):Int))→Fm w w' [b,cy]→nbZ T (N s) x≤T→κ () w') :
  (ixS 2 ⟨some ⟨ttb,0,none⟩,l2,cap2⟩ (s:Int) fun (p:Addr)=>ldL [.I .i32,.I .u32] p 0 fun (r:Int×Int)=>callP Tryd.prog F #[.pointer (some ⟨cy,0,none⟩),.agg ⟨[.int .i32 r.1,.int .u32 r.2]⟩] [] κ) w:=by
 obtain ⟨n1,n2,n3,n4,n5⟩:=HT.num s hs256 hN
 have hTp:=HT.log.pow
 obtain ⟨m1,m2,m3⟩:=encNum HT.log hN n1 hx1 hx2
 have hd:=dnZ_lt HT.log hN n1
 refine ixS_b (k:=s) rfl rfl (by simp only;omega) ?_
 rw [Nat.zero_add]
 refine ld2_b (t := .I .i32) (u := .I .u32) (x:=(cum s:Int)-(N s:Int)) (y:=((dnZ T (N s):Nat):Int)) HT.tt n2 n3 ?_
 have hq:IntKind.u32.wrap ((x:Int)+((dnZ T (N s):Nat):Int))=((x+dnZ T (N s):Nat):Int):=by rw [wU32 (by omega) (by omega)];omega
 have hm:((x+dnZ T (N s):Nat):Int)/65536=((nbZ T (N s) x:Nat):Int):=by unfold nbZ;omega
 have hj:((x/2^nbZ T (N s) x:Nat):Int)+((cum s:Int)-(N s:Int))=((cum s+(x/2^nbZ T (N s) x-N s):Nat):Int):=by
  generalize x/2^nbZ T (N s) x=z at *
  omega
 obtain ⟨g1,g2⟩:=n5 (x/2^nbZ T (N s) x-N s) (by omega)
 have fin:∀w',CW P w' b o f (nb+nbZ T (N s) x) (V+x%2^nbZ T (N s) x*2^t) (t+nbZ T (N s) x)→Blk w' cy (csC ⟨b,o,none⟩ ⟨some ⟨stb,0,none⟩,2^T,cap⟩ ((2^T+pos s (x/2^nbZ T (N s) x-N s):Nat):Int))→Fm w w' [b,cy]→κ () w':=fun w' h1 h2 h3=>hk w' h1 h2 h3 m1
 rcases hF with rfl|rfl
 ·exact k140 H hb HC HT.st hc hs hsc (by omega) hq hm (by omega) (by omega) (by omega) hj (by omega) (by omega) g1 (by omega) (by omega) fin
 ·exact k142 H hb HC HT.st hc hs hsc hM (by omega) hq hm (by omega) (by omega) (by omega) hj (by omega) (by omega) g1 (by omega) (by omega) fin
theorem stepI {cy s tb to:Nat} {tl:Int} {ft:Cells} {κ:Unit→PT} (HC:Blk w cy cs0C) (HF:Blk w tb ft) (hft:ft (to+1)=some (.slice (some ⟨stb,0,none⟩) (2^T) cap)) (htc:tb≠cy) (HT:ET T w ttb stb N cum pos hT g)
  (hsc:stb≠cy) (hs256:s<256) (hN:0<N s) (hl2:256≤l2)
  (hk:∀w',Blk w' cy (csC ⟨b,o,none⟩ ⟨some ⟨stb,0,none⟩,2^T,cap⟩ ((2^T+pos s 0:Nat):Int))→Fm w w' [cy]→κ () w') :
  (ixS 2 ⟨some ⟨ttb,0,none⟩,l2,cap2⟩ (s:Int) fun (p:Addr)=>ldL [.I .i32,.I .u32] p 0 fun (r:Int×Int)=>callP Tryd.prog 139 #[.pointer (some ⟨cy,0,none⟩),.pointer (some ⟨b,o,none⟩),.pointer (some ⟨tb,to,none⟩),.int .u8 tl,.agg ⟨[.int .i32 r.1,.int .u32 r.2]⟩] [] κ) w:=by
 obtain ⟨n1,n2,n3,n4,n5⟩:=HT.num s hs256 hN
 have hTp:=HT.log.pow
 obtain ⟨m1,m2,m3,m4,m5⟩:=initNum HT.log hN n1
 have hd:=dnZ_lt HT.log hN n1
 refine ixS_b (k:=s) rfl rfl (by simp only;omega) ?_
 rw [Nat.zero_add]
 refine ld2_b (t := .I .i32) (u := .I .u32) (x:=(cum s:Int)-(N s:Int)) (y:=((dnZ T (N s):Nat):Int)) HT.tt n2 n3 ?_
 obtain ⟨g1,g2⟩:=n5 0 hN
 have hdiv:N s*2^mbZ T (N s)/2^mbZ T (N s)=N s:=Nat.mul_div_cancel _ (Nat.two_pow_pos _)
 refine c139 (m:=mbZ T (N s)) (im:=N s*2^mbZ T (N s)) (j:=cum s) (y:=2^T+pos s 0) (q:=((dnZ T (N s)+32768:Nat):Int)) HC HF hft htc HT.st hsc ?_ ?_ (by omega) (by omega) (by omega) ?_ (by omega) ?_ (by omega) (by omega) (by simpa using g1) hk
 ·rw [wU32 (by omega) (by omega)];omega
 ·rw [←m1];omega
 ·rw [wU32 (by omega) (by omega)];omega
 ·rw [hdiv];omega
end
section
variable {T:Nat} {w1:World} {b o c1 c2:Nat} {S:List Nat} {f:Cells} {V0 t0:Nat} {N cum:Nat→Nat} {pos:Nat→Nat→Nat} {hT:Cells} {g:Cells} {ttb stb cap l2 cap2:Nat} {ws:List Nat} {src:Sl}
def Pw (w1:World) (b:Nat) (S:List Nat) (x:Nat):Prop:=x=b∨x∈S∨w1.heap.size≤x
def Qw (w1:World) (b c1 c2:Nat) (S:List Nat) (x:Nat):Prop:=Pw w1 b S x∨x=c1∨x=c2
structure EC (T:Nat) (w1:World) (b c1 c2:Nat) (S:List Nat) (N cum:Nat→Nat) (pos:Nat→Nat→Nat) (hT:Cells) (g:Cells) (ttb stb l2:Nat) (ws:List Nat) (src:Sl):Prop where
 et:ET T w1 ttb stb N cum pos hT g
 mask:maskAt w1
 arr:Arr .u8 w1 src ws
 ok:∀s∈ws,s<256∧0<N s
 tab:∃tab,TabOK T tab N pos
 len:ws.length<2^20
 l2:256≤l2
 c12:c1≠c2
 c1P:¬Pw w1 b S c1
 c2P:¬Pw w1 b S c2
 stQ:¬Qw w1 b c1 c2 S stb
 ttQ:¬Qw w1 b c1 c2 S ttb
 mQ:¬Qw w1 b c1 c2 S 8
 sQ:∀a,src.a=some a→ws ≠ []→¬Qw w1 b c1 c2 S a.block
 bQ:b<w1.heap.size
def chain (c1 c2 i:Nat):Nat:=if i%2=0 then c1 else c2
theorem chain_succ (c1 c2 i:Nat):chain c1 c2 (i+2)=chain c1 c2 i:=by unfold chain;rw [show (i+2)%2=i%2 by omega]
structure EI (T:Nat) (w1:World) (b o c1 c2:Nat) (S:List Nat) (f:Cells) (V0 t0:Nat) (N:Nat→Nat) (pos:Nat→Nat→Nat) (stb cap:Nat) (ws:List Nat) (w:World) (i nb:Nat):Prop where
 two:i+2≤ws.length
 fr:Fq w1 w (Qw w1 b c1 c2 S)
 cw:CW (Pw w1 b S) w b o f nb (V0+(encZ T N pos (ws.drop i)).V*2^t0) (t0+(encZ T N pos (ws.drop i)).t)
 ca:Blk w (chain c1 c2 i) (csC ⟨b,o,none⟩ ⟨some ⟨stb,0,none⟩,2^T,cap⟩ ((encZ T N pos (ws.drop i)).a:Nat))
 cb:Blk w (chain c1 c2 (i+1)) (csC ⟨b,o,none⟩ ⟨some ⟨stb,0,none⟩,2^T,cap⟩ ((encZ T N pos (ws.drop i)).b:Nat))
theorem EI.step {w:World} {i nb F:Nat} {κ:Unit→PT} (C:EC T w1 b c1 c2 S N cum pos hT g ttb stb l2 ws src) (hF:F=140∨F=142) (H:EI T w1 b o c1 c2 S f V0 t0 N pos stb cap ws w (i+1) nb) (hnb:nb≤58) (hi:i<ws.length)
  (hk:∀w' nb',nb'≤nb+6→EI T w1 b o c1 c2 S f V0 t0 N pos stb cap ws w' i nb'→κ () w') :
  (ixS 2 ⟨some ⟨ttb,0,none⟩,l2,cap2⟩ ((ws[i]:Nat):Int) fun (p:Addr)=>ldL [.I .i32,.I .u32] p 0 fun (r:Int×Int)=>callP Tryd.prog F #[.pointer (some ⟨chain c1 c2 i,0,none⟩),.agg ⟨[.int .i32 r.1,.int .u32 r.2]⟩] [] κ) w:=by
 obtain ⟨tab,hTab⟩:=C.tab
 have htwo:=H.two
 have hok:=C.ok _ (List.getElem_mem hi)
 have hdl:2≤(ws.drop (i+1)).length:=by rw [List.length_drop];omega
 obtain ⟨_,⟨j,hj,hb⟩,_,_⟩:=encZ_ok hTab (ws.drop (i+1)) hdl (fun s hs=>(C.ok s (List.mem_of_mem_drop hs)).2)
 have hplt:=(hTab.cell _ j hj).1
 have hTp:=hTab.log.pow
 have hst:=encZ_step (T:=T) (N:=N) (pos:=pos) (s:=ws[i]) hdl
 have hdc:ws.drop i=ws[i]::ws.drop (i+1):=drop_cons hi
 have hcy:Blk w (chain c1 c2 i) (csC ⟨b,o,none⟩ ⟨some ⟨stb,0,none⟩,2^T,cap⟩ ((encZ T N pos (ws.drop (i+1))).b:Nat)):=by have:=H.cb;rwa [chain_succ] at this
 have hcx:=H.ca
 have hcw:=H.cw
 rw [←hdc] at hst
 generalize encZ T N pos (ws.drop (i+1))=e at *
 have hcyP:¬Pw w1 b S (chain c1 c2 i):=by unfold chain;split;exact C.c1P;exact C.c2P
 have hcyQ:Qw w1 b c1 c2 S (chain c1 c2 i):=by unfold chain;split;exact .inr (.inl rfl);exact .inr (.inr rfl)
 have hne:chain c1 c2 (i+1)≠chain c1 c2 i:=by
  have:=C.c12
  unfold chain
  rcases (show i%2=0∨i%2=1 by omega) with h|h
  ·rw [if_neg (show ¬(i+1)%2=0 by omega),if_pos h];exact Ne.symm this
  ·rw [if_pos (show (i+1)%2=0 by omega),if_neg (show ¬i%2=0 by omega)];exact this
 have hcb:chain c1 c2 (i+1)≠b:=by
  intro e;have:¬Pw w1 b S (chain c1 c2 (i+1)):=by unfold chain;split;exact C.c1P;exact C.c2P
  exact this (.inl e)
 refine stepE hF hcw (.inl rfl) hcy (C.et.fq H.fr C.ttQ C.stQ) hcyP (fun h=>C.stQ (.inl h)) ?_ (C.mask.fq H.fr C.mQ) (by omega) (by omega) hok.1 hok.2 C.l2 hnb ?_
 ·intro h;exact C.stQ (h▸hcyQ)
 ·intro w' h1 h2 h3 h4
  refine hk w' (nb+nbZ T (N ws[i]) e.b) (by omega) ⟨by omega,H.fr.trans (h3.fq ?_),?_,?_,?_⟩
  ·intro x hx
   simp only [List.mem_cons,List.not_mem_nil,or_false] at hx
   rcases hx with rfl|rfl
   ·exact .inl (.inl rfl)
   ·exact hcyQ
  ·rw [hst]
   simp only
   rw [Nat.add_mul,Nat.mul_assoc, ←Nat.pow_add,Nat.add_comm e.t t0, ←Nat.add_assoc, ←Nat.add_assoc]
   exact h1
  ·rw [hst];exact h2
  ·rw [hst]
   exact hcx.fr h3 (by simp;exact ⟨hcb,hne⟩)
theorem EI.flush {w:World} {i nb:Nat} {κ:Unit→PT} (C:EC T w1 b c1 c2 S N cum pos hT g ttb stb l2 ws src) (H:EI T w1 b o c1 c2 S f V0 t0 N pos stb cap ws w i nb) (hnb:nb≤63) (ht0:t0<2^38)
  (hk:∀w' nb',nb'<32→EI T w1 b o c1 c2 S f V0 t0 N pos stb cap ws w' i nb'→κ () w'):callP Tryd.prog 141 #[.pointer (some ⟨b,o,none⟩)] [] κ w:=by
 obtain ⟨tab,hTab⟩:=C.tab
 have htwo:=H.two
 have hdl:2≤(ws.drop i).length:=by rw [List.length_drop];omega
 obtain ⟨_,_,_,ht⟩:=encZ_ok hTab (ws.drop i) hdl (fun s hs=>(C.ok s (List.mem_of_mem_drop hs)).2)
 have hlen:=C.len
 have hTp:=hTab.log.pow
 rw [List.length_drop] at ht
 have ht6:T*(ws.length-i)≤6*(ws.length-i):=Nat.mul_le_mul_right _ (by omega)
 refine k141 H.cw ?_ (.inl rfl) (by omega) (by omega) ?_
 ·intro x hx;right;right;have:=H.fr.size;omega
 ·intro w' nb' h1 h2 h3 h4 h5
  have hcP:∀k,¬Pw w1 b S (chain c1 c2 k):=by intro k;unfold chain;split;exact C.c1P;exact C.c2P
  exact hk w' nb' (by omega) ⟨H.two,H.fr.trans (h5.mono fun x hx => .inl hx),h4,H.ca.fq h5 (hcP _),H.cb.fq h5 (hcP _)⟩
end
section
variable {T:Nat} {w1:World} {b o c1 c2:Nat} {S:List Nat} {f:Cells} {V0 t0:Nat} {N cum:Nat→Nat} {pos:Nat→Nat→Nat} {hT:Cells} {g:Cells} {ttb stb cap l2 cap2:Nat} {ws:List Nat} {src:Sl}
theorem EI.drew {w:World} {i nb:Nat} (H:EI T w1 b o c1 c2 S f V0 t0 N pos stb cap ws w i nb):EI T w1 b o c1 c2 S f V0 t0 N pos stb cap ws w.drew i nb :=
 ⟨H.two,H.fr.trans ((Fm.refl w []).drew.fq (by simp)),H.cw.drew,H.ca.drew,H.cb.drew⟩
theorem slA_zero (a:Option Addr) (m sz:Nat):slA a 0 m sz=a:=by
 unfold slA
 split
 ·rfl
 ·cases a with
  | none=>rfl
  | some a=>simp [Addr.add]
theorem slc_hi {w:World} {s:Sl} {sz:Nat} {y:Int} {m:Nat} {κ:Sl→PT} (hy:y=m) (hm:m≤s.c) (h:κ ⟨s.a,m,s.c⟩ w):slc sz s none (some y) none κ w:=by
 refine ⟨0,m,s.c,rfl,⟨hy,hm⟩,rfl,?_⟩
 rw [slA_zero]
 exact h
theorem Arr.take {k:IntKind} {w:World} {s:Sl} {l:List Nat} (h:Arr k w s l) (n:Nat) (hn:n≤l.length):Arr k w ⟨s.a,n,s.c⟩ (l.take n):=by
 have h1:=h.len
 have h2:=h.cap
 refine ⟨by simp;omega,by simp only;omega,?_,?_⟩
 ·intro e;rw [h.non e];simp
 ·intro b hb i hi
  simp only [List.length_take] at hi
  rw [h.get b hb i (by omega)]
  simp
theorem EC.ld {w:World} {k m:Nat} {x:Int} {κ:Int→PT} (C:EC T w1 b c1 c2 S N cum pos hT g ttb stb l2 ws src) (F:Fq w1 w (Qw w1 b c1 c2 S)) (hm:m≤ws.length) (hx:x=k) (hk:k<m) (h:κ ((ws[k]'(by omega):Nat):Int) w) :
  (ixS 1 ⟨src.a,m,src.c⟩ x fun (p:Addr)=>ld (.I .u8) p fun (n:Int)=>κ n) w:=by
 have hA:=(C.arr.fq F C.sQ).take m hm
 refine hA.ldk k hx (by simp;omega) ?_
 intro p hp
 refine ld_c (t := .I .u8) (x:=((ws[k]'(by omega):Nat):Int)) ?_ h
 rw [hp,List.getElem_take]
 rfl
theorem loop0 {w:World} {i nb:Nat} {R:Unit→PT} (C:EC T w1 b c1 c2 S N cum pos hT g ttb stb l2 ws src) (H:EI T w1 b 518 c1 c2 S f V0 t0 N pos stb cap ws w i nb) (hnb:nb≤63) (hi:i%4=0) (ht0:t0<2^38)
  (hR:∀w' nb',nb'≤63→EI T w1 b 518 c1 c2 S f V0 t0 N pos stb cap ws w' 0 nb'→R () w') :
  loopP (⟨src.a,i,src.c⟩:Sl) (q114_L0 ⟨b,0,none⟩ ⟨some ⟨ttb,0,none⟩,l2,cap2⟩ ⟨c1,0,none⟩ ⟨c2,0,none⟩ R) w:=by
 have hlen:=C.len
 refine ⟨fun x w'=>∃(i nb:Nat),x=⟨src.a,i,src.c⟩∧i%4=0∧nb≤63∧EI T w1 b 518 c1 c2 S f V0 t0 N pos stb cap ws w' i nb,fun x _=>x.l,⟨i,nb,rfl,hi,hnb,H⟩,?_⟩
 rintro x w2 ⟨i,nb,rfl,hi,hnb,H⟩
 have htwo:=H.two
 unfold q114_L0
 simp only [add_mk,Nat.zero_add]
 refine cnd_d ?_ ?_
 ·intro hc
  have hi4:4≤i:=by omega
  refine H.flush C hnb ht0 ?_
  intro w3 nb3 hb3 H3
  unfold drw
  have HD:=H3.drew
  have F3:=HD.fr
  rw [wI64 (x:=(i:Int)-4) (by omega) (by omega),wI64 (x:=(i:Int)-3) (by omega) (by omega),wI64 (x:=(i:Int)-2) (by omega) (by omega),wI64 (x:=(i:Int)-1) (by omega) (by omega)]
  refine C.ld (k:=i-4) F3 (by omega) (by omega) (by omega) ?_
  refine C.ld (k:=i-3) F3 (by omega) (by omega) (by omega) ?_
  refine C.ld (k:=i-2) F3 (by omega) (by omega) (by omega) ?_
  refine C.ld (k:=i-1) F3 (by omega) (by omega) (by omega) ?_
  have ch1:chain c1 c2 (i-1)=c2:=if_neg (by omega)
  have ch2:chain c1 c2 (i-2)=c1:=if_pos (by omega)
  have ch3:chain c1 c2 (i-3)=c2:=if_neg (by omega)
  have ch4:chain c1 c2 (i-4)=c1:=if_pos (by omega)
  have s1:=fun κ h=>EI.step (i:=i-1) (F:=142) (κ:=κ) (cap2:=cap2) C (by simp) (by rw [show i-1+1=i by omega];exact HD) (by omega) (by omega) h
  rw [ch1] at s1
  refine s1 _ ?_
  intro w4 nb4 hb4 H4
  have s2:=fun κ h=>EI.step (i:=i-2) (F:=142) (κ:=κ) (cap2:=cap2) C (by simp) (by rw [show i-2+1=i-1 by omega];exact H4) (by omega) (by omega) h
  rw [ch2] at s2
  refine s2 _ ?_
  intro w5 nb5 hb5 H5
  have s3:=fun κ h=>EI.step (i:=i-3) (F:=142) (κ:=κ) (cap2:=cap2) C (by simp) (by rw [show i-3+1=i-2 by omega];exact H5) (by omega) (by omega) h
  rw [ch3] at s3
  refine s3 _ ?_
  intro w6 nb6 hb6 H6
  have s4:=fun κ h=>EI.step (i:=i-4) (F:=142) (κ:=κ) (cap2:=cap2) C (by simp) (by rw [show i-4+1=i-3 by omega];exact H6) (by omega) (by omega) h
  rw [ch4] at s4
  refine s4 _ ?_
  intro w7 nb7 hb7 H7
  have hcap:=C.arr.cap
  have hsl:=C.arr.len
  refine slc_hi (m:=i-4) (by omega) (by simp only;omega) ?_
  exact ⟨⟨i-4,nb7,rfl,by omega,by omega,H7⟩,by simp only;omega⟩
 ·intro hc
  have h0:i=0:=by omega
  subst h0
  exact hR w2 nb hnb H
theorem loop5 {w:World} {i nb:Nat} {R:Unit→PT} (C:EC T w1 b c1 c2 S N cum pos hT g ttb stb l2 ws src) (H:EI T w1 b 518 c1 c2 S f V0 t0 N pos stb cap ws w i nb) (hnb:nb≤63) (hi:i%4=0) (ht0:t0<2^38)
  (hR:∀w' nb',nb'≤63→EI T w1 b 518 c1 c2 S f V0 t0 N pos stb cap ws w' 0 nb'→R () w') :
  loopP (⟨src.a,i,src.c⟩:Sl) (q114_L5 ⟨b,0,none⟩ ⟨some ⟨ttb,0,none⟩,l2,cap2⟩ ⟨c1,0,none⟩ ⟨c2,0,none⟩ R) w:=by
 have hlen:=C.len
 refine ⟨fun x w'=>∃(i nb:Nat),x=⟨src.a,i,src.c⟩∧i%4=0∧nb≤63∧EI T w1 b 518 c1 c2 S f V0 t0 N pos stb cap ws w' i nb,fun x _=>x.l,⟨i,nb,rfl,hi,hnb,H⟩,?_⟩
 rintro x w2 ⟨i,nb,rfl,hi,hnb,H⟩
 have htwo:=H.two
 unfold q114_L5
 simp only [add_mk,Nat.zero_add]
 refine cnd_d ?_ ?_
 ·intro hc
  have hi4:4≤i:=by omega
  refine H.flush C hnb ht0 ?_
  intro w3 nb3 hb3 H3
  unfold drw
  have HD:=H3.drew
  have F3:=HD.fr
  rw [wI64 (x:=(i:Int)-4) (by omega) (by omega),wI64 (x:=(i:Int)-3) (by omega) (by omega),wI64 (x:=(i:Int)-2) (by omega) (by omega),wI64 (x:=(i:Int)-1) (by omega) (by omega)]
  refine C.ld (k:=i-4) F3 (by omega) (by omega) (by omega) ?_
  refine C.ld (k:=i-3) F3 (by omega) (by omega) (by omega) ?_
  refine C.ld (k:=i-2) F3 (by omega) (by omega) (by omega) ?_
  refine C.ld (k:=i-1) F3 (by omega) (by omega) (by omega) ?_
  have ch1:chain c1 c2 (i-1)=c2:=if_neg (by omega)
  have ch2:chain c1 c2 (i-2)=c1:=if_pos (by omega)
  have ch3:chain c1 c2 (i-3)=c2:=if_neg (by omega)
  have ch4:chain c1 c2 (i-4)=c1:=if_pos (by omega)
  have s1:=fun κ h=>EI.step (i:=i-1) (F:=140) (κ:=κ) (cap2:=cap2) C (by simp) (by rw [show i-1+1=i by omega];exact HD) (by omega) (by omega) h
  rw [ch1] at s1
  refine s1 _ ?_
  intro w4 nb4 hb4 H4
  have s2:=fun κ h=>EI.step (i:=i-2) (F:=140) (κ:=κ) (cap2:=cap2) C (by simp) (by rw [show i-2+1=i-1 by omega];exact H4) (by omega) (by omega) h
  rw [ch2] at s2
  refine s2 _ ?_
  intro w5 nb5 hb5 H5
  have s3:=fun κ h=>EI.step (i:=i-3) (F:=140) (κ:=κ) (cap2:=cap2) C (by simp) (by rw [show i-3+1=i-2 by omega];exact H5) (by omega) (by omega) h
  rw [ch3] at s3
  refine s3 _ ?_
  intro w6 nb6 hb6 H6
  have s4:=fun κ h=>EI.step (i:=i-4) (F:=140) (κ:=κ) (cap2:=cap2) C (by simp) (by rw [show i-4+1=i-3 by omega];exact H6) (by omega) (by omega) h
  rw [ch4] at s4
  refine s4 _ ?_
  intro w7 nb7 hb7 H7
  have hcap:=C.arr.cap
  have hsl:=C.arr.len
  refine slc_hi (m:=i-4) (by omega) (by simp only;omega) ?_
  exact ⟨⟨i-4,nb7,rfl,by omega,by omega,H7⟩,by simp only;omega⟩
 ·intro hc
  have h0:i=0:=by omega
  subst h0
  exact hR w2 nb hnb H
end
section
variable {T:Nat} {w1:World} {b o c1 c2:Nat} {S:List Nat} {f:Cells} {V0 t0:Nat} {N cum:Nat→Nat} {pos:Nat→Nat→Nat} {hT:Cells} {g:Cells} {ttb stb cap l2 cap2:Nat} {ws:List Nat} {src:Sl}
theorem EI.ldf {w:World} {i nb o':Nat} {t:CT} {x:t.ty} {κ:t.ty→PT} (H:EI T w1 b o c1 c2 S f V0 t0 N pos stb cap ws w i nb) (hx:∀bc nb so,bwC f o bc nb so o'=some (t.mk x)) (hk:κ x w):ld t ⟨b,o',none⟩ κ w:=by
 obtain ⟨bc,so,ol,h,_⟩:=H.cw.body
 exact ld_b h.blk (hx _ _ _) hk
theorem enc_end {w:World} {nb:Nat} {K:Value→PT} (C:EC T w1 b c1 c2 S N cum pos hT g ttb stb l2 ws src) (H:EI T w1 b 518 c1 c2 S f V0 t0 N pos stb cap ws w 0 nb) (hnb:nb≤63) (ht0:t0<2^37)
  (h529:∀bc nb so,bwC f 518 bc nb so 529=some (.int .u8 (T:Nat)))
  (hk:∀w' so' ol',BW w' b 518 f 0 0 so' ol'→By ol'→leN ol'=V0+((encZ T N pos ws).V+(encZ T N pos ws).b%2^T*2^(encZ T N pos ws).t+(encZ T N pos ws).a%2^T*2^((encZ T N pos ws).t+T)+2^((encZ T N pos ws).t+(T+T)))*2^t0→ol'.length=(t0+(encZ T N pos ws).t+(T+T))/8+1 →
   (∀x∈so'.bs,Pw w1 b S x)→Fq w1 w' (Qw w1 b c1 c2 S)→K .nilIface w') :
  q114_J7 ⟨b,0,none⟩ K ⟨c1,0,none⟩ ⟨c2,0,none⟩ () w:=by
 obtain ⟨tab,hTab⟩:=C.tab
 have htwo:=H.two
 have hlen:=C.len
 obtain ⟨⟨ja,hja,ha⟩,⟨jb,hjb,hb⟩,_,ht⟩:=encZ_ok hTab ws (by omega) (fun s hs=>(C.ok s hs).2)
 have hpa:=(hTab.cell _ ja hja).1
 have hpb:=(hTab.cell _ jb hjb).1
 have hca:=H.ca
 have hcb:=H.cb
 have hcw:=H.cw
 rw [List.drop_zero] at hca hcb hcw
 rw [show chain c1 c2 0=c1 from rfl] at hca
 rw [show chain c1 c2 (0+1)=c2 from rfl] at hcb
 generalize encZ T N pos ws=e at *
 unfold q114_J7
 simp only [add_mk,Nat.zero_add]
 refine H.ldf (t := .I .u8) (x:=((T:Nat):Int)) h529 ?_
 have hP:∀w2:World,w1.heap.size≤w2.heap.size→Newer (Pw w1 b S) w2:=fun w2 h x hx => .inr (.inr (by omega))
 have h8:¬Pw w1 b S 8:=fun h=>C.mQ (.inl h)
 have hTp:=hTab.log.pow
 have ht6:T*ws.length≤6*ws.length:=Nat.mul_le_mul_right _ (by omega)
 refine k143 (tl:=T) (x:=e.b) hcw (hP _ H.fr.size) (.inl rfl) hcb C.c2P (C.mask.fq H.fr C.mQ) h8 (by omega) (by omega) hnb (by omega) ?_
 intro w2 nb2 hn2 H2 HC2 F2
 obtain ⟨bc,so,ol,h,_⟩:=H2.body
 refine ld_b (t := .I .u8) (x:=((T:Nat):Int)) h.blk (h529 _ _ _) ?_
 have F12:Fq w1 w2 (Qw w1 b c1 c2 S):=H.fr.trans (F2.mono fun x hx => .inl hx)
 refine k143 (tl:=T) (x:=e.a) H2 (hP _ F12.size) (.inl rfl) (hca.fq F2 C.c1P) C.c1P (C.mask.fq F12 C.mQ) h8 (by omega) (by omega) (by omega) (by omega) ?_
 intro w3 nb3 hn3 H3 HC3 F3
 have F13:Fq w1 w3 (Qw w1 b c1 c2 S):=F12.trans (F3.mono fun x hx => .inl hx)
 refine k144 H3 (hP _ F13.size) (.inl rfl) (by omega) (by omega) ?_
 intro w4 so' ol' H4 hB4 hV4 hL4 hS4 F4
 refine hk w4 so' ol' H4 hB4 ?_ ?_ hS4 (F13.trans (F4.mono fun x hx => .inl hx))
 ·rw [hV4]
  simp only [Nat.pow_add,Nat.add_mul]
  simp only [Nat.mul_assoc,Nat.mul_comm,Nat.mul_left_comm,Nat.add_assoc]
 ·rw [hL4]
  omega
end
section
variable {T:Nat} {w1:World} {b c1 c2:Nat} {S:List Nat} {f:Cells} {V0 t0:Nat} {N cum:Nat→Nat} {pos:Nat→Nat→Nat} {hT:Cells} {g:Cells} {ttb stb cap cap2:Nat} {ws:List Nat} {src:Sl}
def EndK (T:Nat) (w1:World) (b c1 c2:Nat) (S:List Nat) (f:Cells) (V0 t0:Nat) (N:Nat→Nat) (pos:Nat→Nat→Nat) (ws:List Nat) (K:Value→PT):Prop :=
 ∀w' so' ol',BW w' b 518 f 0 0 so' ol'→By ol'→leN ol'=V0+((encZ T N pos ws).V+(encZ T N pos ws).b%2^T*2^(encZ T N pos ws).t+(encZ T N pos ws).a%2^T*2^((encZ T N pos ws).t+T)+2^((encZ T N pos ws).t+(T+T)))*2^t0→ol'.length=(t0+(encZ T N pos ws).t+(T+T))/8+1 →
   (∀x∈so'.bs,Pw w1 b S x)→Fq w1 w' (Qw w1 b c1 c2 S)→K .nilIface w'
theorem enc9 {w:World} {i nb:Nat} {zb:Bool} {K:Value→PT} (C:EC T w1 b c1 c2 S N cum pos hT g ttb stb 256 ws src) (H:EI T w1 b 518 c1 c2 S f V0 t0 N pos stb cap ws w i nb) (hnb:nb≤63) (hi:i%4=0) (ht0:t0<2^37)
  (h529:∀bc nb so,bwC f 518 bc nb so 529=some (.int .u8 (T:Nat))) (h530:∀bc nb so,bwC f 518 bc nb so 530=some (.bool zb)) (hk:EndK T w1 b c1 c2 S f V0 t0 N pos ws K) :
  q114_J9 ⟨b,0,none⟩ src K ⟨some ⟨ttb,0,none⟩,256,cap2⟩ ⟨c1,0,none⟩ ⟨c2,0,none⟩ (i:Nat) w:=by
 unfold q114_J9
 obtain ⟨tab,hTab⟩:=C.tab
 have hTp:=hTab.log.pow
 have hT8:((T:Nat):Int)≤8:=by omega
 have htwo:=H.two
 have hcap:=C.arr.cap
 have hsl:=C.arr.len
 refine slc_hi (m:=i) rfl (by omega) (joinP_id ?_)
 unfold q114_X8
 simp only [add_mk,Nat.zero_add]
 refine H.ldf (t := .B) (x:=zb) h530 ⟨?_,?_⟩
 ·intro hz
  refine H.ldf (t := .I .u8) (x:=((T:Nat):Int)) h529 (cnd_d (fun _ => ?_) (fun h=>absurd hT8 h))
  exact loop0 C H hnb hi (by omega) (fun w' nb' h1 h2=>enc_end C h2 h1 ht0 h529 hk)
 ·intro hz
  refine H.ldf (t := .B) (x:=zb) h530 ⟨(fun h=>by rw [h] at hz;cases hz),fun _ => ?_⟩
  refine H.ldf (t := .I .u8) (x:=((T:Nat):Int)) h529 (cnd_d (fun _ => ?_) (fun h=>absurd hT8 h))
  exact loop5 C H hnb hi (by omega) (fun w' nb' h1 h2=>enc_end C h2 h1 ht0 h529 hk)
theorem and_i64_2 (i:Nat) (h:i<2^20):andI .i64 (i:Int) 2=((i &&& 2:Nat):Int):=andI_i64 i 2 (by omega) (by decide)
theorem and2 (i:Nat):i &&& 2=if i%4<2 then 0 else 2:=by
 have h1:i &&& 2=(i%4) &&& 2:=by
  rw [show (2:Nat)=3 &&& 2 from rfl, ←Nat.and_assoc,show i &&& 3=i%4 from Nat.and_two_pow_sub_one_eq_mod i 2,show (3:Nat) &&& 2=2 from rfl]
 rw [h1]
 have:i%4<4:=Nat.mod_lt _ (by omega)
 rcases (show i%4=0∨i%4=1∨i%4=2∨i%4=3 by omega) with h|h|h|h<;>rw [h]<;>decide
theorem enc11 {w:World} {i nb:Nat} {zb:Bool} {K:Value→PT} (C:EC T w1 b c1 c2 S N cum pos hT g ttb stb 256 ws src) (H:EI T w1 b 518 c1 c2 S f V0 t0 N pos stb cap ws w i nb) (hnb:nb≤40) (hi:i%2=0) (ht0:t0<2^37)
  (h529:∀bc nb so,bwC f 518 bc nb so 529=some (.int .u8 (T:Nat))) (h530:∀bc nb so,bwC f 518 bc nb so 530=some (.bool zb)) (hk:EndK T w1 b c1 c2 S f V0 t0 N pos ws K) :
  q114_J11 ⟨b,0,none⟩ src K ⟨some ⟨ttb,0,none⟩,256,cap2⟩ ⟨c1,0,none⟩ ⟨c2,0,none⟩ (i:Nat) w:=by
 unfold q114_J11
 have htwo:=H.two
 have hlen:=C.len
 have hsl:=C.arr.len
 have hsrc:src=⟨src.a,ws.length,src.c⟩:=by rw [←hsl]
 refine joinP_id ?_
 unfold q114_X10
 rw [and_i64_2 i (by omega),and2]
 refine cnd_nd ?_ ?_
 ·intro hc
  have h2:i%4=2:=by
   by_cases h:i%4<2
   ·rw [if_pos h] at hc;exact absurd rfl hc
   ·omega
  have ch1:chain c1 c2 (i-1)=c2:=if_neg (by omega)
  have ch2:chain c1 c2 (i-2)=c1:=if_pos (by omega)
  have q1:(i:Int)-1=((i-1:Nat):Int):=by omega
  have q2:i-1<ws.length:=by omega
  have l1:=fun κ h=>EC.ld (k:=i-1) (m:=ws.length) (x:=(i:Int)-1) (κ:=κ) C H.fr (Nat.le_refl _) q1 q2 h
  rw [←hsrc] at l1
  rw [wI64 (x:=(i:Int)-1) (by omega) (by omega)]
  refine l1 _ ?_
  have s1:=fun κ h=>EI.step (i:=i-1) (F:=140) (κ:=κ) (cap2:=cap2) C (by simp) (by rw [show i-1+1=i by omega];exact H) (by omega) (by omega) h
  rw [ch1] at s1
  refine s1 _ ?_
  intro w4 nb4 hb4 H4
  have q3:(i:Int)-2=((i-2:Nat):Int):=by omega
  have q4:i-2<ws.length:=by omega
  have l2:=fun κ h=>EC.ld (k:=i-2) (m:=ws.length) (x:=(i:Int)-2) (κ:=κ) C H4.fr (Nat.le_refl _) q3 q4 h
  rw [←hsrc] at l2
  rw [wI64 (x:=(i:Int)-2) (by omega) (by omega)]
  refine l2 _ ?_
  have s2:=fun κ h=>EI.step (i:=i-2) (F:=140) (κ:=κ) (cap2:=cap2) C (by simp) (by rw [show i-2+1=i-1 by omega];exact H4) (by omega) (by omega) h
  rw [ch2] at s2
  refine s2 _ ?_
  intro w5 nb5 hb5 H5
  rw [show (i:Int)-2=((i-2:Nat):Int) by omega]
  exact enc9 C H5 (by omega) (by omega) ht0 h529 h530 hk
 ·intro hc
  have h2:i%4<2:=by
   by_cases h:i%4<2
   ·exact h
   ·rw [if_neg h] at hc;cases hc
  exact enc9 C H (by omega) (by omega) ht0 h529 h530 hk
end
section
variable {T:Nat} {w1:World} {b c1 c2:Nat} {S:List Nat} {V0 t0:Nat} {N cum:Nat→Nat} {pos:Nat→Nat→Nat} {hT:Cells} {g:Cells} {ttb stb cap cap2:Nat} {ws:List Nat} {src:Sl}
theorem and_1 (i:Nat) (h:i<2^20):andI .i64 (i:Int) 1=((i%2:Nat):Int):=by
 have:=andI_i64 i 1 (by omega) (by decide)
 rw [Nat.and_one_is_mod] at this
 exact this
theorem enc12 {s:FS} {so:Sl} {ol0:List Nat} {K:Value→PT} (C:EC T w1 b c1 c2 S N cum pos hT g ttb stb 256 ws src) (HB:BW w1 b 518 s.at 0 0 so ol0) (hol:By ol0) (hso:∀x∈so.bs,x∈S) (hatl:s.atl=(T:Nat)) (hst:s.st=⟨some ⟨stb,0,none⟩,2^T,cap⟩)
  (HC1:Blk w1 c1 cs0C) (HC2:Blk w1 c2 cs0C) (hl3:3≤ws.length) (hlo:ol0.length<2^30) (hk:EndK T w1 b c1 c2 S s.at (leN ol0) (8*ol0.length) N pos ws K) :
  joinP (q114_X12 ⟨b,0,none⟩ src ⟨some ⟨ttb,0,none⟩,256,cap2⟩ ⟨c1,0,none⟩ ⟨c2,0,none⟩) (q114_J11 ⟨b,0,none⟩ src K ⟨some ⟨ttb,0,none⟩,256,cap2⟩ ⟨c1,0,none⟩ ⟨c2,0,none⟩) w1:=by
 have hlen:=C.len
 have hsl:=C.arr.len
 have hsrc:src=⟨src.a,ws.length,src.c⟩:=by rw [←hsl]
 have h529:∀bc nb so,bwC s.at 518 bc nb so 529=some (.int .u8 (T:Nat)):=by
  intro bc nb so
  have:bwC s.at 518 bc nb so 529=some (.int .u8 s.atl):=rfl
  rw [this,hatl]
 have h530:∀bc nb so,bwC s.at 518 bc nb so 530=some (.bool s.zb):=fun _ _ _=>rfl
 have h522:bwC s.at 518 0 0 so (521+1)=some (.slice (some ⟨stb,0,none⟩) (2^T) cap):=by
  have:bwC s.at 518 0 0 so (521+1)=some s.st.val:=rfl
  rw [this,hst];rfl
 have hc12:=C.c12
 have hc1b:c1≠b:=fun e=>C.c1P (.inl e)
 have hc2b:c2≠b:=fun e=>C.c2P (.inl e)
 have hQ1:Qw w1 b c1 c2 S c1 := .inr (.inl rfl)
 have hQ2:Qw w1 b c1 c2 S c2 := .inr (.inr rfl)
 have hs1:stb≠c1:=fun e=>C.stQ (e▸hQ1)
 have hs2:stb≠c2:=fun e=>C.stQ (e▸hQ2)
 have hht0:8*ol0.length<2^37:=by omega
 refine joinP_id ?_
 unfold q114_X12
 rw [hsl,and_1 ws.length (by omega)]
 simp only [add_mk,Nat.zero_add]
 have D1:Fm w1 w1.drew []:=(Fm.refl w1 []).drew
 have ok1:=C.ok _ (List.getElem_mem (show ws.length-1<ws.length by omega))
 have ok2:=C.ok _ (List.getElem_mem (show ws.length-2<ws.length by omega))
 have q1:(ws.length:Int)-1=((ws.length-1:Nat):Int):=by omega
 have q2:(ws.length:Int)-2=((ws.length-2:Nat):Int):=by omega
 have p1:ws.length-1<ws.length:=by omega
 have p2:ws.length-2<ws.length:=by omega
 have Fd:Fq w1 w1.drew (Qw w1 b c1 c2 S):=D1.fq (by simp)
 rw [wI64 (x:=(ws.length:Int)-1) (by omega) (by omega),wI64 (x:=(ws.length:Int)-2) (by omega) (by omega)]
 have hdrop:ws.drop (ws.length-2) = [ws[ws.length-2],ws[ws.length-1]]:=by
  rw [drop_cons (by omega),show ws.length-2+1=ws.length-1 by omega,drop_cons (by omega),List.drop_eq_nil_of_le (by omega)]
 have both:∀(w3:World),Blk w3 (chain c1 c2 (ws.length-2)) (csC ⟨b,518,none⟩ ⟨some ⟨stb,0,none⟩,2^T,cap⟩ ((2^T+pos ws[ws.length-2] 0:Nat):Int))→Blk w3 (chain c1 c2 (ws.length-2+1)) (csC ⟨b,518,none⟩ ⟨some ⟨stb,0,none⟩,2^T,cap⟩ ((2^T+pos ws[ws.length-1] 0:Nat):Int)) →
   Fm w1 w3 [c1,c2]→EI T w1 b 518 c1 c2 S s.at (leN ol0) (8*ol0.length) N pos stb cap ws w3 (ws.length-2) 0:=by
  intro w3 A1 A2 F
  refine ⟨by omega,F.fq ?_,?_,?_,?_⟩
  ·intro x hx
   simp only [List.mem_cons,List.not_mem_nil,or_false] at hx
   rcases hx with rfl|rfl
   ·exact hQ1
   ·exact hQ2
  ·rw [hdrop]
   refine ⟨0,so,ol0,HB.fr F (by simp;exact ⟨Ne.symm hc1b,Ne.symm hc2b⟩) ?_,hol,by simp [encZ],by simp [encZ],fun x hx => .inr (.inl (hso x hx))⟩
   intro x hx
   have hxS:=hso x hx
   simp only [List.mem_cons,List.not_mem_nil,or_false,not_or]
   exact ⟨fun e=>C.c1P (e ▸ .inr (.inl hxS)),fun e=>C.c2P (e ▸ .inr (.inl hxS))⟩
  ·rw [hdrop];exact A1
  ·rw [hdrop];exact A2
 refine cnd_d ?_ ?_
 ·intro hc
  have hodd:ws.length%2=1:=by omega
  have ch1:chain c1 c2 (ws.length-2)=c2:=if_neg (by omega)
  have ch2:chain c1 c2 (ws.length-2+1)=c1:=if_pos (by omega)
  have ch3:chain c1 c2 (ws.length-3)=c1:=if_pos (by omega)
  unfold drw
  refine ld_b (t := .I .u8) (x:=((T:Nat):Int)) HB.blk.drew (h529 _ _ _) ?_
  have l1:=fun κ h=>EC.ld (κ:=κ) C Fd (Nat.le_refl _) q1 p1 h
  rw [←hsrc] at l1
  refine l1 _ ?_
  refine stepI (o:=518) (cy:=c1) (HC1.fr D1 (by simp)) (HB.blk.fr D1 (by simp)) h522 (Ne.symm hc1b) (C.et.fq Fd C.ttQ C.stQ) hs1 ok1.1 ok1.2 (Nat.le_refl _) ?_
  intro w2 A1 F2
  have F12:Fm w1 w2 [c1]:=(D1.mono (by simp)).trans F2 (fun x hx => .inl hx)
  have F12d:Fm w1 w2.drew [c1]:=F12.drew
  have F12q:Fq w1 w2.drew (Qw w1 b c1 c2 S):=F12d.fq (by intro x hx;simp at hx;rw [hx];exact hQ1)
  refine ld_b (t := .I .u8) (x:=((T:Nat):Int)) (HB.blk.fr F12d (by simpa using Ne.symm hc1b)) (h529 _ _ _) ?_
  have l2:=fun κ h=>EC.ld (κ:=κ) C F12q (Nat.le_refl _) q2 p2 h
  rw [←hsrc] at l2
  refine l2 _ ?_
  refine stepI (o:=518) (cy:=c2) (HC2.fr F12d (by simpa using Ne.symm hc12)) (HB.blk.fr F12d (by simpa using Ne.symm hc1b)) h522 (Ne.symm hc2b) (C.et.fq F12q C.ttQ C.stQ) hs2 ok2.1 ok2.2 (Nat.le_refl _) ?_
  intro w3 A2 F3
  have F13:Fm w1 w3 [c1,c2]:=(F12d.mono (S' := [c1,c2]) (by intro x hx;simp at hx;simp [hx])).trans F3 (by intro x hx;simp at hx;simp [hx])
  have H3:=both w3 (by rw [ch1];exact A2) (by rw [ch2];exact A1.drew.fr F3 (by simpa using hc12)) F13
  have q3:(ws.length:Int)-3=((ws.length-3:Nat):Int):=by omega
  have p3:ws.length-3<ws.length:=by omega
  rw [wI64 (x:=(ws.length:Int)-3) (by omega) (by omega)]
  have l3:=fun κ h=>EC.ld (κ:=κ) C H3.fr (Nat.le_refl _) q3 p3 h
  rw [←hsrc] at l3
  refine l3 _ ?_
  have e3:ws.length-3+1=ws.length-2:=by omega
  have s3:=fun κ h=>EI.step (i:=ws.length-3) (F:=140) (κ:=κ) (cap2:=cap2) C (.inl rfl) (e3▸H3) (by omega) p3 h
  rw [ch3] at s3
  refine s3 _ ?_
  intro w4 nb4 hb4 H4
  rw [q3]
  exact enc11 C H4 (by omega) (by omega) hht0 h529 h530 hk
 ·intro hc
  have heven:ws.length%2=0:=by omega
  have ch1:chain c1 c2 (ws.length-2)=c1:=if_pos (by omega)
  have ch2:chain c1 c2 (ws.length-2+1)=c2:=if_neg (by omega)
  unfold drw
  refine ld_b (t := .I .u8) (x:=((T:Nat):Int)) HB.blk.drew (h529 _ _ _) ?_
  have l1:=fun κ h=>EC.ld (κ:=κ) C Fd (Nat.le_refl _) q1 p1 h
  rw [←hsrc] at l1
  refine l1 _ ?_
  refine stepI (o:=518) (cy:=c2) (HC2.fr D1 (by simp)) (HB.blk.fr D1 (by simp)) h522 (Ne.symm hc2b) (C.et.fq Fd C.ttQ C.stQ) hs2 ok1.1 ok1.2 (Nat.le_refl _) ?_
  intro w2 A1 F2
  have F12:Fm w1 w2 [c2]:=(D1.mono (by simp)).trans F2 (fun x hx => .inl hx)
  have F12d:Fm w1 w2.drew [c2]:=F12.drew
  have F12q:Fq w1 w2.drew (Qw w1 b c1 c2 S):=F12d.fq (by intro x hx;simp at hx;rw [hx];exact hQ2)
  refine ld_b (t := .I .u8) (x:=((T:Nat):Int)) (HB.blk.fr F12d (by simpa using Ne.symm hc2b)) (h529 _ _ _) ?_
  have l2:=fun κ h=>EC.ld (κ:=κ) C F12q (Nat.le_refl _) q2 p2 h
  rw [←hsrc] at l2
  refine l2 _ ?_
  refine stepI (o:=518) (cy:=c1) (HC1.fr F12d (by simpa using hc12)) (HB.blk.fr F12d (by simpa using Ne.symm hc2b)) h522 (Ne.symm hc1b) (C.et.fq F12q C.ttQ C.stQ) hs1 ok2.1 ok2.2 (Nat.le_refl _) ?_
  intro w3 A2 F3
  have F13:Fm w1 w3 [c1,c2]:=(F12d.mono (S' := [c1,c2]) (by intro x hx;simp at hx;simp [hx])).trans F3 (by intro x hx;simp at hx;simp [hx])
  have H3:=both w3 (by rw [ch1];exact A2) (by rw [ch2];exact A1.drew.fr F3 (by simpa using Ne.symm hc12)) F13
  rw [q2]
  exact enc11 C H3 (by omega) (by omega) hht0 h529 h530 hk
end
def isPE:Value→Bool
 | .iface 160 (.pointer (some _))=>true
 | _=>false
theorem isPE.is {v:Value} (h:isPE v=true):∃a,v = .iface 160 (.pointer (some a)):=by
 unfold isPE at h
 split at h
 ·exact ⟨_,rfl⟩
 ·cases h
theorem isPE.ifc {v:Value} (h:isPE v=true):isIf v=true:=by obtain ⟨a,rfl⟩:=isPE.is h;rfl
theorem isPE.nil {v:Value} (h:isPE v=true):isNil v=false:=by obtain ⟨a,rfl⟩:=isPE.is h;rfl
theorem c62 {w:World} {t:ByteArray} {K:Value→PT} (hk:∀w' v,Fm w w' []→isPE v=true→isNil v=false→K v w'):callP Tryd.prog 62 #[.string t] [.c .V] K w:=by
 apply q62_ok
 unfold q62 nw
 exact hk _ _ (Fm.refl w []).alloc rfl rfl
theorem c138 {w:World} {b o:Nat} {f:Cells} {x:Sl} {ol:List Nat} {K:Unit→PT} (H:Blk w b f) (h0:(f o).isSome) (h1:(f (o+1)).isSome) (h2:(f (o+2)).isSome) (hx:Vec 1 w x (bytes .u8 ol)) (hd:b∉x.bs)
  (hk:∀w',BW w' b o f 0 0 x ol→Fm w w' [b]→K () w'):callP Tryd.prog 138 #[.pointer (some ⟨b,o,none⟩),.slice x.a x.l x.c] [] K w:=by
 apply q138_ok
 unfold q138
 simp only [add_mk]
 refine st_b H h0 rfl ?_
 have B1:=H.set (o:=o) (v := .int .u64 0) h0
 have F1:=(Fm.refl w [b]).set (a:=⟨b,o,none⟩) (v := .int .u64 0) (.inl (by simp))
 generalize w.setCell ⟨b,o,none⟩ (.int .u64 0)=wa at *
 have h1':(updC f o (.int .u64 0) (o+1)).isSome:=by unfold updC;rw [if_neg (by omega)];exact h1
 refine st_b B1 h1' rfl ?_
 have B2:=B1.set (o:=o+1) (v := .int .u8 0) h1'
 have F2:=F1.set (a:=⟨b,o+1,none⟩) (v := .int .u8 0) (.inl (by simp))
 generalize wa.setCell ⟨b,o+1,none⟩ (.int .u8 0)=wb at *
 have h2':(updC (updC f o (.int .u64 0)) (o+1) (.int .u8 0) (o+2)).isSome:=by unfold updC;rw [if_neg (by omega),if_neg (by omega)];exact h2
 refine st_b B2 h2' rfl ?_
 have B3:=B2.setW (o:=o+2) (v := .slice x.a x.l x.c) (g:=bwC f o 0 0 x) h2' (by
  funext i
  unfold updC bwC
  by_cases e0:i=o
  ·subst e0
   rw [if_neg (by omega),if_neg (by omega),if_pos rfl,if_pos rfl];rfl
  ·by_cases e1:i=o+1
   ·subst e1
    rw [if_neg (by omega),if_pos rfl,if_neg (by omega),if_pos rfl];rfl
   ·by_cases e2:i=o+2
    ·subst e2
     rw [if_pos rfl,if_neg (by omega),if_neg (by omega),if_pos rfl];rfl
    ·rw [if_neg e2,if_neg e1,if_neg e0,if_neg e0,if_neg e1,if_neg e2])
 have F3:=F2.set (a:=⟨b,o+2,none⟩) (v := .slice x.a x.l x.c) (.inl (by simp))
 exact hk _ ⟨B3,hx.fr F3 (by intro y hy;simp;intro e;exact hd (e▸hy)),by decide,hd⟩ F3
theorem nw_cs {w:World} {κ:Addr→PT} (hk:∀w',Fm w w' []→w'.heap.size=w.heap.size+1→Blk w' w.heap.size cs0C→κ ⟨w.heap.size,0,none⟩ w'):nw z213 213 κ w :=
 hk _ (Fm.refl w []).alloc (World.size_alloc _ _) (Blk.new.congr (by funext i;rcases i with _|_|_|i<;>simp [cs0C,z213]))
theorem c114 {T:Nat} {w:World} {b ttb stb cap l2 cap2:Nat} {s:FS} {N cum:Nat→Nat} {pos:Nat→Nat→Nat} {hT:Cells} {g:Cells} {ws ol0:List Nat} {src:Sl} {K:Value→PT}
  (HB:Blk w b s.at) (hatl:s.atl=(T:Nat)) (hst:s.st=⟨some ⟨stb,0,none⟩,2^T,cap⟩) (htt:s.tt=⟨some ⟨ttb,0,none⟩,l2,cap2⟩) (h256:256≤cap2) (HO:Vec 1 w s.out (bytes .u8 ol0)) (hol:By ol0) (hbo:b∉s.out.bs)
  (hlo:ol0.length<2^30) (HE:ET T w ttb stb N cum pos hT g) (hM:maskAt w) (hA:Arr .u8 w src ws) (hok:∀s∈ws,s<256∧0<N s) (htab:∃tab,TabOK T tab N pos) (hlen:ws.length<2^20)
  (hs:stb≠b∧stb∉s.out.bs) (ht:ttb≠b∧ttb∉s.out.bs) (h8:8≠b∧8∉s.out.bs) (hsrc:∀a,src.a=some a→ws ≠ []→a.block≠b∧a.block∉s.out.bs)
  (hk0:ws.length≤2→∀w' v,Fm w w' []→isPE v=true→isNil v=false→K v w')
  (hk:2<ws.length→∀w' so' ol',BW w' b 518 s.at 0 0 so' ol'→By ol'→leN ol'=leN ol0+((encZ T N pos ws).V+(encZ T N pos ws).b%2^T*2^(encZ T N pos ws).t+(encZ T N pos ws).a%2^T*2^((encZ T N pos ws).t+T)+2^((encZ T N pos ws).t+(T+T)))*2^(8*ol0.length)→ol'.length=(8*ol0.length+(encZ T N pos ws).t+(T+T))/8+1 →
   (∀x∈so'.bs,x=b∨x∈s.out.bs∨w.heap.size≤x)→Fm w w' (b::s.out.bs)→K .nilIface w') :
  callP Tryd.prog 114 #[.pointer (some ⟨b,0,none⟩),.slice src.a src.l src.c] [.c .V] K w:=by
 apply q114_ok
 unfold q114
 have hsl:=hA.len
 refine cnd_d (fun hc=>c62 (hk0 (by omega))) ?_
 intro hc
 simp only [add_mk,Nat.zero_add]
 refine ld_b (t := .S) (x:=s.tt) HB rfl ?_
 rw [htt]
 refine slc_hi (m:=256) rfl h256 ?_
 unfold drw
 refine ld_b (t := .S) (x:=s.out) HB.drew rfl ?_
 have D1:Fm w w.drew []:=(Fm.refl w []).drew
 refine c138 (ol:=ol0) HB.drew rfl rfl rfl (HO.fr D1 (by simp)) hbo ?_
 intro w2 H2 F2
 have hsz2:w.heap.size≤w2.heap.size:=F2.size
 refine nw_cs ?_
 intro w3 F3 hs3 B3
 refine nw_cs ?_
 intro w4 F4 hs4 B4
 have hbl:=HB.lt
 have F04:Fm w w4 [b]:=(((D1.mono (by simp)).trans F2 (fun x hx => .inl hx)).trans F3 (by simp)).trans F4 (by simp)
 have hsz4:w4.heap.size=w2.heap.size+2:=by omega
 rw [hs3] at B4 ⊢
 have hob:∀x∈s.out.bs,x<w.heap.size:=HO.lt
 have hstl:=HE.st.lt
 have httl:=HE.tt.lt
 have h8l:8<w.heap.size:=World.block_lt_of_cell? _ _ (hM 0 (by omega))
 have C:EC T w4 b w2.heap.size (w2.heap.size+1) s.out.bs N cum pos hT g ttb stb 256 ws src:=by
  refine ⟨HE.fq (Q:=fun x=>x=b) (F04.fq (by simp)) ht.1 hs.1,hM.fq (P:=fun x=>x=b) (F04.fq (by simp)) h8.1,hA.fr F04 (fun a ha hn=>by simpa using (hsrc a ha hn).1),hok,htab,hlen,Nat.le_refl _,by omega,?_,?_,?_,?_,?_,?_,by omega⟩
  ·rintro (h|h|h)
   ·omega
   ·have:=hob _ h;omega
   ·omega
  ·rintro (h|h|h)
   ·omega
   ·have:=hob _ h;omega
   ·omega
  ·rintro ((h|h|h)|h|h)
   ·exact hs.1 h
   ·exact hs.2 h
   all_goals omega
  ·rintro ((h|h|h)|h|h)
   ·exact ht.1 h
   ·exact ht.2 h
   all_goals omega
  ·rintro ((h|h|h)|h|h)
   ·exact h8.1 h
   ·exact h8.2 h
   all_goals omega
  ·intro a ha hn
   have:=hA.old hn a ha
   rintro ((h|h|h)|h|h)
   ·exact (hsrc a ha hn).1 h
   ·exact (hsrc a ha hn).2 h
   all_goals omega
 have H4:BW w4 b 518 s.at 0 0 s.out ol0:=(H2.fr F3 (by simp) (by simp)).fr F4 (by simp) (by simp)
 refine enc12 C H4 hol (fun x hx=>hx) hatl hst (B3.fr F4 (by simp)) B4 (by omega) hlo ?_
 intro w' so' ol' a1 a2 a3 a4 a5 a6
 refine hk (by omega) w' so' ol' a1 a2 a3 a4 ?_ ?_
 ·intro x hx
  rcases a5 x hx with h|h|h
  ·exact .inl h
  ·exact .inr (.inl h)
  ·exact .inr (.inr (by omega))
 ·refine (F04.mono (S':=b::s.out.bs) (by intro x hx;simp at hx;left;simp [hx])).trans (a6.fm (S:=b::w2.heap.size::(w2.heap.size+1)::s.out.bs) ?_) ?_
  ·rintro x ((h|h|h)|h|h)
   ·left;simp [h]
   ·left;simp [h]
   ·right;exact h
   ·left;simp [h]
   ·left;simp [h]
  ·intro x hx
   simp only [List.mem_cons] at hx
   rcases hx with h|h|h|h
   ·left;simp [h]
   ·right;omega
   ·right;omega
   ·left;simp [h]
def Own (sz:Nat) (w:World) (s:Sl):Prop:=s.l≤s.c∧(s.a=none→s.c=0)∧∀a,s.a=some a→a.off=0∧a.spot=none∧∃f,Blk w a.block f∧∀i,i<s.c*sz→(f i).isSome
theorem Own.none {sz:Nat} {w:World} : Own sz w ⟨none,0,0⟩:=⟨Nat.le_refl _,fun _=>rfl,by simp⟩
theorem Own.fq {sz:Nat} {w w':World} {s:Sl} {P:Nat→Prop} (h:Own sz w s) (F:Fq w w' P) (hP:∀x∈s.bs,¬P x):Own sz w' s:=by
 refine ⟨h.1,h.2.1,?_⟩
 intro a ha
 obtain ⟨h1,h2,f,h3,h4⟩:=h.2.2 a ha
 exact ⟨h1,h2,f,h3.fq F (hP _ (by unfold Sl.bs;rw [ha];simp)),h4⟩
theorem Vec.own {sz:Nat} {w:World} {s:Sl} {l:List Value} (h:Vec sz w s l):Own sz w s :=
 ⟨h.cap,h.non,fun a ha=>by obtain ⟨h1,h2,f,h3,h4,h5⟩:=h.blk a ha;exact ⟨h1,h2,f,h3,h5⟩⟩
theorem Own.lt {sz:Nat} {w:World} {s:Sl} (h:Own sz w s):∀b∈s.bs,b<w.heap.size:=by
 intro b hb
 unfold Sl.bs at hb
 split at hb
 ·rename_i a ha
  obtain ⟨h1,h2,f,h3,h4⟩:=h.2.2 a ha
  simp at hb;subst hb;exact h3.lt
 ·simp at hb
end Go.Sx
