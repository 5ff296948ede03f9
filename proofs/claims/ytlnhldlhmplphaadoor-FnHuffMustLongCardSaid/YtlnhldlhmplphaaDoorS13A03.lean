/- Lemmas for the proof: P04 W1 W2 W3 W4 W5 W6 W7 W8 W9. No conditions. -/
import Derived.Test.YtlnhldlhmplphaaDoorS13A02
set_option linter.unusedVariables false
set_option linter.unusedSimpArgs false
namespace Go.Sx
open Go Go.Proofs
set_option maxRecDepth 100000
def q82 (p0:Addr) (K1:Sl→PT):PT :=
 slcA 1 256 p0 none none none fun (s2:Sl)=>K1 s2
def h82:Hint:=⟨.e,.e⟩
theorem q82_eq (p0:Addr) (K1:Sl→PT):fnE Cx h82 [.c .S] Tryd.f82 [.pt p0] K1=q82 p0 K1:=by kernel_rfl
theorem q82_fnok:fnOk Tryd.f82 1=true:=by kernel_rfl
theorem q82_ok (p0:Addr) (K1:Sl→PT) {w:World} (h:q82 p0 K1 w):Calls Tryd.prog 82 #[(.pointer (some p0))] w fun e w'=>∃r,e = .returned (resMk [.c .S] r)∧K1 r w' :=
 of_eq Tryd.func82 q82_fnok (by kernel_rfl) (by kernel_rfl) (q82_eq p0 K1) h
def q83 (p0:Addr) (n1:Int) (n2:Int) (K3:Unit→PT):PT :=
 st (Addr.add p0 525) (.int .i64 n2)<|st (Addr.add p0 528) (.int .u16 (IntKind.wrap .u16 ((IntKind.wrap .u16 n1)+(1:Int))))<|st (Addr.add p0 531) (.bool (!decide (n2=(0:Int))))<|K3 ()
def h83:Hint:=⟨.e,.e⟩
theorem q83_eq (p0:Addr) (n1:Int) (n2:Int) (K3:Unit→PT):fnE Cx h83 [] Tryd.f83 [.pt p0,.v (.int .u8 n1),.v (.int .i64 n2)] K3=q83 p0 n1 n2 K3:=by kernel_rfl
theorem q83_fnok:fnOk Tryd.f83 3=true:=by kernel_rfl
theorem q83_ok (p0:Addr) (n1:Int) (n2:Int) (K3:Unit→PT) {w:World} (h:q83 p0 n1 n2 K3 w):Calls Tryd.prog 83 #[(.pointer (some p0)),(.int .u8 n1),(.int .i64 n2)] w fun e w'=>∃r,e = .returned (resMk [] r)∧K3 r w' :=
 of_eq Tryd.func83 q83_fnok (by kernel_rfl) (by kernel_rfl) (q83_eq p0 n1 n2 K3) h
def q84_J0 (s0:Sl) (K2:(Sl×Value)→PT) (r5:Option Addr×Value) (x10:Int):PT :=
 nz r5.1 fun (p11:Addr)=>st (Addr.add p11 531) (.bool true)<|nz r5.1 fun (p12:Addr)=>st (Addr.add p12 525) (.int .i64 (0:Int))<|cnd (decide (x10=(s0.l:Int))) (drw<|ld .V ⟨4,0,none⟩ fun (v13:Value)=>K2 (⟨none,0,0⟩,v13)) (cnd (decide (x10=(1:Int))) (drw<|ld .V ⟨3,0,none⟩ fun (v14:Value)=>K2 (⟨none,0,0⟩,v14)) (req (0≤(7:Int))<|cnd (decide (x10<(shrI .i64 (s0.l:Int) (7:Int)))) (drw<|ld .V ⟨3,0,none⟩ fun (v15:Value)=>K2 (⟨none,0,0⟩,v15)) (callP Tryd.prog 110 #[(.pointer r5.1)] [] fun (r16:Unit)=>callP Tryd.prog 111 #[(.pointer r5.1)] [.c .V] fun (r17:Value)=>req (isIf r17=true)<|cnd (!(isNil r17)) (K2 (⟨none,0,0⟩,r17)) (callP Tryd.prog 112 #[(.pointer r5.1)] [.c .V] fun (r18:Value)=>req (isIf r18=true)<|cnd (!(isNil r18)) (K2 (⟨none,0,0⟩,r18)) (callP Tryd.prog 113 #[(.pointer r5.1)] [.c .V] fun (r19:Value)=>req (isIf r19=true)<|cnd (!(isNil r19)) (K2 (⟨none,0,0⟩,r19)) (callP Tryd.prog 114 #[(.pointer r5.1),(.slice s0.a s0.l s0.c)] [.c .V] fun (r20:Value)=>req (isIf r20=true)<|cnd (!(isNil r20)) (K2 (⟨none,0,0⟩,r20)) (nz r5.1 fun (p21:Addr)=>ld .S (Addr.add (Addr.add p21 518) 2) fun (s22:Sl)=>nz r5.1 fun (p23:Addr)=>st (Addr.add p23 526) (.slice s22.a s22.l s22.c)<|nz r5.1 fun (p24:Addr)=>ld .S (Addr.add p24 526) fun (s25:Sl)=>cnd (decide ((s0.l:Int)≤(s25.l:Int))) (drw<|ld .V ⟨3,0,none⟩ fun (v26:Value)=>K2 (⟨none,0,0⟩,v26)) (nz r5.1 fun (p27:Addr)=>ld .S (Addr.add p27 526) fun (s28:Sl)=>K2 (s28,.nilIface)))))))))
def q84 (s0:Sl) (o1:Option Addr) (K2:(Sl×Value)→PT):PT :=
 cnd (decide ((s0.l:Int)≤(1:Int))) (drw<|ld .V ⟨3,0,none⟩ fun (v3:Value)=>K2 (⟨none,0,0⟩,v3)) (cnd (decide ((2147483647:Int)<(s0.l:Int))) (callP Tryd.prog 62 #[(.string ⟨#[105,110,112,117,116,32,116,111,111,32,98,105,103,44,32,109,117,115,116,32,98,101,32,60,32,50,71,66]⟩)] [.c .V] fun (r4:Value)=>K2 (⟨none,0,0⟩,r4)) (callP Tryd.prog 77 #[(.pointer o1),(.slice s0.a s0.l s0.c)] [.c .P,.c .V] fun (r5:Option Addr×Value)=>req (isIf r5.2=true)<|cnd (!(isNil r5.2)) (K2 (⟨none,0,0⟩,r5.2)) (nz r5.1 fun (p6:Addr)=>ld (.I .i64) (Addr.add p6 525) fun (n7:Int)=>joinP (fun R8=>cnd (decide (n7=(0:Int))) (callP Tryd.prog 109 #[(.pointer r5.1),(.slice s0.a s0.l s0.c)] [.c (.I .i64)] fun (r9:Int)=>R8 r9) (R8 n7)) (q84_J0 s0 K2 r5))))
def h84:Hint:=⟨(.n .e 127 ([(7,.c (.I .i64))],[0,1]) .e),.e⟩
theorem q84_eq (s0:Sl) (o1:Option Addr) (K2:(Sl×Value)→PT):fnE Cx h84 [.c .S,.c .V] Tryd.f84 [.v (.slice s0.a s0.l s0.c),.v (.pointer o1)] K2=q84 s0 o1 K2:=by kernel_rfl
theorem q84_fnok:fnOk Tryd.f84 2=true:=by kernel_rfl
theorem q84_ok (s0:Sl) (o1:Option Addr) (K2:(Sl×Value)→PT) {w:World} (h:q84 s0 o1 K2 w):Calls Tryd.prog 84 #[(.slice s0.a s0.l s0.c),(.pointer o1)] w fun e w'=>∃r,e = .returned (resMk [.c .S,.c .V] r)∧K2 r w' :=
 of_eq Tryd.func84 q84_fnok (by kernel_rfl) (by kernel_rfl) (q84_eq s0 o1 K2) h
def q87_J0 (x5:(Int×Bool×Int)) (A6:(Int×Bool×Int)→PT) (x9:Int×Bool):PT :=
 A6 (x9.1,x9.2,(IntKind.wrap .i64 (x5.2.2+(1:Int))))
def q87_L1 (s0:Sl) (n1:Int) (n2:Int) (R4:Int×Bool→PT) (x5:Int×Bool×Int) (A6:(Int×Bool×Int)→PT):PT :=
 cnd (decide (x5.2.2<n2)) (joinP (fun R7=>callP Tryd.prog 76 #[(.slice s0.a s0.l s0.c),(.int .i64 (IntKind.wrap .i64 (n1+x5.2.2)))] [.c (.I .i64),.c .B] fun (r8:Int×Bool)=>req (0≤x5.2.2)<|cnd x5.2.1 (R7 ((IntKind.wrap .i64 (x5.1+(shlI .i64 r8.1 x5.2.2))),r8.2)) (R7 ((IntKind.wrap .i64 (x5.1+(shlI .i64 r8.1 x5.2.2))),false))) (q87_J0 x5 A6)) (R4 (x5.1,x5.2.1))
def q87_J2 (K3:(Int×Bool)→PT) (x10:Int×Bool):PT :=
 K3 (x10.1,x10.2)
def q87 (s0:Sl) (n1:Int) (n2:Int) (K3:(Int×Bool)→PT):PT :=
 joinP (fun R4=>loopP ((0:Int),true,(0:Int)) (q87_L1 s0 n1 n2 R4)) (q87_J2 K3)
def h87:Hint:=⟨(.n (.n .e 7 ([(8,.c (.I .i64)),(9,.c .B)],[]) .e) 58 ([(8,.c (.I .i64)),(9,.c .B),(10,.c (.I .i64))],[1,0,2]) (.n .e 233 ([(8,.c (.I .i64)),(9,.c .B)],[10,1,0,2]) .e)),.e⟩
theorem q87_eq (s0:Sl) (n1:Int) (n2:Int) (K3:(Int×Bool)→PT):fnE Cx h87 [.c (.I .i64),.c .B] Tryd.f87 [.v (.slice s0.a s0.l s0.c),.v (.int .i64 n1),.v (.int .i64 n2)] K3=q87 s0 n1 n2 K3:=by kernel_rfl
theorem q87_fnok:fnOk Tryd.f87 3=true:=by kernel_rfl
theorem q87_ok (s0:Sl) (n1:Int) (n2:Int) (K3:(Int×Bool)→PT) {w:World} (h:q87 s0 n1 n2 K3 w):Calls Tryd.prog 87 #[(.slice s0.a s0.l s0.c),(.int .i64 n1),(.int .i64 n2)] w fun e w'=>∃r,e = .returned (resMk [.c (.I .i64),.c .B] r)∧K3 r w' :=
 of_eq Tryd.func87 q87_fnok (by kernel_rfl) (by kernel_rfl) (q87_eq s0 n1 n2 K3) h
def q88_J0 (s0:Sl) (o1:Option Addr) (v2:Value) (K3:(Sl×Bool×Value)→PT) (x25:(Int)) (x178:Unit):PT :=
 nz o1 fun (p179:Addr)=>ld .S (Addr.add p179 271) fun (s180:Sl)=>callP Tryd.prog 65 #[(.slice s180.a s180.l s180.c),(.pointer o1)] [.c .V] fun (r181:Value)=>req (isIf r181=true)<|cnd (!(isNil r181)) (nz o1 fun (p182:Addr)=>st (Addr.add p182 257) (.slice none 0 0)<|K3 (⟨none,0,0⟩,false,r181)) (nz o1 fun (p183:Addr)=>ld .S (Addr.add p183 256) fun (s184:Sl)=>nz o1 fun (p185:Addr)=>st (Addr.add p185 257) (.slice s184.a s184.l s184.c)<|callV Tryd.prog v2 #[(.slice s0.a s0.l s0.c)] [.c .S,.c .V] fun (r186:Sl×Value)=>nz o1 fun (p187:Addr)=>st (Addr.add p187 256) (.slice r186.1.a r186.1.l r186.1.c)<|req (isIf r186.2=true)<|cnd (!(isNil r186.2)) (nz o1 fun (p188:Addr)=>st (Addr.add p188 257) (.slice none 0 0)<|K3 (⟨none,0,0⟩,false,r186.2)) (nz o1 fun (p189:Addr)=>ld .S (Addr.add p189 256) fun (s190:Sl)=>cnd (decide (x25≤(s190.l:Int))) (nz o1 fun (p191:Addr)=>st (Addr.add p191 257) (.slice none 0 0)<|drw<|ld .V ⟨0,0,none⟩ fun (v192:Value)=>K3 (⟨none,0,0⟩,false,v192)) (drw<|nz o1 fun (p193:Addr)=>ld .S (Addr.add p193 271) fun (s194:Sl)=>nz o1 fun (p195:Addr)=>ld (.I .u8) (Addr.add p195 268) fun (n196:Int)=>nz o1 fun (p197:Addr)=>ld .S (Addr.add p197 270) fun (s198:Sl)=>slc 2 s198 none (some (0:Int)) none fun (s199:Sl)=>nz o1 fun (p200:Addr)=>st (Addr.add p200 270) (.slice s194.a s194.l s194.c)<|nz o1 fun (p201:Addr)=>st (Addr.add p201 269) (.int .u8 n196)<|nz o1 fun (p202:Addr)=>st (Addr.add p202 271) (.slice s199.a s199.l s199.c)<|drw<|nz o1 fun (p203:Addr)=>ld .S (Addr.add p203 256) fun (s204:Sl)=>nz o1 fun (p205:Addr)=>ld .S (Addr.add p205 257) fun (s206:Sl)=>slc 1 s204 (some (s206.l:Int)) none none fun (s207:Sl)=>nz o1 fun (p208:Addr)=>st (Addr.add p208 258) (.slice s207.a s207.l s207.c)<|nz o1 fun (p209:Addr)=>ld .S (Addr.add p209 256) fun (s210:Sl)=>K3 (s210,false,.nilIface))))
def q88_X1 (s0:Sl) (o1:Option Addr) (v2:Value) (K3:(Sl×Bool×Value)→PT) (x19:(Int×Bool)) (x25:(Int)) (R115:Unit→PT):PT :=
 nz o1 fun (p116:Addr)=>ld (.I .u8) (Addr.add p116 263) fun (n117:Int)=>cnd (decide (n117=(0:Int))) (cnd x19.2 (nz o1 fun (p118:Addr)=>ld .S (Addr.add p118 256) fun (s119:Sl)=>drw<|nz o1 fun (p120:Addr)=>ld .S (Addr.add p120 270) fun (s121:Sl)=>nz o1 fun (p122:Addr)=>nz o1 fun (p123:Addr)=>ld (.I .u16) (Addr.add p123 265) fun (n124:Int)=>slcA 1 256 p122 none (some n124) none fun (s125:Sl)=>callP Tryd.prog 119 #[(.slice s121.a s121.l s121.c),(.slice s125.a s125.l s125.c)] [.c (.I .i64)] fun (r126:Int)=>drw<|nz o1 fun (p127:Addr)=>ld .S (Addr.add p127 271) fun (s128:Sl)=>nz o1 fun (p129:Addr)=>nz o1 fun (p130:Addr)=>ld (.I .u16) (Addr.add p130 265) fun (n131:Int)=>slcA 1 256 p129 none (some n131) none fun (s132:Sl)=>callP Tryd.prog 119 #[(.slice s128.a s128.l s128.c),(.slice s132.a s132.l s132.c)] [.c (.I .i64)] fun (r133:Int)=>cnd (decide (r126≤(IntKind.wrap .i64 ((s119.l:Int)+r133)))) (nz o1 fun (p134:Addr)=>ld .S (Addr.add p134 271) fun (s135:Sl)=>nz o1 fun (p136:Addr)=>ld (.I .u8) (Addr.add p136 268) fun (n137:Int)=>nz o1 fun (p138:Addr)=>ld .S (Addr.add p138 270) fun (s139:Sl)=>nz o1 fun (p140:Addr)=>st (Addr.add p140 271) (.slice s139.a s139.l s139.c)<|nz o1 fun (p141:Addr)=>ld (.I .u8) (Addr.add p141 269) fun (n142:Int)=>nz o1 fun (p143:Addr)=>st (Addr.add p143 268) (.int .u8 n142)<|callV Tryd.prog v2 #[(.slice s0.a s0.l s0.c)] [.c .S,.c .V] fun (r144:Sl×Value)=>nz o1 fun (p145:Addr)=>st (Addr.add p145 256) (.slice r144.1.a r144.1.l r144.1.c)<|nz o1 fun (p146:Addr)=>st (Addr.add p146 271) (.slice s135.a s135.l s135.c)<|nz o1 fun (p147:Addr)=>st (Addr.add p147 268) (.int .u8 n137)<|req (isIf r144.2=true)<|cnd (!(isNil r144.2)) (K3 (⟨none,0,0⟩,false,r144.2)) (nz o1 fun (p148:Addr)=>ld .S (Addr.add p148 256) fun (s149:Sl)=>cnd (decide (x25≤(s149.l:Int))) (drw<|ld .V ⟨0,0,none⟩ fun (v150:Value)=>K3 (⟨none,0,0⟩,false,v150)) (nz o1 fun (p151:Addr)=>ld .S (Addr.add p151 256) fun (s152:Sl)=>nz o1 fun (p153:Addr)=>st (Addr.add p153 258) (.slice s152.a s152.l s152.c)<|nz o1 fun (p154:Addr)=>ld .S (Addr.add p154 256) fun (s155:Sl)=>K3 (s155,true,.nilIface)))) (cnd (decide (x25≤(IntKind.wrap .i64 ((s119.l:Int)+(12:Int))))) (nz o1 fun (p156:Addr)=>ld .S (Addr.add p156 271) fun (s157:Sl)=>nz o1 fun (p158:Addr)=>ld (.I .u8) (Addr.add p158 268) fun (n159:Int)=>nz o1 fun (p160:Addr)=>ld .S (Addr.add p160 270) fun (s161:Sl)=>nz o1 fun (p162:Addr)=>st (Addr.add p162 271) (.slice s161.a s161.l s161.c)<|nz o1 fun (p163:Addr)=>ld (.I .u8) (Addr.add p163 269) fun (n164:Int)=>nz o1 fun (p165:Addr)=>st (Addr.add p165 268) (.int .u8 n164)<|callV Tryd.prog v2 #[(.slice s0.a s0.l s0.c)] [.c .S,.c .V] fun (r166:Sl×Value)=>nz o1 fun (p167:Addr)=>st (Addr.add p167 256) (.slice r166.1.a r166.1.l r166.1.c)<|nz o1 fun (p168:Addr)=>st (Addr.add p168 271) (.slice s157.a s157.l s157.c)<|nz o1 fun (p169:Addr)=>st (Addr.add p169 268) (.int .u8 n159)<|req (isIf r166.2=true)<|cnd (!(isNil r166.2)) (K3 (⟨none,0,0⟩,false,r166.2)) (nz o1 fun (p170:Addr)=>ld .S (Addr.add p170 256) fun (s171:Sl)=>cnd (decide (x25≤(s171.l:Int))) (drw<|ld .V ⟨0,0,none⟩ fun (v172:Value)=>K3 (⟨none,0,0⟩,false,v172)) (nz o1 fun (p173:Addr)=>ld .S (Addr.add p173 256) fun (s174:Sl)=>nz o1 fun (p175:Addr)=>st (Addr.add p175 258) (.slice s174.a s174.l s174.c)<|nz o1 fun (p176:Addr)=>ld .S (Addr.add p176 256) fun (s177:Sl)=>K3 (s177,true,.nilIface)))) (R115 ()))) (R115 ())) (R115 ())
def q88_J2 (s0:Sl) (o1:Option Addr) (v2:Value) (K3:(Sl×Bool×Value)→PT) (x19:(Int×Bool)) (x25:(Int)) (x114:Unit):PT :=
 joinP (q88_X1 s0 o1 v2 K3 x19 x25) (q88_J0 s0 o1 v2 K3 x25)
def q88_J3 (s0:Sl) (o1:Option Addr) (v2:Value) (K3:(Sl×Bool×Value)→PT) (x19:(Int×Bool)) (x25:(Int)) (x111:Unit):PT :=
 callP Tryd.prog 91 #[(.pointer o1)] [.c .V] fun (r112:Value)=>req (isIf r112=true)<|cnd (!(isNil r112)) (K3 (⟨none,0,0⟩,false,r112)) (joinP (fun R113=>R113 ()) (q88_J2 s0 o1 v2 K3 x19 x25))
def q88_X4 (s0:Sl) (o1:Option Addr) (v2:Value) (K3:(Sl×Bool×Value)→PT) (x19:(Int×Bool)) (x25:(Int)) (R36:Unit→PT):PT :=
 nz o1 fun (p37:Addr)=>ld (.I .u8) (Addr.add p37 263) fun (n38:Int)=>cnd (decide (n38=(1:Int))) (cnd x19.2 (nz o1 fun (p39:Addr)=>ld .S (Addr.add p39 271) fun (s40:Sl)=>nz o1 fun (p41:Addr)=>ld (.I .u8) (Addr.add p41 268) fun (n42:Int)=>nz o1 fun (p43:Addr)=>ld .S (Addr.add p43 270) fun (s44:Sl)=>nz o1 fun (p45:Addr)=>st (Addr.add p45 271) (.slice s44.a s44.l s44.c)<|nz o1 fun (p46:Addr)=>ld (.I .u8) (Addr.add p46 269) fun (n47:Int)=>nz o1 fun (p48:Addr)=>st (Addr.add p48 268) (.int .u8 n47)<|callV Tryd.prog v2 #[(.slice s0.a s0.l s0.c)] [.c .S,.c .V] fun (r49:Sl×Value)=>nz o1 fun (p50:Addr)=>st (Addr.add p50 256) (.slice r49.1.a r49.1.l r49.1.c)<|nz o1 fun (p51:Addr)=>st (Addr.add p51 271) (.slice s40.a s40.l s40.c)<|nz o1 fun (p52:Addr)=>st (Addr.add p52 268) (.int .u8 n42)<|req (isIf r49.2=true)<|cnd (isNil r49.2) (nz o1 fun (p53:Addr)=>ld .S (Addr.add p53 256) fun (s54:Sl)=>cnd (decide ((s54.l:Int)<x25)) (nz o1 fun (p55:Addr)=>ld .S (Addr.add p55 256) fun (s56:Sl)=>nz o1 fun (p57:Addr)=>st (Addr.add p57 258) (.slice s56.a s56.l s56.c)<|nz o1 fun (p58:Addr)=>ld .S (Addr.add p58 256) fun (s59:Sl)=>K3 (s59,true,.nilIface)) (nz o1 fun (p60:Addr)=>ld (.I .u8) (Addr.add p60 263) fun (n61:Int)=>cnd (decide (n61=(3:Int))) (drw<|ld .V ⟨0,0,none⟩ fun (v62:Value)=>K3 (⟨none,0,0⟩,false,v62)) (nz o1 fun (p63:Addr)=>ld .S (Addr.add p63 270) fun (s64:Sl)=>slc 2 s64 none (some (0:Int)) none fun (s65:Sl)=>nz o1 fun (p66:Addr)=>st (Addr.add p66 270) (.slice s65.a s65.l s65.c)<|R36 ()))) (nz o1 fun (p67:Addr)=>ld (.I .u8) (Addr.add p67 263) fun (n68:Int)=>cnd (decide (n68=(3:Int))) (drw<|ld .V ⟨0,0,none⟩ fun (v69:Value)=>K3 (⟨none,0,0⟩,false,v69)) (nz o1 fun (p70:Addr)=>ld .S (Addr.add p70 270) fun (s71:Sl)=>slc 2 s71 none (some (0:Int)) none fun (s72:Sl)=>nz o1 fun (p73:Addr)=>st (Addr.add p73 270) (.slice s72.a s72.l s72.c)<|R36 ()))) (R36 ())) (nz o1 fun (p74:Addr)=>ld (.I .u8) (Addr.add p74 263) fun (n75:Int)=>cnd (decide (n75=(3:Int))) (cnd x19.2 (nz o1 fun (p76:Addr)=>ld .S (Addr.add p76 271) fun (s77:Sl)=>nz o1 fun (p78:Addr)=>ld (.I .u8) (Addr.add p78 268) fun (n79:Int)=>nz o1 fun (p80:Addr)=>ld .S (Addr.add p80 270) fun (s81:Sl)=>nz o1 fun (p82:Addr)=>st (Addr.add p82 271) (.slice s81.a s81.l s81.c)<|nz o1 fun (p83:Addr)=>ld (.I .u8) (Addr.add p83 269) fun (n84:Int)=>nz o1 fun (p85:Addr)=>st (Addr.add p85 268) (.int .u8 n84)<|callV Tryd.prog v2 #[(.slice s0.a s0.l s0.c)] [.c .S,.c .V] fun (r86:Sl×Value)=>nz o1 fun (p87:Addr)=>st (Addr.add p87 256) (.slice r86.1.a r86.1.l r86.1.c)<|nz o1 fun (p88:Addr)=>st (Addr.add p88 271) (.slice s77.a s77.l s77.c)<|nz o1 fun (p89:Addr)=>st (Addr.add p89 268) (.int .u8 n79)<|req (isIf r86.2=true)<|cnd (isNil r86.2) (nz o1 fun (p90:Addr)=>ld .S (Addr.add p90 256) fun (s91:Sl)=>cnd (decide ((s91.l:Int)<x25)) (nz o1 fun (p92:Addr)=>ld .S (Addr.add p92 256) fun (s93:Sl)=>nz o1 fun (p94:Addr)=>st (Addr.add p94 258) (.slice s93.a s93.l s93.c)<|nz o1 fun (p95:Addr)=>ld .S (Addr.add p95 256) fun (s96:Sl)=>K3 (s96,true,.nilIface)) (nz o1 fun (p97:Addr)=>ld (.I .u8) (Addr.add p97 263) fun (n98:Int)=>cnd (decide (n98=(3:Int))) (drw<|ld .V ⟨0,0,none⟩ fun (v99:Value)=>K3 (⟨none,0,0⟩,false,v99)) (nz o1 fun (p100:Addr)=>ld .S (Addr.add p100 270) fun (s101:Sl)=>slc 2 s101 none (some (0:Int)) none fun (s102:Sl)=>nz o1 fun (p103:Addr)=>st (Addr.add p103 270) (.slice s102.a s102.l s102.c)<|R36 ()))) (nz o1 fun (p104:Addr)=>ld (.I .u8) (Addr.add p104 263) fun (n105:Int)=>cnd (decide (n105=(3:Int))) (drw<|ld .V ⟨0,0,none⟩ fun (v106:Value)=>K3 (⟨none,0,0⟩,false,v106)) (nz o1 fun (p107:Addr)=>ld .S (Addr.add p107 270) fun (s108:Sl)=>slc 2 s108 none (some (0:Int)) none fun (s109:Sl)=>nz o1 fun (p110:Addr)=>st (Addr.add p110 270) (.slice s109.a s109.l s109.c)<|R36 ()))) (R36 ())) (R36 ()))
def q88_J5 (s0:Sl) (o1:Option Addr) (v2:Value) (K3:(Sl×Bool×Value)→PT) (x25:(Int)) (x353:Unit):PT :=
 nz o1 fun (p354:Addr)=>ld .S (Addr.add p354 271) fun (s355:Sl)=>callP Tryd.prog 65 #[(.slice s355.a s355.l s355.c),(.pointer o1)] [.c .V] fun (r356:Value)=>req (isIf r356=true)<|cnd (!(isNil r356)) (nz o1 fun (p357:Addr)=>st (Addr.add p357 257) (.slice none 0 0)<|K3 (⟨none,0,0⟩,false,r356)) (nz o1 fun (p358:Addr)=>ld .S (Addr.add p358 256) fun (s359:Sl)=>nz o1 fun (p360:Addr)=>st (Addr.add p360 257) (.slice s359.a s359.l s359.c)<|callV Tryd.prog v2 #[(.slice s0.a s0.l s0.c)] [.c .S,.c .V] fun (r361:Sl×Value)=>nz o1 fun (p362:Addr)=>st (Addr.add p362 256) (.slice r361.1.a r361.1.l r361.1.c)<|req (isIf r361.2=true)<|cnd (!(isNil r361.2)) (nz o1 fun (p363:Addr)=>st (Addr.add p363 257) (.slice none 0 0)<|K3 (⟨none,0,0⟩,false,r361.2)) (nz o1 fun (p364:Addr)=>ld .S (Addr.add p364 256) fun (s365:Sl)=>cnd (decide (x25≤(s365.l:Int))) (nz o1 fun (p366:Addr)=>st (Addr.add p366 257) (.slice none 0 0)<|drw<|ld .V ⟨0,0,none⟩ fun (v367:Value)=>K3 (⟨none,0,0⟩,false,v367)) (drw<|nz o1 fun (p368:Addr)=>ld .S (Addr.add p368 271) fun (s369:Sl)=>nz o1 fun (p370:Addr)=>ld (.I .u8) (Addr.add p370 268) fun (n371:Int)=>nz o1 fun (p372:Addr)=>ld .S (Addr.add p372 270) fun (s373:Sl)=>slc 2 s373 none (some (0:Int)) none fun (s374:Sl)=>nz o1 fun (p375:Addr)=>st (Addr.add p375 270) (.slice s369.a s369.l s369.c)<|nz o1 fun (p376:Addr)=>st (Addr.add p376 269) (.int .u8 n371)<|nz o1 fun (p377:Addr)=>st (Addr.add p377 271) (.slice s374.a s374.l s374.c)<|drw<|nz o1 fun (p378:Addr)=>ld .S (Addr.add p378 256) fun (s379:Sl)=>nz o1 fun (p380:Addr)=>ld .S (Addr.add p380 257) fun (s381:Sl)=>slc 1 s379 (some (s381.l:Int)) none none fun (s382:Sl)=>nz o1 fun (p383:Addr)=>st (Addr.add p383 258) (.slice s382.a s382.l s382.c)<|nz o1 fun (p384:Addr)=>ld .S (Addr.add p384 256) fun (s385:Sl)=>K3 (s385,false,.nilIface))))
def q88_X6 (s0:Sl) (o1:Option Addr) (v2:Value) (K3:(Sl×Bool×Value)→PT) (x19:(Int×Bool)) (x25:(Int)) (R290:Unit→PT):PT :=
 nz o1 fun (p291:Addr)=>ld (.I .u8) (Addr.add p291 263) fun (n292:Int)=>cnd (decide (n292=(0:Int))) (cnd x19.2 (nz o1 fun (p293:Addr)=>ld .S (Addr.add p293 256) fun (s294:Sl)=>drw<|nz o1 fun (p295:Addr)=>ld .S (Addr.add p295 270) fun (s296:Sl)=>nz o1 fun (p297:Addr)=>nz o1 fun (p298:Addr)=>ld (.I .u16) (Addr.add p298 265) fun (n299:Int)=>slcA 1 256 p297 none (some n299) none fun (s300:Sl)=>callP Tryd.prog 119 #[(.slice s296.a s296.l s296.c),(.slice s300.a s300.l s300.c)] [.c (.I .i64)] fun (r301:Int)=>drw<|nz o1 fun (p302:Addr)=>ld .S (Addr.add p302 271) fun (s303:Sl)=>nz o1 fun (p304:Addr)=>nz o1 fun (p305:Addr)=>ld (.I .u16) (Addr.add p305 265) fun (n306:Int)=>slcA 1 256 p304 none (some n306) none fun (s307:Sl)=>callP Tryd.prog 119 #[(.slice s303.a s303.l s303.c),(.slice s307.a s307.l s307.c)] [.c (.I .i64)] fun (r308:Int)=>cnd (decide (r301≤(IntKind.wrap .i64 ((s294.l:Int)+r308)))) (nz o1 fun (p309:Addr)=>ld .S (Addr.add p309 271) fun (s310:Sl)=>nz o1 fun (p311:Addr)=>ld (.I .u8) (Addr.add p311 268) fun (n312:Int)=>nz o1 fun (p313:Addr)=>ld .S (Addr.add p313 270) fun (s314:Sl)=>nz o1 fun (p315:Addr)=>st (Addr.add p315 271) (.slice s314.a s314.l s314.c)<|nz o1 fun (p316:Addr)=>ld (.I .u8) (Addr.add p316 269) fun (n317:Int)=>nz o1 fun (p318:Addr)=>st (Addr.add p318 268) (.int .u8 n317)<|callV Tryd.prog v2 #[(.slice s0.a s0.l s0.c)] [.c .S,.c .V] fun (r319:Sl×Value)=>nz o1 fun (p320:Addr)=>st (Addr.add p320 256) (.slice r319.1.a r319.1.l r319.1.c)<|nz o1 fun (p321:Addr)=>st (Addr.add p321 271) (.slice s310.a s310.l s310.c)<|nz o1 fun (p322:Addr)=>st (Addr.add p322 268) (.int .u8 n312)<|req (isIf r319.2=true)<|cnd (!(isNil r319.2)) (K3 (⟨none,0,0⟩,false,r319.2)) (nz o1 fun (p323:Addr)=>ld .S (Addr.add p323 256) fun (s324:Sl)=>cnd (decide (x25≤(s324.l:Int))) (drw<|ld .V ⟨0,0,none⟩ fun (v325:Value)=>K3 (⟨none,0,0⟩,false,v325)) (nz o1 fun (p326:Addr)=>ld .S (Addr.add p326 256) fun (s327:Sl)=>nz o1 fun (p328:Addr)=>st (Addr.add p328 258) (.slice s327.a s327.l s327.c)<|nz o1 fun (p329:Addr)=>ld .S (Addr.add p329 256) fun (s330:Sl)=>K3 (s330,true,.nilIface)))) (cnd (decide (x25≤(IntKind.wrap .i64 ((s294.l:Int)+(12:Int))))) (nz o1 fun (p331:Addr)=>ld .S (Addr.add p331 271) fun (s332:Sl)=>nz o1 fun (p333:Addr)=>ld (.I .u8) (Addr.add p333 268) fun (n334:Int)=>nz o1 fun (p335:Addr)=>ld .S (Addr.add p335 270) fun (s336:Sl)=>nz o1 fun (p337:Addr)=>st (Addr.add p337 271) (.slice s336.a s336.l s336.c)<|nz o1 fun (p338:Addr)=>ld (.I .u8) (Addr.add p338 269) fun (n339:Int)=>nz o1 fun (p340:Addr)=>st (Addr.add p340 268) (.int .u8 n339)<|callV Tryd.prog v2 #[(.slice s0.a s0.l s0.c)] [.c .S,.c .V] fun (r341:Sl×Value)=>nz o1 fun (p342:Addr)=>st (Addr.add p342 256) (.slice r341.1.a r341.1.l r341.1.c)<|nz o1 fun (p343:Addr)=>st (Addr.add p343 271) (.slice s332.a s332.l s332.c)<|nz o1 fun (p344:Addr)=>st (Addr.add p344 268) (.int .u8 n334)<|req (isIf r341.2=true)<|cnd (!(isNil r341.2)) (K3 (⟨none,0,0⟩,false,r341.2)) (nz o1 fun (p345:Addr)=>ld .S (Addr.add p345 256) fun (s346:Sl)=>cnd (decide (x25≤(s346.l:Int))) (drw<|ld .V ⟨0,0,none⟩ fun (v347:Value)=>K3 (⟨none,0,0⟩,false,v347)) (nz o1 fun (p348:Addr)=>ld .S (Addr.add p348 256) fun (s349:Sl)=>nz o1 fun (p350:Addr)=>st (Addr.add p350 258) (.slice s349.a s349.l s349.c)<|nz o1 fun (p351:Addr)=>ld .S (Addr.add p351 256) fun (s352:Sl)=>K3 (s352,true,.nilIface)))) (R290 ()))) (R290 ())) (R290 ())
def q88_J7 (s0:Sl) (o1:Option Addr) (v2:Value) (K3:(Sl×Bool×Value)→PT) (x19:(Int×Bool)) (x25:(Int)) (x289:Unit):PT :=
 joinP (q88_X6 s0 o1 v2 K3 x19 x25) (q88_J5 s0 o1 v2 K3 x25)
def q88_J8 (s0:Sl) (o1:Option Addr) (v2:Value) (K3:(Sl×Bool×Value)→PT) (x19:(Int×Bool)) (x25:(Int)) (x286:Unit):PT :=
 callP Tryd.prog 91 #[(.pointer o1)] [.c .V] fun (r287:Value)=>req (isIf r287=true)<|cnd (!(isNil r287)) (K3 (⟨none,0,0⟩,false,r287)) (joinP (fun R288=>R288 ()) (q88_J7 s0 o1 v2 K3 x19 x25))
def q88_X9 (s0:Sl) (o1:Option Addr) (v2:Value) (K3:(Sl×Bool×Value)→PT) (x19:(Int×Bool)) (x25:(Int)) (R211:Unit→PT):PT :=
 nz o1 fun (p212:Addr)=>ld (.I .u8) (Addr.add p212 263) fun (n213:Int)=>cnd (decide (n213=(1:Int))) (cnd x19.2 (nz o1 fun (p214:Addr)=>ld .S (Addr.add p214 271) fun (s215:Sl)=>nz o1 fun (p216:Addr)=>ld (.I .u8) (Addr.add p216 268) fun (n217:Int)=>nz o1 fun (p218:Addr)=>ld .S (Addr.add p218 270) fun (s219:Sl)=>nz o1 fun (p220:Addr)=>st (Addr.add p220 271) (.slice s219.a s219.l s219.c)<|nz o1 fun (p221:Addr)=>ld (.I .u8) (Addr.add p221 269) fun (n222:Int)=>nz o1 fun (p223:Addr)=>st (Addr.add p223 268) (.int .u8 n222)<|callV Tryd.prog v2 #[(.slice s0.a s0.l s0.c)] [.c .S,.c .V] fun (r224:Sl×Value)=>nz o1 fun (p225:Addr)=>st (Addr.add p225 256) (.slice r224.1.a r224.1.l r224.1.c)<|nz o1 fun (p226:Addr)=>st (Addr.add p226 271) (.slice s215.a s215.l s215.c)<|nz o1 fun (p227:Addr)=>st (Addr.add p227 268) (.int .u8 n217)<|req (isIf r224.2=true)<|cnd (isNil r224.2) (nz o1 fun (p228:Addr)=>ld .S (Addr.add p228 256) fun (s229:Sl)=>cnd (decide ((s229.l:Int)<x25)) (nz o1 fun (p230:Addr)=>ld .S (Addr.add p230 256) fun (s231:Sl)=>nz o1 fun (p232:Addr)=>st (Addr.add p232 258) (.slice s231.a s231.l s231.c)<|nz o1 fun (p233:Addr)=>ld .S (Addr.add p233 256) fun (s234:Sl)=>K3 (s234,true,.nilIface)) (nz o1 fun (p235:Addr)=>ld (.I .u8) (Addr.add p235 263) fun (n236:Int)=>cnd (decide (n236=(3:Int))) (drw<|ld .V ⟨0,0,none⟩ fun (v237:Value)=>K3 (⟨none,0,0⟩,false,v237)) (nz o1 fun (p238:Addr)=>ld .S (Addr.add p238 270) fun (s239:Sl)=>slc 2 s239 none (some (0:Int)) none fun (s240:Sl)=>nz o1 fun (p241:Addr)=>st (Addr.add p241 270) (.slice s240.a s240.l s240.c)<|R211 ()))) (nz o1 fun (p242:Addr)=>ld (.I .u8) (Addr.add p242 263) fun (n243:Int)=>cnd (decide (n243=(3:Int))) (drw<|ld .V ⟨0,0,none⟩ fun (v244:Value)=>K3 (⟨none,0,0⟩,false,v244)) (nz o1 fun (p245:Addr)=>ld .S (Addr.add p245 270) fun (s246:Sl)=>slc 2 s246 none (some (0:Int)) none fun (s247:Sl)=>nz o1 fun (p248:Addr)=>st (Addr.add p248 270) (.slice s247.a s247.l s247.c)<|R211 ()))) (R211 ())) (nz o1 fun (p249:Addr)=>ld (.I .u8) (Addr.add p249 263) fun (n250:Int)=>cnd (decide (n250=(3:Int))) (cnd x19.2 (nz o1 fun (p251:Addr)=>ld .S (Addr.add p251 271) fun (s252:Sl)=>nz o1 fun (p253:Addr)=>ld (.I .u8) (Addr.add p253 268) fun (n254:Int)=>nz o1 fun (p255:Addr)=>ld .S (Addr.add p255 270) fun (s256:Sl)=>nz o1 fun (p257:Addr)=>st (Addr.add p257 271) (.slice s256.a s256.l s256.c)<|nz o1 fun (p258:Addr)=>ld (.I .u8) (Addr.add p258 269) fun (n259:Int)=>nz o1 fun (p260:Addr)=>st (Addr.add p260 268) (.int .u8 n259)<|callV Tryd.prog v2 #[(.slice s0.a s0.l s0.c)] [.c .S,.c .V] fun (r261:Sl×Value)=>nz o1 fun (p262:Addr)=>st (Addr.add p262 256) (.slice r261.1.a r261.1.l r261.1.c)<|nz o1 fun (p263:Addr)=>st (Addr.add p263 271) (.slice s252.a s252.l s252.c)<|nz o1 fun (p264:Addr)=>st (Addr.add p264 268) (.int .u8 n254)<|req (isIf r261.2=true)<|cnd (isNil r261.2) (nz o1 fun (p265:Addr)=>ld .S (Addr.add p265 256) fun (s266:Sl)=>cnd (decide ((s266.l:Int)<x25)) (nz o1 fun (p267:Addr)=>ld .S (Addr.add p267 256) fun (s268:Sl)=>nz o1 fun (p269:Addr)=>st (Addr.add p269 258) (.slice s268.a s268.l s268.c)<|nz o1 fun (p270:Addr)=>ld .S (Addr.add p270 256) fun (s271:Sl)=>K3 (s271,true,.nilIface)) (nz o1 fun (p272:Addr)=>ld (.I .u8) (Addr.add p272 263) fun (n273:Int)=>cnd (decide (n273=(3:Int))) (drw<|ld .V ⟨0,0,none⟩ fun (v274:Value)=>K3 (⟨none,0,0⟩,false,v274)) (nz o1 fun (p275:Addr)=>ld .S (Addr.add p275 270) fun (s276:Sl)=>slc 2 s276 none (some (0:Int)) none fun (s277:Sl)=>nz o1 fun (p278:Addr)=>st (Addr.add p278 270) (.slice s277.a s277.l s277.c)<|R211 ()))) (nz o1 fun (p279:Addr)=>ld (.I .u8) (Addr.add p279 263) fun (n280:Int)=>cnd (decide (n280=(3:Int))) (drw<|ld .V ⟨0,0,none⟩ fun (v281:Value)=>K3 (⟨none,0,0⟩,false,v281)) (nz o1 fun (p282:Addr)=>ld .S (Addr.add p282 270) fun (s283:Sl)=>slc 2 s283 none (some (0:Int)) none fun (s284:Sl)=>nz o1 fun (p285:Addr)=>st (Addr.add p285 270) (.slice s284.a s284.l s284.c)<|R211 ()))) (R211 ())) (R211 ()))
def q88_J10 (s0:Sl) (o1:Option Addr) (v2:Value) (K3:(Sl×Bool×Value)→PT) (x19:(Int×Bool)) (x25:Int):PT :=
 nz o1 fun (p26:Addr)=>st (Addr.add p26 267) (.bool true)<|nz o1 fun (p27:Addr)=>st (Addr.add p27 266) (.int .i64 (0:Int))<|cnd (decide ((s0.l:Int)≤x19.1)) (cnd (decide ((s0.l:Int)<x19.1)) (callP Tryd.prog 62 #[(.string ⟨#[109,97,120,67,111,117,110,116,32,62,32,108,101,110,103,116,104]⟩)] [.c .V] fun (r28:Value)=>K3 (⟨none,0,0⟩,false,r28)) (cnd (decide ((s0.l:Int)=(1:Int))) (drw<|ld .V ⟨0,0,none⟩ fun (v29:Value)=>K3 (⟨none,0,0⟩,false,v29)) (drw<|ld .V ⟨1,0,none⟩ fun (v30:Value)=>K3 (⟨none,0,0⟩,false,v30)))) (cnd (decide (x19.1=(1:Int))) (drw<|ld .V ⟨0,0,none⟩ fun (v31:Value)=>K3 (⟨none,0,0⟩,false,v31)) (req (0≤(7:Int))<|cnd (decide (x19.1<(shrI .i64 (s0.l:Int) (7:Int)))) (drw<|ld .V ⟨0,0,none⟩ fun (v32:Value)=>K3 (⟨none,0,0⟩,false,v32)) (nz o1 fun (p33:Addr)=>ld (.I .u8) (Addr.add p33 263) fun (n34:Int)=>cnd (decide (n34=(3:Int))) (cnd (!x19.2) (drw<|ld .V ⟨0,0,none⟩ fun (v35:Value)=>K3 (⟨none,0,0⟩,false,v35)) (joinP (q88_X4 s0 o1 v2 K3 x19 x25) (q88_J3 s0 o1 v2 K3 x19 x25))) (joinP (q88_X9 s0 o1 v2 K3 x19 x25) (q88_J8 s0 o1 v2 K3 x19 x25)))))
def q88_J11 (s0:Sl) (o1:Option Addr) (v2:Value) (K3:(Sl×Bool×Value)→PT) (x19:Int×Bool):PT :=
 joinP (fun R20=>nz o1 fun (p21:Addr)=>ld (.I .u8) (Addr.add p21 264) fun (n22:Int)=>cnd (decide ((0:Int)<n22)) (nz o1 fun (p23:Addr)=>ld (.I .u8) (Addr.add p23 264) fun (n24:Int)=>req (0≤n24)<|R20 (IntKind.wrap .i64 ((s0.l:Int)-(shrI .i64 (s0.l:Int) n24)))) (R20 (s0.l:Int))) (q88_J10 s0 o1 v2 K3 x19)
def q88_J12 (s0:Sl) (o1:Option Addr) (v2:Value) (K3:(Sl×Bool×Value)→PT) (x11:Unit):PT :=
 nz o1 fun (p12:Addr)=>ld (.I .i64) (Addr.add p12 266) fun (n13:Int)=>joinP (fun R14=>cnd (decide (n13=(0:Int))) (callP Tryd.prog 117 #[(.pointer o1),(.slice s0.a s0.l s0.c)] [.c (.I .i64),.c .B] fun (r15:Int×Bool)=>R14 (r15.1,r15.2)) (nz o1 fun (p16:Addr)=>ld .S (Addr.add p16 270) fun (s17:Sl)=>callP Tryd.prog 118 #[(.pointer o1),(.slice s17.a s17.l s17.c)] [.c .B] fun (r18:Bool)=>R14 (n13,r18))) (q88_J11 s0 o1 v2 K3)
def q88 (s0:Sl) (o1:Option Addr) (v2:Value) (K3:(Sl×Bool×Value)→PT):PT :=
 joinP (fun R4=>nz o1 fun (p5:Addr)=>ld (.I .u8) (Addr.add p5 263) fun (n6:Int)=>cnd (decide (n6=(2:Int))) (nz o1 fun (p7:Addr)=>ld .S (Addr.add p7 270) fun (s8:Sl)=>slc 2 s8 none (some (0:Int)) none fun (s9:Sl)=>nz o1 fun (p10:Addr)=>st (Addr.add p10 270) (.slice s9.a s9.l s9.c)<|R4 ()) (R4 ())) (q88_J12 s0 o1 v2 K3)
def h88:Hint:=⟨(.n (.n (.n (.n .e 3 ([],[1,2,0]) .e) 31 ([(9,.c (.I .i64)),(10,.c .B)],[1,2,0]) .e) 127 ([(11,.c (.I .i64))],[1,10,2,9,0]) (.n .e 8191 ([],[11,1,0,2,10]) .e)) 8191 ([],[11,1,0,2,10]) (.n (.n (.n .e 65535 ([],[10,2,0,1,11]) .e) 65535 ([],[10,2,0,1,11]) .e) 131071 ([],[11,0,2,1]) (.n .e 131071 ([],[11,0,2,1]) .e))),(.n (.n .e 146 [.c .S,.c .V] .e) 286 [.c .S,.c .V] (.n .e 344 [.c .S,.c .V] .e))⟩
theorem q88_eq (s0:Sl) (o1:Option Addr) (v2:Value) (K3:(Sl×Bool×Value)→PT):fnE Cx h88 [.c .S,.c .B,.c .V] Tryd.f88 [.v (.slice s0.a s0.l s0.c),.v (.pointer o1),.v v2] K3=q88 s0 o1 v2 K3:=by kernel_rfl
theorem q88_fnok:fnOk Tryd.f88 3=true:=by kernel_rfl
theorem q88_ok (s0:Sl) (o1:Option Addr) (v2:Value) (K3:(Sl×Bool×Value)→PT) {w:World} (h:q88 s0 o1 v2 K3 w):Calls Tryd.prog 88 #[(.slice s0.a s0.l s0.c),(.pointer o1),v2] w fun e w'=>∃r,e = .returned (resMk [.c .S,.c .B,.c .V] r)∧K3 r w' :=
 of_eq Tryd.func88 q88_fnok (by kernel_rfl) (by kernel_rfl) (q88_eq s0 o1 v2 K3) h
def q89_J0 (p0:Addr) (K2:(Sl×Value)→PT) (s4:Sl) (x9:(Sl×Int)) (R11:Sl→PT) (x14:Sl):PT :=
 slc 1 x9.1 (some (x14.l:Int)) none none fun (s15:Sl)=>ld .S (Addr.add p0 256) fun (s16:Sl)=>ld .S (Addr.add p0 256) fun (s17:Sl)=>callP Tryd.prog 120 #[(.pointer (some p0)),(.slice s17.a s17.l s17.c),(.slice x14.a x14.l x14.c)] [.c .S] fun (r18:Sl)=>st (Addr.add p0 256) (.slice r18.a r18.l r18.c)<|ld .S (Addr.add p0 256) fun (s19:Sl)=>cnd (decide ((65535:Int)<(IntKind.wrap .i64 ((s19.l:Int)-(s16.l:Int))))) (drw<|ld .V ⟨0,0,none⟩ fun (v20:Value)=>K2 (⟨none,0,0⟩,v20)) (cnd (decide (x9.2<(3:Int))) (ld .S (Addr.add p0 256) fun (s21:Sl)=>ld .S (Addr.add p0 256) fun (s22:Sl)=>ixS 1 s22 (IntKind.wrap .i64 ((IntKind.wrap .i64 (x9.2*(2:Int)))+(s4.l:Int))) fun (p23:Addr)=>st p23 (.int .u8 (IntKind.wrap .u8 (IntKind.wrap .i64 ((s21.l:Int)-(s16.l:Int)))))<|ld .S (Addr.add p0 256) fun (s24:Sl)=>req (0≤(8:Int))<|ixS 1 s24 (IntKind.wrap .i64 ((IntKind.wrap .i64 ((IntKind.wrap .i64 (x9.2*(2:Int)))+(s4.l:Int)))+(1:Int))) fun (p25:Addr)=>st p25 (.int .u8 (IntKind.wrap .u8 (shrI .i64 (IntKind.wrap .i64 ((s21.l:Int)-(s16.l:Int))) (8:Int))))<|R11 s15) (R11 s15))
def q89_J1 (x9:(Sl×Int)) (A10:(Sl×Int)→PT) (x26:Sl):PT :=
 A10 (x26,(IntKind.wrap .i64 (x9.2+(1:Int))))
def q89_L2 (p0:Addr) (s1:Sl) (K2:(Sl×Value)→PT) (s4:Sl) (R8:Unit→PT) (x9:Sl×Int) (A10:(Sl×Int)→PT):PT :=
 cnd (decide (x9.2<(4:Int))) (joinP (fun R11=>joinP (fun R12=>cnd (decide ((quoI .i64 (IntKind.wrap .i64 ((s1.l:Int)+(3:Int))) (4:Int))<(x9.1.l:Int))) (slc 1 x9.1 none (some (quoI .i64 (IntKind.wrap .i64 ((s1.l:Int)+(3:Int))) (4:Int))) none fun (s13:Sl)=>R12 s13) (R12 x9.1)) (q89_J0 p0 K2 s4 x9 R11)) (q89_J1 x9 A10)) (R8 ())
def q89_J3 (p0:Addr) (K2:(Sl×Value)→PT) (x27:Unit):PT :=
 ld .S (Addr.add p0 256) fun (s28:Sl)=>K2 (s28,.nilIface)
def q89 (p0:Addr) (s1:Sl) (K2:(Sl×Value)→PT):PT :=
 cnd (decide ((s1.l:Int)<(12:Int))) (drw<|ld .V ⟨0,0,none⟩ fun (v3:Value)=>K2 (⟨none,0,0⟩,v3)) (req ((4:Int)≠0)<|ld .S (Addr.add p0 256) fun (s4:Sl)=>ld .S (Addr.add p0 256) fun (s5:Sl)=>nw [(.int .u8 (0:Int)),(.int .u8 (0:Int)),(.int .u8 (0:Int)),(.int .u8 (0:Int)),(.int .u8 (0:Int)),(.int .u8 (0:Int))] 5 fun (p6:Addr)=>app z5 5 1 s5 ⟨(some p6),6,6⟩ fun (s7:Sl)=>st (Addr.add p0 256) (.slice s7.a s7.l s7.c)<|joinP (fun R8=>loopP (s1,(0:Int)) (q89_L2 p0 s1 K2 s4 R8)) (q89_J3 p0 K2))
def h89:Hint:=⟨(.n (.n (.n .e 63 ([],[0]) .e) 506 ([(1,.c .S),(34,.c (.I .i64))],[0,7,6]) .e) 4051 ([(1,.c .S)],[34,0,7,6]) (.n .e 64819 ([(9,.c .S)],[1,6,7,0,34,8]) .e)),.e⟩
theorem q89_eq (p0:Addr) (s1:Sl) (K2:(Sl×Value)→PT):fnE Cx h89 [.c .S,.c .V] Tryd.f89 [.pt p0,.v (.slice s1.a s1.l s1.c)] K2=q89 p0 s1 K2:=by kernel_rfl
theorem q89_fnok:fnOk Tryd.f89 2=true:=by kernel_rfl
theorem q89_ok (p0:Addr) (s1:Sl) (K2:(Sl×Value)→PT) {w:World} (h:q89 p0 s1 K2 w):Calls Tryd.prog 89 #[(.pointer (some p0)),(.slice s1.a s1.l s1.c)] w fun e w'=>∃r,e = .returned (resMk [.c .S,.c .V] r)∧K2 r w' :=
 of_eq Tryd.func89 q89_fnok (by kernel_rfl) (by kernel_rfl) (q89_eq p0 s1 K2) h
def q90 (p0:Addr) (s1:Sl) (K2:(Sl×Value)→PT):PT :=
 ld .S (Addr.add p0 256) fun (s3:Sl)=>callP Tryd.prog 120 #[(.pointer (some p0)),(.slice s3.a s3.l s3.c),(.slice s1.a s1.l s1.c)] [.c .S] fun (r4:Sl)=>K2 (r4,.nilIface)
def h90:Hint:=⟨.e,.e⟩
theorem q90_eq (p0:Addr) (s1:Sl) (K2:(Sl×Value)→PT):fnE Cx h90 [.c .S,.c .V] Tryd.f90 [.pt p0,.v (.slice s1.a s1.l s1.c)] K2=q90 p0 s1 K2:=by kernel_rfl
theorem q90_fnok:fnOk Tryd.f90 2=true:=by kernel_rfl
theorem q90_ok (p0:Addr) (s1:Sl) (K2:(Sl×Value)→PT) {w:World} (h:q90 p0 s1 K2 w):Calls Tryd.prog 90 #[(.pointer (some p0)),(.slice s1.a s1.l s1.c)] w fun e w'=>∃r,e = .returned (resMk [.c .S,.c .V] r)∧K2 r w' :=
 of_eq Tryd.func90 q90_fnok (by kernel_rfl) (by kernel_rfl) (q90_eq p0 s1 K2) h
def q91_L0 (p0:Addr) (R4:Unit→PT) (s11:Sl) (x12:Int) (A13:Int→PT):PT :=
 cnd (decide (x12<(s11.l:Int))) (ld .S (Addr.add p0 271) fun (s14:Sl)=>ixS 2 s14 x12 fun (p15:Addr)=>stL p15 0 [(.int .u16 (0:Int)),(.int .u8 (0:Int))]<|A13 (IntKind.wrap .i64 (x12+(1:Int)))) (R4 ())
def q91_L1 (s20:Sl) (R23:Int→PT) (x24:Int) (A25:Int→PT):PT :=
 ixS 1 s20 x24 fun (p26:Addr)=>callP Tryd.prog 123 #[(.pointer (some p26))] [.c (.I .u32)] fun (r27:Int)=>cnd (decide (r27=(0:Int))) (A25 (IntKind.wrap .u16 (x24-(1:Int)))) (R23 x24)
def q91_L2 (n17:Int) (s20:Sl) (x28:(Int)) (R39:Unit→PT) (x40:Int) (A41:Int→PT):PT :=
 cnd (decide (x40≤(IntKind.wrap .i16 ((IntKind.wrap .i16 ((IntKind.wrap .i16 n17)+(IntKind.wrap .i16 x28)))-(1:Int))))) (ixS 1 s20 x40 fun (p42:Addr)=>callP Tryd.prog 124 #[(.pointer (some p42)),(.int .u32 (1073741824:Int))] [] fun (r43:Unit)=>A41 (IntKind.wrap .i16 (x40+(1:Int)))) (R39 ())
def q91_J3 (s20:Sl) (s22:Sl) (x48:(Int×Int×Int)) (A49:(Int×Int×Int)→PT) (x55:(Int×Int×Int)) (x61:Int×Int×Int):PT :=
 drw<|ixS 1 s20 x48.1 fun (p62:Addr)=>ixS 1 s22 (IntKind.wrap .i16 (x55.2.2+(1:Int))) fun (p63:Addr)=>ixS 1 s22 (IntKind.wrap .i16 (x61.2.2+(1:Int))) fun (p64:Addr)=>callP Tryd.prog 123 #[(.pointer (some p63))] [.c (.I .u32)] fun (r65:Int)=>callP Tryd.prog 123 #[(.pointer (some p64))] [.c (.I .u32)] fun (r66:Int)=>callP Tryd.prog 124 #[(.pointer (some p62)),(.int .u32 (IntKind.wrap .u32 (r65+r66)))] [] fun (r67:Unit)=>ixS 1 s22 (IntKind.wrap .i16 (x55.2.2+(1:Int))) fun (p68:Addr)=>callP Tryd.prog 125 #[(.pointer (some p68)),(.int .i16 x48.1)] [] fun (r69:Unit)=>ixS 1 s22 (IntKind.wrap .i16 (x61.2.2+(1:Int))) fun (p70:Addr)=>callP Tryd.prog 125 #[(.pointer (some p70)),(.int .i16 x48.1)] [] fun (r71:Unit)=>A49 ((IntKind.wrap .i16 (x48.1+(1:Int))),x61.1,x61.2.1)
def q91_X4 (s22:Sl) (x55:(Int×Int×Int)) (R56:(Int×Int×Int)→PT):PT :=
 drw<|ixS 1 s22 (IntKind.wrap .i16 (x55.1+(1:Int))) fun (p57:Addr)=>ixS 1 s22 (IntKind.wrap .i16 (x55.2.1+(1:Int))) fun (p58:Addr)=>callP Tryd.prog 123 #[(.pointer (some p57))] [.c (.I .u32)] fun (r59:Int)=>callP Tryd.prog 123 #[(.pointer (some p58))] [.c (.I .u32)] fun (r60:Int)=>cnd (decide (r59<r60)) (R56 ((IntKind.wrap .i16 (x55.1-(1:Int))),x55.2.1,x55.1)) (R56 (x55.1,(IntKind.wrap .i16 (x55.2.1+(1:Int))),x55.2.1))
def q91_J5 (s20:Sl) (s22:Sl) (x48:(Int×Int×Int)) (A49:(Int×Int×Int)→PT) (x55:Int×Int×Int):PT :=
 joinP (q91_X4 s22 x55) (q91_J3 s20 s22 x48 A49 x55)
def q91_X6 (s22:Sl) (x48:(Int×Int×Int)) (R50:(Int×Int×Int)→PT):PT :=
 drw<|ixS 1 s22 (IntKind.wrap .i16 (x48.2.1+(1:Int))) fun (p51:Addr)=>ixS 1 s22 (IntKind.wrap .i16 (x48.2.2+(1:Int))) fun (p52:Addr)=>callP Tryd.prog 123 #[(.pointer (some p51))] [.c (.I .u32)] fun (r53:Int)=>callP Tryd.prog 123 #[(.pointer (some p52))] [.c (.I .u32)] fun (r54:Int)=>cnd (decide (r53<r54)) (R50 ((IntKind.wrap .i16 (x48.2.1-(1:Int))),x48.2.2,x48.2.1)) (R50 (x48.2.1,(IntKind.wrap .i16 (x48.2.2+(1:Int))),x48.2.2))
def q91_L7 (n17:Int) (s20:Sl) (s22:Sl) (x28:(Int)) (R47:Unit→PT) (x48:Int×Int×Int) (A49:(Int×Int×Int)→PT):PT :=
 cnd (decide (x48.1≤(IntKind.wrap .i16 ((IntKind.wrap .i16 ((IntKind.wrap .i16 n17)+(IntKind.wrap .i16 x28)))-(1:Int))))) (joinP (q91_X6 s22 x48) (q91_J5 s20 s22 x48 A49)) (R47 ())
def q91_L8 (n17:Int) (s20:Sl) (R75:Unit→PT) (x76:Int) (A77:Int→PT):PT :=
 cnd (decide ((IntKind.wrap .i16 n17)≤x76)) (drw<|ixS 1 s20 x76 fun (p78:Addr)=>ixS 1 s20 x76 fun (p79:Addr)=>callP Tryd.prog 127 #[(.pointer (some p79))] [.c (.I .u16)] fun (r80:Int)=>ixS 1 s20 r80 fun (p81:Addr)=>callP Tryd.prog 128 #[(.pointer (some p81))] [.c (.I .u8)] fun (r82:Int)=>callP Tryd.prog 126 #[(.pointer (some p78)),(.int .u8 (IntKind.wrap .u8 (r82+(1:Int))))] [] fun (r83:Unit)=>A77 (IntKind.wrap .i16 (x76-(1:Int)))) (R75 ())
def q91_L9 (s20:Sl) (x28:(Int)) (R85:Unit→PT) (x86:Int) (A87:Int→PT):PT :=
 cnd (decide (x86≤x28)) (drw<|ixS 1 s20 x86 fun (p88:Addr)=>ixS 1 s20 x86 fun (p89:Addr)=>callP Tryd.prog 127 #[(.pointer (some p89))] [.c (.I .u16)] fun (r90:Int)=>ixS 1 s20 r90 fun (p91:Addr)=>callP Tryd.prog 128 #[(.pointer (some p91))] [.c (.I .u8)] fun (r92:Int)=>callP Tryd.prog 126 #[(.pointer (some p88)),(.int .u8 (IntKind.wrap .u8 (r92+(1:Int))))] [] fun (r93:Unit)=>A87 (IntKind.wrap .u16 (x86+(1:Int)))) (R85 ())
def q91_L10 (p98:Addr) (R100:Unit→PT) (s101:Sl) (x102:Int) (A103:Int→PT):PT :=
 cnd (decide (x102<(s101.l:Int))) (ixS 1 s101 x102 fun (p104:Addr)=>ld (.I .u64) p104 fun (n105:Int)=>nw z196 196 fun (p106:Addr)=>st p106 (.int .u64 n105)<|callP Tryd.prog 128 #[(.pointer (some p106))] [.c (.I .u8)] fun (r107:Int)=>ixA 1 12 p98 r107 fun (p108:Addr)=>ld (.I .u16) p108 fun (n109:Int)=>ixA 1 12 p98 r107 fun (p110:Addr)=>st p110 (.int .u16 (IntKind.wrap .u16 (n109+(1:Int))))<|A103 (IntKind.wrap .i64 (x102+(1:Int)))) (R100 ())
def q91_L11 (p98:Addr) (p99:Addr) (R112:Unit→PT) (x113:Int×Int) (A114:(Int×Int)→PT):PT :=
 cnd (decide ((0:Int)<x113.2)) (ixA 1 16 p99 x113.2 fun (p115:Addr)=>st p115 (.int .u16 x113.1)<|ixA 1 12 p98 x113.2 fun (p116:Addr)=>ld (.I .u16) p116 fun (n117:Int)=>req (0≤(1:Int))<|A114 ((shrI .u16 (IntKind.wrap .u16 (x113.1+n117)) (1:Int)),(IntKind.wrap .u8 (x113.2-(1:Int))))) (R112 ())
def q91_L12 (p0:Addr) (R119:Unit→PT) (s120:Sl) (x121:Int) (A122:Int→PT):PT :=
 cnd (decide (x121<(s120.l:Int))) (ixS 1 s120 x121 fun (p123:Addr)=>ld (.I .u64) p123 fun (n124:Int)=>nw z196 196 fun (p125:Addr)=>st p125 (.int .u64 n124)<|drw<|ld .S (Addr.add p0 271) fun (s126:Sl)=>callP Tryd.prog 130 #[(.pointer (some p125))] [.c (.I .u8)] fun (r127:Int)=>kp [((Addr.add p0 271),(.slice s126.a s126.l s126.c))]<|callP Tryd.prog 128 #[(.pointer (some p125))] [.c (.I .u8)] fun (r128:Int)=>kp [((Addr.add p0 271),(.slice s126.a s126.l s126.c))]<|ixS 2 s126 r127 fun (p129:Addr)=>st (Addr.add p129 1) (.int .u8 r128)<|A122 (IntKind.wrap .i64 (x121+(1:Int)))) (R119 ())
def q91_L13 (p99:Addr) (s133:Sl) (R134:Unit→PT) (x135:Int) (A136:Int→PT):PT :=
 cnd (decide (x135<(s133.l:Int))) (ixS 2 s133 x135 fun (p137:Addr)=>ldL [(.I .u16),(.I .u8)] p137 0 fun (r138:(Int×Int))=>nw z140 140 fun (p139:Addr)=>stL p139 0 [(.int .u16 r138.1),(.int .u8 r138.2)]<|ld (.I .u8) (Addr.add p139 1) fun (n140:Int)=>ixA 1 16 p99 (andI .u8 n140 (15:Int)) fun (p141:Addr)=>ld (.I .u16) p141 fun (n142:Int)=>ixS 2 s133 x135 fun (p143:Addr)=>st p143 (.int .u16 n142)<|ixA 1 16 p99 (andI .u8 n140 (15:Int)) fun (p144:Addr)=>st p144 (.int .u16 (IntKind.wrap .u16 (n142+(1:Int))))<|A136 (IntKind.wrap .i64 (x135+(1:Int)))) (R134 ())
def q91_J14 (K1:(Value)→PT) (x145:Unit):PT :=
 K1 .nilIface
def q91_J15 (p0:Addr) (K1:(Value)→PT) (p99:Addr) (x130:Unit):PT :=
 drw<|ld .S (Addr.add p0 271) fun (s131:Sl)=>ld (.I .u16) (Addr.add p0 265) fun (n132:Int)=>slc 2 s131 none (some n132) none fun (s133:Sl)=>joinP (fun R134=>loopP (0:Int) (q91_L13 p99 s133 R134)) (q91_J14 K1)
def q91_J16 (p0:Addr) (K1:(Value)→PT) (s20:Sl) (x28:(Int)) (p99:Addr) (x118:Unit):PT :=
 joinP (fun R119=>slc 1 s20 none (some (IntKind.wrap .u16 (x28+(1:Int)))) none fun (s120:Sl)=>loopP (0:Int) (q91_L12 p0 R119 s120)) (q91_J15 p0 K1 p99)
def q91_J17 (p0:Addr) (K1:(Value)→PT) (s20:Sl) (x28:(Int)) (n96:Int) (p98:Addr) (p99:Addr) (x111:Unit):PT :=
 joinP (fun R112=>loopP ((0:Int),n96) (q91_L11 p98 p99 R112)) (q91_J16 p0 K1 s20 x28 p99)
def q91_J18 (p0:Addr) (K1:(Value)→PT) (s20:Sl) (x28:(Int)) (x94:Unit):PT :=
 callP Tryd.prog 129 #[(.pointer (some p0)),(.int .i64 (IntKind.wrap .i64 x28))] [.c (.I .u8)] fun (r95:Int)=>st (Addr.add p0 268) (.int .u8 r95)<|ld (.I .u8) (Addr.add p0 268) fun (n96:Int)=>cnd (decide ((11:Int)<n96)) (callP Tryd.prog 62 #[(.string ⟨#[105,110,116,101,114,110,97,108,32,101,114,114,111,114,58,32,109,97,120,78,98,66,105,116,115,32,62,32,116,97,98,108,101,76,111,103,77,97,120]⟩)] [.c .V] fun (r97:Value)=>K1 r97) (nw z202 202 fun (p98:Addr)=>nw z203 203 fun (p99:Addr)=>joinP (fun R100=>slc 1 s20 none (some (IntKind.wrap .u16 (x28+(1:Int)))) none fun (s101:Sl)=>loopP (0:Int) (q91_L10 p98 R100 s101)) (q91_J17 p0 K1 s20 x28 n96 p98 p99))
def q91_J19 (p0:Addr) (K1:(Value)→PT) (s20:Sl) (x28:(Int)) (x84:Unit):PT :=
 joinP (fun R85=>loopP (0:Int) (q91_L9 s20 x28 R85)) (q91_J18 p0 K1 s20 x28)
def q91_J20 (p0:Addr) (K1:(Value)→PT) (n17:Int) (s20:Sl) (x28:(Int)) (x72:Unit):PT :=
 ixS 1 s20 (IntKind.wrap .i16 ((IntKind.wrap .i16 ((IntKind.wrap .i16 n17)+(IntKind.wrap .i16 x28)))-(1:Int))) fun (p73:Addr)=>callP Tryd.prog 126 #[(.pointer (some p73)),(.int .u8 (0:Int))] [] fun (r74:Unit)=>joinP (fun R75=>loopP (IntKind.wrap .i16 ((IntKind.wrap .i16 ((IntKind.wrap .i16 ((IntKind.wrap .i16 n17)+(IntKind.wrap .i16 x28)))-(1:Int)))-(1:Int))) (q91_L8 n17 s20 R75)) (q91_J19 p0 K1 s20 x28)
def q91_J21 (p0:Addr) (K1:(Value)→PT) (n17:Int) (s20:Sl) (s22:Sl) (x28:(Int)) (x44:Unit):PT :=
 ixS 1 s22 (0:Int) fun (p45:Addr)=>callP Tryd.prog 124 #[(.pointer (some p45)),(.int .u32 (2147483648:Int))] [] fun (r46:Unit)=>joinP (fun R47=>loopP ((IntKind.wrap .i16 ((IntKind.wrap .i16 n17)+(1:Int))),(IntKind.wrap .i16 ((IntKind.wrap .i16 x28)-(2:Int))),(IntKind.wrap .i16 n17)) (q91_L7 n17 s20 s22 x28 R47)) (q91_J20 p0 K1 n17 s20 x28)
def q91_J22 (p0:Addr) (K1:(Value)→PT) (n17:Int) (s20:Sl) (s22:Sl) (x28:Int):PT :=
 drw<|ixS 1 s20 (IntKind.wrap .i16 n17) fun (p29:Addr)=>ixS 1 s20 (IntKind.wrap .i16 x28) fun (p30:Addr)=>ixS 1 s20 (IntKind.wrap .i16 ((IntKind.wrap .i16 x28)-(1:Int))) fun (p31:Addr)=>callP Tryd.prog 123 #[(.pointer (some p30))] [.c (.I .u32)] fun (r32:Int)=>callP Tryd.prog 123 #[(.pointer (some p31))] [.c (.I .u32)] fun (r33:Int)=>callP Tryd.prog 124 #[(.pointer (some p29)),(.int .u32 (IntKind.wrap .u32 (r32+r33)))] [] fun (r34:Unit)=>ixS 1 s20 (IntKind.wrap .i16 x28) fun (p35:Addr)=>callP Tryd.prog 125 #[(.pointer (some p35)),(.int .i16 (IntKind.wrap .i16 n17))] [] fun (r36:Unit)=>ixS 1 s20 (IntKind.wrap .i16 ((IntKind.wrap .i16 x28)-(1:Int))) fun (p37:Addr)=>callP Tryd.prog 125 #[(.pointer (some p37)),(.int .i16 (IntKind.wrap .i16 n17))] [] fun (r38:Unit)=>joinP (fun R39=>loopP (IntKind.wrap .i16 ((IntKind.wrap .i16 n17)+(1:Int))) (q91_L2 n17 s20 x28 R39)) (q91_J21 p0 K1 n17 s20 s22 x28)
def q91_J23 (p0:Addr) (K1:(Value)→PT) (x16:Unit):PT :=
 ld (.I .u16) (Addr.add p0 265) fun (n17:Int)=>ld (.I .u16) (Addr.add p0 265) fun (n18:Int)=>ld .S (Addr.add p0 273) fun (s19:Sl)=>slc 1 s19 (some (1:Int)) (some (513:Int)) none fun (s20:Sl)=>ld .S (Addr.add p0 273) fun (s21:Sl)=>slc 1 s21 (some (0:Int)) (some (513:Int)) none fun (s22:Sl)=>joinP (fun R23=>loopP (IntKind.wrap .u16 (n18-(1:Int))) (q91_L1 s20 R23)) (q91_J22 p0 K1 n17 s20 s22)
def q91_X24 (p0:Addr) (R4:Unit→PT):PT :=
 ld .S (Addr.add p0 271) fun (s5:Sl)=>cnd (decide ((s5.c:Int)<(256:Int))) (ld (.I .u16) (Addr.add p0 265) fun (n6:Int)=>mks z140 140 4 n6 (256:Int) fun (s7:Sl)=>st (Addr.add p0 271) (.slice s7.a s7.l s7.c)<|R4 ()) (drw<|ld .S (Addr.add p0 271) fun (s8:Sl)=>ld (.I .u16) (Addr.add p0 265) fun (n9:Int)=>slc 2 s8 none (some n9) none fun (s10:Sl)=>st (Addr.add p0 271) (.slice s10.a s10.l s10.c)<|ld .S (Addr.add p0 271) fun (s11:Sl)=>loopP (0:Int) (q91_L0 p0 R4 s11))
def q91 (p0:Addr) (K1:(Value)→PT):PT :=
 callP Tryd.prog 121 #[(.pointer (some p0))] [] fun (r2:Unit)=>callP Tryd.prog 122 #[(.pointer (some p0))] [] fun (r3:Unit)=>joinP (q91_X24 p0) (q91_J23 p0 K1)
def h91:Hint:=⟨(.n (.n (.n (.n (.n .e 15 ([],[0]) .e) 990 ([(66,.c (.I .i64))],[0,65]) .e) 1023 ([(5,.c (.I .u16))],[6,7,8,0,4]) (.n (.n .e 4092 ([(5,.c (.I .u16))],[6,7,8,0,4]) .e) 524287 ([],[6,8,7,11,9,10,0,5,4]) .e)) 2097151 ([],[10,7,0,5,4]) (.n (.n (.n .e 4194298 ([(12,.c (.I .i16))],[7,6,8,11,9,10,0,5,4]) .e) 8388604 ([(6,.c (.I .i16)),(9,.c (.I .i16)),(11,.c (.I .i16))],[8,7,10,0,5,4]) .e) 8388607 ([],[7,0,5]) (.n (.n .e 16777215 ([],[0,5,7]) .e) 67108858 ([(15,.c (.I .i16))],[7,0,5,4]) .e))) 134217669 ([(9,.c (.I .i16)),(11,.c (.I .i16)),(13,.c (.I .i16))],[6,8,7,10,0,5,4]) (.n (.n (.n (.n .e 134217722 ([(16,.c (.I .u16))],[7,0,5]) .e) 268435339 ([(9,.c (.I .i16)),(11,.c (.I .i16)),(14,.c (.I .i16))],[13,6,8,7,10,0,5,4]) .e) 1073741823 ([],[17,18,19,7,5,0]) (.n (.n .e 2147483647 ([],[7,5,0,19]) .e) 4294967295 ([],[0,19]) .e)) 8589934586 ([(279,.c (.I .i64))],[18,277,17,19,7,5,0,278]) (.n (.n (.n .e 17179869183 ([],[]) .e) 34359738358 ([(22,.c (.I .u16)),(23,.c (.I .u8))],[18,19,7,5,0]) .e) 34359738362 ([(309,.c (.I .i64))],[0,307,19,308]) (.n .e 137438953466 ([(333,.c (.I .i64))],[19,26,331,332]) .e)))),.e⟩
theorem q91_eq (p0:Addr) (K1:(Value)→PT):fnE Cx h91 [.c .V] Tryd.f91 [.pt p0] K1=q91 p0 K1:=by kernel_rfl
theorem q91_fnok:fnOk Tryd.f91 1=true:=by kernel_rfl
theorem q91_ok (p0:Addr) (K1:(Value)→PT) {w:World} (h:q91 p0 K1 w):Calls Tryd.prog 91 #[(.pointer (some p0))] w fun e w'=>∃r,e = .returned (resMk [.c .V] r)∧K1 r w' :=
 of_eq Tryd.func91 q91_fnok (by kernel_rfl) (by kernel_rfl) (q91_eq p0 K1) h
def q92 (p0:Addr) (s1:Sl) (K2:Unit→PT):PT :=
 st p0 (.slice s1.a s1.l s1.c)<|st (Addr.add p0 1) (.int .i64 (0:Int))<|K2 ()
def h92:Hint:=⟨.e,.e⟩
theorem q92_eq (p0:Addr) (s1:Sl) (K2:Unit→PT):fnE Cx h92 [] Tryd.f92 [.pt p0,.v (.slice s1.a s1.l s1.c)] K2=q92 p0 s1 K2:=by kernel_rfl
theorem q92_fnok:fnOk Tryd.f92 2=true:=by kernel_rfl
theorem q92_ok (p0:Addr) (s1:Sl) (K2:Unit→PT) {w:World} (h:q92 p0 s1 K2 w):Calls Tryd.prog 92 #[(.pointer (some p0)),(.slice s1.a s1.l s1.c)] w fun e w'=>∃r,e = .returned (resMk [] r)∧K2 r w' :=
 of_eq Tryd.func92 q92_fnok (by kernel_rfl) (by kernel_rfl) (q92_eq p0 s1 K2) h
def q93 (r0:(Sl×Int)) (K1:Int→PT):PT :=
 nw [(.slice r0.1.a r0.1.l r0.1.c),(.int .i64 r0.2)] 122 fun (p2:Addr)=>ld .S p2 fun (s3:Sl)=>ld (.I .i64) (Addr.add p2 1) fun (n4:Int)=>K1 (IntKind.wrap .i64 ((s3.l:Int)-n4))
def h93:Hint:=⟨.e,.e⟩
theorem q93_eq (r0:(Sl×Int)) (K1:Int→PT):fnE Cx h93 [.c (.I .i64)] Tryd.f93 [.v (.agg ⟨[(.slice r0.1.a r0.1.l r0.1.c),(.int .i64 r0.2)]⟩)] K1=q93 r0 K1:=by kernel_rfl
theorem q93_fnok:fnOk Tryd.f93 1=true:=by kernel_rfl
theorem q93_ok (r0:(Sl×Int)) (K1:Int→PT) {w:World} (h:q93 r0 K1 w):Calls Tryd.prog 93 #[(.agg ⟨[(.slice r0.1.a r0.1.l r0.1.c),(.int .i64 r0.2)]⟩)] w fun e w'=>∃r,e = .returned (resMk [.c (.I .i64)] r)∧K1 r w' :=
 of_eq Tryd.func93 q93_fnok (by kernel_rfl) (by kernel_rfl) (q93_eq r0 K1) h
def q97 (n0:Int) (K1:Int→PT):PT :=
 req (0≤(1:Int))<|req (0≤(3:Int))<|K1 (IntKind.wrap .u32 ((IntKind.wrap .u32 ((shrI .u32 n0 (1:Int))+(shrI .u32 n0 (3:Int))))+(3:Int)))
def h97:Hint:=⟨.e,.e⟩
theorem q97_eq (n0:Int) (K1:Int→PT):fnE Cx h97 [.c (.I .u32)] Tryd.f97 [.v (.int .u32 n0)] K1=q97 n0 K1:=by kernel_rfl
theorem q97_fnok:fnOk Tryd.f97 1=true:=by kernel_rfl
theorem q97_ok (n0:Int) (K1:Int→PT) {w:World} (h:q97 n0 K1 w):Calls Tryd.prog 97 #[(.int .u32 n0)] w fun e w'=>∃r,e = .returned (resMk [.c (.I .u32)] r)∧K1 r w' :=
 of_eq Tryd.func97 q97_fnok (by kernel_rfl) (by kernel_rfl) (q97_eq n0 K1) h
def q98 (n0:Int) (K1:Int→PT):PT :=
 callP Tryd.prog 81 #[(.int .u32 n0)] [.c (.I .i64)] fun (r2:Int)=>K1 (IntKind.wrap .u32 (IntKind.wrap .i64 (r2-(1:Int))))
def h98:Hint:=⟨.e,.e⟩
theorem q98_eq (n0:Int) (K1:Int→PT):fnE Cx h98 [.c (.I .u32)] Tryd.f98 [.v (.int .u32 n0)] K1=q98 n0 K1:=by kernel_rfl
theorem q98_fnok:fnOk Tryd.f98 1=true:=by kernel_rfl
theorem q98_ok (n0:Int) (K1:Int→PT) {w:World} (h:q98 n0 K1 w):Calls Tryd.prog 98 #[(.int .u32 n0)] w fun e w'=>∃r,e = .returned (resMk [.c (.I .u32)] r)∧K1 r w' :=
 of_eq Tryd.func98 q98_fnok (by kernel_rfl) (by kernel_rfl) (q98_eq n0 K1) h
end Go.Sx
namespace Go.Sx
open Go Go.Proofs
def bitZ (l:List Nat) (n:Int):Nat:=if n<0 then 0 else leN l/2^n.toNat%2
def inZ (l:List Nat) (n:Int):Bool:=decide (0≤n∧n<8*l.length)
theorem Arr.ldk {k:IntKind} {w:World} {s:Sl} {l:List Nat} (h:Arr k w s l) {i:Int} (n:Nat) {κ:Addr→PT} (hi:i=n) (hn:n<l.length) (hk:∀p,w.cell? p=some (.int k (l[n]:Nat))→κ p w):ixS 1 s i κ w:=by
 cases ha:s.a with
 | none=>have:=h.non ha;subst this;simp at hn
 | some b=>exact ⟨b,ha,n,hi,h.len▸hn,by rw [Nat.mul_one];exact hk _ (h.get b ha n hn)⟩
theorem ld_c {w:World} {t:CT} {p:Addr} {x:t.ty} {κ:t.ty→PT} (h:w.cell? p=some (t.mk x)) (hk:κ x w):ld t p κ w:=⟨x,h,hk⟩
theorem c76 {w:World} {s:Sl} {l:List Nat} {n:Int} {K:Int×Bool→PT} (h:Arr .u8 w s l) (hl:By l) (h1 : -4611686018427387904≤n) (h2:n<4611686018427387904)
  (hk:K ((bitZ l n:Nat),inZ l n) w):callP Tryd.prog 76 #[.slice s.a s.l s.c,.int .i64 n] [.c (.I .i64),.c .B] K w:=by
 apply q76_ok
 unfold q76
 refine cnd_d ?_ ?_
 ·intro hn
  unfold bitZ inZ at hk
  rw [if_pos hn] at hk
  rw [show decide (0≤n∧n<8*(l.length:Int))=false by simp;omega] at hk
  exact hk
 ·intro hn
  obtain ⟨m,rfl⟩:=Int.eq_ofNat_of_zero_le (show 0≤n by omega)
  have e8:quoI .i64 (m:Int) 8=((m/8:Nat):Int):=quoI_nat .i64 m 8 (by simp [IntKind.bits];omega)
  rw [e8]
  have hlen:=h.len
  refine ⟨by decide,cnd_d ?_ ?_⟩
  ·intro hc
   unfold bitZ inZ at hk
   rw [if_neg hn] at hk
   rw [show decide ((0:Int)≤(m:Int)∧(m:Int)<8*(l.length:Int))=false by simp;omega] at hk
   rw [Int.toNat_natCast,leN_bit m hl,getD_out (by omega)] at hk
   simpa using hk
  ·intro hc
   refine ⟨by decide,h.ldk (m/8) rfl (by omega) ?_⟩
   intro p hp
   refine ld_c (t := .I .u8) hp ⟨by decide,?_⟩
   have e9:Int.tmod (m:Int) 8=((m%8:Nat):Int):=rfl
   rw [e9]
   refine ⟨Int.natCast_nonneg _,?_⟩
   have hx:l[m/8]<256:=hl _ (List.getElem_mem _)
   rw [shrI_nat .u8 _ _ hx,wrap_nat .i64 _ (by have:=Nat.div_le_self l[m/8] (2^(m%8));simp [IntKind.bits];omega)]
   have e10:=andI_i64 (l[m/8]/2^(m%8)) 1 (by have:=Nat.div_le_self l[m/8] (2^(m%8));omega) (by decide)
   rw [Int.natCast_one] at e10
   rw [e10,Nat.and_one_is_mod]
   unfold bitZ inZ at hk
   rw [if_neg hn] at hk
   rw [show decide ((0:Int)≤(m:Int)∧(m:Int)<8*(l.length:Int))=true by simp;omega] at hk
   rw [Int.toNat_natCast,leN_bit m hl,getD_in (by omega)] at hk
   exact hk
theorem c44 {w:World} {n:Nat} {K:Int→PT} (h1:0<n) (h2:n<4611686018427387904) (hk:K (n.log2:Nat) w):callP Tryd.prog 44 #[.int .i64 n] [.c (.I .i64)] K w:=by
 apply q44_ok
 unfold q44
 refine ⟨fun k w'=>k=(n.log2:Nat)∧w'=w,?_,?_⟩
 ·rintro k w' ⟨rfl,rfl⟩
  exact hk
 ·refine ⟨fun s w'=>w'=w∧∃a k:Nat,s=((a:Int),(k:Int))∧0<a∧a≤n∧k≤n∧a.log2+k=n.log2,fun s _=>s.1.toNat,⟨rfl,n,0,rfl,h1,Nat.le_refl _,Nat.zero_le _,rfl⟩,?_⟩
  rintro s w' ⟨rfl,a,k,rfl,ha,han,hkn,he⟩
  unfold q44_L0
  refine cnd_d ?_ ?_
  ·intro hc
   have hc:1<a:=by simp only at hc;omega
   have e1:quoI .i64 (a:Int) 2=((a/2:Nat):Int):=quoI_nat .i64 a 2 (by simp [IntKind.bits];omega)
   have hlog:a.log2=(a/2).log2+1:=by rw [Nat.log2_def,if_pos (by omega)]
   have hlt:k<n:=by
    have:=Nat.log2_lt (n:=n) (k:=n) (by omega) |>.mpr (Nat.lt_two_pow_self)
    omega
   rw [e1,wI64 (by simp only;omega) (by simp only;omega)]
   refine ⟨by decide,⟨rfl,a/2,k+1,by simp,by omega,by omega,by omega,by omega⟩,?_⟩
   simp only [Int.toNat_natCast]
   omega
  ·intro hc
   have:a=1:=by simp at hc;omega
   subst this
   refine ⟨?_,rfl⟩
   have:Nat.log2 1=0:=by decide
   simp only
   congr 1
   omega
theorem Blk.setW {w:World} {b o:Nat} {f g:Cells} {v:Value} (h:Blk w b f) (ho:(f o).isSome) (e:updC f o v=g):Blk (w.setCell ⟨b,o,none⟩ v) b g:=e▸h.set ho
def okZ (l:List Nat) (at_ n:Nat):Bool:=decide (n=0∨at_+n≤8*l.length)
def tkZ (l:List Nat) (at_ n:Nat):Nat:=leN l/2^at_%2^n
theorem c87 {w:World} {s:Sl} {l:List Nat} {a n:Nat} {K:Int×Bool→PT} (h:Arr .u8 w s l) (hl:By l) (h1:a<1152921504606846976) (h2:n≤32)
  (hk:K ((tkZ l a n:Nat),okZ l a n) w):callP Tryd.prog 87 #[.slice s.a s.l s.c,.int .i64 a,.int .i64 n] [.c (.I .i64),.c .B] K w:=by
 apply q87_ok
 unfold q87
 refine ⟨fun x w'=>x=(((tkZ l a n:Nat):Int),okZ l a n)∧w'=w,?_,?_⟩
 ·rintro x w' ⟨rfl,rfl⟩
  exact hk
 ·refine ⟨fun x w'=>w'=w∧∃i:Nat,i≤n∧x=(((tkZ l a i:Nat):Int),okZ l a i,(i:Int)),fun x _=>n-x.2.2.toNat,⟨rfl,0,Nat.zero_le _,?_⟩,?_⟩
  ·simp [tkZ,okZ,Nat.mod_one]
  ·rintro x w' ⟨rfl,i,hi,rfl⟩
   unfold q87_L1
   refine cnd_d ?_ ?_
   ·intro hc
    have hc:i<n:=by simp only at hc;omega
    simp only
    rw [wI64 (by omega) (by omega)]
    refine joinP_id ?_
    refine c76 h hl (by omega) (by omega) ?_
    refine ⟨by omega,?_⟩
    have hb:bitZ l ((a:Int)+(i:Int))=leN l/2^(a+i)%2:=by
     unfold bitZ
     rw [if_neg (by omega),show ((a:Int)+(i:Int)).toNat=a+i by omega]
    have hlt:bitZ l ((a:Int)+(i:Int))<2:=by rw [hb];omega
    have hp:2^i<2^32:=Nat.pow_lt_pow_right (by omega) (by omega)
    have hs:shlI .i64 (bitZ l ((a:Int)+(i:Int)):Nat) (i:Nat)=((bitZ l ((a:Int)+(i:Int))*2^i:Nat):Int) :=
     shlI_nat .i64 _ _ (by simp [IntKind.bits];omega) (by
      simp only [IntKind.bits]
      have:bitZ l ((a:Int)+(i:Int))*2^i≤1*2^i:=Nat.mul_le_mul_right _ (by omega)
      omega)
    have ht:tkZ l a (i+1)=tkZ l a i+bitZ l ((a:Int)+(i:Int))*2^i:=by
     unfold tkZ
     rw [Nat.mod_pow_succ,Nat.div_div_eq_div_mul, ←Nat.pow_add,hb,Nat.mul_comm]
    have htl:tkZ l a (i+1)<2^(i+1):=Nat.mod_lt _ (Nat.two_pow_pos _)
    have hp2:2^(i+1)≤2^32:=Nat.pow_le_pow_right (by omega) (by omega)
    simp only
    have hv:IntKind.i64.wrap (((tkZ l a i:Nat):Int)+shlI .i64 (bitZ l ((a:Int)+(i:Int)):Nat) (i:Nat))=((tkZ l a (i+1):Nat):Int):=by
     rw [hs, ←Int.natCast_add, ←ht]
     exact wrap_nat .i64 _ (by simp only [IntKind.bits];omega)
    rw [hv]
    have hin:inZ l ((a:Int)+(i:Int))=decide (a+i<8*l.length):=by
     unfold inZ;congr 1;simp;omega
    have hok:∀b:Bool,b=okZ l a i→(b&&inZ l ((a:Int)+(i:Int)))=okZ l a (i+1):=by
     intro b hb;subst hb
     rw [hin];unfold okZ
     rw [←Bool.decide_and]
     congr 1;simp only [eq_iff_iff];omega
    constructor
    ·intro hb
     unfold q87_J0
     simp only
     rw [wI64 (by omega) (by omega)]
     have:=hok true hb.symm
     rw [Bool.true_and] at this
     rw [this]
     exact ⟨⟨trivial,i+1,by omega,by simp⟩,by omega⟩
    ·intro hb
     unfold q87_J0
     simp only
     rw [wI64 (by omega) (by omega)]
     have:=hok false hb.symm
     rw [Bool.false_and] at this
     rw [this]
     exact ⟨⟨trivial,i+1,by omega,by simp⟩,by omega⟩
   ·intro hc
    have hc:i=n:=by simp only at hc;omega
    subst hc
    exact ⟨rfl,rfl⟩
def hdC (b:Sl) (at_:Nat) (ok:Bool) (c:Sl):Cells:=fun i=>match i with
 | 0=>some (.slice b.a b.l b.c)
 | 1=>some (.int .i64 at_)
 | 2=>some (.bool ok)
 | 3=>some (.slice c.a c.l c.c)
 | _=>none
theorem hdC1 (b:Sl) (at_ n:Nat) (ok:Bool) (c:Sl):updC (hdC b at_ ok c) 1 (.int .i64 (n:Nat))=hdC b n ok c:=by
 funext i;rcases i with _|_|_|_|i<;>simp [updC,hdC]
theorem hdC2 (b:Sl) (at_:Nat) (ok k:Bool) (c:Sl):updC (hdC b at_ ok c) 2 (.bool k)=hdC b at_ k c:=by
 funext i;rcases i with _|_|_|_|i<;>simp [updC,hdC]
theorem hdC3 (b:Sl) (at_:Nat) (ok:Bool) (c d:Sl):updC (hdC b at_ ok c) 3 (.slice d.a d.l d.c)=hdC b at_ ok d:=by
 funext i;rcases i with _|_|_|_|i<;>simp [updC,hdC]
theorem c67 {w:World} {h at_ n:Nat} {b c:Sl} {ok:Bool} {l:List Nat} {K:Int→PT} (H:Blk w h (hdC b at_ ok c)) (hb:Arr .u8 w b l) (hl:By l) (h1:at_<1152921504606846976) (h2:n≤32)
  (hk:∀w',Blk w' h (hdC b (at_+n) (ok&&okZ l at_ n) c)→Fm w w' [h]→K (tkZ l at_ n:Nat) w'):callP Tryd.prog 67 #[.pointer (some ⟨h,0,none⟩),.int .i64 n] [.c (.I .i64)] K w:=by
 apply q67_ok
 unfold q67 drw
 refine ld_b (x:=b) H.drew rfl ?_
 rw [add_mk]
 refine ld_b (t := .I .i64) (x:=(at_:Int)) H.drew rfl ?_
 refine c87 (hb.fr (Fm.refl w []).drew (by simp)) hl h1 h2 ?_
 refine joinP_id ?_
 simp only [add_mk]
 refine ld_b (t := .B) (x:=ok) H.drew rfl ?_
 have fin:∀(k:Bool),k=(ok&&okZ l at_ n)→st ⟨h,0+2,none⟩ (.bool k) (q67_J0 ⟨h,0,none⟩ n K ((tkZ l at_ n:Nat),okZ l at_ n) ()) w.drew:=by
  intro k hkk
  refine st_b H.drew rfl rfl ?_
  have H2:=H.drew.setW (o:=0+2) (v := .bool k) rfl (hdC2 b at_ ok k c)
  unfold q67_J0
  simp only [add_mk]
  refine ld_b (t := .I .i64) (x:=(at_:Int)) H2 rfl ?_
  rw [wI64 (by omega) (by omega)]
  refine st_b H2 rfl rfl ?_
  have H3:=H2.setW (o:=0+1) (v := .int .i64 ((at_+n:Nat):Int)) rfl (hdC1 b at_ (at_+n) k c)
  rw [←Int.natCast_add]
  refine hk _ (hkk▸H3) ?_
  exact (((Fm.refl w [h]).drew).set (.inl (by simp))).set (.inl (by simp))
 constructor
 ·intro e
  refine fin _ ?_
  rw [e];rfl
 ·intro e
  refine fin _ ?_
  rw [e];rfl
def valZ (l:List Nat) (at_ most:Nat):Nat×Nat×Bool :=
 let bits:=most.log2+1
 let low:=2^bits-1-most
 let v:=tkZ l at_ (bits-1)
 if v<low then (v,at_+(bits-1),okZ l at_ (bits-1)) else
  let v2:=v+tkZ l (at_+(bits-1)) 1*2^(bits-1)
  (if 2^(bits-1)≤v2 then v2-low else v2,at_+bits,okZ l at_ (bits-1)&&okZ l (at_+(bits-1)) 1)
theorem c68 {w:World} {h at_ most:Nat} {b c:Sl} {ok:Bool} {l:List Nat} {K:Int→PT} (H:Blk w h (hdC b at_ ok c)) (hb:Arr .u8 w b l) (hh:∀a,b.a=some a→l ≠ []→a.block≠h) (hl:By l) (h1:at_<1152921504606846976-64) (h0:0<most) (h2:most<2^20)
  (hk:∀w',Blk w' h (hdC b (valZ l at_ most).2.1 (ok&&(valZ l at_ most).2.2) c)→Fm w w' [h]→K ((valZ l at_ most).1:Nat) w'):callP Tryd.prog 68 #[.pointer (some ⟨h,0,none⟩),.int .i64 most] [.c (.I .i64)] K w:=by
 apply q68_ok
 unfold q68
 refine c44 h0 (by omega) ?_
 have hlog:most.log2<20:=(Nat.log2_lt (by omega)).mpr h2
 have hp1:2^most.log2≤most:=Nat.log2_self_le (by omega)
 have hp2:most<2^(most.log2+1):=Nat.lt_log2_self
 generalize hg:most.log2=g at *
 have hgp:2^(g+1)≤2^20:=Nat.pow_le_pow_right (by omega) (by omega)
 have hpp:2^(g+1)=2*2^g:=Nat.pow_succ'
 have e1:IntKind.i64.wrap ((g:Int)+1)=((g+1:Nat):Int):=by rw [wI64 (by omega) (by omega)];simp
 have e2:IntKind.i64.wrap (((g+1:Nat):Int)-1)=(g:Nat):=by rw [wI64 (by omega) (by omega)];simp
 have e3:shlI .i64 1 ((g+1:Nat):Int)=((2^(g+1):Nat):Int):=by
  have:=shlI_nat .i64 1 (g+1) (by simp [IntKind.bits];omega) (by simp only [IntKind.bits];omega)
  rw [Nat.one_mul] at this;exact this
 have e4:shlI .i64 1 ((g:Nat):Int)=((2^g:Nat):Int):=by
  have:=shlI_nat .i64 1 g (by simp [IntKind.bits];omega) (by simp only [IntKind.bits];omega)
  rw [Nat.one_mul] at this;exact this
 have e5:IntKind.i64.wrap (((2^(g+1):Nat):Int)-1)=((2^(g+1)-1:Nat):Int):=by rw [wI64 (by omega) (by omega)];omega
 have e6:IntKind.i64.wrap (((2^(g+1)-1:Nat):Int)-(most:Int))=((2^(g+1)-1-most:Nat):Int):=by rw [wI64 (by omega) (by omega)];omega
 unfold valZ at hk
 rw [hg] at hk
 simp only [Nat.add_sub_cancel] at hk
 simp only [e1,e2,e3,e5,e6]
 refine ⟨by omega,c67 H hb hl (by omega) (by omega) ?_⟩
 intro w1 H1 F1
 have hv:tkZ l at_ g<2^g:=Nat.mod_lt _ (Nat.two_pow_pos _)
 refine cnd_d ?_ ?_
 ·intro hc
  have hc:tkZ l at_ g<2^(g+1)-1-most:=by omega
  simp only [if_pos hc] at hk
  exact hk w1 H1 F1
 ·intro hc
  have hc:¬tkZ l at_ g<2^(g+1)-1-most:=by omega
  simp only [if_neg hc] at hk
  refine joinP_id ?_
  refine c67 (n:=1) H1 (hb.fr F1 (by intro a ha hn;simpa using hh a ha hn)) hl (by omega) (by omega) ?_
  intro w2 H2 F2
  have F:=F1.trans F2 (by intro b hb;exact .inl hb)
  have ht:tkZ l (at_+g) 1<2:=Nat.mod_lt _ (by omega)
  have fin:∀v2:Nat,v2=tkZ l at_ g+tkZ l (at_+g) 1*2^g→q68_J1 most K g v2 w2:=by
   intro v2 hv2
   unfold q68_J1
   refine joinP_id ?_
   simp only [e1,e2,e3,e4,e5,e6]
   rw [←hv2] at hk
   rw [Bool.and_assoc] at H2
   have hlt:v2<2^(g+1):=by
    rw [hv2,hpp]
    have:tkZ l (at_+g) 1*2^g≤1*2^g:=Nat.mul_le_mul_right _ (by omega)
    omega
   refine ⟨by omega,cnd_d ?_ ?_⟩
   ·intro hc
    have hc:2^g≤v2:=by omega
    simp only [if_pos hc] at hk
    unfold q68_J0
    rw [wI64 (by omega) (by omega)]
    rw [←Int.ofNat_sub (by omega)]
    exact hk w2 H2 F
   ·intro hc
    have hc:¬2^g≤v2:=by omega
    simp only [if_neg hc] at hk
    exact hk w2 H2 F
  refine cnd_d ?_ ?_
  ·intro hc
   simp only [e1,e2,e4]
   refine ⟨by omega,?_⟩
   have ht1:tkZ l (at_+g) 1=1:=by omega
   have:=fin (tkZ l at_ g+2^g) (by rw [ht1,Nat.one_mul])
   rw [wI64 (by omega) (by omega), ←Int.natCast_add]
   exact this
  ·intro hc
   have ht1:tkZ l (at_+g) 1=0:=by omega
   exact fin _ (by rw [ht1,Nat.zero_mul,Nat.add_zero])
def ints (l:List Int):List Value:=l.map (Value.int .i64)
theorem ints_len (l:List Int):(ints l).length=l.length:=by simp [ints]
theorem ints_app (l m:List Int):ints (l++m)=ints l++ints m:=by simp [ints]
structure HS where
 pos:Nat
 ok:Bool
 cs:List Int
structure HD (w0 w:World) (h:Nat) (b:Sl) (s:HS):Prop where
 new:w0.heap.size≤h
 fr:Fm w0 w []
 body:∃c,Blk w h (hdC b s.pos s.ok c)∧Vec 1 w c (ints s.cs)∧∀x∈c.bs,x≠h∧w0.heap.size≤x
theorem HD.arr {w0 w:World} {h:Nat} {b:Sl} {s:HS} {l:List Nat} (H:HD w0 w h b s) (hb:Arr .u8 w0 b l):Arr .u8 w b l:=hb.fr H.fr (by simp)
theorem Arr.old {k:IntKind} {w:World} {s:Sl} {l:List Nat} (h:Arr k w s l) (hl:l ≠ []):∀a,s.a=some a→a.block<w.heap.size:=by
 intro a ha
 have h1:=h.get a ha 0 (by cases l;exact absurd rfl hl;simp)
 have h2:=World.block_lt_of_cell? _ _ h1
 unfold Addr.add at h2
 simpa using h2
theorem c67h {w0 w:World} {h n:Nat} {b:Sl} {s:HS} {l:List Nat} {K:Int→PT} (H:HD w0 w h b s) (hb:Arr .u8 w0 b l) (hl:By l) (h1:s.pos<1152921504606846976) (h2:n≤32)
  (hk:∀w',HD w0 w' h b ⟨s.pos+n,s.ok&&okZ l s.pos n,s.cs⟩→K (tkZ l s.pos n:Nat) w'):callP Tryd.prog 67 #[.pointer (some ⟨h,0,none⟩),.int .i64 n] [.c (.I .i64)] K w:=by
 obtain ⟨c,hc1,hc2,hc3⟩:=H.body
 refine c67 hc1 (H.arr hb) hl h1 h2 ?_
 intro w' h3 h4
 refine hk w' ⟨H.new,H.fr.trans h4 (by intro x hx;right;simp at hx;subst hx;exact H.new),c,h3,hc2.fr h4 ?_,hc3⟩
 intro x hx
 simp [(hc3 x hx).1]
theorem c68h {w0 w:World} {h most:Nat} {b:Sl} {s:HS} {l:List Nat} {K:Int→PT} (H:HD w0 w h b s) (hb:Arr .u8 w0 b l) (hl:By l) (h1:s.pos<1152921504606846976-64) (h0:0<most) (h2:most<2^20)
  (hk:∀w',HD w0 w' h b ⟨(valZ l s.pos most).2.1,s.ok&&(valZ l s.pos most).2.2,s.cs⟩→K ((valZ l s.pos most).1:Nat) w'):callP Tryd.prog 68 #[.pointer (some ⟨h,0,none⟩),.int .i64 most] [.c (.I .i64)] K w:=by
 obtain ⟨c,hc1,hc2,hc3⟩:=H.body
 refine c68 hc1 (H.arr hb) ?_ hl h1 h0 h2 ?_
 ·intro a ha hne
  have:=hb.old hne a ha
  have:=H.new
  omega
 ·intro w' h3 h4
  refine hk w' ⟨H.new,H.fr.trans h4 (by intro x hx;right;simp at hx;subst hx;exact H.new),c,h3,hc2.fr h4 ?_,hc3⟩
  intro x hx
  simp [(hc3 x hx).1]
theorem mem_bs {s:Sl} {a:Addr} (h:s.a=some a):a.block∈s.bs:=by unfold Sl.bs;rw [h];simp
theorem HD.push {w0 w:World} {h:Nat} {b:Sl} {s:HS} {κ:PT} {x:Int} {T:TypeId} (H:HD w0 w h b s) (hn:s.cs.length<2^40)
  (hk:∀w',HD w0 w' h b ⟨s.pos,s.ok,s.cs ++ [x]⟩→κ w') :
  ld .S ⟨h,0+3,none⟩ (fun (s9:Sl)=>nw [(.int .i64 x)] T fun (p10:Addr)=>app z3 3 8 s9 ⟨(some p10),1,1⟩ fun (s11:Sl)=>st ⟨h,0+3,none⟩ (.slice s11.a s11.l s11.c)<|κ) w:=by
 obtain ⟨c,hc1,hc2,hc3⟩:=H.body
 refine ld_b (x:=c) hc1 rfl ?_
 have hlen:=hc2.len
 rw [ints_len,Nat.mul_one] at hlen
 refine app_1 hc2 rfl (by omega) ?_
 intro c' w' h1 h2 h3
 have hcb:h∉c.bs:=fun e=>(hc3 h e).1 rfl
 have hB:=hc1.fr h2 hcb
 refine st_b hB rfl rfl ?_
 have hB2:=hB.setW (o:=0+3) (v := .slice c'.a c'.l c'.c) rfl (hdC3 b s.pos s.ok c c')
 have hlt:=hc1.lt
 have hc':∀x∈c'.bs,x≠h∧w0.heap.size≤x:=by
  intro x hx
  rcases h3 x hx with h4|h4
  ·exact hc3 x h4
  ·have:=H.fr.size
   exact ⟨by omega,by omega⟩
 have hF:Fm w0 w' []:=H.fr.trans h2 (by intro x hx;right;exact (hc3 x hx).2)
 refine hk _ ⟨H.new,hF.set (.inr H.new),c',hB2,?_,hc'⟩
 rw [ints_app]
 refine h1.fr ((Fm.refl w' [h]).set (.inl (by simp))) ?_
 intro x hx
 simp [(hc' x hx).1]
def zerosZ (l:List Nat) (s:HS):HS :=
 if s.ok then
  if hz:tkZ l s.pos 2<3∨256<s.cs.length+tkZ l s.pos 2 then ⟨s.pos+2,s.ok&&okZ l s.pos 2,s.cs++List.replicate (tkZ l s.pos 2) 0⟩
  else zerosZ l ⟨s.pos+2,s.ok&&okZ l s.pos 2,s.cs++List.replicate (tkZ l s.pos 2) 0⟩
 else s
termination_by 260-s.cs.length
decreasing_by
 simp only [List.length_append,List.length_replicate]
 omega
def hdLen (w:World) (h:Nat):Nat:=match w.cell? ⟨h,3,none⟩ with
 | some (.slice _ l _)=>l
 | _=>0
theorem HD.hdLen {w0 w:World} {h:Nat} {b:Sl} {s:HS} (H:HD w0 w h b s):hdLen w h=s.cs.length:=by
 obtain ⟨c,hc1,hc2,hc3⟩:=H.body
 have hlen:=hc2.len
 rw [ints_len,Nat.mul_one] at hlen
 unfold Go.Sx.hdLen
 rw [hc1.cell 3]
 exact hlen.symm
theorem HD.ldOk {w0 w:World} {h:Nat} {b:Sl} {s:HS} {κ:Bool→PT} (H:HD w0 w h b s) (hk:κ s.ok w):ld .B ⟨h,0+2,none⟩ κ w:=by
 obtain ⟨c,hc1,hc2,hc3⟩:=H.body
 exact ld_b (t := .B) (x:=s.ok) hc1 rfl hk
theorem HD.ldC {w0 w:World} {h:Nat} {b:Sl} {s:HS} {κ:Sl→PT} (H:HD w0 w h b s) (hk:∀c,c.l=s.cs.length→Vec 1 w c (ints s.cs)→(∀x∈c.bs,x≠h∧w0.heap.size≤x)→κ c w):ld .S ⟨h,0+3,none⟩ κ w:=by
 obtain ⟨c,hc1,hc2,hc3⟩:=H.body
 have hlen:=hc2.len
 rw [ints_len,Nat.mul_one] at hlen
 exact ld_b (x:=c) hc1 rfl (hk c hlen.symm hc2 hc3)
theorem c69 {w0 w:World} {h:Nat} {b:Sl} {s:HS} {l:List Nat} {K:Unit→PT} (H:HD w0 w h b s) (hb:Arr .u8 w0 b l) (hl:By l) (h1:s.pos<2^50) (h2:s.cs.length≤300)
  (hk:∀w',HD w0 w' h b (zerosZ l s)→(zerosZ l s).pos≤s.pos+2*((zerosZ l s).cs.length-s.cs.length)+2→s.cs.length≤(zerosZ l s).cs.length→(zerosZ l s).cs.length≤303→K () w'):callP Tryd.prog 69 #[.pointer (some ⟨h,0,none⟩)] [] K w:=by
 apply q69_ok
 unfold q69
 refine ⟨fun _ w'=>∃s',HD w0 w' h b s'∧zerosZ l s'=zerosZ l s∧s'.pos≤s.pos+2*(s'.cs.length-s.cs.length)∧s.cs.length≤s'.cs.length∧s'.cs.length≤300,
  fun _ w'=>301-hdLen w' h,⟨s,H,rfl,by omega,Nat.le_refl _,h2⟩,?_⟩
 rintro _ w' ⟨s',H',he,hp,hc,hc3⟩
 unfold q69_L2
 simp only [add_mk]
 refine H'.ldOk ⟨?_,?_⟩
 ·intro hok
  refine c67h (n:=2) H' hb hl (by omega) (by omega) ?_
  intro w1 H1
  have hn:tkZ l s'.pos 2<4:=Nat.mod_lt _ (by omega)
  have hz:zerosZ l s'=if tkZ l s'.pos 2<3∨256<s'.cs.length+tkZ l s'.pos 2 then ⟨s'.pos+2,s'.ok&&okZ l s'.pos 2,s'.cs++List.replicate (tkZ l s'.pos 2) 0⟩
    else zerosZ l ⟨s'.pos+2,s'.ok&&okZ l s'.pos 2,s'.cs++List.replicate (tkZ l s'.pos 2) 0⟩:=by
   rw [zerosZ,if_pos hok]
   split<;>simp_all
  generalize tkZ l s'.pos 2=n at *
  refine ⟨fun _ w2=>HD w0 w2 h b ⟨s'.pos+2,s'.ok&&okZ l s'.pos 2,s'.cs++List.replicate n 0⟩,?_,?_⟩
  ·intro _ w2 H2
   have hlen2:(s'.cs++List.replicate n 0).length=s'.cs.length+n:=by simp
   unfold q69_J1
   simp only [add_mk]
   refine cnd_d ?_ ?_
   ·intro hc
    have hc:n<3:=by omega
    rw [if_pos (.inl hc)] at hz
    rw [←he,hz] at hk
    simp only [hlen2] at hk
    exact hk w2 H2 (by omega) (by omega) (by omega)
   ·intro hc
    refine H2.ldC ?_
    intro c hcl _ _
    simp only [hlen2] at hcl
    refine cnd_d ?_ ?_
    ·intro hc5
     rw [if_pos (.inr (by omega))] at hz
     rw [←he,hz] at hk
     simp only [hlen2] at hk
     exact hk w2 H2 (by omega) (by omega) (by omega)
    ·intro hc5
     rw [if_neg (by omega)] at hz
     refine ⟨⟨_,H2,?_,?_,?_,?_⟩,?_⟩
     ·rw [←hz,he]
     ·simp only [hlen2];omega
     ·simp only [hlen2];omega
     ·simp only [hlen2];omega
     ·rw [H2.hdLen,H'.hdLen];simp only [hlen2];omega
  ·refine ⟨fun x w2=>∃i:Nat,x=(i:Int)∧i≤n∧HD w0 w2 h b ⟨s'.pos+2,s'.ok&&okZ l s'.pos 2,s'.cs++List.replicate i 0⟩,fun x _=>n-x.toNat,⟨0,rfl,Nat.zero_le _,by simpa using H1⟩,?_⟩
   rintro x w2 ⟨i,rfl,hi,H2⟩
   unfold q69_L0
   simp only [add_mk]
   refine cnd_d ?_ ?_
   ·intro hc
    refine H2.push (x:=0) (by simp;omega) ?_
    intro w3 H3
    rw [wI64 (by omega) (by omega)]
    refine ⟨⟨i+1,by simp,by omega,?_⟩,by omega⟩
    simp only at H3
    rw [List.append_assoc, ←List.replicate_succ'] at H3
    exact H3
   ·intro hc
    have:i=n:=by omega
    subst this
    exact H2
 ·intro hok
  have hz:zerosZ l s'=s':=by rw [zerosZ,if_neg (by simp [hok])]
  rw [←he,hz] at hk
  exact hk w' H' (by omega) hc (by omega)
theorem zerosZ_len (l:List Nat) (s:HS):s.cs.length≤(zerosZ l s).cs.length:=by
 fun_induction zerosZ l s with
 | case1 s h1 h2=>simp
 | case2 s h1 h2 ih=>simp at ih;omega
 | case3 s h1=>exact Nat.le_refl _
theorem okZ_le {l:List Nat} {a n:Nat} (h:okZ l a n=true) (ha:a≤8*l.length):a+n≤8*l.length:=by
 unfold okZ at h
 rcases of_decide_eq_true h with h|h<;>omega
def Pin (l:List Nat) (s:HS):Prop:=s.ok=true→s.pos≤8*l.length
theorem zerosZ_pin (l:List Nat) (s:HS) (h:Pin l s):Pin l (zerosZ l s):=by
 fun_induction zerosZ l s with
 | case1 s h1 h2 =>
  intro hk
  simp only [Bool.and_eq_true] at hk
  exact okZ_le hk.2 (h hk.1)
 | case2 s h1 h2 ih =>
  apply ih
  intro hk
  simp only [Bool.and_eq_true] at hk
  exact okZ_le hk.2 (h hk.1)
 | case3 s h1=>exact h
theorem valZ_pin {l:List Nat} {a m:Nat} (h:(valZ l a m).2.2=true) (ha:a≤8*l.length):(valZ l a m).2.1≤8*l.length:=by
 unfold valZ at h ⊢
 simp only at h ⊢
 split at h
 ·rename_i hc
  rw [if_pos hc]
  exact okZ_le h ha
 ·rename_i hc
  rw [if_neg hc]
  simp only [Bool.and_eq_true] at h
  have:=okZ_le h.2 (okZ_le h.1 ha)
  simp only
  omega
theorem valZ_le (l:List Nat) (a m:Nat) (h0:0<m):(valZ l a m).1≤m∧(valZ l a m).2.1≤a+m.log2+1:=by
 have hp1:2^m.log2≤m:=Nat.log2_self_le (by omega)
 have hp2:m<2^(m.log2+1):=Nat.lt_log2_self
 unfold valZ
 simp only [Nat.add_sub_cancel]
 generalize m.log2=g at *
 have hpp:2^(g+1)=2*2^g:=Nat.pow_succ'
 have hv:tkZ l a g<2^g:=Nat.mod_lt _ (Nat.two_pow_pos _)
 have ht:tkZ l (a+g) 1<2:=Nat.mod_lt _ (by omega)
 split
 ·simp only;omega
 ·simp only
  have:tkZ l (a+g) 1*2^g≤1*2^g:=Nat.mul_le_mul_right _ (by omega)
  split<;>omega
def stepZ (l:List Nat) (s:HS) (left:Nat):HS:=⟨(valZ l s.pos (left+1)).2.1,s.ok&&(valZ l s.pos (left+1)).2.2,s.cs ++ [((valZ l s.pos (left+1)).1:Int)-1]⟩
def leftZ (v left:Nat):Nat:=if v=0 then left-1 else left-(v-1)
def nextZ (l:List Nat) (s:HS) (left:Nat):HS:=if (valZ l s.pos (left+1)).1=1 then zerosZ l (stepZ l s left) else stepZ l s left
theorem nextZ_len (l:List Nat) (s:HS) (left:Nat):s.cs.length<(nextZ l s left).cs.length:=by
 unfold nextZ
 split
 ·have:=zerosZ_len l (stepZ l s left)
  simp [stepZ] at this ⊢
  omega
 ·simp [stepZ]
def readZ (l:List Nat) (s:HS) (left:Nat):Option (HS×Nat) :=
 if 0<left∧s.ok=true then
  if hc:255<s.cs.length then none else readZ l (nextZ l s left) (leftZ (valZ l s.pos (left+1)).1 left)
 else some (s,left)
termination_by 300-s.cs.length
decreasing_by
 have:=nextZ_len l s left
 omega
def fseRead (l:List Nat):Option (List Int×Nat×List Nat) :=
 if 15<tkZ l 0 4+5 then none else
  match readZ l ⟨4,okZ l 0 4,[]⟩ (2^(tkZ l 0 4+5)) with
  | none=>none
  | some (s,left)=>if s.ok=true∧left=0∧s.cs.length≤256 then some (s.cs,tkZ l 0 4+5,l.drop ((s.pos+7)/8)) else none
theorem add_add (a:Addr) (m n:Nat):(a.add m).add n=a.add (m+n):=by
 unfold Addr.add
 by_cases h1:m=0
 ·subst h1;simp
 ·by_cases h2:n=0
  ·subst h2;simp
  ·simp [h1,h2];omega
theorem Arr.drop {k:IntKind} {w:World} {s:Sl} {l:List Nat} (h:Arr k w s l) (n:Nat) (hn:n≤l.length):Arr k w ⟨slA s.a n s.c 1,s.l-n,s.c-n⟩ (l.drop n):=by
 have h1:=h.len
 have h2:=h.cap
 refine ⟨by simp [h1],by simp only;omega,?_,?_⟩
 ·intro e
  simp only [slA] at e
  split at e
  ·rw [h.non e];simp
  ·rw [h.non (by simpa using e)];simp
 ·intro b hb i hi
  simp only [List.length_drop] at hi
  simp only [slA] at hb
  rw [if_neg (by omega)] at hb
  cases ha:s.a with
  | none=>rw [ha] at hb;cases hb
  | some a =>
   rw [ha] at hb
   injection hb with hb
   subst hb
   rw [Nat.mul_one,add_add,h.get a ha (n+i) (by omega)]
   simp
theorem Arr.has {k:IntKind} {w:World} {s:Sl} {l:List Nat} (h:Arr k w s l):Has 1 w s (l.map fun x=>Value.int k (x:Nat)):=by
 refine ⟨by simp [h.len],?_,?_,?_⟩
 ·intro b hb i hi
  simp only [List.length_map] at hi
  rw [h.get b hb i hi]
  simp [hi]
 ·intro e;rw [h.non e];rfl
 ·intro v hv
  simp only [List.mem_map] at hv
  obtain ⟨x,_,rfl⟩:=hv
  rfl
def bytes (k:IntKind) (l:List Nat):List Value:=l.map fun x=>Value.int k (x:Nat)
theorem Vec.arr {k:IntKind} {w:World} {s:Sl} {l:List Nat} (h:Vec 1 w s (bytes k l)):Arr k w s l:=by
 have h1:=h.len
 simp only [bytes,List.length_map,Nat.mul_one] at h1
 refine ⟨h1.symm,h.cap,?_,?_⟩
 ·intro e
  have h2:=h.non e
  have h3:=h.cap
  exact List.length_eq_zero_iff.mp (by omega)
 ·intro b hb i hi
  obtain ⟨e1,e2,f,h3,h4,h5⟩:=h.blk b hb
  obtain ⟨ab,ao,asp⟩:=b
  simp only at e1 e2 h3
  subst e1 e2
  rw [add_mk,Nat.zero_add,h3.cell,h4 i (by simpa [bytes] using hi)]
  simp [bytes,hi]
theorem Vec.empty {w:World} {sz b:Nat} {f:Cells} (h:Blk w b f):Vec sz w ⟨some ⟨b,0,none⟩,0,0⟩ []:=by
 refine ⟨by simp,Nat.le_refl _,(fun h=>by cases h),?_⟩
 intro a ha
 injection ha with ha
 subst ha
 exact ⟨rfl,rfl,f,h,by simp,by simp⟩
theorem slc_lo {w:World} {s:Sl} {x:Int} {n:Nat} {κ:Sl→PT} (hx:x=n) (hn:n≤s.l) (h:κ ⟨slA s.a n s.c 1,s.l-n,s.c-n⟩ w):slc 1 s (some x) none none κ w :=
 ⟨n,s.l,s.c,rfl,rfl,⟨hx,hn⟩,h⟩
theorem maxI_le {a b:Int} (h:b≤a):maxI a b=a:=by unfold maxI;rw [if_neg (by omega)]
theorem maxI_gt {a b:Int} (h:a≤b):maxI a b=b:=by
 unfold maxI
 split
 ·rfl
 ·omega
theorem c49 {w:World} {s:Sl} {l:List Nat} {K:Sl×Int×Sl×Bool→PT} (hb:Arr .u8 w s l) (hl:By l) (hn:l.length<2^40)
  (h0:fseRead l=none→∀w',Fm w w' []→K (⟨none,0,0⟩,0,⟨none,0,0⟩,false) w')
  (h1:∀cs t rest,fseRead l=some (cs,t,rest)→∀w' c r,Fm w w' []→Vec 1 w' c (ints cs)→(∀x∈c.bs,w.heap.size≤x)→Arr .u8 w' r rest→(∀x∈r.bs,w.heap.size≤x)→K (c,((t:Nat):Int),r,true) w') :
  callP Tryd.prog 49 #[.slice s.a s.l s.c] [.c .S,.c (.I .i64),.c .S,.c .B] K w:=by
 apply q49_ok
 unfold q49
 have H0:HD w (w.alloc (.cells ⟨[(.slice s.a s.l s.c),(.int .i64 (0:Int)),(.bool true),(.slice none 0 0)]⟩ 148)) w.heap.size s ⟨0,true,[]⟩:=by
  refine ⟨Nat.le_refl _,(Fm.refl w []).alloc,⟨none,0,0⟩,Blk.new.congr ?_,Vec.nil,by simp [Sl.bs]⟩
  funext i;rcases i with _|_|_|_|i<;>simp [hdC]
 refine c67h (n:=4) H0 hb hl (by simp) (by omega) ?_
 intro w1 H1
 have ht:tkZ l 0 4<16:=Nat.mod_lt _ (by omega)
 simp only [Nat.zero_add,Bool.true_and] at H1
 have e1:IntKind.i64.wrap (((tkZ l 0 4:Nat):Int)+5)=((tkZ l 0 4+5:Nat):Int):=by rw [wI64 (by omega) (by omega)];simp
 have e2:shlI .i64 1 ((tkZ l 0 4+5:Nat):Int)=((2^(tkZ l 0 4+5):Nat):Int):=by
  have hpp:2^(tkZ l 0 4+5)≤2^20:=Nat.pow_le_pow_right (by omega) (by omega)
  have:=shlI_nat .i64 1 (tkZ l 0 4+5) (by simp [IntKind.bits];omega) (by simp only [IntKind.bits];omega)
  rw [Nat.one_mul] at this;exact this
 simp only at H1 ⊢
 rw [e1,e2]
 unfold fseRead at h0 h1
 refine ⟨by omega,cnd_d ?_ ?_⟩
 ·intro hc
  rw [if_pos (by omega)] at h0
  exact h0 rfl _ H1.fr
 ·intro hc
  rw [if_neg (by omega)] at h0 h1
  generalize tkZ l 0 4+5=t at *
  have htt:2^t≤2^15:=Nat.pow_le_pow_right (by omega) (by omega)
  have hp4:Pin l ⟨4,okZ l 0 4,[]⟩:=by intro hk;have:=okZ_le hk (by omega);simpa using this
  generalize hs0:(⟨4,okZ l 0 4,[]⟩:HS)=s0 at *
  have hs0p:s0.pos=4:=by rw [←hs0]
  have hs0c:s0.cs = []:=by rw [←hs0]
  refine ⟨fun x w'=>∃s' left,x=(((t:Nat):Int),((left:Nat):Int))∧HD w w' w.heap.size s s'∧readZ l s0 (2^t)=some (s',left)∧Pin l s'∧s'.pos≤100*s'.cs.length+4∧s'.cs.length≤303,?_,?_⟩
  ·rintro x w' ⟨s',left,rfl,H,hr,hp,hps,hcl⟩
   unfold q49_J2
   simp only [add_mk]
   rw [hr] at h0 h1
   simp only at h0 h1
   refine H.ldOk ⟨?_,?_⟩
   ·intro hk
    rw [if_neg (by intro hh;rw [hh.1] at hk;cases hk)] at h0
    exact h0 rfl _ H.fr
   ·intro hk
    have hk:s'.ok=true:=by simpa using hk
    refine cnd_nd ?_ ?_
    ·intro hc2
     rw [if_neg (by intro hh;exact hc2 (by rw [hh.2.1];rfl))] at h0
     exact h0 rfl _ H.fr
    ·intro hc2
     refine H.ldC ?_
     intro c hcl2 hv hx
     refine cnd_d ?_ ?_
     ·intro hc3
      rw [if_neg (by intro hh;omega)] at h0
      exact h0 rfl _ H.fr
     ·intro hc3
      rw [if_pos ⟨hk,by omega,by omega⟩] at h1
      unfold drw
      have H2:HD w w'.drew w.heap.size s s':=⟨H.new,H.fr.drew,by
       obtain ⟨c,a1,a2,a3⟩:=H.body
       exact ⟨c,a1.drew,a2.fr (Fm.refl w' []).drew (by simp),a3⟩⟩
      obtain ⟨c2,hB,hV,hX⟩:=H2.body
      refine ld_b (x:=c2) hB rfl ?_
      refine ld_b (t := .I .i64) (x:=(s'.pos:Int)) hB rfl ?_
      have hpos:=hp hk
      have hlen:=hb.len
      refine ⟨by decide,slc_lo (n:=(s'.pos+7)/8) ?_ (by omega) ?_⟩
      ·rw [wI64 (by omega) (by omega)]
       exact quoI_nat .i64 (s'.pos+7) 8 (by simp only [IntKind.bits];omega)
      ·unfold nw
       have F2:Fm w'.drew (w'.drew.alloc (.cells ⟨[]⟩ 5)) []:=(Fm.refl _ []).alloc
       have hB2:=hB.fr F2 (by simp)
       have hV2:=hV.fr F2 (by simp)
       have hA:=(H2.arr hb).fr F2 (by simp)
       have hN:Blk (w'.drew.alloc (.cells ⟨[]⟩ 5)) w'.drew.heap.size fun i=>(⟨[]⟩:Array Value)[i]? := Blk.new
       have hd:=hA.drop ((s'.pos+7)/8) (by omega)
       have hwh:=hB.lt
       refine ⟨?_,?_⟩
       ·intro f hf
        simp only [List.mem_cons,List.not_mem_nil,or_false] at hf
        rcases hf with rfl|rfl
        ·exact hB2.cell 1
        ·exact hB2.cell 3
       ·refine app_v (zs:=z5) (l := []) (Vec.empty hN) hd.has (by decide) (by simp only;omega) ?_
        intro r w3 g1 g2 g3
        have hne:w.heap.size∉Sl.bs ⟨some ⟨w'.drew.heap.size,0,none⟩,0,0⟩:=by
         simp [Sl.bs];have h9:w.heap.size<w'.heap.size:=hwh;omega
        have hB3:=hB2.fr g2 hne
        refine ⟨?_,?_⟩
        ·intro f hf
         simp only [List.mem_cons,List.not_mem_nil,or_false] at hf
         subst hf
         exact hB3.cell 3
        ·have hsz:=H.fr.size
         refine h1 _ _ _ rfl w3 c2 r ?_ ?_ (fun x hx=>(hX x hx).2) ?_ ?_
         ·exact ((H2.fr.trans F2 (by simp)).trans g2 (by intro x hx;right;simp [Sl.bs] at hx;subst hx;exact hsz))
         ·refine hV2.fr g2 ?_
          intro x hx hx2
          simp [Sl.bs] at hx2
          have h3:=hV.lt x hx
          subst hx2
          exact Nat.lt_irrefl _ h3
         ·rw [List.nil_append] at g1
          exact Vec.arr (k := .u8) g1
         ·intro x hx
          rcases g3 x hx with g4|g4
          ·simp [Sl.bs] at g4;subst g4;exact hsz
          ·have:=F2.size
           have:w'.heap.size≤w'.drew.heap.size:=Nat.le_refl _
           omega
  ·refine ⟨fun x w'=>∃s' left,x=(((t:Nat):Int),((left:Nat):Int))∧HD w w' w.heap.size s s'∧readZ l s' left=readZ l s0 (2^t)∧Pin l s'∧s'.pos≤100*s'.cs.length+4∧s'.cs.length≤303∧left≤2^15,
    fun _ w'=>304-hdLen w' w.heap.size,⟨s0,2^t,rfl,H1,rfl,hp4,by omega,by rw [hs0c];simp,htt⟩,?_⟩
   rintro x w' ⟨s',left,rfl,H,hr,hp,hps,hcl,hle⟩
   unfold q49_L1
   simp only [add_mk]
   refine cnd_d ?_ ?_
   ·intro hc2
    have hc2:0<left:=by omega
    refine H.ldOk ⟨?_,?_⟩
    ·intro hk
     refine H.ldC ?_
     intro c hcl2 hv hx
     rw [readZ,if_pos ⟨hc2,hk⟩] at hr
     refine cnd_d ?_ ?_
     ·intro hc3
      rw [dif_pos (by omega)] at hr
      rw [←hr] at h0
      exact h0 rfl _ H.fr
     ·intro hc3
      rw [dif_neg (by omega)] at hr
      rw [wI64 (by omega) (by omega)]
      refine c68h (most:=left+1) H hb hl (by omega) (by omega) (by omega) ?_
      intro w2 H2
      have hvl:=valZ_le l s'.pos (left+1) (by omega)
      have hlg:(left+1).log2<17:=(Nat.log2_lt (by omega)).mpr (by omega)
      have hpin2:Pin l (stepZ l s' left):=by
       intro hk2
       simp only [stepZ,Bool.and_eq_true] at hk2
       exact valZ_pin hk2.2 (hp hk2.1)
      have hst:stepZ l s' left=⟨(valZ l s'.pos (left+1)).2.1,s'.ok&&(valZ l s'.pos (left+1)).2.2,s'.cs ++ [((valZ l s'.pos (left+1)).1:Int)-1]⟩:=rfl
      unfold nextZ at hr
      generalize hS1:stepZ l s' left=S1 at *
      have hS1c:S1.cs.length=s'.cs.length+1:=by rw [hst];simp
      have hS1p:S1.pos≤s'.pos+18:=by rw [hst];simp only;omega
      generalize hv1:(valZ l s'.pos (left+1)).1=v at *
      rw [wI64 (by omega) (by omega)]
      refine H2.push (x:=(v:Int)-1) (by simp only;omega) ?_
      intro w3 H3
      simp only at H3
      rw [←hst] at H3
      have e4:∀y:Nat,(y:Int)=(if v=0 then left-1 else left:Nat)→IntKind.i64.wrap ((y:Int)-maxI ((v:Int)-1) 0)=((leftZ v left:Nat):Int):=by
       intro y hy
       unfold leftZ
       by_cases h5:v=0
       ·rw [if_pos h5] at hy ⊢
        rw [maxI_gt (by omega),wI64 (by omega) (by omega)];omega
       ·rw [if_neg h5] at hy ⊢
        rw [maxI_le (by omega),wI64 (by omega) (by omega)];omega
      have hll:leftZ v left≤left:=by unfold leftZ;split<;>omega
      have fin:∀y:Nat,(y:Int)=(if v=0 then left-1 else left:Nat)→q49_J0 ⟨w.heap.size,0,none⟩ (((t:Nat):Int),((left:Nat):Int)) (fun s'_1 w'_1=>(∃s'_2 left,s'_1=(((t:Nat):Int),((left:Nat):Int))∧HD w w'_1 w.heap.size s s'_2∧readZ l s'_2 left=readZ l s0 (2^t)∧Pin l s'_2∧s'_2.pos≤100*s'_2.cs.length+4∧s'_2.cs.length≤303∧left≤2^15)∧304-hdLen w'_1 w.heap.size<304-hdLen w' w.heap.size) v y w3:=by
       intro y hy
       unfold q49_J0
       simp only
       rw [wI64 (x:=(v:Int)-1) (by omega) (by omega),e4 y hy]
       refine cnd_d ?_ ?_
       ·intro h5
        have h5:v=1:=by omega
        rw [if_pos h5] at hr
        refine c69 H3 hb hl (by omega) (by omega) ?_
        intro w4 H4 b1 b2 b3
        refine ⟨⟨_,_,rfl,H4,hr,zerosZ_pin l _ hpin2,by omega,by omega,by omega⟩,?_⟩
        rw [H4.hdLen,H.hdLen];omega
       ·intro h5
        rw [if_neg (by omega)] at hr
        refine ⟨⟨_,_,rfl,H3,hr,hpin2,by omega,by omega,by omega⟩,?_⟩
        rw [H3.hdLen,H.hdLen];omega
      refine joinP_id (cnd_d ?_ ?_)
      ·intro h5
       rw [wI64 (by omega) (by omega)]
       have:=fin (left-1) (by rw [if_pos (by omega)])
       rw [show ((left-1:Nat):Int)=(left:Int)-1 by omega] at this
       exact this
      ·intro h5
       exact fin left (by rw [if_neg (by omega)])
    ·intro hk
     rw [readZ,if_neg (by simp [hk])] at hr
     exact ⟨s',left,rfl,H,hr.symm,hp,hps,hcl⟩
   ·intro hc2
    rw [readZ,if_neg (by omega)] at hr
    exact ⟨s',left,rfl,H,hr.symm,hp,hps,hcl⟩
def tkB (l:List Nat):Nat→Int→Nat
 | 0,_=>0
 | n+1,left=>2*tkB l n left+bitZ l (left-n-1)
theorem bitZ_lt (l:List Nat) (n:Int):bitZ l n<2:=by unfold bitZ;split<;>omega
theorem tkB_lt (l:List Nat) (n:Nat) (left:Int):tkB l n left<2^n:=by
 induction n with
 | zero=>simp [tkB]
 | succ n ih=>have:=bitZ_lt l (left-n-1);rw [tkB,Nat.pow_succ];omega
def backZ (l:List Nat):Option Nat:=match l.getLast? with
 | none=>none
 | some x=>if x=0 then none else some (8*(l.length-1)+x.log2)
def rbC (b:Sl) (left:Int):Cells:=fun i=>match i with
 | 0=>some (.slice b.a b.l b.c)
 | 1=>some (.int .i64 left)
 | _=>none
theorem rbC1 (b:Sl) (x y:Int):updC (rbC b x) 1 (.int .i64 y)=rbC b y:=by
 funext i;rcases i with _|_|i<;>simp [updC,rbC]
theorem c72 {w:World} {s:Sl} {l:List Nat} {K:Option Addr×Bool→PT} (hb:Arr .u8 w s l) (hl:By l) (hn:l.length<2^40)
  (h0:backZ l=none→K (none,false) w)
  (h1:∀left,backZ l=some left→∀w',Fm w w' []→Blk w' w.heap.size (rbC s left)→K (some ⟨w.heap.size,0,none⟩,true) w') :
  callP Tryd.prog 72 #[.slice s.a s.l s.c] [.c .P,.c .B] K w:=by
 apply q72_ok
 unfold q72
 have hlen:=hb.len
 refine cnd_d ?_ ?_
 ·intro hc
  have:l = []:=List.length_eq_zero_iff.mp (by omega)
  subst this
  exact h0 rfl
 ·intro hc
  have hpos:0<l.length:=by omega
  have hlast:l.getLast? = some l[l.length-1]:=by rw [List.getLast?_eq_getElem?,List.getElem?_eq_getElem (by omega)]
  have hx:l[l.length-1]<256:=hl _ (List.getElem_mem _)
  unfold backZ at h0 h1
  rw [hlast] at h0 h1
  simp only at h0 h1
  have e1:IntKind.i64.wrap ((s.l:Int)-1)=((l.length-1:Nat):Int):=by rw [wI64 (by omega) (by omega)];omega
  refine hb.ldk (l.length-1) e1 (by omega) ?_
  intro p hp
  refine ld_c (t := .I .u8) hp (cnd_d ?_ ?_)
  ·intro hc2
   rw [if_pos (by omega)] at h0
   exact h0 rfl
  ·intro hc2
   rw [if_neg (by omega)] at h1
   refine hb.ldk (l.length-1) e1 (by omega) ?_
   intro p hp
   refine ld_c (t := .I .u8) hp ?_
   rw [wI64 (x:=((l[l.length-1]:Nat):Int)) (by omega) (by omega)]
   refine c44 (by omega) (by omega) ?_
   have hlg:l[l.length-1].log2<8:=(Nat.log2_lt (by omega)).mpr hx
   rw [e1,wI64 (x:=8*_) (by omega) (by omega),wI64 (by omega) (by omega)]
   refine h1 _ rfl _ ((Fm.refl w []).alloc) (Blk.new.congr ?_)
   funext i;rcases i with _|_|i<;>simp [rbC]
theorem c59 {w:World} {h n:Nat} {b:Sl} {left:Int} {l:List Nat} {K:Int→PT} (H:Blk w h (rbC b left)) (hb:Arr .u8 w b l) (hh:∀a,b.a=some a→l ≠ []→a.block≠h) (hl:By l)
  (h1 : -1152921504606846976≤left) (h2:left<1152921504606846976) (hn:n≤32)
  (hk:∀w',Blk w' h (rbC b (left-n))→Fm w w' [h]→K (tkB l n left:Nat) w'):callP Tryd.prog 59 #[.pointer (some ⟨h,0,none⟩),.int .i64 n] [.c (.I .i64)] K w:=by
 apply q59_ok
 unfold q59
 refine ⟨fun x w'=>x=((tkB l n left:Nat):Int)∧Blk w' h (rbC b (left-n))∧Fm w w' [h],?_,?_⟩
 ·rintro x w' ⟨rfl,H1,F1⟩
  exact hk w' H1 F1
 ·refine ⟨fun x w'=>∃i:Nat,i≤n∧x=(((tkB l i left:Nat):Int),(i:Int))∧Blk w' h (rbC b (left-i))∧Fm w w' [h],fun x _=>n-x.2.toNat,⟨0,Nat.zero_le _,rfl,by simpa using H,Fm.refl w _⟩,?_⟩
  rintro x w' ⟨i,hi,rfl,H1,F1⟩
  unfold q59_L0
  simp only [add_mk]
  refine cnd_d ?_ ?_
  ·intro hc
   refine ld_b (t := .I .i64) (x:=left-i) H1 rfl ?_
   rw [wI64 (by omega) (by omega)]
   refine st_b H1 rfl rfl ?_
   have H2:=H1.setW (o:=0+1) (v := .int .i64 (left-i-1)) rfl (rbC1 b _ _)
   have F2:Fm w (w'.setCell ⟨h,0+1,none⟩ (.int .i64 (left-i-1))) [h]:=F1.set (.inl (by simp))
   unfold drw
   refine ld_b (x:=b) H2.drew rfl ?_
   refine ld_b (t := .I .i64) (x:=left-i-1) H2.drew rfl ?_
   refine c76 (hb.fr F2.drew (by intro a ha hn;simpa using hh a ha hn)) hl (by omega) (by omega) ?_
   have hlt:=tkB_lt l i left
   have hlt2:=bitZ_lt l (left-i-1)
   have hp:2^i≤2^32:=Nat.pow_le_pow_right (by omega) (by omega)
   simp only
   rw [wI64 (x:=2*_) (by omega) (by omega),wI64 (by omega) (by omega),wI64 (by omega) (by omega)]
   refine ⟨⟨i+1,by omega,?_,?_,F2.drew⟩,by omega⟩
   ·rw [tkB];simp
   ·have:=H2.drew
    rw [show left-((i+1:Nat):Int)=left-i-1 by omega]
    exact this
  ·intro hc
   have:i=n:=by omega
   subst this
   exact ⟨rfl,H1,F1⟩
theorem ld2_b {w:World} {b o:Nat} {f:Cells} {t u:CT} {x:t.ty} {y:u.ty} {κ:t.ty×u.ty→PT} (h:Blk w b f) (hx:f o=some (t.mk x)) (hy:f (o+1)=some (u.mk y)) (hk:κ (x,y) w):ldL [t,u] ⟨b,o,none⟩ 0 κ w:=by
 unfold ldL ldL
 simp only [add_mk,Nat.add_zero]
 exact ld_b h hx (ld_b h hy hk)
def c2C (x y:Int):Cells:=fun i=>match i with
 | 0=>some (.int .i64 x)
 | 1=>some (.int .i64 y)
 | _=>none
theorem c2C0 (x y z:Int):updC (c2C x y) 0 (.int .i64 z)=c2C z y:=by
 funext i;rcases i with _|_|i<;>simp [updC,c2C]
theorem c2C1 (x y z:Int):updC (c2C x y) 1 (.int .i64 z)=c2C x z:=by
 funext i;rcases i with _|_|i<;>simp [updC,c2C]
theorem st2_c2 {w:World} {b:Nat} {x y u v:Int} {κ:PT} (h:Blk w b (c2C x y)) (hk:∀w',Blk w' b (c2C u v)→Fm w w' [b]→κ w'):stL ⟨b,0,none⟩ 0 [.int .i64 u,.int .i64 v] κ w:=by
 unfold stL stL stL
 simp only [add_mk]
 refine st_b h rfl rfl ?_
 have h2:=h.setW (o:=0+0) (v := .int .i64 u) rfl (c2C0 x y u)
 refine st_b h2 rfl rfl ?_
 have h3:=h2.setW (o:=0+(0+1)) (v := .int .i64 v) rfl (c2C1 u y v)
 exact hk _ h3 (((Fm.refl w [b]).set (.inl (by simp))).set (.inl (by simp)))
theorem c58 {w:World} {s:Sl} {l:List Nat} {n:Nat} {K:Option Addr×(Int×Int)×Bool→PT} (hb:Arr .u8 w s l) (hl:By l) (hn:l.length<2^40) (hn2:n≤16)
  (h0:backZ l=none→∀w',Fm w w' []→K (none,(0,0),false) w')
  (h1:∀left,backZ l=some left→∀w' h,Fm w w' []→w.heap.size≤h→Blk w' h (rbC s ((left:Int)-n-n))→K (some ⟨h,0,none⟩,((tkB l n left:Nat),(tkB l n ((left:Int)-n):Nat)),decide (0≤(left:Int)-n-n)) w') :
  callP Tryd.prog 58 #[.slice s.a s.l s.c,.int .i64 n] [.c .P,.m [.I .i64,.I .i64],.c .B] K w:=by
 apply q58_ok
 unfold q58 nw
 have hlt:∀left,backZ l=some left→left<2^44:=by
  intro left h
  unfold backZ at h
  cases hg:l.getLast? with
  | none=>rw [hg] at h;cases h
  | some x =>
   rw [hg] at h
   simp only at h
   split at h
   ·cases h
   ·injection h with h
    have hx:x<256:=hl x (List.mem_of_getLast? hg)
    have hlg:x.log2<8:=(Nat.log2_lt (by assumption)).mpr hx
    omega
 have F1:Fm w (w.alloc (.cells ⟨z109⟩ 109)) []:=(Fm.refl w []).alloc
 have B1:Blk (w.alloc (.cells ⟨z109⟩ 109)) w.heap.size (c2C 0 0):=Blk.new.congr (by funext i;rcases i with _|_|i<;>simp [c2C,z109])
 refine c72 (hb.fr F1 (by simp)) hl hn ?_ ?_
 ·intro hbz
  refine ⟨fun _ => ?_,by simp⟩
  refine st2_c2 B1 ?_
  intro w2 B2 F2
  refine ld2_b (t := .I .i64) (u := .I .i64) (x:=(0:Int)) (y:=(0:Int)) B2 rfl rfl ?_
  exact h0 hbz w2 (F1.trans F2 (by simp))
 ·intro left hbz w2 F2 B2
  have hle:=hlt left hbz
  refine ⟨by simp,fun _ => ?_⟩
  have hs:(w.alloc (.cells ⟨z109⟩ 109)).heap.size=w.heap.size+1:=World.size_alloc _ _
  rw [hs] at B2
  have F12:=F1.trans F2 (by simp)
  simp only
  rw [hs]
  have hne:∀a,s.a=some a→l ≠ []→a.block≠w.heap.size+1:=by
   intro a ha hl2
   have:=hb.old hl2 a ha
   omega
  refine c59 B2 (hb.fr F12 (by simp)) hne hl (by omega) (by omega) (by omega) ?_
  intro w3 B3 F3
  have F13:Fm w w3 []:=F12.trans F3 (by simp)
  refine c59 B3 (hb.fr F13 (by simp)) hne hl (by omega) (by omega) (by omega) ?_
  intro w4 B4 F4
  have F14:Fm w w4 []:=F13.trans F4 (by simp)
  unfold drw
  refine ⟨_,rfl,?_⟩
  simp only [add_mk]
  refine ld_b (t := .I .i64) (x:=(left:Int)-n-n) B4.drew rfl ?_
  have B1':Blk w4.drew w.heap.size (c2C 0 0):=(((B1.fr F2 (by simp)).fr F3 (by simp)).fr F4 (by simp)).drew
  refine st2_c2 B1' ?_
  intro w5 B5 F5
  have F15:Fm w w5 []:=F14.drew.trans F5 (by simp)
  have B6:Blk w5 (w.heap.size+1) (rbC s ((left:Int)-n-n)):=B4.drew.fr F5 (by simp)
  refine ⟨?_,?_⟩
  ·intro f hf
   simp only [List.mem_cons,List.not_mem_nil,or_false] at hf
   subst hf
   exact B6.cell 1
  ·refine ld2_b (t := .I .i64) (u := .I .i64) (x:=((tkB l n left:Nat):Int)) (y:=((tkB l n ((left:Int)-n):Nat):Int)) B5 rfl rfl ?_
   exact h1 left hbz w5 _ F15 (by omega) B6
abbrev Cell3:=Nat×Nat×Int
def cell3 (c:Cell3):List Value := [.int .i64 (c.1:Nat),.int .i64 (c.2.1:Nat),.int .i64 c.2.2]
def flat3 (tab:List Cell3):List Value:=tab.flatMap cell3
theorem flat3_len (tab:List Cell3):(flat3 tab).length=tab.length*3:=by
 induction tab with
 | nil=>rfl
 | cons c r ih =>
  rw [show flat3 (c::r)=cell3 c++flat3 r from rfl,List.length_append,ih]
  simp [cell3];omega
theorem flat3_get (tab:List Cell3) (i j:Nat) (hi:i<tab.length) (hj:j<3):(flat3 tab)[i*3+j]? = (cell3 tab[i])[j]? := by
 induction tab generalizing i with
 | nil=>simp at hi
 | cons c r ih =>
  simp only [flat3,List.flatMap_cons] at ih ⊢
  cases i with
  | zero =>
   rw [Nat.zero_mul,Nat.zero_add,List.getElem?_append_left (by simp [cell3];exact hj)]
   rfl
  | succ i =>
   rw [List.getElem?_append_right (by simp [cell3];omega)]
   have:=ih i (by simpa using hi)
   simp only [cell3,List.length_cons,List.length_nil] at this ⊢
   rw [show (i+1)*3+j-(0+1+1+1)=i*3+j by omega,this]
   simp
theorem ld3_b {w:World} {b o:Nat} {f:Cells} {x y z:Int} {κ:Int×Int×Int→PT} (h:Blk w b f) (hx:f o=some (.int .i64 x)) (hy:f (o+1)=some (.int .i64 y)) (hz:f (o+2)=some (.int .i64 z)) (hk:κ (x,y,z) w) :
  ldL [.I .i64,.I .i64,.I .i64] ⟨b,o,none⟩ 0 κ w:=by
 unfold ldL ldL ldL
 simp only [add_mk,Nat.add_zero]
 exact ld_b (t := .I .i64) h hx (ld_b (t := .I .i64) h hy (ld_b (t := .I .i64) h hz hk))
theorem tab_ld {w:World} {s:Sl} {tab:List Cell3} {i:Int} (n:Nat) {κ:Addr→PT} (h:Vec 3 w s (flat3 tab)) (hi:i=n) (hn:n<tab.length)
  (hk:∀b o,(∃f,Blk w b f∧f o=some (.int .i64 (tab[n].1:Nat))∧f (o+1)=some (.int .i64 (tab[n].2.1:Nat))∧f (o+2)=some (.int .i64 tab[n].2.2))→κ ⟨b,o,none⟩ w):ixS 3 s i κ w:=by
 have h1:=h.len
 rw [flat3_len] at h1
 cases ha:s.a with
 | none=>have:=h.non ha;have:=h.cap;omega
 | some a =>
  obtain ⟨e1,e2,f,h3,h4,h5⟩:=h.blk a ha
  obtain ⟨ab,ao,asp⟩:=a
  simp only at e1 e2 h3
  subst e1 e2
  refine ixS_b ha hi (by omega) ?_
  rw [Nat.zero_add]
  refine hk _ _ ⟨f,h3,?_,?_,?_⟩
  ·rw [h4 _ (by rw [flat3_len];omega)];have:=flat3_get tab n 0 hn (by omega);simpa [cell3] using this
  ·rw [h4 _ (by rw [flat3_len];omega)];have:=flat3_get tab n 1 hn (by omega);simpa [cell3] using this
  ·rw [h4 _ (by rw [flat3_len];omega)];have:=flat3_get tab n 2 hn (by omega);simpa [cell3] using this
def c3C (x y z:Int):Cells:=fun i=>match i with
 | 0=>some (.int .i64 x)
 | 1=>some (.int .i64 y)
 | 2=>some (.int .i64 z)
 | _=>none
theorem nw3 {w:World} {x y z:Int} {κ:Addr→PT} (hk:∀w',Fm w w' []→w'.heap.size=w.heap.size+1→Blk w' w.heap.size (c3C x y z)→κ ⟨w.heap.size,0,none⟩ w') :
  nw z113 113 (fun p=>stL p 0 [.int .i64 x,.int .i64 y,.int .i64 z] (κ p)) w:=by
 unfold nw stL stL stL stL
 simp only [add_mk]
 have F1:Fm w (w.alloc (.cells ⟨z113⟩ 113)) []:=(Fm.refl w []).alloc
 have B1:Blk (w.alloc (.cells ⟨z113⟩ 113)) w.heap.size (c3C 0 0 0):=Blk.new.congr (by funext i;rcases i with _|_|_|i<;>simp [c3C,z113])
 refine st_b B1 rfl rfl ?_
 have B2:=B1.setW (o:=0+0) (v := .int .i64 x) (g:=c3C x 0 0) rfl (by funext i;rcases i with _|_|_|i<;>simp [updC,c3C])
 refine st_b B2 rfl rfl ?_
 have B3:=B2.setW (o:=0+(0+1)) (v := .int .i64 y) (g:=c3C x y 0) rfl (by funext i;rcases i with _|_|_|i<;>simp [updC,c3C])
 refine st_b B3 rfl rfl ?_
 have B4:=B3.setW (o:=0+(0+1+1)) (v := .int .i64 z) (g:=c3C x y z) rfl (by funext i;rcases i with _|_|_|i<;>simp [updC,c3C])
 exact hk _ (((F1.set (.inr (Nat.le_refl _))).set (.inr (Nat.le_refl _))).set (.inr (Nat.le_refl _))) (by simp) B4
def twoZ (l:List Nat) (tab:List Cell3) (limit:Nat) (left:Int) (a b:Nat) (out:List Nat):Option (List Nat) :=
 if hz:limit<out.length+1 then none else
  match tab[a]? with
  | none=>none
  | some c =>
   if left-(c.2.1:Nat)<0 then
    match tab[b]? with
    | none=>none
    | some d=>if limit<out.length+2 then none else some (out ++ [c.1%256] ++ [d.1%256])
   else if c.2.2+(tkB l c.2.1 left:Nat)<0∨(tab.length:Int)≤c.2.2+(tkB l c.2.1 left:Nat) then none
   else twoZ l tab limit (left-(c.2.1:Nat)) b (c.2.2+(tkB l c.2.1 left:Nat)).toNat (out ++ [c.1%256])
termination_by limit+1-out.length
decreasing_by
 simp only [List.length_append,List.length_cons,List.length_nil]
 omega
def twoStatesZ (l:List Nat) (tab:List Cell3) (n limit:Nat):Option (List Nat) :=
 match backZ l with
 | none=>none
 | some left=>if 0≤(left:Int)-n-n then twoZ l tab limit ((left:Int)-n-n) (tkB l n left) (tkB l n ((left:Int)-n)) [] else none
theorem backZ_lt {l:List Nat} {left:Nat} (hl:By l) (h:backZ l=some left):left<8*l.length:=by
 unfold backZ at h
 cases hg:l.getLast? with
 | none=>rw [hg] at h;cases h
 | some x =>
  rw [hg] at h
  simp only at h
  split at h
  ·cases h
  ·injection h with h
   have hx:x<256:=hl x (List.mem_of_getLast? hg)
   have hlg:x.log2<8:=(Nat.log2_lt (by assumption)).mpr hx
   have:l ≠ []:=by intro e;subst e;simp at hg
   have:=List.length_pos_iff.mpr this
   omega
theorem By.app {a b:List Nat} (ha:By a) (hb:By b):By (a++b):=by
 intro x hx
 rcases List.mem_append.mp hx with h|h
 ·exact ha x h
 ·exact hb x h
theorem c60 {w:World} {s s1:Sl} {l:List Nat} {tab:List Cell3} {n limit:Nat} {K:Sl×Bool→PT} (hb:Arr .u8 w s l) (hl:By l) (hn:l.length<2^40) (ht:Vec 3 w s1 (flat3 tab)) (hn2:n≤16) (htl:2^n≤tab.length) (htl2:tab.length≤2^20) (hlim:limit≤2^30)
  (hc:∀c∈tab,c.1<2^32∧c.2.1≤16 ∧ -4294967296≤c.2.2∧c.2.2<4294967296)
  (h0:twoStatesZ l tab n limit=none→∀w' s' l',Fm w w' []→Arr .u8 w' s' l'→By l'→l'.length≤limit+2→K (s',false) w')
  (h1:∀out,twoStatesZ l tab n limit=some out→∀w' s',Fm w w' []→Arr .u8 w' s' out→By out→(∀x∈s'.bs,w.heap.size≤x)→K (s',true) w') :
  callP Tryd.prog 60 #[.slice s.a s.l s.c,.slice s1.a s1.l s1.c,.int .i64 n,.int .i64 limit] [.c .S,.c .B] K w:=by
 apply q60_ok
 unfold q60
 have nilA:∀w':World,Arr .u8 w' ⟨none,0,0⟩ []:=fun w'=>⟨rfl,Nat.le_refl _,fun _=>rfl,by simp⟩
 have nilB:By []:=fun x hx=>by cases hx
 have h00:twoStatesZ l tab n limit=none→∀w',Fm w w' []→K (⟨none,0,0⟩,false) w':=fun h w' F=>h0 h w' _ [] F (nilA w') nilB (by simp)
 refine c58 hb hl hn hn2 ?_ ?_
 ·intro hbz w1 F1
  have F2:Fm w (w1.alloc (.cells ⟨z109⟩ 109)) []:=F1.alloc
  have B2:Blk (w1.alloc (.cells ⟨z109⟩ 109)) w1.heap.size (c2C 0 0):=Blk.new.congr (by funext i;rcases i with _|_|i<;>simp [c2C,z109])
  unfold nw
  refine st2_c2 B2 ?_
  intro w3 B3 F3
  refine ⟨fun _ => ?_,by simp⟩
  refine h00 (by unfold twoStatesZ;rw [hbz]) w3 (F2.trans F3 ?_)
  intro x hx;right;simp at hx;subst hx;exact F1.size
 ·intro left hbz w1 h F1 hh B1
  have hlt:=backZ_lt hl hbz
  have F2:Fm w (w1.alloc (.cells ⟨z109⟩ 109)) []:=F1.alloc
  have B2:Blk (w1.alloc (.cells ⟨z109⟩ 109)) w1.heap.size (c2C 0 0):=Blk.new.congr (by funext i;rcases i with _|_|i<;>simp [c2C,z109])
  unfold nw
  refine st2_c2 B2 ?_
  intro w3 B3 F3
  have hs1:=F1.size
  have F03:Fm w w3 []:=F2.trans F3 (by intro x hx;right;simp at hx;subst hx;exact hs1)
  have hhl:=B1.lt
  have B1':Blk w3 h (rbC s ((left:Int)-n-n)):=(B1.alloc).fr F3 (by simp;omega)
  have hp6:=B3.lt
  generalize hp6e:w1.heap.size=p6 at *
  refine cnd_nd ?_ ?_
  ·intro hc2
   refine h00 ?_ w3 F03
   unfold twoStatesZ
   rw [hbz]
   simp only
   rw [if_neg hc2]
  ·intro hc2
   have hz:twoStatesZ l tab n limit=twoZ l tab limit ((left:Int)-n-n) (tkB l n left) (tkB l n ((left:Int)-n)) []:=by
    unfold twoStatesZ
    rw [hbz]
    simp only
    rw [if_pos hc2]
   rw [hz] at h0 h00 h1
   refine ⟨fun x w'=>∃(lf:Int) (a b:Nat) (out:List Nat) (turn:Nat),x.2=(turn:Int)∧turn<2∧Vec 1 w' x.1 (bytes .u8 out)∧(∀y∈x.1.bs,w3.heap.size≤y)∧By out∧Fm w3 w' [h,p6] ∧
     Blk w' h (rbC s lf)∧Blk w' p6 (if turn=0 then c2C a b else c2C b a)∧a<tab.length∧b<tab.length∧0≤lf∧lf<2^50∧out.length≤limit ∧
     twoZ l tab limit lf a b out=twoZ l tab limit ((left:Int)-n-n) (tkB l n left) (tkB l n ((left:Int)-n)) [],fun x _=>limit+1-x.1.l,?_,?_⟩
   ·refine ⟨_,_,_,[],0,rfl,by omega,Vec.nil,by simp [Sl.bs],nilB,Fm.refl _ _,B1',B3,?_,?_,hc2,by omega,Nat.zero_le _,rfl⟩
    ·exact Nat.lt_of_lt_of_le (tkB_lt l n left) htl
    ·exact Nat.lt_of_lt_of_le (tkB_lt l n _) htl
   ·rintro ⟨xs,xt⟩ w' ⟨lf,a,b,out,turn,hxt,htn,hv,hvb,hob,F,BH,BP,ha,hb2,hl0,hl1,hol,heq⟩
    simp only
    simp only at hxt hv hvb
    subst hxt
    have F0:Fm w w' []:=F03.trans F (by intro x hx;right;simp at hx;rcases hx with rfl|rfl<;>omega)
    have hsz:=F.size
    have htb:∀y∈s1.bs,y ∉ [h,p6]:=by
     intro y hy
     have:=ht.lt y hy
     simp
     omega
    have hT:Vec 3 w' s1 (flat3 tab):=ht.fr F0 (by simp)
    have hA:Arr .u8 w' s l:=hb.fr F0 (by simp)
    have hlen:=hv.len
    simp only [bytes,List.length_map,Nat.mul_one] at hlen
    rw [twoZ] at heq
    have ga:tab[a]? = some tab[a]:=List.getElem?_eq_getElem ha
    have gb:tab[b]? = some tab[b]:=List.getElem?_eq_getElem hb2
    rw [ga] at heq
    simp only at heq
    obtain ⟨ca1,ca2,ca3,ca4⟩:=hc _ (List.getElem_mem ha)
    obtain ⟨cb1,cb2,cb3,cb4⟩:=hc _ (List.getElem_mem hb2)
    unfold q60_L0
    refine ixA_b (k:=turn) rfl htn ?_
    have BPt:(if turn=0 then c2C (a:Int) (b:Int) else c2C (b:Int) (a:Int)) (0+turn*1)=some (.int .i64 (a:Int)):=by
     rcases (show turn=0∨turn=1 by omega) with rfl|rfl<;>rfl
    have BPu:(if turn=0 then c2C (a:Int) (b:Int) else c2C (b:Int) (a:Int)) (0+(1-turn)*1)=some (.int .i64 (b:Int)):=by
     rcases (show turn=0∨turn=1 by omega) with rfl|rfl<;>rfl
    refine ld_b (t := .I .i64) (x:=(a:Int)) BP BPt ?_
    refine tab_ld a hT rfl ha ?_
    rintro tb to ⟨f,BT,g1,g2,g3⟩
    refine ld3_b BT g1 g2 g3 ?_
    refine nw3 ?_
    intro w4 F4 hs4 B4
    refine ld_b (t := .I .i64) (x:=((tab[a].1:Nat):Int)) B4 rfl ?_
    have hv4:=hv.fr F4 (by simp)
    have ew:IntKind.u8.wrap ((tab[a].1:Nat):Int)=((tab[a].1%256:Nat):Int):=wrap_u (k := .u8) rfl _
    rw [ew]
    refine app_1 hv4 rfl (by simp only;omega) ?_
    intro s16 w5 hv5 F5 hb5
    have ebs:bytes .u8 out ++ [.int .i64 0]=bytes .u8 out ++ [.int .i64 0]:=rfl
    rw [show bytes IntKind.u8 out ++ [Value.int .u8 ((tab[a].1%256:Nat):Int)]=bytes .u8 (out ++ [tab[a].1%256]) by simp [bytes]] at hv5
    have hlen5:=hv5.len
    simp only [bytes,List.length_map,Nat.mul_one,List.length_append,List.length_cons,List.length_nil] at hlen5
    have hob5:By (out ++ [tab[a].1%256]):=hob.app (by intro x hx;simp at hx;omega)
    have hsb:∀y∈xs.bs,y<w'.heap.size:=hv.lt
    have F35:Fm w3 w5 [h,p6]:=(F.trans F4 (by simp)).trans F5 (by intro x hx;right;exact hvb x hx)
    have F05:Fm w w5 []:=F03.trans F35 (by intro x hx;right;simp at hx;rcases hx with rfl|rfl<;>omega)
    have hb16:∀y∈s16.bs,w3.heap.size≤y:=by
     intro y hy
     rcases hb5 y hy with h6|h6
     ·exact hvb y h6
     ·omega
    have hb16n:∀y∈s16.bs,y≠w'.heap.size:=by
     intro y hy
     rcases hb5 y hy with h6|h6
     ·have:=hsb y h6;omega
     ·omega
    have BH5:Blk w5 h (rbC s lf):=(BH.fr F4 (by simp)).fr F5 (by intro e;have:=hvb h e;omega)
    have BP5:Blk w5 p6 (if turn=0 then c2C a b else c2C b a):=(BP.fr F4 (by simp)).fr F5 (by intro e;have:=hvb p6 e;omega)
    have B45:Blk w5 w'.heap.size (c3C (tab[a].1:Nat) (tab[a].2.1:Nat) tab[a].2.2):=B4.fr F5 (by intro e;have:=hsb _ e;omega)
    refine cnd_d ?_ ?_
    ·intro hc3
     rw [dif_pos (by omega)] at heq
     exact h00 heq.symm w5 F05
    ·intro hc3
     rw [dif_neg (by omega)] at heq
     simp only [add_mk]
     refine ld_b (t := .I .i64) (x:=((tab[a].2.1:Nat):Int)) B45 rfl ?_
     refine c59 BH5 (hb.fr F05 (by simp)) ?_ hl (by omega) (by omega) (by omega) ?_
     ·intro y hy hne
      have:=hb.old hne y hy
      omega
     intro w6 B6 F6
     have F36:Fm w3 w6 [h,p6]:=F35.trans F6 (by intro x hx;simp at hx;subst hx;left;simp)
     have F06:Fm w w6 []:=F03.trans F36 (by intro x hx;right;simp at hx;rcases hx with rfl|rfl<;>omega)
     have hne46:w'.heap.size≠h:=by omega
     have BP6:Blk w6 p6 (if turn=0 then c2C a b else c2C b a):=BP5.fr F6 (by simp;omega)
     have B46:Blk w6 w'.heap.size (c3C (tab[a].1:Nat) (tab[a].2.1:Nat) tab[a].2.2):=B45.fr F6 (by simp;omega)
     have hv6:Vec 1 w6 s16 (bytes .u8 (out ++ [tab[a].1%256])):=hv5.fr F6 (by intro y hy;have:=hb16 y hy;simp;omega)
     refine ⟨_,rfl,?_⟩
     simp only [add_mk]
     refine ld_b (t := .I .i64) (x:=lf-(tab[a].2.1:Nat)) B6 rfl ?_
     refine cnd_d ?_ ?_
     ·intro hc4
      rw [if_pos hc4,gb] at heq
      simp only at heq
      refine ixA_b (k:=1-turn) (by rw [wI64 (by omega) (by omega)];omega) (by omega) ?_
      refine ld_b (t := .I .i64) (x:=(b:Int)) BP6 BPu ?_
      refine tab_ld b (ht.fr F06 (by simp)) rfl hb2 ?_
      rintro tb to ⟨f,BT,g1,g2,g3⟩
      refine ld_b (t := .I .i64) (x:=((tab[b].1:Nat):Int)) BT g1 ?_
      have ew:IntKind.u8.wrap ((tab[b].1:Nat):Int)=((tab[b].1%256:Nat):Int):=wrap_u (k := .u8) rfl _
      rw [ew]
      refine app_1 hv6 rfl (by omega) ?_
      intro s26 w7 hv7 F7 hb7
      rw [show bytes IntKind.u8 (out ++ [tab[a].1%256]) ++ [Value.int .u8 ((tab[b].1%256:Nat):Int)]=bytes .u8 (out ++ [tab[a].1%256] ++ [tab[b].1%256]) by simp [bytes]] at hv7
      have hlen7:=hv7.len
      simp only [bytes,List.length_map,Nat.mul_one,List.length_append,List.length_cons,List.length_nil] at hlen7
      have hob7:By (out ++ [tab[a].1%256] ++ [tab[b].1%256]):=hob5.app (by intro x hx;simp at hx;omega)
      have F07:Fm w w7 []:=F06.trans F7 (by intro x hx;right;have:=hb16 x hx;omega)
      by_cases hc5:limit<out.length+2
      ·rw [if_pos hc5] at heq
       have:=h0 heq.symm w7 s26 _ F07 hv7.arr hob7 (by simp;omega)
       rw [show decide ((s26.l:Int)≤(limit:Int))=false by simp;omega]
       exact this
      ·rw [if_neg hc5] at heq
       rw [show decide ((s26.l:Int)≤(limit:Int))=true by simp;omega]
       refine h1 _ heq.symm w7 s26 F07 hv7.arr hob7 ?_
       intro x hx
       rcases hb7 x hx with h6|h6
       ·have:=hb16 x h6;omega
       ·have:=F06.size;omega
     ·intro hc4
      rw [if_neg hc4] at heq
      refine ld_b (t := .I .i64) (x:=tab[a].2.2) B46 rfl ?_
      refine ixA_b (k:=turn) rfl htn ?_
      have htk:=tkB_lt l tab[a].2.1 lf
      have hpw:2^tab[a].2.1≤2^16:=Nat.pow_le_pow_right (by omega) ca2
      have ew2:IntKind.i64.wrap (tab[a].2.2+((tkB l tab[a].2.1 lf:Nat):Int))=tab[a].2.2+((tkB l tab[a].2.1 lf:Nat):Int):=wI64 (by omega) (by omega)
      rw [ew2]
      generalize hV:tab[a].2.2+((tkB l tab[a].2.1 lf:Nat):Int)=v at *
      refine st_b BP6 (by rw [BPt];rfl) rfl ?_
      have BP7:=BP6.setW (o:=0+turn*1) (v := .int .i64 v) (g:=if turn=0 then c2C v b else c2C b v) (by rw [BPt];rfl) (by
       rcases (show turn=0∨turn=1 by omega) with rfl|rfl
       ·exact c2C0 _ _ _
       ·exact c2C1 _ _ _)
      have BPt7:(if turn=0 then c2C v (b:Int) else c2C (b:Int) v) (0+turn*1)=some (.int .i64 v):=by
       rcases (show turn=0∨turn=1 by omega) with rfl|rfl<;>rfl
      have F37:Fm w3 (w6.setCell ⟨p6,0+turn*1,none⟩ (.int .i64 v)) [h,p6]:=F36.set (.inl (by simp))
      have F67:Fm w6 (w6.setCell ⟨p6,0+turn*1,none⟩ (.int .i64 v)) [p6]:=(Fm.refl w6 [p6]).set (.inl (by simp))
      have F07:Fm w (w6.setCell ⟨p6,0+turn*1,none⟩ (.int .i64 v)) []:=F06.set (.inr (by simp only;omega))
      generalize w6.setCell ⟨p6,0+turn*1,none⟩ (.int .i64 v)=w7 at *
      refine ixA_b (k:=turn) rfl htn ?_
      refine ld_b (t := .I .i64) (x:=v) BP7 BPt7 ?_
      refine cnd_d ?_ ?_
      ·intro hc5
       rw [if_pos (.inl hc5)] at heq
       exact h00 heq.symm w7 F07
      ·intro hc5
       refine ixA_b (k:=turn) rfl htn ?_
       refine ld_b (t := .I .i64) (x:=v) BP7 BPt7 ?_
       have hsl:s1.l=tab.length:=by have:=ht.len;rw [flat3_len] at this;omega
       rw [hsl]
       refine cnd_d ?_ ?_
       ·intro hc6
        rw [if_pos (.inr hc6)] at heq
        exact h00 heq.symm w7 F07
       ·intro hc6
        rw [if_neg (by omega)] at heq
        have hvn:((v.toNat:Nat):Int)=v:=by omega
        refine ⟨⟨lf-(tab[a].2.1:Nat),b,v.toNat,out ++ [tab[a].1%256],1-turn,?_,by omega,?_,hb16,hob5,F37,?_,?_,hb2,by omega,by omega,by omega,by simp;omega,heq⟩,?_⟩
        ·rw [wI64 (by omega) (by omega)];omega
        ·exact hv6.fr F67 (by intro y hy;have:=hb16 y hy;simp;omega)
        ·exact B6.fr F67 (by simp;omega)
        ·rw [hvn]
         rcases (show turn=0∨turn=1 by omega) with rfl|rfl
         ·exact BP7
         ·exact BP7
        ·omega
def arrC (k:IntKind) (n:Nat) (f:Nat→Int):Cells:=fun i=>if i<n then some (.int k (f i)) else none
def updF (f:Nat→Int) (o:Nat) (v:Int):Nat→Int:=fun i=>if i=o then v else f i
theorem arrC_get {k:IntKind} {n i:Nat} {f:Nat→Int} (h:i<n):arrC k n f i=some (.int k (f i)):=if_pos h
theorem arrC_upd {k:IntKind} {n i:Nat} {f:Nat→Int} {v:Int} (h:i<n):updC (arrC k n f) i (.int k v)=arrC k n (updF f i v):=by
 funext j
 unfold updC arrC updF
 by_cases e:j=i
 ·subst e;simp [h]
 ·simp [e]
theorem zrep1 (v:Value) (n i:Nat):(zrep [v] n)[i]? = if i<n then some v else none:=by
 split
 ·rename_i h
  rw [Array.getElem?_eq_getElem (by rw [zrep_size];simpa using h)]
  simp [zrep,Nat.mod_one]
 ·rename_i h
  rw [Array.getElem?_eq_none (by rw [zrep_size];simp;omega)]
theorem mks1 {w:World} {k:IntKind} {v l c:Int} {n bytes:Nat} {T:TypeId} {κ:Sl→PT} (hl:l=n) (hc:c=n) (hn:n*bytes≤2^47)
  (hk:∀w',Fm w w' []→w'.heap.size=w.heap.size+1→Blk w' w.heap.size (arrC k n fun _=>v)→κ ⟨some ⟨w.heap.size,0,none⟩,n,n⟩ w'):mks [.int k v] T bytes l c κ w:=by
 refine ⟨n,n,hl,hc,Nat.le_refl _,hn,hk _ (Fm.refl w []).alloc (World.size_alloc _ _) (Blk.new.congr ?_)⟩
 funext i
 exact zrep1 _ _ _
theorem ixS1 {w:World} {b l c k:Nat} {i:Int} {κ:Addr→PT} (hi:i=k) (hk:k<l) (h:κ ⟨b,k,none⟩ w):ixS 1 ⟨some ⟨b,0,none⟩,l,c⟩ i κ w:=by
 refine ixS_b rfl hi hk ?_
 rw [Nat.zero_add,Nat.mul_one]
 exact h
theorem Vec.ldI {w:World} {s:Sl} {l:List Int} {i:Int} (n:Nat) {κ:Addr→PT} (h:Vec 1 w s (ints l)) (hi:i=n) (hn:n<l.length) (hk:∀p,w.cell? p=some (.int .i64 l[n])→κ p w):ixS 1 s i κ w:=by
 have h1:=h.len
 rw [ints_len,Nat.mul_one] at h1
 cases ha:s.a with
 | none=>have:=h.non ha;have:=h.cap;omega
 | some a =>
  obtain ⟨e1,e2,f,h3,h4,h5⟩:=h.blk a ha
  obtain ⟨ab,ao,asp⟩:=a
  simp only at e1 e2 h3
  subst e1 e2
  refine ixS_b ha hi (by omega) (hk _ ?_)
  rw [Nat.zero_add,Nat.mul_one,h3.cell,h4 n (by rw [ints_len];exact hn)]
  simp [ints,hn]
def muZ (size a:Nat):Nat:=((size-a)*(if size=32 then 7 else 3))%size
def stepOf (size:Nat):Nat:=size/2+size/8+3
theorem muZ_step (size a:Nat) (hs:size=32∨size=64) (ha:a<size) (h0:a≠0):muZ size a=muZ size ((a+stepOf size)%size)+1:=by
 have h32:∀a:Fin 32,a.val≠0→muZ 32 a.val=muZ 32 ((a.val+stepOf 32)%32)+1:=by decide
 have h64:∀a:Fin 64,a.val≠0→muZ 64 a.val=muZ 64 ((a.val+stepOf 64)%64)+1:=by decide
 rcases hs with rfl|rfl
 ·exact h32 ⟨a,ha⟩ h0
 ·exact h64 ⟨a,ha⟩ h0
def nxtF (size e:Nat):Nat→Nat→Nat
 | 0,a=>a
 | m+1,a=>if a<e then a else nxtF size e m ((a+stepOf size)%size)
def nxtZ (size e a:Nat):Nat:=nxtF size e (muZ size ((a+stepOf size)%size)) ((a+stepOf size)%size)
theorem nxtF_lt {size e m a:Nat} (h:a<e):nxtF size e m a=a:=by
 cases m with
 | zero=>rfl
 | succ m=>rw [nxtF,if_pos h]
def lowZ:List Int→Nat→Nat→(Nat→Int)→(Nat→Int)×Nat
 | [],_,e,f=>(f,e)
 | c::r,i,e,f=>if c = -1∧0<e then lowZ r (i+1) (e-1) (updF f (e-1) i) else lowZ r (i+1) e f
def symsZ:List Int→Nat→List Nat
 | [],_ => []
 | c::r,i=>List.replicate c.toNat i++symsZ r (i+1)
def layZ (size e:Nat):List Nat→Nat→(Nat→Int)→Option ((Nat→Int)×Nat)
 | [],a,f=>some (f,a)
 | s::r,a,f=>if e≤a then none else layZ size e r (nxtZ size e a) (updF f a s)
def spreadZ (cs:List Int) (size:Nat) (f0:Nat→Int):Option ((Nat→Int)×Nat) :=
 layZ size (lowZ cs 0 size f0).2 (symsZ cs 0) 0 (lowZ cs 0 size f0).1
theorem drop_cons {α:Type} {l:List α} {i:Nat} (h:i<l.length):l.drop i=l[i]::l.drop (i+1):=by
 rw [List.drop_eq_getElem_cons h]
theorem c75 {w:World} {s:Sl} {cs:List Int} {t:Nat} {K:Sl→PT} (hv:Vec 1 w s (ints cs)) (ht:t=5∨t=6) (hn:cs.length≤2^20) (hc:∀c∈cs, -1≤c∧c≤2^20)
  (h0:spreadZ cs (2^t) (fun _ => -1)=none→∀w',Fm w w' []→K ⟨none,0,0⟩ w')
  (h1:∀f a,spreadZ cs (2^t) (fun _ => -1)=some (f,a)→∀w' b,Fm w w' []→w.heap.size≤b→Blk w' b (arrC .i64 (2^t) f)→K ⟨some ⟨b,0,none⟩,2^t,2^t⟩ w') :
  callP Tryd.prog 75 #[.slice s.a s.l s.c,.int .i64 t] [.c .S] K w:=by
 apply q75_ok
 unfold q75
 have hsz:2^t=32∨2^t=64:=by rcases ht with rfl|rfl<;>simp
 have e1:shlI .i64 1 ((t:Nat):Int)=((2^t:Nat):Int):=by rcases ht with rfl|rfl<;>rfl
 have hvl:s.l=cs.length:=by have:=hv.len;rw [ints_len] at this;omega
 unfold q75_J11 q75_J10
 rw [e1]
 generalize hS:2^t=size at *
 have e2:quoI .i64 (size:Int) 2=((size/2:Nat):Int):=quoI_nat .i64 size 2 (by simp only [IntKind.bits];omega)
 have e3:quoI .i64 (size:Int) 8=((size/8:Nat):Int):=quoI_nat .i64 size 8 (by simp only [IntKind.bits];omega)
 have e5:IntKind.i64.wrap (IntKind.i64.wrap (((size/2:Nat):Int)+((size/8:Nat):Int))+3)=((stepOf size:Nat):Int):=by
  rw [wI64 (x:=((size/2:Nat):Int)+_) (by omega) (by omega),wI64 (by omega) (by omega)];simp [stepOf]
 have estep:∀a:Nat,a<size→Int.tmod (IntKind.i64.wrap ((a:Int)+((stepOf size:Nat):Int))) (size:Int)=(((a+stepOf size)%size:Nat):Int):=by
  intro a ha
  have:stepOf size<100:=by unfold stepOf;omega
  rw [wI64 (by omega) (by omega)]
  rfl
 refine ⟨by omega,mks1 (n:=size) rfl rfl (by omega) ?_⟩
 intro w1 F1 hs1 B1
 generalize hbe:w.heap.size=b at *
 refine ⟨fun _ w'=>Fm w1 w' [b]∧Blk w' b (arrC .i64 size fun _ => -1),?_,?_⟩
 ·rintro _ w2 ⟨F2,B2⟩
  have F02:Fm w w2 []:=F1.trans F2 (by intro x hx;right;simp at hx;omega)
  have hbl:=B2.lt
  refine ⟨fun x w'=>Fm w w' []∧∃(e:Nat) (f:Nat→Int),x=((e:Nat):Int)-1∧e≤size∧Blk w' b (arrC .i64 size f)∧(f,e)=lowZ cs 0 size fun _ => -1,?_,?_⟩
  ·rintro x w3 ⟨F3,e,f,rfl,he,B3,hlow⟩
   have hlow1:(lowZ cs 0 size fun _ => -1).1=f:=by rw [←hlow]
   have hlow2:(lowZ cs 0 size fun _ => -1).2=e:=by rw [←hlow]
   unfold spreadZ at h0 h1
   rw [hlow1,hlow2] at h0 h1
   refine ⟨by decide,by decide,?_⟩
   refine ⟨fun _ w'=>∃f' a',Fm w w' []∧layZ size e (symsZ cs 0) 0 f=some (f',a')∧Blk w' b (arrC .i64 size f'),?_,?_⟩
   ·rintro _ w4 ⟨f',a',F4,hl4,B4⟩
    exact h1 f' a' hl4 w4 b F4 (by omega) B4
   ·refine ⟨fun x w'=>∃(a i:Nat) (f':Nat→Int),x=((a:Int),(i:Int))∧i≤cs.length∧a<size∧Fm w w' []∧Blk w' b (arrC .i64 size f')∧layZ size e (symsZ (cs.drop i) i) a f'=layZ size e (symsZ cs 0) 0 f,
     fun x _=>cs.length-x.2.toNat,⟨0,0,f,rfl,by omega,by omega,F3,B3,rfl⟩,?_⟩
    rintro x w4 ⟨a,i,f4,rfl,hi,ha,F4,B4,hlay⟩
    unfold q75_L8
    simp only
    refine cnd_d ?_ ?_
    ·intro hc2
     have hi2:i<cs.length:=by omega
     have hcb:=hc _ (List.getElem_mem hi2)
     rw [drop_cons hi2,symsZ] at hlay
     refine ⟨fun x w'=>∃(a:Nat) (f':Nat→Int),x=(a:Int)∧a<size∧Fm w w' []∧Blk w' b (arrC .i64 size f')∧layZ size e (symsZ (cs.drop (i+1)) (i+1)) a f'=layZ size e (symsZ cs 0) 0 f,?_,?_⟩
     ·rintro x w5 ⟨a5,f5,rfl,ha5,F5,B5,hl5⟩
      unfold q75_J7
      simp only
      rw [wI64 (by omega) (by omega)]
      exact ⟨⟨a5,i+1,f5,by simp,by omega,ha5,F5,B5,hl5⟩,by omega⟩
     ·refine (hv.fr F4 (by simp)).ldI i rfl hi2 ?_
      intro p hp
      refine ld_c (t := .I .i64) hp ?_
      generalize cs[i]=c at *
      refine ⟨fun x w'=>∃(a k:Nat) (f':Nat→Int),x=((a:Int),(k:Int))∧k≤c.toNat∧a<size∧Fm w w' []∧Blk w' b (arrC .i64 size f') ∧
       layZ size e (List.replicate (c.toNat-k) i++symsZ (cs.drop (i+1)) (i+1)) a f'=layZ size e (symsZ cs 0) 0 f,fun x _=>c.toNat-x.2.toNat,⟨a,0,f4,rfl,by omega,ha,F4,B4,hlay⟩,?_⟩
      rintro x w5 ⟨a5,k,f5,rfl,hk,ha5,F5,B5,hl5⟩
      unfold q75_L6
      simp only
      have emax:maxI c 0=((c.toNat:Nat):Int):=by
       unfold maxI;split<;>omega
      rw [emax]
      refine cnd_d ?_ ?_
      ·intro hc3
       have hk2:k<c.toNat:=by omega
       rw [show c.toNat-k=(c.toNat-(k+1))+1 by omega,List.replicate_succ,List.cons_append,layZ] at hl5
       refine ⟨fun x w'=>∃(a':Nat),x=(a':Int)∧a'<size∧a'=nxtZ size e a5∧a5<e∧Fm w w' []∧Blk w' b (arrC .i64 size (updF f5 a5 i)),?_,?_⟩
       ·rintro x w6 ⟨a6,rfl,ha6,han,hlt,F6,B6⟩
        rw [if_neg (by omega), ←han] at hl5
        unfold q75_J4
        simp only
        rw [wI64 (by omega) (by omega)]
        exact ⟨⟨a6,k+1,_,by simp,by omega,ha6,F6,B6,hl5⟩,by omega⟩
       ·unfold q75_X5
        simp only
        refine cnd_d ?_ ?_
        ·intro hc4
         rw [if_pos (by omega)] at hl5
         exact h0 hl5.symm w5 F5
        ·intro hc4
         have hae:a5<e:=by omega
         refine ixS1 rfl ha5 ?_
         refine st_b B5 (by rw [arrC_get ha5];rfl) rfl ?_
         have B6:=B5.setW (o:=a5) (v := .int .i64 (i:Nat)) (by rw [arrC_get ha5];rfl) (arrC_upd ha5)
         have F6:Fm w (w5.setCell ⟨b,a5,none⟩ (.int .i64 (i:Nat))) []:=F5.set (.inr (by simp only;omega))
         generalize w5.setCell ⟨b,a5,none⟩ (.int .i64 (i:Nat))=w6 at *
         refine ⟨by omega,?_⟩
         simp only [e1,e2,e3,e5]
         rw [estep a5 ha5]
         have hm:(a5+stepOf size)%size<size:=Nat.mod_lt _ (by omega)
         refine ⟨fun x w'=>w'=w6∧∃a':Nat,x=(a':Int)∧a'<size∧nxtF size e (muZ size a') a'=nxtZ size e a5,fun x _=>muZ size x.toNat,⟨rfl,_,rfl,hm,rfl⟩,?_⟩
         rintro x w7 ⟨rfl,a7,rfl,ha7,hn7⟩
         unfold q75_L3
         simp only [e1,e2,e3,e5]
         refine cnd_d ?_ ?_
         ·intro hc5
          refine cnd_d ?_ (by intro h;omega)
          intro hc6
          refine cnd_d ?_ (by intro h;omega)
          intro hc7
          refine ⟨by omega,?_⟩
          rw [estep a7 ha7]
          have hm7:=muZ_step size a7 hsz ha7 (by omega)
          refine ⟨⟨rfl,_,rfl,Nat.mod_lt _ (by omega),?_⟩,?_⟩
          ·rw [←hn7,hm7,nxtF,if_neg (by omega)]
          ·simp only [Int.toNat_natCast];omega
         ·intro hc5
          refine ⟨a7,rfl,ha7,?_,hae,F6,B6⟩
          rw [←hn7,nxtF_lt (by omega)]
      ·intro hc3
       have hk2:k=c.toNat:=by omega
       rw [hk2,Nat.sub_self] at hl5
       exact ⟨a5,f5,rfl,ha5,F5,B5,hl5⟩
    ·intro hc2
     have hi2:i=cs.length:=by omega
     rw [hi2,List.drop_length] at hlay
     exact ⟨f4,a,F4,hlay.symm,B4⟩
  ·rw [wI64 (by omega) (by omega)]
   refine ⟨fun x w'=>Fm w w' []∧∃(e i:Nat) (f:Nat→Int),x=(((e:Nat):Int)-1,(i:Int))∧e≤size∧i≤cs.length∧Blk w' b (arrC .i64 size f)∧lowZ (cs.drop i) i e f=lowZ cs 0 size fun _ => -1,
    fun x _=>cs.length-x.2.toNat,⟨F02,size,0,_,rfl,Nat.le_refl _,Nat.zero_le _,B2,rfl⟩,?_⟩
   rintro x w3 ⟨F3,e,i,f,rfl,he,hi,B3,hlow⟩
   unfold q75_L2
   simp only
   refine cnd_d ?_ ?_
   ·intro hc2
    have hi2:i<cs.length:=by omega
    rw [drop_cons hi2,lowZ] at hlow
    refine joinP_id ?_
    refine (hv.fr F3 (by simp)).ldI i rfl hi2 ?_
    intro p hp
    refine ld_c (t := .I .i64) hp ?_
    unfold q75_J1
    simp only
    rw [wI64 (x:=(i:Int)+1) (by omega) (by omega)]
    refine cnd_d ?_ ?_
    ·intro hc3
     refine cnd_d ?_ ?_
     ·intro hc4
      have he0:0<e:=by omega
      rw [if_pos ⟨hc3,he0⟩] at hlow
      refine ixS1 (k:=e-1) (by omega) (by omega) ?_
      have hlt:e-1<size:=by omega
      refine st_b B3 (by rw [arrC_get hlt];rfl) rfl ?_
      have B4:=B3.setW (o:=e-1) (v := .int .i64 (i:Nat)) (by rw [arrC_get hlt];rfl) (arrC_upd hlt)
      rw [wI64 (by omega) (by omega)]
      exact ⟨⟨F3.set (.inr (by simp only;omega)),e-1,i+1,_,by simp;omega,by omega,by omega,B4,hlow⟩,by omega⟩
     ·intro hc4
      rw [if_neg (by omega)] at hlow
      exact ⟨⟨F3,e,i+1,f,by simp,he,by omega,B3,hlow⟩,by omega⟩
    ·intro hc3
     rw [if_neg (by omega)] at hlow
     exact ⟨⟨F3,e,i+1,f,by simp,he,by omega,B3,hlow⟩,by omega⟩
   ·intro hc2
    have hi2:i=cs.length:=by omega
    rw [hi2,List.drop_length] at hlow
    exact ⟨F3,e,f,rfl,he,B3,hlow⟩
 ·refine ⟨fun x w'=>∃(i:Nat) (f:Nat→Int),x=(i:Int)∧i≤size∧Fm w1 w' [b]∧Blk w' b (arrC .i64 size f)∧∀j,j<i→f j = -1,fun x _=>size-x.toNat,⟨0,_,rfl,Nat.zero_le _,Fm.refl _ _,B1,by simp⟩,?_⟩
  rintro x w2 ⟨i,f,rfl,hi,F2,B2,hf⟩
  unfold q75_L0
  simp only
  refine cnd_d ?_ ?_
  ·intro hc2
   have hi2:i<size:=by omega
   refine ixS1 rfl hi2 ?_
   refine st_b B2 (by rw [arrC_get hi2];rfl) rfl ?_
   have B3:=B2.setW (o:=i) (v := .int .i64 (-1)) (by rw [arrC_get hi2];rfl) (arrC_upd hi2)
   rw [wI64 (by omega) (by omega)]
   refine ⟨⟨i+1,_,by simp,by omega,F2.set (.inl (by simp)),B3,?_⟩,by omega⟩
   intro j hj
   unfold updF
   split
   ·rfl
   ·exact hf j (by omega)
  ·intro hc2
   have hi2:i=size:=by omega
   refine ⟨F2,B2.congr ?_⟩
   funext j
   unfold arrC
   split
   ·rw [hf j (by omega)]
   ·rfl
def absZ (n:Int):Nat:=if n<0 then 1 else n.toNat
def sumZ (cs:List Int):Nat:=(cs.map absZ).sum
def cntZ (f:Nat→Int) (s:Int):Nat→Nat
 | 0=>0
 | i+1=>cntZ f s i+if f i=s then 1 else 0
theorem cntZ_le (f:Nat→Int) (s:Int) (i:Nat):cntZ f s i≤i:=by
 induction i with
 | zero=>exact Nat.le_refl _
 | succ i ih=>rw [cntZ];split<;>omega
def kZ (cs:List Int) (f:Nat→Int) (i:Nat):Nat:=absZ (cs.getD (f i).toNat 0)+cntZ f (f i) i
def cellZ (cs:List Int) (t:Nat) (f:Nat→Int) (i:Nat):Cell3 :=
 ((f i).toNat,t-(kZ cs f i).log2,((kZ cs f i*2^(t-(kZ cs f i).log2):Nat):Int)-((2^t:Nat):Int))
def statesZ (cs:List Int) (t:Nat):Option (List Cell3) :=
 if sumZ cs=2^t then
  match spreadZ cs (2^t) (fun _ => -1) with
  | none=>none
  | some (f,_)=>if ∀i,i<2^t→0≤f i then some ((List.range (2^t)).map (cellZ cs t f)) else none
 else none
def LaidP (cs:List Int) (f:Nat→Int):Prop:=∀p,f p = -1∨∃i:Nat,i<cs.length∧f p=(i:Int)∧cs.getD i 0≠0
theorem LaidP.upd {cs:List Int} {f:Nat→Int} {o i:Nat} (h:LaidP cs f) (hi:i<cs.length) (hc:cs.getD i 0≠0):LaidP cs (updF f o (i:Nat)):=by
 intro p
 unfold updF
 split
 ·exact .inr ⟨i,hi,rfl,hc⟩
 ·exact h p
theorem getD_Z {cs:List Int} {i:Nat} (h:i<cs.length):cs.getD i 0=cs[i]:=by rw [List.getD_eq_getElem?_getD,List.getElem?_eq_getElem h];rfl
theorem lowZ_laid (cs:List Int):∀(r:List Int) (i e:Nat) (f:Nat→Int),r=cs.drop i→LaidP cs f→LaidP cs (lowZ r i e f).1
 | [],i,e,f,hr,hf=>hf
 | c::r,i,e,f,hr,hf=>by
  have hi:i<cs.length:=by
   by_cases h:i<cs.length
   ·exact h
   ·rw [List.drop_eq_nil_of_le (by omega)] at hr;cases hr
  rw [drop_cons hi] at hr
  injection hr with h1 h2
  rw [lowZ]
  split
  ·rename_i hc
   refine lowZ_laid cs r (i+1) _ _ h2 (hf.upd hi ?_)
   rw [getD_Z hi, ←h1];omega
  ·exact lowZ_laid cs r (i+1) _ _ h2 hf
theorem symsZ_mem (cs:List Int):∀(r:List Int) (i:Nat),r=cs.drop i→∀s∈symsZ r i,s<cs.length∧cs.getD s 0≠0
 | [],i,hr,s,hs=>by cases hs
 | c::r,i,hr,s,hs=>by
  have hi:i<cs.length:=by
   by_cases h:i<cs.length
   ·exact h
   ·rw [List.drop_eq_nil_of_le (by omega)] at hr;cases hr
  rw [drop_cons hi] at hr
  injection hr with h1 h2
  rw [symsZ] at hs
  rcases List.mem_append.mp hs with h|h
  ·have:=List.mem_replicate.mp h
   refine ⟨by omega,?_⟩
   rw [this.2,getD_Z hi, ←h1];omega
  ·exact symsZ_mem cs r (i+1) h2 s h
theorem layZ_laid (cs:List Int) (size e:Nat):∀(l:List Nat) (a:Nat) (f:Nat→Int) (f':Nat→Int) (a':Nat),(∀s∈l,s<cs.length∧cs.getD s 0≠0)→LaidP cs f→layZ size e l a f=some (f',a')→LaidP cs f'
 | [],a,f,f',a',hl,hf,h=>by rw [layZ] at h;injection h with h;injection h with h1 h2;exact h1▸hf
 | s::r,a,f,f',a',hl,hf,h=>by
  rw [layZ] at h
  split at h
  ·cases h
  ·have:=hl s (by simp)
   exact layZ_laid cs size e r _ _ f' a' (fun x hx=>hl x (by simp [hx])) (hf.upd this.1 this.2) h
theorem spreadZ_laid {cs:List Int} {size a:Nat} {f:Nat→Int} (h:spreadZ cs size (fun _ => -1)=some (f,a)):LaidP cs f :=
 layZ_laid cs size _ _ _ _ f a (symsZ_mem cs cs 0 rfl) (lowZ_laid cs cs 0 _ _ rfl fun _ => .inl rfl) h
theorem mem_le_sum:∀ {l:List Nat} {a:Nat},a∈l→a≤l.sum
 | x::r,a,h=>by
  rw [List.sum_cons]
  rcases List.mem_cons.mp h with h|h
  ·omega
  ·have:=mem_le_sum h;omega
theorem absZ_le_sum {cs:List Int} {i:Nat} (h:i<cs.length):absZ cs[i]≤sumZ cs:=by
 unfold sumZ
 have:absZ cs[i]∈cs.map absZ:=List.mem_map_of_mem (List.getElem_mem h)
 exact mem_le_sum this
theorem zrep3 (n i:Nat):(zrep z113 n)[i]? = arrC .i64 (n*3) (fun _=>0) i:=by
 unfold arrC
 split
 ·rename_i h
  rw [Array.getElem?_eq_getElem (by rw [zrep_size];exact h)]
  simp only [zrep,Array.getElem_map,Array.getElem_range]
  have hm:i%z113.length<3:=Nat.mod_lt _ (by decide)
  rcases (show i%z113.length=0∨i%z113.length=1∨i%z113.length=2 by omega) with h|h|h<;>rw [h]<;>rfl
 ·rename_i h
  rw [Array.getElem?_eq_none (by rw [zrep_size];simp [z113];omega)]
theorem sumZ_take {cs:List Int} {i:Nat} (h:i<cs.length):sumZ (cs.take (i+1))=sumZ (cs.take i)+absZ cs[i]:=by
 unfold sumZ
 rw [List.take_succ_eq_append_getElem h,List.map_append,List.sum_append]
 simp only [List.map_cons,List.map_nil,List.sum_cons,List.sum_nil,Nat.add_zero]
theorem sumZ_take_le (cs:List Int) (M i:Nat) (hM:1≤M) (h:∀c∈cs,c≤M):sumZ (cs.take i)≤i*M:=by
 induction i with
 | zero=>simp [sumZ]
 | succ i ih =>
  rw [Nat.succ_mul]
  by_cases hi:i<cs.length
  ·rw [sumZ_take hi]
   have:=h _ (List.getElem_mem hi)
   have:absZ cs[i]≤M:=by unfold absZ;split<;>omega
   omega
  ·rw [List.take_of_length_le (by omega)] at ih ⊢
   omega
theorem c57 {w:World} {s:Sl} {cs:List Int} {t:Nat} {K:Sl×Bool→PT} (hv:Vec 1 w s (ints cs)) (ht:t=5∨t=6) (hn:cs.length≤2^20) (hc:∀c∈cs, -1≤c∧c≤2^20)
  (h0:statesZ cs t=none→∀w',Fm w w' []→K (⟨none,0,0⟩,false) w')
  (h1:∀tab,statesZ cs t=some tab→∀w' b,Fm w w' []→w.heap.size≤b→Vec 3 w' ⟨some ⟨b,0,none⟩,2^t,2^t⟩ (flat3 tab)→K (⟨some ⟨b,0,none⟩,2^t,2^t⟩,true) w') :
  callP Tryd.prog 57 #[.slice s.a s.l s.c,.int .i64 t] [.c .S,.c .B] K w:=by
 apply q57_ok
 unfold q57
 have hsz:2^t=32∨2^t=64:=by rcases ht with rfl|rfl<;>simp
 have e1:shlI .i64 1 ((t:Nat):Int)=((2^t:Nat):Int):=by rcases ht with rfl|rfl<;>rfl
 have hvl:s.l=cs.length:=by have:=hv.len;rw [ints_len] at this;omega
 refine ⟨by omega,fun x w'=>x=((sumZ cs:Nat):Int)∧w'=w,?_,?_⟩
 ·rintro x w' ⟨rfl,hw⟩
  have hw:=hw.symm
  subst hw
  unfold q57_J5
  rw [e1]
  refine cnd_nd ?_ ?_
  ·intro hc2
   refine h0 ?_ w (Fm.refl w _)
   unfold statesZ
   rw [if_neg (by omega)]
  ·intro hc2
   have hsum:sumZ cs=2^t:=by omega
   unfold statesZ at h0 h1
   rw [if_pos hsum] at h0 h1
   refine c75 hv ht hn hc ?_ ?_
   ·intro hsp w1 F1
    rw [hsp] at h0
    exact ⟨fun _=>h0 rfl w1 F1,by simp⟩
   ·intro f af hsp w1 bl F1 hbl BL
    rw [hsp] at h0 h1
    simp only at h0 h1
    refine ⟨by simp,fun _ => ?_⟩
    refine mks1 (n:=cs.length) (by rw [hvl]) (by rw [hvl]) (by omega) ?_
    intro w2 F2 hs2 BS
    have hs1:=F1.size
    refine ⟨2^t,2^t,rfl,rfl,Nat.le_refl _,by omega,?_⟩
    have hlaid:=spreadZ_laid hsp
    generalize hbs:w1.heap.size=bs at *
    have BO:Blk (w2.alloc (.cells (zrep z113 (2^t)) 113)) w2.heap.size (arrC .i64 (2^t*3) fun _=>0):=Blk.new.congr (by funext i;exact zrep3 _ _)
    have F3:Fm w2 (w2.alloc (.cells (zrep z113 (2^t)) 113)) []:=(Fm.refl w2 []).alloc
    have hs3:(w2.alloc (.cells (zrep z113 (2^t)) 113)).heap.size=w2.heap.size+1:=World.size_alloc _ _
    generalize w2.alloc (.cells (zrep z113 (2^t)) 113)=w3 at *
    have BL3:Blk w3 bl (arrC .i64 (2^t) f):=(BL.fr F2 (by simp)).fr F3 (by simp)
    have BS3:Blk w3 bs (arrC .i64 cs.length fun _=>0):=BS.fr F3 (by simp)
    have F03:Fm w w3 []:=(F1.trans F2 (by simp)).trans F3 (by simp)
    have hbll:=BL.lt
    have hbo:w2.heap.size=bs+1:=by omega
    rw [hbo] at BO ⊢
    refine ⟨fun _ w'=>(∀i,i<2^t→0≤f i)∧Fm w w' []∧∃g,Blk w' (bs+1) (arrC .i64 (2^t*3) g)∧∀i,i<2^t→g (i*3)=((cellZ cs t f i).1:Nat)∧g (i*3+1)=((cellZ cs t f i).2.1:Nat)∧g (i*3+2)=(cellZ cs t f i).2.2,?_,?_⟩
    ·rintro _ w4 ⟨hpos,F4,g,BO4,hg⟩
     unfold q57_J4
     rw [if_pos hpos] at h1
     refine h1 _ rfl w4 (bs+1) F4 (by omega) ⟨by rw [flat3_len];simp,Nat.le_refl _,(fun h=>by cases h),?_⟩
     intro a ha
     injection ha with ha
     subst ha
     refine ⟨rfl,rfl,_,BO4,?_,?_⟩
     ·intro j hj
      rw [flat3_len] at hj
      simp only [List.length_map,List.length_range] at hj
      have hq:j/3<2^t:=by omega
      have hj3:j=j/3*3+j%3:=by omega
      have hr:j%3<3:=Nat.mod_lt _ (by omega)
      rw [hj3,flat3_get _ _ _ (by simpa using hq) hr]
      rw [arrC_get (by omega)]
      obtain ⟨g0,g1,g2⟩:=hg _ hq
      simp only [List.getElem_map,List.getElem_range]
      rcases (show j%3=0∨j%3=1∨j%3=2 by omega) with h|h|h<;>rw [h]
      ·rw [Nat.add_zero,g0];rfl
      ·rw [g1];rfl
      ·rw [g2];rfl
     ·intro j hj
      simp only at hj
      rw [arrC_get hj];rfl
    ·refine ⟨fun x w'=>∃(i:Nat) (g h:Nat→Int),x=(i:Int)∧i≤2^t∧Fm w w' []∧Blk w' bl (arrC .i64 (2^t) f)∧Blk w' bs (arrC .i64 cs.length h)∧Blk w' (bs+1) (arrC .i64 (2^t*3) g) ∧
      (∀s:Nat,s<cs.length→h s=((cntZ f s i:Nat):Int))∧(∀j,j<i→0≤f j∧g (j*3)=((cellZ cs t f j).1:Nat)∧g (j*3+1)=((cellZ cs t f j).2.1:Nat)∧g (j*3+2)=(cellZ cs t f j).2.2),
      fun x _=>2^t-x.toNat,⟨0,_,_,rfl,Nat.zero_le _,F03,BL3,BS3,BO,by simp [cntZ],by simp⟩,?_⟩
     rintro x w4 ⟨i,g,h,rfl,hi,F4,BL4,BS4,BO4,hh,hg⟩
     unfold q57_L3
     refine cnd_d ?_ ?_
     ·intro hc3
      have hi2:i<2^t:=by simp only at hc3;omega
      refine ixS1 rfl hi2 ?_
      refine ld_b (t := .I .i64) (x:=f i) BL4 (arrC_get hi2) ?_
      refine cnd_d ?_ ?_
      ·intro hc4
       rw [if_neg (by intro hh;have:=hh i hi2;omega)] at h0
       exact h0 rfl w4 F4
      ·intro hc4
       rcases hlaid i with hm|⟨sy,hsy,hfi,hne⟩
       ·omega
       rw [hfi]
       refine (hv.fr F4 (by simp)).ldI sy rfl hsy ?_
       intro p hp
       refine ld_c (t := .I .i64) hp ?_
       have hcsy:=hc _ (List.getElem_mem hsy)
       have hle:=absZ_le_sum hsy
       have hcnt:=cntZ_le f sy i
       have hkz:kZ cs f i=absZ cs[sy]+cntZ f sy i:=by unfold kZ;rw [hfi,Int.toNat_natCast,getD_Z hsy]
       have hcell:cellZ cs t f i=(sy,t-(kZ cs f i).log2,((kZ cs f i*2^(t-(kZ cs f i).log2):Nat):Int)-((2^t:Nat):Int)):=by unfold cellZ;rw [hfi,Int.toNat_natCast]
       have habs:0<absZ cs[sy]:=by
        rw [getD_Z hsy] at hne
        unfold absZ;split<;>omega
       have hkpos:0<kZ cs f i:=by omega
       have hklt:kZ cs f i<2^(t+1):=by rw [Nat.pow_succ];omega
       have hklog:(kZ cs f i).log2<t+1:=(Nat.log2_lt (by omega)).mpr hklt
       have hkl:=Nat.log2_self_le (n:=kZ cs f i) (by omega)
       have hku:=Nat.lt_log2_self (n:=kZ cs f i)
       have hkb:kZ cs f i*2^(t-(kZ cs f i).log2)<2^(t+1):=by
        rw [show t+1=((kZ cs f i).log2+1)+(t-(kZ cs f i).log2) by omega,Nat.pow_add]
        exact Nat.mul_lt_mul_of_pos_right hku (Nat.two_pow_pos _)
       have hpt:2^(t+1)=2*2^t:=Nat.pow_succ'
       refine joinP_id ?_
       have fin:∀m:Int,m=(absZ cs[sy]:Nat)→q57_J2 t ⟨some ⟨bs,0,none⟩,cs.length,cs.length⟩ ⟨some ⟨bs+1,0,none⟩,2^t,2^t⟩ (i:Nat) (fun s' w'=>(∃(i:Nat) (g h:Nat→Int),s'=(i:Int)∧i≤2^t∧Fm w w' []∧Blk w' bl (arrC .i64 (2^t) f)∧Blk w' bs (arrC .i64 cs.length h)∧Blk w' (bs+1) (arrC .i64 (2^t*3) g) ∧
         (∀s:Nat,s<cs.length→h s=((cntZ f s i:Nat):Int))∧(∀j,j<i→0≤f j∧g (j*3)=((cellZ cs t f j).1:Nat)∧g (j*3+1)=((cellZ cs t f j).2.1:Nat)∧g (j*3+2)=(cellZ cs t f j).2.2))∧2^t-s'.toNat<2^t-(i:Int).toNat) sy m w4:=by
        rintro m rfl
        unfold q57_J2
        refine ixS1 rfl hsy (ld_b (t := .I .i64) (x:=h sy) BS4 (arrC_get hsy) (ixS1 rfl hsy (ld_b (t := .I .i64) (x:=h sy) BS4 (arrC_get hsy) (ixS1 rfl hsy ?_))))
        rw [hh sy hsy]
        refine st_b BS4 (by rw [arrC_get hsy];rfl) rfl ?_
        rw [wI64 (x:=((cntZ f sy i:Nat):Int)+1) (by omega) (by omega)]
        have BS5:=BS4.setW (o:=sy) (v := .int .i64 (((cntZ f sy i:Nat):Int)+1)) (by rw [arrC_get hsy];rfl) (arrC_upd hsy)
        have F45:Fm w4 (w4.setCell ⟨bs,sy,none⟩ (.int .i64 (((cntZ f sy i:Nat):Int)+1))) [bs]:=(Fm.refl _ _).set (.inl (by simp))
        generalize w4.setCell ⟨bs,sy,none⟩ (.int .i64 (((cntZ f sy i:Nat):Int)+1))=w5 at *
        have ek:IntKind.i64.wrap (((absZ cs[sy]:Nat):Int)+((cntZ f sy i:Nat):Int))=((kZ cs f i:Nat):Int):=by rw [wI64 (by omega) (by omega)];omega
        rw [ek]
        refine c44 hkpos (by omega) ?_
        have eb:IntKind.i64.wrap (((t:Nat):Int)-(((kZ cs f i).log2:Nat):Int))=((t-(kZ cs f i).log2:Nat):Int):=by rw [wI64 (by omega) (by omega)];omega
        simp only
        rw [eb,e1]
        have es:shlI .i64 ((kZ cs f i:Nat):Int) ((t-(kZ cs f i).log2:Nat):Int)=((kZ cs f i*2^(t-(kZ cs f i).log2):Nat):Int):=shlI_nat .i64 _ _ (by simp only [IntKind.bits];omega) (by simp only [IntKind.bits];omega)
        rw [es,wI64 (x:=((kZ cs f i*2^(t-(kZ cs f i).log2):Nat):Int)-_) (by omega) (by omega)]
        refine ⟨by omega,?_⟩
        refine ixS_b (k:=i) rfl rfl hi2 ?_
        unfold stL stL stL stL
        simp only [add_mk]
        have BO5:=BO4.fr F45 (by simp)
        have q0:0+i*3+0<2^t*3:=by omega
        have q1:0+i*3+(0+1)<2^t*3:=by omega
        have q2:0+i*3+(0+1+1)<2^t*3:=by omega
        refine st_b BO5 (by rw [arrC_get q0];rfl) rfl ?_
        have BO6:=BO5.setW (o:=0+i*3+0) (v := .int .i64 (sy:Nat)) (by rw [arrC_get q0];rfl) (arrC_upd q0)
        refine st_b BO6 (by rw [arrC_get q1];rfl) rfl ?_
        have BO7:=BO6.setW (o:=0+i*3+(0+1)) (v := .int .i64 ((t-(kZ cs f i).log2:Nat):Int)) (by rw [arrC_get q1];rfl) (arrC_upd q1)
        refine st_b BO7 (by rw [arrC_get q2];rfl) rfl ?_
        have BO8:=BO7.setW (o:=0+i*3+(0+1+1)) (v := .int .i64 (((kZ cs f i*2^(t-(kZ cs f i).log2):Nat):Int)-((2^t:Nat):Int))) (by rw [arrC_get q2];rfl) (arrC_upd q2)
        have F58:=(((Fm.refl w5 [bs+1]).set (a:=⟨bs+1,0+i*3+0,none⟩) (v := .int .i64 (sy:Nat)) (.inl (by simp))).set (a:=⟨bs+1,0+i*3+(0+1),none⟩) (v := .int .i64 ((t-(kZ cs f i).log2:Nat):Int)) (.inl (by simp))).set (a:=⟨bs+1,0+i*3+(0+1+1),none⟩) (v := .int .i64 (((kZ cs f i*2^(t-(kZ cs f i).log2):Nat):Int)-((2^t:Nat):Int))) (.inl (by simp))
        rw [wI64 (x:=((i:Nat):Int)+1) (by omega) (by omega)]
        refine ⟨⟨i+1,_,_,by simp,by omega,(F4.trans F45 ?_).trans F58 ?_,(BL4.fr F45 (by simp;omega)).fr F58 (by simp;omega),BS5.fr F58 (by simp),BO8,?_,?_⟩,by omega⟩
        ·intro x hx;right;simp at hx;omega
        ·intro x hx;right;simp at hx;omega
        ·intro s2 hs2
         unfold updF
         rw [cntZ,hfi]
         by_cases e:s2=sy
         ·subst e;simp
         ·rw [if_neg e,if_neg (by omega),hh s2 hs2];simp
        ·intro j hj
         by_cases e:j=i
         ·subst e
          rw [hcell]
          refine ⟨by omega,?_,?_,?_⟩<;>simp [updF]
         ·have:=hg j (by omega)
          refine ⟨this.1,?_,?_,?_⟩
          ·rw [←this.2.1];unfold updF;rw [if_neg (by omega),if_neg (by omega),if_neg (by omega)]
          ·rw [←this.2.2.1];unfold updF;rw [if_neg (by omega),if_neg (by omega),if_neg (by omega)]
          ·rw [←this.2.2.2];unfold updF;rw [if_neg (by omega),if_neg (by omega),if_neg (by omega)]
       refine cnd_d ?_ ?_
       ·intro hc5
        exact fin 1 (by unfold absZ;rw [if_pos hc5];rfl)
       ·intro hc5
        exact fin cs[sy] (by unfold absZ;rw [if_neg hc5];omega)
     ·intro hc3
      have hi2:i=2^t:=by simp only at hc3;omega
      subst hi2
      exact ⟨fun j hj=>(hg j hj).1,F4,g,BO4,fun j hj=>(hg j hj).2⟩
 ·refine ⟨fun x w'=>w'=w∧∃i:Nat,i≤cs.length∧x=(((sumZ (cs.take i):Nat):Int),(i:Int)),fun x _=>cs.length-x.2.toNat,⟨rfl,0,Nat.zero_le _,by simp [sumZ]⟩,?_⟩
  rintro x w' ⟨rfl,i,hi,rfl⟩
  unfold q57_L1
  simp only
  refine cnd_d ?_ ?_
  ·intro hc2
   have hi2:i<cs.length:=by omega
   refine hv.ldI i rfl hi2 ?_
   intro p hp
   refine ld_c (t := .I .i64) hp ?_
   have hb:=hc _ (List.getElem_mem hi2)
   have hle:=sumZ_take_le cs 1048576 (i+1) (by decide) (fun c hcc=>(hc c hcc).2)
   have hst:=sumZ_take hi2
   refine joinP_id ?_
   have fin:∀m:Int,m=(absZ cs[i]:Nat)→q57_J0 (((sumZ (cs.take i):Nat):Int),(i:Int)) (fun s' w'_1=>(w'_1=w'∧∃i:Nat,i≤cs.length∧s'=(((sumZ (cs.take i):Nat):Int),(i:Int)))∧cs.length-s'.2.toNat<cs.length-(i:Int).toNat) m w':=by
    rintro m rfl
    unfold q57_J0
    simp only
    rw [wI64 (by omega) (by omega),wI64 (by omega) (by omega)]
    exact ⟨⟨trivial,i+1,by omega,by rw [hst];simp⟩,by omega⟩
   refine cnd_d ?_ ?_
   ·intro hc5
    exact fin 1 (by unfold absZ;rw [if_pos hc5];rfl)
   ·intro hc5
    exact fin cs[i] (by unfold absZ;rw [if_neg hc5];omega)
  ·intro hc2
   have hi2:i=cs.length:=by omega
   subst hi2
   rw [List.take_length]
   exact ⟨rfl,rfl⟩
end Go.Sx
