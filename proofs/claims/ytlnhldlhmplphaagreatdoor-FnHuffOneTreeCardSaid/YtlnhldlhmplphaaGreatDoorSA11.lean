/- Lemmas for the proof: H46 H47 H48 H49 Z3 ZW H63 H64 H65 H66 H67 H68 H50 H51 H54 H55 H56 PZ H73 HZ. No conditions. -/
import Derived.Test.YtlnhldlhmplphaaGreatDoorSA10
set_option linter.unusedVariables false
set_option linter.unusedSimpArgs false
namespace Go.Sx
open Go Go.Proofs
set_option maxRecDepth 4000
section
variable {w:World} {g n L M0 L0:Nat} {s:HU} {s1:Sl} {xs pre:List Nat} {col:Nat→Nat} {cnt ln0:Nat→Nat} {fc:FuncId} {Enc:(Nat→Nat)→(Nat→Nat)→List Nat→List Nat→Prop} {K3:Sl×Bool×Value→PT}
theorem HQ.pt0 {w':World} (Q:HQ w g s col n cnt L pre) (F:Fm w w' [g]) (B:Blk w' g ({ s with pt:=⟨s.pt.a,0,s.pt.c⟩ } : HU).at):HQ w' g { s with pt:=⟨s.pt.a,0,s.pt.c⟩ } col n cnt L pre:=by
 have n9:∀v ∈ [g],7≤v:=by intro v hv;simp at hv;subst hv;exact Q.g9
 have pb:=Q.pt.mv F (Q.keepG (by decide))
 refine ⟨⟨B,Q.cg,Q.low,Q.out.mv F (Q.keepG (by decide)),.inr (Q.nodP.mv F (Q.keepG (by decide))),Q.ct.mv F (Q.keepG (by decide)),⟨?_,pb.co⟩,.inl rfl,.inr (Q.fseP.mv F (Q.keepG (by decide))),Q.gl.fm F n9,fun i hi=>(Q.er i hi).fm F (fun h=>by have:=n9 i h;omega),Q.mx,.inl Q.ccT⟩,Q.oP.fr F (fun b hb=>(Q.keepG (r:=2) (by decide)).out (Q.out2 b hb) (Q.oP.lt b hb)),Q.nodP.mv F (Q.keepG (by decide)),Q.fseP.mv F (Q.keepG (by decide)),Q.srcN,Q.tlP,⟨Q.sc.sym,Q.sc.l1,Q.sc.l256,Q.sc.cn,Q.sc.lt⟩,Q.ccT,Q.wl⟩
 obtain ⟨h1,h2,h3⟩:=pb.own
 exact ⟨Nat.zero_le _,h2,h3⟩
theorem HW.pt0 {w':World} (Q:HW w g s col) (F:Fm w w' [g]) (B:Blk w' g ({ s with pt:=⟨s.pt.a,0,s.pt.c⟩ } : HU).at):HW w' g { s with pt:=⟨s.pt.a,0,s.pt.c⟩ } col:=by
 have n9:∀v ∈ [g],7≤v:=by intro v hv;simp at hv;subst hv;exact Q.g9
 have pb:=Q.pt.mv F (Q.keepG (by decide))
 refine ⟨B,Q.cg,Q.low,Q.out.mv F (Q.keepG (by decide)),Q.nod.imp id (fun h=>h.mv F (Q.keepG (by decide))),Q.ct.mv F (Q.keepG (by decide)),⟨?_,pb.co⟩,.inl rfl,Q.fse.imp id (fun h=>h.mv F (Q.keepG (by decide))),Q.gl.fm F n9,fun i hi=>(Q.er i hi).fm F (fun h=>by have:=n9 i h;omega),Q.mx,Q.cz⟩
 obtain ⟨h1,h2,h3⟩:=pb.own
 exact ⟨Nat.zero_le _,h2,h3⟩
theorem rs_fall {R:Unit→PT} (hT:s.outT=⟨none,0,0⟩) (Q:HQ w g s col n cnt L pre) (k:KE w g s col xs Enc M0 ln0 L0 K3) (hk:s.reuse≠3→∀w' s' col',s'.outT=⟨none,0,0⟩→HQ w' g s' col' n cnt L pre→SK s s'→GoW w w' col col'→R () w') :
  (nz (some ⟨g,0,none⟩) fun (p272:Addr)=>ld (.I .u8) (Addr.add p272 263) fun (n273:Int)=>cnd (decide (n273=(3:Int))) (drw<|ld .V ⟨0,0,none⟩ fun (v274:Value)=>K3 (⟨none,0,0⟩,false,v274)) (nz (some ⟨g,0,none⟩) fun (p275:Addr)=>ld .S (Addr.add p275 270) fun (s276:Sl)=>slc 2 s276 none (some (0:Int)) none fun (s277:Sl)=>nz (some ⟨g,0,none⟩) fun (p278:Addr)=>st (Addr.add p278 270) (.slice s277.a s277.l s277.c)<|R ())) w:=by
 refine ⟨_,rfl,?_⟩
 simp only [add_mk,Nat.zero_add]
 refine ld_b (t := .I .u8) (x:=s.reuse) Q.blk rfl (cnd_d (fun h3 => ?_) (fun h3=>⟨_,rfl,?_⟩))
 ·exact err_hw (by decide) Q.hw (fun w2 v hv W2 G2=>k.e w2 _ col v hv (fun h=>absurd (h3.symm.trans h) (by decide)) W2 hT (SK.refl s) G2)
 ·simp only [add_mk,Nat.zero_add]
  refine ld_b (t := .S) (x:=s.pt) Q.blk rfl ?_
  refine slc_hi (m:=0) rfl (Nat.zero_le _) ⟨_,rfl,?_⟩
  simp only [add_mk,Nat.zero_add]
  refine st_u Q.blk rfl rfl ?_
  intro w1 B1 F1
  have B1':=B1.congr (HU.setT (s' := { s with pt:=⟨s.pt.a,0,s.pt.c⟩ }) 14 rfl rfl rfl (by decide))
  exact hk h3 w1 { s with pt:=⟨s.pt.a,0,s.pt.c⟩ } col hT (Q.pt0 F1 B1') ⟨rfl,rfl,rfl⟩ (Q.mvG F1).go
theorem rs_end1 {R:Unit→PT} (hT:s.outT=⟨none,0,0⟩) (T:TX w col s1 xs fc Enc) (Q:HQ w g s col n cnt L []) (k:KE w g s col xs Enc M0 ln0 L0 K3) (hr:s.reuse≠2) (hx:∀x∈xs,x<L0∧0<ln0 x) (hP:PTc w s.pt M0 ln0 L0) (h2:2≤xs.length)
  (hk:s.reuse≠3→∀w' s' col' pre,s'.outT=⟨none,0,0⟩→(pre = []∨(xs.length≤pre.length∧pre.length≤2^19))→HQ w' g s' col' n cnt L pre→SK s s'→GoW w w' col col'→R () w') :
  (nz (some ⟨g,0,none⟩) fun (p214:Addr)=>ld .S (Addr.add p214 271) fun (s215:Sl)=>nz (some ⟨g,0,none⟩) fun (p216:Addr)=>ld (.I .u8) (Addr.add p216 268) fun (n217:Int)=>nz (some ⟨g,0,none⟩) fun (p218:Addr)=>ld .S (Addr.add p218 270) fun (s219:Sl)=>nz (some ⟨g,0,none⟩) fun (p220:Addr)=>st (Addr.add p220 271) (.slice s219.a s219.l s219.c)<|nz (some ⟨g,0,none⟩) fun (p221:Addr)=>ld (.I .u8) (Addr.add p221 269) fun (n222:Int)=>nz (some ⟨g,0,none⟩) fun (p223:Addr)=>st (Addr.add p223 268) (.int .u8 n222)<|callV Tryz.prog (.func (.func fc) #[.pointer (some ⟨g,0,none⟩)] #[]) #[(.slice s1.a s1.l s1.c)] [.c .S,.c .V] fun (r224:Sl×Value)=>nz (some ⟨g,0,none⟩) fun (p225:Addr)=>st (Addr.add p225 256) (.slice r224.1.a r224.1.l r224.1.c)<|nz (some ⟨g,0,none⟩) fun (p226:Addr)=>st (Addr.add p226 271) (.slice s215.a s215.l s215.c)<|nz (some ⟨g,0,none⟩) fun (p227:Addr)=>st (Addr.add p227 268) (.int .u8 n217)<|req (isIf r224.2=true)<|cnd (isNil r224.2) (nz (some ⟨g,0,none⟩) fun (p228:Addr)=>ld .S (Addr.add p228 256) fun (s229:Sl)=>cnd (decide ((s229.l:Int)<((xs.length:Nat):Int))) (nz (some ⟨g,0,none⟩) fun (p230:Addr)=>ld .S (Addr.add p230 256) fun (s231:Sl)=>nz (some ⟨g,0,none⟩) fun (p232:Addr)=>st (Addr.add p232 258) (.slice s231.a s231.l s231.c)<|nz (some ⟨g,0,none⟩) fun (p233:Addr)=>ld .S (Addr.add p233 256) fun (s234:Sl)=>K3 (s234,true,.nilIface)) (nz (some ⟨g,0,none⟩) fun (p235:Addr)=>ld (.I .u8) (Addr.add p235 263) fun (n236:Int)=>cnd (decide (n236=(3:Int))) (drw<|ld .V ⟨0,0,none⟩ fun (v237:Value)=>K3 (⟨none,0,0⟩,false,v237)) (nz (some ⟨g,0,none⟩) fun (p238:Addr)=>ld .S (Addr.add p238 270) fun (s239:Sl)=>slc 2 s239 none (some (0:Int)) none fun (s240:Sl)=>nz (some ⟨g,0,none⟩) fun (p241:Addr)=>st (Addr.add p241 270) (.slice s240.a s240.l s240.c)<|R ()))) (nz (some ⟨g,0,none⟩) fun (p242:Addr)=>ld (.I .u8) (Addr.add p242 263) fun (n243:Int)=>cnd (decide (n243=(3:Int))) (drw<|ld .V ⟨0,0,none⟩ fun (v244:Value)=>K3 (⟨none,0,0⟩,false,v244)) (nz (some ⟨g,0,none⟩) fun (p245:Addr)=>ld .S (Addr.add p245 270) fun (s246:Sl)=>slc 2 s246 none (some (0:Int)) none fun (s247:Sl)=>nz (some ⟨g,0,none⟩) fun (p248:Addr)=>st (Addr.add p248 270) (.slice s247.a s247.l s247.c)<|R ()))) w:=by
 refine rs_step (K:=fun r224=>req (isIf r224.2=true)<|cnd (isNil r224.2) (nz (some ⟨g,0,none⟩) fun (p228:Addr)=>ld .S (Addr.add p228 256) fun (s229:Sl)=>cnd (decide ((s229.l:Int)<((xs.length:Nat):Int))) (nz (some ⟨g,0,none⟩) fun (p230:Addr)=>ld .S (Addr.add p230 256) fun (s231:Sl)=>nz (some ⟨g,0,none⟩) fun (p232:Addr)=>st (Addr.add p232 258) (.slice s231.a s231.l s231.c)<|nz (some ⟨g,0,none⟩) fun (p233:Addr)=>ld .S (Addr.add p233 256) fun (s234:Sl)=>K3 (s234,true,.nilIface)) (nz (some ⟨g,0,none⟩) fun (p235:Addr)=>ld (.I .u8) (Addr.add p235 263) fun (n236:Int)=>cnd (decide (n236=(3:Int))) (drw<|ld .V ⟨0,0,none⟩ fun (v237:Value)=>K3 (⟨none,0,0⟩,false,v237)) (nz (some ⟨g,0,none⟩) fun (p238:Addr)=>ld .S (Addr.add p238 270) fun (s239:Sl)=>slc 2 s239 none (some (0:Int)) none fun (s240:Sl)=>nz (some ⟨g,0,none⟩) fun (p241:Addr)=>st (Addr.add p241 270) (.slice s240.a s240.l s240.c)<|R ()))) (nz (some ⟨g,0,none⟩) fun (p242:Addr)=>ld (.I .u8) (Addr.add p242 263) fun (n243:Int)=>cnd (decide (n243=(3:Int))) (drw<|ld .V ⟨0,0,none⟩ fun (v244:Value)=>K3 (⟨none,0,0⟩,false,v244)) (nz (some ⟨g,0,none⟩) fun (p245:Addr)=>ld .S (Addr.add p245 270) fun (s246:Sl)=>slc 2 s246 none (some (0:Int)) none fun (s247:Sl)=>nz (some ⟨g,0,none⟩) fun (p248:Addr)=>st (Addr.add p248 270) (.slice s247.a s247.l s247.c)<|R ()))) T.hC T.hfn Q hP hx T.src T.far h2 T.le (by simp) ?_ ?_
 ·intro _ w' s' col' v hv es Q' G' _ _
  subst es
  refine ⟨isPE.ifc hv.2,⟨fun h=>(by rw [isPE.nil hv.2] at h;cases h),fun _ => ?_⟩⟩
  refine rs_fall (s := { s with out:=⟨none,0,0⟩ }) hT Q' (k.go G' ⟨rfl,rfl,rfl⟩) ?_
  intro h3 w2 s2 col2 hT2 Q2 S2 G2
  exact hk h3 w2 s2 col2 [] hT2 (.inl rfl) Q2 ⟨S2.reuse,S2.wll,S2.tl⟩ (G'.trans G2)
 ·intro w' s' col' so ol hEn es Q' G' hP' _
  subst es
  have hol:so.l=ol.length:=Q'.oP.len
  have k':=k.go (s' := { s with out:=so }) G' ⟨rfl,rfl,rfl⟩
  refine ⟨rfl,⟨fun _=>⟨_,rfl,?_⟩,fun h=>by cases h⟩⟩
  simp only [add_mk,Nat.zero_add]
  refine ld_b (t := .S) (x:=so) Q'.blk rfl (cnd_d (fun hlt => ?_) (fun hge => ?_))
  ·exact rs_take (s := { s with out:=so }) (so:=so) (x25:=0) (ol:=ol) hT Q' k' hr hEn hx hP' rfl (by omega)
  ·refine rs_fall (s := { s with out:=so }) hT Q' k' ?_
   intro h3 w2 s2 col2 hT2 Q2 S2 G2
   refine hk h3 w2 s2 col2 ol hT2 (.inr ⟨by omega,?_⟩) Q2 ⟨S2.reuse,S2.wll,S2.tl⟩ (G'.trans G2)
   refine T.hE _ _ _ _ hEn ?_ T.le
   intro x hx'
   obtain ⟨_,_,_,cnt',_,_,_,_,HTc,_⟩:=hP
   have h1:=HTc.le x (hx x hx').1
   have h2:=HTc.m11
   omega
theorem j88_X9 {x19:Int×Bool} (hcn:CntOK xs) (hX3:s.reuse=3→x19.2=true) (hT:s.outT=⟨none,0,0⟩) (T:TX w col s1 xs fc Enc) (Q:HQ w g s col xs.length (fun i=>xs.count i) L []) (k:KE w g s col xs Enc M0 ln0 L0 K3) (hl:2≤L∧(∀i,L≤i→xs.count i=0)∧0<xs.count (L-1)∧∃a,a<L-1∧0<xs.count a) (h2:2≤xs.length)
  (hb:x19.2=true→s.reuse≠2∧(∀x∈xs,x<L0∧0<ln0 x)∧PTc w s.pt M0 ln0 L0) :
  q88_X9 s1 (some ⟨g,0,none⟩) (.func (.func fc) #[.pointer (some ⟨g,0,none⟩)] #[]) K3 x19 (xs.length:Nat) (q88_J8 s1 (some ⟨g,0,none⟩) (.func (.func fc) #[.pointer (some ⟨g,0,none⟩)] #[]) K3 x19 (xs.length:Nat)) w:=by
 have plain:s.reuse≠3→q88_J8 s1 (some ⟨g,0,none⟩) (.func (.func fc) #[.pointer (some ⟨g,0,none⟩)] #[]) K3 x19 (xs.length:Nat) () w:=fun hr3=>j88_J8 hcn (fun _=>rfl) hr3 hT T Q k hl h2 (.inl rfl) (fun _ h=>(hb h).2)
 have again:s.reuse≠0→s.reuse≠2→s.reuse≠3→∀w' s' col' pre,s'.outT=⟨none,0,0⟩→(pre = []∨(xs.length≤pre.length∧pre.length≤2^19))→HQ w' g s' col' xs.length (fun i=>xs.count i) L pre→SK s s'→GoW w w' col col'→q88_J8 s1 (some ⟨g,0,none⟩) (.func (.func fc) #[.pointer (some ⟨g,0,none⟩)] #[]) K3 x19 (xs.length:Nat) () w':=by
  intro h0 h02 hr3 w' s' col' pre hT' hpre Q' S' G'
  exact j88_J8 hcn (fun h=>absurd (S'.reuse.symm.trans h) h02) (by rw [S'.reuse];exact hr3) hT' (T.go G') Q' (k.go G' S') hl h2 (hpre.imp id (fun h=>⟨by rw [S'.reuse];exact h0,h.1,h.2⟩)) (fun h _=>absurd (S'.reuse▸h) h0)
 unfold q88_X9
 refine ⟨_,rfl,?_⟩
 simp only [add_mk,Nat.zero_add]
 refine ld_b (t := .I .u8) (x:=s.reuse) Q.blk rfl (cnd_d (fun h1=>⟨fun hbt => ?_,fun _=>plain (by rw [h1];decide)⟩) (fun _=>⟨_,rfl,?_⟩))
 ·obtain ⟨hr,hx,hP⟩:=hb hbt
  exact rs_end1 hT T Q k hr hx hP h2 (again (by rw [h1];decide) (by rw [h1];decide))
 ·simp only [add_mk,Nat.zero_add]
  refine ld_b (t := .I .u8) (x:=s.reuse) Q.blk rfl (cnd_d (fun h3=>⟨fun hbt => ?_,fun hbf=>absurd (hX3 h3) (by rw [hbf];decide)⟩) (fun h3=>plain h3))
  obtain ⟨hr,hx,hP⟩:=hb hbt
  exact rs_end1 hT T Q k hr hx hP h2 (again (by rw [h3];decide) (by rw [h3];decide))
theorem c88 (T:TX w col s1 xs fc Enc) (W:HP w g s col xs.length) (hp:s.pt.l=0∨PTc w s.pt M0 ln0 L0) (hwl:s.wll=0) (k:KE w g s col xs Enc M0 ln0 L0 K3) :
  callP Tryz.prog 33 #[.slice s1.a s1.l s1.c,.pointer (some ⟨g,0,none⟩),.func (.func fc) #[.pointer (some ⟨g,0,none⟩)] #[]] [.c .S,.c .B,.c .V] K3 w:=by
 apply q88_ok
 unfold q88
 refine joinP_id ?_
 have body:∀(w1:World) (sA:HU),HP w1 g sA col xs.length→SK s sA→GoW w w1 col col→(sA.pt.l=0∨(s.reuse≠2∧PTc w1 sA.pt M0 ln0 L0))→q88_J12 s1 (some ⟨g,0,none⟩) (.func (.func fc) #[.pointer (some ⟨g,0,none⟩)] #[]) K3 () w1:=by
  intro w1 sA W1 S1 G1 hp1
  have T1:=T.go G1
  have k1:=k.go G1 S1
  have hsl:=T1.src.len
  have hle:=T1.le
  unfold q88_J12
  refine ⟨_,rfl,?_⟩
  simp only [add_mk,Nat.zero_add]
  refine ld_b (t := .I .i64) (x:=sA.maxC) W1.blk rfl ?_
  refine joinP_id ?_
  refine cnd_d (fun _ => ?_) (fun h=>absurd W1.mx h)
  have go:∀(w2:World) (sB:HU) (m:Nat) (b:Bool),Fm w1 w2 [g]→Blk w2 g sB.at→sB.wll=0 →
    (∀w3,Fm w1 w3 [g]→Blk w3 g ({ sB with cc:=true,maxC:=0 } : HU).at→(cnd (decide (((s1.l:Nat):Int)≤((m:Nat):Int))) (cnd (decide (((s1.l:Nat):Int)<((m:Nat):Int))) (callP Tryz.prog 20 #[(.string ⟨#[109,97,120,67,111,117,110,116,32,62,32,108,101,110,103,116,104]⟩)] [.c .V] fun (r28:Value)=>K3 (⟨none,0,0⟩,false,r28)) (cnd (decide (((s1.l:Nat):Int)=(1:Int))) (drw<|ld .V ⟨0,0,none⟩ fun (v29:Value)=>K3 (⟨none,0,0⟩,false,v29)) (drw<|ld .V ⟨1,0,none⟩ fun (v30:Value)=>K3 (⟨none,0,0⟩,false,v30)))) (cnd (decide (((m:Nat):Int)=(1:Int))) (drw<|ld .V ⟨0,0,none⟩ fun (v31:Value)=>K3 (⟨none,0,0⟩,false,v31)) (req (0≤(7:Int))<|cnd (decide (((m:Nat):Int)<(shrI .i64 ((s1.l:Nat):Int) (7:Int)))) (drw<|ld .V ⟨0,0,none⟩ fun (v32:Value)=>K3 (⟨none,0,0⟩,false,v32)) (nz (some ⟨g,0,none⟩) fun (p33:Addr)=>ld (.I .u8) (Addr.add p33 263) fun (n34:Int)=>cnd (decide (n34=(3:Int))) (cnd (!b) (drw<|ld .V ⟨0,0,none⟩ fun (v35:Value)=>K3 (⟨none,0,0⟩,false,v35)) (joinP (q88_X4 s1 (some ⟨g,0,none⟩) (.func (.func fc) #[.pointer (some ⟨g,0,none⟩)] #[]) K3 (((m:Nat):Int),b) ((s1.l:Nat):Int)) (q88_J3 s1 (some ⟨g,0,none⟩) (.func (.func fc) #[.pointer (some ⟨g,0,none⟩)] #[]) K3 (((m:Nat):Int),b) ((s1.l:Nat):Int)))) (joinP (q88_X9 s1 (some ⟨g,0,none⟩) (.func (.func fc) #[.pointer (some ⟨g,0,none⟩)] #[]) K3 (((m:Nat):Int),b) ((s1.l:Nat):Int)) (q88_J8 s1 (some ⟨g,0,none⟩) (.func (.func fc) #[.pointer (some ⟨g,0,none⟩)] #[]) K3 (((m:Nat):Int),b) ((s1.l:Nat):Int))))))) w3) →
    q88_J11 s1 (some ⟨g,0,none⟩) (.func (.func fc) #[.pointer (some ⟨g,0,none⟩)] #[]) K3 (((m:Nat):Int),b) w2:=by
   intro w2 sB m b F2 B2 hwlB h
   unfold q88_J11
   refine joinP_id ⟨_,rfl,?_⟩
   simp only [add_mk,Nat.zero_add]
   refine ld_b (t := .I .u8) (x:=sB.wll) B2 rfl (cnd_d (fun h0=>absurd h0 (by rw [hwlB];decide)) (fun _ => ?_))
   unfold q88_J10
   refine ⟨_,rfl,?_⟩
   simp only [add_mk,Nat.zero_add]
   refine st_u B2 rfl rfl ?_
   intro w3 B3 F3
   have B3':=B3.congr (HU.setT (s' := { sB with cc:=true }) 11 rfl rfl rfl (by decide))
   refine ⟨_,rfl,?_⟩
   simp only [add_mk,Nat.zero_add]
   refine st_u B3' rfl rfl ?_
   intro w4 B4 F4
   have B4':=B4.congr (HU.setT (s' := { sB with cc:=true,maxC:=0 }) 10 rfl rfl rfl (by decide))
   exact h w4 ((F2.trans F3 (fun x hx => .inl hx)).trans F4 (fun x hx => .inl hx)) B4'
  have hown:∀v ∈ [g],v<w1.heap.size→own (col v):=by intro v hv _;simp at hv;subst hv;rw [W1.cg];exact ⟨by decide,by decide⟩
  refine c117p W1.toHW W1.cnt0 T1.src T1.by_ (by omega) T1.far ?_ ?_
  ·-- no bytes
   intro hxe w2 c' b B2 F2
   refine go w2 _ 0 b F2 B2 (S1.wll.trans hwl) ?_
   intro w3 F3 B3
   have h0:s1.l=0:=by rw [hsl,hxe];rfl
   rw [h0]
   have W3:=W1.toHW.same (s' := { sA with count:=c',cc:=true,maxC:=0 }) B3 F3 rfl rfl rfl rfl rfl rfl (.inl rfl)
   have k3:=k1.go (s' := { sA with count:=c',cc:=true,maxC:=0 }) (GoW.of F3 hown (fun _ _=>rfl)) ⟨rfl,rfl,rfl⟩
   refine cnd_d (fun _=>cnd_d (fun h=>absurd h (by decide)) (fun _=>cnd_d (fun h=>absurd h (by decide)) (fun _ => ?_))) (fun h=>absurd h (by decide))
   exact err_hw (by decide) W3 (fun w4 v hv W4 G4=>k3.e w4 _ col v hv (fun _ _ _ => .inl (fun h=>h.ne hxe)) W4 W1.oT0 (SK.refl _) G4)
  ·intro w2 c' b m Lx hxe hM hbt hbf hc B2 F2
   refine go w2 _ m b F2 B2 (S1.wll.trans hwl) ?_
   intro w3 F3 B3
   have W3:=W1.toHW.same (s' := { sA with count:=c',symL:=(Lx:Nat),cc:=true,maxC:=0 }) B3 F3 rfl rfl rfl rfl rfl rfl (.inl rfl)
   have G3:GoW w1 w3 col col:=GoW.of F3 hown (fun _ _=>rfl)
   have T3:=T1.go G3
   have k3:=k1.go (s' := { sA with count:=c',symL:=(Lx:Nat),cc:=true,maxC:=0 }) G3 ⟨rfl,rfl,rfl⟩
   have er:∀i,i<3→(sA.reuse=2→¬CntOK xs)→(drw<|ld .V ⟨i,0,none⟩ fun (v31:Value)=>K3 (⟨none,0,0⟩,false,v31)) w3:=fun i hi hno=>err_hw hi W3 (fun w4 v hv W4 G4=>k3.e w4 _ col v hv (fun h _ _ => .inl (hno h)) W4 W1.oT0 (SK.refl _) G4)
   have eshr:shrI .i64 ((xs.length:Nat):Int) (7:Int)=((xs.length/128:Nat):Int):=by
    rw [show (7:Int)=((7:Nat):Int) from rfl,shrI_nat _ _ _ (by simp only [IntKind.bits];omega)]
   rw [hsl,eshr]
   obtain ⟨ix,_,hix⟩:=hM.ex
   have hix:xs.count ix=m:=hix
   have hmle:xs.count ix≤xs.length:=List.count_le_length
   refine cnd_d (fun hge=>cnd_d (fun h=>by omega) (fun _=>cnd_d (fun _=>er 0 (by decide) (fun _ h=>by have:=(h.at hM).1;omega)) (fun _=>er 1 (by decide) (fun _ h=>by have:=(h.at hM).1;omega)))) (fun hlt => ?_)
   have hm:m<xs.length:=by omega
   have hmp:=hM.pos
   refine cnd_d (fun hm1=>er 0 (by decide) (fun _ h=>by have:=(h.at hM).2.1;omega)) (fun hm1=>⟨by decide,cnd_d (fun hm7=>er 0 (by decide) (fun _ h=>by have:=(h.at hM).2.2;omega)) (fun hm7=>⟨_,rfl,?_⟩)⟩)
   have hcn:CntOK xs:=⟨m,Lx,hM,hm,by omega,by omega⟩
   have hl:=mx_two hM T1.by_ hm
   have h2:2≤xs.length:=by omega
   have Q3:HQ w3 g ({ sA with count:=c',symL:=(Lx:Nat),cc:=true,maxC:=0 } : HU) col xs.length (fun i=>xs.count i) Lx []:=by
    refine ⟨W3,W1.o0.fr F3 (fun b hb=>(W1.toHW.keepG (r:=2) (by decide)).out (W1.out.co b hb) (W1.o0.lt b hb)),W1.nodP.mv F3 (W1.toHW.keepG (by decide)),W1.fseP.mv F3 (W1.toHW.keepG (by decide)),W1.srcN,W1.tlP,⟨rfl,hM.l1,hM.l256,fun i hi=>hc i (by have:=hM.l256;omega),fun i hi => ?_⟩,rfl,S1.wll.trans hwl⟩
    have h1:xs.count i≤m:=hM.le i (by have:=hM.l256;omega)
    show xs.count i<2^18
    omega
   have hP3:∀M1 ln1 L1,PTc w1 sA.pt M1 ln1 L1→PTc w3 sA.pt M1 ln1 L1:=fun M1 ln1 L1 h=>h.mv F3 (fun v hv=>(W1.toHW.keepG (r:=5) (by decide)).out (W1.pt.co v hv) (W1.pt.own.lt v hv))
   have hb3:b=true→s.reuse≠2∧(∀x∈xs,x<L0∧0<ln0 x)∧PTc w3 sA.pt M0 ln0 L0:=by
    intro hb
    obtain ⟨h1,h3⟩:=hbt hb
    rcases hp1 with h4|⟨h4,h5⟩
    ·omega
    ·exact ⟨h4,h3 _ _ _ h5,hP3 _ _ _ h5⟩
   have hX:=fun (hX3:sA.reuse=3→b=true)=>j88_X9 (s := { sA with count:=c',symL:=((Lx:Nat):Int),cc:=true,maxC:=0 }) (x19:=(((m:Nat):Int),b)) hcn hX3 W1.oT0 T3 Q3 k3 hl h2 (fun hb=>by
    obtain ⟨h1,h3,h4⟩:=hb3 hb
    exact ⟨fun e=>h1 (S1.reuse▸e),h3,h4⟩)
   simp only [add_mk,Nat.zero_add]
   refine ld_b (t := .I .u8) (x:=sA.reuse) Q3.blk rfl (cnd_d (fun h33=>⟨fun _=>er 0 (by decide) (fun h=>absurd (h33.symm.trans h) (by decide)),fun hbt => ?_⟩) (fun h3=>joinP_id (hX (fun e=>absurd e h3))))
   exact joinP_id (hX (fun _=>by simpa using hbt))
 refine ⟨_,rfl,?_⟩
 simp only [add_mk,Nat.zero_add]
 refine ld_b (t := .I .u8) (x:=s.reuse) W.blk rfl (cnd_d (fun h2=>⟨_,rfl,?_⟩) (fun h2 => ?_))
 ·simp only [add_mk,Nat.zero_add]
  refine ld_b (t := .S) (x:=s.pt) W.blk rfl ?_
  refine slc_hi (m:=0) rfl (Nat.zero_le _) ⟨_,rfl,?_⟩
  simp only [add_mk,Nat.zero_add]
  refine st_u W.blk rfl rfl ?_
  intro w1 B1 F1
  have B1':=B1.congr (HU.setT (s' := { s with pt:=⟨s.pt.a,0,s.pt.c⟩ }) 14 rfl rfl rfl (by decide))
  have W1:=W.toHW.pt0 F1 B1'
  have kg:=fun r (hr:r≠1)=>W.toHW.keepG (r:=r) hr
  refine body w1 _ ⟨W1,W.o0.fr F1 (fun b hb=>(kg 2 (by decide)).out (W.out.co b hb) (W.o0.lt b hb)),W.oT0,W.nodP.mv F1 (kg 3 (by decide)),W.fseP.mv F1 (kg 6 (by decide)),W.cnt0,W.cc0,W.srcN,W.tlP⟩ ⟨rfl,rfl,rfl⟩ ?_ (.inl rfl)
  exact GoW.of F1 (by intro v hv _;simp at hv;subst hv;rw [W.cg];exact ⟨by decide,by decide⟩) (fun _ _=>rfl)
 ·exact body w s W (SK.refl s) (GoW.refl w col) (hp.imp id (fun h=>⟨h2,h⟩))
end
theorem c47 {w:World} {s0:Sl} {xs:List Nat} {K:Sl→PT} (A:Arr .u8 w s0 xs) (hxs:xs.length≤2^40) (hk:∀w' s',VecU w' s' xs→Fm w w' []→(∀b∈s'.bs,w.heap.size≤b)→K s' w') :
  callP Tryz.prog 14 #[.slice s0.a s0.l s0.c] [.c .S] K w:=by
 apply q47_ok
 unfold q47 nw
 have F1:Fm w (w.alloc (.cells ⟨[]⟩ 5)) []:=(Fm.refl w []).alloc
 have B1:Blk (w.alloc (.cells ⟨[]⟩ 5)) w.heap.size fun i=>(⟨[]⟩:Array Value)[i]? := Blk.new
 have V1:VecU (w.alloc (.cells ⟨[]⟩ 5)) ⟨some ⟨w.heap.size,0,none⟩,0,0⟩ []:=by
  refine ⟨⟨rfl,Nat.le_refl _,fun _=>rfl,?_⟩,?_,show (0:Nat)<2^63 by decide⟩
  ·intro a ha
   injection ha with ha
   subst ha
   exact ⟨rfl,rfl,_,B1,by simp [bytes],by simp⟩
  ·intro a ha i hi
   exact absurd hi (Nat.not_lt_zero _)
 have A1:=A.fr F1 (by simp)
 refine app_vu (xs:=xs) V1 A1.has (by rw [A.len];simp only;omega) ?_
 intro s' w' h1 h2 h3
 rw [List.nil_append] at h1
 have F2:Fm w w' []:=F1.trans h2 (by intro b hb;right;simp [Sl.bs] at hb;omega)
 refine hk w' s' h1 F2 ?_
 intro b hb
 rcases h3 b hb with h|h
 ·simp [Sl.bs] at h;omega
 ·rw [World.size_alloc] at h;omega
structure GE (w:World):Prop where
 gl:GL w
 ob:∀i,i<3→∃a c T,w.cell? ⟨i,0,none⟩=some (.iface 85 (.pointer (some a)))∧w.heap[a.block]? = some (.cells c T (0,0))
theorem GE.er {w:World} (G:GE w) {i:Nat} (hi:i<3):errAt w i:=by
 obtain ⟨a,c,T,h1,_⟩:=G.ob i hi
 exact ⟨_,h1,rfl,rfl⟩
theorem GE.fm {w w':World} (G:GE w) (F:Fm w w' []):GE w':=by
 refine ⟨G.gl.fm F (by simp),?_⟩
 intro i hi
 obtain ⟨a,c,T,h1,h2⟩:=G.ob i hi
 have hl:a.block<w.heap.size:=Classical.byContradiction fun h=>by rw [Array.getElem?_eq_none (by omega)] at h2;cases h2
 refine ⟨a,c,T,?_,by rw [F.old _ hl (by simp)];exact h2⟩
 rw [←h1]
 exact cell?_of_heap (F.old _ (World.block_lt_of_cell? _ _ h1) (by simp)) _ _
theorem und68:(match Tryz.prog.underlying 38 with|some (.interface _)=>true|_=>false)=true:=by kernel_rfl
theorem und160:(match Tryz.prog.underlying 85,Tryz.prog.info? 85 with|some (.pointer te),some i=>i.comparable&&(match Tryz.prog.info? te with|some j=>j.size != 0|none=>false)|_,_=>false)=true:=by kernel_rfl
theorem eq_pe {w:World} {a b:Addr} {ca cb:Array Value} {ta tb:TypeId} {κ:Bool→PT} (ha:w.heap[a.block]? = some (.cells ca ta (0,0))) (hb:w.heap[b.block]? = some (.cells cb tb (0,0))) (hk:∀r:Bool,(a=b→r=true)→κ r w) :
  eqE Cx 38 (.iface 85 (.pointer (some a))) (.iface 85 (.pointer (some b))) κ w:=by
 obtain ⟨ms,hi⟩:∃ms,Tryz.prog.underlying 38=some (.interface ms):=by
  have h:=und68
  split at h
  ·rename_i ms e;exact ⟨ms,e⟩
  ·cases h
 obtain ⟨te,i,j,hp,hinfo,hcomp,hte,hsz⟩:∃te i j,Tryz.prog.underlying 85=some (.pointer te)∧Tryz.prog.info? 85=some i∧i.comparable=true∧Tryz.prog.info? te=some j∧j.size≠0:=by
  have h:=und160
  split at h
  ·rename_i te i e1 e2
   rw [Bool.and_eq_true] at h
   obtain ⟨h1,h2⟩:=h
   split at h2
   ·rename_i j e3
    exact ⟨te,i,j,e1,e2,h1,e3,by simpa using h2⟩
   ·cases h2
  ·cases h
 unfold eqE
 by_cases e:a=b
 ·subst e
  refine ⟨true,?_,hk _ (fun _=>rfl)⟩
  have:=run_eql_iface_ptr_same (P:=Tryz.prog) w a hi hp hinfo hcomp hte
  simpa [eqGuard,show Cx.P=Tryz.prog from rfl] using this
 ·refine ⟨false,?_,hk _ (fun h=>absurd h e)⟩
  have:=run_eql_iface_ptr_other (P:=Tryz.prog) w hi hp hinfo hcomp hte hsz e ha hb
  simpa [eqGuard,show Cx.P=Tryz.prog from rfl] using this
theorem c51 {w:World} {v:Value} {K:Int→PT} (G:GE w) (h:ER w v) (hk:∀k:Int,1≤k→k≤4→(w.cell? ⟨0,0,none⟩=some v→k=1)→K k w):callP Tryz.prog 12 #[v] [.c (.I .i64)] K w:=by
 obtain ⟨a,c,T,rfl,ha⟩:∃a c T,v = .iface 85 (.pointer (some a))∧w.heap[a.block]? = some (.cells c T (0,0)):=by
  rcases h with ⟨⟨i,hi,h1⟩,_⟩|h
  ·obtain ⟨a,c,T,h2,h3⟩:=G.ob i hi
   rw [h2] at h1
   injection h1 with h1
   exact ⟨a,c,T,h1.symm,h3⟩
  ·exact h
 obtain ⟨a0,c0,T0,h00,h01⟩:=G.ob 0 (by decide)
 obtain ⟨a1,c1,T1,h10,h11⟩:=G.ob 1 (by decide)
 obtain ⟨a2,c2,T2,h20,h21⟩:=G.ob 2 (by decide)
 have key:∀ {r:Bool},(a=a0→r=true)→r=false→w.cell? ⟨0,0,none⟩=some (.iface 85 (.pointer (some a)))→∀k:Int,k=1:=by
  intro r h1 h2 h3 k
  rw [h00] at h3
  injection h3 with h3
  injection h3 with _ h3
  injection h3 with h3
  injection h3 with h3
  rw [h1 h3.symm] at h2
  cases h2
 apply q51_ok
 unfold q51
 refine ⟨rfl,fun h=>by simp [isNil] at h,fun _ => ?_⟩
 refine ld_c (t := .V) (x := .iface 85 (.pointer (some a0))) h00 ?_
 refine eq_pe ha h01 (fun r hr=>⟨fun _=>hk 1 (by decide) (by decide) (fun _=>rfl),fun hr0 => ?_⟩)
 refine ld_c (t := .V) (x := .iface 85 (.pointer (some a1))) h10 ?_
 refine eq_pe ha h11 (fun r _=>⟨fun _=>hk 2 (by decide) (by decide) (fun h=>key hr hr0 h 2),fun _ => ?_⟩)
 refine ld_c (t := .V) (x := .iface 85 (.pointer (some a2))) h20 ?_
 exact eq_pe ha h21 (fun r _=>⟨fun _=>hk 3 (by decide) (by decide) (fun h=>key hr hr0 h 3),fun _=>hk 4 (by decide) (by decide) (fun h=>key hr hr0 h 4)⟩)
def EncB (b:Bool):(Nat→Nat)→(Nat→Nat)→List Nat→List Nat→Prop:=fun cd ln xs ol=>if b then Enc4 cd ln xs ol else EncT cd ln xs ol
theorem encB_t:EncB true=Enc4:=by unfold EncB;funext a b c d;simp
theorem encB_f:EncB false=EncT:=by unfold EncB;funext a b c d;simp
theorem hf89:hasFn Tryz.prog 34=true:=by kernel_rfl
theorem hf90:hasFn Tryz.prog 35=true:=by kernel_rfl
structure SX (s s':HU):Prop where
 reuse:s'.reuse=s.reuse
 wll:s'.wll=s.wll
 tl:s'.tl=s.tl∨(s.tl=0∧s'.tl=11)
section
variable {w:World} {g M0 L0 t:Nat} {s:HU} {s1:Sl} {xs:List Nat} {col:Nat→Nat} {ln0:Nat→Nat} {K3:Sl×Bool×Value→PT}
def tlE (t:Nat):Nat:=if t=0 then 11 else t
structure KP (w:World) (g:Nat) (s:HU) (col:Nat→Nat) (xs:List Nat) (b:Bool) (M0:Nat) (ln0:Nat→Nat) (L0:Nat) (K3:Sl×Bool×Value→PT):Prop where
 e:∀w' s' col' v,ER w' v→(s.tl=0∨(5≤s.tl∧s.tl≤11)→EG w' v)→(s.reuse=2→xs.length≤262143→∀t9:Nat,s.tl=(t9:Nat)→(t9=0∨(5≤t9∧t9≤11))→Bad xs (tlE t9) (EncB b))→HW w' g s' col'→(s'.outT=⟨none,0,0⟩∨(s'.outT=s.outT∧Fm w w' [g]∧col'=col))→SX s s'→GoW w w' col col'→K3 (⟨none,0,0⟩,false,v) w'
 r:∀w' s' col' so ol,s.reuse≠2→EncB b (vC ln0 L0 M0) ln0 xs ol→(∀x∈xs,x<L0∧0<ln0 x)→ol.length<xs.length→s'.out=so→VecU w' so ol→HW w' g s' col'→PTc w' s'.pt M0 ln0 L0→s'.outT=⟨none,0,0⟩→SX s s'→GoW w w' col col'→K3 (so,true,.nilIface) w'
 t:∀w' s' col' so M ln L tbl ol,s.reuse≠3→CntOK xs→TL (wtL M ln L) L tbl.length→(∀t9:Nat,s.tl=(t9:Nat)→LenR (fun i=>xs.count i) L xs.length (tlE t9) M ln)→NT xs M ln L→By tbl→weightsZ tbl=some (wtL M ln L,tbl.length)→EncB b (vC ln L M) ln xs ol→tbl.length+ol.length<xs.length→s'.out=so→VecU w' so (tbl++ol)→Arr .u8 w' s'.outT tbl→Arr .u8 w' s'.outD ol→(∀a,s'.outT.a=some a→col' a.block=2)→HW w' g s' col'→PTc w' s'.pt M ln L→SX s s'→GoW w w' col col'→K3 (so,false,.nilIface) w'
theorem c61w {K:Option Addr×Value→PT} (W:HW w g s col) (ht:s.tl=(t:Nat)) (ht2:t<256) (hsrc:Arr .u8 w s1 xs)
  (hk0:(262143<xs.length∨¬(s.tl=0∨(5≤s.tl∧s.tl≤11)))→∀w' s' v,ER w' v→(s.tl=0∨(5≤s.tl∧s.tl≤11)→EG w' v)→HW w' g s' col→s'.outT=s.outT→Fm w w' [g]→SX s s'→GoW w w' col col→K (none,v) w')
  (hk:xs.length≤262143→∀w' s' col',HP w' g s' col' xs.length→SR s s'→GoW w w' col col'→Fm w w' [g]→K (some ⟨g,0,none⟩,.nilIface) w') :
  callP Tryz.prog 21 #[.pointer (some ⟨g,0,none⟩),.slice s1.a s1.l s1.c] [.c .P,.c .V] K w:=by
 have hown:∀v ∈ [g],v<w.heap.size→own (col v):=by intro v hv _;simp at hv;subst hv;rw [W.cg];exact ⟨by decide,by decide⟩
 refine c61 W ht ht2 ?_ ?_
 ·intro hno w' s' v hv hv2 W' R eT F
  rw [hsrc.len] at hno
  exact hk0 hno w' s' v hv hv2 W' eT F ⟨R.reuse,R.wll,R.tl⟩ (GoW.of F hown (fun _ _=>rfl))
 ·intro hl w' s' col' P R hc F
  rw [hsrc.len] at hl P
  exact hk hl w' s' col' P R (GoW.of F hown hc) F
theorem comp_run {fc:FuncId} {b:Bool} (hC:CompOK fc (EncB b) (EncB b≠EncT)) (hfn:hasFn Tryz.prog fc=true) (hE:EncLe (EncB b)) (W:HW w g s col) (hwl:s.wll=0) (hsrc:Arr .u8 w s1 xs) (hby:By xs) (hle:xs.length≤2^18) (far:∀a,s1.a=some a→xs ≠ []→¬own (col a.block)) (hp:s.pt.l=0∨PTc w s.pt M0 ln0 L0) (k:KP w g s col xs b M0 ln0 L0 K3)
  {w':World} {s':HU} {col':Nat→Nat} (P:HP w' g s' col' xs.length) (R:SR s s') (G:GoW w w' col col') (F:Fm w w' [g]) :
  callP Tryz.prog 33 #[.slice s1.a s1.l s1.c,.pointer (some ⟨g,0,none⟩),.func (.func fc) #[.pointer (some ⟨g,0,none⟩)] #[]] [.c .S,.c .B,.c .V] K3 w':=by
 have tr:∀ {s2:HU},SK s' s2→SX s s2:=fun h=>⟨h.reuse.trans R.reuse,h.wll.trans R.wll,by rw [h.tl];exact R.tl⟩
 have htl:∀t9:Nat,s.tl=(t9:Nat)→s'.tl=((tlE t9:Nat):Int):=by
  intro t9 ht9
  obtain ⟨t8,h81,h82,h83⟩:=P.tlP
  unfold tlE
  rcases R.tl with h|⟨h,h'⟩
  ·rw [if_neg (by omega)];omega
  ·rw [if_pos (by omega)];exact h'
 have kg:=W.keepG (r:=5) (by decide)
 refine c88 (M0:=M0) (ln0:=ln0) (L0:=L0) (Enc:=EncB b) ⟨hC,hfn,hE,G.arr hsrc far,hby,G.far hsrc far,hle⟩ P ?_ (R.wll.trans hwl) ⟨?_,?_,?_⟩
 ·rw [R.pt]
  exact hp.imp id (fun h=>h.mv F (fun v hv=>kg.out (W.pt.co v hv) (W.pt.own.lt v hv)))
 ·intro w2 s2 col2 v h1 hB h2 hT h3 h4
  exact k.e w2 s2 col2 v (.inl h1) (fun _=>h1) (fun hr _ t9 ht9 _=>hB (R.reuse.trans hr) (tlE t9) (htl t9 ht9)) h2 (.inl hT) (tr h3) (G.trans h4)
 ·intro w2 s2 col2 so ol h1 h2 h3 h4 h5 h6 h7 h8 hT h9 h10
  exact k.r w2 s2 col2 so ol (by rw [←R.reuse];exact h1) h2 h3 h4 h5 h6 h7 h8 hT (tr h9) (G.trans h10)
 ·intro w2 s2 col2 so M ln L tbl ol hr3 hcn hTL hl h1 h2 h3 h4 h5 h6 h7 h8 h9 hc h10 h11 h12 h13
  have hl':∀t9:Nat,s.tl=(t9:Nat)→LenR (fun i=>xs.count i) L xs.length (tlE t9) M ln:=by
   intro t9 ht9
   exact hl (tlE t9) (htl t9 ht9)
  exact k.t w2 s2 col2 so M ln L tbl ol (by rw [←R.reuse];exact hr3) hcn hTL hl' h1 h2 h3 h4 h5 h6 h7 h8 h9 hc h10 h11 (tr h12) (G.trans h13)
theorem c50 {b:Bool} (W:HW w g s col) (ht:s.tl=(t:Nat)) (ht2:t<256) (hwl:s.wll=0) (hsrc:Arr .u8 w s1 xs) (hby:By xs) (hle:xs.length≤2^18) (far:∀a,s1.a=some a→xs ≠ []→¬own (col a.block)) (hp:s.pt.l=0∨PTc w s.pt M0 ln0 L0) (k:KP w g s col xs b M0 ln0 L0 K3) :
  callP Tryz.prog 15 #[.slice s1.a s1.l s1.c,.pointer (some ⟨g,0,none⟩),.bool b] [.c .S,.c .B,.c .V] K3 w:=by
 apply q50_ok
 unfold q50
 cases b with
 | true =>
  refine ⟨fun _ => ?_,fun h=>by cases h⟩
  apply q70_ok
  unfold q70
  refine c61w W ht ht2 hsrc ?_ ?_
  ·intro hno w' s' v hv hv2 W' eT FT S' G'
   exact ⟨isPE.ifc hv.pe,err_cnd (isPE.nil hv.pe) (k.e w' s' col v hv hv2 (fun _ hl9 t9 ht9 htt=>by
    rcases hno with h|h
    ·omega
    ·exact absurd (by omega) h) W' (.inr ⟨eT,FT,rfl⟩) S' G')⟩
  ·intro hl w' s' col' P R G F
   refine ⟨rfl,nil_cnd ?_⟩
   refine comp_run (b:=true) (by rw [encB_t];exact comp89.of enc4_ne) hf89 (by rw [encB_t];exact encLe89) W hwl hsrc hby hle far hp ⟨k.e,k.r,k.t⟩ P R G F
 | false =>
  refine ⟨(fun h=>by cases h),fun _ => ?_⟩
  apply q71_ok
  unfold q71
  refine c61w W ht ht2 hsrc ?_ ?_
  ·intro hno w' s' v hv hv2 W' eT FT S' G'
   exact ⟨isPE.ifc hv.pe,err_cnd (isPE.nil hv.pe) (k.e w' s' col v hv hv2 (fun _ hl9 t9 ht9 htt=>by
    rcases hno with h|h
    ·omega
    ·exact absurd (by omega) h) W' (.inr ⟨eT,FT,rfl⟩) S' G')⟩
  ·intro hl w' s' col' P R G F
   refine ⟨rfl,nil_cnd ?_⟩
   refine comp_run (b:=false) (by rw [encB_f];exact comp90) hf90 (by rw [encB_f];exact encLe90) W hwl hsrc hby hle far hp ⟨k.e,k.r,k.t⟩ P R G F
end
def colF (g:Nat):Nat→Nat:=fun v=>if v<7 then 0 else if v=g then 1 else 7
theorem HW.fresh {w w1:World} {s:HU} (G:GE w) (F:Fm w w1 []) (B:Blk w1 w.heap.size s.at) (h1:s.out=⟨none,0,0⟩) (h2:s.nodes=⟨none,0,0⟩) (h3:s.ct=⟨none,0,0⟩) (h4:s.pt=⟨none,0,0⟩) (h5:s.fse=none) (h6:s.maxC=0) (h7:∀i,i<256→s.count i=0):HW w1 w.heap.size s (colF w.heap.size):=by
 have h9:=G.gl.size
 have G1:=G.fm F
 refine ⟨B,?_,?_,?_,.inl ?_,?_,?_,.inl ?_,.inl h5,G1.gl,fun i hi=>G1.er hi,h6,.inr h7⟩
 ·unfold colF;rw [if_neg (by omega),if_pos rfl]
 ·intro v hv;unfold colF;rw [if_pos hv]
 ·rw [h1];exact ⟨⟨[],VecU.nil⟩,by simp [Sl.bs]⟩
 ·rw [h2];decide
 ·rw [h3];exact ⟨Own.none,by simp [Sl.bs]⟩
 ·rw [h4];exact ⟨Own.none,by simp [Sl.bs]⟩
 ·rw [h4]
theorem colF_far {g v:Nat} (h:v≠g):¬own (colF g v):=by
 unfold colF own
 by_cases hv:v<7
 ·rw [if_pos hv];omega
 ·rw [if_neg hv,if_neg h];omega
theorem colF_own {g v:Nat} (h:own (colF g v)):v=g:=Classical.byContradiction fun h1=>colF_far h1 h
section
variable {w:World}
theorem c25 {k:Int} {K:Bool→PT} (h1:0≤k) (h2:k≤4) (hk:K true w):callP Tryz.prog 7 #[.int .i64 k] [.c .B] K w:=by
 apply q25_ok
 unfold q25
 refine joinP_id ?_
 refine cnd_d (fun _ => ?_) (fun h=>absurd h1 h)
 unfold q25_J0
 rw [decide_eq_true h2]
 exact hk
theorem c30 {s0:Sl} {xs:List Nat} {K:Sl→PT} (A:Arr .u8 w s0 xs) (hby:By xs) (hl:xs.length≤2^30) (hk:∀w' b,Fm w w' []→w.heap.size≤b→Blk w' b (arrC .u32 256 fun i=>(xs.count i:Nat))→K ⟨some ⟨b,0,none⟩,256,256⟩ w') :
  callP Tryz.prog 4 #[.slice s0.a s0.l s0.c] [.c .S] K w:=by
 apply q30_ok
 unfold q30
 refine mks1 (k := .u32) (v:=0) (n:=256) rfl rfl (by omega) ?_
 intro w1 F1 hs1 B1
 have A1:=A.fr F1 (by simp)
 have hne:∀a,s0.a=some a→xs ≠ []→a.block ∉ [w.heap.size]:=by
  intro a ha hx
  have:=A.old hx a ha
  simp;omega
 have hsz:w.heap.size≤w.heap.size:=Nat.le_refl _
 generalize hpe:w.heap.size=p at *
 have hsl:=A.len
 refine joinP_id ?_
 refine ⟨fun x w'=>∃i:Nat,x=(i:Int)∧i≤xs.length∧Blk w' p (arrC .u32 256 fun j=>((xs.take i).count j:Nat))∧Fm w1 w' [p],fun x _=>xs.length-x.toNat,⟨0,rfl,Nat.zero_le _,B1.congr (by simp),Fm.refl _ _⟩,?_⟩
 rintro x w2 ⟨i,rfl,hi,B2,F2⟩
 have A2:=A1.fr F2 hne
 unfold q30_L0
 refine cnd_d ?_ ?_
 ·intro hc
  have hi2:i<xs.length:=by omega
  have hx:=hby _ (List.getElem_mem hi2)
  refine A2.ldk i rfl hi2 ?_
  intro q hq
  refine ld_c (t := .I .u8) (x:=((xs[i]:Nat):Int)) hq ?_
  refine ixS_o rfl hx ?_
  rw [Nat.zero_add]
  refine ld_b (t := .I .u32) (x:=(((xs.take i).count xs[i]:Nat):Int)) B2 (by rw [arrC_get hx];rfl) ?_
  refine ixS_o rfl hx ?_
  rw [Nat.zero_add]
  refine st_u B2 (by rw [arrC_get hx];rfl) rfl ?_
  intro w3 B3 F3
  have hcl:(xs.take i).count xs[i]≤xs.length:=Nat.le_trans List.count_le_length (by rw [List.length_take];omega)
  rw [wU32 (by omega) (by omega),arrC_upd hx] at B3
  rw [wI64 (by omega) (by omega)]
  refine ⟨⟨i+1,by simp,hi2,B3.congr ?_,F2.trans F3 (fun x hx => .inl hx)⟩,by first|omega|(dsimp only;omega)⟩
  congr 1
  funext j
  unfold updF
  have hcnt:(xs.take (i+1)).count j=(xs.take i).count j+if xs[i]=j then 1 else 0:=by
   rw [List.take_succ_eq_append_getElem hi2,List.count_append,List.count_singleton]
   by_cases e:xs[i]=j
   ·rw [if_pos e,if_pos (by simpa using e)]
   ·rw [if_neg e,if_neg (by simpa using e)]
  by_cases e:j=xs[i]
  ·subst e
   rw [if_pos rfl] at hcnt
   rw [if_pos rfl,hcnt];omega
  ·rw [if_neg (fun h=>e h.symm)] at hcnt
   rw [if_neg e,hcnt];rfl
 ·intro hc
  have hi2:i=xs.length:=by omega
  subst hi2
  unfold q30_J1
  rw [List.take_length] at B2
  refine hk w2 p (F1.trans F2 (by intro v hv;right;simp at hv;omega)) hsz B2
theorem c27 {s0 s1:Sl} {xs:List Nat} {K:Bool→PT} (A:Arr .u8 w s0 xs) (C:Arr .u8 w s1 xs) (hl:xs.length≤2^40) (hk:∀w',Fm w w' []→K true w') :
  callP Tryz.prog 9 #[.slice s0.a s0.l s0.c,.slice s1.a s1.l s1.c] [.c .B] K w:=by
 have h0:=A.len
 have h1:=C.len
 apply q27_ok
 unfold q27
 refine cnd_nd (fun h=>absurd (by omega) h) (fun _ => ?_)
 refine joinP_id ?_
 refine ⟨fun x w'=>∃i:Nat,x=(i:Int)∧i≤xs.length∧Fm w w' [],fun x _=>xs.length-x.toNat,⟨0,rfl,Nat.zero_le _,Fm.refl _ _⟩,?_⟩
 rintro x w1 ⟨i,rfl,hi,F1⟩
 unfold q27_L0
 refine cnd_d ?_ ?_
 ·intro hc
  have hi2:i<xs.length:=by omega
  have Ad:=A.fr F1.drew (by simp)
  have Cd:=C.fr F1.drew (by simp)
  unfold drw
  refine Ad.ldk i rfl hi2 ?_
  intro p hp
  refine ld_c (t := .I .u8) (x:=((xs[i]:Nat):Int)) hp ?_
  refine Cd.ldk i rfl hi2 ?_
  intro q hq
  refine ld_c (t := .I .u8) (x:=((xs[i]:Nat):Int)) hq ?_
  refine cnd_nd (fun h=>absurd rfl h) (fun _ => ?_)
  rw [wI64 (by omega) (by omega)]
  exact ⟨⟨i+1,by simp,hi2,F1.drew⟩,by first|omega|(dsimp only;omega)⟩
 ·intro hc
  unfold q27_J1
  exact hk w1 F1
end
def lnx (L:Nat) (ln:Nat→Nat) (i:Nat):Nat:=if i<L then ln i else 0
theorem lnx_lt {L i:Nat} {ln:Nat→Nat} (h:i<L):lnx L ln i=ln i:=if_pos h
theorem lnx_ge {L i:Nat} {ln:Nat→Nat} (h:L≤i):lnx L ln i=0:=if_neg (by omega)
section
variable {xs tbl:List Nat} {M L:Nat} {ln:Nat→Nat}
theorem NT.hl (hN:NT xs M ln L) (hw:weightsZ tbl=some (wtL M ln L,tbl.length)):∃f,hlZ tbl=some (f,tbl.length)∧∀i,f i=(lnx L ln i:Nat):=by
 obtain ⟨f,h1,h2,h3⟩:=hl_ok hN.h hN.l2 hN.l256 hN.last hN.two hw
 refine ⟨f,h1,?_⟩
 intro i
 rcases Nat.lt_or_ge i L with h|h
 ·rw [lnx_lt h];exact h2 i h
 ·rw [lnx_ge h];exact h3 i h
theorem NT.mem (hN:NT xs M ln L) {x:Nat} (hx:x∈xs):x<L∧0<ln x∧ln x≤11:=by
 have h1:0<xs.count x:=List.count_pos_iff.mpr hx
 have h3:x<L:=Classical.byContradiction fun h=>by have:=hN.out x (by omega);omega
 have h4:=hN.h.le x h3
 have h5:=hN.h.m11
 exact ⟨h3,(hN.h.pos x h3).mpr h1,by first|omega|(dsimp only;omega)⟩
end
end Go.Sx
namespace Go.Sx
open Go Go.Proofs Go.ChangeShapes Go.WideShapes Go.ChangeAt Go.RowKit Go.Proofs.YtlnhldlhmplphaaGreatDoor
set_option maxRecDepth 100000
def mask32:List Int := [0,1,3,7,15,31,63,127,255,511,1023,2047,4095,8191,16383,32767,65535,65535,65535,65535,65535,65535,65535,65535,65535,65535,0,0,0,0,0,0]
def laid0:List (String×DataW Unit) := [("pub-pemmican/pub/compress/fse.bitMask16",Rows.laid_pub_pemmican_pub_compress_fse_bitMask16),("pub-pemmican/pub/compress/fse.rtbTable",Rows.laid_pub_pemmican_pub_compress_fse_rtbTable),("pub-pemmican/pub/compress/fse.ErrIncompressible",Rows.laid_pub_pemmican_pub_compress_fse_ErrIncompressible),("pub-pemmican/pub/compress/fse.ErrUseRLE",Rows.laid_pub_pemmican_pub_compress_fse_ErrUseRLE),("pub-pemmican/pub/compress/huff0.ErrIncompressible",Rows.laid_pub_pemmican_pub_compress_huff0_ErrIncompressible),("pub-pemmican/pub/compress/huff0.ErrUseRLE",Rows.laid_pub_pemmican_pub_compress_huff0_ErrUseRLE),("pub-pemmican/pub/compress/huff0.ErrTooBig",Rows.laid_pub_pemmican_pub_compress_huff0_ErrTooBig)]
theorem ge_of_laid {W:World} (h:laidMetH Tryz.prog laid0 W):GE W:=by
 rw [MakeChecks.laidMetH_plain _ _ _ (by kernel_rfl)] at h
 have e0:=err_of_laid h (.tail _ (.tail _ (.tail _ (.tail _ (.head _))))) (g:=0) (by kernel_rfl) (by kernel_rfl)
 have e1:=err_of_laid h (.tail _ (.tail _ (.tail _ (.tail _ (.tail _ (.head _)))))) (g:=1) (by kernel_rfl) (by kernel_rfl)
 have e2:=err_of_laid h (.tail _ (.tail _ (.tail _ (.tail _ (.tail _ (.tail _ (.head _))))))) (g:=2) (by kernel_rfl) (by kernel_rfl)
 have e3:=err_of_laid h (.tail _ (.tail _ (.head _))) (g:=3) (by kernel_rfl) (by kernel_rfl)
 have e4:=err_of_laid h (.tail _ (.tail _ (.tail _ (.head _)))) (g:=4) (by kernel_rfl) (by kernel_rfl)
 have em:=nums_of_laid (zs:=mask32) (k := .u16) (t:=182) (e:=47) (m:=32) h (.head _) (g:=6) (by kernel_rfl) (by kernel_rfl) (by kernel_rfl) (by kernel_rfl) (by kernel_rfl) rfl
 have er:=nums_of_laid (zs:=rtbZ) (k := .u32) (t:=155) (e:=35) (m:=8) h (.tail _ (.head _)) (g:=5) (by kernel_rfl) (by kernel_rfl) (by kernel_rfl) (by kernel_rfl) (by kernel_rfl) rfl
 have ee:∀ {g:Nat},(∃a c T,W.cell? ⟨g,0,none⟩=some (.iface 85 (.pointer (some a)))∧W.heap[a.block]? = some (.cells c T (0,0)))→errAt W g:=fun ⟨a,c,T,h1,_⟩=>⟨_,h1,rfl,rfl⟩
 refine ⟨⟨ee e3,ee e4,?_,?_⟩,?_⟩
 ·intro k hk
  exact er k hk
 ·intro n hn
  rw [em n (by omega)]
  have:∀m:Fin 17,mask32.getD (m:Nat) 0=((2^(m:Nat)-1:Nat):Int):=by decide
  rw [this ⟨n,by omega⟩]
 ·intro i hi
  have:i=0∨i=1∨i=2:=by omega
  rcases this with rfl|rfl|rfl
  ·exact e0
  ·exact e1
  ·exact e2
theorem bytes_in {H:Type} {enc:TypeId×Value→H} {W:World} {v:Value} {d:DataW H} {p:List MemPlace} (h:DataW.Trod enc Tryz.prog W 0 (fun _=>true) true 22 v d p) (hv:∃a l c,v = .slice a l c) :
  ∃(s:Sl) (xs:List Nat),v = .slice s.a s.l s.c∧Arr .u8 W s xs∧By xs:=by
 obtain ⟨n,hn⟩:=h
 obtain ⟨a0,l0,c0,rfl⟩:=hv
 rcases open_ints Tryz.underlying22 Tryz.underlying5 (by kernel_rfl) hn with ⟨e,_⟩|⟨a,len,cap,zs,e,_,hl,_,hzl,_,hcell,hwf⟩
 ·have e:Value.slice a0 l0 c0 = .slice none 0 0:=by simpa [Value.cells] using e
  injection e with e1 e2 e3
  subst e1 e2 e3
  exact ⟨⟨none,0,0⟩,[],rfl,⟨rfl,Nat.le_refl _,fun _=>rfl,(by intro b hb;cases hb)⟩,by intro x hx;cases hx⟩
 ·have e:Value.slice a0 l0 c0 = .slice (some a) len cap:=by simpa [Value.cells] using e
  injection e with e1 e2 e3
  subst e1 e2 e3
  simp only [if_true] at hzl
  have hz:∀i (hi:i<zs.length),0≤zs[i]∧zs[i]<256:=by
   intro i hi
   have:=bounds_u8 (hwf _ (List.getElem_mem hi))
   omega
  refine ⟨⟨some a,l0,c0⟩,(zs.take l0).map Int.toNat,rfl,⟨?_,hl,(fun h=>by cases h),?_⟩,?_⟩
  ·rw [List.length_map,List.length_take];simp only;omega
  ·intro b hb i hi
   injection hb with hb
   subst hb
   rw [List.length_map,List.length_take] at hi
   have hi2:i<zs.length:=by omega
   rw [hcell i hi2]
   have h1:=hz i hi2
   have h2:zs.getD i 0=zs[i]:=by rw [List.getD_eq_getElem?_getD,List.getElem?_eq_getElem hi2];rfl
   rw [h2,List.getElem_map,List.getElem_take,Int.toNat_of_nonneg h1.1]
  ·intro x hx
   obtain ⟨z,hz1,rfl⟩:=List.mem_map.mp hx
   obtain ⟨i,hi,e⟩:=List.mem_iff_getElem.mp (List.mem_of_mem_take hz1)
   have:=hz i hi
   rw [e] at this
   omega
theorem slice_in {H:Type} {enc:TypeId×Value→H} {W:World} {t e:TypeId} {v:Value} {d:DataW H} {p:List MemPlace} {base:Nat} (ht:Tryz.prog.underlying t=some (.slice e)) (ok:Value.okWide Tryz.prog W .any base t v) (h:DataW.Trod enc Tryz.prog W 0 (fun _=>true) true t v d p):∃a l c,v = .slice a l c:=by
 unfold Value.okWide at ok
 simp only [ht] at ok
 unfold Cell.okWide at ok
 cases v<;>simp [Value.cells,Cell.ok,ht] at ok ⊢
theorem door_met (os:Os) (args:Array Value):laidMetH Tryz.prog laid0 ((World.doorLaid Tryz.prog 4000 os).forCall (fun _ _=>0) ⟨#[],args,[]⟩).memory :=
 laidMetH_of_parts3 (fuel:=8) (laidMet_of_run' 8 (by kernel_rfl) (by kernel_rfl)) (by kernel_rfl) (by kernel_rfl)
end Go.Sx
namespace Go.Sx
open Go Go.Proofs
set_option maxRecDepth 4000
theorem Srt.uniq {cnt:Nat→Nat} {L:Nat} {l l':List Nat} (h:Srt cnt L l) (h':Srt cnt L l'):l=l':=by
 refine List.Perm.eq_of_pairwise ?_ h.dec h'.dec ((List.perm_ext_iff_of_nodup h.nd h'.nd).mpr fun a=>(h.mem a).trans (h'.mem a).symm)
 intro a b _ _ h1 h2
 omega
theorem Ord.uniq {cnt σ:Nat→Nat} {L N N':Nat} (h:Ord cnt L N σ) (h':Ord cnt L N' σ):N=N':=by
 have key:∀ {A B:Nat},Ord cnt L A σ→Ord cnt L B σ→B≤A:=by
  intro A B hA hB
  apply Classical.byContradiction
  intro hlt
  have hAB:A<B:=by omega
  obtain ⟨j,hj,e⟩:=hA.onto (σ A) (hB.lt A hAB) (hB.pos A hAB)
  have:=hB.inj j A (by omega) hAB e
  omega
 have h1:=key h h'
 have h2:=key h' h
 omega
theorem Pick.uniq {c:Nat→Nat} {k lo hi x lo1 hi1 x' lo1' hi1':Nat} (h:Pick c k lo hi x lo1 hi1) (h':Pick c k lo hi x' lo1' hi1'):x=x'∧lo1=lo1'∧hi1=hi1':=by
 rcases h with ⟨a1,a2,a3,a4,a5⟩|⟨a1,a2,a3,a4,a5⟩<;>rcases h' with ⟨b1,b2,b3,b4,b5⟩|⟨b1,b2,b3,b4,b5⟩
 ·exact ⟨by omega,by omega,by omega⟩
 ·have:=a5 b2;have:=b5 a2;omega
 ·have:=b5 a2;have:=a5 b2;omega
 ·exact ⟨by omega,by omega,by omega⟩
theorem TrR.ge {N L:Nat} {c0 c p:Nat→Nat} {k lo hi:Nat} (h:TrR N L c0 c p k lo hi):L+1≤k:=by
 induction h with
 | start=>exact Nat.le_refl _
 | step _ _ _ ih=>omega
theorem TrR.inv {N L:Nat} {c0 c p:Nat→Nat} {k lo hi:Nat} (h:TrR N L c0 c p k lo hi):(k=L+1∧c=updN c0 L (c0 (N-1)+c0 (N-2))∧p=updN (updN (fun _=>0) (N-1) L) (N-2) L∧lo=N-2∧hi=L) ∨
  ∃(c1 p1:Nat→Nat) (k1 lo0 hi0 x1 lo1 hi1 x2:Nat),TrR N L c0 c1 p1 k1 lo0 hi0∧Pick c1 k1 lo0 hi0 x1 lo1 hi1∧Pick c1 k1 lo1 hi1 x2 lo hi∧c=updN c1 k1 (c1 x1+c1 x2)∧p=updN (updN p1 x1 k1) x2 k1∧k=k1+1:=by
 cases h with
 | start=>exact .inl ⟨rfl,rfl,rfl,rfl,rfl⟩
 | step h1 h2 h3=>exact .inr ⟨_,_,_,_,_,_,_,_,_,h1,h2,h3,rfl,rfl,rfl⟩
theorem TrR.uniq {N L:Nat} {c0 c p:Nat→Nat} {k lo hi:Nat} (h:TrR N L c0 c p k lo hi):∀ {c' p':Nat→Nat} {lo' hi':Nat},TrR N L c0 c' p' k lo' hi'→c=c'∧p=p'∧lo=lo'∧hi=hi':=by
 induction h with
 | start =>
  intro c' p' lo' hi' h'
  rcases h'.inv with ⟨_,h1,h2,h3,h4⟩|⟨c1,p1,k1,lo0,hi0,x1,lo1,hi1,x2,h1,_,_,_,_,h5⟩
  ·exact ⟨h1.symm,h2.symm,h3.symm,h4.symm⟩
  ·have:=h1.ge;omega
 | @step c p k lo hi x1 lo1 hi1 x2 lo2 hi2 h1 h2 h3 ih =>
  intro c' p' lo' hi' h'
  rcases h'.inv with ⟨h5,_⟩|⟨c1,p1,k1,lo0,hi0,y1,m1,n1,y2,g1,g2,g3,rfl,rfl,h5⟩
  ·have:=h1.ge;omega
  ·have hk:k1=k:=by omega
   subst hk
   obtain ⟨rfl,rfl,rfl,rfl⟩:=ih g1
   obtain ⟨rfl,rfl,rfl⟩:=h2.uniq g2
   obtain ⟨rfl,rfl,rfl⟩:=h3.uniq g3
   exact ⟨rfl,rfl,rfl,rfl⟩
theorem DepP.uniqI {N L tot:Nat} {c p D D':Nat→Nat} (T:TreeP N L tot c p) (E:DepP N L p D) (E':DepP N L p D'):∀n v,L≤v→v≤L+N-2→L+N-2-v≤n→D v=D' v
 | 0,v,h1,h2,h3=>by
  have e:v=L+N-2:=by omega
  rw [e,E.root,E'.root]
 | n+1,v,h1,h2,h3=>by
  by_cases e:v=L+N-2
  ·rw [e,E.root,E'.root]
  ·have hp:=T.pin v h1 (by omega)
   rw [E.inn v h1 (by omega),E'.inn v h1 (by omega),DepP.uniqI T E E' n (p v) (by omega) hp.2 (by omega)]
theorem DepP.uniq {N L tot:Nat} {c p D D':Nat→Nat} (T:TreeP N L tot c p) (E:DepP N L p D) (E':DepP N L p D') {i:Nat} (hi:i<N):D i=D' i:=by
 have hp:=T.pl i hi
 rw [E.leaf i hi,E'.leaf i hi,DepP.uniqI T E E' (L+N) (p i) hp.1 hp.2 (by omega)]
section
variable {H N:Nat} {b b' rk rk' cn cn':Nat→Nat}
theorem RL.uniq (hN:N≤256) (h:RL H N b rk) (h':RL H N b' rk') (e:∀i,i<N→b i=b' i) {r:Nat} (h1:1≤r) (h2:r≤12):rk r=rk' r:=by
 rcases h r h1 h2 with ⟨a1,a2⟩|⟨a1,a2,a3⟩<;>rcases h' r h1 h2 with ⟨b1,b2⟩|⟨b1,b2,b3⟩
 ·rw [a1,b1]
 ·exact absurd (by rw [e _ b1];exact b2) (a2 _ b1)
 ·exact absurd (by rw [←e _ a1];exact a2) (b2 _ a1)
 ·rcases Nat.lt_trichotomy (rk r) (rk' r) with h3|h3|h3
  ·exact absurd (by rw [e _ b1];exact b2) (a3 _ h3 b1)
  ·exact h3
  ·exact absurd (by rw [←e _ a1];exact a2) (b3 _ h3 a1)
theorem RL.rng (h:RL H N b rk) {r:Nat} (h1:1≤r) (h2:r≤12):rk r=noS∨rk r<N:=by
 rcases h r h1 h2 with ⟨a1,_⟩|⟨a1,_⟩
 ·exact .inl a1
 ·exact .inr a1
theorem dnK_congr (hr:∀r,1≤r→r≤12→rk r=rk' r) (hv:∀r,1≤r→r≤12→rk r=noS∨rk r<N) (hc:∀i,i<N→cn i=cn' i):∀k,k≤12→dnK cn rk k=dnK cn' rk' k
 | 0,_=>rfl
 | 1,_=>rfl
 | k+2,h=>by
  rw [dnK,dnK, ←hr (k+2) (by omega) h, ←hr (k+1) (by omega) (by omega),dnK_congr hr hv hc (k+1) (by omega)]
  by_cases h1:rk (k+2)=noS
  ·rw [if_pos h1,if_pos h1]
  ·rw [if_neg h1,if_neg h1]
   by_cases h2:rk (k+1)=noS
   ·rw [if_pos h2,if_pos h2]
   ·rw [if_neg h2,if_neg h2]
    have g1:=(hv (k+2) (by omega) h).resolve_left h1
    have g2:=(hv (k+1) (by omega) (by omega)).resolve_left h2
    rw [hc _ g1,hc _ g2]
theorem dnK_ge {cn rk:Nat→Nat} : ∀k,1≤k→1≤dnK cn rk k
 | 0,h=>by omega
 | 1,_=>Nat.le_refl _
 | k+2,_=>by
  have:=dnK_ge (cn:=cn) (rk:=rk) (k+1) (by omega)
  rw [dnK]
  split
  ·exact this
  ·split
   ·omega
   ·split
    ·omega
    ·exact this
theorem upK_congr (hr:∀r,1≤r→r≤12→rk r=rk' r):∀f k,1≤k→upK rk f k=upK rk' f k
 | 0,_,_=>rfl
 | f+1,k,h=>by
  rw [upK,upK,upK_congr hr f (k+1) (by omega)]
  by_cases h1:k≤11
  ·rw [hr k h (by omega)]
  ·rw [if_neg (fun h=>h1 h.1),if_neg (fun h=>h1 h.1)]
theorem PayR.inv {H N:Nat} {cn b b':Nat→Nat} {tc tc':Int} (h:PayR H N cn b tc b' tc'):(tc≤0∧b'=b∧tc'=tc) ∨
  ∃(rk:Nat→Nat) (k:Nat),0<tc∧tc.toNat.log2<8∧RL H N b rk∧1≤k∧k≤12∧k=upJ rk (dnK cn rk (tc.toNat.log2+1))∧PayR H N cn (updN b (rk k) (b (rk k)+1)) (tc-((2^(k-1):Nat):Int)) b' tc':=by
 cases h with
 | stop h=>exact .inl ⟨h,rfl,rfl⟩
 | step h1 h2 h3 h4 h5 h6 h7=>exact .inr ⟨_,_,h1,h2,h3,h4,h5,h6,h7⟩
theorem PayR.uniq (hN:N≤256) (hc:∀i,i<N→cn i=cn' i) {tc t1:Int} {b1:Nat→Nat} (h:PayR H N cn b tc b1 t1):∀ {b' b2:Nat→Nat} {t2:Int},PayR H N cn' b' tc b2 t2→(∀i,i<N→b i=b' i)→t1=t2∧∀i,i<N→b1 i=b2 i:=by
 induction h with
 | stop h0 =>
  intro b' b2 t2 h' e
  rcases h'.inv with ⟨_,rfl,rfl⟩|⟨_,_,h1,_⟩
  ·exact ⟨rfl,e⟩
  ·omega
 | @step b rk b1 tc t1 k h1 h2 h3 h4 h5 h6 h7 ih =>
  intro b' b2 t2 h' e
  rcases h'.inv with ⟨g1,_⟩|⟨rk',k',g1,g2,g3,g4,g5,g6,g7⟩
  ·omega
  ·have hr:∀r,1≤r→r≤12→rk r=rk' r:=fun r h1 h2=>h3.uniq hN g3 e h1 h2
   have hk:k=k':=by
    rw [h6,g6,dnK_congr hr (fun r h1 h2=>h3.rng h1 h2) hc _ (by omega)]
    exact upK_congr hr _ _ (dnK_ge _ (by omega))
   subst hk
   rw [←hr k h4 h5] at g7
   refine ih g7 ?_
   intro i hi
   unfold updN
   by_cases e1:i=rk k
   ·rw [if_pos e1,if_pos e1,e _ (by omega)]
   ·rw [if_neg e1,if_neg e1];exact e i hi
theorem BackR.inv {H N:Nat} {b b':Nat→Nat} {tc:Int} (h:BackR H N b tc b'):(0≤tc∧b'=b)∨∃q,tc<0∧q<N∧b q=H∧(∀i,i<q→b i+1≤H)∧BackR H N (updN b q (H-1)) (tc+1) b':=by
 cases h with
 | stop h=>exact .inl ⟨h,rfl⟩
 | step h1 h2 h3 h4 h5=>exact .inr ⟨_,h1,h2,h3,h4,h5⟩
theorem BackR.uniq {tc:Int} {b1:Nat→Nat} (h:BackR H N b tc b1):∀ {b' b2:Nat→Nat},BackR H N b' tc b2→(∀i,i<N→b i=b' i)→∀i,i<N→b1 i=b2 i:=by
 induction h with
 | stop h0 =>
  intro b' b2 h' e
  rcases h'.inv with ⟨_,rfl⟩|⟨_,h1,_⟩
  ·exact e
  ·omega
 | @step b b1 tc q h1 h2 h3 h4 h5 ih =>
  intro b' b2 h' e
  rcases h'.inv with ⟨g1,_⟩|⟨q',g1,g2,g3,g4,g5⟩
  ·omega
  ·have hq:q=q':=by
    rcases Nat.lt_trichotomy q q' with h|h|h
    ·have:=g4 q h;rw [←e q h2] at this;omega
    ·exact h
    ·have:=h4 q' h;rw [e q' g2] at this;omega
   subst hq
   refine ih g5 ?_
   intro i hi
   unfold updN
   by_cases e1:i=q
   ·rw [if_pos e1,if_pos e1]
   ·rw [if_neg e1,if_neg e1];exact e i hi
theorem MaxR.uniq {D D':Nat→Nat} {M M':Nat} (hn:1≤N) (hN:N≤256) (h:MaxR H N cn D M b) (h':MaxR H N cn' D' M' b') (hc:∀i,i<N→cn i=cn' i) (hD:∀i,i<N→D i=D' i):M=M'∧∀i,i<N→b i=b' i:=by
 have e1:=hD (N-1) (by omega)
 have ecut:∀i,i<N→cutD H D i=cutD H D' i:=fun i hi=>by unfold cutD;rw [hD i hi]
 rcases h with ⟨a1,a2,a3⟩|⟨a1,a2,tc,b7,t7,a3,a4,a5⟩<;>rcases h' with ⟨c1,c2,c3⟩|⟨c1,c2,tc',b7',t7',c3,c4,c5⟩
 ·subst a3 c3
  exact ⟨by omega,hD⟩
 ·omega
 ·omega
 ·have ek:krS H (cutD H D) N=krS H (cutD H D') N:=sF_congr (fun i _ hi=>by rw [ecut i (by omega)])
  have et:tc'=tc:=by omega
  subst et
  obtain ⟨rfl,h7⟩:=a4.uniq hN hc c4 ecut
  exact ⟨by omega,a5.uniq c5 h7⟩
end
theorem lnS_congr {σ b b':Nat→Nat} : ∀ {N:Nat},(∀i,i<N→b i=b' i)→lnS σ b N=lnS σ b' N
 | 0,_=>rfl
 | n+1,h=>by rw [lnS,lnS,lnS_congr (fun i hi=>h i (by omega)),h n (by omega)]
theorem LenR.uniq {cnt:Nat→Nat} {L n t M M':Nat} {ln ln':Nat→Nat} (h:LenR cnt L n t M ln) (h':LenR cnt L n t M' ln'):M=M'∧ln=ln':=by
 obtain ⟨l,N,c,p,D,b,cn,lo,hi,tot,S,O,Tr,T,E,hcn,P,R,rfl⟩:=h
 obtain ⟨l',N',c',p',D',b',cn',lo',hi',tot',S',O',Tr',T',E',hcn',P',R',rfl⟩:=h'
 obtain rfl:=S.uniq S'
 obtain rfl:=O.uniq O'
 obtain ⟨rfl,rfl,_,_⟩:=Tr.uniq Tr'
 have hD:∀i,i<N→D i=D' i:=fun i hi=>E.uniq T E' hi
 obtain ⟨e1,e2⟩:=R.uniq P.n1 P.n2 R' (fun i hi=>(hcn i hi).trans (hcn' i hi).symm) hD
 exact ⟨e1,lnS_congr e2⟩
def scN (k v:Nat):Nat:=(v+(2^k-1))/2^k
theorem scN_zero (v:Nat):scN 0 v=v:=by simp [scN]
theorem scN_pos {k v:Nat} : 0<scN k v↔0<v:=by
 have hp:=Nat.two_pow_pos k
 unfold scN
 rw [Nat.div_pos_iff]
 omega
theorem scN_le (k v:Nat):scN k v≤v/2^k+1:=by
 have hp:=Nat.two_pow_pos k
 unfold scN
 rw [←Nat.add_div_right _ hp]
 exact Nat.div_le_div_right (by omega)
def SHk (S k:Nat):Prop:=S/2^k≤262143∧∀j,j<k→262143<S/2^j
theorem SHk.uniq {S k k':Nat} (h:SHk S k) (h':SHk S k'):k=k':=by
 rcases Nat.lt_trichotomy k k' with h1|h1|h1
 ·have:=h'.2 k h1;have:=h.1;omega
 ·exact h1
 ·have:=h.2 k' h1;have:=h'.1;omega
theorem scN_sum (cnt:Nat→Nat) (k:Nat):∀n,sF (fun i=>scN k (cnt i)) 0 n≤sF cnt 0 n/2^k+n
 | 0=>Nat.zero_le _
 | n+1=>by
  have h1:=scN_sum cnt k n
  have h2:=scN_le k (cnt n)
  have hp:=Nat.two_pow_pos k
  rw [sF,sF,Nat.zero_add]
  have h3:sF cnt 0 n/2^k+cnt n/2^k≤(sF cnt 0 n+cnt n)/2^k:=by
   rw [Nat.le_div_iff_mul_le hp,Nat.add_mul]
   exact Nat.add_le_add (Nat.div_mul_le_self _ _) (Nat.div_mul_le_self _ _)
  omega
theorem sF_two {g:Nat→Nat} {a b n:Nat} (hab:a≠b) (ha:a<n) (hb:b<n):g a+g b≤sF g 0 n:=by
 have h6:sF (updN g a 0) 0 n+g a=sF g 0 n+0:=sF_upd (fun x=>x) g a 0 n ha
 have h7:=sF_mem (updN g a 0) 0 (n:=n) (i:=b) (Nat.zero_le _) (by omega)
 rw [updN_ne (fun e=>hab e.symm)] at h7
 omega
theorem cpy_b {w:World} {sz da dl dc sb sl sc n:Nat} {D Fs:Cells} {κ:Int→PT} (hd:Blk w da D) (hs:Blk w sb Fs) (hn:Nat.min sl dl=n) (h1:∀i,i<n*sz→∃v,Fs i=some v∧one v=true) (h2:∀i,i<n*sz→(D i).isSome)
  (hk:∀w',Blk w' da (fun i=>if i<n*sz then Fs i else D i)→Fm w w' [da]→κ ((n:Nat):Int) w'):cpy sz ⟨some ⟨da,0,none⟩,dl,dc⟩ ⟨some ⟨sb,0,none⟩,sl,sc⟩ κ w:=by
 have hx:∀i,i<n*sz→Fs i=some ((Fs i).getD default):=by
  intro i hi
  obtain ⟨v,h,_⟩:=h1 i hi
  rw [h];rfl
 have hl:((List.range (n*sz)).map fun i=>(Fs i).getD default).length=n*sz:=by simp
 have hget:∀i,i<n*sz→((List.range (n*sz)).map fun i=>(Fs i).getD default)[i]? = Fs i:=by
  intro i hi
  rw [List.getElem?_map,List.getElem?_range hi]
  exact (hx i hi).symm
 refine ⟨(List.range (n*sz)).map fun i=>(Fs i).getD default,by rw [hl,hn],?_,(fun h=>by cases h),?_,?_⟩
 ·intro b hb i hi
  injection hb with hb
  subst hb
  rw [hl] at hi
  rw [add_mk,Nat.zero_add,hs.cell,hget i hi]
 ·intro v hv
  obtain ⟨i,hi,rfl⟩:=List.mem_map.mp hv
  obtain ⟨v,h,h'⟩:=h1 i (List.mem_range.mp hi)
  rw [h];exact h'
 ·refine ⟨?_,?_⟩
  ·intro i hi
   rw [hl] at hi
   rw [add_mk,Nat.zero_add]
   exact canSt_b hd (h2 i hi)
  ·rw [hn]
   refine hk _ ((hd.setL (fun i hi=>by rw [Nat.zero_add];exact h2 i (by rw [hl] at hi;exact hi))).congr ?_) ((Fm.refl w _).setL (.inl (by simp)))
   funext i
   unfold updL
   rw [hl,Nat.sub_zero,Nat.zero_add]
   by_cases hi:i<n*sz
   ·rw [if_pos ⟨Nat.zero_le _,hi⟩,if_pos hi,hget i hi]
   ·rw [if_neg (fun h=>hi h.2),if_neg hi]
section
variable {w w0:World} {g n L t m:Nat} {s0:HU} {col:Nat→Nat} {cnt:Nat→Nat} {c':Nat→Int} {K2:Value→PT}
theorem t74 {xa xb:Int} {rv:Value} (P:HP w0 g s0 col 0) (hpt:s0.pt=⟨none,0,0⟩) (F:Fm w0 w [g]) (B:Blk w g ({ s0 with count:=c' } : HU).at) (hc:∀i,i<256→c' i=(cnt i:Nat)) (hL2:2≤L) (hL:L≤256) (hlt:∀i,i<L→cnt i<2^18) (two:∃a b,a≠b∧a<L∧b<L∧0<cnt a∧0<cnt b) (hsum:sF cnt 0 L≤n) (hn2:n<4294967296) (h8:sF cnt 0 L<832040) (htl:s0.tl=(t:Nat)) (ht11:t≤11)
  (hk:∀w' s' col' M ln,HT cnt L M ln→LenR cnt L n t M ln→HW w' g s' col'→PTc w' s'.pt M ln L→s'.tl=s0.tl→s'.reuse=s0.reuse→s'.wll=s0.wll→s'.ptl=(M:Nat)→VecU w' s'.out []→GoW w w' col col'→FseC w' s'.fse col'→K2 .nilIface w') :
  q74_J11 K2 (some ⟨g,0,none⟩,rv) (xa,xb,((L:Nat):Int)) (((n:Nat):Int),((m:Nat):Int)) w:=by
 have kg:=fun r (hr:r≠1)=>P.toHW.keepG (r:=r) hr
 unfold q74_J11
 simp only
 refine ⟨_,rfl,?_⟩
 simp only [add_mk,Nat.zero_add]
 refine st_u B rfl rfl ?_
 intro w1 B1 F1
 have B1':=B1.congr (HU.setT (s' := { s0 with count:=c',symL:=((L:Nat):Int) }) 9 rfl rfl rfl (by decide))
 refine ⟨_,rfl,?_⟩
 simp only [add_mk,Nat.zero_add]
 refine st_u B1' rfl rfl ?_
 intro w2 B2 F2
 have B2':=B2.congr (HU.setT (s' := { s0 with count:=c',symL:=((L:Nat):Int),maxC:=((m:Nat):Int) }) 10 rfl rfl rfl (by decide))
 refine ⟨_,rfl,?_⟩
 simp only [add_mk,Nat.zero_add]
 refine st_u B2' rfl rfl ?_
 intro w3 B3 F3
 have B3':=B3.congr (HU.setT (s' := { s0 with count:=c',symL:=((L:Nat):Int),maxC:=((m:Nat):Int),srcLen:=((n:Nat):Int) }) 4 rfl rfl rfl (by decide))
 have F13:Fm w w3 [g]:=(F1.trans F2 (fun x hx => .inl hx)).trans F3 (fun x hx => .inl hx)
 have F03:Fm w0 w3 [g]:=F.trans F13 (fun x hx => .inl hx)
 obtain ⟨nb,l0,cap,Fn,hnod,hcap,cnb,HN,hS,hF⟩:=P.nodP.mv F03 (kg 3 (by decide))
 have hct:=P.ct.mv F03 (kg 4 (by decide))
 have hfse:=P.fseP.mv F03 (kg 6 (by decide))
 have hout:=P.out.mv F03 (kg 2 (by decide))
 have dgn:g≠nb:=fun e=>by rw [←e,P.cg] at cnb;cases cnb
 have c4:=hct.co
 have hg:g∉s0.ct.bs:=fun h=>by have:=c4 g h;rw [P.cg] at this;cases this
 have hnb:nb∉s0.ct.bs:=fun h=>by have:=c4 nb h;rw [cnb] at this;cases this
 refine c91 (cnt:=cnt) (L:=L) (n:=n) (t:=t) B3' ⟨rfl,by omega,hL,fun i hi=>hc i (by omega),hlt⟩ rfl htl ht11 hn2 two hsum h8 hnod hcap HN hS hF dgn hct.own hg hnb ?_
 intro w4 M ln tb capt F4t Fn4 HTc hLR h256 B4 HT4 hS4 hcells HN4 hSn4 hFn4 htb dgt dnt Fr4
 refine ⟨rfl,nil_cnd ?_⟩
 refine joinP_id ?_
 have own0:∀v∈g::nb::s0.ct.bs,v<w3.heap.size→own (col v):=by
  intro v hv _
  rcases List.mem_cons.mp hv with h|h
  ·rw [h,P.cg];exact ⟨by decide,by decide⟩
  ·rcases List.mem_cons.mp h with h|h
   ·rw [h,cnb];exact ⟨by decide,by decide⟩
   ·rw [c4 v h];exact ⟨by decide,by decide⟩
 have hkeep:∀r,r≠1→r≠3→r≠4→∀v∈g::nb::s0.ct.bs,v<w3.heap.size→col v≠r:=by
  intro r h1 h3 h4 v hv _ e
  rcases List.mem_cons.mp hv with h|h
  ·rw [h,P.cg] at e;exact h1 e.symm
  ·rcases List.mem_cons.mp h with h|h
   ·rw [h,cnb] at e;exact h3 e.symm
   ·rw [c4 v h] at e;exact h4 e.symm
 have hsz4:=Fr4.size
 have Kp:∀r,r≠1→r≠3→r≠4→Keep w3 col (colN w3.heap.size 4 col) (g::nb::s0.ct.bs) r:=fun r h1 h3 h4=>⟨hkeep r h1 h3 h4,fun v hv=>colN_old hv⟩
 have hout4:=hout.mv Fr4 (Kp 2 (by decide) (by decide) (by decide))
 have hfse4:=hfse.mv Fr4 (Kp 6 (by decide) (by decide) (by decide))
 have ctb:colN w3.heap.size 4 col tb=4:=by
  rcases htb with h|h
  ·exact (colN_old (hct.own.lt tb h)).trans (c4 tb h)
  ·exact colN_new h
 have cg4:colN w3.heap.size 4 col g=1:=(colN_old B3'.lt).trans P.cg
 have cn4:colN w3.heap.size 4 col nb=3:=(colN_old HN.lt).trans cnb
 have Bd:=B4.drew
 unfold drw
 refine ⟨_,rfl,?_⟩
 simp only [add_mk,Nat.zero_add]
 refine ld_b (t := .S) (x:=s0.pt) Bd rfl ?_
 refine ⟨_,rfl,?_⟩
 simp only [add_mk,Nat.zero_add]
 refine ld_b (t := .S) (x:=⟨some ⟨tb,0,none⟩,L,capt⟩) Bd rfl ?_
 refine cnd_d (fun _ => ?_) (fun h=>absurd (by rw [hpt];simp only;omega) h)
 refine ⟨0,256,rfl,rfl,Nat.zero_le _,by decide,?_⟩
 have F5:Fm w4.drew (w4.drew.alloc (.cells (zrep z140 256) 107)) []:=(Fm.refl w4.drew []).alloc
 have B5p:Blk (w4.drew.alloc (.cells (zrep z140 256) 107)) w4.drew.heap.size fun i=>(zrep z140 256)[i]? := Blk.new
 have hs5:(w4.drew.alloc (.cells (zrep z140 256) 107)).heap.size=w4.heap.size+1:=World.size_alloc _ _
 have B5:=Bd.fr F5 (by simp)
 have hgl:=B4.lt
 have hnl:=HN4.lt
 have htl4:=HT4.lt
 have epb:w4.drew.heap.size=w4.heap.size:=rfl
 rw [epb] at *
 generalize w4.drew.alloc (.cells (zrep z140 256) 107)=w5 at *
 have dgp:g≠w4.heap.size:=by omega
 have dnp:nb≠w4.heap.size:=by omega
 have dtp:tb≠w4.heap.size:=by omega
 refine ⟨_,rfl,?_⟩
 simp only [add_mk,Nat.zero_add]
 refine st_u B5 rfl rfl ?_
 intro w6 B6 F6
 have B6':=B6.congr (HU.setT (s' := { s0 with count:=c',symL:=((L:Nat):Int),maxC:=((m:Nat):Int),srcLen:=((n:Nat):Int),atl:=((M:Nat):Int),ct:=⟨some ⟨tb,0,none⟩,L,capt⟩,nodes:=⟨some ⟨nb,0,none⟩,513,cap⟩,pt:=⟨some ⟨w4.heap.size,0,none⟩,0,256⟩ }) 14 rfl rfl rfl (by decide))
 have B6p:=B5p.fr F6 (nm1 dgp.symm)
 unfold q74_J10 drw
 have B6d:=B6'.drew
 refine ⟨_,rfl,?_⟩
 simp only [add_mk,Nat.zero_add]
 refine ld_b (t := .S) (x:=⟨some ⟨w4.heap.size,0,none⟩,0,256⟩) B6d rfl ?_
 refine ⟨_,rfl,?_⟩
 simp only [add_mk,Nat.zero_add]
 refine ld_b (t := .S) (x:=⟨some ⟨tb,0,none⟩,L,capt⟩) B6d rfl ?_
 refine slc_hi (m:=L) rfl (by omega) ?_
 refine ⟨_,rfl,?_⟩
 simp only [add_mk,Nat.zero_add]
 refine st_u B6d rfl rfl ?_
 intro w7 B7 F7
 have B7':=B7.congr (HU.setT (s' := { s0 with count:=c',symL:=((L:Nat):Int),maxC:=((m:Nat):Int),srcLen:=((n:Nat):Int),atl:=((M:Nat):Int),ct:=⟨some ⟨tb,0,none⟩,L,capt⟩,nodes:=⟨some ⟨nb,0,none⟩,513,cap⟩,pt:=⟨some ⟨w4.heap.size,0,none⟩,L,256⟩ }) 14 rfl rfl rfl (by decide))
 have B7p:=B6p.drew.fr F7 (nm1 dgp.symm)
 have B7d:=B7'.drew
 refine ⟨_,rfl,?_⟩
 simp only [add_mk,Nat.zero_add]
 refine ld_b (t := .S) (x:=⟨some ⟨w4.heap.size,0,none⟩,L,256⟩) B7d rfl ?_
 refine ⟨_,rfl,?_⟩
 simp only [add_mk,Nat.zero_add]
 refine ld_b (t := .S) (x:=⟨some ⟨tb,0,none⟩,L,capt⟩) B7d rfl ?_
 have F46:Fm w4 w6 [g]:=((Fm.refl w4 []).drew.trans F5 (by simp)).mono (S' := [g]) (by simp) |>.trans F6 (fun x hx => .inl hx)
 have F47:Fm w4 w7 [g]:=F46.drew.trans F7 (fun x hx => .inl hx)
 have HT7:=HT4.fr F47 (nm1 dgt.symm)
 have hcv:∀i,i<L*2→∃v,F4t i=some v∧one v=true:=by
  intro i hi
  have h1:=hcells (i/2) (by omega)
  by_cases e:i%2=0
  ·rw [show i=i/2*2 by omega];exact ⟨_,h1.1,rfl⟩
  ·rw [show i=i/2*2+1 by omega];exact ⟨_,h1.2,rfl⟩
 refine cpy_b (n:=L) B7p.drew HT7.drew (Nat.min_self L) hcv (fun i hi=>zrep_some z140 256 i (by show i<256*2;omega)) ?_
 intro w8 B8p F8
 have B8:=B7d.fr F8 (nm1 dgp)
 refine ⟨_,rfl,?_⟩
 simp only [add_mk,Nat.zero_add]
 refine ld_b (t := .I .u8) (x:=((M:Nat):Int)) B8 rfl ?_
 refine ⟨_,rfl,?_⟩
 simp only [add_mk,Nat.zero_add]
 refine st_u B8 rfl rfl ?_
 intro w9 B9 F9
 have B9':=B9.congr (HU.setT (s' := { s0 with count:=c',symL:=((L:Nat):Int),maxC:=((m:Nat):Int),srcLen:=((n:Nat):Int),atl:=((M:Nat):Int),ptl:=((M:Nat):Int),ct:=⟨some ⟨tb,0,none⟩,L,capt⟩,nodes:=⟨some ⟨nb,0,none⟩,513,cap⟩,pt:=⟨some ⟨w4.heap.size,0,none⟩,L,256⟩ }) 13 rfl rfl rfl (by decide))
 refine ⟨_,rfl,?_⟩
 simp only [add_mk,Nat.zero_add]
 refine st_u B9' rfl rfl ?_
 intro w10 B10 F10
 have B10':=B10.congr (HU.setT (s' := { s0 with count:=c',symL:=((L:Nat):Int),maxC:=((m:Nat):Int),cc:=true,srcLen:=((n:Nat):Int),atl:=((M:Nat):Int),ptl:=((M:Nat):Int),ct:=⟨some ⟨tb,0,none⟩,L,capt⟩,nodes:=⟨some ⟨nb,0,none⟩,513,cap⟩,pt:=⟨some ⟨w4.heap.size,0,none⟩,L,256⟩ }) 11 rfl rfl rfl (by decide))
 refine ⟨_,rfl,?_⟩
 simp only [add_mk,Nat.zero_add]
 refine st_u B10' rfl rfl ?_
 intro w11 B11 F11
 have B11':=B11.congr (HU.setT (s' := { s0 with count:=c',symL:=((L:Nat):Int),maxC:=0,cc:=true,srcLen:=((n:Nat):Int),atl:=((M:Nat):Int),ptl:=((M:Nat):Int),ct:=⟨some ⟨tb,0,none⟩,L,capt⟩,nodes:=⟨some ⟨nb,0,none⟩,513,cap⟩,pt:=⟨some ⟨w4.heap.size,0,none⟩,L,256⟩ }) 10 rfl rfl rfl (by decide))
 have F8b:Fm w8 w11 [g]:=(F9.trans F10 (fun x hx => .inl hx)).trans F11 (fun x hx => .inl hx)
 have F411:Fm w4 w11 [g]:=by
  refine Fm.trans (F47.drew.trans (F8.mono (S' := [g,w4.heap.size]) (by simp)) ?_) F8b (fun x hx => .inl hx)
  intro v hv
  simp only [List.mem_cons,List.not_mem_nil,or_false] at hv
  rcases hv with rfl|rfl
  ·exact .inl (by simp)
  ·exact .inr (Nat.le_refl _)
 have B11p:=B8p.fr F8b (nm1 dgp.symm)
 have hsz411:=F411.size
 have K5:∀r,r≠1→Keep w4 (colN w3.heap.size 4 col) (colN w4.heap.size 5 (colN w3.heap.size 4 col)) [g] r:=fun r hr=>⟨fun v hv _ e=>by simp at hv;subst hv;exact hr (e.symm.trans cg4),fun v hv=>colN_old hv⟩
 have n9:∀v∈g::nb::s0.ct.bs,7≤v:=by
  intro v hv
  rcases List.mem_cons.mp hv with h|h
  ·rw [h];exact P.g9
  ·rcases List.mem_cons.mp h with h|h
   ·rw [h];exact P.nine (by rw [cnb];decide)
   ·exact P.nine (by rw [c4 v h];decide)
 have g9:∀v ∈ [g],7≤v:=by intro v hv;simp at hv;rw [hv];exact P.g9
 have h9:=P.gl.size
 have hsz03:=F03.size
 have Fend:Fm w3 w11 (g::nb::s0.ct.bs):=Fr4.trans F411 (by intro v hv;left;simp at hv;rw [hv];simp)
 have Fe:Fm w0 w11 (g::nb::s0.ct.bs):=(F03.mono (S':=g::nb::s0.ct.bs) (by intro v hv;left;simp at hv;rw [hv];simp)).trans Fend (fun x hx => .inl hx)
 have hptc:PTc w11 ⟨some ⟨w4.heap.size,0,none⟩,L,256⟩ M ln L:=by
  refine ⟨w4.heap.size,256,_,cnt,rfl,Nat.le_refl _,B11p,?_,HTc,hL,by omega⟩
  intro i hi
  rw [if_pos (by omega),if_pos (by omega)]
  exact hcells i hi
 refine hk w11 _ (colN w4.heap.size 5 (colN w3.heap.size 4 col)) M ln HTc hLR ⟨B11',?_,?_,?_,.inr ?_,?_,?_,.inr ⟨M,ln,L,hptc⟩,.inr ?_,P.gl.fm Fe n9,?_,rfl,.inl rfl⟩ hptc rfl rfl rfl rfl (P.o0.fr Fe ?_) ?_ ?_
 ·exact (colN_old hgl).trans cg4
 ·intro v hv;rw [colN_old (by omega),colN_old (by omega)];exact P.low v hv
 ·exact hout4.mv F411 (K5 2 (by decide))
 ·exact ⟨nb,513,cap,Fn4,rfl,hcap,(colN_old hnl).trans cn4,HN4.fr F411 (nm1 dgn.symm),hSn4,hFn4⟩
 ·refine ⟨Own.of (HT4.fr F411 (nm1 dgt.symm)) hS4 (by omega),?_⟩
  intro v hv
  simp [Sl.bs] at hv
  rw [hv,colN_old htl4];exact ctb
 ·refine ⟨Own.of B11p ?_ (by omega),?_⟩
  ·intro i hi
   by_cases e:i<L*2
   ·obtain ⟨v,h1,_⟩:=hcv i e
    simp only [if_pos e,h1];rfl
   ·simp only [if_neg e]
    exact zrep_some z140 256 i hi
  ·intro v hv
   simp [Sl.bs] at hv
   rw [hv];exact colN_new (Nat.le_refl _)
 ·exact hfse4.mv F411 (K5 6 (by decide))
 ·intro i hi
  exact (P.er i hi).fm Fe (fun h=>by have:=n9 i h;omega)
 ·intro v hv hm
  have h2:=P.out.co v hv
  rcases List.mem_cons.mp hm with h|h
  ·rw [h,P.cg] at h2;cases h2
  ·rcases List.mem_cons.mp h with h|h
   ·rw [h,cnb] at h2;cases h2
   ·rw [c4 v h] at h2;cases h2
 ·have G1:GoW w w3 col col:=GoW.of F13 (by intro v hv _;simp at hv;subst hv;rw [P.cg];exact ⟨by decide,by decide⟩) (fun _ _=>rfl)
  have G2:GoW w3 w4 col (colN w3.heap.size 4 col):=GoW.of Fr4 own0 (fun v hv=>colN_old hv)
  have G3:GoW w4 w11 (colN w3.heap.size 4 col) (colN w4.heap.size 5 (colN w3.heap.size 4 col)):=GoW.of F411 (by intro v hv _;simp at hv;subst hv;rw [cg4];exact ⟨by decide,by decide⟩) (fun v hv=>colN_old hv)
  exact (G1.trans G2).trans G3
 ·exact hfse4.mv F411 (K5 6 (by decide))
end
theorem ldA_b {w:World} {b n:Nat} {F:Cells} {κ:Array Value→PT} (B:Blk w b F) (hF:∀i,i<n→(F i).isSome) (hk:∀cs:Array Value,cs.size=n→(∀i,i<n→cs[i]? = F i)→κ cs w):ldA n ⟨b,0,none⟩ κ w:=by
 have hg:∀i,i<n→((List.range n).map fun i=>(F i).getD default)[i]? = F i:=by
  intro i hi
  have h:=hF i hi
  rw [List.getElem?_map,List.getElem?_range hi]
  cases hf:F i with
  | none=>rw [hf] at h;cases h
  | some v=>simp [hf]
 refine ⟨⟨(List.range n).map fun i=>(F i).getD default⟩,by simp,?_,hk _ (by simp) ?_⟩
 ·intro i hi
  rw [add_mk,Nat.zero_add,B.cell,List.getElem?_toArray,hg i hi]
 ·intro i hi
  rw [List.getElem?_toArray,hg i hi]
theorem stA_b {w:World} {b n:Nat} {F:Cells} {cs:Array Value} {κ:PT} (B:Blk w b F) (hF:∀i,i<n→(F i).isSome) (hs:cs.size=n) (h1:∀i v,i<n→cs[i]? = some v→one v=true) (hk:∀w',Blk w' b (fun i=>if i<n then cs[i]? else F i)→Fm w w' [b]→κ w'):stA n ⟨b,0,none⟩ cs κ w:=by
 have hl:cs.toList.length=n:=by simpa using hs
 refine ⟨hs,?_,?_⟩
 ·intro i v hv
  have hi:i<n:=by
   have:=Array.getElem?_eq_some_iff.mp hv
   obtain ⟨h,_⟩:=this
   omega
  rw [add_mk,Nat.zero_add]
  exact ⟨h1 i v hi hv,canSt_b B (hF i hi)⟩
 ·refine hk _ ((B.setL (fun i hi=>by rw [Nat.zero_add];exact hF i (by rw [hl] at hi;exact hi))).congr ?_) ((Fm.refl w _).setL (.inl (by simp)))
  funext i
  unfold updL
  rw [hl,Nat.sub_zero,Nat.zero_add]
  by_cases hi:i<n
  ·rw [if_pos ⟨Nat.zero_le _,hi⟩,if_pos hi];simp
  ·rw [if_neg (fun h=>hi h.2),if_neg hi]
structure CMx (cnt:Nat→Nat) (i m L:Nat):Prop where
 le:∀j,j<i→cnt j≤m
 ex:m=0∨∃j,j<i∧cnt j=m
 li:L≤i
 out:∀j,L≤j→j<i→cnt j=0
 last:L=0∨0<cnt (L-1)
theorem CMx.step {cnt:Nat→Nat} {i m L:Nat} (h:CMx cnt i m L):CMx cnt (i+1) (if m<cnt i then cnt i else m) (if cnt i≠0 then i+1 else L):=by
 refine ⟨?_,?_,?_,?_,?_⟩
 ·intro j hj
  by_cases e:j=i
  ·subst e;split<;>omega
  ·have:=h.le j (by omega);split<;>omega
 ·by_cases e:m<cnt i
  ·rw [if_pos e];exact .inr ⟨i,by omega,rfl⟩
  ·rw [if_neg e];exact h.ex.imp id (fun ⟨j,h1,h2⟩=>⟨j,by omega,h2⟩)
 ·have:=h.li;split<;>omega
 ·intro j h1 h2
  by_cases e:cnt i≠0
  ·rw [if_pos e] at h1;omega
  ·rw [if_neg e] at h1
   by_cases e2:j=i
   ·subst e2;omega
   ·exact h.out j h1 (by omega)
 ·by_cases e:cnt i≠0
  ·rw [if_pos e];right;rw [Nat.add_sub_cancel];omega
  ·rw [if_neg e];exact h.last
theorem CMx.two {cnt:Nat→Nat} {m L:Nat} (h:CMx cnt 256 m L) {a b:Nat} (hab:a≠b) (ha:a<256) (hb:b<256) (ha0:0<cnt a) (hb0:0<cnt b):2≤L∧m<sF cnt 0 256:=by
 have hl:∀j,j<256→0<cnt j→j<L:=fun j hj h0=>Classical.byContradiction fun hn=>by have:=h.out j (by omega) hj;omega
 have h1:=hl a ha ha0
 have h2:=hl b hb hb0
 refine ⟨by omega,?_⟩
 have h3:=sF_two (g:=cnt) hab ha hb
 rcases h.ex with h4|⟨j,hj,h4⟩
 ·omega
 ·by_cases e:j=a
  ·subst e;omega
  ·have:=sF_two (g:=cnt) e hj ha;omega
theorem CMx.ab {cnt:Nat→Nat} {m L:Nat} (h:CMx cnt 256 m L) (hL:2≤L) (hm:m≠sF cnt 0 256):∃a,a<L-1∧0<cnt a:=by
 refine Classical.byContradiction fun hn=>hm ?_
 have hL0:0<cnt (L-1):=h.last.resolve_left (by omega)
 have hli:=h.li
 have hz:∀j,j<256→j≠L-1→cnt j=0:=by
  intro j hj hne
  by_cases h1:j<L-1
  ·have:¬0<cnt j:=fun h0=>hn ⟨j,h1,h0⟩
   omega
  ·exact h.out j (by omega) hj
 have hs:sF cnt 0 256=cnt (L-1):=sF_single (by omega) (fun j hj hne=>hz j hj hne)
 rw [hs]
 have h1:=h.le (L-1) (by omega)
 rcases h.ex with h4|⟨j,hj,h4⟩
 ·omega
 ·by_cases e:j=L-1
  ·rw [←h4,e]
  ·have:=hz j hj e;omega
section
variable {w:World} {g t:Nat} {s:HU} {col:Nat→Nat} {cnt:Nat→Nat} {K2:Value→PT}
theorem t74_cnt {c11:Array Value} {R9:Int×Int×Int→PT} (hcnt:∀i,i<256→cnt i≤2^18) (hc:∀i,i<256→c11[i]? = some (.int .u32 (cnt i:Nat)))
  (hk:∀m L,CMx cnt 256 m L→R9 (((sF cnt 0 256:Nat):Int),(m:Int),(L:Int)) w):loopP ((0:Int),(0:Int),(0:Int),(0:Int)) (q74_L2 R9 c11) w:=by
 refine ⟨fun x w'=>w'=w∧∃i m L:Nat,x=(((sF cnt 0 i:Nat):Int),(m:Int),(L:Int),(i:Int))∧i≤256∧CMx cnt i m L,fun x _=>256-x.2.2.2.toNat,⟨rfl,0,0,0,rfl,by decide,⟨fun j hj=>absurd hj (Nat.not_lt_zero _),.inl rfl,Nat.le_refl _,fun j _ hj=>absurd hj (Nat.not_lt_zero _),.inl rfl⟩⟩,?_⟩
 rintro x w1 ⟨rfl,i,m,L,rfl,hi,H⟩
 unfold q74_L2
 simp only
 refine cnd_d ?_ ?_
 ·intro hc0
  have hi2:i<256:=by omega
  have hci:=hcnt i hi2
  have hsm:sF cnt 0 i≤i*2^18:=sF_le_mul (fun j hj=>hcnt j (by omega))
  have hm:m≤2^18:=by
   rcases H.ex with h|⟨j,hj,h⟩
   ·omega
   ·have:=hcnt j (by omega);omega
  refine joinP_id ⟨i,rfl,hi2,((cnt i:Nat):Int),hc i hi2,?_⟩
  have ew:IntKind.i64.wrap ((cnt i:Nat):Int)=((cnt i:Nat):Int):=wI64 (by omega) (by omega)
  have fin:∀m':Nat,m'=(if m<cnt i then cnt i else m)→q74_J0 (((sF cnt 0 i:Nat):Int),(m:Int),(L:Int),(i:Int)) (q74_J1 (((sF cnt 0 i:Nat):Int),(m:Int),(L:Int),(i:Int)) (fun s' w'=>(w'=w1∧∃i m L:Nat,s'=(((sF cnt 0 i:Nat):Int),(m:Int),(L:Int),(i:Int))∧i≤256∧CMx cnt i m L)∧256-s'.2.2.2.toNat<256-((i:Nat):Int).toNat)) ((cnt i:Nat):Int) (m':Int) w1:=by
   intro m' hm'
   unfold q74_J0
   simp only
   rw [ew,wI64 (x:=((sF cnt 0 i:Nat):Int)+((cnt i:Nat):Int)) (by omega) (by omega),wU16 (x:=(i:Int)) (by omega) (by omega),wU16 (x:=(i:Int)+1) (by omega) (by omega)]
   have es:((sF cnt 0 i:Nat):Int)+((cnt i:Nat):Int)=((sF cnt 0 (i+1):Nat):Int):=by rw [sF,Nat.zero_add];omega
   have hst:=H.step
   rw [←hm'] at hst
   refine cnd_nd (fun h => ?_) (fun h => ?_)
   ·have h':cnt i≠0:=by omega
    rw [if_pos h'] at hst
    unfold q74_J1
    simp only
    rw [wI64 (x:=(i:Int)+1) (by omega) (by omega),es]
    exact ⟨⟨trivial,i+1,m',i+1,by simp,hi2,hst⟩,by first|omega|(dsimp only;omega)⟩
   ·have h':¬cnt i≠0:=by omega
    rw [if_neg h'] at hst
    unfold q74_J1
    simp only
    rw [wI64 (x:=(i:Int)+1) (by omega) (by omega),es]
    exact ⟨⟨trivial,i+1,m',L,by simp,hi2,hst⟩,by first|omega|(dsimp only;omega)⟩
  refine joinP_id ?_
  rw [ew]
  refine cnd_d (fun h => ?_) (fun h => ?_)
  ·exact fin (cnt i) (by rw [if_pos (by omega)])
  ·exact fin m (by rw [if_neg (by omega)])
 ·intro hc0
  have hi2:i=256:=by omega
  subst hi2
  exact hk m L H
theorem t74_sh {S:Nat} {xb xc:Int} {R24:Int→PT} (hS:S≤2^26) (hk:∀k:Nat,k≤9→SHk S k→R24 (k:Int) w):loopP (0:Int) (q74_L3 (((S:Nat):Int),xb,xc) R24) w:=by
 refine ⟨fun x w'=>w'=w∧∃k:Nat,x=(k:Int)∧k≤9∧∀j,j<k→262143<S/2^j,fun x _=>10-x.toNat,⟨rfl,0,rfl,by decide,fun j hj=>absurd hj (Nat.not_lt_zero _)⟩,?_⟩
 rintro x w1 ⟨rfl,k,rfl,hk9,hj⟩
 unfold q74_L3
 refine ⟨by omega,?_⟩
 simp only
 rw [shrI_nat _ _ _ (by simp only [IntKind.bits];omega)]
 refine cnd_d ?_ ?_
 ·intro hc
  have h2:262143<S/2^k:=by omega
  have hk8:k≠9:=by
   intro e
   subst e
   have:S/2^9≤2^26/2^9:=Nat.div_le_div_right hS
   have e2:(2:Nat)^26/2^9=131072:=by decide
   omega
  rw [wU64 (by omega) (by omega)]
  refine ⟨⟨rfl,k+1,by simp,by omega,?_⟩,by first|omega|(dsimp only;omega)⟩
  intro j hj2
  by_cases e:j=k
  ·subst e;exact h2
  ·exact hj j (by omega)
 ·intro hc
  exact hk k hk9 ⟨by omega,hj⟩
def scF (k i:Nat) (cnt:Nat→Nat):Nat→Int:=fun j=>if j<i then ((scN k (cnt j):Nat):Int) else ((cnt j:Nat):Int)
theorem t74_sc {c30:Array Value} {k:Nat} {rv:Value} {R28:Int×Int→PT} (hk9:k≤9) (hcnt:∀i,i<256→cnt i≤2^18) (hc:∀i,i<256→c30[i]? = some (.int .u32 (cnt i:Nat))) (B:Blk w g ({ s with count:=scF k 0 cnt } : HU).at)
  (hk:∀w' m L,Blk w' g ({ s with count:=scF k 256 cnt } : HU).at→Fm w w' [g]→CMx (fun i=>scN k (cnt i)) 256 m L→R28 (((sF (fun i=>scN k (cnt i)) 0 256:Nat):Int),(m:Int)) w') :
  loopP ((0:Int),(0:Int),(0:Int)) (q74_L7 (some ⟨g,0,none⟩,rv) (k:Int) R28 c30) w:=by
 refine ⟨fun x w'=>∃i m L:Nat,x=(((sF (fun i=>scN k (cnt i)) 0 i:Nat):Int),(m:Int),(i:Int))∧i≤256∧CMx (fun i=>scN k (cnt i)) i m L∧Blk w' g ({ s with count:=scF k i cnt } : HU).at∧Fm w w' [g],fun x _=>256-x.2.2.toNat,⟨0,0,0,rfl,by decide,⟨fun j hj=>absurd hj (Nat.not_lt_zero _),.inl rfl,Nat.le_refl _,fun j _ hj=>absurd hj (Nat.not_lt_zero _),.inl rfl⟩,B,Fm.refl _ _⟩,?_⟩
 rintro x w1 ⟨i,m,L,rfl,hi,H,B1,F1⟩
 have hsc:∀i,i<256→scN k (cnt i)≤2^18+1:=by
  intro i hi
  have h1:=scN_le k (cnt i)
  have h2:=hcnt i hi
  have h3:=Nat.div_le_self (cnt i) (2^k)
  omega
 unfold q74_L7
 simp only
 refine cnd_d ?_ ?_
 ·intro hc0
  have hi2:i<256:=by omega
  have hci:=hcnt i hi2
  have hsi:=hsc i hi2
  have hsm:sF (fun i=>scN k (cnt i)) 0 i≤i*(2^18+1):=sF_le_mul (fun j hj=>hsc j (by omega))
  have hm:m≤2^18+1:=by
   rcases H.ex with h|⟨j,hj,h⟩
   ·omega
   ·have:=hsc j (by omega);omega
  have hst:=H.step
  have es:((sF (fun i=>scN k (cnt i)) 0 i:Nat):Int)+((scN k (cnt i):Nat):Int)=((sF (fun i=>scN k (cnt i)) 0 (i+1):Nat):Int):=by rw [sF,Nat.zero_add];omega
  refine joinP_id ?_
  unfold q74_X6
  refine ⟨i,rfl,hi2,((cnt i:Nat):Int),hc i hi2,?_⟩
  refine cnd_d ?_ ?_
  ·intro h0
   have h0':cnt i=0:=by omega
   have hs0:scN k (cnt i)=0:=by
    have h5:=scN_pos (k:=k) (v:=cnt i)
    have:¬0<scN k (cnt i):=fun h=>by have:=h5.mp h;omega
    omega
   rw [hs0,if_neg (by omega),if_neg (by omega)] at hst
   unfold q74_J5
   simp only
   rw [wI64 (by omega) (by omega)]
   rw [hs0] at es
   refine ⟨⟨i+1,m,L,?_,hi2,hst,B1.congr ?_,F1⟩,by first|omega|(dsimp only;omega)⟩
   ·rw [Prod.mk.injEq,Prod.mk.injEq];exact ⟨by omega,rfl,by omega⟩
   ·have:scF k i cnt=scF k (i+1) cnt:=by
     funext j
     unfold scF
     by_cases e:j=i
     ·subst e;rw [if_neg (by omega),if_pos (by omega),hs0,h0']
     ·by_cases e2:j<i
      ·rw [if_pos e2,if_pos (by omega)]
      ·rw [if_neg e2,if_neg (by omega)]
    rw [this]
  ·intro h0
   have h0':0<cnt i:=by omega
   have hs0:0<scN k (cnt i):=scN_pos.mpr h0'
   refine ⟨by omega,?_⟩
   have hp:2^k≤2^9:=Nat.pow_le_pow_right (by omega) hk9
   have hp1:=Nat.two_pow_pos k
   have e1:shlI .u32 (1:Int) (k:Int)=((2^k:Nat):Int):=by
    have:=shlI_nat .u32 1 k (by simp only [IntKind.bits];omega) (by rw [Nat.one_mul];simp only [IntKind.bits];omega)
    rw [Nat.one_mul] at this
    exact this
   have e2:shrI .u32 (IntKind.wrap .u32 (((cnt i:Nat):Int)+(IntKind.wrap .u32 ((shlI .u32 (1:Int) (k:Int))-(1:Int))))) (k:Int)=((scN k (cnt i):Nat):Int):=by
    rw [e1,show ((2^k:Nat):Int)-1=((2^k-1:Nat):Int) by omega,wU32 (x:=((2^k-1:Nat):Int)) (by omega) (by omega), ←Int.natCast_add,wU32 (by omega) (by omega),shrI_nat _ _ _ (by simp only [IntKind.bits];omega)]
    rfl
   rw [e2]
   have fin:q74_J4 (some ⟨g,0,none⟩,rv) (((sF (fun i=>scN k (cnt i)) 0 i:Nat):Int),(m:Int),(i:Int)) (q74_J5 (((sF (fun i=>scN k (cnt i)) 0 i:Nat):Int),(m:Int),(i:Int)) (fun s' w'=>(∃i m L:Nat,s'=(((sF (fun i=>scN k (cnt i)) 0 i:Nat):Int),(m:Int),(i:Int))∧i≤256∧CMx (fun i=>scN k (cnt i)) i m L∧Blk w' g ({ s with count:=scF k i cnt } : HU).at∧Fm w w' [g])∧256-s'.2.2.toNat<256-((i:Nat):Int).toNat)) ((scN k (cnt i):Nat):Int) w1:=by
    unfold q74_J4
    simp only
    refine ⟨_,rfl,?_⟩
    refine ixA_o rfl hi2 ?_
    rw [Nat.zero_add]
    refine st_u B1 (by rw [HU.count_at _ hi2];rfl) rfl ?_
    intro w2 B2 F2
    have B2':Blk w2 g ({ s with count:=scF k (i+1) cnt } : HU).at:=by
     refine B2.congr ((HU.setC (s := { s with count:=scF k i cnt }) hi2).trans ?_)
     have:updF (scF k i cnt) i ((scN k (cnt i):Nat):Int)=scF k (i+1) cnt:=by
      funext j
      unfold updF scF
      by_cases e:j=i
      ·subst e;rw [if_pos rfl,if_pos (by omega)]
      ·rw [if_neg e]
       by_cases e2:j<i
       ·rw [if_pos e2,if_pos (by omega)]
       ·rw [if_neg e2,if_neg (by omega)]
     show ({ s with count:=updF (scF k i cnt) i ((scN k (cnt i):Nat):Int) } : HU).at=_
     rw [this]
    have F12:Fm w w2 [g]:=F1.trans F2 (fun x hx => .inl hx)
    rw [wI64 (x:=((scN k (cnt i):Nat):Int)) (by omega) (by omega),wI64 (x:=((sF (fun i=>scN k (cnt i)) 0 i:Nat):Int)+((scN k (cnt i):Nat):Int)) (by omega) (by omega),es]
    rw [if_pos (c:=scN k (cnt i)≠0) (by omega)] at hst
    refine cnd_d (fun h => ?_) (fun h => ?_)
    ·rw [if_pos (by omega)] at hst
     unfold q74_J5
     simp only
     rw [wI64 (by omega) (by omega)]
     exact ⟨⟨i+1,_,_,by simp,hi2,hst,B2',F12⟩,by first|omega|(dsimp only;omega)⟩
    ·rw [if_neg (by omega)] at hst
     unfold q74_J5
     simp only
     rw [wI64 (by omega) (by omega)]
     exact ⟨⟨i+1,_,_,by simp,hi2,hst,B2',F12⟩,by first|omega|(dsimp only;omega)⟩
   refine joinP_id ?_
   refine cnd_d (fun h=>absurd h (by omega)) (fun _=>fin)
 ·intro hc0
  have hi2:i=256:=by omega
  subst hi2
  exact hk w1 m L B1 F1 H
structure BR (cnt:Nat→Nat) (L k M:Nat) (ln:Nat→Nat):Prop where
 l2:2≤L
 l256:L≤256
 last:0<cnt (L-1)
 out:∀i,L≤i→i<256→cnt i=0
 two:∃a,a<L-1∧0<cnt a
 sh:SHk (sF cnt 0 256) k
 ht:HT (fun i=>scN k (cnt i)) L M ln
 lr:LenR (fun i=>scN k (cnt i)) L (sF (fun i=>scN k (cnt i)) 0 256) 11 M ln
theorem BR.uniq {cnt ln ln':Nat→Nat} {L L' k k' M M':Nat} (h:BR cnt L k M ln) (h':BR cnt L' k' M' ln'):L=L'∧M=M'∧ln=ln':=by
 have key:∀ {A B kA kB MA MB:Nat} {la lb:Nat→Nat},BR cnt A kA MA la→BR cnt B kB MB lb→B≤A:=by
  intro A B kA kB MA MB la lb hA hB
  refine Classical.byContradiction fun hn => ?_
  have h1:=hA.out (B-1) (by omega) (by have:=hB.l256;have:=hB.l2;omega)
  have:=hB.last
  omega
 have e1:L=L':=by have:=key h h';have:=key h' h;omega
 subst e1
 have e2:=h.sh.uniq h'.sh
 subst e2
 exact ⟨rfl,h.lr.uniq h'.lr⟩
theorem c74 {cb:Nat} (W:HW w g s col) (htl0:s.tl=0) (hpt:s.pt=⟨none,0,0⟩) (C:Blk w cb (arrC .u32 256 fun i=>((cnt i:Nat):Int))) (hcol:¬own (col cb)) (hcnt:∀i,i<256→cnt i≤2^18)
  (hk0:∀w' v,ER w' v→(∀a b,a≠b→a<256→b<256→0<cnt a→0<cnt b→False)→Fm w w' [g]→K2 v w')
  (hk1:∀w' s' col' M ln L k,BR cnt L k M ln→HW w' g s' col'→PTc w' s'.pt M ln L→s'.tl=11→s'.reuse=s.reuse→s'.wll=s.wll→s'.ptl=(M:Nat)→VecU w' s'.out []→GoW w w' col col'→FseC w' s'.fse col'→K2 .nilIface w') :
  callP Tryz.prog 19 #[.pointer (some ⟨g,0,none⟩),.pointer (some ⟨cb,0,none⟩)] [.c .V] K2 w:=by
 have hcg:cb≠g:=fun e=>hcol (by rw [e,W.cg];exact ⟨by decide,by decide⟩)
 have hsum:sF cnt 0 256≤256*2^18:=sF_le_mul (fun j hj=>hcnt j hj)
 apply q74_ok
 unfold q74
 refine ⟨(fun h=>by cases h),fun _=>⟨(fun h=>by cases h),fun _ => ?_⟩⟩
 refine c61 (s1:=⟨none,0,0⟩) (t:=0) W htl0 (by decide) (fun h=>absurd h ?_) ?_
 ·intro h
  rcases h with h|h
  ·exact absurd h (show ¬(262143<0) by decide)
  ·exact h (.inl htl0)
 intro _ w1 s1 col1 P R hc1 F1
 refine ⟨rfl,nil_cnd ?_⟩
 have htl1:s1.tl=((11:Nat):Int):=by
  rcases R.tl with h|h
  ·obtain ⟨t',h1,h2,_⟩:=P.tlP;omega
  ·exact h.2
 have C1:=C.fr F1 (nm1 hcg)
 refine ⟨_,rfl,?_⟩
 refine ldA_b C1 (fun i hi=>by rw [arrC_get hi];rfl) ?_
 intro c7 hs7 h7
 have h7':∀i,i<256→c7[i]? = some (.int .u32 ((cnt i:Nat):Int)):=fun i hi=>by rw [h7 i hi,arrC_get hi]
 refine ⟨_,rfl,?_⟩
 refine stA_b P.blk (fun i hi=>by rw [HU.count_at _ hi];rfl) hs7 (fun i v hi hv=>by rw [h7' i hi] at hv;injection hv with hv;rw [←hv];rfl) ?_
 intro w2 B2 F2
 have B2':Blk w2 g ({ s1 with count:=fun i=>((cnt i:Nat):Int) } : HU).at:=by
  refine B2.congr ?_
  funext i
  unfold HU.at
  by_cases hi:i<256
  ·rw [if_pos hi,if_pos hi,h7' i hi]
  ·rw [if_neg hi,if_neg hi,if_neg hi];rfl
 refine joinP_id ⟨_,rfl,?_⟩
 refine ldA_b B2' (fun i hi=>by rw [HU.count_at _ hi];rfl) ?_
 intro c11 hs11 h11
 refine t74_cnt hcnt (fun i hi=>by rw [h11 i hi,HU.count_at _ hi]) ?_
 intro m L H
 have hown:∀v ∈ [g],v<w.heap.size→own (col v):=by intro v hv _;simp at hv;subst hv;rw [W.cg];exact ⟨by decide,by decide⟩
 have G1:GoW w w1 col col1:=GoW.of F1 hown hc1
 have hcg1:col1 g=1:=P.cg
 have hown1:∀v ∈ [g],v<w1.heap.size→own (col1 v):=by intro v hv _;simp at hv;subst hv;rw [hcg1];exact ⟨by decide,by decide⟩
 have F02:Fm w w2 [g]:=F1.trans F2 (fun x hx => .inl hx)
 unfold q74_J12
 simp only
 have n9:∀v ∈ [g],7≤v:=by intro v hv;simp at hv;rw [hv];exact W.g9
 have er1:∀ {w3:World} (F3:Fm w w3 [g]) (hn:∀a b,a≠b→a<256→b<256→0<cnt a→0<cnt b→False),(ld .V ⟨1,0,none⟩ fun (v22:Value)=>K2 v22) w3:=by
  intro w3 F3 hn
  obtain ⟨v,h1,h2,h3⟩:=(W.er 1 (by decide)).fm F3 (fun h=>by have:=n9 1 h;omega)
  exact ⟨v,h1,hk0 w3 v (.inl ⟨⟨1,by decide,h1⟩,h2⟩) hn F3⟩
 refine cnd_d (fun h0 => ?_) (fun h0=>cnd_d (fun hL => ?_) (fun hL=>cnd_d (fun hmS => ?_) (fun hmS => ?_)))
 ·refine c62e ?_
  intro w3 v F3 hv _
  refine hk0 w3 v hv ?_ (F02.trans F3 (by simp))
  intro a b hab ha hb ha0 hb0
  have:=(H.two hab ha hb ha0 hb0).2
  omega
 ·exact er1 F02 (fun a b hab ha hb ha0 hb0=>by have:=(H.two hab ha hb ha0 hb0).1;omega)
 ·exact er1 F02 (fun a b hab ha hb ha0 hb0=>by have:=(H.two hab ha hb ha0 hb0).2;omega)
 have hL2:2≤L:=by omega
 have hL256:L≤256:=H.li
 have hmS':m≠sF cnt 0 256:=by omega
 obtain ⟨a0,ha0,ha0p⟩:=H.ab hL2 hmS'
 have hlast:0<cnt (L-1):=H.last.resolve_left (by omega)
 have fin:∀(k m2:Nat) (w3:World) (c':Nat→Int),SHk (sF cnt 0 256) k→k≤9→(∀i,i<256→c' i=((scN k (cnt i):Nat):Int))→Fm w1 w3 [g]→Blk w3 g ({ s1 with count:=c' } : HU).at→q74_J11 K2 (some ⟨g,0,none⟩,.nilIface) (((sF cnt 0 256:Nat):Int),(m:Int),(L:Int)) (((sF (fun i=>scN k (cnt i)) 0 256:Nat):Int),(m2:Int)) w3:=by
  intro k m2 w3 c' hS hk9 hc' F3 B3
  have hs1:=scN_sum cnt k 256
  have hS1:=hS.1
  have hle:=sF_mono_n (fun i=>scN k (cnt i)) hL256
  have hltc:∀i,i<256→scN k (cnt i)<2^18:=by
   intro i hi
   by_cases e:k=0
   ·subst e
    rw [scN_zero]
    have h1:=sF_mem cnt 0 (n:=256) (i:=i) (Nat.zero_le _) (by omega)
    rw [Nat.pow_zero,Nat.div_one] at hS1
    omega
   ·have h1:=scN_le k (cnt i)
    have h2:=hcnt i hi
    have h3:2^1≤2^k:=Nat.pow_le_pow_right (by omega) (by omega)
    have h4:cnt i/2^k≤cnt i/2^1:=Nat.div_le_div_left h3 (by decide)
    omega
  refine t74 (cnt:=fun i=>scN k (cnt i)) (t:=11) P (by rw [R.pt];exact hpt) F3 B3 hc' hL2 hL256 (fun i hi=>hltc i (by omega)) ⟨a0,L-1,by omega,by omega,by omega,scN_pos.mpr ha0p,scN_pos.mpr hlast⟩ hle (by omega) (by omega) htl1 (Nat.le_refl _) ?_
  intro w4 s4 col4 M ln hHT hLR W4 P4 t4 r4 l4 p4 o4 G4 f4
  have G13:GoW w1 w3 col1 col1:=GoW.of F3 hown1 (fun _ _=>rfl)
  refine hk1 w4 s4 col4 M ln L k ⟨hL2,hL256,hlast,fun i h1 h2=>H.out i h1 h2,⟨a0,ha0,ha0p⟩,hS,hHT,hLR⟩ W4 P4 (t4.trans htl1) (r4.trans R.reuse) (l4.trans R.wll) p4 o4 ((G1.trans G13).trans G4) f4
 refine joinP_id ?_
 refine cnd_d (fun hbig => ?_) (fun hsm => ?_)
 ·refine joinP_id ?_
  refine t74_sh (by omega) ?_
  intro k hk9 hS
  unfold q74_J9
  refine ⟨by omega,joinP_id ⟨_,rfl,?_⟩⟩
  have B2s:Blk w2 g ({ s1 with count:=scF k 0 cnt } : HU).at:=by
   refine B2'.congr ?_
   have:scF k 0 cnt=fun i=>((cnt i:Nat):Int):=by funext i;unfold scF;rw [if_neg (by omega)]
   rw [this]
  refine ldA_b B2' (fun i hi=>by rw [HU.count_at _ hi];rfl) ?_
  intro c30 hs30 h30
  refine t74_sc hk9 hcnt (fun i hi=>by rw [h30 i hi,HU.count_at _ hi]) B2s ?_
  intro w3 m3 L3 B3 F3 H3
  unfold q74_J8
  simp only
  refine cnd_d (fun he => ?_) (fun he => ?_)
  ·exact er1 (F02.trans F3 (fun x hx => .inl hx)) (fun a b hab ha hb ha0 hb0=>by have:=(H3.two hab ha hb (scN_pos.mpr ha0) (scN_pos.mpr hb0)).2;omega)
  ·exact fin k m3 w3 _ hS hk9 (fun i hi=>by unfold scF;rw [if_pos hi]) (F2.trans F3 (fun x hx => .inl hx)) B3
 ·have hS0:SHk (sF cnt 0 256) 0:=⟨by rw [Nat.pow_zero,Nat.div_one];omega,fun j hj=>absurd hj (Nat.not_lt_zero _)⟩
  have e0:(fun i=>scN 0 (cnt i))=cnt:=by funext i;exact scN_zero _
  have:=fin 0 m w2 _ hS0 (by decide) (fun i hi=>by rw [scN_zero]) F2 B2'
  rw [e0] at this
  exact this
end
theorem fm_new {w w1 w2:World} {col:Nat→Nat} (F1:Fm w w1 []) (hold:∀v,v<w.heap.size→¬own (col v)) (h:∃S,Fm w1 w2 S∧∀v∈S,v<w1.heap.size→own (col v)):Fm w w2 []:=by
 obtain ⟨S,F,hS⟩:=h
 refine F1.trans F ?_
 intro v hv
 right
 have hs:=F1.size
 rcases Nat.lt_or_ge v w.heap.size with h1|h1
 ·exact absurd (hS v hv (by omega)) (hold v h1)
 ·exact h1
section
variable {w:World} {g L M:Nat} {s:HU} {col:Nat→Nat} {cnt ln:Nat→Nat}
theorem c46 {K2:Sl×Value→PT} (W:HW w g s col) (hP:PTc w s.pt M ln L) (hptl:s.ptl=(M:Nat)) (h2:2≤L) (hO:VecU w s.out []) (hF:FseC w s.fse col)
  (hk0:129<L→∀w' v,EG w' v→w'.cell? ⟨0,0,none⟩=some v→(∃S,Fm w w' S∧∀v∈S,v<w.heap.size→own (col v))→K2 (⟨none,0,0⟩,v) w')
  (hk1:∀w' o tbl,By tbl→tbl.length≤129→weightsZ tbl=some (wtL M ln L,tbl.length)→VecU w' o tbl→(∃S,Fm w w' S∧∀v∈S,v<w.heap.size→own (col v))→K2 (o,.nilIface) w') :
  callP Tryz.prog 13 #[.pointer (some ⟨g,0,none⟩),.slice none 0 0] [.c .S,.c .V] K2 w:=by
 obtain ⟨qb,pc,Q,cnt',e1,h256,HQ',hQ,HTc,hL256,hL0⟩:=hP
 obtain ⟨fb,fs,hfse,SWf,hfc⟩:=hF
 have hol:=hO.len
 have hout:(⟨s.out.a,0,s.out.c⟩:Sl)=s.out:=by
  have:s.out.l=0:=hol
  cases h:s.out with
  | mk a l c=>rw [h] at this;simp only at this;rw [this]
 have o2:=W.out.co
 have cqb:col qb=5:=W.pt.co qb (by rw [e1];simp [Sl.bs])
 apply q46_ok (p0:=⟨g,0,none⟩) (s1:=⟨none,0,0⟩)
 unfold q46
 simp only [add_mk,Nat.zero_add]
 refine ⟨(fun h=>by cases h),fun _ => ?_⟩
 refine ld_b (t := .S) (x:=⟨some ⟨qb,0,none⟩,L,pc⟩) W.blk (by show some s.pt.val=_;rw [e1];rfl) (cnd_d (fun h=>absurd h (by simp only;omega)) (fun _ => ?_))
 refine ld_b (t := .S) (x:=s.out) W.blk rfl ?_
 refine ld_b (t := .I .u8) (x:=s.atl) W.blk rfl ?_
 refine ld_b (t := .I .u16) (x:=s.symL) W.blk rfl ?_
 refine joinP_id ?_
 refine ld_b (t := .P) (x:=some ⟨fb,0,none⟩) W.blk (by show some (Value.pointer s.fse)=_;rw [hfse];rfl) ⟨(fun h=>by cases h),fun _ => ?_⟩
 unfold q46_J0
 simp only [add_mk,Nat.zero_add]
 refine ld_b (t := .S) (x:=s.out) W.blk rfl ?_
 refine slc_hi (m:=0) rfl (Nat.zero_le _) ?_
 refine st_u W.blk rfl rfl ?_
 intro w1 B1 F1
 have B1':Blk w1 g s.at:=by
  refine B1.congr ?_
  rw [hout]
  exact HU.setT (s:=s) (s':=s) 0 rfl rfl rfl (by decide)
 refine ld_b (t := .I .u8) (x:=((M:Nat):Int)) B1' (by show some (Value.int .u8 s.ptl)=_;rw [hptl];rfl) ?_
 refine st_u B1' rfl rfl ?_
 intro w2 B2 F2
 have B2':=B2.congr (HU.setT (s' := { s with atl:=((M:Nat):Int) }) 12 rfl rfl rfl (by decide))
 refine ld_b (t := .S) (x:=⟨some ⟨qb,0,none⟩,L,pc⟩) B2' (by show some s.pt.val=_;rw [e1];rfl) ?_
 have eL:IntKind.u16.wrap ((L:Nat):Int)=((L:Nat):Int):=wU16 (by omega) (by omega)
 dsimp only
 rw [eL]
 refine st_u B2' rfl rfl ?_
 intro w3 B3 F3
 have B3':=B3.congr (HU.setT (s' := { s with atl:=((M:Nat):Int),symL:=((L:Nat):Int) }) 9 rfl rfl rfl (by decide))
 refine ld_b (t := .S) (x:=⟨some ⟨qb,0,none⟩,L,pc⟩) B3' (by show some s.pt.val=_;rw [e1];rfl) ?_
 have F03:Fm w w3 [g]:=(F1.trans F2 (fun x hx => .inl hx)).trans F3 (fun x hx => .inl hx)
 have dgo:g∉s.out.bs:=fun h=>by have:=o2 g h;rw [W.cg] at this;cases this
 have dgf:g∉SB fb fs:=fun h=>by have:=hfc g h;rw [W.cg] at this;cases this
 have dof:∀v∈s.out.bs,v∉SB fb fs:=fun v hv h=>by have:=hfc v h;rw [o2 v hv] at this;cases this
 have dgq:g≠qb:=fun e=>by rw [←e,W.cg] at cqb;cases cqb
 have n9:∀v ∈ [g],7≤v:=by intro v hv;simp at hv;rw [hv];exact W.g9
 have ng:∀v,v≠g→v ∉ [g]:=fun v h=>nm1 h
 have hown:∀v∈g::(s.out.bs++SB fb fs),v<w.heap.size→own (col v):=by
  intro v hv _
  rcases List.mem_cons.mp hv with h|h
  ·rw [h,W.cg];exact ⟨by decide,by decide⟩
  ·rcases List.mem_append.mp h with h|h
   ·rw [o2 v h];exact ⟨by decide,by decide⟩
   ·rw [hfc v h];exact ⟨by decide,by decide⟩
 refine c65 (M:=M) (L:=L) (ln:=ln) (pre := []) (tb:=qb) B3' rfl h2 hL256 rfl HTc.m1 HTc.m11 hfse (SWf.mv F03 (fun v hv=>nm1 (fun e=>dgf (e▸hv)))) (W.gl.fm F03 n9) ((W.er 0 (by decide)).fm F03 (fun h=>by have:=n9 0 h;omega)) (fun v hv=>W.nine (by rw [hfc v hv];decide)) W.g9
  (hO.fr F03 (fun v hv=>nm1 (fun e=>dgo (e▸hv)))) (fun v hv=>W.nine (by rw [o2 v hv];decide)) (by simp) (HQ'.fr F03 (nm1 dgq.symm)) (fun i hi=>(hQ i hi).2) HTc.le dgo dgf dof dgq (fun h=>by have:=o2 qb h;rw [cqb] at this;cases this) (fun h=>by have:=hfc qb h;rw [cqb] at this;cases this) ?_ ?_
 ·intro h129 w4 fs4 hw4 v hv hv0 B4 HO4 T4
  refine ⟨isPE.ifc hv.2,err_cnd (isPE.nil hv.2) ?_⟩
  refine st_u B4 rfl rfl ?_
  intro w5 B5 F5
  have B5':=B5.congr (HU.setT (s' := { s with atl:=((M:Nat):Int),symL:=((L:Nat):Int),hw:=hw4 }) 0 rfl rfl rfl (by decide))
  refine st_u B5' rfl rfl ?_
  intro w6 B6 F6
  have B6':=B6.congr (HU.setT (s' := { s with symL:=((L:Nat):Int),hw:=hw4 }) 12 rfl rfl rfl (by decide))
  refine st_u B6' rfl rfl ?_
  intro w7 B7 F7
  have F47:Fm w4 w7 [g]:=(F5.trans F6 (fun x hx => .inl hx)).trans F7 (fun x hx => .inl hx)
  have h0l:=World.block_lt_of_cell? _ _ hv0
  refine hk0 h129.2 w7 v (hv.fm F47 n9) ?_ ⟨g::(s.out.bs++SB fb fs),?_,hown⟩
  ·rw [←hv0];exact cell?_of_heap (F47.old 0 h0l (fun h=>by have:=n9 0 h;omega)) _ _
  ·exact ((F03.mono (S':=g::(s.out.bs++SB fb fs)) (by intro v hv;left;simp at hv;simp [hv])).trans T4.fr (fun x hx => .inl hx)).trans F47 (by intro v hv;left;simp at hv;simp [hv])
 ·intro w4 fs4 hw4 o tbl _ hby hl129 hwt HO4 B4 T4
  refine ⟨rfl,nil_cnd ?_⟩
  have HO4:VecU w4 o tbl:=HO4
  have hol4:=HO4.len
  refine ld_b (t := .S) (x:=o) B4 rfl ?_
  refine app_vu (xs:=tbl) VecU.nil HO4.vec.arr.has (by simp only;omega) ?_
  intro s5 w5 V5 F5 n5
  have V5:VecU w5 s5 tbl:=V5
  have hgl:=B4.lt
  have B5:=B4.fr F5 (by simp [Sl.bs])
  have hs5:g∉s5.bs:=fun h=>by
   rcases n5 g h with h1|h1
   ·simp [Sl.bs] at h1
   ·omega
  refine st_u B5 rfl rfl ?_
  intro w6 B6 F6
  have B6':=B6.congr (HU.setT (s' := { s with atl:=((M:Nat):Int),symL:=((L:Nat):Int),hw:=hw4 }) 0 rfl rfl rfl (by decide))
  refine st_u B6' rfl rfl ?_
  intro w7 B7 F7
  have B7':=B7.congr (HU.setT (s' := { s with symL:=((L:Nat):Int),hw:=hw4 }) 12 rfl rfl rfl (by decide))
  refine st_u B7' rfl rfl ?_
  intro w8 B8 F8
  have F58:Fm w5 w8 [g]:=(F6.trans F7 (fun x hx => .inl hx)).trans F8 (fun x hx => .inl hx)
  refine hk1 w8 s5 tbl hby hl129 hwt (V5.fr F58 (fun v hv=>nm1 (fun e=>hs5 (e▸hv)))) ⟨g::(s.out.bs++SB fb fs),?_,hown⟩
  exact (((F03.mono (S':=g::(s.out.bs++SB fb fs)) (by intro v hv;left;simp at hv;simp [hv])).trans T4.fr (fun x hx => .inl hx)).trans F5 (by simp [Sl.bs])).trans F58 (by intro v hv;left;simp at hv;simp [hv])
end
section
variable {w:World} {b:Nat} {cnt:Nat→Nat}
theorem c56 {K1:Option Addr×Value→PT} (G:GE w) (C:Blk w b (arrC .u32 256 fun i=>((cnt i:Nat):Int))) (hcnt:∀i,i<256→cnt i≤2^18)
  (hk0:∀w' p v,ER w' v→(∀a b,a≠b→a<256→b<256→0<cnt a→0<cnt b→False)→Fm w w' []→K1 (p,v) w')
  (hk1:∀w' g s' col' M ln L k,BR cnt L k M ln→HW w' g s' col'→PTc w' s'.pt M ln L→s'.tl=11→s'.reuse=0→s'.wll=0→s'.ptl=(M:Nat)→VecU w' s'.out []→FseC w' s'.fse col'→(∀v,v<w.heap.size→¬own (col' v))→Fm w w' []→K1 (some ⟨g,0,none⟩,.nilIface) w') :
  callP Tryz.prog 11 #[.slice (some ⟨b,0,none⟩) 256 256] [.c .P,.c .V] K1 w:=by
 have hbl:=C.lt
 apply q56_ok (s0:=⟨some ⟨b,0,none⟩,256,256⟩)
 unfold q56
 refine nw_n ?_
 intro w1 F1 hs1 B1
 have hb1:b≠w.heap.size:=by omega
 have C1:=C.fr F1 (by simp)
 refine slcA_all (by decide) ?_
 refine cpy_b (n:=256) B1 C1 rfl (fun i hi=>⟨_,arrC_get (by omega),rfl⟩) (fun i hi=>by rw [arrC_get (by omega)];rfl) ?_
 intro w2 B2 F2
 have B2':Blk w2 w.heap.size (arrC .u32 256 fun i=>((cnt i:Nat):Int)):=by
  refine B2.congr ?_
  funext i
  by_cases hi:i<256*1
  ·rw [if_pos hi]
  ·rw [if_neg hi];unfold arrC;rw [if_neg (by omega),if_neg (by omega)]
 have F02:Fm w w2 []:=F1.trans F2 (by intro v hv;right;simp at hv;omega)
 unfold nwA
 have F3:Fm w2 (w2.alloc (.cells ⟨z94⟩ 60)) []:=(Fm.refl w2 []).alloc
 have B3:=(Blk.new (w:=w2) (cs:=⟨z94⟩) (T:=60)).congr HU.atZ
 have hs3:(w2.alloc (.cells ⟨z94⟩ 60)).heap.size=w2.heap.size+1:=World.size_alloc _ _
 have hsz2:=F02.size
 have hcl:=B2'.lt
 generalize w2.alloc (.cells ⟨z94⟩ 60)=w3 at *
 have W3:HW w3 w2.heap.size HU.zero (colF w2.heap.size):=HW.fresh (G.fm F02) F3 B3 rfl rfl rfl rfl rfl rfl (fun _ _=>rfl)
 have F03:Fm w w3 []:=F02.trans F3 (by simp)
 refine c74 (cb:=w.heap.size) W3 rfl rfl (B2'.fr F3 (by simp)) (colF_far (by omega)) hcnt ?_ ?_
 ·intro w4 v hv hn F4
  exact hk0 w4 _ v hv hn (F03.trans F4 (by intro v hv;right;simp at hv;omega))
 ·intro w4 s4 col4 M ln L k hB W4 P4 t4 r4 l4 p4 o4 G4 f4
  refine hk1 w4 _ s4 col4 M ln L k hB W4 P4 t4 r4 l4 p4 o4 f4 ?_ (fm_new F03 (col:=colF w2.heap.size) (fun v hv h=>by have:=colF_own h;omega) G4.fr)
  intro v hv
  rw [G4.old v (by omega) (colF_far (by omega))]
  exact colF_far (by omega)
theorem c39 {K1:Sl×Int→PT} (G:GE w) (C:Blk w b (arrC .u32 256 fun i=>((cnt i:Nat):Int))) (hcnt:∀i,i<256→cnt i≤2^18)
  (hk0:∀w' k,1≤k→k≤4→((∃a b,a≠b∧a<256∧b<256∧0<cnt a∧0<cnt b)→k=1∧∃i,128<i∧i<256∧0<cnt i)→Fm w w' []→K1 (⟨none,0,0⟩,k) w')
  (hk1:∀w' T M ln L k tbl,BR cnt L k M ln→By tbl→tbl.length≤129→weightsZ tbl=some (wtL M ln L,tbl.length)→VecU w' T tbl→Fm w w' []→K1 (T,0) w') :
  callP Tryz.prog 5 #[.slice (some ⟨b,0,none⟩) 256 256] [.c .S,.c (.I .i64)] K1 w:=by
 apply q39_ok (s0:=⟨some ⟨b,0,none⟩,256,256⟩)
 unfold q39
 refine c56 G C hcnt ?_ ?_
 ·intro w1 p v hv hn F1
  refine ⟨isPE.ifc hv.pe,err_cnd (isPE.nil hv.pe) ?_⟩
  refine c51 (G.fm F1) hv (fun k h1 h2 _=>hk0 w1 k h1 h2 ?_ F1)
  rintro ⟨x,y,hxy,hx,hy,hx0,hy0⟩
  exact absurd (hn x y hxy hx hy hx0 hy0) id
 ·intro w1 g s1 col1 M ln L k hB W1 P1 t1 r1 l1 p1 o1 f1 hold F1
  refine ⟨rfl,nil_cnd ?_⟩
  refine c46 W1 P1 p1 hB.l2 o1 f1 ?_ ?_
  ·intro h129 w2 v hv hv0 hF
   have F2:=fm_new F1 hold hF
   refine ⟨isPE.ifc hv.2,err_cnd (isPE.nil hv.2) ?_⟩
   refine c51 (G.fm F2) (.inl hv) (fun k h1 h2 h3=>hk0 w2 k h1 h2 (fun _=>⟨h3 hv0,L-1,by omega,by have:=hB.l256;omega,hB.last⟩) F2)
  ·intro w2 o tbl hby hl hwt V2 hF
   have F2:=fm_new F1 hold hF
   refine ⟨rfl,nil_cnd ?_⟩
   refine c47 V2.vec.arr (by omega) ?_
   intro w3 r3 V3 F3 n3
   exact hk1 w3 r3 M ln L k tbl hB hby hl hwt V3 (F2.trans F3 (by simp))
theorem c41 {K3:Sl×Int→PT} {s1:Sl} {xs:List Nat} (G:GE w) (C:Blk w b (arrC .u32 256 fun i=>((cnt i:Nat):Int))) (hcnt:∀i,i<256→cnt i≤2^18) (A:Arr .u8 w s1 xs) (hby:By xs) (hle:xs.length≤2^18)
  (hk0:∀w' k,1≤k→k≤4→Fm w w' []→K3 (⟨none,0,0⟩,k) w')
  (hk1:∀w' o M ln L k ol,BR cnt L k M ln→EncT (vC ln L M) ln xs ol→(∀x∈xs,x<L∧0<ln x)→ol.length<xs.length→VecU w' o ol→Fm w w' []→K3 (o,0) w') :
  callP Tryz.prog 6 #[.slice (some ⟨b,0,none⟩) 256 256,.slice s1.a s1.l s1.c,.bool false] [.c .S,.c (.I .i64)] K3 w:=by
 apply q41_ok (s0:=⟨some ⟨b,0,none⟩,256,256⟩)
 unfold q41
 refine c56 G C hcnt ?_ ?_
 ·intro w1 p v hv hn F1
  refine ⟨isPE.ifc hv.pe,err_cnd (isPE.nil hv.pe) ?_⟩
  exact c51 (G.fm F1) hv (fun k h1 h2 _=>hk0 w1 k h1 h2 F1)
 ·intro w1 g s2 col1 M ln L k hB W1 P1 t1 r1 l1 p1 o1 f1 hold F1
  refine ⟨rfl,nil_cnd ⟨_,rfl,?_⟩⟩
  simp only [add_mk,Nat.zero_add]
  refine st_u W1.blk rfl rfl ?_
  intro w2 B2 F2
  have B2':=B2.congr (HU.setT (s' := { s2 with reuse:=3 }) 7 rfl rfl rfl (by decide))
  have W2:=W1.same (s' := { s2 with reuse:=3 }) B2' F2 rfl rfl rfl rfl rfl W1.mx W1.cz
  have hown:∀v ∈ [g],v<w1.heap.size→own (col1 v):=by intro v hv _;simp at hv;subst hv;rw [W1.cg];exact ⟨by decide,by decide⟩
  have G2:GoW w1 w2 col1 col1:=GoW.of F2 hown (fun _ _=>rfl)
  have far1:∀a,s1.a=some a→xs ≠ []→¬own (col1 a.block):=fun a ha hx=>hold _ (A.old hx a ha)
  have A1:=A.fr F1 (by simp)
  have A2:=G2.arr A1 far1
  have kg:=W1.keepG (r:=5) (by decide)
  have P2:PTc w2 s2.pt M ln L:=P1.mv F2 (fun v hv=>kg.out (W1.pt.co v hv) (W1.pt.own.lt v hv))
  refine c50 (b:=false) (t:=11) (M0:=M) (ln0:=ln) (L0:=L) (s := { s2 with reuse:=3 }) W2 (by show s2.tl=_;rw [t1];rfl) (by decide) l1 A2 hby hle far1 (.inr P2) ⟨?_,?_,?_⟩
  ·intro w3 s3 col3 v hv _ _ W3 _ S3 G3
   have F3:=fm_new F1 hold (G2.trans G3).fr
   refine ⟨isPE.ifc hv.pe,err_cnd (isPE.nil hv.pe) ?_⟩
   exact c51 (G.fm F3) hv (fun k h1 h2 _=>hk0 w3 k h1 h2 F3)
  ·intro w3 s3 col3 so ol _ hEn hx hlt hso V3 W3 P3 _ S3 G3
   have F3:=fm_new F1 hold (G2.trans G3).fr
   have hEn:EncT (vC ln L M) ln xs ol:=hEn
   refine ⟨rfl,nil_cnd ?_⟩
   refine c47 V3.vec.arr (by omega) ?_
   intro w4 r4 V4 F4 n4
   exact hk1 w4 r4 M ln L k ol hB hEn hx hlt V4 (F3.trans F4 (by simp))
  ·intro w3 s3 col3 so M' ln' L' tbl ol hr
   exact absurd rfl hr
end
theorem sF_countE:∀ {xs:List Nat} {n:Nat},(∀x∈xs,x<n)→sF (fun i=>xs.count i) 0 n=xs.length
 | [],n,_=>sF_zero (fun i _=>by simp)
 | x::r,n,h=>by
  have e:sF (fun i=>(x::r).count i) 0 n=sF (fun i=>r.count i) 0 n+sF (fun i=>if x=i then 1 else 0) 0 n:=by
   rw [←sF_add]
   refine sF_congr (fun i _ _ => ?_)
   rw [List.count_cons]
   by_cases h:x=i
   ·subst h;simp
   ·rw [if_neg (by simpa using h),if_neg h]
  rw [e,sF_countE (fun y hy=>h y (List.mem_cons_of_mem _ hy)),sF_single (h x (List.mem_cons_self ..)) (fun i _ hi=>if_neg (fun e=>hi e.symm)),if_pos rfl,List.length_cons]
theorem BR.nt {xs:List Nat} {L k M:Nat} {ln:Nat→Nat} (hB:BR (fun i=>xs.count i) L k M ln) (hby:By xs) (hle:xs.length≤262143):NT xs M ln L∧LenR (fun i=>xs.count i) L xs.length 11 M ln:=by
 have hs:sF (fun i=>xs.count i) 0 256=xs.length:=sF_countE (fun x hx=>hby x hx)
 have hk:k=0:=by
  refine hB.sh.uniq ⟨?_,fun j hj=>absurd hj (Nat.not_lt_zero _)⟩
  rw [Nat.pow_zero,Nat.div_one,hs];exact hle
 subst hk
 have e0:(fun i=>scN 0 (xs.count i))=fun i=>xs.count i:=by funext i;exact scN_zero _
 have h1:=hB.ht
 have h2:=hB.lr
 rw [e0] at h1
 rw [e0,hs] at h2
 refine ⟨⟨h1,hB.l2,hB.l256,?_,hB.last,hB.two⟩,h2⟩
 intro i hi
 rcases Nat.lt_or_ge i 256 with h|h
 ·exact hB.out i hi h
 ·exact List.count_eq_zero.mpr (fun hh=>by have:=hby i hh;omega)
def levU (L M:Nat) (ln:Nat→Nat) (n s:Nat):List Cell3:=((List.range s).filter fun i=>lnx L ln i=n).map fun i=>(i,vC ln L M i,((n:Nat):Int))
def clZ (L M:Nat) (ln:Nat→Nat):Nat→List Cell3
 | 0 => []
 | k+1=>clZ L M ln k++levU L M ln (11-k) 256
theorem levU_succ (L M:Nat) (ln:Nat→Nat) (n s:Nat):levU L M ln n (s+1)=levU L M ln n s++(if lnx L ln s=n then [(s,vC ln L M s,((n:Nat):Int))] else []):=by
 unfold levU
 rw [List.range_succ,List.filter_append,List.map_append]
 congr 1
 by_cases h:lnx L ln s=n
 ·rw [if_pos h];simp [h]
 ·rw [if_neg h];simp [h]
theorem levU_len (L M:Nat) (ln:Nat→Nat) (n s:Nat):(levU L M ln n s).length≤s:=by
 unfold levU
 rw [List.length_map]
 exact Nat.le_trans (List.length_filter_le _ _) (by rw [List.length_range];omega)
theorem clZ_len (L M:Nat) (ln:Nat→Nat):∀k,(clZ L M ln k).length≤256*k
 | 0=>by simp [clZ]
 | k+1=>by
  have:=clZ_len L M ln k
  have:=levU_len L M ln (11-k) 256
  rw [clZ,List.length_append];omega
theorem flat3_app (a b:List Cell3):flat3 (a++b)=flat3 a++flat3 b:=by unfold flat3;rw [List.flatMap_append]
theorem cN_lnx {L n:Nat} {ln:Nat→Nat} (hn:0<n):∀s,s≤L→cN (lnx L ln) n s=cN ln n s
 | 0,_=>rfl
 | s+1,h=>by rw [cN,cN,cN_lnx hn s (by omega),lnx_lt (by omega)]
theorem cN_lnx_ge {L n:Nat} {ln:Nat→Nat} (hn:0<n):∀k,cN (lnx L ln) n (L+k)=cN ln n L
 | 0=>cN_lnx hn L (Nat.le_refl _)
 | k+1=>by rw [←Nat.add_assoc,cN,cN_lnx_ge hn k,lnx_ge (by omega),if_neg (by omega)];omega
theorem cN_none {f:Nat→Nat} {n:Nat} : ∀ {s},(∀i,i<s→f i≠n)→cN f n s=0
 | 0,_=>rfl
 | s+1,h=>by rw [cN,cN_none (fun i hi=>h i (by omega)),if_neg (h s (by omega))]
def nxV (L M:Nat) (ln:Nat→Nat) (n:Nat):Nat:=vJ (fun r=>cN ln r L) M (M-n)
section
variable {cnt ln:Nat→Nat} {L M n s:Nat}
theorem nxV_num (H:HT cnt L M ln) (hs:lnx L ln s=n) (hn:0<n):nxV L M ln n+cN (lnx L ln) n s=vC ln L M s:=by
 have hsL:s<L:=Classical.byContradiction fun h=>by rw [lnx_ge (by omega)] at hs;omega
 rw [lnx_lt hsL] at hs
 have hle:=H.le s hsL
 unfold vC vR nxV
 rw [cN_lnx hn s (by omega),hs,if_neg (by omega)]
theorem nxV_next (H:HT cnt L M ln) (hL:L≤256) (hn:0<n):nxV L M ln n+cN (lnx L ln) n 256=2*nxV L M ln (n-1):=by
 have e:=cN_lnx_ge (L:=L) (ln:=ln) hn (256-L)
 rw [show L+(256-L)=256 by omega] at e
 rw [e]
 unfold nxV
 rcases Nat.lt_or_ge M n with h|h
 ·rw [cN_none (fun i hi=>by have:=H.le i hi;omega),show M-n=0 by omega,show M-(n-1)=0 by omega]
  rfl
 ·have hk:=(kraft_ranks (M:=M) L H.le).symm.trans H.kr
  have h1:=(vJ_even (nb:=fun r=>cN ln r L) (j:=M-n) hk (by omega)).1
  rw [show M-(M-n)=n by omega,show M-n+1=M-(n-1) by omega] at h1
  exact h1
theorem nxV_le (H:HT cnt L M ln) (hL:L≤256):nxV L M ln n≤256:=vJ_le (fun r=>Nat.le_trans (cN_le ln r L) hL) _
end
section
variable {w:World}
theorem nw_3i {x y z:Int} {T:TypeId} {κ:Addr→PT} (hk:∀w',Fm w w' []→w'.heap.size=w.heap.size+1→Blk w' w.heap.size (c3C x y z)→κ ⟨w.heap.size,0,none⟩ w'):nw [.int .i64 x,.int .i64 y,.int .i64 z] T κ w :=
 hk _ (Fm.refl w []).alloc (World.size_alloc _ _) (Blk.new.congr (by funext i;rcases i with _|_|_|i<;>simp [c3C]))
theorem app_3 {T T':TypeId} {s:Sl} {κ:Sl→PT} {tab:List Cell3} {x:Cell3} {a b c:Int} (h:Vec 3 w s (flat3 tab)) (ha:a=(x.1:Nat)) (hb:b=(x.2.1:Nat)) (hc:c=x.2.2) (hl:tab.length<2^30)
  (hk:∀s' w',Vec 3 w' s' (flat3 (tab ++ [x]))→Fm w w' s.bs→(∀b∈s'.bs,b∈s.bs∨w.heap.size≤b)→κ s' w'):nw [.int .i64 a,.int .i64 b,.int .i64 c] T' (fun p=>app z155 T 24 s ⟨some p,1,1⟩ κ) w:=by
 subst ha hb hc
 have h1:=h.len
 rw [flat3_len] at h1
 refine nw_3i ?_
 intro w1 F1 hs1 B1
 refine app_v (zs:=z155) (xs:=cell3 x) (h.fr F1 (by simp)) ⟨rfl,?_,(fun h=>by cases h),by simp [cell3,one]⟩ (by decide) (by first|omega|(dsimp only;omega)|(simp only [];omega)) ?_
 ·intro b hb i hi
  injection hb with hb
  subst hb
  rw [add_mk,Nat.zero_add,B1.cell]
  have hi:i<3:=hi
  have:i=0∨i=1∨i=2:=by omega
  rcases this with rfl|rfl|rfl<;>rfl
 ·intro s' w' h2 h3 h4
  refine hk s' w' ?_ ((F1.mono (S':=s.bs) (by simp)).trans h3 (fun b hb => .inl hb)) ?_
  ·rw [flat3_app]
   have:flat3 [x]=cell3 x:=by simp [flat3]
   rw [this]
   exact h2
  ·intro b hb
   rcases h4 b hb with h5|h5
   ·exact .inl h5
   ·right;omega
theorem c73 {b:Nat} {cnt ln:Nat→Nat} {L M:Nat} {f:Nat→Int} {K:Sl→PT} (H:HT cnt L M ln) (hL:L≤256) (B:Blk w b (arrC .i64 256 f)) (hf:∀i,f i=(lnx L ln i:Nat)) (hk:∀w' s',Vec 3 w' s' (flat3 (clZ L M ln 11))→Fm w w' []→(∀v∈s'.bs,w.heap.size≤v)→K s' w') :
  callP Tryz.prog 28 #[.slice (some ⟨b,0,none⟩) 256 256] [.c .S] K w:=by
 have hbl:=B.lt
 apply q73_ok (s0:=⟨some ⟨b,0,none⟩,256,256⟩)
 unfold q73
 refine joinP_id ?_
 refine ⟨fun x w'=>∃k:Nat,k≤11∧x.2=(((nxV L M ln (11-k):Nat):Int),((11-k:Nat):Int))∧Vec 3 w' x.1 (flat3 (clZ L M ln k))∧Fm w w' []∧(∀v∈x.1.bs,w.heap.size≤v),fun x _=>x.2.2.toNat,⟨0,by omega,?_,Vec.nil,Fm.refl _ _,by simp [Sl.bs]⟩,?_⟩
 ·rw [Prod.mk.injEq]
  refine ⟨?_,rfl⟩
  unfold nxV
  rw [show M-(11-0)=0 by have:=H.m11;omega]
  rfl
 rintro ⟨x,y⟩ w1 ⟨k,hk11,hy,V1,F1,n1⟩
 simp only at hy V1 n1
 subst hy
 unfold q73_L4
 simp only
 refine cnd_d ?_ ?_
 ·intro hc
  have hn:0<11-k:=by omega
  have hcl:=clZ_len L M ln k
  refine joinP_id ?_
  refine joinP_id ?_
  refine ⟨fun x w'=>∃i:Nat,i≤256∧x.2=(((nxV L M ln (11-k)+cN (lnx L ln) (11-k) i:Nat):Int),(i:Int))∧Vec 3 w' x.1 (flat3 (clZ L M ln k++levU L M ln (11-k) i))∧Fm w w' []∧(∀v∈x.1.bs,w.heap.size≤v),fun x _=>256-x.2.2.toNat,⟨0,by omega,by rw [cN];rfl,by simpa [levU] using V1,F1,n1⟩,?_⟩
  rintro ⟨x,y⟩ w2 ⟨i,hi,hy,V2,F2,n2⟩
  simp only at hy V2 n2
  subst hy
  have hnx:=nxV_le (n:=11-k) H hL
  have hcN:=cN_le (lnx L ln) (11-k) i
  unfold q73_L1
  simp only
  refine cnd_d ?_ ?_
  ·intro hci
   have hi2:i<256:=by omega
   refine joinP_id ?_
   refine ixS_o rfl hi2 ?_
   rw [Nat.zero_add]
   refine ld_b (t := .I .i64) (x:=((lnx L ln i:Nat):Int)) (B.fr F2 (by simp)) (by rw [arrC_get hi2,hf i];rfl) ?_
   unfold q73_J0
   simp only
   refine cnd_d (fun he => ?_) (fun hne => ?_)
   ·have he':lnx L ln i=11-k:=by omega
    have hv:=nxV_num H he' hn
    have hll:=levU_len L M ln (11-k) i
    refine app_3 (x:=(i,vC ln L M i,((11-k:Nat):Int))) V2 rfl (by simp only;rw [←hv]) rfl (by rw [List.length_append];omega) ?_
    intro s' w3 V3 F3 n3
    rw [wI64 (by omega) (by omega),wI64 (by omega) (by omega)]
    refine ⟨⟨i+1,hi2,?_,?_,F2.trans F3 (fun v hv => .inr (n2 v hv)),?_⟩,by first|omega|(dsimp only;omega)|(simp only [];omega)⟩
    ·rw [cN,if_pos he',Prod.mk.injEq]
     exact ⟨by omega,by first|omega|(dsimp only;omega)⟩
    ·rw [levU_succ,if_pos he', ←List.append_assoc]
     exact V3
    ·intro v hv
     have hsz:=F2.size
     rcases n3 v hv with h|h
     ·exact n2 v h
     ·omega
   ·have hne':lnx L ln i≠11-k:=by omega
    rw [wI64 (by omega) (by omega)]
    refine ⟨⟨i+1,hi2,?_,?_,F2,n2⟩,by first|omega|(dsimp only;omega)|(simp only [];omega)⟩
    ·rw [cN,if_neg hne',Prod.mk.injEq]
     exact ⟨by omega,by first|omega|(dsimp only;omega)⟩
    ·rw [levU_succ,if_neg hne',List.append_nil]
     exact V2
  ·intro hci
   have hi2:i=256:=by omega
   subst hi2
   have hnext:=nxV_next H hL hn
   unfold q73_J2
   simp only
   refine ⟨by decide,cnd_nd (fun h => ?_) (fun _=>⟨by decide,?_⟩)⟩
   ·refine absurd ?_ h
    rw [hnext,show Int.tmod ((2*nxV L M ln (11-k-1):Nat):Int) (2:Int)=((2*nxV L M ln (11-k-1)%2:Nat):Int) from rfl]
    omega
   ·unfold q73_J3
    simp only
    rw [show (2:Int)=((2:Nat):Int) from rfl,quoI_nat _ _ _ (by simp only [IntKind.bits];omega),wI64 (by omega) (by omega)]
    refine ⟨⟨k+1,by omega,?_,?_,F2,n2⟩,by first|omega|(dsimp only;omega)|(simp only [];omega)⟩
    ·rw [Prod.mk.injEq]
     refine ⟨?_,by first|omega|(dsimp only;omega)⟩
     rw [hnext,Nat.mul_div_cancel_left _ (by omega)]
     rfl
    ·rw [clZ];exact V2
 ·intro hc
  have hk2:k=11:=by omega
  subst hk2
  unfold q73_J5
  exact hk w1 x V1 F1 n1
end
def mt (v n:Nat) (tab:List Cell3):List Nat:=(tab.filter fun c=>c.2.2=((n:Nat):Int)∧c.2.1=v).map fun c=>c.1
theorem mt_app (v n:Nat) (a b:List Cell3):mt v n (a++b)=mt v n a++mt v n b:=by unfold mt;rw [List.filter_append,List.map_append]
theorem mt_one (v n:Nat) (c:Cell3):mt v n [c]=if c.2.2=((n:Nat):Int)∧c.2.1=v then [c.1] else []:=by
 unfold mt
 by_cases h:c.2.2=((n:Nat):Int)∧c.2.1=v
 ·rw [if_pos h];simp [h]
 ·rw [if_neg h,List.filter_cons_of_neg (by simpa using h)];rfl
section
variable {cnt ln:Nat→Nat} {L M x:Nat}
theorem levU_mem {n s:Nat} {c:Cell3} (h:c∈levU L M ln n s):∃i,i<s∧lnx L ln i=n∧c=(i,vC ln L M i,((n:Nat):Int)):=by
 unfold levU at h
 obtain ⟨i,hi,e⟩:=List.mem_map.mp h
 obtain ⟨h1,h2⟩:=List.mem_filter.mp hi
 exact ⟨i,List.mem_range.mp h1,by simpa using h2,e.symm⟩
theorem clZ_mem {c:Cell3} : ∀ {k},c∈clZ L M ln k→∃i n,i<256∧lnx L ln i=n∧c=(i,vC ln L M i,((n:Nat):Int))
 | 0,h=>by simp [clZ] at h
 | k+1,h=>by
  rw [clZ] at h
  rcases List.mem_append.mp h with h|h
  ·exact clZ_mem h
  ·obtain ⟨i,h1,h2,h3⟩:=levU_mem h
   exact ⟨i,_,h1,h2,h3⟩
theorem vC_eq (H:HT cnt L M ln) {i j:Nat} (hi:i<L) (hj:j<L) (he:ln i=ln j) (hv:vC ln L M i=vC ln L M j):i=j:=by
 rcases Nat.lt_trichotomy i j with h|h|h
 ·have:=vC_inj (L:=L) (M:=M) h he;omega
 ·exact h
 ·have:=vC_inj (L:=L) (M:=M) h he.symm;omega
theorem mt_levU (H:HT cnt L M ln) (hx:x<L) (h0:0<ln x) (n:Nat):∀s,mt (vC ln L M x) (ln x) (levU L M ln n s)=if n=ln x∧x<s then [x] else []
 | 0=>by simp [levU,mt]
 | s+1=>by
  rw [levU_succ,mt_app,mt_levU H hx h0 n s]
  by_cases hn:n=ln x
  ·subst hn
   by_cases hs:lnx L ln s=ln x
   ·have hsL:s<L:=Classical.byContradiction fun h=>by rw [lnx_ge (by omega)] at hs;omega
    have hs':=hs
    rw [lnx_lt hsL] at hs'
    rw [if_pos hs,mt_one]
    by_cases e:s=x
    ·subst e
     rw [if_neg (by omega),if_pos ⟨rfl,rfl⟩,if_pos ⟨rfl,by omega⟩];rfl
    ·rw [if_neg (c:=_∧_) (fun h=>e (vC_eq H hsL hx hs' h.2)),List.append_nil]
     by_cases h:x<s
     ·rw [if_pos ⟨rfl,h⟩,if_pos ⟨rfl,by omega⟩]
     ·rw [if_neg (fun h'=>h h'.2),if_neg (fun h'=>by omega)]
   ·rw [if_neg hs]
    have hne:s≠x:=fun e=>hs (by rw [e];exact lnx_lt hx)
    show _ ++ []=_
    rw [List.append_nil]
    by_cases h:x<s
    ·rw [if_pos ⟨rfl,h⟩,if_pos ⟨rfl,by omega⟩]
    ·rw [if_neg (fun h'=>h h'.2),if_neg (fun h'=>by omega)]
  ·have e1:∀s',(if n=ln x∧x<s' then [x] else [])=([]:List Nat):=fun s'=>if_neg (fun h=>hn h.1)
   rw [e1,e1,List.nil_append]
   by_cases hs:lnx L ln s=n
   ·rw [if_pos hs,mt_one,if_neg]
    rintro ⟨h1,_⟩
    exact hn (by have h1:((n:Nat):Int)=((ln x:Nat):Int):=h1;omega)
   ·rw [if_neg hs];rfl
theorem mt_clZ (H:HT cnt L M ln) (hx:x<L) (hL:L≤256) (h0:0<ln x):∀k,k≤11→mt (vC ln L M x) (ln x) (clZ L M ln k)=if 11<ln x+k then [x] else []
 | 0,_=>by
  have h1:=H.le x hx
  have h2:=H.m11
  rw [if_neg (by omega)];rfl
 | k+1,hk=>by
  rw [clZ,mt_app,mt_clZ H hx hL h0 k (by omega),mt_levU H hx h0]
  by_cases h1:11<ln x+k
  ·rw [if_pos h1,if_neg (by omega),if_pos (by omega)];rfl
  ·rw [if_neg h1]
   by_cases h2:11-k=ln x
   ·rw [if_pos ⟨h2,by omega⟩,if_pos (by omega)];rfl
   ·rw [if_neg (fun h=>h2 h.1),if_neg (by omega)];rfl
theorem mt_some (H:HT cnt L M ln) (hx:x<L) (hL:L≤256) (h0:0<ln x):mt (vC ln L M x) (ln x) (clZ L M ln 11) = [x]:=by
 rw [mt_clZ H hx hL h0 11 (by omega),if_pos (by omega)]
theorem hE_lt (H:HT cnt L M ln):∀ {xs:List Nat},(∀x∈xs,x<L∧0<ln x)→(hE (vC ln L M) ln xs).1<2^(hE (vC ln L M) ln xs).2
 | [],_=>by simp [hE]
 | x::r,h=>by
  have h1:=hE_lt H (xs:=r) (fun y hy=>h y (List.mem_cons_of_mem _ hy))
  obtain ⟨h2,h3⟩:=h x (List.mem_cons_self ..)
  exact add_lt h1 (vC_lt H h2 h3)
end
def codeB (v k:Nat):List Nat:=(List.range k).map fun i=>v/2^(k-1-i)%2
theorem codeB_len (v k:Nat):(codeB v k).length=k:=by simp [codeB]
def bN:List Nat→Nat
 | []=>0
 | b::r=>b*2^r.length+bN r
theorem bN_app (a b:List Nat):bN (a++b)=bN a*2^b.length+bN b:=by
 induction a with
 | nil=>simp [bN]
 | cons x r ih =>
  rw [List.cons_append,bN,ih,bN,List.length_append,Nat.pow_add,Nat.add_mul,Nat.mul_assoc];omega
theorem bN_snoc (a:List Nat) (x:Nat):bN (a ++ [x])=2*bN a+x:=by rw [bN_app];simp [bN];omega
theorem codeB_take (v k:Nat):∀i,i≤k→bN ((codeB v k).take i)=v/2^(k-i)%2^i
 | 0,_=>by simp [bN,Nat.mod_one]
 | i+1,h=>by
  have hl:i<(codeB v k).length:=by rw [codeB_len];omega
  rw [List.take_succ_eq_append_getElem hl,bN_snoc,codeB_take v k i (by omega)]
  have e:(codeB v k)[i]=v/2^(k-(i+1))%2:=by
   have h0:(codeB v k)[i]=v/2^(k-1-i)%2:=by simp [codeB]
   rw [h0,show k-1-i=k-(i+1) by omega]
  rw [e]
  have e2:v/2^(k-i)=v/2^(k-(i+1))/2:=by
   rw [Nat.div_div_eq_div_mul, ←Nat.pow_succ];congr 2;omega
  rw [e2,Nat.pow_succ,Nat.mul_comm (2^i) 2,Nat.mod_mul]
  omega
theorem codeB_val {v k:Nat} (h:v<2^k):bN (codeB v k)=v:=by
 have h1:=codeB_take v k k (Nat.le_refl _)
 rw [List.take_of_length_le (by rw [codeB_len];omega),Nat.sub_self,Nat.pow_zero,Nat.div_one,Nat.mod_eq_of_lt h] at h1
 exact h1
theorem codeB_bit {v k:Nat} : ∀b∈codeB v k,b<2:=by
 intro b hb
 unfold codeB at hb
 obtain ⟨i,_,rfl⟩:=List.mem_map.mp hb
 omega
def bitsT (cd ln:Nat→Nat) (xs:List Nat):List Nat:=xs.flatMap fun x=>codeB (cd x) (ln x)
theorem bitsT_len (cd ln:Nat→Nat):∀xs,(bitsT cd ln xs).length=(hE cd ln xs).2
 | []=>rfl
 | x::r=>by
  show (codeB (cd x) (ln x)++bitsT cd ln r).length=(hE cd ln r).2+ln x
  rw [List.length_append,codeB_len,bitsT_len cd ln r];omega
theorem bitsT_val {cd ln:Nat→Nat} : ∀ {xs:List Nat},(∀x∈xs,cd x<2^ln x)→bN (bitsT cd ln xs)=(hE cd ln xs).1
 | [],_=>rfl
 | x::r,h=>by
  show bN (codeB (cd x) (ln x)++bitsT cd ln r)=(hE cd ln r).1+cd x*2^(hE cd ln r).2
  rw [bN_app,codeB_val (h x (List.mem_cons_self ..)),bitsT_len,bitsT_val (fun y hy=>h y (List.mem_cons_of_mem _ hy))];omega
theorem bitsT_bit {cd ln:Nat→Nat} {xs:List Nat} : ∀b∈bitsT cd ln xs,b<2:=by
 intro b hb
 unfold bitsT at hb
 obtain ⟨x,_,hx⟩:=List.mem_flatMap.mp hb
 exact codeB_bit b hx
theorem bitsT_snoc (cd ln:Nat→Nat) {xs:List Nat} {i:Nat} (h:i<xs.length):bitsT cd ln (xs.take (i+1))=bitsT cd ln (xs.take i)++codeB (cd xs[i]) (ln xs[i]):=by
 unfold bitsT
 rw [List.take_succ_eq_append_getElem h,List.flatMap_append]
 simp
theorem EncT.uniq {cd ln:Nat→Nat} {xs a b:List Nat} (ha:EncT cd ln xs a) (hb:EncT cd ln xs b):a=b:=leN_inj ha.1 hb.1 (ha.2.2.trans hb.2.2.symm) (ha.2.1.trans hb.2.1.symm)
def byF (N:Nat):Nat→Int:=fun k=>((N/2^(8*k)%256:Nat):Int)
theorem byF_set {N p:Nat} (h:2^(p+1)∣N):byF (N+2^p)=updF (byF N) (p/8) ((N/2^(8*(p/8))%256+2^(p%8):Nat):Int)∧(N/2^(8*(p/8))%256)%2^(p%8+1)=0∧N/2^(8*(p/8))%256+2^(p%8)<256:=by
 obtain ⟨a,rfl⟩:=h
 have hp:8*(p/8)+p%8=p:=by omega
 have hr:p%8<8:=Nat.mod_lt _ (by omega)
 have e1:∀c,(2^(p+1)*a+c*2^p)/2^(8*(p/8))=2^(p%8+1)*a+c*2^(p%8):=by
  intro c
  have:2^(p+1)*a+c*2^p=(2^(p%8+1)*a+c*2^(p%8))*2^(8*(p/8)):=by
   rw [Nat.add_mul,Nat.mul_right_comm, ←Nat.pow_add,Nat.mul_assoc c, ←Nat.pow_add,show p%8+1+8*(p/8)=p+1 by omega,show p%8+8*(p/8)=p by omega]
  rw [this,Nat.mul_div_cancel _ (Nat.two_pow_pos _)]
 have e0:=e1 0
 simp only [Nat.zero_mul,Nat.add_zero] at e0
 have eo:=e1 1
 rw [Nat.one_mul,Nat.one_mul] at eo
 have key:∀r,r<8→(2^(r+1)*a%256)%2^(r+1)=0∧2^(r+1)*a%256+2^r<256∧(2^(r+1)*a+2^r)%256=2^(r+1)*a%256+2^r:=by
  intro r hr
  have:r=0∨r=1∨r=2∨r=3∨r=4∨r=5∨r=6∨r=7:=by omega
  rcases this with rfl|rfl|rfl|rfl|rfl|rfl|rfl|rfl<;>simp only [Nat.reduceAdd,Nat.reducePow]<;>omega
 obtain ⟨k1,k2,k3⟩:=key (p%8) hr
 refine ⟨?_,by rw [e0];exact k1,by rw [e0];exact k2⟩
 funext k
 unfold byF updF
 by_cases hk:k=p/8
 ·subst hk
  rw [if_pos rfl,e0,eo,k3]
 ·rw [if_neg hk]
  congr 1
  rcases Nat.lt_or_ge k (p/8) with h|h
  ·have h2:(2^(p+1)*a+2^p)/2^(8*k)=2^(p+1)*a/2^(8*k)+256*2^(p-8*k-8):=by
    have e:2^p=(256*2^(p-8*k-8))*2^(8*k):=by
     rw [show (256:Nat)=2^8 from rfl, ←Nat.pow_add, ←Nat.pow_add];congr 1;omega
    rw [e,Nat.add_mul_div_right _ _ (Nat.two_pow_pos _)]
   rw [h2,Nat.add_mul_mod_self_left]
  ·have e:2^(8*k)=2^(p+1)*2^(8*k-(p+1)):=by rw [←Nat.pow_add];congr 1;omega
   rw [e, ←Nat.div_div_eq_div_mul, ←Nat.div_div_eq_div_mul]
   congr 2
   have hlt:2^p<2^(p+1):=Nat.pow_lt_pow_right (by omega) (by omega)
   rw [Nat.mul_add_div (Nat.two_pow_pos _),Nat.div_eq_of_lt hlt,Nat.mul_div_cancel_left _ (Nat.two_pow_pos _),Nat.add_zero]
theorem or_bit {x r:Nat} (hr:r<8) (hx:x%2^(r+1)=0) (hl:x+2^r<256):orI .u8 ((x:Nat):Int) ((2^r:Nat):Int)=((x+2^r:Nat):Int):=by
 have hlt:2^r<2^(r+1):=Nat.pow_lt_pow_right (by omega) (by omega)
 have e:x=2^(r+1)*(x/2^(r+1)):=by have:=Nat.div_add_mod x (2^(r+1));omega
 have h:=Nat.two_pow_add_eq_or_of_lt (i:=r+1) (b:=2^r) hlt (x/2^(r+1))
 rw [orI_nat rfl _ _ (by simp only [IntKind.bits];omega) (by simp only [IntKind.bits];omega)]
 rw [←e] at h
 rw [←h]
theorem or_zero8 {x:Nat} (h:x<256):orI .u8 ((x:Nat):Int) 0=((x:Nat):Int):=by
 have h1:=orI_nat (k := .u8) rfl x 0 (by simp only [IntKind.bits];omega) (by decide)
 rw [show ((0:Nat):Int)=0 from rfl,Nat.or_zero] at h1
 exact h1
section
variable {w:World}
theorem VecU.of_byF {b K N:Nat} (B:Blk w b (arrC .u8 K (byF N))) (hK:K<2^63):VecU w ⟨some ⟨b,0,none⟩,K,K⟩ (leB N K):=by
 refine ⟨⟨?_,Nat.le_refl _,(fun h=>by cases h),?_⟩,?_,hK⟩
 ·rw [bytes_len,leB_len];simp
 ·intro a ha
  injection ha with ha
  subst ha
  refine ⟨rfl,rfl,_,B,?_,fun i hi=>by rw [arrC_get (by simpa using hi)];rfl⟩
  intro i hi
  rw [bytes_len,leB_len] at hi
  rw [arrC_get hi]
  unfold bytes
  rw [List.getElem?_map,leB_get hi];rfl
 ·intro a ha i hi
  injection ha with ha
  subst ha
  exact ⟨_,(B.cell i).trans (arrC_get hi)⟩
end
section
variable {w:World}
theorem mt_ex {v n x:Nat} {tab:List Cell3} (h:x∈mt v n tab):∃j,∃hj:j<tab.length,tab[j].1=x:=by
 unfold mt at h
 obtain ⟨c,hc,e⟩:=List.mem_map.mp h
 obtain ⟨j,hj,e2⟩:=List.mem_iff_getElem.mp (List.mem_filter.mp hc).1
 exact ⟨j,hj,by rw [e2];exact e⟩
theorem c53 {b x:Nat} {cnt ln:Nat→Nat} {L M:Nat} {f:Nat→Int} {K:Sl→PT} (H:HT cnt L M ln) (hL:L≤256) (B:Blk w b (arrC .i64 256 f)) (hf:∀i,f i=(lnx L ln i:Nat)) (hx:x<L) (h0:0<ln x) (hk:∀w' s',Vec 1 w' s' (nints (codeB (vC ln L M x) (ln x)))→Fm w w' []→(∀v∈s'.bs,w.heap.size≤v)→K s' w') :
  callP Tryz.prog 18 #[.slice (some ⟨b,0,none⟩) 256 256,.int .i64 (x:Nat)] [.c .S] K w:=by
 have h11:ln x≤11:=by have:=H.le x hx;have:=H.m11;omega
 have hc:=vC_lt H hx h0
 have hpl:vC ln L M x<2048:=Nat.lt_of_lt_of_le hc (Nat.pow_le_pow_right (by omega) h11:2^_≤2^11)
 apply q53_ok (s0:=⟨some ⟨b,0,none⟩,256,256⟩)
 unfold q53
 refine joinP_id ?_
 refine c73 H hL B hf ?_
 intro w1 r4 V4 F1 n4
 have h4l:=V4.len
 rw [flat3_len] at h4l
 have h4b:=V4.lt
 have hcl:=clZ_len L M ln 11
 obtain ⟨j0,hj0,ej0⟩:=mt_ex (v:=vC ln L M x) (n:=ln x) (x:=x) (tab:=clZ L M ln 11) (by rw [mt_some H hx hL h0];simp)
 refine ⟨fun y w'=>∃j:Nat,y=(j:Int)∧j≤j0∧Fm w1 w' [],fun y _=>3000-y.toNat,⟨0,rfl,Nat.zero_le _,Fm.refl _ _⟩,?_⟩
 rintro y w2 ⟨j,rfl,hj,F2⟩
 unfold q53_L4
 refine cnd_d (fun hcj => ?_) (fun hcj=>absurd (by omega) hcj)
 have hj2:j<(clZ L M ln 11).length:=by omega
 refine joinP_id ?_
 unfold q53_X3
 refine tab_ld j (V4.fr F2 (by simp)) rfl hj2 ?_
 rintro tb o ⟨F,HB,f0,f1,f2⟩
 refine ld3_b HB f0 f1 f2 ?_
 refine nw_3i ?_
 intro w3 F3 hs3 B3
 have hsz2:=F2.size
 have hsz1:=F1.size
 have hpn:w.heap.size≤w2.heap.size:=by omega
 have hpn1:w1.heap.size≤w2.heap.size:=hsz2
 generalize w2.heap.size=p at *
 show st _ _ (st _ _ (st _ _ _)) _
 simp only [add_mk,Nat.add_zero,Nat.zero_add]
 refine st_u B3 rfl rfl ?_
 intro w4 B4 F4
 refine st_u B4 rfl rfl ?_
 intro w5 B5 F5
 refine st_u B5 rfl rfl ?_
 intro w6 B6 F6
 have F16:Fm w1 w6 []:=F2.trans ((((F3.mono (S' := [p]) (by simp)).trans F4 (fun x hx => .inl hx)).trans F5 (fun x hx => .inl hx)).trans F6 (fun x hx => .inl hx)) (by intro v hv;right;simp at hv;omega)
 refine ld_b (t := .I .i64) (x:=(((clZ L M ln 11)[j].1:Nat):Int)) B6 rfl ?_
 refine cnd_nd (fun hne => ?_) (fun heq => ?_)
 ·unfold q53_J2
  have hjne:j≠j0:=by
   intro e
   subst e
   exact hne (by rw [ej0])
  rw [wI64 (by omega) (by omega)]
  exact ⟨⟨j+1,by omega,by omega,F16⟩,by first|omega|(dsimp only;omega)⟩
 ·have heq':(clZ L M ln 11)[j].1=x:=by omega
  obtain ⟨i,n,hi256,hin,hcell⟩:=clZ_mem (List.getElem_mem hj2)
  rw [hcell] at heq'
  simp only at heq'
  subst heq'
  rw [lnx_lt hx] at hin
  subst hin
  rw [hcell] at B6
  refine joinP_id ?_
  refine ld_b (t := .I .i64) (x:=((ln i:Nat):Int)) B6 rfl ?_
  rw [wI64 (x:=((ln i:Nat):Int)-1) (by omega) (by omega)]
  refine ⟨fun z w'=>∃m:Nat,m≤ln i∧z.2=((ln i:Nat):Int)-1-(m:Int)∧Vec 1 w' z.1 (nints ((codeB (vC ln L M i) (ln i)).take m))∧Blk w' p (updC (updC (updC (c3C 0 0 0) 0 (.int .i64 (i:Nat))) 1 (.int .i64 (vC ln L M i:Nat))) 2 (.int .i64 (ln i:Nat)))∧Fm w6 w' []∧(∀v∈z.1.bs,w6.heap.size≤v),fun z _=>(z.2+1).toNat,⟨0,Nat.zero_le _,by omega,Vec.nil,B6,Fm.refl _ _,by simp [Sl.bs]⟩,?_⟩
  rintro ⟨zs,zi⟩ w7 ⟨m,hm,hzi,V7,B7,F7,n7⟩
  simp only at hzi V7 n7
  subst hzi
  unfold q53_L0
  simp only
  refine cnd_d (fun hge => ?_) (fun hlt => ?_)
  ·have hm2:m<ln i:=by omega
   simp only [add_mk,Nat.zero_add]
   refine ld_b (t := .I .i64) (x:=((vC ln L M i:Nat):Int)) B7 rfl ?_
   refine ⟨hge,?_⟩
   have ebit:andI .i64 (shrI .i64 ((vC ln L M i:Nat):Int) (((ln i:Nat):Int)-1-(m:Int))) 1=((vC ln L M i/2^(ln i-1-m)%2:Nat):Int):=by
    rw [show ((ln i:Nat):Int)-1-(m:Int)=((ln i-1-m:Nat):Int) by omega,shrI_nat _ _ _ (by simp only [IntKind.bits];omega)]
    have h1:=andI_i64 (vC ln L M i/2^(ln i-1-m)) 1 (by have:=Nat.div_le_self (vC ln L M i) (2^(ln i-1-m));omega) (by decide)
    rw [show (1:Int)=((1:Nat):Int) from rfl,h1,Nat.and_one_is_mod]
   rw [ebit]
   have hzl:=V7.len
   rw [nints_len,List.length_take,codeB_len,Nat.min_eq_left hm,Nat.mul_one] at hzl
   refine app_1 V7 rfl (by omega) ?_
   intro s8 w8 V8 F8 n8
   rw [wI64 (by omega) (by omega)]
   have hs7:=F7.size
   refine ⟨⟨m+1,hm2,by first|omega|(dsimp only;omega)|(simp only [];omega),?_,B7.fr F8 (fun h=>by have:=n7 p h;have:=B6.lt;omega),F7.trans F8 (fun v hv => .inr (n7 v hv)),?_⟩,by first|omega|(dsimp only;omega)|(simp only [];omega)⟩
   ·have hl:m<(codeB (vC ln L M i) (ln i)).length:=by rw [codeB_len];exact hm2
    rw [List.take_succ_eq_append_getElem hl,nints_app]
    have e:(codeB (vC ln L M i) (ln i))[m]=vC ln L M i/2^(ln i-1-m)%2:=by
     simp [codeB]
    rw [e]
    exact V8
   ·intro v hv
    rcases n8 v hv with h|h
    ·exact n7 v h
    ·omega
  ·have hm2:m=ln i:=by omega
   subst hm2
   rw [List.take_of_length_le (by rw [codeB_len];exact Nat.le_refl _)] at V7
   unfold q53_J1
   have hs16:=F16.size
   refine hk w7 zs V7 ((F1.trans F16 (by simp)).trans F7 (by simp)) ?_
   intro v hv
   have:=n7 v hv
   omega
end
theorem Vec.has1 {w:World} {s:Sl} {l:List Value} (h:Vec 1 w s l) (ho:∀v∈l,one v=true):Has 1 w s l:=by
 have hl:=h.len
 refine ⟨hl,?_,?_,ho⟩
 ·intro b hb i hi
  obtain ⟨h1,h2,f,h3,h4,h5⟩:=h.blk b hb
  obtain ⟨ab,ao,asp⟩:=b
  simp only at h1 h2 h3
  subst h1 h2
  rw [add_mk,Nat.zero_add,h3.cell,h4 i hi]
 ·intro e
  have h1:=h.non e
  have h2:=h.cap
  exact List.length_eq_zero_iff.mp (by omega)
theorem nints_one (l:List Nat):∀v∈nints l,one v=true:=by
 intro v hv
 unfold nints ints at hv
 simp only [List.map_map,List.mem_map] at hv
 obtain ⟨x,_,rfl⟩:=hv
 rfl
theorem nints_append (a b:List Nat):nints (a++b)=nints a++nints b:=by simp [nints,ints]
def slC (n:Nat) (G:Nat→Sl):Cells:=fun i=>if i<n then some (G i).val else none
theorem slC_get {n i:Nat} {G:Nat→Sl} (h:i<n):slC n G i=some (G i).val:=if_pos h
def updS (G:Nat→Sl) (o:Nat) (s:Sl):Nat→Sl:=fun i=>if i=o then s else G i
theorem slC_upd {n i:Nat} {G:Nat→Sl} {s:Sl} (h:i<n):updC (slC n G) i s.val=slC n (updS G i s):=by
 funext j
 unfold updC slC updS
 by_cases e:j=i
 ·subst e;rw [if_pos rfl,if_pos h,if_pos rfl]
 ·rw [if_neg e,if_neg e]
end Go.Sx
namespace Go.Sx
open Go Go.Proofs
set_option maxRecDepth 100000
def q203_J0 (K1:Bool→PT) (x7:Bool):PT :=
 K1 x7
def q203_J1 (K1:Bool→PT) (x10:Bool):PT :=
 K1 x10
def q203_J2 (K1:Bool→PT) (x15:Bool):PT :=
 K1 x15
def q203 (C10:Sl→Sl→(Sl→PT)→PT) (s0:Sl) (K1:Bool→PT):PT :=
 cnd (decide ((2147483647:Int)<(s0.l:Int))) (K1 true) (cnd (decide ((s0.l:Int)<(2:Int))) (K1 true) (cnd (decide ((16384:Int)<(s0.l:Int))) (K1 true) (callP Tryz.prog 4 #[(.slice s0.a s0.l s0.c)] [.c .S] fun (r2:Sl)=>callP Tryz.prog 5 #[(.slice r2.a r2.l r2.c)] [.c .S,.c (.I .i64)] fun (r3:Sl×Int)=>callP Tryz.prog 6 #[(.slice r2.a r2.l r2.c),(.slice s0.a s0.l s0.c),(.bool false)] [.c .S,.c (.I .i64)] fun (r4:Sl×Int)=>cnd (!decide (r3.2=(0:Int))) (joinP (fun R5=>cnd (!decide (r3.2=(0:Int))) (R5 true) (callP Tryz.prog 7 #[(.int .i64 r4.2)] [.c .B] fun (r6:Bool)=>R5 r6)) (q203_J0 K1)) (cnd (!decide (r4.2=(0:Int))) (joinP (fun R8=>cnd (!decide (r3.2=(0:Int))) (R8 true) (callP Tryz.prog 7 #[(.int .i64 r4.2)] [.c .B] fun (r9:Bool)=>R8 r9)) (q203_J1 K1)) (callP Tryz.prog 8 #[(.slice r3.1.a r3.1.l r3.1.c)] [.c .S,.c (.I .i64),.c .B] fun (r11:Sl×Int×Bool)=>joinP (fun R12=>cnd r11.2.2 (C10 r11.1 s0 fun (r13:Sl)=>callP Tryz.prog 9 #[(.slice r4.1.a r4.1.l r4.1.c),(.slice r13.a r13.l r13.c)] [.c .B] fun (r14:Bool)=>R12 r14) (R12 false)) (q203_J2 K1))))))
def q200_J0 (p4:Addr) (x6:(Sl×Int)) (A7:(Sl×Int)→PT) (n9:Int) (x15:Unit):PT :=
 ixA 1 256 p4 n9 fun (p16:Addr)=>ld .S p16 fun (s17:Sl)=>app z3 3 8 x6.1 s17 fun (s18:Sl)=>A7 (s18,(IntKind.wrap .i64 (x6.2+(1:Int))))
def q200_L1 (s0:Sl) (s1:Sl) (p4:Addr) (R5:Sl→PT) (x6:Sl×Int) (A7:(Sl×Int)→PT):PT :=
 cnd (decide (x6.2<(s1.l:Int))) (ixS 1 s1 x6.2 fun (p8:Addr)=>ld (.I .u8) p8 fun (n9:Int)=>joinP (fun R10=>ixA 1 256 p4 n9 fun (p11:Addr)=>ld .S p11 fun (s12:Sl)=>cnd (Option.isNone s12.a) (callP Tryz.prog 18 #[(.slice s0.a s0.l s0.c),(.int .i64 (IntKind.wrap .i64 n9))] [.c .S] fun (r13:Sl)=>ixA 1 256 p4 n9 fun (p14:Addr)=>st p14 (.slice r13.a r13.l r13.c)<|R10 ()) (R10 ())) (q200_J0 p4 x6 A7 n9)) (R5 x6.1)
def q200_L2 (x19:(Sl)) (s20:Sl) (R21:Unit→PT) (x22:Int) (A23:Int→PT):PT :=
 cnd (decide (x22<(x19.l:Int))) (ixS 1 x19 x22 fun (p24:Addr)=>ld (.I .i64) p24 fun (n25:Int)=>drw<|req ((8:Int)≠0)<|ixS 1 s20 (quoI .i64 (IntKind.wrap .i64 ((IntKind.wrap .i64 ((x19.l:Int)-(1:Int)))-x22)) (8:Int)) fun (p26:Addr)=>ld (.I .u8) p26 fun (n27:Int)=>req ((8:Int)≠0)<|req (0≤(Int.tmod (IntKind.wrap .i64 ((IntKind.wrap .i64 ((x19.l:Int)-(1:Int)))-x22)) (8:Int)))<|ixS 1 s20 (quoI .i64 (IntKind.wrap .i64 ((IntKind.wrap .i64 ((x19.l:Int)-(1:Int)))-x22)) (8:Int)) fun (p28:Addr)=>st p28 (.int .u8 (orI .u8 n27 (IntKind.wrap .u8 (shlI .i64 n25 (Int.tmod (IntKind.wrap .i64 ((IntKind.wrap .i64 ((x19.l:Int)-(1:Int)))-x22)) (8:Int))))))<|A23 (IntKind.wrap .i64 (x22+(1:Int)))) (R21 ())
def q200_J3 (K2:Sl→PT) (s20:Sl) (x29:Unit):PT :=
 K2 s20
def q200_J4 (K2:Sl→PT) (x19:Sl):PT :=
 req ((8:Int)≠0)<|mks z5 5 1 (quoI .i64 (IntKind.wrap .i64 ((x19.l:Int)+(7:Int))) (8:Int)) (quoI .i64 (IntKind.wrap .i64 ((x19.l:Int)+(7:Int))) (8:Int)) fun (s20:Sl)=>joinP (fun R21=>loopP (0:Int) (q200_L2 x19 s20 R21)) (q200_J3 K2 s20)
def q200 (s0:Sl) (s1:Sl) (K2:Sl→PT):PT :=
 nw [(.int .i64 (1:Int))] 3 fun (p3:Addr)=>nw z364 64 fun (p4:Addr)=>joinP (fun R5=>loopP (⟨(some p3),1,1⟩,(0:Int)) (q200_L1 s0 s1 p4 R5)) (q200_J4 K2)
end Go.Sx
namespace Go.Sx
open Go Go.Proofs
set_option maxRecDepth 4000
section
variable {w:World} {b:Nat} {s1:Sl} {ys:List Nat} {cnt ln:Nat→Nat} {L M:Nat} {f:Nat→Int}
theorem c200b {s0:Sl} {bl:List Nat} {K:Sl→PT} (V:Vec 1 w s0 (nints bl)) (hb:∀b∈bl,b<2) (hl:bl.length≤2^30) (hk:∀w' s',VecU w' s' (leB (bN bl) ((bl.length+7)/8))→Fm w w' []→K s' w'):q200_J4 K s0 w:=by
 have hsl:=V.len
 rw [nints_len,Nat.mul_one] at hsl
 unfold q200_J4
 have eq8:quoI .i64 (IntKind.i64.wrap ((s0.l:Int)+7)) 8=(((bl.length+7)/8:Nat):Int):=by
  rw [←hsl,wI64 (by omega) (by omega),show (8:Int)=((8:Nat):Int) from rfl,show ((bl.length:Nat):Int)+7=((bl.length+7:Nat):Int) by omega,quoI_nat _ _ _ (by simp only [IntKind.bits];omega)]
 rw [eq8]
 refine ⟨by decide,?_⟩
 refine mks1 (k := .u8) (v:=0) (n:=(bl.length+7)/8) rfl rfl (by omega) ?_
 intro w1 F1 hs1 B1
 have hvb:∀b∈s0.bs,b≠w.heap.size:=fun b hb=>by have:=V.lt b hb;omega
 have hpn:w.heap.size≤w.heap.size:=Nat.le_refl _
 have V1:=V.fr F1 (by simp)
 generalize hpe:w.heap.size=p at *
 have B1':Blk w1 p (arrC .u8 ((bl.length+7)/8) (byF 0)):=B1.congr (by congr 1;funext k;unfold byF;simp)
 refine joinP_id ?_
 refine ⟨fun x w'=>∃i:Nat,x=(i:Int)∧i≤bl.length∧Blk w' p (arrC .u8 ((bl.length+7)/8) (byF (bN (bl.take i)*2^(bl.length-i))))∧Fm w1 w' [p],fun x _=>bl.length-x.toNat,⟨0,rfl,Nat.zero_le _,by simpa [bN] using B1',Fm.refl _ _⟩,?_⟩
 rintro x w3 ⟨i,rfl,hi,B3,F3⟩
 unfold q200_L2
 refine cnd_d ?_ ?_
 ·intro hc
  have hi2:i<bl.length:=by omega
  have hbi:=hb _ (List.getElem_mem hi2)
  have V3:=V1.fr F3 (by intro b hb';simp;exact hvb b hb')
  refine Vec.ldN i V3 rfl hi2 ?_
  intro q hq'
  refine ld_c (t := .I .i64) (x:=((bl[i]:Nat):Int)) hq' ?_
  unfold drw
  have eP:IntKind.i64.wrap (IntKind.i64.wrap ((s0.l:Int)-1)-((i:Nat):Int))=((bl.length-1-i:Nat):Int):=by
   rw [wI64 (x:=(s0.l:Int)-1) (by omega) (by omega),wI64 (by omega) (by omega)];omega
  rw [eP,show (8:Int)=((8:Nat):Int) from rfl,quoI_nat _ _ _ (by simp only [IntKind.bits];omega),show Int.tmod ((bl.length-1-i:Nat):Int) ((8:Nat):Int)=(((bl.length-1-i)%8:Nat):Int) from rfl]
  generalize hpp:bl.length-1-i=pp at *
  have hq2:pp/8<(bl.length+7)/8:=by omega
  have hr:pp%8<8:=Nat.mod_lt _ (by omega)
  refine ⟨by decide,?_⟩
  refine ixS_o rfl hq2 ?_
  rw [Nat.zero_add]
  refine ld_b (t := .I .u8) (x:=byF (bN (bl.take i)*2^(bl.length-i)) (pp/8)) B3.drew (arrC_get hq2) ?_
  refine ⟨by decide,⟨by omega,?_⟩⟩
  refine ixS_o rfl hq2 ?_
  rw [Nat.zero_add]
  refine st_u B3.drew (by rw [arrC_get hq2];rfl) rfl ?_
  intro w4 B4 F4
  rw [arrC_upd hq2] at B4
  rw [wI64 (by omega) (by omega)]
  have hdv:2^(pp+1)∣bN (bl.take i)*2^(bl.length-i):=by
   rw [show bl.length-i=pp+1 by omega]
   exact Nat.dvd_mul_left _ _
  obtain ⟨g1,g2,g3⟩:=byF_set hdv
  have enext:bN (bl.take (i+1))*2^(bl.length-(i+1))=bN (bl.take i)*2^(bl.length-i)+bl[i]*2^pp:=by
   rw [List.take_succ_eq_append_getElem hi2,bN_snoc,show bl.length-(i+1)=pp by omega,show bl.length-i=pp+1 by omega,Nat.add_mul,Nat.pow_succ,Nat.mul_comm 2 (bN _),Nat.mul_assoc,Nat.mul_comm 2 (2^pp)]
  have hbits:bl[i]=0∨bl[i]=1:=by omega
  refine ⟨⟨i+1,by simp,hi2,B4.congr ?_,F3.trans ((Fm.refl w3 [p]).drew.trans F4 (fun x hx => .inl hx)) (fun x hx => .inl hx)⟩,by first|omega|(dsimp only;omega)⟩
  rw [enext]
  congr 1
  rcases hbits with h0|h1
  ·rw [h0,Nat.zero_mul,Nat.add_zero]
   have ez:IntKind.u8.wrap (shlI .i64 ((0:Nat):Int) ((pp%8:Nat):Int))=0:=by
    unfold shlI
    simp
    rfl
   rw [ez]
   funext k
   unfold updF
   split
   ·rename_i hk
    subst hk
    exact or_zero8 (Nat.mod_lt _ (by omega))
   ·rfl
  ·rw [h1,Nat.one_mul,g1]
   have e1:IntKind.u8.wrap (shlI .i64 ((1:Nat):Int) ((pp%8:Nat):Int))=((2^(pp%8):Nat):Int):=by
    have:∀r:Fin 8,IntKind.u8.wrap (shlI .i64 ((1:Nat):Int) (((r:Nat):Nat):Int))=((2^(r:Nat):Nat):Int):=by decide +kernel
    exact this ⟨_,hr⟩
   rw [e1]
   congr 1
   exact or_bit hr g2 g3
 ·intro hc
  have hi2:i=bl.length:=by omega
  subst hi2
  unfold q200_J3
  rw [List.take_length,Nat.sub_self,Nat.pow_zero,Nat.mul_one] at B3
  exact hk w3 _ (VecU.of_byF B3 (by omega)) (F1.trans F3 (by intro v hv;right;simp at hv;omega))
theorem nw_w {cs:List Value} {T:TypeId} {κ:Addr→PT} (hk:∀w',Fm w w' []→w'.heap.size=w.heap.size+1→Blk w' w.heap.size (fun i=>(⟨cs⟩:Array Value)[i]?)→κ ⟨w.heap.size,0,none⟩ w'):nw cs T κ w :=
 hk _ (Fm.refl w []).alloc (World.size_alloc _ _) Blk.new
theorem c200 {K:Sl→PT} (H:HT cnt L M ln) (hL:L≤256) (B:Blk w b (arrC .i64 256 f)) (hf:∀i,f i=(lnx L ln i:Nat)) (A:Arr .u8 w s1 ys) (hby:By ys) (hy:∀x∈ys,x<L∧0<ln x) (hyl:ys.length≤2^18) (hk:∀w' s' ol,EncT (vC ln L M) ln ys ol→VecU w' s' ol→Fm w w' []→K s' w') :
  q200 ⟨some ⟨b,0,none⟩,256,256⟩ s1 K w:=by
 have hsl:=A.len
 unfold q200
 refine nw_w ?_
 intro w0 F0 hs0 B0
 have V0:Vec 1 w0 ⟨some ⟨w.heap.size,0,none⟩,1,1⟩ (nints [1]):=by
  refine ⟨rfl,Nat.le_refl _,(fun h=>by cases h),?_⟩
  intro a ha
  injection ha with ha
  subst ha
  refine ⟨rfl,rfl,_,B0,?_,?_⟩
  ·intro i hi
   have hi:i=0:=by simpa [nints,ints] using hi
   subst hi
   rfl
  ·intro i hi
   have hi:i=0:=by simpa using hi
   subst hi
   rfl
 refine nw_w ?_
 intro w1 F1' hs1 B1
 have B1:Blk w1 w0.heap.size (slC 256 fun _=>⟨none,0,0⟩):=B1.congr (by
  funext i
  rw [List.getElem?_toArray]
  show (List.replicate 256 (Value.slice none 0 0))[i]? = _
  rw [List.getElem?_replicate]
  rfl)
 have V1:=V0.fr F1' (by simp)
 have F1:Fm w w1 []:=F0.trans F1' (by simp)
 have hbl:=B.lt
 have Bb:=B.fr F1 (by simp)
 have A1:=A.fr F1 (by simp)
 have hneA:∀a,s1.a=some a→ys ≠ []→a.block<w.heap.size:=fun a ha hx=>A.old hx a ha
 have hp0:w.heap.size≤w.heap.size:=Nat.le_refl _
 have hp1:w0.heap.size=w.heap.size+1:=hs0
 generalize hq0:w.heap.size=p0 at *
 generalize hpe:w0.heap.size=p at *
 have hln11:∀x∈ys,ln x≤11:=fun x hx=>by have:=H.le x (hy x hx).1;have:=H.m11;omega
 have hbitl:∀i,i≤ys.length→(bitsT (vC ln L M) ln (ys.take i)).length≤11*ys.length:=by
  intro i hi
  rw [bitsT_len]
  have:=hE_le (cd:=vC ln L M) (ln:=ln) (xs:=ys.take i) (fun x hx=>hln11 x (List.mem_of_mem_take hx))
  rw [List.length_take] at this
  omega
 refine joinP_id ?_
 refine ⟨fun x w'=>∃(i:Nat) (G:Nat→Sl),x.2=(i:Int)∧i≤ys.length∧Vec 1 w' x.1 (nints (1::bitsT (vC ln L M) ln (ys.take i)))∧Blk w' p (slC 256 G)∧(∀c,c<256→(G c).a=none∨Vec 1 w' (G c) (nints (codeB (vC ln L M c) (ln c))))∧(∀c,c<256→∀v∈(G c).bs,w1.heap.size≤v∧v∉x.1.bs)∧(∀v∈x.1.bs,v=p0∨w1.heap.size≤v)∧Fm w1 w' [p,p0],fun x _=>ys.length-x.2.toNat,
  ⟨0,fun _=>⟨none,0,0⟩,rfl,Nat.zero_le _,V1,B1,fun _ _ => .inl rfl,(by intro c _ v hv;simp [Sl.bs] at hv),(by intro v hv;left;simpa [Sl.bs] using hv),Fm.refl _ _⟩,?_⟩
 rintro ⟨x,xi⟩ w2 ⟨i,G,hxi,hi,V2,B2,hG,hGb,n2,F2⟩
 simp only at hxi V2 hGb n2
 subst hxi
 have hpx:p∉x.bs:=fun h=>by have:=n2 p h;omega
 unfold q200_L1
 simp only
 refine cnd_d ?_ ?_
 ·intro hc
  have hi2:i<ys.length:=by omega
  have hym:=List.getElem_mem hi2
  obtain ⟨hyL,hy0⟩:=hy _ hym
  have hy256:=hby _ hym
  have A2:=A1.fr F2 (by intro a ha hx;have:=hneA a ha hx;simp;omega)
  refine A2.ldk i rfl hi2 ?_
  intro q hq
  refine ld_c (t := .I .u8) (x:=((ys[i]:Nat):Int)) hq ?_
  have hcl:=bitsT_snoc (vC ln L M) ln hi2
  have hb1:=hbitl i hi
  have fin:∀(w3:World) (G':Nat→Sl),Vec 1 w3 x (nints (1::bitsT (vC ln L M) ln (ys.take i)))→Blk w3 p (slC 256 G')→Vec 1 w3 (G' ys[i]) (nints (codeB (vC ln L M ys[i]) (ln ys[i])))→(∀c,c<256→(G' c).a=none∨Vec 1 w3 (G' c) (nints (codeB (vC ln L M c) (ln c))))→(∀c,c<256→∀v∈(G' c).bs,w1.heap.size≤v∧v∉x.bs)→Fm w1 w3 [p,p0] →
    q200_J0 ⟨p,0,none⟩ (x,(i:Int)) (fun s' w'=>(∃(i:Nat) (G:Nat→Sl),s'.2=(i:Int)∧i≤ys.length∧Vec 1 w' s'.1 (nints (1::bitsT (vC ln L M) ln (ys.take i)))∧Blk w' p (slC 256 G)∧(∀c,c<256→(G c).a=none∨Vec 1 w' (G c) (nints (codeB (vC ln L M c) (ln c))))∧(∀c,c<256→∀v∈(G c).bs,w1.heap.size≤v∧v∉s'.1.bs)∧(∀v∈s'.1.bs,v=p0∨w1.heap.size≤v)∧Fm w1 w' [p,p0])∧ys.length-s'.2.toNat<ys.length-((i:Nat):Int).toNat) ((ys[i]:Nat):Int) () w3:=by
   intro w3 G' V3 B3 VG hG3 hGb3 F3
   have hgl:=VG.len
   rw [nints_len,codeB_len,Nat.mul_one] at hgl
   unfold q200_J0
   simp only
   refine ixA_o rfl hy256 ?_
   rw [Nat.zero_add]
   refine ld_b (t := .S) (x:=G' ys[i]) B3 (slC_get hy256) ?_
   have hxl:=V3.len
   rw [nints_len,Nat.mul_one,List.length_cons] at hxl
   have hln:=hln11 _ hym
   refine app_v (zs:=z3) V3 (VG.has1 (nints_one _)) (by decide) (by first|omega|(dsimp only;omega)|(simp only [];omega)) ?_
   intro s4 w4 V4 F4 n4
   rw [wI64 (by omega) (by omega)]
   have hs3:=F3.size
   have V4:Vec 1 w4 s4 (nints (1::bitsT (vC ln L M) ln (ys.take i))++nints (codeB (vC ln L M ys[i]) (ln ys[i]))):=V4
   rw [←nints_append,List.cons_append, ←hcl] at V4
   have n4':∀v∈s4.bs,v=p0∨w1.heap.size≤v:=by
    intro v hv
    rcases n4 v hv with h|h
    ·exact n2 v h
    ·right;omega
   refine ⟨⟨i+1,G',by simp,hi2,V4,B3.fr F4 hpx,?_,?_,n4',F3.trans F4 (fun v hv => ?_)⟩,by first|omega|(dsimp only;omega)|(simp only [];omega)⟩
   ·intro c hc'
    exact (hG3 c hc').imp id (fun h=>h.fr F4 (fun v hv=>(hGb3 c hc' v hv).2))
   ·intro c hc' v hv
    refine ⟨(hGb3 c hc' v hv).1,?_⟩
    intro hm
    rcases n4 v hm with h|h
    ·exact (hGb3 c hc' v hv).2 h
    ·rcases hG3 c hc' with hn|hv3
     ·unfold Sl.bs at hv;rw [hn] at hv;simp at hv
     ·have:=hv3.lt v hv;omega
   ·rcases n2 v hv with h|h
    ·left;simp [h]
    ·exact .inr h
  refine joinP_id ?_
  refine ixA_o rfl hy256 ?_
  rw [Nat.zero_add]
  refine ld_b (t := .S) (x:=G ys[i]) B2 (slC_get hy256) ?_
  refine ⟨fun hn => ?_,fun hs => ?_⟩
  ·rw [wI64 (by omega) (by omega)]
   have hbp2:b ∉ [p,p0]:=by simp;omega
   refine c53 H hL (Bb.fr F2 hbp2) hf hyL hy0 ?_
   intro w3 r15 V15 F3 n15
   refine ixA_o rfl hy256 ?_
   rw [Nat.zero_add]
   have B3:=B2.fr F3 (by simp)
   refine st_u B3 (by rw [slC_get hy256];rfl) rfl ?_
   intro w4 B4 F4
   have B4':Blk w4 p (slC 256 (updS G ys[i] r15)):=B4.congr (slC_upd hy256)
   have hs2:=F2.size
   have hp2:=B2.lt
   have hx4:∀v∈x.bs,v ∉ [p]:=fun v hv=>by simp;exact fun e=>hpx (e▸hv)
   have h15:∀v∈r15.bs,v ∉ [p]:=fun v hv=>by have:=n15 v hv;simp;omega
   have hVx:=V2.lt
   refine fin w4 (updS G ys[i] r15) ((V2.fr F3 (by simp)).fr F4 hx4) B4' ?_ ?_ ?_ ((F2.trans F3 (by simp)).trans F4 (fun v hv=>by left;simp at hv;simp [hv]))
   ·unfold updS;rw [if_pos rfl];exact V15.fr F4 h15
   ·intro c hc'
    unfold updS
    by_cases e:c=ys[i]
    ·rw [if_pos e,e];exact .inr (V15.fr F4 h15)
    ·rw [if_neg e]
     refine (hG c hc').imp id (fun h=>(h.fr F3 (by simp)).fr F4 ?_)
     intro v hv
     have:=(hGb c hc' v hv).1
     simp;omega
   ·intro c hc' v hv
    unfold updS at hv
    by_cases e:c=ys[i]
    ·rw [if_pos e] at hv
     have:=n15 v hv
     exact ⟨by omega,fun hm=>by have:=hVx v hm;omega⟩
    ·rw [if_neg e] at hv
     exact hGb c hc' v hv
  ·refine fin w2 G V2 B2 ?_ hG hGb F2
   rcases hG _ hy256 with h|h
   ·rw [h] at hs;cases hs
   ·exact h
 ·intro hc
  have hi2:i=ys.length:=by omega
  subst hi2
  rw [List.take_length] at V2
  have hbl:=hbitl ys.length (Nat.le_refl _)
  rw [List.take_length] at hbl
  refine c200b V2 ?_ (by rw [List.length_cons];omega) ?_
  ·intro c hc'
   rcases List.mem_cons.mp hc' with h|h
   ·omega
   ·exact bitsT_bit c h
  intro w3 s3 V3 F3
  have e1:((1::bitsT (vC ln L M) ln ys).length+7)/8=(hE (vC ln L M) ln ys).2/8+1:=by
   rw [List.length_cons,bitsT_len];omega
  have e2:bN (1::bitsT (vC ln L M) ln ys)=(hE (vC ln L M) ln ys).1+2^(hE (vC ln L M) ln ys).2:=by
   rw [bN,Nat.one_mul,bitsT_val (fun x hx=>vC_lt H (hy x hx).1 (hy x hx).2),bitsT_len,Nat.add_comm]
  rw [e1,e2] at V3
  refine hk w3 s3 _ ⟨leB_by _ _,?_,?_⟩ V3 ((F1.trans F2 (by intro v hv;right;simp only [List.mem_cons,List.not_mem_nil,or_false] at hv;omega)).trans F3 (by simp))
  ·rw [leB_val]
   refine Nat.mod_eq_of_lt ?_
   have hlt:=hE_lt H hy
   have h1:(hE (vC ln L M) ln ys).1+2^(hE (vC ln L M) ln ys).2<2^((hE (vC ln L M) ln ys).2+1):=by rw [Nat.pow_succ];omega
   have h2:2^((hE (vC ln L M) ln ys).2+1)≤2^(8*((hE (vC ln L M) ln ys).2/8+1)):=Nat.pow_le_pow_right (by omega) (by omega)
   rw [Nat.pow_mul] at h2
   exact Nat.lt_of_lt_of_le h1 h2
  ·rw [leB_len]
end
theorem law203 {w:World} {s0:Sl} {xs:List Nat} {K:Bool→PT} {C10:Sl→Sl→(Sl→PT)→PT} (hC:∀(s0 s1:Sl) (κ:Sl→PT) (w:World),q200 s0 s1 κ w→C10 s0 s1 κ w) (G:GE w) (A:Arr .u8 w s0 xs) (hby:By xs) (hk:∀w',Fm w w' []→K true w'):q203 C10 s0 K w:=by
 have hsl:=A.len
 unfold q203
 refine cnd_d (fun _=>hk _ (Fm.refl _ _)) (fun _=>cnd_d (fun _=>hk _ (Fm.refl _ _)) (fun hge=>cnd_d (fun _=>hk _ (Fm.refl _ _)) (fun hle0 => ?_)))
 have hle:xs.length≤16384:=by omega
 have hcnt:∀i,i<256→xs.count i≤2^18:=fun i _=>by have:xs.count i≤xs.length:=List.count_le_length;omega
 refine c30 A hby (by omega) ?_
 intro w1 b F1 hb C1
 have G1:=G.fm F1
 have A1:=A.fr F1 (by simp)
 refine c39 (cnt:=fun i=>xs.count i) G1 C1 hcnt ?_ ?_
 ·intro w2 k h1 h2 _ F2
  have hne:¬k=0:=by omega
  have go:∀(w3:World) (r4:Sl×Int),Fm w2 w3 []→cnd (!decide (k=(0:Int))) (joinP (fun R5=>cnd (!decide (k=(0:Int))) (R5 true) (callP Tryz.prog 7 #[(.int .i64 r4.2)] [.c .B] fun (r6:Bool)=>R5 r6)) (q203_J0 K)) (K false) w3:=by
   intro w3 r4 F3
   refine cnd_nd (fun _=>joinP_id (cnd_nd (fun _ => ?_) (fun h=>absurd h hne))) (fun h=>absurd h hne)
   unfold q203_J0
   exact hk _ ((F1.trans F2 (by simp)).trans F3 (by simp))
  have C2:=C1.fr F2 (by simp)
  have A2:=A1.fr F2 (by simp)
  refine c41 (cnt:=fun i=>xs.count i) (G1.fm F2) C2 hcnt A2 hby (by omega) ?_ ?_
  ·intro w3 k3 h3 h4 F3
   exact ⟨fun h=>(go w3 (⟨none,0,0⟩,k3) F3).1 h,fun h=>absurd (by simpa using h) hne⟩
  ·intro w3 o M ln L k3 ol _ _ _ _ V3 F3
   exact ⟨fun h=>(go w3 (o,0) F3).1 h,fun h=>absurd (by simpa using h) hne⟩
 ·intro w2 T M ln L k tbl hB hbt hbl hwt VT F2
  have C2:=C1.fr F2 (by simp)
  have A2:=A1.fr F2 (by simp)
  have F02:=F1.trans F2 (by simp)
  refine c41 (cnt:=fun i=>xs.count i) (G1.fm F2) C2 hcnt A2 hby (by omega) ?_ ?_
  ·intro w3 k3 h3 h4 F3
   have hne:¬k3=0:=by omega
   refine cnd_nd (fun h=>absurd rfl h) (fun _=>cnd_nd (fun _ => ?_) (fun h=>absurd h hne))
   refine joinP_id (cnd_nd (fun h=>absurd rfl h) (fun _ => ?_))
   refine c25 (k:=k3) (by omega) h4 ?_
   unfold q203_J1
   exact hk _ (F02.trans F3 (by simp))
  ·intro w3 o M' ln' L' k' ol hB' hEn hx hlt VO F3
   obtain ⟨rfl,rfl,rfl⟩:=hB.uniq hB'
   obtain ⟨hN,hLR⟩:=hB.nt hby (by omega)
   obtain ⟨f,hf,hfx⟩:=hN.hl hwt
   have VT3:=VT.fr F3 (by simp)
   have A3:=A2.fr F3 (by simp)
   have F03:=F02.trans F3 (by simp)
   refine cnd_nd (fun h=>absurd rfl h) (fun _=>cnd_nd (fun h=>absurd rfl h) (fun _ => ?_))
   refine c15 VT3.vec.arr hbt (by omega) (fun h=>by rw [hf] at h;cases h) ?_
   intro f' used hf' w4 b4 F4 hbs B4
   rw [hf] at hf'
   injection hf' with hf'
   injection hf' with e1 e2
   subst e1 e2
   have A4:=A3.fr F4 (by simp)
   have VO4:=VO.fr F4 (by simp)
   have F04:=F03.trans F4 (by simp)
   refine joinP_id ⟨fun _ => ?_,fun h=>by cases h⟩
   refine hC _ _ _ _ ?_
   refine c200 hN.h hN.l256 B4 hfx A4 hby (fun x hx=>⟨(hN.mem hx).1,(hN.mem hx).2.1⟩) (by omega) ?_
   intro w5 s5 ol5 hEn5 V5 F5
   have e:=hEn.uniq hEn5
   subst e
   have VO5:=VO4.fr F5 (by simp)
   have hol:=VO5.len
   refine c27 VO5.vec.arr V5.vec.arr (by omega) ?_
   intro w6 F6
   unfold q203_J2
   exact hk _ ((F04.trans F5 (by simp)).trans F6 (by simp))
theorem lawZ {w:World} {s0:Sl} {xs:List Nat} {K:Bool→PT} (G:GE w) (A:Arr .u8 w s0 xs) (hby:By xs) (hk:∀w',Fm w w' []→K true w'):callP Tryz.prog 3 #[.slice s0.a s0.l s0.c] [.c .B] K w:=by
 apply q303_ok
 exact law203 (C10:=fun s0 s1 κ=>callP Tryz.prog 10 #[.slice s0.a s0.l s0.c,.slice s1.a s1.l s1.c] [.c .S] κ) (fun s0 s1 κ w h=>q300_ok s0 s1 κ h) G A hby hk
end Go.Sx
