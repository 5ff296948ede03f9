/- Lemmas for the proof: H46 H47 H48 H49 Z3 ZW. No conditions. -/
import Derived.Test.YtlnhldlhmplphaaDoorS6A09
set_option linter.unusedVariables false
set_option linter.unusedSimpArgs false
namespace Go.Sx
open Go Go.Proofs
set_option maxRecDepth 4000
section
variable {w:World} {g n L M0 L0:Nat} {s:HU} {s1:Sl} {xs pre:List Nat} {col:Nat→Nat} {cnt ln0:Nat→Nat} {fc:FuncId} {Enc:(Nat→Nat)→(Nat→Nat)→List Nat→List Nat→Prop} {K3:Sl×Bool×Value→PT}
theorem HQ.pt0 {w':World} (Q:HQ w g s col n cnt L pre) (F:Fm w w' [g]) (B:Blk w' g ({ s with pt:=⟨s.pt.a,0,s.pt.c⟩ } : HU).at):HQ w' g { s with pt:=⟨s.pt.a,0,s.pt.c⟩ } col n cnt L pre:=by
 have n9:∀v ∈ [g],9≤v:=by intro v hv;simp at hv;subst hv;exact Q.g9
 have pb:=Q.pt.mv F (Q.keepG (by decide))
 refine ⟨⟨B,Q.cg,Q.low,Q.out.mv F (Q.keepG (by decide)),.inr (Q.nodP.mv F (Q.keepG (by decide))),Q.ct.mv F (Q.keepG (by decide)),⟨?_,pb.co⟩,.inl rfl,.inr (Q.fseP.mv F (Q.keepG (by decide))),Q.gl.fm F n9,fun i hi=>(Q.er i hi).fm F (fun h=>by have:=n9 i h;omega),Q.mx,.inl Q.ccT⟩,Q.oP.fr F (fun b hb=>(Q.keepG (r:=2) (by decide)).out (Q.out2 b hb) (Q.oP.lt b hb)),Q.nodP.mv F (Q.keepG (by decide)),Q.fseP.mv F (Q.keepG (by decide)),Q.srcN,Q.tlP,⟨Q.sc.sym,Q.sc.l1,Q.sc.l256,Q.sc.cn,Q.sc.lt⟩,Q.ccT,Q.wl⟩
 obtain ⟨h1,h2,h3⟩:=pb.own
 exact ⟨Nat.zero_le _,h2,h3⟩
theorem HW.pt0 {w':World} (Q:HW w g s col) (F:Fm w w' [g]) (B:Blk w' g ({ s with pt:=⟨s.pt.a,0,s.pt.c⟩ } : HU).at):HW w' g { s with pt:=⟨s.pt.a,0,s.pt.c⟩ } col:=by
 have n9:∀v ∈ [g],9≤v:=by intro v hv;simp at hv;subst hv;exact Q.g9
 have pb:=Q.pt.mv F (Q.keepG (by decide))
 refine ⟨B,Q.cg,Q.low,Q.out.mv F (Q.keepG (by decide)),Q.nod.imp id (fun h=>h.mv F (Q.keepG (by decide))),Q.ct.mv F (Q.keepG (by decide)),⟨?_,pb.co⟩,.inl rfl,Q.fse.imp id (fun h=>h.mv F (Q.keepG (by decide))),Q.gl.fm F n9,fun i hi=>(Q.er i hi).fm F (fun h=>by have:=n9 i h;omega),Q.mx,Q.cz⟩
 obtain ⟨h1,h2,h3⟩:=pb.own
 exact ⟨Nat.zero_le _,h2,h3⟩
theorem rs_fall {R:Unit→PT} (hT:s.outT=⟨none,0,0⟩) (Q:HQ w g s col n cnt L pre) (k:KE w g s col xs Enc M0 ln0 L0 K3) (hk:s.reuse≠3→∀w' s' col',s'.outT=⟨none,0,0⟩→HQ w' g s' col' n cnt L pre→SK s s'→GoW w w' col col'→R () w') :
  (nz (some ⟨g,0,none⟩) fun (p272:Addr)=>ld (.I .u8) (Addr.add p272 263) fun (n273:Int)=>cnd (decide (n273=(3:Int))) (drw<|ld .V ⟨0,0,none⟩ fun (v274:Value)=>K3 (⟨none,0,0⟩,false,v274)) (nz (some ⟨g,0,none⟩) fun (p275:Addr)=>ld .S (Addr.add p275 270) fun (s276:Sl)=>slc 2 s276 none (some (0:Int)) none fun (s277:Sl)=>nz (some ⟨g,0,none⟩) fun (p278:Addr)=>st (Addr.add p278 270) (.slice s277.a s277.l s277.c)<|R ())) w:=by
 refine ⟨_,rfl,?_⟩
 simp only [add_mk,Nat.zero_add]
 refine ld_b (t := .I .u8) (x:=s.reuse) Q.blk rfl (cnd_d (fun h3 => ?_) (fun h3=>⟨_,rfl,?_⟩))
 ·exact err_hw (by decide) Q.hw (fun w2 v hv W2 G2=>k.e w2 _ col v hv (fun h=>absurd (h3.symm.trans h) (by decide)) W2 hT (SK.refl s) G2)
 ·simp only [add_mk,Nat.zero_add]
  refine ld_b (t := .S) (x:=s.pt) Q.blk rfl ?_
  refine slc_hi (m:=0) rfl (Nat.zero_le _) ⟨_,rfl,?_⟩
  simp only [add_mk,Nat.zero_add]
  refine st_u Q.blk rfl rfl ?_
  intro w1 B1 F1
  have B1':=B1.congr (HU.setT (s' := { s with pt:=⟨s.pt.a,0,s.pt.c⟩ }) 14 rfl rfl rfl (by decide))
  exact hk h3 w1 { s with pt:=⟨s.pt.a,0,s.pt.c⟩ } col hT (Q.pt0 F1 B1') ⟨rfl,rfl,rfl⟩ (Q.mvG F1).go
theorem rs_end1 {R:Unit→PT} (hT:s.outT=⟨none,0,0⟩) (T:TX w col s1 xs fc Enc) (Q:HQ w g s col n cnt L []) (k:KE w g s col xs Enc M0 ln0 L0 K3) (hr:s.reuse≠2) (hx:∀x∈xs,x<L0∧0<ln0 x) (hP:PTc w s.pt M0 ln0 L0) (h2:2≤xs.length)
  (hk:s.reuse≠3→∀w' s' col' pre,s'.outT=⟨none,0,0⟩→(pre = []∨(xs.length≤pre.length∧pre.length≤2^19))→HQ w' g s' col' n cnt L pre→SK s s'→GoW w w' col col'→R () w') :
  (nz (some ⟨g,0,none⟩) fun (p214:Addr)=>ld .S (Addr.add p214 271) fun (s215:Sl)=>nz (some ⟨g,0,none⟩) fun (p216:Addr)=>ld (.I .u8) (Addr.add p216 268) fun (n217:Int)=>nz (some ⟨g,0,none⟩) fun (p218:Addr)=>ld .S (Addr.add p218 270) fun (s219:Sl)=>nz (some ⟨g,0,none⟩) fun (p220:Addr)=>st (Addr.add p220 271) (.slice s219.a s219.l s219.c)<|nz (some ⟨g,0,none⟩) fun (p221:Addr)=>ld (.I .u8) (Addr.add p221 269) fun (n222:Int)=>nz (some ⟨g,0,none⟩) fun (p223:Addr)=>st (Addr.add p223 268) (.int .u8 n222)<|callV Tryd.prog (.func (.func fc) #[.pointer (some ⟨g,0,none⟩)] #[]) #[(.slice s1.a s1.l s1.c)] [.c .S,.c .V] fun (r224:Sl×Value)=>nz (some ⟨g,0,none⟩) fun (p225:Addr)=>st (Addr.add p225 256) (.slice r224.1.a r224.1.l r224.1.c)<|nz (some ⟨g,0,none⟩) fun (p226:Addr)=>st (Addr.add p226 271) (.slice s215.a s215.l s215.c)<|nz (some ⟨g,0,none⟩) fun (p227:Addr)=>st (Addr.add p227 268) (.int .u8 n217)<|req (isIf r224.2=true)<|cnd (isNil r224.2) (nz (some ⟨g,0,none⟩) fun (p228:Addr)=>ld .S (Addr.add p228 256) fun (s229:Sl)=>cnd (decide ((s229.l:Int)<((xs.length:Nat):Int))) (nz (some ⟨g,0,none⟩) fun (p230:Addr)=>ld .S (Addr.add p230 256) fun (s231:Sl)=>nz (some ⟨g,0,none⟩) fun (p232:Addr)=>st (Addr.add p232 258) (.slice s231.a s231.l s231.c)<|nz (some ⟨g,0,none⟩) fun (p233:Addr)=>ld .S (Addr.add p233 256) fun (s234:Sl)=>K3 (s234,true,.nilIface)) (nz (some ⟨g,0,none⟩) fun (p235:Addr)=>ld (.I .u8) (Addr.add p235 263) fun (n236:Int)=>cnd (decide (n236=(3:Int))) (drw<|ld .V ⟨0,0,none⟩ fun (v237:Value)=>K3 (⟨none,0,0⟩,false,v237)) (nz (some ⟨g,0,none⟩) fun (p238:Addr)=>ld .S (Addr.add p238 270) fun (s239:Sl)=>slc 2 s239 none (some (0:Int)) none fun (s240:Sl)=>nz (some ⟨g,0,none⟩) fun (p241:Addr)=>st (Addr.add p241 270) (.slice s240.a s240.l s240.c)<|R ()))) (nz (some ⟨g,0,none⟩) fun (p242:Addr)=>ld (.I .u8) (Addr.add p242 263) fun (n243:Int)=>cnd (decide (n243=(3:Int))) (drw<|ld .V ⟨0,0,none⟩ fun (v244:Value)=>K3 (⟨none,0,0⟩,false,v244)) (nz (some ⟨g,0,none⟩) fun (p245:Addr)=>ld .S (Addr.add p245 270) fun (s246:Sl)=>slc 2 s246 none (some (0:Int)) none fun (s247:Sl)=>nz (some ⟨g,0,none⟩) fun (p248:Addr)=>st (Addr.add p248 270) (.slice s247.a s247.l s247.c)<|R ()))) w:=by
 refine rs_step (K:=fun r224=>req (isIf r224.2=true)<|cnd (isNil r224.2) (nz (some ⟨g,0,none⟩) fun (p228:Addr)=>ld .S (Addr.add p228 256) fun (s229:Sl)=>cnd (decide ((s229.l:Int)<((xs.length:Nat):Int))) (nz (some ⟨g,0,none⟩) fun (p230:Addr)=>ld .S (Addr.add p230 256) fun (s231:Sl)=>nz (some ⟨g,0,none⟩) fun (p232:Addr)=>st (Addr.add p232 258) (.slice s231.a s231.l s231.c)<|nz (some ⟨g,0,none⟩) fun (p233:Addr)=>ld .S (Addr.add p233 256) fun (s234:Sl)=>K3 (s234,true,.nilIface)) (nz (some ⟨g,0,none⟩) fun (p235:Addr)=>ld (.I .u8) (Addr.add p235 263) fun (n236:Int)=>cnd (decide (n236=(3:Int))) (drw<|ld .V ⟨0,0,none⟩ fun (v237:Value)=>K3 (⟨none,0,0⟩,false,v237)) (nz (some ⟨g,0,none⟩) fun (p238:Addr)=>ld .S (Addr.add p238 270) fun (s239:Sl)=>slc 2 s239 none (some (0:Int)) none fun (s240:Sl)=>nz (some ⟨g,0,none⟩) fun (p241:Addr)=>st (Addr.add p241 270) (.slice s240.a s240.l s240.c)<|R ()))) (nz (some ⟨g,0,none⟩) fun (p242:Addr)=>ld (.I .u8) (Addr.add p242 263) fun (n243:Int)=>cnd (decide (n243=(3:Int))) (drw<|ld .V ⟨0,0,none⟩ fun (v244:Value)=>K3 (⟨none,0,0⟩,false,v244)) (nz (some ⟨g,0,none⟩) fun (p245:Addr)=>ld .S (Addr.add p245 270) fun (s246:Sl)=>slc 2 s246 none (some (0:Int)) none fun (s247:Sl)=>nz (some ⟨g,0,none⟩) fun (p248:Addr)=>st (Addr.add p248 270) (.slice s247.a s247.l s247.c)<|R ()))) T.hC T.hfn Q hP hx T.src T.far h2 T.le (by simp) ?_ ?_
 ·intro _ w' s' col' v hv es Q' G' _ _
  subst es
  refine ⟨isPE.ifc hv.2,⟨fun h=>(by rw [isPE.nil hv.2] at h;cases h),fun _ => ?_⟩⟩
  refine rs_fall (s := { s with out:=⟨none,0,0⟩ }) hT Q' (k.go G' ⟨rfl,rfl,rfl⟩) ?_
  intro h3 w2 s2 col2 hT2 Q2 S2 G2
  exact hk h3 w2 s2 col2 [] hT2 (.inl rfl) Q2 ⟨S2.reuse,S2.wll,S2.tl⟩ (G'.trans G2)
 ·intro w' s' col' so ol hEn es Q' G' hP' _
  subst es
  have hol:so.l=ol.length:=Q'.oP.len
  have k':=k.go (s' := { s with out:=so }) G' ⟨rfl,rfl,rfl⟩
  refine ⟨rfl,⟨fun _=>⟨_,rfl,?_⟩,fun h=>by cases h⟩⟩
  simp only [add_mk,Nat.zero_add]
  refine ld_b (t := .S) (x:=so) Q'.blk rfl (cnd_d (fun hlt => ?_) (fun hge => ?_))
  ·exact rs_take (s := { s with out:=so }) (so:=so) (x25:=0) (ol:=ol) hT Q' k' hr hEn hx hP' rfl (by omega)
  ·refine rs_fall (s := { s with out:=so }) hT Q' k' ?_
   intro h3 w2 s2 col2 hT2 Q2 S2 G2
   refine hk h3 w2 s2 col2 ol hT2 (.inr ⟨by omega,?_⟩) Q2 ⟨S2.reuse,S2.wll,S2.tl⟩ (G'.trans G2)
   refine T.hE _ _ _ _ hEn ?_ T.le
   intro x hx'
   obtain ⟨_,_,_,cnt',_,_,_,_,HTc,_⟩:=hP
   have h1:=HTc.le x (hx x hx').1
   have h2:=HTc.m11
   omega
theorem j88_X9 {x19:Int×Bool} (hcn:CntOK xs) (hX3:s.reuse=3→x19.2=true) (hT:s.outT=⟨none,0,0⟩) (T:TX w col s1 xs fc Enc) (Q:HQ w g s col xs.length (fun i=>xs.count i) L []) (k:KE w g s col xs Enc M0 ln0 L0 K3) (hl:2≤L∧(∀i,L≤i→xs.count i=0)∧0<xs.count (L-1)∧∃a,a<L-1∧0<xs.count a) (h2:2≤xs.length)
  (hb:x19.2=true→s.reuse≠2∧(∀x∈xs,x<L0∧0<ln0 x)∧PTc w s.pt M0 ln0 L0) :
  q88_X9 s1 (some ⟨g,0,none⟩) (.func (.func fc) #[.pointer (some ⟨g,0,none⟩)] #[]) K3 x19 (xs.length:Nat) (q88_J8 s1 (some ⟨g,0,none⟩) (.func (.func fc) #[.pointer (some ⟨g,0,none⟩)] #[]) K3 x19 (xs.length:Nat)) w:=by
 have plain:s.reuse≠3→q88_J8 s1 (some ⟨g,0,none⟩) (.func (.func fc) #[.pointer (some ⟨g,0,none⟩)] #[]) K3 x19 (xs.length:Nat) () w:=fun hr3=>j88_J8 hcn (fun _=>rfl) hr3 hT T Q k hl h2 (.inl rfl) (fun _ h=>(hb h).2)
 have again:s.reuse≠0→s.reuse≠2→s.reuse≠3→∀w' s' col' pre,s'.outT=⟨none,0,0⟩→(pre = []∨(xs.length≤pre.length∧pre.length≤2^19))→HQ w' g s' col' xs.length (fun i=>xs.count i) L pre→SK s s'→GoW w w' col col'→q88_J8 s1 (some ⟨g,0,none⟩) (.func (.func fc) #[.pointer (some ⟨g,0,none⟩)] #[]) K3 x19 (xs.length:Nat) () w':=by
  intro h0 h02 hr3 w' s' col' pre hT' hpre Q' S' G'
  exact j88_J8 hcn (fun h=>absurd (S'.reuse.symm.trans h) h02) (by rw [S'.reuse];exact hr3) hT' (T.go G') Q' (k.go G' S') hl h2 (hpre.imp id (fun h=>⟨by rw [S'.reuse];exact h0,h.1,h.2⟩)) (fun h _=>absurd (S'.reuse▸h) h0)
 unfold q88_X9
 refine ⟨_,rfl,?_⟩
 simp only [add_mk,Nat.zero_add]
 refine ld_b (t := .I .u8) (x:=s.reuse) Q.blk rfl (cnd_d (fun h1=>⟨fun hbt => ?_,fun _=>plain (by rw [h1];decide)⟩) (fun _=>⟨_,rfl,?_⟩))
 ·obtain ⟨hr,hx,hP⟩:=hb hbt
  exact rs_end1 hT T Q k hr hx hP h2 (again (by rw [h1];decide) (by rw [h1];decide))
 ·simp only [add_mk,Nat.zero_add]
  refine ld_b (t := .I .u8) (x:=s.reuse) Q.blk rfl (cnd_d (fun h3=>⟨fun hbt => ?_,fun hbf=>absurd (hX3 h3) (by rw [hbf];decide)⟩) (fun h3=>plain h3))
  obtain ⟨hr,hx,hP⟩:=hb hbt
  exact rs_end1 hT T Q k hr hx hP h2 (again (by rw [h3];decide) (by rw [h3];decide))
theorem c88 (T:TX w col s1 xs fc Enc) (W:HP w g s col xs.length) (hp:s.pt.l=0∨PTc w s.pt M0 ln0 L0) (hwl:s.wll=0) (k:KE w g s col xs Enc M0 ln0 L0 K3) :
  callP Tryd.prog 88 #[.slice s1.a s1.l s1.c,.pointer (some ⟨g,0,none⟩),.func (.func fc) #[.pointer (some ⟨g,0,none⟩)] #[]] [.c .S,.c .B,.c .V] K3 w:=by
 apply q88_ok
 unfold q88
 refine joinP_id ?_
 have body:∀(w1:World) (sA:HU),HP w1 g sA col xs.length→SK s sA→GoW w w1 col col→(sA.pt.l=0∨(s.reuse≠2∧PTc w1 sA.pt M0 ln0 L0))→q88_J12 s1 (some ⟨g,0,none⟩) (.func (.func fc) #[.pointer (some ⟨g,0,none⟩)] #[]) K3 () w1:=by
  intro w1 sA W1 S1 G1 hp1
  have T1:=T.go G1
  have k1:=k.go G1 S1
  have hsl:=T1.src.len
  have hle:=T1.le
  unfold q88_J12
  refine ⟨_,rfl,?_⟩
  simp only [add_mk,Nat.zero_add]
  refine ld_b (t := .I .i64) (x:=sA.maxC) W1.blk rfl ?_
  refine joinP_id ?_
  refine cnd_d (fun _ => ?_) (fun h=>absurd W1.mx h)
  have go:∀(w2:World) (sB:HU) (m:Nat) (b:Bool),Fm w1 w2 [g]→Blk w2 g sB.at→sB.wll=0 →
    (∀w3,Fm w1 w3 [g]→Blk w3 g ({ sB with cc:=true,maxC:=0 } : HU).at→(cnd (decide (((s1.l:Nat):Int)≤((m:Nat):Int))) (cnd (decide (((s1.l:Nat):Int)<((m:Nat):Int))) (callP Tryd.prog 62 #[(.string ⟨#[109,97,120,67,111,117,110,116,32,62,32,108,101,110,103,116,104]⟩)] [.c .V] fun (r28:Value)=>K3 (⟨none,0,0⟩,false,r28)) (cnd (decide (((s1.l:Nat):Int)=(1:Int))) (drw<|ld .V ⟨0,0,none⟩ fun (v29:Value)=>K3 (⟨none,0,0⟩,false,v29)) (drw<|ld .V ⟨1,0,none⟩ fun (v30:Value)=>K3 (⟨none,0,0⟩,false,v30)))) (cnd (decide (((m:Nat):Int)=(1:Int))) (drw<|ld .V ⟨0,0,none⟩ fun (v31:Value)=>K3 (⟨none,0,0⟩,false,v31)) (req (0≤(7:Int))<|cnd (decide (((m:Nat):Int)<(shrI .i64 ((s1.l:Nat):Int) (7:Int)))) (drw<|ld .V ⟨0,0,none⟩ fun (v32:Value)=>K3 (⟨none,0,0⟩,false,v32)) (nz (some ⟨g,0,none⟩) fun (p33:Addr)=>ld (.I .u8) (Addr.add p33 263) fun (n34:Int)=>cnd (decide (n34=(3:Int))) (cnd (!b) (drw<|ld .V ⟨0,0,none⟩ fun (v35:Value)=>K3 (⟨none,0,0⟩,false,v35)) (joinP (q88_X4 s1 (some ⟨g,0,none⟩) (.func (.func fc) #[.pointer (some ⟨g,0,none⟩)] #[]) K3 (((m:Nat):Int),b) ((s1.l:Nat):Int)) (q88_J3 s1 (some ⟨g,0,none⟩) (.func (.func fc) #[.pointer (some ⟨g,0,none⟩)] #[]) K3 (((m:Nat):Int),b) ((s1.l:Nat):Int)))) (joinP (q88_X9 s1 (some ⟨g,0,none⟩) (.func (.func fc) #[.pointer (some ⟨g,0,none⟩)] #[]) K3 (((m:Nat):Int),b) ((s1.l:Nat):Int)) (q88_J8 s1 (some ⟨g,0,none⟩) (.func (.func fc) #[.pointer (some ⟨g,0,none⟩)] #[]) K3 (((m:Nat):Int),b) ((s1.l:Nat):Int))))))) w3) →
    q88_J11 s1 (some ⟨g,0,none⟩) (.func (.func fc) #[.pointer (some ⟨g,0,none⟩)] #[]) K3 (((m:Nat):Int),b) w2:=by
   intro w2 sB m b F2 B2 hwlB h
   unfold q88_J11
   refine joinP_id ⟨_,rfl,?_⟩
   simp only [add_mk,Nat.zero_add]
   refine ld_b (t := .I .u8) (x:=sB.wll) B2 rfl (cnd_d (fun h0=>absurd h0 (by rw [hwlB];decide)) (fun _ => ?_))
   unfold q88_J10
   refine ⟨_,rfl,?_⟩
   simp only [add_mk,Nat.zero_add]
   refine st_u B2 rfl rfl ?_
   intro w3 B3 F3
   have B3':=B3.congr (HU.setT (s' := { sB with cc:=true }) 11 rfl rfl rfl (by decide))
   refine ⟨_,rfl,?_⟩
   simp only [add_mk,Nat.zero_add]
   refine st_u B3' rfl rfl ?_
   intro w4 B4 F4
   have B4':=B4.congr (HU.setT (s' := { sB with cc:=true,maxC:=0 }) 10 rfl rfl rfl (by decide))
   exact h w4 ((F2.trans F3 (fun x hx => .inl hx)).trans F4 (fun x hx => .inl hx)) B4'
  have hown:∀v ∈ [g],v<w1.heap.size→own (col v):=by intro v hv _;simp at hv;subst hv;rw [W1.cg];exact ⟨by decide,by decide⟩
  refine c117p W1.toHW W1.cnt0 T1.src T1.by_ (by omega) T1.far ?_ ?_
  ·-- no bytes
   intro hxe w2 c' b B2 F2
   refine go w2 _ 0 b F2 B2 (S1.wll.trans hwl) ?_
   intro w3 F3 B3
   have h0:s1.l=0:=by rw [hsl,hxe];rfl
   rw [h0]
   have W3:=W1.toHW.same (s' := { sA with count:=c',cc:=true,maxC:=0 }) B3 F3 rfl rfl rfl rfl rfl rfl (.inl rfl)
   have k3:=k1.go (s' := { sA with count:=c',cc:=true,maxC:=0 }) (GoW.of F3 hown (fun _ _=>rfl)) ⟨rfl,rfl,rfl⟩
   refine cnd_d (fun _=>cnd_d (fun h=>absurd h (by decide)) (fun _=>cnd_d (fun h=>absurd h (by decide)) (fun _ => ?_))) (fun h=>absurd h (by decide))
   exact err_hw (by decide) W3 (fun w4 v hv W4 G4=>k3.e w4 _ col v hv (fun _ _ _ => .inl (fun h=>h.ne hxe)) W4 W1.oT0 (SK.refl _) G4)
  ·intro w2 c' b m Lx hxe hM hbt hbf hc B2 F2
   refine go w2 _ m b F2 B2 (S1.wll.trans hwl) ?_
   intro w3 F3 B3
   have W3:=W1.toHW.same (s' := { sA with count:=c',symL:=(Lx:Nat),cc:=true,maxC:=0 }) B3 F3 rfl rfl rfl rfl rfl rfl (.inl rfl)
   have G3:GoW w1 w3 col col:=GoW.of F3 hown (fun _ _=>rfl)
   have T3:=T1.go G3
   have k3:=k1.go (s' := { sA with count:=c',symL:=(Lx:Nat),cc:=true,maxC:=0 }) G3 ⟨rfl,rfl,rfl⟩
   have er:∀i,i<3→(sA.reuse=2→¬CntOK xs)→(drw<|ld .V ⟨i,0,none⟩ fun (v31:Value)=>K3 (⟨none,0,0⟩,false,v31)) w3:=fun i hi hno=>err_hw hi W3 (fun w4 v hv W4 G4=>k3.e w4 _ col v hv (fun h _ _ => .inl (hno h)) W4 W1.oT0 (SK.refl _) G4)
   have eshr:shrI .i64 ((xs.length:Nat):Int) (7:Int)=((xs.length/128:Nat):Int):=by
    rw [show (7:Int)=((7:Nat):Int) from rfl,shrI_nat _ _ _ (by simp only [IntKind.bits];omega)]
   rw [hsl,eshr]
   obtain ⟨ix,_,hix⟩:=hM.ex
   have hix:xs.count ix=m:=hix
   have hmle:xs.count ix≤xs.length:=List.count_le_length
   refine cnd_d (fun hge=>cnd_d (fun h=>by omega) (fun _=>cnd_d (fun _=>er 0 (by decide) (fun _ h=>by have:=(h.at hM).1;omega)) (fun _=>er 1 (by decide) (fun _ h=>by have:=(h.at hM).1;omega)))) (fun hlt => ?_)
   have hm:m<xs.length:=by omega
   have hmp:=hM.pos
   refine cnd_d (fun hm1=>er 0 (by decide) (fun _ h=>by have:=(h.at hM).2.1;omega)) (fun hm1=>⟨by decide,cnd_d (fun hm7=>er 0 (by decide) (fun _ h=>by have:=(h.at hM).2.2;omega)) (fun hm7=>⟨_,rfl,?_⟩)⟩)
   have hcn:CntOK xs:=⟨m,Lx,hM,hm,by omega,by omega⟩
   have hl:=mx_two hM T1.by_ hm
   have h2:2≤xs.length:=by omega
   have Q3:HQ w3 g ({ sA with count:=c',symL:=(Lx:Nat),cc:=true,maxC:=0 } : HU) col xs.length (fun i=>xs.count i) Lx []:=by
    refine ⟨W3,W1.o0.fr F3 (fun b hb=>(W1.toHW.keepG (r:=2) (by decide)).out (W1.out.co b hb) (W1.o0.lt b hb)),W1.nodP.mv F3 (W1.toHW.keepG (by decide)),W1.fseP.mv F3 (W1.toHW.keepG (by decide)),W1.srcN,W1.tlP,⟨rfl,hM.l1,hM.l256,fun i hi=>hc i (by have:=hM.l256;omega),fun i hi => ?_⟩,rfl,S1.wll.trans hwl⟩
    have h1:xs.count i≤m:=hM.le i (by have:=hM.l256;omega)
    show xs.count i<2^18
    omega
   have hP3:∀M1 ln1 L1,PTc w1 sA.pt M1 ln1 L1→PTc w3 sA.pt M1 ln1 L1:=fun M1 ln1 L1 h=>h.mv F3 (fun v hv=>(W1.toHW.keepG (r:=5) (by decide)).out (W1.pt.co v hv) (W1.pt.own.lt v hv))
   have hb3:b=true→s.reuse≠2∧(∀x∈xs,x<L0∧0<ln0 x)∧PTc w3 sA.pt M0 ln0 L0:=by
    intro hb
    obtain ⟨h1,h3⟩:=hbt hb
    rcases hp1 with h4|⟨h4,h5⟩
    ·omega
    ·exact ⟨h4,h3 _ _ _ h5,hP3 _ _ _ h5⟩
   have hX:=fun (hX3:sA.reuse=3→b=true)=>j88_X9 (s := { sA with count:=c',symL:=((Lx:Nat):Int),cc:=true,maxC:=0 }) (x19:=(((m:Nat):Int),b)) hcn hX3 W1.oT0 T3 Q3 k3 hl h2 (fun hb=>by
    obtain ⟨h1,h3,h4⟩:=hb3 hb
    exact ⟨fun e=>h1 (S1.reuse▸e),h3,h4⟩)
   simp only [add_mk,Nat.zero_add]
   refine ld_b (t := .I .u8) (x:=sA.reuse) Q3.blk rfl (cnd_d (fun h33=>⟨fun _=>er 0 (by decide) (fun h=>absurd (h33.symm.trans h) (by decide)),fun hbt => ?_⟩) (fun h3=>joinP_id (hX (fun e=>absurd e h3))))
   exact joinP_id (hX (fun _=>by simpa using hbt))
 refine ⟨_,rfl,?_⟩
 simp only [add_mk,Nat.zero_add]
 refine ld_b (t := .I .u8) (x:=s.reuse) W.blk rfl (cnd_d (fun h2=>⟨_,rfl,?_⟩) (fun h2 => ?_))
 ·simp only [add_mk,Nat.zero_add]
  refine ld_b (t := .S) (x:=s.pt) W.blk rfl ?_
  refine slc_hi (m:=0) rfl (Nat.zero_le _) ⟨_,rfl,?_⟩
  simp only [add_mk,Nat.zero_add]
  refine st_u W.blk rfl rfl ?_
  intro w1 B1 F1
  have B1':=B1.congr (HU.setT (s' := { s with pt:=⟨s.pt.a,0,s.pt.c⟩ }) 14 rfl rfl rfl (by decide))
  have W1:=W.toHW.pt0 F1 B1'
  have kg:=fun r (hr:r≠1)=>W.toHW.keepG (r:=r) hr
  refine body w1 _ ⟨W1,W.o0.fr F1 (fun b hb=>(kg 2 (by decide)).out (W.out.co b hb) (W.o0.lt b hb)),W.oT0,W.nodP.mv F1 (kg 3 (by decide)),W.fseP.mv F1 (kg 6 (by decide)),W.cnt0,W.cc0,W.srcN,W.tlP⟩ ⟨rfl,rfl,rfl⟩ ?_ (.inl rfl)
  exact GoW.of F1 (by intro v hv _;simp at hv;subst hv;rw [W.cg];exact ⟨by decide,by decide⟩) (fun _ _=>rfl)
 ·exact body w s W (SK.refl s) (GoW.refl w col) (hp.imp id (fun h=>⟨h2,h⟩))
end
theorem c47 {w:World} {s0:Sl} {xs:List Nat} {K:Sl→PT} (A:Arr .u8 w s0 xs) (hxs:xs.length≤2^40) (hk:∀w' s',VecU w' s' xs→Fm w w' []→(∀b∈s'.bs,w.heap.size≤b)→K s' w') :
  callP Tryd.prog 47 #[.slice s0.a s0.l s0.c] [.c .S] K w:=by
 apply q47_ok
 unfold q47 nw
 have F1:Fm w (w.alloc (.cells ⟨[]⟩ 5)) []:=(Fm.refl w []).alloc
 have B1:Blk (w.alloc (.cells ⟨[]⟩ 5)) w.heap.size fun i=>(⟨[]⟩:Array Value)[i]? := Blk.new
 have V1:VecU (w.alloc (.cells ⟨[]⟩ 5)) ⟨some ⟨w.heap.size,0,none⟩,0,0⟩ []:=by
  refine ⟨⟨rfl,Nat.le_refl _,fun _=>rfl,?_⟩,?_,show (0:Nat)<2^63 by decide⟩
  ·intro a ha
   injection ha with ha
   subst ha
   exact ⟨rfl,rfl,_,B1,by simp [bytes],by simp⟩
  ·intro a ha i hi
   exact absurd hi (Nat.not_lt_zero _)
 have A1:=A.fr F1 (by simp)
 refine app_vu (xs:=xs) V1 A1.has (by rw [A.len];simp only;omega) ?_
 intro s' w' h1 h2 h3
 rw [List.nil_append] at h1
 have F2:Fm w w' []:=F1.trans h2 (by intro b hb;right;simp [Sl.bs] at hb;omega)
 refine hk w' s' h1 F2 ?_
 intro b hb
 rcases h3 b hb with h|h
 ·simp [Sl.bs] at h;omega
 ·rw [World.size_alloc] at h;omega
structure GE (w:World):Prop where
 gl:GL w
 ob:∀i,i<3→∃a c T,w.cell? ⟨i,0,none⟩=some (.iface 160 (.pointer (some a)))∧w.heap[a.block]? = some (.cells c T (0,0))
theorem GE.er {w:World} (G:GE w) {i:Nat} (hi:i<3):errAt w i:=by
 obtain ⟨a,c,T,h1,_⟩:=G.ob i hi
 exact ⟨_,h1,rfl,rfl⟩
theorem GE.fm {w w':World} (G:GE w) (F:Fm w w' []):GE w':=by
 refine ⟨G.gl.fm F (by simp),?_⟩
 intro i hi
 obtain ⟨a,c,T,h1,h2⟩:=G.ob i hi
 have hl:a.block<w.heap.size:=Classical.byContradiction fun h=>by rw [Array.getElem?_eq_none (by omega)] at h2;cases h2
 refine ⟨a,c,T,?_,by rw [F.old _ hl (by simp)];exact h2⟩
 rw [←h1]
 exact cell?_of_heap (F.old _ (World.block_lt_of_cell? _ _ h1) (by simp)) _ _
theorem und68:(match Tryd.prog.underlying 68 with|some (.interface _)=>true|_=>false)=true:=by kernel_rfl
theorem und160:(match Tryd.prog.underlying 160,Tryd.prog.info? 160 with|some (.pointer te),some i=>i.comparable&&(match Tryd.prog.info? te with|some j=>j.size != 0|none=>false)|_,_=>false)=true:=by kernel_rfl
theorem eq_pe {w:World} {a b:Addr} {ca cb:Array Value} {ta tb:TypeId} {κ:Bool→PT} (ha:w.heap[a.block]? = some (.cells ca ta (0,0))) (hb:w.heap[b.block]? = some (.cells cb tb (0,0))) (hk:∀r:Bool,(a=b→r=true)→κ r w) :
  eqE Cx 68 (.iface 160 (.pointer (some a))) (.iface 160 (.pointer (some b))) κ w:=by
 obtain ⟨ms,hi⟩:∃ms,Tryd.prog.underlying 68=some (.interface ms):=by
  have h:=und68
  split at h
  ·rename_i ms e;exact ⟨ms,e⟩
  ·cases h
 obtain ⟨te,i,j,hp,hinfo,hcomp,hte,hsz⟩:∃te i j,Tryd.prog.underlying 160=some (.pointer te)∧Tryd.prog.info? 160=some i∧i.comparable=true∧Tryd.prog.info? te=some j∧j.size≠0:=by
  have h:=und160
  split at h
  ·rename_i te i e1 e2
   rw [Bool.and_eq_true] at h
   obtain ⟨h1,h2⟩:=h
   split at h2
   ·rename_i j e3
    exact ⟨te,i,j,e1,e2,h1,e3,by simpa using h2⟩
   ·cases h2
  ·cases h
 unfold eqE
 by_cases e:a=b
 ·subst e
  refine ⟨true,?_,hk _ (fun _=>rfl)⟩
  have:=run_eql_iface_ptr_same (P:=Tryd.prog) w a hi hp hinfo hcomp hte
  simpa [eqGuard,show Cx.P=Tryd.prog from rfl] using this
 ·refine ⟨false,?_,hk _ (fun h=>absurd h e)⟩
  have:=run_eql_iface_ptr_other (P:=Tryd.prog) w hi hp hinfo hcomp hte hsz e ha hb
  simpa [eqGuard,show Cx.P=Tryd.prog from rfl] using this
theorem c51 {w:World} {v:Value} {K:Int→PT} (G:GE w) (h:ER w v) (hk:∀k:Int,1≤k→k≤4→(w.cell? ⟨0,0,none⟩=some v→k=1)→K k w):callP Tryd.prog 51 #[v] [.c (.I .i64)] K w:=by
 obtain ⟨a,c,T,rfl,ha⟩:∃a c T,v = .iface 160 (.pointer (some a))∧w.heap[a.block]? = some (.cells c T (0,0)):=by
  rcases h with ⟨⟨i,hi,h1⟩,_⟩|h
  ·obtain ⟨a,c,T,h2,h3⟩:=G.ob i hi
   rw [h2] at h1
   injection h1 with h1
   exact ⟨a,c,T,h1.symm,h3⟩
  ·exact h
 obtain ⟨a0,c0,T0,h00,h01⟩:=G.ob 0 (by decide)
 obtain ⟨a1,c1,T1,h10,h11⟩:=G.ob 1 (by decide)
 obtain ⟨a2,c2,T2,h20,h21⟩:=G.ob 2 (by decide)
 have key:∀ {r:Bool},(a=a0→r=true)→r=false→w.cell? ⟨0,0,none⟩=some (.iface 160 (.pointer (some a)))→∀k:Int,k=1:=by
  intro r h1 h2 h3 k
  rw [h00] at h3
  injection h3 with h3
  injection h3 with _ h3
  injection h3 with h3
  injection h3 with h3
  rw [h1 h3.symm] at h2
  cases h2
 apply q51_ok
 unfold q51
 refine ⟨rfl,fun h=>by simp [isNil] at h,fun _ => ?_⟩
 refine ld_c (t := .V) (x := .iface 160 (.pointer (some a0))) h00 ?_
 refine eq_pe ha h01 (fun r hr=>⟨fun _=>hk 1 (by decide) (by decide) (fun _=>rfl),fun hr0 => ?_⟩)
 refine ld_c (t := .V) (x := .iface 160 (.pointer (some a1))) h10 ?_
 refine eq_pe ha h11 (fun r _=>⟨fun _=>hk 2 (by decide) (by decide) (fun h=>key hr hr0 h 2),fun _ => ?_⟩)
 refine ld_c (t := .V) (x := .iface 160 (.pointer (some a2))) h20 ?_
 exact eq_pe ha h21 (fun r _=>⟨fun _=>hk 3 (by decide) (by decide) (fun h=>key hr hr0 h 3),fun _=>hk 4 (by decide) (by decide) (fun h=>key hr hr0 h 4)⟩)
def EncB (b:Bool):(Nat→Nat)→(Nat→Nat)→List Nat→List Nat→Prop:=fun cd ln xs ol=>if b then Enc4 cd ln xs ol else EncT cd ln xs ol
theorem encB_t:EncB true=Enc4:=by unfold EncB;funext a b c d;simp
theorem encB_f:EncB false=EncT:=by unfold EncB;funext a b c d;simp
theorem hf89:hasFn Tryd.prog 89=true:=by kernel_rfl
theorem hf90:hasFn Tryd.prog 90=true:=by kernel_rfl
structure SX (s s':HU):Prop where
 reuse:s'.reuse=s.reuse
 wll:s'.wll=s.wll
 tl:s'.tl=s.tl∨(s.tl=0∧s'.tl=11)
section
variable {w:World} {g M0 L0 t:Nat} {s:HU} {s1:Sl} {xs:List Nat} {col:Nat→Nat} {ln0:Nat→Nat} {K3:Sl×Bool×Value→PT}
def tlE (t:Nat):Nat:=if t=0 then 11 else t
structure KP (w:World) (g:Nat) (s:HU) (col:Nat→Nat) (xs:List Nat) (b:Bool) (M0:Nat) (ln0:Nat→Nat) (L0:Nat) (K3:Sl×Bool×Value→PT):Prop where
 e:∀w' s' col' v,ER w' v→(s.tl=0∨(5≤s.tl∧s.tl≤11)→EG w' v)→(s.reuse=2→xs.length≤262143→∀t9:Nat,s.tl=(t9:Nat)→(t9=0∨(5≤t9∧t9≤11))→Bad xs (tlE t9) (EncB b))→HW w' g s' col'→(s'.outT=⟨none,0,0⟩∨(s'.outT=s.outT∧Fm w w' [g]∧col'=col))→SX s s'→GoW w w' col col'→K3 (⟨none,0,0⟩,false,v) w'
 r:∀w' s' col' so ol,s.reuse≠2→EncB b (vC ln0 L0 M0) ln0 xs ol→(∀x∈xs,x<L0∧0<ln0 x)→ol.length<xs.length→s'.out=so→VecU w' so ol→HW w' g s' col'→PTc w' s'.pt M0 ln0 L0→s'.outT=⟨none,0,0⟩→SX s s'→GoW w w' col col'→K3 (so,true,.nilIface) w'
 t:∀w' s' col' so M ln L tbl ol,s.reuse≠3→CntOK xs→TL (wtL M ln L) L tbl.length→(∀t9:Nat,s.tl=(t9:Nat)→LenR (fun i=>xs.count i) L xs.length (tlE t9) M ln)→NT xs M ln L→By tbl→weightsZ tbl=some (wtL M ln L,tbl.length)→EncB b (vC ln L M) ln xs ol→tbl.length+ol.length<xs.length→s'.out=so→VecU w' so (tbl++ol)→Arr .u8 w' s'.outT tbl→Arr .u8 w' s'.outD ol→(∀a,s'.outT.a=some a→col' a.block=2)→HW w' g s' col'→PTc w' s'.pt M ln L→SX s s'→GoW w w' col col'→K3 (so,false,.nilIface) w'
theorem c61w {K:Option Addr×Value→PT} (W:HW w g s col) (ht:s.tl=(t:Nat)) (ht2:t<256) (hsrc:Arr .u8 w s1 xs)
  (hk0:(262143<xs.length∨¬(s.tl=0∨(5≤s.tl∧s.tl≤11)))→∀w' s' v,ER w' v→(s.tl=0∨(5≤s.tl∧s.tl≤11)→EG w' v)→HW w' g s' col→s'.outT=s.outT→Fm w w' [g]→SX s s'→GoW w w' col col→K (none,v) w')
  (hk:xs.length≤262143→∀w' s' col',HP w' g s' col' xs.length→SR s s'→GoW w w' col col'→Fm w w' [g]→K (some ⟨g,0,none⟩,.nilIface) w') :
  callP Tryd.prog 61 #[.pointer (some ⟨g,0,none⟩),.slice s1.a s1.l s1.c] [.c .P,.c .V] K w:=by
 have hown:∀v ∈ [g],v<w.heap.size→own (col v):=by intro v hv _;simp at hv;subst hv;rw [W.cg];exact ⟨by decide,by decide⟩
 refine c61 W ht ht2 ?_ ?_
 ·intro hno w' s' v hv hv2 W' R eT F
  rw [hsrc.len] at hno
  exact hk0 hno w' s' v hv hv2 W' eT F ⟨R.reuse,R.wll,R.tl⟩ (GoW.of F hown (fun _ _=>rfl))
 ·intro hl w' s' col' P R hc F
  rw [hsrc.len] at hl P
  exact hk hl w' s' col' P R (GoW.of F hown hc) F
theorem comp_run {fc:FuncId} {b:Bool} (hC:CompOK fc (EncB b) (EncB b≠EncT)) (hfn:hasFn Tryd.prog fc=true) (hE:EncLe (EncB b)) (W:HW w g s col) (hwl:s.wll=0) (hsrc:Arr .u8 w s1 xs) (hby:By xs) (hle:xs.length≤2^18) (far:∀a,s1.a=some a→xs ≠ []→¬own (col a.block)) (hp:s.pt.l=0∨PTc w s.pt M0 ln0 L0) (k:KP w g s col xs b M0 ln0 L0 K3)
  {w':World} {s':HU} {col':Nat→Nat} (P:HP w' g s' col' xs.length) (R:SR s s') (G:GoW w w' col col') (F:Fm w w' [g]) :
  callP Tryd.prog 88 #[.slice s1.a s1.l s1.c,.pointer (some ⟨g,0,none⟩),.func (.func fc) #[.pointer (some ⟨g,0,none⟩)] #[]] [.c .S,.c .B,.c .V] K3 w':=by
 have tr:∀ {s2:HU},SK s' s2→SX s s2:=fun h=>⟨h.reuse.trans R.reuse,h.wll.trans R.wll,by rw [h.tl];exact R.tl⟩
 have htl:∀t9:Nat,s.tl=(t9:Nat)→s'.tl=((tlE t9:Nat):Int):=by
  intro t9 ht9
  obtain ⟨t8,h81,h82,h83⟩:=P.tlP
  unfold tlE
  rcases R.tl with h|⟨h,h'⟩
  ·rw [if_neg (by omega)];omega
  ·rw [if_pos (by omega)];exact h'
 have kg:=W.keepG (r:=5) (by decide)
 refine c88 (M0:=M0) (ln0:=ln0) (L0:=L0) (Enc:=EncB b) ⟨hC,hfn,hE,G.arr hsrc far,hby,G.far hsrc far,hle⟩ P ?_ (R.wll.trans hwl) ⟨?_,?_,?_⟩
 ·rw [R.pt]
  exact hp.imp id (fun h=>h.mv F (fun v hv=>kg.out (W.pt.co v hv) (W.pt.own.lt v hv)))
 ·intro w2 s2 col2 v h1 hB h2 hT h3 h4
  exact k.e w2 s2 col2 v (.inl h1) (fun _=>h1) (fun hr _ t9 ht9 _=>hB (R.reuse.trans hr) (tlE t9) (htl t9 ht9)) h2 (.inl hT) (tr h3) (G.trans h4)
 ·intro w2 s2 col2 so ol h1 h2 h3 h4 h5 h6 h7 h8 hT h9 h10
  exact k.r w2 s2 col2 so ol (by rw [←R.reuse];exact h1) h2 h3 h4 h5 h6 h7 h8 hT (tr h9) (G.trans h10)
 ·intro w2 s2 col2 so M ln L tbl ol hr3 hcn hTL hl h1 h2 h3 h4 h5 h6 h7 h8 h9 hc h10 h11 h12 h13
  have hl':∀t9:Nat,s.tl=(t9:Nat)→LenR (fun i=>xs.count i) L xs.length (tlE t9) M ln:=by
   intro t9 ht9
   exact hl (tlE t9) (htl t9 ht9)
  exact k.t w2 s2 col2 so M ln L tbl ol (by rw [←R.reuse];exact hr3) hcn hTL hl' h1 h2 h3 h4 h5 h6 h7 h8 h9 hc h10 h11 (tr h12) (G.trans h13)
theorem c50 {b:Bool} (W:HW w g s col) (ht:s.tl=(t:Nat)) (ht2:t<256) (hwl:s.wll=0) (hsrc:Arr .u8 w s1 xs) (hby:By xs) (hle:xs.length≤2^18) (far:∀a,s1.a=some a→xs ≠ []→¬own (col a.block)) (hp:s.pt.l=0∨PTc w s.pt M0 ln0 L0) (k:KP w g s col xs b M0 ln0 L0 K3) :
  callP Tryd.prog 50 #[.slice s1.a s1.l s1.c,.pointer (some ⟨g,0,none⟩),.bool b] [.c .S,.c .B,.c .V] K3 w:=by
 apply q50_ok
 unfold q50
 cases b with
 | true =>
  refine ⟨fun _ => ?_,fun h=>by cases h⟩
  apply q70_ok
  unfold q70
  refine c61w W ht ht2 hsrc ?_ ?_
  ·intro hno w' s' v hv hv2 W' eT FT S' G'
   exact ⟨isPE.ifc hv.pe,err_cnd (isPE.nil hv.pe) (k.e w' s' col v hv hv2 (fun _ hl9 t9 ht9 htt=>by
    rcases hno with h|h
    ·omega
    ·exact absurd (by omega) h) W' (.inr ⟨eT,FT,rfl⟩) S' G')⟩
  ·intro hl w' s' col' P R G F
   refine ⟨rfl,nil_cnd ?_⟩
   refine comp_run (b:=true) (by rw [encB_t];exact comp89.of enc4_ne) hf89 (by rw [encB_t];exact encLe89) W hwl hsrc hby hle far hp ⟨k.e,k.r,k.t⟩ P R G F
 | false =>
  refine ⟨(fun h=>by cases h),fun _ => ?_⟩
  apply q71_ok
  unfold q71
  refine c61w W ht ht2 hsrc ?_ ?_
  ·intro hno w' s' v hv hv2 W' eT FT S' G'
   exact ⟨isPE.ifc hv.pe,err_cnd (isPE.nil hv.pe) (k.e w' s' col v hv hv2 (fun _ hl9 t9 ht9 htt=>by
    rcases hno with h|h
    ·omega
    ·exact absurd (by omega) h) W' (.inr ⟨eT,FT,rfl⟩) S' G')⟩
  ·intro hl w' s' col' P R G F
   refine ⟨rfl,nil_cnd ?_⟩
   refine comp_run (b:=false) (by rw [encB_f];exact comp90) hf90 (by rw [encB_f];exact encLe90) W hwl hsrc hby hle far hp ⟨k.e,k.r,k.t⟩ P R G F
end
def colF (g:Nat):Nat→Nat:=fun v=>if v<9 then 0 else if v=g then 1 else 7
theorem HW.fresh {w w1:World} {s:HU} (G:GE w) (F:Fm w w1 []) (B:Blk w1 w.heap.size s.at) (h1:s.out=⟨none,0,0⟩) (h2:s.nodes=⟨none,0,0⟩) (h3:s.ct=⟨none,0,0⟩) (h4:s.pt=⟨none,0,0⟩) (h5:s.fse=none) (h6:s.maxC=0) (h7:∀i,i<256→s.count i=0):HW w1 w.heap.size s (colF w.heap.size):=by
 have h9:=G.gl.size
 have G1:=G.fm F
 refine ⟨B,?_,?_,?_,.inl ?_,?_,?_,.inl ?_,.inl h5,G1.gl,fun i hi=>G1.er hi,h6,.inr h7⟩
 ·unfold colF;rw [if_neg (by omega),if_pos rfl]
 ·intro v hv;unfold colF;rw [if_pos hv]
 ·rw [h1];exact ⟨⟨[],VecU.nil⟩,by simp [Sl.bs]⟩
 ·rw [h2];decide
 ·rw [h3];exact ⟨Own.none,by simp [Sl.bs]⟩
 ·rw [h4];exact ⟨Own.none,by simp [Sl.bs]⟩
 ·rw [h4]
theorem colF_far {g v:Nat} (h:v≠g):¬own (colF g v):=by
 unfold colF own
 by_cases hv:v<9
 ·rw [if_pos hv];omega
 ·rw [if_neg hv,if_neg h];omega
theorem colF_own {g v:Nat} (h:own (colF g v)):v=g:=Classical.byContradiction fun h1=>colF_far h1 h
theorem set_cells (l:List Value) (k:Nat) (v:Value) (h:k<l.length):(fun i=>(⟨List.set l k v⟩:Array Value)[i]?)=updC (fun i=>(⟨l⟩:Array Value)[i]?) k v:=by
 funext i
 simp only [List.getElem?_toArray]
 unfold updC
 by_cases e:i=k
 ·subst e;rw [if_pos rfl,List.getElem?_set_self h]
 ·rw [if_neg e,List.getElem?_set_ne (fun h=>e h.symm)]
theorem z94_len:z94.length=535:=by kernel_rfl
def HU.start (r t l:Int):HU := { HU.zero with reuse:=r,tl:=t,wll:=l }
theorem start_cells (r t l:Int):(fun i=>(⟨(List.set (List.set (List.set z94 263 (.int .u8 r)) 262 (.int .u8 t)) 264 (.int .u8 l))⟩:Array Value)[i]?)=(HU.start r t l).at:=by
 rw [set_cells _ _ _ (by rw [List.length_set,List.length_set,z94_len];decide),set_cells _ _ _ (by rw [List.length_set,z94_len];decide),set_cells _ _ _ (by rw [z94_len];decide),HU.atZ]
 have e1:=HU.setT (s:=HU.zero) (s' := { HU.zero with reuse:=r }) (v := .int .u8 r) 7 rfl rfl rfl (by decide)
 have e2:=HU.setT (s := { HU.zero with reuse:=r }) (s' := { HU.zero with reuse:=r,tl:=t }) (v := .int .u8 t) 6 rfl rfl rfl (by decide)
 have e3:=HU.setT (s := { HU.zero with reuse:=r,tl:=t }) (s':=HU.start r t l) (v := .int .u8 l) 8 rfl rfl rfl (by decide)
 rw [←e3, ←e2, ←e1]
theorem c24 {w:World} {s0:Sl} {xs:List Nat} {b:Bool} {t:Nat} {K4:Sl×Sl×Sl×Int→PT} (G:GE w) (hsrc:Arr .u8 w s0 xs) (hby:By xs) (hle:xs.length≤2^18) (ht:t<256)
  (hk0:∀w' k,1≤k→k≤4→Fm w w' []→K4 (⟨none,0,0⟩,⟨none,0,0⟩,⟨none,0,0⟩,k) w')
  (hk1:∀w' o T D M ln L tbl ol,CntOK xs→TL (wtL M ln L) L tbl.length→NT xs M ln L→LenR (fun i=>xs.count i) L xs.length (tlE t) M ln→By tbl→weightsZ tbl=some (wtL M ln L,tbl.length)→EncB b (vC ln L M) ln xs ol→tbl.length+ol.length<xs.length→VecU w' o (tbl++ol)→VecU w' T tbl→VecU w' D ol→Fm w w' []→K4 (o,T,D,0) w') :
  callP Tryd.prog 24 #[.slice s0.a s0.l s0.c,.bool b,.int .u8 (t:Nat),.int .u8 0] [.c .S,.c .S,.c .S,.c (.I .i64)] K4 w:=by
 apply q24_ok
 unfold q24 nwA
 have F1:Fm w (w.alloc (.cells ⟨(List.set (List.set (List.set z94 263 (.int .u8 (2:Int))) 262 (.int .u8 ((t:Nat):Int))) 264 (.int .u8 (0:Int)))⟩ 94)) []:=(Fm.refl w []).alloc
 have B1:=(Blk.new (w:=w) (cs:=⟨(List.set (List.set (List.set z94 263 (.int .u8 (2:Int))) 262 (.int .u8 ((t:Nat):Int))) 264 (.int .u8 (0:Int)))⟩) (T:=94)).congr (start_cells 2 ((t:Nat):Int) 0)
 have hs1:(w.alloc (.cells ⟨(List.set (List.set (List.set z94 263 (.int .u8 (2:Int))) 262 (.int .u8 ((t:Nat):Int))) 264 (.int .u8 (0:Int)))⟩ 94)).heap.size=w.heap.size+1:=World.size_alloc _ _
 generalize w.alloc (.cells ⟨(List.set (List.set (List.set z94 263 (.int .u8 (2:Int))) 262 (.int .u8 ((t:Nat):Int))) 264 (.int .u8 (0:Int)))⟩ 94)=w1 at *
 have W1:HW w1 w.heap.size (HU.start 2 ((t:Nat):Int) 0) (colF w.heap.size):=HW.fresh G F1 B1 rfl rfl rfl rfl rfl rfl (fun _ _=>rfl)
 have far:∀a,s0.a=some a→xs ≠ []→¬own (colF w.heap.size a.block):=by
  intro a ha hx
  have:=hsrc.old hx a ha
  exact colF_far (by omega)
 have toFm:∀ {w2:World} {col2:Nat→Nat},GoW w1 w2 (colF w.heap.size) col2→Fm w w2 []:=by
  intro w2 col2 h
  obtain ⟨⟨S,F,hS⟩,_⟩:=h
  refine F1.trans F ?_
  intro v hv
  right
  rcases Nat.lt_or_ge v w1.heap.size with h|h
  ·have:=colF_own (hS v hv h);omega
  ·omega
 refine c50 (t:=t) (M0:=0) (ln0:=fun _=>0) (L0:=0) W1 rfl ht rfl (hsrc.fr F1 (by simp)) hby hle far (.inl rfl) ⟨?_,?_,?_⟩
 ·intro w2 s2 col2 v hv _ _ W2 hT2 S2 G2
  have F2:=toFm G2
  refine ⟨isPE.ifc hv.pe,err_cnd (isPE.nil hv.pe) ?_⟩
  exact c51 (G.fm F2) hv (fun k h1 h2 _=>hk0 w2 k h1 h2 F2)
 ·intro w2 s2 col2 so ol hr
  exact absurd rfl hr
 ·intro w2 s2 col2 so M ln L tbl ol _ hcn hTL hLR hN hbt hwt hEn hlt hso V2 AT AD hoc W2 P2 S2 G2
  have F2:=toFm G2
  refine ⟨rfl,nil_cnd ?_⟩
  unfold drw
  simp only [add_mk,Nat.zero_add]
  have Bd:=W2.blk.drew
  have Fd:Fm w2 w2.drew []:=(Fm.refl w2 []).drew
  refine ld_b (t := .S) (x:=s2.outT) Bd rfl ?_
  refine ld_b (t := .S) (x:=s2.outD) Bd rfl ?_
  have hpl:(tbl++ol).length=tbl.length+ol.length:=List.length_append
  refine c47 (V2.vec.arr.fr Fd (by simp)) (by omega) ?_
  intro w3 r10 V3 F3 n3
  have B3:=Bd.fr F3 (by simp)
  have F23:Fm w2 w3 []:=Fd.trans F3 (by simp)
  refine ⟨?_,?_⟩
  ·intro f hf
   simp only [List.mem_cons,List.not_mem_nil,or_false] at hf
   rcases hf with rfl|rfl
   ·exact B3.cell 258
   ·exact B3.cell 257
  refine c47 (AT.fr F23 (by simp)) (by omega) ?_
  intro w4 r11 V4 F4 n4
  have B4:=B3.fr F4 (by simp)
  have F24:Fm w2 w4 []:=F23.trans F4 (by simp)
  refine ⟨?_,?_⟩
  ·intro f hf
   simp only [List.mem_cons,List.not_mem_nil,or_false] at hf
   subst hf
   exact B4.cell 258
  refine c47 (AD.fr F24 (by simp)) (by omega) ?_
  intro w5 r12 V5 F5 n5
  exact hk1 w5 r10 r11 r12 M ln L tbl ol hcn hTL hN (hLR t rfl) hbt hwt hEn hlt ((V3.fr F4 (by simp)).fr F5 (by simp)) (V4.fr F5 (by simp)) V5 ((F2.trans F24 (by simp)).trans F5 (by simp))
section
variable {w:World}
theorem c25 {k:Int} {K:Bool→PT} (h1:0≤k) (h2:k≤4) (hk:K true w):callP Tryd.prog 25 #[.int .i64 k] [.c .B] K w:=by
 apply q25_ok
 unfold q25
 refine joinP_id ?_
 refine cnd_d (fun _ => ?_) (fun h=>absurd h1 h)
 unfold q25_J0
 rw [decide_eq_true h2]
 exact hk
def bitsL (ln:Nat→Nat) (xs:List Nat):Nat:=(xs.map ln).sum
theorem hE_bits (cd ln:Nat→Nat):∀xs,(hE cd ln xs).2=bitsL ln xs
 | []=>rfl
 | x::r=>by
  have h:=hE_bits cd ln r
  show (hE cd ln r).2+ln x=_
  rw [h]
  unfold bitsL
  rw [List.map_cons,List.sum_cons];omega
theorem bitsL_take {ln:Nat→Nat} {xs:List Nat} {i:Nat} (h:i<xs.length):bitsL ln (xs.take (i+1))=bitsL ln (xs.take i)+ln xs[i]:=sum_take h
theorem bitsL_le {ln:Nat→Nat} {xs:List Nat} (i:Nat) (h:∀x∈xs,ln x≤11):bitsL ln (xs.take i)≤i*11:=sum_take_le ln xs 11 i h
theorem c28 {b:Nat} {s1:Sl} {xs:List Nat} {f:Nat→Int} {ln:Nat→Nat} {K:Int→PT} (B:Blk w b (arrC .i64 256 f)) (A:Arr .u8 w s1 xs) (hby:By xs) (hl:xs.length≤2^30) (hf:∀x∈xs,f x=(ln x:Nat)∧0<ln x∧ln x≤11) (hk:K ((bitsL ln xs:Nat):Int) w) :
  callP Tryd.prog 28 #[.slice (some ⟨b,0,none⟩) 256 256,.slice s1.a s1.l s1.c] [.c (.I .i64)] K w:=by
 apply q28_ok (s0:=⟨some ⟨b,0,none⟩,256,256⟩)
 unfold q28
 refine joinP_id ?_
 have hsl:=A.len
 refine ⟨fun x w'=>∃i:Nat,x=(((bitsL ln (xs.take i):Nat):Int),(i:Int))∧i≤xs.length∧w'=w,fun x _=>xs.length-x.2.toNat,⟨0,by simp [bitsL],Nat.zero_le _,rfl⟩,?_⟩
 rintro x w1 ⟨i,rfl,hi,rfl⟩
 unfold q28_L0
 simp only
 refine cnd_d ?_ ?_
 ·intro hc
  have hi2:i<xs.length:=by omega
  obtain ⟨h1,h2,h3⟩:=hf _ (List.getElem_mem hi2)
  have hx:=hby _ (List.getElem_mem hi2)
  refine A.ldk i rfl hi2 ?_
  intro p hp
  refine ld_c (t := .I .u8) (x:=((xs[i]:Nat):Int)) hp ?_
  rw [wI64 (x:=((xs[i]:Nat):Int)) (by omega) (by omega)]
  refine cnd_d (fun h=>absurd h (by first|omega|(dsimp only;omega)|(simp only [];omega))) (fun _ => ?_)
  have hcell:arrC .i64 256 f xs[i]=some (.int .i64 ((ln xs[i]:Nat):Int)):=by rw [arrC_get hx,h1]
  refine ixS_o rfl hx ?_
  rw [Nat.zero_add]
  refine ld_b (t := .I .i64) (x:=((ln xs[i]:Nat):Int)) B hcell ?_
  refine cnd_d (fun h=>absurd h (by omega)) (fun _ => ?_)
  refine ixS_o rfl hx ?_
  rw [Nat.zero_add]
  refine ld_b (t := .I .i64) (x:=((ln xs[i]:Nat):Int)) B hcell ?_
  have hb:=bitsL_le (ln:=ln) (xs:=xs) i (fun x hx=>(hf x hx).2.2)
  rw [wI64 (by omega) (by omega),wI64 (by omega) (by omega)]
  refine ⟨⟨i+1,?_,hi2,rfl⟩,by first|omega|(dsimp only;omega)|(simp only [];omega)⟩
  rw [bitsL_take hi2,Prod.mk.injEq]
  exact ⟨by omega,by first|omega|(dsimp only;omega)⟩
 ·intro hc
  have hi2:i=xs.length:=by omega
  subst hi2
  unfold q28_J1
  rw [List.take_length]
  exact hk
end
def lnx (L:Nat) (ln:Nat→Nat) (i:Nat):Nat:=if i<L then ln i else 0
theorem lnx_lt {L i:Nat} {ln:Nat→Nat} (h:i<L):lnx L ln i=ln i:=if_pos h
theorem lnx_ge {L i:Nat} {ln:Nat→Nat} (h:L≤i):lnx L ln i=0:=if_neg (by omega)
section
variable {xs tbl:List Nat} {M L:Nat} {ln:Nat→Nat}
theorem NT.hl (hN:NT xs M ln L) (hw:weightsZ tbl=some (wtL M ln L,tbl.length)):∃f,hlZ tbl=some (f,tbl.length)∧∀i,f i=(lnx L ln i:Nat):=by
 obtain ⟨f,h1,h2,h3⟩:=hl_ok hN.h hN.l2 hN.l256 hN.last hN.two hw
 refine ⟨f,h1,?_⟩
 intro i
 rcases Nat.lt_or_ge i L with h|h
 ·rw [lnx_lt h];exact h2 i h
 ·rw [lnx_ge h];exact h3 i h
theorem NT.mem (hN:NT xs M ln L) {x:Nat} (hx:x∈xs):x<L∧0<ln x∧ln x≤11:=by
 have h1:0<xs.count x:=List.count_pos_iff.mpr hx
 have h3:x<L:=Classical.byContradiction fun h=>by have:=hN.out x (by omega);omega
 have h4:=hN.h.le x h3
 have h5:=hN.h.m11
 exact ⟨h3,(hN.h.pos x h3).mpr h1,by first|omega|(dsimp only;omega)⟩
theorem bitsL_congr {f h:Nat→Nat} (e:∀x∈xs,f x=h x):bitsL f xs=bitsL h xs:=by
 unfold bitsL
 rw [List.map_congr_left e]
end
section
variable {w:World} {s0:Sl} {xs:List Nat} {K:Bool→PT}
theorem law6 {t:Nat} (G:GE w) (A:Arr .u8 w s0 xs) (hby:By xs) (ht:t<256) (hk:∀w',Fm w w' []→K true w'):callP Tryd.prog 6 #[.slice s0.a s0.l s0.c,.int .u8 (t:Nat)] [.c .B] K w:=by
 have hsl:=A.len
 apply q6_ok
 unfold q6
 refine cnd_d (fun _=>hk _ (Fm.refl _ _)) (fun _=>cnd_d (fun _=>hk _ (Fm.refl _ _)) (fun hle => ?_))
 have hxl:xs.length≤2^18:=by omega
 refine c24 (b:=false) (t:=t) G A hby hxl ht ?_ ?_
 ·intro w1 k h1 h2 F1
  refine cnd_nd (fun _=>c25 (k:=k) (by omega) h2 (hk _ F1)) (fun h=>absurd h (by first|omega|(dsimp only;omega)|(simp only [];omega)))
 ·intro w1 o T D M ln L tbl ol _ _ hN _ hbt hwt hEn hlt VO VT VD F1
  have hEn:EncT (vC ln L M) ln xs ol:=hEn
  refine cnd_nd (fun h=>absurd rfl h) (fun _ => ?_)
  obtain ⟨f,hf,hfx⟩:=hN.hl hwt
  refine c15 VT.vec.arr hbt (by omega) (fun h=>by rw [hf] at h;cases h) ?_
  intro f' used hf' w2 b F2 hbs B2
  rw [hf] at hf'
  injection hf' with hf'
  injection hf' with e1 e2
  subst e1 e2
  refine joinP_id ⟨fun _ => ?_,fun h=>by cases h⟩
  have A2:=A.fr (F1.trans F2 (by simp)) (by simp)
  refine c28 (ln:=lnx L ln) B2 A2 hby (by omega) ?_ ?_
  ·intro x hx
   obtain ⟨h1,h2,h3⟩:=hN.mem hx
   rw [hfx x,lnx_lt h1]
   exact ⟨rfl,h2,h3⟩
  ·have eb:bitsL (lnx L ln) xs=bitsL ln xs:=bitsL_congr (fun x hx=>lnx_lt (hN.mem hx).1)
   have hb:=bitsL_le (ln:=ln) (xs:=xs) xs.length (fun x hx=>(hN.mem hx).2.2)
   rw [List.take_length] at hb
   refine ⟨by decide,?_⟩
   rw [eb,show (8:Int)=((8:Nat):Int) from rfl,quoI_nat _ _ _ (by simp only [IntKind.bits];omega),wI64 (by omega) (by omega)]
   have hol:=VD.len
   have h3:=hEn.2.2
   rw [hE_bits] at h3
   have hd:decide ((D.l:Int)=(((bitsL ln xs/8:Nat):Int)+1))=true:=decide_eq_true (by omega)
   simp only
   rw [hd]
   unfold q6_J0
   exact hk _ (by first|exact F1.trans F2 (by simp)|exact (F1.trans F2 (by simp)).drew)
end
end Go.Sx
namespace Go.Sx
open Go Go.Proofs Go.ChangeShapes Go.WideShapes Go.ChangeAt Go.RowKit Go.Proofs.YtlnhldlhmplphaaDoor
set_option maxRecDepth 100000
def mask32:List Int := [0,1,3,7,15,31,63,127,255,511,1023,2047,4095,8191,16383,32767,65535,65535,65535,65535,65535,65535,65535,65535,65535,65535,0,0,0,0,0,0]
def laid0:List (String×DataW Unit) := [("pub-pemmican/pub/compress/fse.bitMask16",Rows.laid_pub_pemmican_pub_compress_fse_bitMask16),("pub-pemmican/pub/compress/fse.rtbTable",Rows.laid_pub_pemmican_pub_compress_fse_rtbTable),("pub-pemmican/pub/compress/fse.ErrIncompressible",Rows.laid_pub_pemmican_pub_compress_fse_ErrIncompressible),("pub-pemmican/pub/compress/fse.ErrUseRLE",Rows.laid_pub_pemmican_pub_compress_fse_ErrUseRLE),("pub-pemmican/pub/compress/huff0.ErrIncompressible",Rows.laid_pub_pemmican_pub_compress_huff0_ErrIncompressible),("pub-pemmican/pub/compress/huff0.ErrUseRLE",Rows.laid_pub_pemmican_pub_compress_huff0_ErrUseRLE),("pub-pemmican/pub/compress/huff0.ErrTooBig",Rows.laid_pub_pemmican_pub_compress_huff0_ErrTooBig)]
theorem ge_of_laid {W:World} (h:laidMetH Tryd.prog laid0 W):GE W:=by
 rw [MakeChecks.laidMetH_plain _ _ _ (by kernel_rfl)] at h
 have e0:=err_of_laid h (.tail _ (.tail _ (.tail _ (.tail _ (.head _))))) (g:=0) (by kernel_rfl) (by kernel_rfl)
 have e1:=err_of_laid h (.tail _ (.tail _ (.tail _ (.tail _ (.tail _ (.head _)))))) (g:=1) (by kernel_rfl) (by kernel_rfl)
 have e2:=err_of_laid h (.tail _ (.tail _ (.tail _ (.tail _ (.tail _ (.tail _ (.head _))))))) (g:=2) (by kernel_rfl) (by kernel_rfl)
 have e3:=err_of_laid h (.tail _ (.tail _ (.head _))) (g:=3) (by kernel_rfl) (by kernel_rfl)
 have e4:=err_of_laid h (.tail _ (.tail _ (.tail _ (.head _)))) (g:=4) (by kernel_rfl) (by kernel_rfl)
 have em:=nums_of_laid (zs:=mask32) (k := .u16) (t:=240) (e:=81) (m:=32) h (.head _) (g:=8) (by kernel_rfl) (by kernel_rfl) (by kernel_rfl) (by kernel_rfl) (by kernel_rfl) rfl
 have er:=nums_of_laid (zs:=rtbZ) (k := .u32) (t:=207) (e:=79) (m:=8) h (.tail _ (.head _)) (g:=6) (by kernel_rfl) (by kernel_rfl) (by kernel_rfl) (by kernel_rfl) (by kernel_rfl) rfl
 have ee:∀ {g:Nat},(∃a c T,W.cell? ⟨g,0,none⟩=some (.iface 160 (.pointer (some a)))∧W.heap[a.block]? = some (.cells c T (0,0)))→errAt W g:=fun ⟨a,c,T,h1,_⟩=>⟨_,h1,rfl,rfl⟩
 refine ⟨⟨ee e3,ee e4,?_,?_⟩,?_⟩
 ·intro k hk
  exact er k hk
 ·intro n hn
  rw [em n (by omega)]
  have:∀m:Fin 17,mask32.getD (m:Nat) 0=((2^(m:Nat)-1:Nat):Int):=by decide
  rw [this ⟨n,by omega⟩]
 ·intro i hi
  have:i=0∨i=1∨i=2:=by omega
  rcases this with rfl|rfl|rfl
  ·exact e0
  ·exact e1
  ·exact e2
theorem bytes_in {H:Type} {enc:TypeId×Value→H} {W:World} {v:Value} {d:DataW H} {p:List MemPlace} (h:DataW.Trod enc Tryd.prog W 0 (fun _=>true) true 22 v d p) (hv:∃a l c,v = .slice a l c) :
  ∃(s:Sl) (xs:List Nat),v = .slice s.a s.l s.c∧Arr .u8 W s xs∧By xs:=by
 obtain ⟨n,hn⟩:=h
 obtain ⟨a0,l0,c0,rfl⟩:=hv
 rcases open_ints Tryd.underlying22 Tryd.underlying5 (by kernel_rfl) hn with ⟨e,_⟩|⟨a,len,cap,zs,e,_,hl,_,hzl,_,hcell,hwf⟩
 ·have e:Value.slice a0 l0 c0 = .slice none 0 0:=by simpa [Value.cells] using e
  injection e with e1 e2 e3
  subst e1 e2 e3
  exact ⟨⟨none,0,0⟩,[],rfl,⟨rfl,Nat.le_refl _,fun _=>rfl,(by intro b hb;cases hb)⟩,by intro x hx;cases hx⟩
 ·have e:Value.slice a0 l0 c0 = .slice (some a) len cap:=by simpa [Value.cells] using e
  injection e with e1 e2 e3
  subst e1 e2 e3
  simp only [if_true] at hzl
  have hz:∀i (hi:i<zs.length),0≤zs[i]∧zs[i]<256:=by
   intro i hi
   have:=bounds_u8 (hwf _ (List.getElem_mem hi))
   omega
  refine ⟨⟨some a,l0,c0⟩,(zs.take l0).map Int.toNat,rfl,⟨?_,hl,(fun h=>by cases h),?_⟩,?_⟩
  ·rw [List.length_map,List.length_take];simp only;omega
  ·intro b hb i hi
   injection hb with hb
   subst hb
   rw [List.length_map,List.length_take] at hi
   have hi2:i<zs.length:=by omega
   rw [hcell i hi2]
   have h1:=hz i hi2
   have h2:zs.getD i 0=zs[i]:=by rw [List.getD_eq_getElem?_getD,List.getElem?_eq_getElem hi2];rfl
   rw [h2,List.getElem_map,List.getElem_take,Int.toNat_of_nonneg h1.1]
  ·intro x hx
   obtain ⟨z,hz1,rfl⟩:=List.mem_map.mp hx
   obtain ⟨i,hi,e⟩:=List.mem_iff_getElem.mp (List.mem_of_mem_take hz1)
   have:=hz i hi
   rw [e] at this
   omega
theorem slice_in {H:Type} {enc:TypeId×Value→H} {W:World} {t e:TypeId} {v:Value} {d:DataW H} {p:List MemPlace} {base:Nat} (ht:Tryd.prog.underlying t=some (.slice e)) (ok:Value.okWide Tryd.prog W .any base t v) (h:DataW.Trod enc Tryd.prog W 0 (fun _=>true) true t v d p):∃a l c,v = .slice a l c:=by
 unfold Value.okWide at ok
 simp only [ht] at ok
 unfold Cell.okWide at ok
 cases v<;>simp [Value.cells,Cell.ok,ht] at ok ⊢
theorem door_met (os:Os) (args:Array Value):laidMetH Tryd.prog laid0 ((World.doorLaid Tryd.prog 4000 os).forCall (fun _ _=>0) ⟨#[],args,[]⟩).memory :=
 laidMetH_of_parts3 (fuel:=8) (laidMet_of_run' 8 (by kernel_rfl) (by kernel_rfl)) (by kernel_rfl) (by kernel_rfl)
end Go.Sx
