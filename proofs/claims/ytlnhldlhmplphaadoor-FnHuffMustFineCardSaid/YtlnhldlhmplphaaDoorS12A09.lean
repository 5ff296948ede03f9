/- Lemmas for the proof: H29 H30 H31 H32 H35 H36 H37 H38 H39 H40 H41 H42 H43 H44 H45 H47 H48 H49 Z3 ZW H63 H64. No conditions. -/
import Derived.Test.YtlnhldlhmplphaaDoorS12A08
set_option linter.unusedVariables false
set_option linter.unusedSimpArgs false
namespace Go.Sx
open Go Go.Proofs
set_option maxRecDepth 4000
def flagF (o:Option Value) (c:Nat):Nat:=match o with
 | some (.int .i64 p)=>if p+14≤(c:Int) then 0 else 1
 | _=>0
theorem tdiv_le0 {x:Int} (h:x<6) (h2 : -8≤x):quoI .i64 x 6≤0:=by
 unfold quoI
 by_cases h0:0≤x
 ·obtain ⟨n,rfl⟩:∃n:Nat,x=n:=⟨x.toNat,by omega⟩
  have:(n:Int).tdiv 6=0:=by
   rw [Int.tdiv_eq_ediv_of_nonneg (by omega)];omega
  rw [this,wI64 (by omega) (by omega)]
  omega
 ·obtain ⟨n,rfl⟩:∃n:Nat,x = -(n:Int):=⟨(-x).toNat,by omega⟩
  have e:((n:Int)).tdiv 6=(n:Int)/6:=Int.tdiv_eq_ediv_of_nonneg (by omega)
  rw [Int.neg_tdiv,e,wI64 (by omega) (by omega)]
  omega
section
variable {w:World} {r tb capt m:Nat} {cd ln:Nat→Nat} {pre xs:List Nat} {s2:Sl}
structure BI (w0 w:World) (r m:Nat) (bs0:List Nat) (asp:Option Addr) (cd ln:Nat→Nat) (pre xs:List Nat) (a:Option Addr) (cap:Nat) (ol:List Nat) (c nb:Nat):Prop where
 nb51:nb≤51
 e:EB ol c nb (hE cd ln (xs.drop (4*m))).1 (hE cd ln (xs.drop (4*m))).2
 h:VecU w ⟨a,(pre++ol).length,cap⟩ (pre++ol)
 cap_:cap<2^63
 b:Blk w r (q3C (.int .u64 (c:Nat)) (.int .u64 (nb:Nat)) (.int .i64 ((pre++ol).length:Nat)))
 new:∀v∈(⟨a,(pre++ol).length,cap⟩:Sl).bs,v∈bs0∨w0.heap.size≤v
 fr:Fm w0 w (r::bs0)
 held:Held w asp pre
theorem c1_outer {R21:Sl→PT} {a0 as0:Option Addr} {cap0 c0 nb0:Nat} {ol0 bs0:List Nat} (hsrc:Arr .u8 w s2 xs) (hT:∀x∈xs,TB w tb capt cd ln x) (hm:4*m≤xs.length) (hxs:xs.length≤2^30) (hpre:pre.length≤2^30)
  (I:BI w w r m bs0 as0 cd ln pre xs a0 cap0 ol0 c0 nb0) (hr:r∉bs0) (has:∀a,as0=some a→a.block≠r) (drt:r≠tb) (dot:tb∉bs0) (ds:∀a,s2.a=some a→xs ≠ []→a.block∉r::bs0)
  (hk:∀w' a cap ol c nb,BI w w' r 0 bs0 as0 cd ln pre xs a cap ol c nb→R21 ⟨a,cap,cap⟩ w') :
  loopP ((4*m:Nat)-(4:Int),(⟨a0,cap0,cap0⟩:Sl)) (q120_L2 s2 ⟨some ⟨tb,0,none⟩,256,capt⟩ ⟨r,0,none⟩ R21) w:=by
 have hrl:=I.b.lt
 refine ⟨fun x w'=>∃(m':Nat) (a:Option Addr) (cap:Nat) (ol:List Nat) (c nb:Nat),x=((4*m':Nat)-(4:Int),⟨a,cap,cap⟩)∧m'≤m∧BI w w' r m' bs0 as0 cd ln pre xs a cap ol c nb,fun x w'=>2*((x.1+4).toNat/4)+flagF (w'.cell? ⟨r,2,none⟩) x.2.c,⟨m,a0,cap0,ol0,c0,nb0,rfl,Nat.le_refl _,I⟩,?_⟩
 rintro x w1 ⟨m1,a,cap,ol,c,nb,rfl,hm1,I1⟩
 have hrc:=I1.b.cell 2
 have hposle:(pre++ol).length≤cap:=I1.h.vec.cap
 have hcap:=I1.cap_
 have hol:8*ol.length≤11*xs.length:=by
  have h1:=I1.e.len
  have h2:=hE_le (cd:=cd) (ln:=ln) (xs:=xs.drop (4*m1)) (fun x hx=>(hT x (List.mem_of_mem_drop hx)).hl)
  rw [List.length_drop] at h2
  omega
 have hpl:(pre++ol).length=pre.length+ol.length:=List.length_append
 have hsz:=I1.fr.size
 have hra:r∉(⟨a,(pre++ol).length,cap⟩:Sl).bs:=fun h=>by
  rcases I1.new r h with h1|h1
  ·exact hr h1
  ·omega
 unfold q120_L2
 simp only [add_mk,Nat.zero_add]
 have hflag:flagF (w1.cell? ⟨r,2,none⟩) cap=if (pre++ol).length+14≤cap then 0 else 1:=by
  rw [hrc]
  show (if (((pre++ol).length:Nat):Int)+14≤(cap:Int) then 0 else 1)=_
  by_cases h:(pre++ol).length+14≤cap
  ·rw [if_pos h,if_pos (by omega)]
  ·rw [if_neg h,if_neg (by omega)]
 rw [hflag]
 refine cnd_d ?_ ?_
 ·intro hc
  have hm10:1≤m1:=by omega
  have hxn:xs ≠ []:=by intro e;subst e;simp at hm;omega
  obtain ⟨x0,hx0⟩:=List.exists_mem_of_ne_nil xs hxn
  have htl:=World.block_lt_of_cell? _ _ (hT x0 hx0).c0
  simp only at htl
  refine ld_b (t := .I .i64) (x:=(((pre++ol).length:Nat):Int)) I1.b rfl ?_
  refine ⟨by decide,?_⟩
  have e1:IntKind.i64.wrap (IntKind.i64.wrap ((cap:Int)-((pre++ol).length:Nat))-8)=(cap:Int)-((pre++ol).length:Nat)-8:=by
   rw [wI64 (x:=(cap:Int)-((pre++ol).length:Nat)) (by omega) (by omega),wI64 (by omega) (by omega)]
  by_cases hk6:(pre++ol).length+14≤cap
  ·-- there is room
   have ek:quoI .i64 ((cap:Int)-((pre++ol).length:Nat)-8) 6=(((cap-(pre++ol).length-8)/6:Nat):Int):=by
    rw [show (cap:Int)-((pre++ol).length:Nat)-8=((cap-(pre++ol).length-8:Nat):Int) by omega,show (6:Int)=((6:Nat):Int) from rfl,quoI_nat _ _ _ (by simp only [IntKind.bits];omega)]
   rw [if_pos hk6]
   refine cnd_d ?_ ?_
   ·intro h
    rw [e1,ek] at h
    omega
   ·intro _
    cases ha:a with
    | none =>
     have:=I1.h.vec.non ha
     simp only at this
     omega
    | some aa =>
     subst ha
     obtain ⟨h1,h2,_⟩:=I1.h.vec.blk aa rfl
     obtain ⟨ob,ao,asp⟩:=aa
     simp only at h1 h2
     subst h1 h2
     have hob:=I1.new ob (by simp [Sl.bs])
     have dr:r≠ob:=fun e=>hra (by simp [Sl.bs,e])
     have dot1:ob≠tb:=by
      intro e
      rcases hob with h|h
      ·exact dot (e▸h)
      ·omega
     have ds1:∀a,s2.a=some a→xs ≠ []→a.block ∉ [r,ob]:=by
      intro a ha hx
      have h3:=ds a ha hx
      have h4:=hsrc.old hx a ha
      simp only [List.mem_cons,not_or,List.not_mem_nil,or_false] at h3 ⊢
      refine ⟨h3.1,?_⟩
      intro e
      rcases hob with h|h
      ·exact h3.2 (e▸h)
      ·omega
     refine c1_inner (m:=m1) (k:=(cap-(pre++ol).length-8)/6) (hsrc.fr I1.fr ds) (fun x hx=>(hT x hx).fr I1.fr (by simp;exact ⟨fun e=>drt e.symm,dot⟩)) I1.b I1.h I1.e I1.nb51 hm10 (by omega) hxs (by omega) rfl hcap dr drt dot1 ds1 ?_
     intro w2 j ol' c' nb' hj hnb' E' H' B' F'
     refine ⟨⟨j,_,cap,ol',c',nb',rfl,by omega,⟨hnb',E',H',hcap,B',?_,I1.fr.trans F' ?_,I1.held.vec (l':=ol') H' F' ?_⟩⟩,?_⟩
     ·intro v hv
      simp [Sl.bs] at hv
      subst hv
      exact hob
     ·intro v hv
      simp only [List.mem_cons,List.not_mem_nil,or_false] at hv
      rcases hv with rfl|rfl
      ·left;simp
      ·rcases hob with h|h
       ·left;simp [h]
       ·exact .inr h
     ·intro a ha hm
      simp only [List.mem_cons,List.not_mem_nil,or_false] at hm
      rcases hm with h|h
      ·exact absurd h (has a ha)
      ·simp [Sl.bs,h]
     ·have hfl:flagF (w2.cell? ⟨r,2,none⟩) cap≤1:=by
       unfold flagF
       split
       ·split<;>omega
       ·omega
      have e4:(((4*j:Nat):Int)-4+4).toNat/4=j:=by omega
      have e5:(((4*m1:Nat):Int)-4+4).toNat/4=m1:=by omega
      simp only [e4,e5]
      omega
  ·-- room is made
   rw [if_neg hk6]
   refine cnd_d ?_ ?_
   ·intro _
    refine ld_b (t := .I .i64) (x:=(((pre++ol).length:Nat):Int)) I1.b rfl ?_
    refine slc_hi (m:=(pre++ol).length) rfl hposle ?_
    refine ⟨by decide,?_⟩
    have e3:quoI .i64 ((4*m1:Nat)-(4:Int)) 4=((m1-1:Nat):Int):=by
     rw [show ((4*m1:Nat):Int)-4=((4*(m1-1):Nat):Int) by omega,show (4:Int)=((4:Nat):Int) from rfl,quoI_nat _ _ _ (by simp only [IntKind.bits];omega)]
     congr 1;omega
    have e4:IntKind.i64.wrap (IntKind.i64.wrap (IntKind.i64.wrap (((m1-1:Nat):Int)+1)*6)+8)=((6*m1+8:Nat):Int):=by
     rw [wI64 (x:=((m1-1:Nat):Int)+1) (by omega) (by omega),wI64 (x:=(((m1-1:Nat):Int)+1)*6) (by omega) (by omega),wI64 (by omega) (by omega)]
     omega
    rw [e3,e4]
    refine c148 I1.h (by omega) (by omega) hcap ?_
    intro w2 a' cap' H' hroom hcap' F' N'
    refine slc_hi (m:=cap') rfl (Nat.le_refl _) ?_
    have B':=I1.b.fr F' (by simp)
    refine ⟨⟨m1,a',cap',ol,c,nb,rfl,hm1,⟨I1.nb51,I1.e,H',hcap',B',?_,I1.fr.trans F' (by simp),I1.held.fr F' (by simp)⟩⟩,?_⟩
    ·intro v hv
     rcases N' v hv with h|h
     ·exact I1.new v h
     ·right;omega
    ·have hrc2:=B'.cell 2
     rw [hrc2]
     have:flagF (q3C (.int .u64 (c:Nat)) (.int .u64 (nb:Nat)) (.int .i64 ((pre++ol).length:Nat)) 2) cap'=0:=by
      show (if (((pre++ol).length:Nat):Int)+14≤(cap':Int) then 0 else 1)=0
      rw [if_pos (by omega)]
     simp only [this]
     omega
   ·intro h
    have:=tdiv_le0 (x:=(cap:Int)-((pre++ol).length:Nat)-8) (by omega) (by omega)
    rw [e1] at h
    exact absurd this h
 ·intro hc
  have hm10:m1=0:=by omega
  subst hm10
  exact hk w1 a cap ol c nb I1
theorem hE_drop {xs:List Nat} {i:Nat} (h:i<xs.length):hE cd ln (xs.drop i)=((hE cd ln (xs.drop (i+1))).1+cd xs[i]*2^(hE cd ln (xs.drop (i+1))).2,(hE cd ln (xs.drop (i+1))).2+ln xs[i]):=by
 rw [List.drop_eq_getElem_cons h];rfl
theorem c120 {g lct:Nat} {s:HU} {s1:Sl} {K:Sl→PT} (B:Blk w g s.at) (hct:s.ct=⟨some ⟨tb,0,none⟩,lct,capt⟩) (hcapt:256≤capt) (H:VecU w s1 pre) (hsrc:Arr .u8 w s2 xs) (hT:∀x∈xs,TB w tb capt cd ln x) (hxe:xs ≠ []) (hxs:xs.length≤2^30) (hpre:pre.length≤2^30)
  (dt:tb∉s1.bs) (ds:∀a,s2.a=some a→xs ≠ []→a.block∉s1.bs)
  (hk:∀w' so ol,By ol→leN ol=(hE cd ln xs).1+2^(hE cd ln xs).2→ol.length=(hE cd ln xs).2/8+1→VecU w' so (pre++ol)→Fm w w' s1.bs→(∀v∈so.bs,v∈s1.bs∨w.heap.size≤v)→Held w' s1.a pre→K so w') :
  callP Tryd.prog 120 #[.pointer (some ⟨g,0,none⟩),.slice s1.a s1.l s1.c,.slice s2.a s2.l s2.c] [.c .S] K w:=by
 have hsl:=hsrc.len
 have hgl:=B.lt
 have h1l:=H.len
 apply q120_ok
 unfold q120
 refine nw_3 ?_
 intro w1 F1 hs1 B1
 have dgp:g≠w.heap.size:=by omega
 have d1p:w.heap.size∉s1.bs:=fun h=>by have:=H.lt _ h;omega
 have dtp:∀x∈xs,tb≠w.heap.size:=fun x hx=>by
  have:=World.block_lt_of_cell? _ _ (hT x hx).c0
  simp only at this;omega
 have dsp:∀a,s2.a=some a→xs ≠ []→a.block≠w.heap.size:=fun a ha hx=>by
  have:=hsrc.old hx a ha;omega
 have hwp:w.heap.size≤w.heap.size:=Nat.le_refl _
 generalize hpe:w.heap.size=p at *
 have Bg:=B.fr F1 (by simp)
 have H1:=H.fr F1 (by simp)
 show stL _ _ _ _ _
 show st _ _ (st _ _ (st _ _ _)) _
 simp only [add_mk,Nat.add_zero,Nat.zero_add]
 refine st_u B1 rfl rfl ?_
 intro w2 B2 F2
 rw [q3_0] at B2
 refine st_u B2 rfl rfl ?_
 intro w3 B3 F3
 rw [q3_1] at B3
 refine st_u B3 rfl rfl ?_
 intro w4 B4 F4
 rw [q3_2] at B4
 have B4':Blk w4 p (q3C (.int .u64 ((0:Nat):Int)) (.int .u8 ((0:Nat):Int)) s1.val):=B4
 have F14:Fm w1 w4 [p]:=(F2.trans F3 (fun x hx => .inl hx)).trans F4 (fun x hx => .inl hx)
 have F04:Fm w w4 []:=F1.trans F14 (by intro v hv;right;simp at hv;omega)
 have Bg4:=B.fr F04 (by simp)
 refine ld_b (t := .S) (x:=⟨some ⟨tb,0,none⟩,lct,capt⟩) Bg4 (by show some s.ct.val=_;rw [hct];rfl) ?_
 refine slc_hi (m:=256) rfl hcapt ?_
 have e3:andI .i64 (s2.l:Int) 3=((xs.length%4:Nat):Int):=by
  have:=andI_i64 xs.length 3 (by omega) (by omega)
  rw [hsl,show (3:Int)=((3:Nat):Int) from rfl,this]
  have:=Nat.and_two_pow_sub_one_eq_mod xs.length 2
  rw [show 2^2-1=3 from rfl,show 2^2=4 from rfl] at this
  rw [this]
 have en:IntKind.i64.wrap ((s2.l:Int)-((xs.length%4:Nat):Int))=((4*(xs.length/4):Nat):Int):=by
  rw [hsl,wI64 (by omega) (by omega)];omega
 rw [e3]
 refine joinP_id ?_
 refine ⟨fun x w'=>∃(i c nb:Nat),x=(i:Int)∧i≤xs.length%4∧nb≤11*(3-i)∧EB [] c nb (hE cd ln (xs.drop (4*(xs.length/4)+i))).1 (hE cd ln (xs.drop (4*(xs.length/4)+i))).2∧Blk w' p (q3C (.int .u64 (c:Nat)) (.int .u8 (nb:Nat)) s1.val)∧Fm w w' [p],fun x _=>x.toNat,
  ⟨xs.length%4,0,0,rfl,Nat.le_refl _,Nat.zero_le _,?_,B4',F04.mono (by simp)⟩,?_⟩
 ·rw [List.drop_of_length_le (by omega)]
  exact ⟨rfl,rfl,by decide,by intro x hx;cases hx⟩
 rintro x w5 ⟨i,c,nb,rfl,hi,hnb,E5,B5,F5⟩
 unfold q120_L0
 refine cnd_d ?_ ?_
 ·intro hc
  rw [e3,en]
  have hix:4*(xs.length/4)+i-1<xs.length:=by omega
  rw [wI64 (x:=((4*(xs.length/4):Nat):Int)+(i:Int)) (by omega) (by omega),wI64 (x:=((4*(xs.length/4):Nat):Int)+(i:Int)-1) (by omega) (by omega)]
  have hxn:xs ≠ []:=by intro e;subst e;simp at hix
  have hmem:=List.getElem_mem hix
  have hT5:=(hT _ hmem).fr F5 (by simp;exact dtp _ hmem)
  have hs5:=hsrc.fr F5 (fun a ha hx=>by simp;exact dsp a ha hx)
  refine hs5.ldk (4*(xs.length/4)+i-1) (by omega) hix ?_
  intro q hq
  refine ld_c (t := .I .u8) (x:=((xs[4*(xs.length/4)+i-1]:Nat):Int)) hq ?_
  refine c147 B5 hT5 E5.lt (by omega) ?_
  intro w6 B6 F6
  rw [wI64 (by omega) (by omega)]
  have E6:=E5.add hT5.hc
  have hd:=hE_drop (cd:=cd) (ln:=ln) hix
  rw [show 4*(xs.length/4)+i-1+1=4*(xs.length/4)+i by omega] at hd
  have hl:=hT5.hl
  refine ⟨⟨i-1,_,_,by omega,by omega,?_,?_,B6,F5.trans F6 (fun x hx => .inl hx)⟩,by dsimp only;omega⟩
  ·omega
  ·rw [show 4*(xs.length/4)+(i-1)=4*(xs.length/4)+i-1 by omega,hd]
   exact E6
 ·intro hc
  have hi0:i=0:=by omega
  subst hi0
  rw [Nat.add_zero] at E5
  unfold q120_J4
  simp only [add_mk,Nat.zero_add]
  refine ld_b (t := .I .u64) (x:=((c:Nat):Int)) B5 rfl ?_
  refine ld_b (t := .I .u8) (x:=((nb:Nat):Int)) B5 rfl ?_
  refine ld_b (t := .S) (x:=s1) B5 rfl ?_
  refine nw_3 ?_
  intro w6 F6 hs6 B6
  have hp5:=B5.lt
  have drp:w5.heap.size≠p:=by omega
  have hsz5:=F5.size
  have dr1:w5.heap.size∉s1.bs:=fun h=>by have:=H.lt _ h;omega
  have drt:∀x∈xs,w5.heap.size≠tb:=fun x hx=>by
   have:=World.block_lt_of_cell? _ _ (hT x hx).c0
   simp only at this;omega
  have drs:∀a,s2.a=some a→xs ≠ []→a.block≠w5.heap.size:=fun a ha hx=>by
   have:=hsrc.old hx a ha;omega
  have hwr:w.heap.size≤w5.heap.size:=by omega
  generalize hre:w5.heap.size=r at *
  have B5':=B5.fr F6 (by simp)
  rw [wU64 (x:=((nb:Nat):Int)) (by omega) (by omega),h1l]
  refine st3 B6 rfl rfl rfl ?_
  intro w7 B7 F7
  have F67:Fm w5 w7 [r]:=(F6.mono (by simp)).trans F7 (fun x hx => .inl hx)
  have B7p:=B5.fr F67 (nm1 drp.symm)
  have F07:Fm w w7 [p,r]:=(F5.mono (by intro v hv;simp at hv;simp [hv])).trans F67 (by intro v hv;simp at hv;simp [hv])
  have F07e:Fm w w7 []:=F07.mono (by intro v hv;right;simp at hv;rcases hv with rfl|rfl<;>omega)
  refine ld_b (t := .S) (x:=s1) B7p rfl ?_
  refine ld_b (t := .S) (x:=s1) B7p rfl ?_
  refine slc_hi (m:=s1.c) rfl (Nat.le_refl _) ?_
  refine joinP_id ?_
  rw [e3,en,wI64 (by omega) (by omega)]
  have H7:VecU w7 ⟨s1.a,(pre ++ []).length,s1.c⟩ (pre ++ []):=by
   rw [List.append_nil]
   have:=H.fr F07e (by simp)
   rw [←h1l]
   exact this
  have hbse:(⟨s1.a,(pre ++ []).length,s1.c⟩:Sl).bs=s1.bs:=rfl
  obtain ⟨x0,hx0⟩:=List.exists_mem_of_ne_nil xs hxe
  refine c1_outer (m:=xs.length/4) (bs0:=s1.bs) (hsrc.fr F07e (by simp)) (fun x hx=>(hT x hx).fr F07e (by simp)) (by omega) hxs hpre ⟨by omega,E5,H7,H.c63,by rw [List.append_nil];exact B7,(fun v hv => .inl hv),Fm.refl _ _,(H.fr F07e (by simp)).held⟩ dr1 (fun a ha e=>dr1 (by unfold Sl.bs;rw [ha];simp [e])) (drt x0 hx0) dt ?_ ?_
  ·intro a ha hx
   simp only [List.mem_cons,not_or]
   exact ⟨drs a ha hx,ds a ha hx⟩
  intro w8 a cap ol c8 nb8 I8
  have e8:=I8.e
  rw [Nat.mul_zero,List.drop_zero] at e8
  have hsz8:=I8.fr.size
  have hol:8*ol.length≤11*xs.length:=by
   have h1:=e8.len
   have h2:=hE_le (cd:=cd) (ln:=ln) (xs:=xs) (fun x hx=>(hT x hx).hl)
   omega
  have hposle:(pre++ol).length≤cap:=I8.h.vec.cap
  have hcap:=I8.cap_
  have hpl:(pre++ol).length=pre.length+ol.length:=List.length_append
  have hsz7:=F07.size
  have hp7:=B7p.lt
  have hr7:=B7.lt
  have hpa:p∉(⟨a,(pre++ol).length,cap⟩:Sl).bs:=fun h=>by
   rcases I8.new p h with h1|h1
   ·exact d1p h1
   ·omega
  have B8p:=B7p.fr I8.fr (by simp;exact ⟨drp.symm,d1p⟩)
  have nbl:=I8.nb51
  unfold q120_J3 drw
  simp only [add_mk,Nat.zero_add]
  have B8:=I8.b.drew
  refine ld_b (t := .I .u64) (x:=((c8:Nat):Int)) B8 rfl ?_
  refine ld_b (t := .I .u64) (x:=((nb8:Nat):Int)) B8 rfl ?_
  refine ld_b (t := .I .i64) (x:=(((pre++ol).length:Nat):Int)) B8 rfl ?_
  refine slc_hi (m:=(pre++ol).length) rfl hposle ?_
  refine st_u B8p.drew rfl rfl ?_
  intro w9 B9 F9
  rw [q3_0] at B9
  have B9r:=B8.fr F9 (nm1 drp)
  have kr1:=B9r.cell 1
  have kr2:=B9r.cell 2
  refine ⟨?_,?_⟩
  ·intro f hf
   simp only [List.mem_cons,List.not_mem_nil,or_false] at hf
   rcases hf with rfl|rfl
   ·exact kr2
   ·exact kr1
  rw [wU8 (x:=((nb8:Nat):Int)) (by omega) (by omega)]
  refine st_u B9 rfl rfl ?_
  intro w10 B10 F10
  rw [q3_1] at B10
  have B10r:=B9r.fr F10 (nm1 drp)
  have kr3:=B10r.cell 2
  refine ⟨?_,?_⟩
  ·intro f hf
   simp only [List.mem_cons,List.not_mem_nil,or_false] at hf
   subst hf
   exact kr3
  refine st_u B10 rfl rfl ?_
  intro w11 B11 F11
  rw [q3_2] at B11
  have F811:Fm w8 w11 [p]:=(((Fm.refl w8 [p]).drew.trans F9 (fun x hx => .inl hx)).trans F10 (fun x hx => .inl hx)).trans F11 (fun x hx => .inl hx)
  have H11:=I8.h.fr F811 (by intro v hv;simp;exact fun e=>hpa (e▸hv))
  have B11':Blk w11 p (q3C (.int .u64 (c8:Nat)) (.int .u8 (nb8:Nat)) (⟨a,(pre++ol).length,cap⟩:Sl).val):=B11
  refine c152 B11' H11 hpa e8.lt (by omega) (by omega) ?_
  intro w12 so B12 H12 dp12 F12 N12 Hh12
  refine ld_b (t := .S) (x:=so) B12 rfl ?_
  obtain ⟨c1,c2,c3⟩:=e8.close
  rw [List.append_assoc] at H12
  have hsz811:=F811.size
  have F08:Fm w w8 s1.bs:=(F07e.mono (by simp)).trans I8.fr (by
   intro v hv
   rcases List.mem_cons.mp hv with h|h
   ·right;omega
   ·exact .inl h)
  have new8:∀v∈(⟨a,(pre++ol).length,cap⟩:Sl).bs,v∈s1.bs∨w.heap.size≤v:=by
   intro v hv
   rcases I8.new v hv with h|h
   ·exact .inl h
   ·right;omega
  have hheld:Held w12 s1.a pre:=by
   intro ax hax i hi
   have h1:=(I8.held.fr F811 (by intro a2 ha2;simp;exact fun e=>d1p (by unfold Sl.bs;rw [ha2];simp [e]))) ax hax i hi
   have h2:=World.block_lt_of_cell? _ _ h1
   by_cases hm:ax.block∈(⟨a,(pre++ol).length,cap⟩:Sl).bs
   ·unfold Sl.bs at hm
    split at hm
    ·rename_i b2 hb2
     simp at hm
     rw [hm]
     exact Hh12.pre b2 hb2 i hi
    ·simp at hm
   ·rw [←h1]
    refine cell?_of_heap (F12.old ax.block h2 ?_) _ _
    intro h
    rcases List.mem_cons.mp h with h|h
    ·exact d1p (by unfold Sl.bs;rw [hax];simp [h])
    ·exact hm h
  refine hk w12 so _ c1 c2 c3 H12 ((F08.trans F811 (by intro v hv;right;simp at hv;omega)).trans F12 ?_) ?_ hheld
  ·intro v hv
   rcases List.mem_cons.mp hv with h|h
   ·right;omega
   ·exact new8 v h
  ·intro v hv
   rcases N12 v hv with h|h
   ·rw [←hpe];exact new8 v h
   ·right;omega
end
def EncT (cd ln:Nat→Nat) (xs ol:List Nat):Prop:=By ol∧leN ol=(hE cd ln xs).1+2^(hE cd ln xs).2∧ol.length=(hE cd ln xs).2/8+1
section
variable {w:World} {g tb capt lct:Nat} {cd ln:Nat→Nat} {pre xs:List Nat} {s1:Sl} {s:HU}
theorem c90 {K:Sl×Value→PT} (B:Blk w g s.at) (hct:s.ct=⟨some ⟨tb,0,none⟩,lct,capt⟩) (hcapt:256≤capt) (H:VecU w s.out pre) (hsrc:Arr .u8 w s1 xs) (hT:∀x∈xs,TB w tb capt cd ln x) (hxe:xs ≠ []) (hxs:xs.length≤2^30) (hpre:pre.length≤2^30)
  (dt:tb∉s.out.bs) (ds:∀a,s1.a=some a→xs ≠ []→a.block∉s.out.bs)
  (hk:∀w' so ol,EncT cd ln xs ol→VecU w' so (pre++ol)→Fm w w' s.out.bs→(∀v∈so.bs,v∈s.out.bs∨w.heap.size≤v)→Held w' s.out.a pre→K (so,.nilIface) w') :
  callP Tryd.prog 90 #[.pointer (some ⟨g,0,none⟩),.slice s1.a s1.l s1.c] [.c .S,.c .V] K w:=by
 apply q90_ok
 unfold q90
 simp only [add_mk,Nat.zero_add]
 refine ld_b (t := .S) (x:=s.out) B rfl ?_
 refine c120 (s1:=s.out) B hct hcapt H hsrc hT hxe hxs hpre dt ds ?_
 intro w' so ol h1 h2 h3 h4 h5 h6 h7
 exact hk w' so ol ⟨h1,h2,h3⟩ h4 h5 h6 h7
end
theorem cells_ldA {w:World} {g:Nat} {F:Cells} {κ:Array Value→PT} {n:Nat} (B:Blk w g F) (hF:∀i,i<n→(F i).isSome) (hk:∀cs,κ cs w):ldA n ⟨g,0,none⟩ κ w:=by
 refine ⟨((List.range n).map fun i=>(F i).getD .nilIface).toArray,by simp,?_,hk _⟩
 intro i hi
 rw [add_mk,Nat.zero_add,B.cell]
 obtain ⟨v,hv⟩:=Option.isSome_iff_exists.mp (hF i hi)
 simp [hi,hv]
section
variable {w:World} {g:Nat} {s:HU} {s1:Sl} {xs:List Nat}
theorem cs_count {R4:Unit→PT} (B:Blk w g s.at) (hz:∀i,i<256→s.count i=0) (hsrc:Arr .u8 w s1 xs) (hby:By xs) (hxs:xs.length≤2^30) (ds:∀a,s1.a=some a→xs ≠ []→a.block≠g)
  (hk:∀(w':World) (c':Nat→Int),(∀i,i<256→c' i=(xs.count i:Nat))→Blk w' g ({ s with count:=c' } : HU).at→Fm w w' [g]→R4 () w') :
  loopP (0:Int) (q117_L0 ⟨g,0,none⟩ s1 R4) w:=by
 have hsl:=hsrc.len
 refine ⟨fun x w'=>∃(n:Nat) (c':Nat→Int),x=(n:Int)∧n≤xs.length∧(∀i,i<256→c' i=((xs.take n).count i:Nat))∧Blk w' g ({ s with count:=c' } : HU).at∧Fm w w' [g],fun x _=>xs.length-x.toNat,⟨0,s.count,rfl,Nat.zero_le _,fun i hi=>by rw [hz i hi];rfl,B,Fm.refl _ _⟩,?_⟩
 rintro x w1 ⟨n,c1,rfl,hn,hc1,B1,F1⟩
 unfold q117_L0
 refine cnd_d ?_ ?_
 ·intro hc
  have hn2:n<xs.length:=by omega
  have hx:=hby _ (List.getElem_mem hn2)
  have hs1:=hsrc.fr F1 (fun a ha hx=>by simp;exact ds a ha hx)
  refine hs1.ldk n rfl hn2 ?_
  intro q hq
  refine ld_c (t := .I .u8) (x:=((xs[n]:Nat):Int)) hq ?_
  unfold drw
  have hle:(xs.take n).count xs[n]≤n:=Nat.le_trans List.count_le_length (by simp;omega)
  refine ixA_o rfl hx ?_
  rw [Nat.zero_add]
  refine ld_b (t := .I .u32) (x:=(((xs.take n).count xs[n]:Nat):Int)) B1.drew (by rw [HU.count_at _ hx];show some (Value.int .u32 (c1 _))=_;rw [hc1 _ hx];rfl) ?_
  refine ixA_o rfl hx ?_
  rw [Nat.zero_add]
  refine st_u B1.drew (by rw [HU.count_at _ hx];rfl) rfl ?_
  intro w2 B2 F2
  rw [HU.setC hx,wU32 (by omega) (by omega)] at B2
  rw [wI64 (by omega) (by omega)]
  refine ⟨⟨n+1,_,by simp,hn2,?_,B2,F1.drew.trans F2 (fun x hx => .inl hx)⟩,by dsimp only;omega⟩
  intro i hi
  show updF c1 xs[n] _ i=_
  unfold updF
  rw [List.take_succ_eq_append_getElem hn2,List.count_append,List.count_singleton]
  by_cases e:i=xs[n]
  ·subst e;rw [if_pos rfl];simp
  ·rw [if_neg e,hc1 i hi]
   have:(xs[n]==i)=false:=by simp;exact fun h=>e h.symm
   rw [this];simp
 ·intro hc
  have hn2:n=xs.length:=by omega
  subst hn2
  rw [List.take_length] at hc1
  exact hk w1 c1 hc1 B1 F1
structure MX (c:Nat→Nat) (m L:Nat):Prop where
 l1:1≤L
 l256:L≤256
 last:c (L-1)≠0
 out:∀i,i<256→L≤i→c i=0
 le:∀i,i<256→c i≤m
 ex:∃i,i<L∧c i=m
 pos:0<m
theorem cs_max {R31:Int→PT} {c:Nat→Nat} (B:Blk w g s.at) (hc:∀i,i<256→s.count i=(c i:Nat)) (hlt:∀i,c i<4294967296) (hex:∃i,i<256∧c i≠0)
  (hk:∀w' m L,MX c m L→Blk w' g ({ s with symL:=(L:Nat) } : HU).at→Fm w w' [g]→R31 ((m:Nat):Int) w') :
  loopP ((0:Int),(0:Int)) (q117_L7 ⟨g,0,none⟩ R31 ⟨some ⟨g,0,none⟩,256,256⟩) w:=by
 refine ⟨fun x w'=>∃(m n:Nat) (y:Int),x=((m:Int),(n:Int))∧n≤256∧(∀i,i<n→c i≤m)∧Blk w' g ({ s with symL:=y } : HU).at∧Fm w w' [g]∧(((∀i,i<n→c i=0)∧m=0)∨(∃L:Nat,y=(L:Nat)∧1≤L∧L≤n∧c (L-1)≠0∧(∀i,i<n→L≤i→c i=0)∧(∃i,i<L∧c i=m)∧0<m)),fun x _=>300-x.2.toNat,
  ⟨0,0,s.symL,rfl,Nat.zero_le _,fun i hi=>absurd hi (Nat.not_lt_zero _),B,Fm.refl _ _,.inl ⟨fun i hi=>absurd hi (Nat.not_lt_zero _),rfl⟩⟩,?_⟩
 rintro x w1 ⟨m,n,y,rfl,hn,hm,B1,F1,hh⟩
 unfold q117_L7
 simp only
 refine cnd_d ?_ ?_
 ·intro hcn
  have hn2:n<256:=by omega
  have hl:=hlt n
  refine joinP_id ?_
  unfold q117_J6
  simp only
  rw [wI64 (by omega) (by omega),show (n:Int)+1=((n+1:Nat):Int) by omega]
  refine ixS_o rfl hn2 ?_
  rw [Nat.zero_add]
  refine ld_b (t := .I .u32) (x:=((c n:Nat):Int)) B1 (by rw [HU.count_at _ hn2];show some (Value.int .u32 (s.count n))=_;rw [hc n hn2];rfl) ?_
  refine cnd_d ?_ ?_
  ·intro h0
   have h0':c n=0:=by omega
   refine ⟨⟨m,n+1,y,by simp,hn2,?_,B1,F1,?_⟩,by omega⟩
   ·intro i hi
    by_cases e:i=n
    ·subst e;omega
    ·exact hm i (by omega)
   ·rcases hh with ⟨h1,h2⟩|⟨L,h1,h2,h3,h4,h5,h6,h7⟩
    ·left
     refine ⟨fun i hi => ?_,h2⟩
     by_cases e:i=n
     ·subst e;exact h0'
     ·exact h1 i (by omega)
    ·right
     refine ⟨L,h1,h2,by omega,h4,fun i hi hi2 => ?_,h6,h7⟩
     by_cases e:i=n
     ·subst e;exact h0'
     ·exact h5 i (by omega) hi2
  ·intro h0
   have h0':c n≠0:=by omega
   refine joinP_id ?_
   have fin:∀m':Nat,(∀i,i<n+1→c i≤m')→(∃i,i<n+1∧c i=m')→q117_J5 ⟨g,0,none⟩ ((m:Int),(n:Int)) (fun x40=>fun w'=>(∃(m n2:Nat) (y:Int),(x40,((n+1:Nat):Int))=((m:Int),(n2:Int))∧n2≤256∧(∀i,i<n2→c i≤m)∧Blk w' g ({ s with symL:=y } : HU).at∧Fm w w' [g]∧(((∀i,i<n2→c i=0)∧m=0)∨(∃L:Nat,y=(L:Nat)∧1≤L∧L≤n2∧c (L-1)≠0∧(∀i,i<n2→L≤i→c i=0)∧(∃i,i<L∧c i=m)∧0<m)))∧300-((n+1:Nat):Int).toNat<300-((n:Nat):Int).toNat) ((m':Nat):Int) w1:=by
    intro m' h1 h2
    unfold q117_J5
    simp only [add_mk,Nat.zero_add]
    refine st_u B1 rfl rfl ?_
    intro w2 B2 F2
    rw [wU16 (x:=(n:Int)) (by omega) (by omega),wU16 (x:=(n:Int)+1) (by omega) (by omega)] at B2
    have B2':=B2.congr (HU.setT (s' := { s with symL:=((n+1:Nat):Int) }) 9 rfl rfl (by
     rw [show ((n:Nat):Int)+1=((n+1:Nat):Int) by omega];rfl) (by decide))
    refine ⟨⟨m',n+1,_,rfl,hn2,h1,B2',F1.trans F2 (fun x hx => .inl hx),.inr ⟨n+1,rfl,by omega,Nat.le_refl _,h0',fun i hi hi2=>by omega,h2,?_⟩⟩,by omega⟩
    have:=h1 n (by omega)
    omega
   refine cnd_d ?_ ?_
   ·intro h1
    refine fin (c n) ?_ ⟨n,by omega,rfl⟩
    intro i hi
    by_cases e:i=n
    ·subst e;omega
    ·have:=hm i (by omega);omega
   ·intro h1
    refine fin m ?_ ?_
    ·intro i hi
     by_cases e:i=n
     ·subst e;omega
     ·exact hm i (by omega)
    ·rcases hh with ⟨h2,h3⟩|⟨L,_,_,h3,_,_,⟨i,h6,h7⟩,_⟩
     ·omega
     ·exact ⟨i,by omega,h7⟩
 ·intro hcn
  have hn2:n=256:=by omega
  subst hn2
  rcases hh with ⟨h1,h2⟩|⟨L,rfl,h2,h3,h4,h5,h6,h7⟩
  ·obtain ⟨i,hi,hi2⟩:=hex
   exact absurd (h1 i hi) hi2
  ·exact hk w1 m L ⟨h2,h3,h4,h5,hm,h6,h7⟩ B1 F1
theorem c117n {K:Int×Bool→PT} (B:Blk w g s.at) (hz:∀i,i<256→s.count i=0) (hpt:s.pt.l=0) (hsrc:Arr .u8 w s1 xs) (hby:By xs) (hxe:xs ≠ []) (hxs:xs.length≤2^30) (ds:∀a,s1.a=some a→xs ≠ []→a.block≠g)
  (hk:∀(w':World) (c':Nat→Int) (m L:Nat),MX (fun i=>xs.count i) m L→(∀i,i<256→c' i=(xs.count i:Nat))→Blk w' g ({ s with count:=c',symL:=(L:Nat) } : HU).at→Fm w w' [g]→K (((m:Nat):Int),false) w') :
  callP Tryd.prog 117 #[.pointer (some ⟨g,0,none⟩),.slice s1.a s1.l s1.c] [.c (.I .i64),.c .B] K w:=by
 have hlt:∀i,xs.count i<4294967296:=fun i=>Nat.lt_of_le_of_lt List.count_le_length (by omega)
 apply q117_ok
 unfold q117
 refine cells_ldA B (fun i hi=>by rw [HU.count_at _ hi];rfl) ?_
 intro cs
 refine joinP_id ?_
 refine cs_count B hz hsrc hby hxs ds ?_
 intro w1 c1 hc1 B1 F1
 unfold q117_J10
 refine joinP_id ?_
 simp only [add_mk,Nat.zero_add]
 refine ld_b (t := .S) (x:=s.pt) B1 rfl ?_
 refine cnd_d (fun h=>absurd h (by omega)) (fun _ => ?_)
 unfold q117_J9
 refine joinP_id ?_
 refine slcA_all (by omega) ?_
 obtain ⟨x0,hx0⟩:=List.exists_mem_of_ne_nil xs hxe
 refine cs_max (s := { s with count:=c1 }) (c:=fun i=>xs.count i) B1 hc1 hlt ⟨x0,hby _ hx0,?_⟩ ?_
 ·have:0<xs.count x0:=List.count_pos_iff.mpr hx0
  show xs.count x0≠0
  omega
 intro w2 m L hM B2 F2
 unfold q117_J8
 obtain ⟨i,_,hi⟩:=hM.ex
 have hmlt:=hlt i
 have hi:xs.count i=m:=hi
 rw [wI64 (x:=((m:Nat):Int)) (by omega) (by omega)]
 exact hk w2 c1 m L hM hc1 B2 (F1.trans F2 (fun x hx => .inl hx))
end
def CompOK (f:FuncId) (Enc:(Nat→Nat)→(Nat→Nat)→List Nat→List Nat→Prop) (E:Prop:=True):Prop :=
 ∀(w:World) (g tb capt lct:Nat) (cd ln:Nat→Nat) (pre xs:List Nat) (s1:Sl) (s:HU) (K:Sl×Value→PT),Blk w g s.at→s.ct=⟨some ⟨tb,0,none⟩,lct,capt⟩→256≤capt→VecU w s.out pre→Arr .u8 w s1 xs→(∀x∈xs,TB w tb capt cd ln x)→2≤xs.length→xs.length≤2^18→pre.length≤2^20→errAt w 0 →
  tb∉s.out.bs→tb≠g→g∉s.out.bs→(∀a,s1.a=some a→a.block∉g::s.out.bs)→(∀v∈s.out.bs,9≤v)→9≤g →
  (E→∀w' o v,EG w' v→Blk w' g ({ s with out:=o } : HU).at→Fm w w' (g::s.out.bs)→K (⟨none,0,0⟩,v) w') →
  (∀w' o so ol,Enc cd ln xs ol→VecU w' so (pre++ol)→Blk w' g ({ s with out:=o } : HU).at→(∀v∈so.bs,v∈s.out.bs∨w.heap.size≤v)→Fm w w' (g::s.out.bs)→Held w' s.out.a pre→K (so,.nilIface) w') →
  callP Tryd.prog f #[.pointer (some ⟨g,0,none⟩),.slice s1.a s1.l s1.c] [.c .S,.c .V] K w
theorem comp90 {E:Prop} : CompOK 90 EncT E:=by
 intro w g tb capt lct cd ln pre xs s1 s K B hct hcapt H hsrc hT h2 hxs hpre E dt dtg dg ds o9 g9 hk0 hk1
 have hxe:xs ≠ []:=by intro e;subst e;simp at h2
 refine c90 B hct hcapt H hsrc hT hxe (by omega) (by omega) dt (fun a ha _ h=>ds a ha (by simp [h])) ?_
 intro w' so ol h3 h4 h5 h6 h7
 exact hk1 w' s.out so ol h3 h4 (B.fr h5 dg) h6 (h5.mono (fun v hv => .inl (by simp [hv]))) h7
def TbC (n:Nat) (F:Cells):Prop:=∀i,i<n→(∃v:Int,F (i*2)=some (.int .u16 v))∧∃b:Int,F (i*2+1)=some (.int .u8 b)
theorem wOf_b2w {M r:Nat} (hr:r≤M):wOf (b2w M r)=if 0<r then 2^(M-r) else 0:=by
 unfold wOf b2w
 by_cases h:r=0
 ·subst h;simp
 ·rw [if_neg (by omega:¬(r=0∨M<r)),if_neg (by omega),if_pos (by omega),show M+1-r-1=M-r by omega]
theorem b2w_pos {M r:Nat} (h:0<r) (hr:r≤M):b2w M r=M+1-r:=by unfold b2w;rw [if_neg (by omega)]
theorem b2w_zero (M:Nat):b2w M 0=0:=by unfold b2w;rw [if_pos (.inl rfl)]
theorem sum_range_sF (f:Nat→Nat):∀n,((List.range n).map f).sum=sF f 0 n
 | 0=>rfl
 | n+1=>by rw [List.range_succ,List.map_append,List.sum_append,sum_range_sF f n,sF,Nat.zero_add];simp
theorem hl_ok {cnt ln:Nat→Nat} {L M used:Nat} {tbl:List Nat} (H:HT cnt L M ln) (h2:2≤L) (hL:L≤256) (hlast:0<cnt (L-1)) (two:∃a,a<L-1∧0<cnt a) (hw:weightsZ tbl=some (wtL M ln L,used)) :
  ∃f,hlZ tbl=some (f,used)∧(∀i,i<L→f i=(ln i:Nat))∧∀i,L≤i→f i=0:=by
 have hm1:=H.m1
 have hm11:=H.m11
 have hx1:0<ln (L-1):=(H.pos (L-1) (by omega)).mpr hlast
 have hxM:=H.le (L-1) (by omega)
 have hsum:wsum (wtL M ln L)+2^(M-ln (L-1))=2^M:=by
  rw [←H.kr]
  unfold wsum wtL
  rw [List.map_map,sum_range_sF]
  have e1:sF (wOf ∘ wtF M ln) 0 (L-1)=sF (fun i=>if 0<ln i then 2^(M-ln i) else 0) 0 (L-1):=sF_congr (fun i _ hi=>wOf_b2w (H.le i (by omega)))
  have e2:sF (fun i=>if 0<ln i then 2^(M-ln i) else 0) 0 L=sF (fun i=>if 0<ln i then 2^(M-ln i) else 0) 0 (L-1)+2^(M-ln (L-1)):=by
   conv=>lhs;rw [show L=L-1+1 by omega]
   rw [sF,Nat.zero_add,if_pos hx1]
  rw [e1,e2]
 have hple:2^(M-ln (L-1))≤2^(M-1):=Nat.pow_le_pow_right (by omega) (by omega)
 have hM2:2^M=2*2^(M-1):=by rw [←Nat.pow_succ',show (M-1).succ=M by omega]
 have hpp:=Nat.two_pow_pos (M-1)
 have hpl:=Nat.two_pow_pos (M-ln (L-1))
 have hlog:(wsum (wtL M ln L)).log2=M-1:=by
  have h3:(wsum (wtL M ln L)).log2<M:=(Nat.log2_lt (by omega)).mpr (by omega)
  have h4:M-1≤(wsum (wtL M ln L)).log2:=(Nat.le_log2 (by omega)).mpr (by omega)
  omega
 have hlz:lastZ (wtL M ln L)=2^(M-ln (L-1)):=by
  unfold lastZ
  rw [hlog,show M-1+1=M by omega];omega
 have hfull:fullZ (wtL M ln L)=(List.range L).map (wtF M ln):=by
  unfold fullZ wtL
  have e3:lastZ ((List.range (L-1)).map (wtF M ln))=2^(M-ln (L-1)):=hlz
  rw [e3,Nat.log2_two_pow]
  conv=>rhs;rw [show L=L-1+1 by omega,List.range_succ,List.map_append]
  congr 1
  show [M-ln (L-1)+1] = [wtF M ln (L-1)]
  unfold wtF b2w
  rw [if_neg (by omega)]
  congr 1;omega
 have hcond:(wtL M ln L).length≤255∧(∀w∈wtL M ln L,w≤12)∧wsum (wtL M ln L)≠0∧(wsum (wtL M ln L)).log2+1≤11∧lastZ (wtL M ln L)=2^(lastZ (wtL M ln L)).log2∧1<someZ (fullZ (wtL M ln L)):=by
  refine ⟨by simp [wtL];omega,?_,by omega,by omega,by rw [hlz,Nat.log2_two_pow],?_⟩
  ·intro w hw
   obtain ⟨k,_,rfl⟩:=List.mem_map.mp hw
   have:=b2w_le M (ln k)
   unfold wtF;omega
  ·rw [hfull]
   unfold someZ
   rw [List.map_map,sum_range_sF]
   obtain ⟨a,ha,hca⟩:=two
   have hpos:∀i,i<L→0<cnt i→((fun w=>if 0<w then 1 else 0) ∘ wtF M ln) i=1:=by
    intro i hi hc
    have h5:=(H.pos i hi).mpr hc
    have h6:=H.le i hi
    show (if 0<wtF M ln i then 1 else 0)=1
    rw [show wtF M ln i=M+1-ln i from b2w_pos h5 h6,if_pos (by omega)]
   have e4:sF ((fun w=>if 0<w then 1 else 0) ∘ wtF M ln) 0 L=sF ((fun w=>if 0<w then 1 else 0) ∘ wtF M ln) 0 (L-1)+1:=by
    conv=>lhs;rw [show L=L-1+1 by omega]
    rw [sF,Nat.zero_add,hpos (L-1) (by omega) hlast]
   have e5:=sF_mem ((fun w=>if 0<w then 1 else 0) ∘ wtF M ln) 0 (n:=L-1) (i:=a) (by omega) (by omega)
   rw [hpos a (by omega) hca] at e5
   omega
 refine ⟨lenF ((wsum (wtL M ln L)).log2+1) (fullZ (wtL M ln L)),?_,?_,?_⟩
 ·unfold hlZ
  rw [hw]
  simp only
  rw [if_pos hcond]
 ·intro i hi
  rw [hlog,hfull]
  unfold lenF
  rw [List.getD_eq_getElem?_getD,List.getElem?_map,List.getElem?_range hi]
  show (((if 0<wtF M ln i then M-1+1+1-wtF M ln i else 0):Nat):Int)=_
  have h6:=H.le i hi
  by_cases h0:ln i=0
  ·have hv:wtF M ln i=0:=by unfold wtF;rw [h0];exact b2w_zero M
   rw [hv,if_neg (by omega),h0]
  ·rw [show wtF M ln i=M+1-ln i from b2w_pos (by omega) h6,if_pos (by omega)]
   congr 1;omega
 ·intro i hi
  rw [hlog,hfull]
  unfold lenF
  rw [List.getD_eq_getElem?_getD,List.getElem?_eq_none (by simp;exact hi)]
  rfl
theorem sF_add (f g:Nat→Nat):∀n,sF (fun i=>f i+g i) 0 n=sF f 0 n+sF g 0 n
 | 0=>rfl
 | n+1=>by rw [sF,sF,sF,sF_add f g n];omega
theorem sF_single {g:Nat→Nat} {j:Nat} : ∀ {n:Nat},j<n→(∀i,i<n→i≠j→g i=0)→sF g 0 n=g j
 | 0,h,_=>by omega
 | n+1,h,hz=>by
  rw [sF,Nat.zero_add]
  by_cases e:j=n
  ·subst e
   rw [sF_zero (fun i hi=>hz i (by omega) (by omega)),Nat.zero_add]
  ·rw [sF_single (by omega) (fun i hi hne=>hz i (by omega) hne),hz n (by omega) (fun h'=>e h'.symm),Nat.add_zero]
theorem kraft_ranks {ln:Nat→Nat} {M:Nat} : ∀n,(∀i,i<n→ln i≤M)→sF (fun i=>if 0<ln i then 2^(M-ln i) else 0) 0 n=sF (fun j=>cN ln (M-j) n*2^j) 0 M
 | 0,_=>by
  rw [sF]
  exact (sF_zero (fun i _=>by simp [cN])).symm
 | n+1,h=>by
  rw [sF,Nat.zero_add,kraft_ranks n (fun i hi=>h i (by omega))]
  have e:sF (fun j=>cN ln (M-j) (n+1)*2^j) 0 M=sF (fun j=>cN ln (M-j) n*2^j) 0 M+sF (fun j=>(if ln n=M-j then 1 else 0)*2^j) 0 M:=by
   rw [←sF_add]
   exact sF_congr (fun i _ _=>by rw [cN,Nat.add_mul])
  rw [e]
  congr 1
  have hn:=h n (by omega)
  by_cases h0:0<ln n
  ·rw [if_pos h0,sF_single (j:=M-ln n) (by omega) (fun i hi hne=>by rw [if_neg (by omega),Nat.zero_mul])]
   rw [if_pos (by omega),Nat.one_mul]
  ·rw [if_neg h0,sF_zero (fun i hi=>by rw [if_neg (by omega),Nat.zero_mul])]
theorem sF_split (g:Nat→Nat) (a:Nat):∀b,sF g 0 (a+b)=sF g 0 a+sF g a b
 | 0=>rfl
 | b+1=>by rw [←Nat.add_assoc,sF,sF_split g a b,sF,Nat.zero_add];omega
theorem sF_dvd {g:Nat→Nat} {d a:Nat} : ∀ {n:Nat},(∀i,a≤i→i<a+n→d∣g i)→d∣sF g a n
 | 0,_=>⟨0,rfl⟩
 | n+1,h=>by
  rw [sF]
  exact Nat.dvd_add (sF_dvd (fun i h1 h2=>h i h1 (by omega))) (h (a+n) (by omega) (by omega))
theorem vJ_sum {nb:Nat→Nat} {M:Nat} (hk:sF (fun j=>nb (M-j)*2^j) 0 M=2^M):∀j,j≤M→vJ nb M j*2^j=sF (fun j=>nb (M-j)*2^j) 0 j
 | 0,_=>by simp [vJ,sF]
 | j+1,hj=>by
  have ih:=vJ_sum hk j (by omega)
  have e1:(vJ nb M j+nb (M-j))*2^j=sF (fun j=>nb (M-j)*2^j) 0 (j+1):=by rw [sF,Nat.zero_add,Nat.add_mul,ih]
  have h1:=sF_split (fun j=>nb (M-j)*2^j) (j+1) (M-(j+1))
  rw [show j+1+(M-(j+1))=M by omega,hk] at h1
  have h2:2^(j+1)∣sF (fun j=>nb (M-j)*2^j) (j+1) (M-(j+1)):=sF_dvd (fun i hi _=>Nat.dvd_mul_left_of_dvd (Nat.pow_dvd_pow 2 hi) _)
  have h3:2^(j+1)∣2^M:=Nat.pow_dvd_pow 2 hj
  have h4:2^(j+1)∣sF (fun j=>nb (M-j)*2^j) 0 (j+1):=by
   rw [h1] at h3
   exact (Nat.dvd_add_iff_left h2).mpr h3
  rw [←e1] at h4 ⊢
  obtain ⟨q,hq⟩:=h4
  have h5:vJ nb M j+nb (M-j)=2*q:=by
   have hp:=Nat.two_pow_pos j
   have:(vJ nb M j+nb (M-j))*2^j=(2*q)*2^j:=by rw [hq,Nat.pow_succ];rw [Nat.mul_comm (2^j) 2,Nat.mul_assoc,Nat.mul_assoc,Nat.mul_comm q]
   exact Nat.eq_of_mul_eq_mul_right hp this
  rw [vJ,h5,Nat.mul_div_cancel_left _ (by omega),Nat.pow_succ,Nat.mul_comm (2^j) 2, ←Nat.mul_assoc,Nat.mul_comm q 2]
theorem vJ_even {nb:Nat→Nat} {M j:Nat} (hk:sF (fun j=>nb (M-j)*2^j) 0 M=2^M) (hj:j<M):vJ nb M j+nb (M-j)=2*vJ nb M (j+1)∧vJ nb M j+nb (M-j)≤2^(M-j):=by
 have ih:=vJ_sum hk j (by omega)
 have ih1:=vJ_sum hk (j+1) (by omega)
 have e1:(vJ nb M j+nb (M-j))*2^j=sF (fun j=>nb (M-j)*2^j) 0 (j+1):=by rw [sF,Nat.zero_add,Nat.add_mul,ih]
 have hp:=Nat.two_pow_pos j
 constructor
 ·have:(vJ nb M j+nb (M-j))*2^j=(2*vJ nb M (j+1))*2^j:=by
   rw [e1, ←ih1,Nat.pow_succ,Nat.mul_comm 2,Nat.mul_assoc,Nat.mul_comm 2]
  exact Nat.eq_of_mul_eq_mul_right hp this
 ·have h1:=sF_split (fun j=>nb (M-j)*2^j) (j+1) (M-(j+1))
  rw [show j+1+(M-(j+1))=M by omega,hk] at h1
  have h2:(vJ nb M j+nb (M-j))*2^j≤2^(M-j)*2^j:=by
   rw [e1, ←Nat.pow_add,show M-j+j=M by omega];omega
  exact Nat.le_of_mul_le_mul_right h2 hp
theorem cN_lt {f:Nat→Nat} {s i n:Nat} (hi:i<n) (h:f i=s):cN f s i<cN f s n:=by
 have h1:cN f s (i+1)=cN f s i+1:=by rw [cN,if_pos h]
 have h2:=cN_mono f s (show i+1≤n by omega)
 omega
theorem vC_lt {cnt ln:Nat→Nat} {L M i:Nat} (H:HT cnt L M ln) (hi:i<L) (h0:0<ln i):vC ln L M i<2^ln i:=by
 have hle:=H.le i hi
 have hk:=(kraft_ranks (M:=M) L H.le).symm.trans H.kr
 have h1:=(vJ_even (nb:=fun r=>cN ln r L) (j:=M-ln i) hk (by omega)).2
 rw [show M-(M-ln i)=ln i by omega] at h1
 have h2:=cN_lt (f:=ln) (s:=ln i) hi rfl
 unfold vC vR
 rw [if_neg (by omega)]
 omega
theorem sF_mono_n (g:Nat→Nat) {a b:Nat} (h:a≤b):sF g 0 a≤sF g 0 b:=by
 have:=sF_split g a (b-a)
 rw [show a+(b-a)=b by omega] at this
 omega
section
variable {w:World} {g qb pl pc:Nat} {s:HU} {s1:Sl} {xs:List Nat} {Q:Cells}
def PtOK (Q:Cells) (pl:Nat) (c:Nat→Nat) (n:Nat):Prop:=∀j,j<n→c j≠0→j<pl∧∀b:Int,Q (j*2+1)=some (.int .u8 b)→b≠0
def PtNo (Q:Cells) (pl:Nat) (c:Nat→Nat) (n:Nat):Prop:=∃j,j<n∧c j≠0∧¬(j<pl∧∀b:Int,Q (j*2+1)=some (.int .u8 b)→b≠0)
def PtB (Q:Cells) (pl:Nat) (c:Nat→Nat) (n:Nat) (b:Bool):Prop:=(b=true→PtOK Q pl c n)∧(b=false→PtNo Q pl c n)
theorem cs_max2 {R31:Bool×Int→PT} {c:Nat→Nat} (B:Blk w g s.at) (hpt:s.pt=⟨some ⟨qb,0,none⟩,pl,pc⟩) (HQ:Blk w qb Q) (hQ:TbC pl Q) (d:qb≠g) (hc:∀i,i<256→s.count i=(c i:Nat)) (hlt:∀i,c i<4294967296) (hex:∃i,i<256∧c i≠0)
  (hk:∀w' (b:Bool) m L,MX c m L→(b=true→PtOK Q pl c 256)→(b=false→PtNo Q pl c 256)→Blk w' g ({ s with symL:=(L:Nat) } : HU).at→Fm w w' [g]→R31 (b,((m:Nat):Int)) w') :
  loopP (true,(0:Int),(0:Int)) (q117_L3 ⟨g,0,none⟩ R31 ⟨some ⟨g,0,none⟩,256,256⟩) w:=by
 refine ⟨fun x w'=>∃(b:Bool) (m n:Nat) (y:Int),x=(b,(m:Int),(n:Int))∧n≤256∧PtB Q pl c n b∧(∀i,i<n→c i≤m)∧Blk w' g ({ s with symL:=y } : HU).at∧Fm w w' [g]∧(((∀i,i<n→c i=0)∧m=0)∨(∃L:Nat,y=(L:Nat)∧1≤L∧L≤n∧c (L-1)≠0∧(∀i,i<n→L≤i→c i=0)∧(∃i,i<L∧c i=m)∧0<m)),fun x _=>300-x.2.2.toNat,
  ⟨true,0,0,s.symL,rfl,Nat.zero_le _,⟨fun _ j hj=>absurd hj (Nat.not_lt_zero _),fun h=>by cases h⟩,fun i hi=>absurd hi (Nat.not_lt_zero _),B,Fm.refl _ _,.inl ⟨fun i hi=>absurd hi (Nat.not_lt_zero _),rfl⟩⟩,?_⟩
 rintro x w1 ⟨b,m,n,y,rfl,hn,hb,hm,B1,F1,hh⟩
 unfold q117_L3
 simp only
 refine cnd_d ?_ ?_
 ·intro hcn
  have hn2:n<256:=by omega
  have hl:=hlt n
  refine joinP_id ?_
  unfold q117_J2
  simp only
  rw [wI64 (by omega) (by omega),show (n:Int)+1=((n+1:Nat):Int) by omega]
  refine ixS_o rfl hn2 ?_
  rw [Nat.zero_add]
  refine ld_b (t := .I .u32) (x:=((c n:Nat):Int)) B1 (by rw [HU.count_at _ hn2];show some (Value.int .u32 (s.count n))=_;rw [hc n hn2];rfl) ?_
  refine cnd_d ?_ ?_
  ·intro h0
   have h0':c n=0:=by omega
   refine ⟨⟨b,m,n+1,y,by simp,hn2,?_,?_,B1,F1,?_⟩,by omega⟩
   ·refine ⟨?_,fun hbf=>by obtain ⟨j,hj,hj2⟩:=hb.2 hbf;exact ⟨j,by omega,hj2⟩⟩
    intro hbt j hj hj0
    by_cases e:j=n
    ·subst e;exact absurd h0' hj0
    ·exact hb.1 hbt j (by omega) hj0
   ·intro i hi
    by_cases e:i=n
    ·subst e;omega
    ·exact hm i (by omega)
   ·rcases hh with ⟨h1,h2⟩|⟨L,h1,h2,h3,h4,h5,h6,h7⟩
    ·left
     refine ⟨fun i hi => ?_,h2⟩
     by_cases e:i=n
     ·subst e;exact h0'
     ·exact h1 i (by omega)
    ·right
     refine ⟨L,h1,h2,by omega,h4,fun i hi hi2 => ?_,h6,h7⟩
     by_cases e:i=n
     ·subst e;exact h0'
     ·exact h5 i (by omega) hi2
  ·intro h0
   have h0':c n≠0:=by omega
   refine joinP_id ?_
   have fin:∀m':Nat,(∀i,i<n+1→c i≤m')→(∃i,i<n+1∧c i=m')→q117_J1 ⟨g,0,none⟩ (b,(m:Int),(n:Int)) (fun x40=>fun w'=>(∃(b:Bool) (m n2:Nat) (y:Int),(x40.1,x40.2,((n+1:Nat):Int))=(b,(m:Int),(n2:Int))∧n2≤256∧PtB Q pl c n2 b∧(∀i,i<n2→c i≤m)∧Blk w' g ({ s with symL:=y } : HU).at∧Fm w w' [g]∧(((∀i,i<n2→c i=0)∧m=0)∨(∃L:Nat,y=(L:Nat)∧1≤L∧L≤n2∧c (L-1)≠0∧(∀i,i<n2→L≤i→c i=0)∧(∃i,i<L∧c i=m)∧0<m)))∧300-((n+1:Nat):Int).toNat<300-((n:Nat):Int).toNat) ((m':Nat):Int) w1:=by
    intro m' h1 h2
    unfold q117_J1
    simp only [add_mk,Nat.zero_add]
    refine st_u B1 rfl rfl ?_
    intro w2 B2 F2
    rw [wU16 (x:=(n:Int)) (by omega) (by omega),wU16 (x:=(n:Int)+1) (by omega) (by omega)] at B2
    have B2':=B2.congr (HU.setT (s' := { s with symL:=((n+1:Nat):Int) }) 9 rfl rfl (by
     rw [show ((n:Nat):Int)+1=((n+1:Nat):Int) by omega];rfl) (by decide))
    have F12:=F1.trans F2 (fun x hx => .inl hx)
    have HQ2:=HQ.fr F12 (nm1 d)
    have hpos:0<m':=by have:=h1 n (by omega);omega
    have tail:∀b':Bool,PtB Q pl c (n+1) b'→(∃(b:Bool) (m n2:Nat) (y:Int),(b',((m':Nat):Int),((n+1:Nat):Int))=(b,(m:Int),(n2:Int))∧n2≤256∧PtB Q pl c n2 b∧(∀i,i<n2→c i≤m)∧Blk w2 g ({ s with symL:=y } : HU).at∧Fm w w2 [g]∧(((∀i,i<n2→c i=0)∧m=0)∨(∃L:Nat,y=(L:Nat)∧1≤L∧L≤n2∧c (L-1)≠0∧(∀i,i<n2→L≤i→c i=0)∧(∃i,i<L∧c i=m)∧0<m)))∧300-((n+1:Nat):Int).toNat<300-((n:Nat):Int).toNat :=
     fun b' hb'=>⟨⟨b',m',n+1,_,rfl,hn2,hb',h1,B2',F12,.inr ⟨n+1,rfl,by omega,Nat.le_refl _,h0',fun i hi hi2=>by omega,h2,hpos⟩⟩,by omega⟩
    refine ld_b (t := .S) (x:=⟨some ⟨qb,0,none⟩,pl,pc⟩) B2' (by show some s.pt.val=_;rw [hpt];rfl) ?_
    refine cnd_d (fun hle=>tail false ⟨(fun h=>by cases h),fun _=>⟨n,by omega,h0',fun h=>by have:=h.1;simp only at hle;omega⟩⟩) ?_
    intro hlt2
    have hnp:n<pl:=by simp only at hlt2;omega
    refine ld_b (t := .S) (x:=⟨some ⟨qb,0,none⟩,pl,pc⟩) B2' (by show some s.pt.val=_;rw [hpt];rfl) ?_
    obtain ⟨_,bb,hbb⟩:=hQ n hnp
    refine ixS_2 rfl hnp ?_
    simp only [add_mk]
    refine ld_b (t := .I .u8) (x:=bb) HQ2 hbb ?_
    refine cnd_d (fun hz=>tail false ⟨(fun h=>by cases h),fun _=>⟨n,by omega,h0',fun h=>h.2 bb hbb hz⟩⟩) ?_
    intro hb0
    refine tail b ⟨?_,fun hbf=>by obtain ⟨j,hj,hj2⟩:=hb.2 hbf;exact ⟨j,by omega,hj2⟩⟩
    intro hbt j hj hj0
    by_cases e:j=n
    ·subst e
     refine ⟨hnp,?_⟩
     intro b' hb'
     rw [hbb] at hb'
     injection hb' with hb'
     injection hb' with _ hb'
     rw [←hb'];exact hb0
    ·exact hb.1 hbt j (by omega) hj0
   refine cnd_d ?_ ?_
   ·intro h1
    refine fin (c n) ?_ ⟨n,by omega,rfl⟩
    intro i hi
    by_cases e:i=n
    ·subst e;omega
    ·have:=hm i (by omega);omega
   ·intro h1
    refine fin m ?_ ?_
    ·intro i hi
     by_cases e:i=n
     ·subst e;omega
     ·exact hm i (by omega)
    ·rcases hh with ⟨h2,h3⟩|⟨L,_,_,h3,_,_,⟨i,h6,h7⟩,_⟩
     ·omega
     ·exact ⟨i,by omega,h7⟩
 ·intro hcn
  have hn2:n=256:=by omega
  subst hn2
  rcases hh with ⟨h1,h2⟩|⟨L,rfl,h2,h3,h4,h5,h6,h7⟩
  ·obtain ⟨i,hi,hi2⟩:=hex
   exact absurd (h1 i hi) hi2
  ·exact hk w1 b m L ⟨h2,h3,h4,h5,hm,h6,h7⟩ hb.1 hb.2 B1 F1
theorem c117t {K:Int×Bool→PT} (B:Blk w g s.at) (hz:∀i,i<256→s.count i=0) (hpt:s.pt=⟨some ⟨qb,0,none⟩,pl,pc⟩) (hpl:0<pl) (HQ:Blk w qb Q) (hQ:TbC pl Q) (d:qb≠g) (hsrc:Arr .u8 w s1 xs) (hby:By xs) (hxe:xs ≠ []) (hxs:xs.length≤2^30) (ds:∀a,s1.a=some a→xs ≠ []→a.block≠g)
  (hk:∀(w':World) (c':Nat→Int) (b:Bool) (m L:Nat),MX (fun i=>xs.count i) m L→(b=true→PtOK Q pl (fun i=>xs.count i) 256)→(b=false→PtNo Q pl (fun i=>xs.count i) 256)→(∀i,i<256→c' i=(xs.count i:Nat))→Blk w' g ({ s with count:=c',symL:=(L:Nat) } : HU).at→Fm w w' [g]→K (((m:Nat):Int),b) w') :
  callP Tryd.prog 117 #[.pointer (some ⟨g,0,none⟩),.slice s1.a s1.l s1.c] [.c (.I .i64),.c .B] K w:=by
 have hlt:∀i,xs.count i<4294967296:=fun i=>Nat.lt_of_le_of_lt List.count_le_length (by omega)
 apply q117_ok
 unfold q117
 refine cells_ldA B (fun i hi=>by rw [HU.count_at _ hi];rfl) ?_
 intro cs
 refine joinP_id ?_
 refine cs_count B hz hsrc hby hxs ds ?_
 intro w1 c1 hc1 B1 F1
 unfold q117_J10
 refine joinP_id ?_
 simp only [add_mk,Nat.zero_add]
 refine ld_b (t := .S) (x:=s.pt) B1 rfl ?_
 rw [hpt]
 refine cnd_d (fun _ => ?_) (fun h=>absurd h (by simp only;omega))
 refine joinP_id ?_
 refine slcA_all (by omega) ?_
 obtain ⟨x0,hx0⟩:=List.exists_mem_of_ne_nil xs hxe
 refine cs_max2 (s := { s with count:=c1 }) (c:=fun i=>xs.count i) B1 hpt (HQ.fr F1 (nm1 d)) hQ d hc1 hlt ⟨x0,hby _ hx0,?_⟩ ?_
 ·have:0<xs.count x0:=List.count_pos_iff.mpr hx0
  show xs.count x0≠0
  omega
 intro w2 b m L hM hP hP2 B2 F2
 unfold q117_J4
 obtain ⟨i,_,hi⟩:=hM.ex
 have hmlt:=hlt i
 have hi:xs.count i=m:=hi
 simp only
 rw [wI64 (x:=((m:Nat):Int)) (by omega) (by omega)]
 exact hk w2 c1 b m L hM hP hP2 hc1 B2 (F1.trans F2 (fun x hx => .inl hx))
end
structure Keep (w:World) (col col':Nat→Nat) (S:List Nat) (r:Nat):Prop where
 ne:∀v∈S,v<w.heap.size→col v≠r
 old:∀v,v<w.heap.size→col' v=col v
theorem Keep.out {w:World} {col col':Nat→Nat} {S:List Nat} {r v:Nat} (K:Keep w col col' S r) (hv:col v=r) (hl:v<w.heap.size):v∉S:=fun h=>K.ne v h hl hv
structure OutC (w:World) (o:Sl) (col:Nat→Nat):Prop where
 ex:∃ol,VecU w o ol
 co:∀v∈o.bs,col v=2
structure OwC (r:Nat) (w:World) (s:Sl) (col:Nat→Nat):Prop where
 own:Own 2 w s
 co:∀v∈s.bs,col v=r
def PTc (w:World) (s:Sl) (M:Nat) (ln:Nat→Nat) (L:Nat):Prop :=
 ∃qb pc Q cnt,s=⟨some ⟨qb,0,none⟩,L,pc⟩∧256≤pc∧Blk w qb Q∧(∀i,i<L→Q (i*2)=some (.int .u16 (vC ln L M i:Nat))∧Q (i*2+1)=some (.int .u8 (ln i:Nat)))∧HT cnt L M ln∧L≤256∧0<L
def NodC (w:World) (s:Sl) (col:Nat→Nat):Prop:=∃nb l cap Fn,s=⟨some ⟨nb,0,none⟩,l,cap⟩∧513≤cap∧col nb=3∧Blk w nb Fn∧Som cap Fn∧Nds Fn
def FseC (w:World) (o:Option Addr) (col:Nat→Nat):Prop:=∃fb fs,o=some ⟨fb,0,none⟩∧SW w fb fs∧∀v∈SB fb fs,col v=6
theorem SW.mv {w w':World} {b:Nat} {s:FS} {S:List Nat} (W:SW w b s) (F:Fm w w' S) (h:∀v∈SB b s,v∉S):SW w' b s :=
 ⟨W.blk.fr F (h b (mem_SB.mpr (.inl rfl))),W.o.fm F (fun v hv=>h v (mem_SB.mpr (.inr (.inl hv)))),W.x.fm F (fun v hv=>h v (mem_SB.mpr (.inr (.inr (.inl hv))))),W.y.fm F (fun v hv=>h v (mem_SB.mpr (.inr (.inr (.inr (.inl hv)))))),W.z.fm F (fun v hv=>h v (mem_SB.mpr (.inr (.inr (.inr (.inr hv)))))),
  W.bo,W.bx,W.bY,W.bz,W.ox,W.oy,W.oz,W.xy,W.xz,W.yz⟩
section
variable {w w':World} {col col':Nat→Nat} {S:List Nat} {o:Sl} {r M L:Nat} {ln:Nat→Nat} {a:Option Addr}
theorem OutC.mv (h:OutC w o col) (F:Fm w w' S) (K:Keep w col col' S 2):OutC w' o col':=by
 obtain ⟨⟨ol,h1⟩,h2⟩:=h
 have hl:=h1.lt
 exact ⟨⟨ol,h1.fr F (fun b hb=>K.out (h2 b hb) (hl b hb))⟩,fun v hv=>(K.old v (hl v hv)).trans (h2 v hv)⟩
theorem OwC.mv (h:OwC r w o col) (F:Fm w w' S) (K:Keep w col col' S r):OwC r w' o col':=by
 have hl:=h.own.lt
 exact ⟨h.own.fm F (fun b hb=>K.out (h.co b hb) (hl b hb)),fun v hv=>(K.old v (hl v hv)).trans (h.co v hv)⟩
theorem PTc.mv (h:PTc w o M ln L) (F:Fm w w' S) (hS:∀v∈o.bs,v∉S):PTc w' o M ln L:=by
 obtain ⟨qb,pc,Q,cnt,rfl,h1,h2,h3⟩:=h
 exact ⟨qb,pc,Q,cnt,rfl,h1,h2.fr F (hS qb (by simp [Sl.bs])),h3⟩
theorem NodC.mv (h:NodC w o col) (F:Fm w w' S) (K:Keep w col col' S 3):NodC w' o col':=by
 obtain ⟨nb,l,cap,Fn,rfl,h1,h2,h3,h4⟩:=h
 exact ⟨nb,l,cap,Fn,rfl,h1,(K.old nb h3.lt).trans h2,h3.fr F (K.out h2 h3.lt),h4⟩
theorem FseC.mv (h:FseC w a col) (F:Fm w w' S) (K:Keep w col col' S 6):FseC w' a col':=by
 obtain ⟨fb,fs,rfl,h1,h2⟩:=h
 have hl:=h1.lt
 exact ⟨fb,fs,rfl,h1.mv F (fun v hv=>K.out (h2 v hv) (hl v hv)),fun v hv=>(K.old v (hl v hv)).trans (h2 v hv)⟩
end
structure HW (w:World) (g:Nat) (s:HU) (col:Nat→Nat):Prop where
 blk:Blk w g s.at
 cg:col g=1
 low:∀v,v<9→col v=0
 out:OutC w s.out col
 nod:s.nodes.c<513∨NodC w s.nodes col
 ct:OwC 4 w s.ct col
 pt:OwC 5 w s.pt col
 ptv:s.pt.l=0∨∃M ln L,PTc w s.pt M ln L
 fse:s.fse=none∨FseC w s.fse col
 gl:GL w
 er:∀i,i<3→errAt w i
 mx:s.maxC=0
 cz:s.cc=true∨∀i,i<256→s.count i=0
theorem HW.nine {w:World} {g v:Nat} {s:HU} {col:Nat→Nat} (W:HW w g s col) (h:col v≠0):9≤v:=by
 rcases Nat.lt_or_ge v 9 with h1|h1
 ·exact absurd (W.low v h1) h
 ·exact h1
theorem HW.g9 {w:World} {g:Nat} {s:HU} {col:Nat→Nat} (W:HW w g s col):9≤g:=W.nine (by rw [W.cg];decide)
theorem HW.keepG {w:World} {g r:Nat} {s:HU} {col:Nat→Nat} (W:HW w g s col) (h:r≠1):Keep w col col [g] r :=
 ⟨fun v hv _ e=>by simp at hv;subst hv;exact h (e.symm.trans W.cg),fun _ _=>rfl⟩
def colN (n r:Nat) (col:Nat→Nat):Nat→Nat:=fun v=>if n≤v then r else col v
theorem colN_old {n r v:Nat} {col:Nat→Nat} (h:v<n):colN n r col v=col v:=if_neg (by omega)
theorem colN_new {n r v:Nat} {col:Nat→Nat} (h:n≤v):colN n r col v=r:=if_pos h
theorem colN_keep {w:World} {n r r':Nat} {col:Nat→Nat} (h:w.heap.size≤n):Keep w col (colN n r col) [] r':=⟨by simp,fun v hv=>colN_old (by omega)⟩
section
variable {w w':World} {g:Nat} {s s':HU} {col col':Nat→Nat} {S:List Nat}
theorem HW.same (W:HW w g s col) (B:Blk w' g s'.at) (F:Fm w w' [g]) (h1:s'.out=s.out) (h2:s'.nodes=s.nodes) (h3:s'.ct=s.ct) (h4:s'.pt=s.pt) (h5:s'.fse=s.fse) (h6:s'.maxC=0) (h7:s'.cc=true∨∀i,i<256→s'.count i=0):HW w' g s' col:=by
 have n9:∀v ∈ [g],9≤v:=by intro v hv;simp at hv;subst hv;exact W.g9
 refine ⟨B,W.cg,W.low,?_,?_,?_,?_,?_,?_,W.gl.fm F n9,?_,h6,h7⟩
 ·rw [h1];exact W.out.mv F (W.keepG (by decide))
 ·rw [h2];exact W.nod.imp id (fun h=>h.mv F (W.keepG (by decide)))
 ·rw [h3];exact W.ct.mv F (W.keepG (by decide))
 ·rw [h4];exact W.pt.mv F (W.keepG (by decide))
 ·rw [h4]
  have K:=W.keepG (r:=5) (by decide)
  exact W.ptv.imp id (fun ⟨M,ln,L,h⟩=>⟨M,ln,L,h.mv F (fun v hv=>K.out (W.pt.co v hv) (W.pt.own.lt v hv))⟩)
 ·rw [h5];exact W.fse.imp id (fun h=>h.mv F (W.keepG (by decide)))
 ·intro i hi
  exact (W.er i hi).fm F (fun h=>by have:=n9 i h;omega)
theorem HW.grow (W:HW w g s col) (F:Fm w w' []) (r:Nat):HW w' g s (colN w.heap.size r col):=by
 have hk:∀r',Keep w col (colN w.heap.size r col) [] r':=fun r'=>colN_keep (Nat.le_refl _)
 have h9:=W.gl.size
 refine ⟨W.blk.fr F (by simp),(colN_old W.blk.lt).trans W.cg,fun v hv=>(colN_old (by omega)).trans (W.low v hv),W.out.mv F (hk 2),W.nod.imp id (fun h=>h.mv F (hk 3)),W.ct.mv F (hk 4),W.pt.mv F (hk 5),W.ptv.imp id (fun ⟨M,ln,L,h⟩=>⟨M,ln,L,h.mv F (by simp)⟩),W.fse.imp id (fun h=>h.mv F (hk 6)),W.gl.fm F (by simp),fun i hi=>(W.er i hi).fm F (by simp),W.mx,W.cz⟩
end
structure SR (s s':HU):Prop where
 reuse:s'.reuse=s.reuse
 wll:s'.wll=s.wll
 pt:s'.pt=s.pt
 ptl:s'.ptl=s.ptl
 tl:s'.tl=s.tl∨(s.tl=0∧s'.tl=11)
structure HP (w:World) (g:Nat) (s:HU) (col:Nat→Nat) (n:Nat):Prop extends HW w g s col where
 o0:VecU w s.out []
 oT0:s.outT=⟨none,0,0⟩
 nodP:NodC w s.nodes col
 fseP:FseC w s.fse col
 cnt0:∀i,i<256→s.count i=0
 cc0:s.cc=false
 srcN:s.srcLen=(n:Nat)
 tlP:∃t:Nat,s.tl=(t:Nat)∧5≤t∧t≤11
theorem nwA_fs {w:World} {κ:Addr→PT} (hk:∀w',Fm w w' []→w'.heap.size=w.heap.size+1→Blk w' w.heap.size FS.zero.at→κ ⟨w.heap.size,0,none⟩ w'):nwA ⟨z134⟩ 134 κ w :=
 hk _ (Fm.refl w []).alloc (World.size_alloc _ _) (Blk.new.congr FS.atZ)
section
variable {w:World} {g t:Nat} {s:HU} {s1:Sl} {col:Nat→Nat} {K:Option Addr×Value→PT}
theorem p61_J2 (W:HW w g s col) (oT:s.outT=⟨none,0,0⟩) (o0:VecU w s.out []) (n:NodC w s.nodes col) (f:FseC w s.fse col) (c0:∀i,i<256→s.count i=0) (cc0:s.cc=false) (ht:∃t:Nat,s.tl=(t:Nat)∧5≤t∧t≤11)
  (hk:∀w' s',HP w' g s' col s1.l→SR s s'→Fm w w' [g]→K (some ⟨g,0,none⟩,.nilIface) w'):q61_J2 s1 K ⟨g,0,none⟩ () w:=by
 unfold q61_J2
 simp only [add_mk,Nat.zero_add]
 refine st_u W.blk rfl rfl ?_
 intro w1 B1 F1
 have B1':Blk w1 g ({ s with srcLen:=((s1.l:Nat):Int) } : HU).at:=B1.congr (HU.setT 4 rfl rfl rfl (by decide))
 have W1:=W.same (s' := { s with srcLen:=((s1.l:Nat):Int) }) B1' F1 rfl rfl rfl rfl rfl W.mx W.cz
 refine hk w1 _ ⟨W1,?_,oT,n.mv F1 (W.keepG (by decide)),f.mv F1 (W.keepG (by decide)),c0,cc0,rfl,ht⟩ ⟨rfl,rfl,rfl,rfl,.inl rfl⟩ F1
 exact o0.fr F1 (fun b hb=>(W.keepG (r:=2) (by decide)).out (W.out.co b hb) (o0.lt b hb))
theorem p61_J3 (W:HW w g s col) (oT:s.outT=⟨none,0,0⟩) (o0:VecU w s.out []) (n:NodC w s.nodes col) (c0:∀i,i<256→s.count i=0) (cc0:s.cc=false) (ht:∃t:Nat,s.tl=(t:Nat)∧5≤t∧t≤11)
  (hk:∀w' s' col',HP w' g s' col' s1.l→SR s s'→(∀v,v<w.heap.size→col' v=col v)→Fm w w' [g]→K (some ⟨g,0,none⟩,.nilIface) w'):q61_J3 s1 K ⟨g,0,none⟩ () w:=by
 unfold q61_J3
 simp only [add_mk,Nat.zero_add]
 refine ld_b (t := .S) (x:=s.nodes) W.blk rfl ?_
 refine slc_hi (m:=0) rfl (Nat.zero_le _) ?_
 refine st_u W.blk rfl rfl ?_
 intro w1 B1 F1
 have B1':Blk w1 g ({ s with nodes:=⟨s.nodes.a,0,s.nodes.c⟩ } : HU).at:=B1.congr (HU.setT 17 rfl rfl rfl (by decide))
 have n1:NodC w1 ⟨s.nodes.a,0,s.nodes.c⟩ col:=by
  obtain ⟨nb,l,cap,Fn,h0,h1,h2,h3,h4⟩:=n.mv F1 (W.keepG (by decide))
  rw [h0]
  exact ⟨nb,0,cap,Fn,rfl,h1,h2,h3,h4⟩
 have Ws:=W.same (s' := { s with nodes:=s.nodes,srcLen:=s.srcLen }) (w':=w) W.blk (Fm.refl w [g]) rfl rfl rfl rfl rfl W.mx W.cz
 have W1:HW w1 g ({ s with nodes:=⟨s.nodes.a,0,s.nodes.c⟩ } : HU) col:=by
  have n9:∀v ∈ [g],9≤v:=by intro v hv;simp at hv;subst hv;exact W.g9
  have K5:=W.keepG (r:=5) (by decide)
  exact ⟨B1',W.cg,W.low,W.out.mv F1 (W.keepG (by decide)),.inr n1,W.ct.mv F1 (W.keepG (by decide)),W.pt.mv F1 (W.keepG (by decide)),W.ptv.imp id (fun ⟨M,ln,L,h⟩=>⟨M,ln,L,h.mv F1 (fun v hv=>K5.out (W.pt.co v hv) (W.pt.own.lt v hv))⟩),W.fse.imp id (fun h=>h.mv F1 (W.keepG (by decide))),W.gl.fm F1 n9,fun i hi=>(W.er i hi).fm F1 (fun h=>by have:=n9 i h;omega),W.mx,W.cz⟩
 have o1:VecU w1 s.out []:=o0.fr F1 (fun b hb=>(W.keepG (r:=2) (by decide)).out (W.out.co b hb) (o0.lt b hb))
 refine joinP_id ?_
 refine ld_b (t := .P) (x:=s.fse) B1' rfl ?_
 refine ⟨fun hn => ?_,fun hs => ?_⟩
 ·have hf:s.fse=none:=by simpa using hn
  refine nwA_fs ?_
  intro w2 F2 hs2 B2
  have hgl:=W1.blk.lt
  have W2:=W1.grow F2 6
  have hr:=F1.size
  have n2:=n1.mv F2 (colN_keep (r:=6) (Nat.le_refl _))
  have o2:=o1.fr F2 (by simp)
  have hcol:∀v,v<w.heap.size→colN w1.heap.size 6 col v=col v:=fun v hv=>colN_old (by omega)
  have hnew:colN w1.heap.size 6 col w1.heap.size=6:=colN_new (Nat.le_refl _)
  have hg:g≠w1.heap.size:=by omega
  generalize colN w1.heap.size 6 col=col2 at *
  generalize w1.heap.size=fb at *
  refine st_u W2.blk rfl rfl ?_
  intro w3 B3 F3
  have B3':Blk w3 g ({ s with nodes:=⟨s.nodes.a,0,s.nodes.c⟩,fse:=some ⟨fb,0,none⟩ } : HU).at:=B3.congr (HU.setT 22 rfl rfl rfl (by decide))
  have f3:FseC w3 (some ⟨fb,0,none⟩) col2:=by
   refine ⟨fb,FS.zero,rfl,⟨B2.fr F3 (nm1 (Ne.symm hg)),Own.none,Own.none,Own.none,Own.none,by simp [Sl.bs,FS.zero],by simp [Sl.bs,FS.zero],by simp [Sl.bs,FS.zero],by simp [Sl.bs,FS.zero],by simp [Sl.bs,FS.zero],by simp [Sl.bs,FS.zero],by simp [Sl.bs,FS.zero],by simp [Sl.bs,FS.zero],by simp [Sl.bs,FS.zero],by simp [Sl.bs,FS.zero]⟩,?_⟩
   intro v hv
   have:v=fb:=by simpa [SB,Sl.bs,FS.zero] using hv
   subst this
   exact hnew
  have n9:∀v ∈ [g],9≤v:=by intro v hv;simp at hv;subst hv;exact W.g9
  have K5:=W2.keepG (r:=5) (by decide)
  have W3:HW w3 g ({ s with nodes:=⟨s.nodes.a,0,s.nodes.c⟩,fse:=some ⟨fb,0,none⟩ } : HU) col2 :=
   ⟨B3',W2.cg,W2.low,W2.out.mv F3 (W2.keepG (by decide)),W2.nod.imp id (fun h=>h.mv F3 (W2.keepG (by decide))),W2.ct.mv F3 (W2.keepG (by decide)),W2.pt.mv F3 (W2.keepG (by decide)),W2.ptv.imp id (fun ⟨M,ln,L,h⟩=>⟨M,ln,L,h.mv F3 (fun v hv=>K5.out (W2.pt.co v hv) (W2.pt.own.lt v hv))⟩),.inr f3,W2.gl.fm F3 n9,fun i hi=>(W2.er i hi).fm F3 (fun h=>by have:=n9 i h;omega),W2.mx,W2.cz⟩
  refine p61_J2 W3 oT (o2.fr F3 (fun b hb=>(W2.keepG (r:=2) (by decide)).out (W2.out.co b hb) (o2.lt b hb))) (n2.mv F3 (W2.keepG (by decide))) f3 c0 cc0 ht ?_
  intro w4 s4 H4 R4 F4
  refine hk w4 s4 col2 H4 ⟨R4.reuse,R4.wll,R4.pt,R4.ptl,R4.tl⟩ hcol ?_
  exact ((F1.trans F2 (by simp)).trans F3 (fun x hx => .inl hx)).trans F4 (fun x hx => .inl hx)
 ·have f1:FseC w1 s.fse col:=by
   rcases W1.fse with h|h
   ·simp only at h;rw [h] at hs;simp at hs
   ·exact h
  refine p61_J2 W1 oT o1 n1 f1 c0 cc0 ht ?_
  intro w4 s4 H4 R4 F4
  exact hk w4 s4 col H4 ⟨R4.reuse,R4.wll,R4.pt,R4.ptl,R4.tl⟩ (fun _ _=>rfl) (F1.trans F4 (fun x hx => .inl hx))
theorem VecU.zero {w:World} {o:Sl} {ol:List Nat} (h:VecU w o ol):VecU w ⟨o.a,0,o.c⟩ []:=by
 refine ⟨⟨rfl,Nat.zero_le _,h.vec.non,?_⟩,h.u8,h.c63⟩
 intro a ha
 obtain ⟨h1,h2,f,h3,h4,h5⟩:=h.vec.blk a ha
 exact ⟨h1,h2,f,h3,by simp [bytes],h5⟩
theorem p61_J4 (W:HW w g s col) (c0:∀i,i<256→s.count i=0) (cc0:s.cc=false) (ht:∃t:Nat,s.tl=(t:Nat)∧5≤t∧t≤11)
  (hk:∀w' s' col',HP w' g s' col' s1.l→SR s s'→(∀v,v<w.heap.size→col' v=col v)→Fm w w' [g]→K (some ⟨g,0,none⟩,.nilIface) w'):q61_J4 s1 K ⟨g,0,none⟩ () w:=by
 unfold q61_J4
 simp only [add_mk,Nat.zero_add]
 refine ld_b (t := .S) (x:=s.out) W.blk rfl ?_
 refine slc_hi (m:=0) rfl (Nat.zero_le _) ?_
 refine st_u W.blk rfl rfl ?_
 intro w1 B1 F1
 have B1':Blk w1 g ({ s with out:=⟨s.out.a,0,s.out.c⟩ } : HU).at:=B1.congr (HU.setT 0 rfl rfl rfl (by decide))
 refine st_u B1' rfl rfl ?_
 intro w2 B2 F2
 have B2':Blk w2 g ({ s with out:=⟨s.out.a,0,s.out.c⟩,outT:=⟨none,0,0⟩ } : HU).at:=B2.congr (HU.setT 1 rfl rfl rfl (by decide))
 refine st_u B2' rfl rfl ?_
 intro w3 B3 F3
 have B3':Blk w3 g ({ s with out:=⟨s.out.a,0,s.out.c⟩,outT:=⟨none,0,0⟩,outD:=⟨none,0,0⟩ } : HU).at:=B3.congr (HU.setT 2 rfl rfl rfl (by decide))
 have F13:Fm w w3 [g]:=(F1.trans F2 (fun x hx => .inl hx)).trans F3 (fun x hx => .inl hx)
 obtain ⟨⟨ol,ho⟩,hoc⟩:=W.out.mv F13 (W.keepG (by decide))
 have o3:VecU w3 ⟨s.out.a,0,s.out.c⟩ []:=ho.zero
 have n9:∀v ∈ [g],9≤v:=by intro v hv;simp at hv;subst hv;exact W.g9
 have K5:=W.keepG (r:=5) (by decide)
 have W3:HW w3 g ({ s with out:=⟨s.out.a,0,s.out.c⟩,outT:=⟨none,0,0⟩,outD:=⟨none,0,0⟩ } : HU) col :=
  ⟨B3',W.cg,W.low,⟨⟨[],o3⟩,hoc⟩,W.nod.imp id (fun h=>h.mv F13 (W.keepG (by decide))),W.ct.mv F13 (W.keepG (by decide)),W.pt.mv F13 (W.keepG (by decide)),W.ptv.imp id (fun ⟨M,ln,L,h⟩=>⟨M,ln,L,h.mv F13 (fun v hv=>K5.out (W.pt.co v hv) (W.pt.own.lt v hv))⟩),W.fse.imp id (fun h=>h.mv F13 (W.keepG (by decide))),W.gl.fm F13 n9,fun i hi=>(W.er i hi).fm F13 (fun h=>by have:=n9 i h;omega),W.mx,W.cz⟩
 refine joinP_id ?_
 refine ld_b (t := .S) (x:=s.nodes) B3' rfl ?_
 refine cnd_d ?_ ?_
 ·intro hc
  refine ⟨0,513,rfl,rfl,by omega,by omega,?_⟩
  have F4:Fm w3 (w3.alloc (.cells (zrep z196 513) 196)) []:=(Fm.refl w3 []).alloc
  have B4:Blk (w3.alloc (.cells (zrep z196 513) 196)) w3.heap.size (arrC .u64 513 fun _=>0):=Blk.new.congr (by funext i;exact zrep1 _ _ _)
  generalize w3.alloc (.cells (zrep z196 513) 196)=w4 at *
  have hgl:=W3.blk.lt
  have W4:=W3.grow F4 3
  have hr:=F13.size
  have o4:=o3.fr F4 (by simp)
  have hcol:∀v,v<w.heap.size→colN w3.heap.size 3 col v=col v:=fun v hv=>colN_old (by omega)
  have hnew:colN w3.heap.size 3 col w3.heap.size=3:=colN_new (Nat.le_refl _)
  have hg:g≠w3.heap.size:=by omega
  have hr3:w.heap.size≤w3.heap.size:=hr
  generalize colN w3.heap.size 3 col=col4 at *
  generalize w3.heap.size=nb at *
  refine st_u W4.blk rfl rfl ?_
  intro w5 B5 F5
  have B5':Blk w5 g ({ s with out:=⟨s.out.a,0,s.out.c⟩,outT:=⟨none,0,0⟩,outD:=⟨none,0,0⟩,nodes:=⟨some ⟨nb,0,none⟩,0,513⟩ } : HU).at:=B5.congr (HU.setT 17 rfl rfl rfl (by decide))
  have n5:NodC w5 ⟨some ⟨nb,0,none⟩,0,513⟩ col4:=by
   refine ⟨nb,0,513,_,rfl,Nat.le_refl _,hnew,B4.fr F5 (nm1 (Ne.symm hg)),?_,?_⟩
   ·intro i hi;rw [arrC_get hi];rfl
   ·intro i hi;exact ⟨⟨0,0,0,0⟩,⟨by decide,by decide,by decide,by decide⟩,by rw [arrC_get hi];rfl⟩
  have K5':=W4.keepG (r:=5) (by decide)
  have W5:HW w5 g ({ s with out:=⟨s.out.a,0,s.out.c⟩,outT:=⟨none,0,0⟩,outD:=⟨none,0,0⟩,nodes:=⟨some ⟨nb,0,none⟩,0,513⟩ } : HU) col4 :=
   ⟨B5',W4.cg,W4.low,W4.out.mv F5 (W4.keepG (by decide)),.inr n5,W4.ct.mv F5 (W4.keepG (by decide)),W4.pt.mv F5 (W4.keepG (by decide)),W4.ptv.imp id (fun ⟨M,ln,L,h⟩=>⟨M,ln,L,h.mv F5 (fun v hv=>K5'.out (W4.pt.co v hv) (W4.pt.own.lt v hv))⟩),W4.fse.imp id (fun h=>h.mv F5 (W4.keepG (by decide))),W4.gl.fm F5 n9,fun i hi=>(W4.er i hi).fm F5 (fun h=>by have:=n9 i h;omega),W4.mx,W4.cz⟩
  refine p61_J3 W5 rfl (o4.fr F5 (fun b hb=>(W4.keepG (r:=2) (by decide)).out (W4.out.co b hb) (o4.lt b hb))) n5 c0 cc0 ht ?_
  intro w6 s6 col6 H6 R6 hc6 F6
  have F35:Fm w w5 [g]:=(F13.trans F4 (by simp)).trans F5 (fun x hx => .inl hx)
  have:=F35.size
  exact hk w6 s6 col6 H6 ⟨R6.reuse,R6.wll,R6.pt,R6.ptl,R6.tl⟩ (fun v hv=>(hc6 v (by omega)).trans (hcol v hv)) (F35.trans F6 (fun x hx => .inl hx))
 ·intro hc
  have n3:NodC w3 s.nodes col:=by
   rcases W3.nod with h|h
   ·simp only at h;omega
   ·exact h
  refine p61_J3 W3 rfl o3 n3 c0 cc0 ht ?_
  intro w6 s6 col6 H6 R6 hc6 F6
  have:=F13.size
  exact hk w6 s6 col6 H6 ⟨R6.reuse,R6.wll,R6.pt,R6.ptl,R6.tl⟩ (fun v hv=>hc6 v (by omega)) (F13.trans F6 (fun x hx => .inl hx))
theorem p61_J5 (W:HW w g s col) (hl:s1.l<2^40) (c0:∀i,i<256→s.count i=0) (cc0:s.cc=false) (ht:∃t:Nat,s.tl=(t:Nat)∧5≤t∧t≤11)
  (hk:∀w' s' col',HP w' g s' col' s1.l→SR s s'→(∀v,v<w.heap.size→col' v=col v)→Fm w w' [g]→K (some ⟨g,0,none⟩,.nilIface) w'):q61_J5 s1 K ⟨g,0,none⟩ () w:=by
 unfold q61_J5
 simp only [add_mk,Nat.zero_add]
 refine joinP_id ?_
 refine ld_b (t := .S) (x:=s.out) W.blk rfl ?_
 refine cnd_d ?_ ?_
 ·intro hc
  refine ⟨0,s1.l,rfl,rfl,Nat.zero_le _,by omega,?_⟩
  have F3:Fm w (w.alloc (.cells (zrep z5 s1.l) 5)) []:=(Fm.refl w []).alloc
  have B3:Blk (w.alloc (.cells (zrep z5 s1.l) 5)) w.heap.size (arrC .u8 s1.l fun _=>0):=Blk.new.congr (by funext i;exact zrep1 _ _ _)
  have W4:=W.grow F3 2
  have hgl:=W.blk.lt
  have hcol:∀v,v<w.heap.size→colN w.heap.size 2 col v=col v:=fun v hv=>colN_old hv
  have hnew:colN w.heap.size 2 col w.heap.size=2:=colN_new (Nat.le_refl _)
  have hg:g≠w.heap.size:=by omega
  generalize colN w.heap.size 2 col=col4 at *
  generalize w.alloc (.cells (zrep z5 s1.l) 5)=w3 at *
  refine st_u W4.blk rfl rfl ?_
  intro w5 B5 F5
  have hov:VecU w5 ⟨some ⟨w.heap.size,0,none⟩,0,s1.l⟩ []:=by
   have B6:=B3.fr F5 (nm1 (Ne.symm hg))
   refine ⟨⟨rfl,Nat.zero_le _,(fun h=>by cases h),?_⟩,?_,by simp only;omega⟩
   ·intro a ha
    injection ha with ha
    subst ha
    exact ⟨rfl,rfl,_,B6,by simp [bytes],fun i hi=>by rw [arrC_get (by simpa using hi)];rfl⟩
   ·intro a ha i hi
    injection ha with ha
    subst ha
    exact ⟨0,by rw [B6.cell,arrC_get hi]⟩
  have B5':Blk w5 g ({ s with out:=⟨some ⟨w.heap.size,0,none⟩,0,s1.l⟩ } : HU).at:=B5.congr (HU.setT 0 rfl rfl rfl (by decide))
  have n9:∀v ∈ [g],9≤v:=by intro v hv;simp at hv;subst hv;exact W.g9
  have K5':=W4.keepG (r:=5) (by decide)
  have W5:HW w5 g ({ s with out:=⟨some ⟨w.heap.size,0,none⟩,0,s1.l⟩ } : HU) col4 :=
   ⟨B5',W4.cg,W4.low,⟨⟨[],hov⟩,by intro v hv;simp [Sl.bs] at hv;subst hv;exact hnew⟩,W4.nod.imp id (fun h=>h.mv F5 (W4.keepG (by decide))),W4.ct.mv F5 (W4.keepG (by decide)),W4.pt.mv F5 (W4.keepG (by decide)),W4.ptv.imp id (fun ⟨M,ln,L,h⟩=>⟨M,ln,L,h.mv F5 (fun v hv=>K5'.out (W4.pt.co v hv) (W4.pt.own.lt v hv))⟩),W4.fse.imp id (fun h=>h.mv F5 (W4.keepG (by decide))),W4.gl.fm F5 n9,fun i hi=>(W4.er i hi).fm F5 (fun h=>by have:=n9 i h;omega),W4.mx,W4.cz⟩
  refine p61_J4 W5 c0 cc0 ht ?_
  intro w6 s6 col6 H6 R6 hc6 F6
  have F35:Fm w w5 [g]:=(F3.mono (by simp)).trans F5 (fun x hx => .inl hx)
  have:=F35.size
  exact hk w6 s6 col6 H6 ⟨R6.reuse,R6.wll,R6.pt,R6.ptl,R6.tl⟩ (fun v hv=>(hc6 v (by omega)).trans (hcol v hv)) (F35.trans F6 (fun x hx => .inl hx))
 ·intro hc
  exact p61_J4 W c0 cc0 ht hk
theorem p61_L0 {R24:Unit→PT} (B:Blk w g s.at) (hk:∀w' c',(∀i,i<256→c' i=0)→Blk w' g ({ s with count:=c' } : HU).at→Fm w w' [g]→R24 () w'):loopP (0:Int) (q61_L0 ⟨g,0,none⟩ R24) w:=by
 refine ⟨fun x w'=>∃(i:Nat) (c:Nat→Int),x=(i:Int)∧i≤256∧(∀j,j<i→c j=0)∧Blk w' g ({ s with count:=c } : HU).at∧Fm w w' [g],fun x _=>300-x.toNat,⟨0,s.count,rfl,Nat.zero_le _,fun j hj=>absurd hj (Nat.not_lt_zero _),B,Fm.refl _ _⟩,?_⟩
 rintro x w1 ⟨i,c,rfl,hi,hz,B1,F1⟩
 unfold q61_L0
 refine cnd_d ?_ ?_
 ·intro hc
  have hi2:i<256:=by omega
  refine ixA_o rfl hi2 ?_
  rw [Nat.zero_add]
  refine st_u B1 (by rw [HU.count_at _ hi2];rfl) rfl ?_
  intro w2 B2 F2
  rw [wI64 (by omega) (by omega)]
  refine ⟨⟨i+1,updF c i 0,by simp,hi2,?_,B2.congr (HU.setC hi2),F1.trans F2 (fun x hx => .inl hx)⟩,by dsimp only;omega⟩
  intro j hj
  unfold updF
  split
  ·rfl
  ·exact hz j (by omega)
 ·intro hc
  have:i=256:=by omega
  subst this
  exact hk w1 c hz B1 F1
theorem p61_J6 (W:HW w g s col) (hl:s1.l<2^40) (ht:∃t:Nat,s.tl=(t:Nat)∧5≤t∧t≤11)
  (hk:∀w' s' col',HP w' g s' col' s1.l→SR s s'→(∀v,v<w.heap.size→col' v=col v)→Fm w w' [g]→K (some ⟨g,0,none⟩,.nilIface) w'):q61_J6 s1 K ⟨g,0,none⟩ () w:=by
 unfold q61_J6
 simp only [add_mk,Nat.zero_add]
 refine joinP_id ?_
 refine ld_b (t := .B) (x:=s.cc) W.blk rfl ?_
 refine ⟨fun hcc => ?_,fun hcc => ?_⟩
 ·refine ld_b (t := .I .i64) (x:=s.maxC) W.blk rfl ?_
  refine cnd_d ?_ (fun h=>absurd W.mx h)
  intro _
  refine joinP_id ?_
  refine p61_L0 W.blk ?_
  intro w1 c1 hz B1 F1
  unfold q61_J1
  simp only [add_mk,Nat.zero_add]
  refine st_u B1 rfl rfl ?_
  intro w2 B2 F2
  have B2':Blk w2 g ({ s with count:=c1,cc:=false } : HU).at:=B2.congr (HU.setT 11 rfl rfl rfl (by decide))
  have F12:Fm w w2 [g]:=F1.trans F2 (fun x hx => .inl hx)
  have W2:=W.same (s' := { s with count:=c1,cc:=false }) B2' F12 rfl rfl rfl rfl rfl W.mx (.inr hz)
  refine p61_J5 W2 hl hz rfl ht ?_
  intro w6 s6 col6 H6 R6 hc6 F6
  have:=F12.size
  exact hk w6 s6 col6 H6 ⟨R6.reuse,R6.wll,R6.pt,R6.ptl,R6.tl⟩ (fun v hv=>hc6 v (by omega)) (F12.trans F6 (fun x hx => .inl hx))
 ·refine p61_J5 W hl ?_ hcc ht hk
  rcases W.cz with h|h
  ·rw [h] at hcc;cases hcc
  ·exact h
theorem p61_J7 (W:HW w g s col) (hl:s1.l<2^40) (ht:s.tl=(t:Nat)) (ht2:t<256)
  (hk0:¬(5≤s.tl∧s.tl≤11)→∀w' v,ER w' v→(5≤s.tl∧s.tl≤11→EG w' v)→HW w' g s col→Fm w w' [g]→K (none,v) w')
  (hk:∀w' s' col',HP w' g s' col' s1.l→SR s s'→(∀v,v<w.heap.size→col' v=col v)→Fm w w' [g]→K (some ⟨g,0,none⟩,.nilIface) w'):q61_J7 s1 K ⟨g,0,none⟩ () w:=by
 have htat:s.at 262=some (.int .u8 ((t:Nat):Int)):=by show some (Value.int .u8 s.tl)=_;rw [ht]
 unfold q61_J7
 simp only [add_mk,Nat.zero_add]
 have err:¬(5≤t∧t≤11)→∀w' v,Fm w w' []→ER w' v→isPE v=true→K (none,v) w':=by
  intro hn w' v F hv _
  exact hk0 (by omega) w' v hv (fun h=>absurd (by omega) hn) (W.same (W.blk.fr F (by simp)) (F.mono (by simp)) rfl rfl rfl rfl rfl W.mx W.cz) (F.mono (by simp))
 refine ld_b (t := .I .u8) (x:=((t:Nat):Int)) W.blk htat ?_
 refine cnd_d (fun h=>c62e (err (by omega))) ?_
 intro h11
 refine ld_b (t := .I .u8) (x:=((t:Nat):Int)) W.blk htat ?_
 refine cnd_d (fun h=>c62e (err (by omega))) ?_
 intro h5
 refine joinP_id ?_
 have fin:∀w1 m,Blk w1 g ({ s with maxDec:=m } : HU).at→Fm w w1 [g]→q61_J6 s1 K ⟨g,0,none⟩ () w1:=by
  intro w1 m B1 F1
  have W1:=W.same (s' := { s with maxDec:=m }) B1 F1 rfl rfl rfl rfl rfl W.mx W.cz
  refine p61_J6 W1 hl ⟨t,ht,by omega,by omega⟩ ?_
  intro w6 s6 col6 H6 R6 hc6 F6
  have:=F1.size
  exact hk w6 s6 col6 H6 ⟨R6.reuse,R6.wll,R6.pt,R6.ptl,R6.tl⟩ (fun v hv=>hc6 v (by omega)) (F1.trans F6 (fun x hx => .inl hx))
 have set:st ⟨g,259,none⟩ (.int .i64 (262143:Int)) (q61_J6 s1 K ⟨g,0,none⟩ ()) w:=by
  refine st_u W.blk rfl rfl ?_
  intro w1 B1 F1
  exact fin w1 _ (B1.congr (HU.setT (s' := { s with maxDec:=262143 }) 3 rfl rfl rfl (by decide))) F1
 refine ld_b (t := .I .i64) (x:=s.maxDec) W.blk rfl ?_
 refine cnd_d (fun _=>set) ?_
 intro _
 refine ld_b (t := .I .i64) (x:=s.maxDec) W.blk rfl ?_
 refine cnd_d (fun _=>set) ?_
 intro _
 exact fin w s.maxDec W.blk (Fm.refl _ _)
theorem p61_J8 (W:HW w g s col) (hl:s1.l<2^40) (ht:s.tl=(t:Nat)) (ht2:t<256)
  (hk0:¬(s.tl=0∨(5≤s.tl∧s.tl≤11))→∀w' s' v,ER w' v→(s.tl=0∨(5≤s.tl∧s.tl≤11)→EG w' v)→HW w' g s' col→SR s s'→s'.outT=s.outT→Fm w w' [g]→K (none,v) w')
  (hk:∀w' s' col',HP w' g s' col' s1.l→SR s s'→(∀v,v<w.heap.size→col' v=col v)→Fm w w' [g]→K (some ⟨g,0,none⟩,.nilIface) w'):q61_J8 s1 K ⟨g,0,none⟩ () w:=by
 have htat:s.at 262=some (.int .u8 ((t:Nat):Int)):=by show some (Value.int .u8 s.tl)=_;rw [ht]
 unfold q61_J8
 simp only [add_mk,Nat.zero_add]
 refine joinP_id ?_
 refine ld_b (t := .I .u8) (x:=((t:Nat):Int)) W.blk htat ?_
 refine cnd_d ?_ ?_
 ·intro h0
  refine st_u W.blk rfl rfl ?_
  intro w1 B1 F1
  have B1':Blk w1 g ({ s with tl:=11 } : HU).at:=B1.congr (HU.setT 6 rfl rfl rfl (by decide))
  have W1:=W.same (s' := { s with tl:=11 }) B1' F1 rfl rfl rfl rfl rfl W.mx W.cz
  have hs0:s.tl=0:=by rw [ht];exact h0
  refine p61_J7 W1 hl (t:=11) rfl (by omega) ?_ ?_
  ·intro hn w2 v hv hv2 W2 F2
   exact hk0 (absurd ⟨show (5:Int)≤11 by decide,show (11:Int)≤11 by decide⟩ hn) w2 _ v hv (fun _=>hv2 ⟨show (5:Int)≤11 by decide,show (11:Int)≤11 by decide⟩) W2 ⟨rfl,rfl,rfl,rfl,.inr ⟨hs0,rfl⟩⟩ rfl (F1.trans F2 (fun x hx => .inl hx))
  ·intro w6 s6 col6 H6 R6 hc6 F6
   have:=F1.size
   refine hk w6 s6 col6 H6 ⟨R6.reuse,R6.wll,R6.pt,R6.ptl,.inr ⟨hs0,?_⟩⟩ (fun v hv=>hc6 v (by omega)) (F1.trans F6 (fun x hx => .inl hx))
   rcases R6.tl with h|h
   ·exact h
   ·exact h.2
 ·intro h0
  refine p61_J7 W hl ht ht2 ?_ hk
  intro hn w2 v hv hv2 W2 F2
  exact hk0 (fun h=>h.elim (fun e=>absurd (ht▸e) h0) hn) w2 _ v hv (fun h=>hv2 (h.elim (fun e=>absurd (ht▸e) h0) id)) W2 ⟨rfl,rfl,rfl,rfl,.inl rfl⟩ rfl F2
theorem c61 (W:HW w g s col) (ht:s.tl=(t:Nat)) (ht2:t<256)
  (hk0:(262143<s1.l∨¬(s.tl=0∨(5≤s.tl∧s.tl≤11)))→∀w' s' v,ER w' v→(s.tl=0∨(5≤s.tl∧s.tl≤11)→EG w' v)→HW w' g s' col→SR s s'→s'.outT=s.outT→Fm w w' [g]→K (none,v) w')
  (hk:s1.l≤262143→∀w' s' col',HP w' g s' col' s1.l→SR s s'→(∀v,v<w.heap.size→col' v=col v)→Fm w w' [g]→K (some ⟨g,0,none⟩,.nilIface) w') :
  callP Tryd.prog 61 #[.pointer (some ⟨g,0,none⟩),.slice s1.a s1.l s1.c] [.c .P,.c .V] K w:=by
 apply q61_ok
 unfold q61
 refine cnd_d ?_ ?_
 ·intro hbig
  refine ld_errG (W.er 2 (by decide)) (by decide) ?_
  intro v hv
  have F:Fm w w.drew []:=(Fm.refl w []).drew
  exact hk0 (.inl (by omega)) _ s v (.inl hv) (fun _=>hv) (W.same (W.blk.fr F (by simp)) (F.mono (by simp)) rfl rfl rfl rfl rfl W.mx W.cz) ⟨rfl,rfl,rfl,rfl,.inl rfl⟩ rfl (F.mono (by simp))
 ·intro hsm
  have hl:s1.l≤262143:=by omega
  refine joinP_id ?_
  refine ⟨fun h=>by simp at h,fun _ => ?_⟩
  unfold q61_J9
  simp only [add_mk,Nat.zero_add]
  refine joinP_id ?_
  refine ld_b (t := .I .u8) (x:=s.msv) W.blk rfl ?_
  refine cnd_d ?_ ?_
  ·intro h0
   refine st_u W.blk rfl rfl ?_
   intro w1 B1 F1
   have B1':Blk w1 g ({ s with msv:=255 } : HU).at:=B1.congr (HU.setT 5 rfl rfl rfl (by decide))
   have W1:=W.same (s' := { s with msv:=255 }) B1' F1 rfl rfl rfl rfl rfl W.mx W.cz
   refine p61_J8 W1 (by omega) ht ht2 ?_ ?_
   ·intro hn w2 s2 v hv hv2 W2 R2 e2 F2
    exact hk0 (.inr hn) w2 s2 v hv hv2 W2 ⟨R2.reuse,R2.wll,R2.pt,R2.ptl,R2.tl⟩ e2 (F1.trans F2 (fun x hx => .inl hx))
   ·intro w6 s6 col6 H6 R6 hc6 F6
    have:=F1.size
    exact hk hl w6 s6 col6 H6 ⟨R6.reuse,R6.wll,R6.pt,R6.ptl,R6.tl⟩ (fun v hv=>hc6 v (by omega)) (F1.trans F6 (fun x hx => .inl hx))
  ·intro h0
   exact p61_J8 W (by omega) ht ht2 (fun h=>hk0 (.inr h)) (hk hl)
end
def own (c:Nat):Prop:=1≤c∧c≤6
structure GoW (w w':World) (col col':Nat→Nat):Prop where
 fr:∃S,Fm w w' S∧∀v∈S,v<w.heap.size→own (col v)
 old:∀v,v<w.heap.size→¬own (col v)→col' v=col v
theorem GoW.of {w w':World} {col col':Nat→Nat} {S:List Nat} (F:Fm w w' S) (hS:∀v∈S,v<w.heap.size→own (col v)) (hc:∀v,v<w.heap.size→col' v=col v):GoW w w' col col':=⟨⟨S,F,hS⟩,fun v hv _=>hc v hv⟩
theorem GoW.trans {w w1 w2:World} {col col1 col2:Nat→Nat} (h:GoW w w1 col col1) (h':GoW w1 w2 col1 col2):GoW w w2 col col2:=by
 obtain ⟨⟨S,F,hS⟩,hc⟩:=h
 obtain ⟨⟨S',F',hS'⟩,hc'⟩:=h'
 have hs:=F.size
 have key:∀v∈S',v<w.heap.size→own (col v):=by
  intro v hv hl
  refine Classical.byContradiction fun hn => ?_
  have h1:=hS' v hv (by omega)
  rw [hc v hl hn] at h1
  exact hn h1
 refine ⟨⟨S++S',(F.mono (S':=S++S') (fun b hb => .inl (List.mem_append_left _ hb))).trans F' (fun b hb => .inl (List.mem_append_right _ hb)),?_⟩,?_⟩
 ·intro v hv hl
  rcases List.mem_append.mp hv with h1|h1
  ·exact hS v h1 hl
  ·exact key v h1 hl
 ·intro v hl hn
  have h1:=hc v hl hn
  rw [←h1]
  exact hc' v (by omega) (by rw [h1];exact hn)
theorem GoW.arr {w w':World} {col col':Nat→Nat} {k:IntKind} {s:Sl} {xs:List Nat} (h:GoW w w' col col') (A:Arr k w s xs) (hf:∀a,s.a=some a→xs ≠ []→¬own (col a.block)):Arr k w' s xs:=by
 obtain ⟨⟨S,F,hS⟩,_⟩:=h
 refine A.fr F ?_
 intro a ha hx hm
 exact hf a ha hx (hS _ hm (A.old hx a ha))
theorem GoW.far {w w':World} {col col':Nat→Nat} {k:IntKind} {s:Sl} {xs:List Nat} (h:GoW w w' col col') (A:Arr k w s xs) (hf:∀a,s.a=some a→xs ≠ []→¬own (col a.block)):∀a,s.a=some a→xs ≠ []→¬own (col' a.block):=by
 intro a ha hx
 rw [h.old _ (A.old hx a ha) (hf a ha hx)]
 exact hf a ha hx
section
variable {w:World} {g n:Nat} {s:HU} {s1:Sl} {xs:List Nat} {col:Nat→Nat}
theorem PTc.tb {w:World} {o:Sl} {M L:Nat} {ln:Nat→Nat} (h:PTc w o M ln L):∃qb pc,o=⟨some ⟨qb,0,none⟩,L,pc⟩∧256≤pc∧(∀x,x<L→0<ln x→TB w qb pc (vC ln L M) ln x)∧∃Q,Blk w qb Q∧TbC L Q∧(∀i,i<L→Q (i*2+1)=some (.int .u8 (ln i:Nat)))∧L≤256∧0<L:=by
 obtain ⟨qb,pc,Q,cnt,h0,h1,h2,h3,h4,h5,h6⟩:=h
 refine ⟨qb,pc,h0,h1,?_,Q,h2,fun i hi=>⟨⟨_,(h3 i hi).1⟩,⟨_,(h3 i hi).2⟩⟩,fun i hi=>(h3 i hi).2,h5,h6⟩
 intro x hx h0
 have h7:=h4.le x hx
 have h8:=h4.m11
 exact ⟨by omega,by omega,vC_lt h4 hx h0,(h2.cell _).trans (h3 x hx).1,(h2.cell _).trans (h3 x hx).2⟩
theorem cs_maxE {R31:Int→PT} (B:Blk w g s.at) (hc:∀i,i<256→s.count i=0) (hk:∀w',Fm w w' [g]→Blk w' g s.at→R31 0 w') :
  loopP ((0:Int),(0:Int)) (q117_L7 ⟨g,0,none⟩ R31 ⟨some ⟨g,0,none⟩,256,256⟩) w:=by
 refine ⟨fun x w'=>∃n:Nat,x=(0,(n:Int))∧n≤256∧w'=w,fun x _=>300-x.2.toNat,⟨0,rfl,Nat.zero_le _,rfl⟩,?_⟩
 rintro x w1 ⟨n,rfl,hn,rfl⟩
 unfold q117_L7
 simp only
 refine cnd_d ?_ ?_
 ·intro hcn
  have hn2:n<256:=by omega
  refine joinP_id ?_
  unfold q117_J6
  simp only
  rw [wI64 (by omega) (by omega),show (n:Int)+1=((n+1:Nat):Int) by omega]
  refine ixS_o rfl hn2 ?_
  rw [Nat.zero_add]
  refine ld_b (t := .I .u32) (x:=(0:Int)) B (by rw [HU.count_at _ hn2,hc n hn2];rfl) ?_
  refine cnd_d (fun _ => ?_) (fun h=>absurd rfl h)
  exact ⟨⟨n+1,rfl,hn2,rfl⟩,by omega⟩
 ·intro hcn
  exact hk w1 (Fm.refl _ _) B
theorem cs_max2E {R31:Bool×Int→PT} (B:Blk w g s.at) (hc:∀i,i<256→s.count i=0) (hk:∀w' b,Fm w w' [g]→Blk w' g s.at→R31 (b,0) w') :
  loopP (true,(0:Int),(0:Int)) (q117_L3 ⟨g,0,none⟩ R31 ⟨some ⟨g,0,none⟩,256,256⟩) w:=by
 refine ⟨fun x w'=>∃n:Nat,x=(true,0,(n:Int))∧n≤256∧w'=w,fun x _=>300-x.2.2.toNat,⟨0,rfl,Nat.zero_le _,rfl⟩,?_⟩
 rintro x w1 ⟨n,rfl,hn,rfl⟩
 unfold q117_L3
 simp only
 refine cnd_d ?_ ?_
 ·intro hcn
  have hn2:n<256:=by omega
  refine joinP_id ?_
  unfold q117_J2
  simp only
  rw [wI64 (by omega) (by omega),show (n:Int)+1=((n+1:Nat):Int) by omega]
  refine ixS_o rfl hn2 ?_
  rw [Nat.zero_add]
  refine ld_b (t := .I .u32) (x:=(0:Int)) B (by rw [HU.count_at _ hn2,hc n hn2];rfl) ?_
  refine cnd_d (fun _ => ?_) (fun h=>absurd rfl h)
  exact ⟨⟨n+1,rfl,hn2,rfl⟩,by omega⟩
 ·intro hcn
  exact hk w1 true (Fm.refl _ _) B
theorem c117e {K:Int×Bool→PT} (B:Blk w g s.at) (hz:∀i,i<256→s.count i=0) (hsrc:Arr .u8 w s1 [])
  (hk:∀(w':World) (c':Nat→Int) (b:Bool),(∀i,i<256→c' i=0)→Blk w' g ({ s with count:=c' } : HU).at→Fm w w' [g]→K (0,b) w') :
  callP Tryd.prog 117 #[.pointer (some ⟨g,0,none⟩),.slice s1.a s1.l s1.c] [.c (.I .i64),.c .B] K w:=by
 apply q117_ok
 unfold q117
 refine cells_ldA B (fun i hi=>by rw [HU.count_at _ hi];rfl) ?_
 intro cs
 refine joinP_id ?_
 refine cs_count (xs := []) B hz hsrc (by intro x hx;cases hx) (by simp) (by intro a _ h;exact absurd rfl h) ?_
 intro w1 c1 hc1 B1 F1
 have hc0:∀i,i<256→c1 i=0:=fun i hi=>by rw [hc1 i hi];rfl
 unfold q117_J10
 refine joinP_id ?_
 simp only [add_mk,Nat.zero_add]
 refine ld_b (t := .S) (x:=s.pt) B1 rfl ?_
 refine cnd_d (fun _ => ?_) (fun _ => ?_)
 ·refine joinP_id ?_
  refine slcA_all (by omega) ?_
  refine cs_max2E (s := { s with count:=c1 }) B1 hc0 ?_
  intro w2 b F2 B2
  unfold q117_J4
  simp only
  rw [wI64 (x:=(0:Int)) (by omega) (by omega)]
  exact hk w2 c1 b hc0 B2 (F1.trans F2 (fun x hx => .inl hx))
 ·unfold q117_J9
  refine joinP_id ?_
  refine slcA_all (by omega) ?_
  refine cs_maxE (s := { s with count:=c1 }) B1 hc0 ?_
  intro w2 F2 B2
  unfold q117_J8
  rw [wI64 (x:=(0:Int)) (by omega) (by omega)]
  exact hk w2 c1 false hc0 B2 (F1.trans F2 (fun x hx => .inl hx))
theorem c117p {K:Int×Bool→PT} (W:HW w g s col) (hz:∀i,i<256→s.count i=0) (hsrc:Arr .u8 w s1 xs) (hby:By xs) (hxs:xs.length≤2^30) (ds:∀a,s1.a=some a→xs ≠ []→¬own (col a.block))
  (hk0:xs = []→∀(w':World) (c':Nat→Int) (b:Bool),Blk w' g ({ s with count:=c' } : HU).at→Fm w w' [g]→K (0,b) w')
  (hk:∀(w':World) (c':Nat→Int) (b:Bool) (m L:Nat),xs ≠ []→MX (fun i=>xs.count i) m L→(b=true→0<s.pt.l∧∀M ln L',PTc w s.pt M ln L'→∀x∈xs,x<L'∧0<ln x)→(b=false→s.pt.l=0∨∀M ln L',PTc w s.pt M ln L'→∃x∈xs,¬(x<L'∧0<ln x))→(∀i,i<256→c' i=(xs.count i:Nat))→Blk w' g ({ s with count:=c',symL:=(L:Nat) } : HU).at→Fm w w' [g]→K (((m:Nat):Int),b) w') :
  callP Tryd.prog 117 #[.pointer (some ⟨g,0,none⟩),.slice s1.a s1.l s1.c] [.c (.I .i64),.c .B] K w:=by
 have dg:∀a,s1.a=some a→xs ≠ []→a.block≠g:=by
  intro a ha hx e
  refine ds a ha hx ?_
  rw [e,W.cg]
  exact ⟨by decide,by decide⟩
 by_cases hxe:xs = []
 ·subst hxe
  refine c117e W.blk hz hsrc ?_
  intro w' c' b _ B F
  exact hk0 rfl w' c' b B F
 ·by_cases hp:s.pt.l=0
  ·refine c117n W.blk hz hp hsrc hby hxe hxs dg ?_
   intro w' c' m L hM hc B F
   exact hk w' c' false m L hxe hM (fun h=>by cases h) (fun _ => .inl hp) hc B F
  ·obtain ⟨M,ln,L0,hP⟩:∃M ln L,PTc w s.pt M ln L:=by
    rcases W.ptv with h|h
    ·exact absurd h hp
    ·exact h
   obtain ⟨qb,pc,e,h256,hTB,Q,HQ,hQ,hQ2,hL1,hL2⟩:=hP.tb
   have hqg:qb≠g:=by
    intro e2
    have h5:=W.pt.co qb (by rw [e];simp [Sl.bs])
    rw [e2,W.cg] at h5
    cases h5
   refine c117t W.blk hz e hL2 HQ hQ hqg hsrc hby hxe hxs dg ?_
   intro w' c' b m L hM hb hbf hc B F
   have same:∀M' ln' L',PTc w s.pt M' ln' L'→L'=L0∧∀i,i<L0→ln' i=ln i:=by
    intro M' ln' L' hP'
    obtain ⟨qb',pc',e',_,_,Q',HQ',_,hQ2',_,_⟩:=hP'.tb
    rw [e] at e'
    injection e' with e1 e2 e3
    injection e1 with e1
    injection e1 with e1
    subst e1
    refine ⟨e2.symm,?_⟩
    intro i hi
    have h1:=hQ2 i hi
    have h2:=hQ2' i (by omega)
    rw [←HQ.cell] at h1
    rw [←HQ'.cell,h1] at h2
    injection h2 with h2
    injection h2 with _ h2
    omega
   refine hk w' c' b m L hxe hM ?_ ?_ hc B F
   ·intro hbt
    refine ⟨by rw [e];exact hL2,?_⟩
    intro M' ln' L' hP' x hx
    obtain ⟨eL,eln⟩:=same M' ln' L' hP'
    have h1:=hb hbt x (hby x hx) (by have:0<xs.count x:=List.count_pos_iff.mpr hx;show xs.count x≠0;omega)
    have h2:=h1.2 _ (hQ2 x h1.1)
    rw [eL,eln x h1.1]
    exact ⟨h1.1,by omega⟩
   ·intro hbf'
    right
    intro M' ln' L' hP'
    obtain ⟨eL,eln⟩:=same M' ln' L' hP'
    obtain ⟨j,hj,hj0,hj2⟩:=hbf hbf'
    have hj0:xs.count j≠0:=hj0
    refine ⟨j,List.count_pos_iff.mp (by omega),?_⟩
    rintro ⟨h1,h2⟩
    rw [eL] at h1
    rw [eln j h1] at h2
    refine hj2 ⟨h1,?_⟩
    intro b' hb'
    rw [hQ2 j h1] at hb'
    injection hb' with hb'
    injection hb' with _ hb'
    omega
end
structure HQ (w:World) (g:Nat) (s:HU) (col:Nat→Nat) (n:Nat) (cnt:Nat→Nat) (L:Nat) (pre:List Nat):Prop extends HW w g s col where
 oP:VecU w s.out pre
 nodP:NodC w s.nodes col
 fseP:FseC w s.fse col
 srcN:s.srcLen=(n:Nat)
 tlP:∃t:Nat,s.tl=(t:Nat)∧5≤t∧t≤11
 sc:SC s cnt L
 ccT:s.cc=true
 wl:s.wll=0
theorem HW.n9 {w:World} {g:Nat} {s:HU} {col:Nat→Nat} {S:List Nat} (W:HW w g s col) (hS:∀v∈S,v<w.heap.size→own (col v)):∀v∈S,9≤v:=by
 intro v hv
 have h9:=W.gl.size
 rcases Nat.lt_or_ge v w.heap.size with h|h
 ·have h1:=(hS v hv h).1
  exact W.nine (by omega)
 ·omega
structure Mv (w w':World) (col col':Nat→Nat) (S:List Nat):Prop where
 fr:Fm w w' S
 own_:∀v∈S,v<w.heap.size→own (col v)
 old:∀v,v<w.heap.size→col' v=col v
theorem Mv.go {w w':World} {col col':Nat→Nat} {S:List Nat} (M:Mv w w' col col' S):GoW w w' col col':=GoW.of M.fr M.own_ M.old
theorem Mv.keep {w w':World} {col col':Nat→Nat} {S:List Nat} {r:Nat} (M:Mv w w' col col' S) (h:∀v∈S,v<w.heap.size→col v≠r):Keep w col col' S r:=⟨h,M.old⟩
section
variable {w w':World} {g n L:Nat} {s s':HU} {col col':Nat→Nat} {S:List Nat} {cnt:Nat→Nat} {pre pre':List Nat}
theorem HQ.mv (Q:HQ w g s col n cnt L pre) (M:Mv w w' col col' S) (B:Blk w' g s'.at) (ho:VecU w' s'.out pre') (hoc:∀v∈s'.out.bs,col' v=2) (hn:NodC w' s'.nodes col') (hf:FseC w' s'.fse col') (hct:OwC 4 w' s'.ct col')
  (hp:∀v∈S,v<w.heap.size→col v≠5) (hpt:s'.pt=s.pt) (hsrc:s'.srcLen=s.srcLen) (htl:s'.tl=s.tl) (hsy:s'.symL=s.symL) (hco:s'.count=s.count) (hcc:s'.cc=s.cc) (hmx:s'.maxC=s.maxC) (hwl:s'.wll=s.wll) :
  HQ w' g s' col' n cnt L pre':=by
 have h9:=Q.gl.size
 have n9:=Q.toHW.n9 M.own_
 have K5:=M.keep hp
 have sc':SC s' cnt L:=⟨hsy.trans Q.sc.sym,Q.sc.l1,Q.sc.l256,fun i hi=>by rw [hco];exact Q.sc.cn i hi,Q.sc.lt⟩
 refine ⟨⟨B,(M.old g Q.blk.lt).trans Q.cg,fun v hv=>(M.old v (by omega)).trans (Q.low v hv),⟨⟨_,ho⟩,hoc⟩,.inr hn,hct,?_,?_,.inr hf,Q.gl.fm M.fr n9,fun i hi=>(Q.er i hi).fm M.fr (fun h=>by have:=n9 i h;omega),hmx.trans Q.mx,.inl (hcc.trans Q.ccT)⟩,ho,hn,hf,hsrc.trans Q.srcN,?_,sc',hcc.trans Q.ccT,hwl.trans Q.wl⟩
 ·rw [hpt];exact Q.pt.mv M.fr K5
 ·rw [hpt]
  exact Q.ptv.imp id (fun ⟨M1,ln,L,h⟩=>⟨M1,ln,L,h.mv M.fr (fun v hv=>K5.out (Q.pt.co v hv) (Q.pt.own.lt v hv))⟩)
 ·rw [htl];exact Q.tlP
theorem HQ.ownG (Q:HQ w g s col n cnt L pre):own (col g):=by rw [Q.cg];exact ⟨by decide,by decide⟩
theorem HW.g9l {w:World} {g:Nat} {s:HU} {col:Nat→Nat} (W:HW w g s col):∀v ∈ [g],9≤v:=by intro v hv;simp at hv;subst hv;exact W.g9
theorem HQ.g9l (Q:HQ w g s col n cnt L pre):∀v ∈ [g],9≤v:=Q.toHW.g9l
theorem HQ.mvG (Q:HQ w g s col n cnt L pre) (F:Fm w w' [g]):Mv w w' col col [g]:=⟨F,by intro v hv _;simp at hv;subst hv;exact Q.ownG,fun _ _=>rfl⟩
theorem HQ.out2 (Q:HQ w g s col n cnt L pre):∀v∈s.out.bs,col v=2:=Q.out.co
theorem HQ.self (Q:HQ w g s col n cnt L pre) (F:Fm w w' [g]) (B:Blk w' g s'.at) (ho:s'.out=s.out) (hn:s'.nodes=s.nodes) (hf:s'.fse=s.fse) (hct:s'.ct=s.ct) (hpt:s'.pt=s.pt) (hsrc:s'.srcLen=s.srcLen) (htl:s'.tl=s.tl) (hsy:s'.symL=s.symL) (hco:s'.count=s.count) (hcc:s'.cc=s.cc) (hmx:s'.maxC=s.maxC) (hwl:s'.wll=s.wll) :
  HQ w' g s' col n cnt L pre:=by
 refine Q.mv (Q.mvG F) B ?_ ?_ ?_ ?_ ?_ ?_ hpt hsrc htl hsy hco hcc hmx hwl
 ·rw [ho];exact Q.oP.fr F (fun b hb=>(Q.keepG (r:=2) (by decide)).out (Q.out2 b hb) (Q.oP.lt b hb))
 ·rw [ho];exact Q.out2
 ·rw [hn];exact Q.nodP.mv F (Q.keepG (by decide))
 ·rw [hf];exact Q.fseP.mv F (Q.keepG (by decide))
 ·rw [hct];exact Q.ct.mv F (Q.keepG (by decide))
 ·intro v hv _ e;simp at hv;subst hv;rw [Q.cg] at e;cases e
theorem HQ.ptG {M1 L1:Nat} {ln:Nat→Nat} (Q:HQ w g s col n cnt L pre) (F:Fm w w' [g]) (h:PTc w s.pt M1 ln L1):PTc w' s.pt M1 ln L1 :=
 h.mv F (fun v hv=>(Q.keepG (r:=5) (by decide)).out (Q.pt.co v hv) (Q.pt.own.lt v hv))
end
section
variable {w:World} {g n L M1 L1:Nat} {s s2:HU} {s1:Sl} {xs pre:List Nat} {col:Nat→Nat} {cnt ln:Nat→Nat} {fc:FuncId} {Enc:(Nat→Nat)→(Nat→Nat)→List Nat→List Nat→Prop} {K:Sl×Value→PT}
theorem comp_core {E:Prop} (hC:CompOK fc Enc E) (hfn:hasFn Tryd.prog fc=true) (Q:HQ w g s col n cnt L pre) (w2:World) (F2:Fm w w2 [g]) (B:Blk w2 g s2.at) (e:s2.out=s.out) (hP:PTc w2 s2.ct M1 ln L1) (hcol:∀v∈s2.ct.bs,v<w.heap.size∧col v≠1∧col v≠2)
  (hx:∀x∈xs,x<L1∧0<ln x) (hsrc:Arr .u8 w s1 xs) (hf:∀a,s1.a=some a→xs ≠ []→¬own (col a.block)) (h2:2≤xs.length) (hxs:xs.length≤2^18) (hpre:pre.length≤2^20)
  (hk0:E→∀w' o v,EG w' v→Blk w' g ({ s2 with out:=o } : HU).at→Fm w w' (g::s.out.bs)→K (⟨none,0,0⟩,v) w')
  (hk1:∀w' o so ol,Enc (vC ln L1 M1) ln xs ol→VecU w' so (pre++ol)→Blk w' g ({ s2 with out:=o } : HU).at→(∀v∈so.bs,v∈s.out.bs∨w.heap.size≤v)→Fm w w' (g::s.out.bs)→Held w' s.out.a pre→K (so,.nilIface) w') :
  callV Tryd.prog (.func (.func fc) #[.pointer (some ⟨g,0,none⟩)] #[]) #[.slice s1.a s1.l s1.c] [.c .S,.c .V] K w2:=by
 obtain ⟨qb,pc,e1,h256,hTB,_⟩:=hP.tb
 have hxe:xs ≠ []:=by intro e;subst e;simp at h2
 have hqb:qb∈s2.ct.bs:=by rw [e1];simp [Sl.bs]
 obtain ⟨hql,hq1,hq2⟩:=hcol qb hqb
 have hne:∀v∈s.out.bs,v≠g:=by intro v hv e;subst e;have:=Q.out2 v hv;rw [Q.cg] at this;cases this
 have n1:∀v∈s.out.bs,v ∉ [g]:=fun v hv=>nm1 (hne v hv)
 have hsz:=F2.size
 refine ⟨fc,_,_,rfl,hfn,?_⟩
 have H:=hC w2 g qb pc L1 (vC ln L1 M1) ln pre xs s1 s2 K B e1 h256 (by rw [e];exact Q.oP.fr F2 n1) (hsrc.fr F2 ?_) (fun x hx'=>hTB x (hx x hx').1 (hx x hx').2) h2 hxs hpre ((Q.er 0 (by decide)).fm F2 ?_)
  (by rw [e];intro h;exact hq2 (Q.out2 qb h)) (by intro h;subst h;exact hq1 Q.cg) (by rw [e];intro h;exact hne g h rfl) ?_ ?_ Q.g9 ?_ ?_
 ·exact H
 ·intro a ha hx' hm
  simp at hm
  exact hf a ha hx' (by rw [hm];exact Q.ownG)
 ·intro h;simp at h;have:=Q.g9;omega
 ·intro a ha hm
  rw [e] at hm
  refine hf a ha hxe ?_
  rcases List.mem_cons.mp hm with h|h
  ·rw [h];exact Q.ownG
  ·rw [Q.out2 _ h];exact ⟨by decide,by decide⟩
 ·rw [e]
  intro v hv
  exact Q.nine (by rw [Q.out2 v hv];decide)
 ·intro hE w' o v hv B' F'
  rw [e] at F'
  exact hk0 hE w' o v hv B' ((F2.mono (by simp)).trans F' (fun b hb => .inl hb))
 ·intro w' o so ol hE hv B' hn F' hh
  rw [e] at F' hn hh
  refine hk1 w' o so ol hE hv B' ?_ ((F2.mono (by simp)).trans F' (fun b hb => .inl hb)) hh
  intro v hv
  rcases hn v hv with h|h
  ·exact .inl h
  ·right;omega
end
theorem VecU.nil {w:World} : VecU w ⟨none,0,0⟩ []:=⟨Vec.nil,(by intro a h;cases h),by decide⟩
section
variable {w w':World} {g n L:Nat} {s s':HU} {col:Nat→Nat} {cnt:Nat→Nat} {pre pre':List Nat} {so:Sl}
theorem HQ.comp (Q:HQ w g s col n cnt L pre) (F:Fm w w' (g::s.out.bs)) (hn:∀v∈so.bs,v∈s.out.bs∨w.heap.size≤v) (hv:VecU w' so pre') (B:Blk w' g ({ s with out:=so } : HU).at) :
  HQ w' g { s with out:=so } (colN w.heap.size 2 col) n cnt L pre'∧Mv w w' col (colN w.heap.size 2 col) (g::s.out.bs):=by
 have M:Mv w w' col (colN w.heap.size 2 col) (g::s.out.bs):=by
  refine ⟨F,?_,fun v hv=>colN_old hv⟩
  intro v hv _
  rcases List.mem_cons.mp hv with h|h
  ·rw [h];exact Q.ownG
  ·rw [Q.out2 v h];exact ⟨by decide,by decide⟩
 have hk:∀r,r≠1→r≠2→∀v∈g::s.out.bs,v<w.heap.size→col v≠r:=by
  intro r h1 h2 v hv _ e
  rcases List.mem_cons.mp hv with h|h
  ·rw [h,Q.cg] at e;exact h1 e.symm
  ·rw [Q.out2 v h] at e;exact h2 e.symm
 refine ⟨Q.mv M B hv ?_ (Q.nodP.mv F (M.keep (hk 3 (by decide) (by decide)))) (Q.fseP.mv F (M.keep (hk 6 (by decide) (by decide)))) (Q.ct.mv F (M.keep (hk 4 (by decide) (by decide)))) (hk 5 (by decide) (by decide)) rfl rfl rfl rfl rfl rfl rfl rfl,M⟩
 intro v hv
 rcases hn v hv with h|h
 ·exact (colN_old (Q.oP.lt v h)).trans (Q.out2 v h)
 ·exact colN_new h
theorem HQ.ctO {M1 L1:Nat} {ln:Nat→Nat} (Q:HQ w g s col n cnt L pre) (F:Fm w w' (g::s.out.bs)) (h:PTc w s.ct M1 ln L1):PTc w' s.ct M1 ln L1:=by
 refine h.mv F ?_
 intro v hv hm
 have h4:=Q.ct.co v hv
 rcases List.mem_cons.mp hm with h|h
 ·rw [h,Q.cg] at h4;cases h4
 ·rw [Q.out2 v h] at h4;cases h4
theorem HQ.ptO {M1 L1:Nat} {ln:Nat→Nat} (Q:HQ w g s col n cnt L pre) (F:Fm w w' (g::s.out.bs)) (h:PTc w s.pt M1 ln L1):PTc w' s.pt M1 ln L1:=by
 refine h.mv F ?_
 intro v hv hm
 have h4:=Q.pt.co v hv
 rcases List.mem_cons.mp hm with h|h
 ·rw [h,Q.cg] at h4;cases h4
 ·rw [Q.out2 v h] at h4;cases h4
end
section
variable {w:World} {g n L M0 L0:Nat} {s:HU} {s1:Sl} {xs pre:List Nat} {col:Nat→Nat} {cnt ln0:Nat→Nat} {fc:FuncId} {Enc:(Nat→Nat)→(Nat→Nat)→List Nat→List Nat→Prop} {K3:Sl×Bool×Value→PT}
theorem rs_step {K:Sl×Value→PT} {E:Prop} (hC:CompOK fc Enc E) (hfn:hasFn Tryd.prog fc=true) (Q:HQ w g s col n cnt L pre) (hP:PTc w s.pt M0 ln0 L0)
  (hx:∀x∈xs,x<L0∧0<ln0 x) (hsrc:Arr .u8 w s1 xs) (hf:∀a,s1.a=some a→xs ≠ []→¬own (col a.block)) (h2:2≤xs.length) (hxs:xs.length≤2^18) (hpre:pre.length≤2^20)
  (hk0:E→∀w' s' col' v,EG w' v→s' = { s with out:=⟨none,0,0⟩ } → HQ w' g s' col' n cnt L []→GoW w w' col col'→PTc w' s'.pt M0 ln0 L0→(∀M1 ln1 L1,PTc w s.ct M1 ln1 L1→PTc w' s'.ct M1 ln1 L1)→K (⟨none,0,0⟩,v) w')
  (hk1:∀w' s' col' so ol,Enc (vC ln0 L0 M0) ln0 xs ol→s' = { s with out:=so } → HQ w' g s' col' n cnt L (pre++ol)→GoW w w' col col'→PTc w' s'.pt M0 ln0 L0→(∀M1 ln1 L1,PTc w s.ct M1 ln1 L1→PTc w' s'.ct M1 ln1 L1)→K (so,.nilIface) w') :
  (nz (some ⟨g,0,none⟩) fun (p134:Addr)=>ld .S (Addr.add p134 271) fun (s135:Sl)=>nz (some ⟨g,0,none⟩) fun (p136:Addr)=>ld (.I .u8) (Addr.add p136 268) fun (n137:Int)=>nz (some ⟨g,0,none⟩) fun (p138:Addr)=>ld .S (Addr.add p138 270) fun (s139:Sl)=>nz (some ⟨g,0,none⟩) fun (p140:Addr)=>st (Addr.add p140 271) (.slice s139.a s139.l s139.c)<|nz (some ⟨g,0,none⟩) fun (p141:Addr)=>ld (.I .u8) (Addr.add p141 269) fun (n142:Int)=>nz (some ⟨g,0,none⟩) fun (p143:Addr)=>st (Addr.add p143 268) (.int .u8 n142)<|callV Tryd.prog (.func (.func fc) #[.pointer (some ⟨g,0,none⟩)] #[]) #[(.slice s1.a s1.l s1.c)] [.c .S,.c .V] fun (r144:Sl×Value)=>nz (some ⟨g,0,none⟩) fun (p145:Addr)=>st (Addr.add p145 256) (.slice r144.1.a r144.1.l r144.1.c)<|nz (some ⟨g,0,none⟩) fun (p146:Addr)=>st (Addr.add p146 271) (.slice s135.a s135.l s135.c)<|nz (some ⟨g,0,none⟩) fun (p147:Addr)=>st (Addr.add p147 268) (.int .u8 n137)<|K r144) w:=by
 refine ⟨_,rfl,?_⟩
 simp only [add_mk,Nat.zero_add]
 refine ld_b (t := .S) (x:=s.ct) Q.blk rfl ⟨_,rfl,?_⟩
 simp only [add_mk,Nat.zero_add]
 refine ld_b (t := .I .u8) (x:=s.atl) Q.blk rfl ⟨_,rfl,?_⟩
 simp only [add_mk,Nat.zero_add]
 refine ld_b (t := .S) (x:=s.pt) Q.blk rfl ⟨_,rfl,?_⟩
 simp only [add_mk,Nat.zero_add]
 refine st_u Q.blk rfl rfl ?_
 intro w1 B1 F1
 have B1':=B1.congr (HU.setT (s' := { s with ct:=s.pt }) 15 rfl rfl rfl (by decide))
 refine ⟨_,rfl,?_⟩
 simp only [add_mk,Nat.zero_add]
 refine ld_b (t := .I .u8) (x:=s.ptl) B1' rfl ⟨_,rfl,?_⟩
 simp only [add_mk,Nat.zero_add]
 refine st_u B1' rfl rfl ?_
 intro w2 B2 F2
 have B2':=B2.congr (HU.setT (s' := { s with ct:=s.pt,atl:=s.ptl }) 12 rfl rfl rfl (by decide))
 have F02:Fm w w2 [g]:=F1.trans F2 (fun x hx => .inl hx)
 refine comp_core (s2 := { s with ct:=s.pt,atl:=s.ptl }) (ln:=ln0) (M1:=M0) (L1:=L0) hC hfn Q w2 F02 B2' rfl (Q.ptG F02 hP) ?_ hx hsrc hf h2 hxs hpre ?_ ?_
 ·intro v hv
  have h5:=Q.pt.co v hv
  exact ⟨Q.pt.own.lt v hv,by omega,by omega⟩
 ·intro hE w3 o v hv B3 F3
  refine ⟨_,rfl,?_⟩
  simp only [add_mk,Nat.zero_add]
  refine st_u B3 rfl rfl ?_
  intro w4 B4 F4
  have B4':=B4.congr (HU.setT (s' := { s with ct:=s.pt,atl:=s.ptl,out:=⟨none,0,0⟩ }) 0 rfl rfl rfl (by decide))
  refine ⟨_,rfl,?_⟩
  simp only [add_mk,Nat.zero_add]
  refine st_u B4' rfl rfl ?_
  intro w5 B5 F5
  have B5':=B5.congr (HU.setT (s' := { s with atl:=s.ptl,out:=⟨none,0,0⟩ }) 15 rfl rfl rfl (by decide))
  refine ⟨_,rfl,?_⟩
  simp only [add_mk,Nat.zero_add]
  refine st_u B5' rfl rfl ?_
  intro w6 B6 F6
  have B6':=B6.congr (HU.setT (s' := { s with out:=⟨none,0,0⟩ }) 12 rfl rfl rfl (by decide))
  have F06:Fm w w6 (g::s.out.bs):=F3.trans ((F4.trans F5 (fun x hx => .inl hx)).trans F6 (fun x hx => .inl hx)) (by intro v hv;left;simp at hv;simp [hv])
  obtain ⟨Q6,M6⟩:=Q.comp (so:=⟨none,0,0⟩) F06 (by simp [Sl.bs]) VecU.nil B6'
  exact hk0 hE w6 _ _ v (((hv.fm F4 Q.g9l).fm F5 Q.g9l).fm F6 Q.g9l) rfl Q6 M6.go (Q.ptO F06 hP) (fun M1 ln1 L1 h=>Q.ctO F06 h)
 ·intro w3 o so ol hEn HV3 B3 hn3 F3 hh3
  refine ⟨_,rfl,?_⟩
  simp only [add_mk,Nat.zero_add]
  refine st_u B3 rfl rfl ?_
  intro w4 B4 F4
  have B4':=B4.congr (HU.setT (s' := { s with ct:=s.pt,atl:=s.ptl,out:=so }) 0 rfl rfl rfl (by decide))
  refine ⟨_,rfl,?_⟩
  simp only [add_mk,Nat.zero_add]
  refine st_u B4' rfl rfl ?_
  intro w5 B5 F5
  have B5':=B5.congr (HU.setT (s' := { s with atl:=s.ptl,out:=so }) 15 rfl rfl rfl (by decide))
  refine ⟨_,rfl,?_⟩
  simp only [add_mk,Nat.zero_add]
  refine st_u B5' rfl rfl ?_
  intro w6 B6 F6
  have B6':=B6.congr (HU.setT (s' := { s with out:=so }) 12 rfl rfl rfl (by decide))
  have F36:Fm w3 w6 [g]:=(F4.trans F5 (fun x hx => .inl hx)).trans F6 (fun x hx => .inl hx)
  have F06:Fm w w6 (g::s.out.bs):=F3.trans F36 (by intro v hv;left;simp at hv;simp [hv])
  have hgso:∀v∈so.bs,v ∉ [g]:=by
   intro v hv
   simp
   intro e
   subst e
   rcases hn3 v hv with h1|h1
   ·have:=Q.out2 v h1;rw [Q.cg] at this;cases this
   ·have:=Q.blk.lt;omega
  obtain ⟨Q6,M6⟩:=Q.comp (so:=so) F06 hn3 (HV3.fr F36 hgso) B6'
  exact hk1 w6 _ _ so ol hEn rfl Q6 M6.go (Q.ptO F06 hP) (fun M1 ln1 L1 h=>Q.ctO F06 h)
end
theorem mx_two {xs:List Nat} {m L:Nat} (hM:MX (fun i=>xs.count i) m L) (hby:By xs) (hm:m<xs.length):2≤L∧(∀i,L≤i→xs.count i=0)∧0<xs.count (L-1)∧∃a,a<L-1∧0<xs.count a:=by
 have h1:=hM.l1
 have hl:0<xs.count (L-1):=by have:xs.count (L-1)≠0:=hM.last;omega
 have hout:∀i,L≤i→xs.count i=0:=by
  intro i hi
  rcases Nat.lt_or_ge i 256 with h|h
  ·exact hM.out i h hi
  ·exact List.count_eq_zero.mpr (fun hh=>by have:=hby i hh;omega)
 have hle:xs.count (L-1)≤m:=hM.le (L-1) (by have:=hM.l256;omega)
 have hex:∃a,a<L-1∧0<xs.count a:=by
  refine Classical.byContradiction fun hn => ?_
  have hall:∀b∈xs,L-1=b:=by
   intro b hb
   have h2:0<xs.count b:=List.count_pos_iff.mpr hb
   have h3:b<L:=Classical.byContradiction fun h=>by have:=hout b (by omega);omega
   rcases Nat.lt_or_ge b (L-1) with h|h
   ·exact absurd ⟨b,h,h2⟩ hn
   ·omega
  have:=List.count_eq_length.mpr hall
  omega
 obtain ⟨a,ha,ha2⟩:=hex
 exact ⟨by omega,hout,hl,a,ha,ha2⟩
theorem c47 {w:World} {s0:Sl} {xs:List Nat} {K:Sl→PT} (A:Arr .u8 w s0 xs) (hxs:xs.length≤2^40) (hk:∀w' s',VecU w' s' xs→Fm w w' []→(∀b∈s'.bs,w.heap.size≤b)→K s' w') :
  callP Tryd.prog 47 #[.slice s0.a s0.l s0.c] [.c .S] K w:=by
 apply q47_ok
 unfold q47 nw
 have F1:Fm w (w.alloc (.cells ⟨[]⟩ 5)) []:=(Fm.refl w []).alloc
 have B1:Blk (w.alloc (.cells ⟨[]⟩ 5)) w.heap.size fun i=>(⟨[]⟩:Array Value)[i]? := Blk.new
 have V1:VecU (w.alloc (.cells ⟨[]⟩ 5)) ⟨some ⟨w.heap.size,0,none⟩,0,0⟩ []:=by
  refine ⟨⟨rfl,Nat.le_refl _,fun _=>rfl,?_⟩,?_,show (0:Nat)<2^63 by decide⟩
  ·intro a ha
   injection ha with ha
   subst ha
   exact ⟨rfl,rfl,_,B1,by simp [bytes],by simp⟩
  ·intro a ha i hi
   exact absurd hi (Nat.not_lt_zero _)
 have A1:=A.fr F1 (by simp)
 refine app_vu (xs:=xs) V1 A1.has (by rw [A.len];simp only;omega) ?_
 intro s' w' h1 h2 h3
 rw [List.nil_append] at h1
 have F2:Fm w w' []:=F1.trans h2 (by intro b hb;right;simp [Sl.bs] at hb;omega)
 refine hk w' s' h1 F2 ?_
 intro b hb
 rcases h3 b hb with h|h
 ·simp [Sl.bs] at h;omega
 ·rw [World.size_alloc] at h;omega
structure GE (w:World):Prop where
 gl:GL w
 ob:∀i,i<3→∃a c T,w.cell? ⟨i,0,none⟩=some (.iface 160 (.pointer (some a)))∧w.heap[a.block]? = some (.cells c T (0,0))
theorem GE.er {w:World} (G:GE w) {i:Nat} (hi:i<3):errAt w i:=by
 obtain ⟨a,c,T,h1,_⟩:=G.ob i hi
 exact ⟨_,h1,rfl,rfl⟩
theorem GE.fm {w w':World} (G:GE w) (F:Fm w w' []):GE w':=by
 refine ⟨G.gl.fm F (by simp),?_⟩
 intro i hi
 obtain ⟨a,c,T,h1,h2⟩:=G.ob i hi
 have hl:a.block<w.heap.size:=Classical.byContradiction fun h=>by rw [Array.getElem?_eq_none (by omega)] at h2;cases h2
 refine ⟨a,c,T,?_,by rw [F.old _ hl (by simp)];exact h2⟩
 rw [←h1]
 exact cell?_of_heap (F.old _ (World.block_lt_of_cell? _ _ h1) (by simp)) _ _
theorem und68:(match Tryd.prog.underlying 68 with|some (.interface _)=>true|_=>false)=true:=by kernel_rfl
theorem und160:(match Tryd.prog.underlying 160,Tryd.prog.info? 160 with|some (.pointer te),some i=>i.comparable&&(match Tryd.prog.info? te with|some j=>j.size != 0|none=>false)|_,_=>false)=true:=by kernel_rfl
theorem eq_pe {w:World} {a b:Addr} {ca cb:Array Value} {ta tb:TypeId} {κ:Bool→PT} (ha:w.heap[a.block]? = some (.cells ca ta (0,0))) (hb:w.heap[b.block]? = some (.cells cb tb (0,0))) (hk:∀r:Bool,(a=b→r=true)→κ r w) :
  eqE Cx 68 (.iface 160 (.pointer (some a))) (.iface 160 (.pointer (some b))) κ w:=by
 obtain ⟨ms,hi⟩:∃ms,Tryd.prog.underlying 68=some (.interface ms):=by
  have h:=und68
  split at h
  ·rename_i ms e;exact ⟨ms,e⟩
  ·cases h
 obtain ⟨te,i,j,hp,hinfo,hcomp,hte,hsz⟩:∃te i j,Tryd.prog.underlying 160=some (.pointer te)∧Tryd.prog.info? 160=some i∧i.comparable=true∧Tryd.prog.info? te=some j∧j.size≠0:=by
  have h:=und160
  split at h
  ·rename_i te i e1 e2
   rw [Bool.and_eq_true] at h
   obtain ⟨h1,h2⟩:=h
   split at h2
   ·rename_i j e3
    exact ⟨te,i,j,e1,e2,h1,e3,by simpa using h2⟩
   ·cases h2
  ·cases h
 unfold eqE
 by_cases e:a=b
 ·subst e
  refine ⟨true,?_,hk _ (fun _=>rfl)⟩
  have:=run_eql_iface_ptr_same (P:=Tryd.prog) w a hi hp hinfo hcomp hte
  simpa [eqGuard,show Cx.P=Tryd.prog from rfl] using this
 ·refine ⟨false,?_,hk _ (fun h=>absurd h e)⟩
  have:=run_eql_iface_ptr_other (P:=Tryd.prog) w hi hp hinfo hcomp hte hsz e ha hb
  simpa [eqGuard,show Cx.P=Tryd.prog from rfl] using this
theorem c51 {w:World} {v:Value} {K:Int→PT} (G:GE w) (h:ER w v) (hk:∀k:Int,1≤k→k≤4→(w.cell? ⟨0,0,none⟩=some v→k=1)→K k w):callP Tryd.prog 51 #[v] [.c (.I .i64)] K w:=by
 obtain ⟨a,c,T,rfl,ha⟩:∃a c T,v = .iface 160 (.pointer (some a))∧w.heap[a.block]? = some (.cells c T (0,0)):=by
  rcases h with ⟨⟨i,hi,h1⟩,_⟩|h
  ·obtain ⟨a,c,T,h2,h3⟩:=G.ob i hi
   rw [h2] at h1
   injection h1 with h1
   exact ⟨a,c,T,h1.symm,h3⟩
  ·exact h
 obtain ⟨a0,c0,T0,h00,h01⟩:=G.ob 0 (by decide)
 obtain ⟨a1,c1,T1,h10,h11⟩:=G.ob 1 (by decide)
 obtain ⟨a2,c2,T2,h20,h21⟩:=G.ob 2 (by decide)
 have key:∀ {r:Bool},(a=a0→r=true)→r=false→w.cell? ⟨0,0,none⟩=some (.iface 160 (.pointer (some a)))→∀k:Int,k=1:=by
  intro r h1 h2 h3 k
  rw [h00] at h3
  injection h3 with h3
  injection h3 with _ h3
  injection h3 with h3
  injection h3 with h3
  rw [h1 h3.symm] at h2
  cases h2
 apply q51_ok
 unfold q51
 refine ⟨rfl,fun h=>by simp [isNil] at h,fun _ => ?_⟩
 refine ld_c (t := .V) (x := .iface 160 (.pointer (some a0))) h00 ?_
 refine eq_pe ha h01 (fun r hr=>⟨fun _=>hk 1 (by decide) (by decide) (fun _=>rfl),fun hr0 => ?_⟩)
 refine ld_c (t := .V) (x := .iface 160 (.pointer (some a1))) h10 ?_
 refine eq_pe ha h11 (fun r _=>⟨fun _=>hk 2 (by decide) (by decide) (fun h=>key hr hr0 h 2),fun _ => ?_⟩)
 refine ld_c (t := .V) (x := .iface 160 (.pointer (some a2))) h20 ?_
 exact eq_pe ha h21 (fun r _=>⟨fun _=>hk 3 (by decide) (by decide) (fun h=>key hr hr0 h 3),fun _=>hk 4 (by decide) (by decide) (fun h=>key hr hr0 h 4)⟩)
theorem hf90:hasFn Tryd.prog 90=true:=by kernel_rfl
def colF (g:Nat):Nat→Nat:=fun v=>if v<9 then 0 else if v=g then 1 else 7
theorem HW.fresh {w w1:World} {s:HU} (G:GE w) (F:Fm w w1 []) (B:Blk w1 w.heap.size s.at) (h1:s.out=⟨none,0,0⟩) (h2:s.nodes=⟨none,0,0⟩) (h3:s.ct=⟨none,0,0⟩) (h4:s.pt=⟨none,0,0⟩) (h5:s.fse=none) (h6:s.maxC=0) (h7:∀i,i<256→s.count i=0):HW w1 w.heap.size s (colF w.heap.size):=by
 have h9:=G.gl.size
 have G1:=G.fm F
 refine ⟨B,?_,?_,?_,.inl ?_,?_,?_,.inl ?_,.inl h5,G1.gl,fun i hi=>G1.er hi,h6,.inr h7⟩
 ·unfold colF;rw [if_neg (by omega),if_pos rfl]
 ·intro v hv;unfold colF;rw [if_pos hv]
 ·rw [h1];exact ⟨⟨[],VecU.nil⟩,by simp [Sl.bs]⟩
 ·rw [h2];decide
 ·rw [h3];exact ⟨Own.none,by simp [Sl.bs]⟩
 ·rw [h4];exact ⟨Own.none,by simp [Sl.bs]⟩
 ·rw [h4]
theorem colF_far {g v:Nat} (h:v≠g):¬own (colF g v):=by
 unfold colF own
 by_cases hv:v<9
 ·rw [if_pos hv];omega
 ·rw [if_neg hv,if_neg h];omega
theorem colF_own {g v:Nat} (h:own (colF g v)):v=g:=Classical.byContradiction fun h1=>colF_far h1 h
section
variable {w:World}
def bitsL (ln:Nat→Nat) (xs:List Nat):Nat:=(xs.map ln).sum
theorem hE_bits (cd ln:Nat→Nat):∀xs,(hE cd ln xs).2=bitsL ln xs
 | []=>rfl
 | x::r=>by
  have h:=hE_bits cd ln r
  show (hE cd ln r).2+ln x=_
  rw [h]
  unfold bitsL
  rw [List.map_cons,List.sum_cons];omega
theorem bitsL_take {ln:Nat→Nat} {xs:List Nat} {i:Nat} (h:i<xs.length):bitsL ln (xs.take (i+1))=bitsL ln (xs.take i)+ln xs[i]:=sum_take h
theorem bitsL_le {ln:Nat→Nat} {xs:List Nat} (i:Nat) (h:∀x∈xs,ln x≤11):bitsL ln (xs.take i)≤i*11:=sum_take_le ln xs 11 i h
theorem c28 {b:Nat} {s1:Sl} {xs:List Nat} {f:Nat→Int} {ln:Nat→Nat} {K:Int→PT} (B:Blk w b (arrC .i64 256 f)) (A:Arr .u8 w s1 xs) (hby:By xs) (hl:xs.length≤2^30) (hf:∀x∈xs,f x=(ln x:Nat)∧0<ln x∧ln x≤11) (hk:K ((bitsL ln xs:Nat):Int) w) :
  callP Tryd.prog 28 #[.slice (some ⟨b,0,none⟩) 256 256,.slice s1.a s1.l s1.c] [.c (.I .i64)] K w:=by
 apply q28_ok (s0:=⟨some ⟨b,0,none⟩,256,256⟩)
 unfold q28
 refine joinP_id ?_
 have hsl:=A.len
 refine ⟨fun x w'=>∃i:Nat,x=(((bitsL ln (xs.take i):Nat):Int),(i:Int))∧i≤xs.length∧w'=w,fun x _=>xs.length-x.2.toNat,⟨0,by simp [bitsL],Nat.zero_le _,rfl⟩,?_⟩
 rintro x w1 ⟨i,rfl,hi,rfl⟩
 unfold q28_L0
 simp only
 refine cnd_d ?_ ?_
 ·intro hc
  have hi2:i<xs.length:=by omega
  obtain ⟨h1,h2,h3⟩:=hf _ (List.getElem_mem hi2)
  have hx:=hby _ (List.getElem_mem hi2)
  refine A.ldk i rfl hi2 ?_
  intro p hp
  refine ld_c (t := .I .u8) (x:=((xs[i]:Nat):Int)) hp ?_
  rw [wI64 (x:=((xs[i]:Nat):Int)) (by omega) (by omega)]
  refine cnd_d (fun h=>absurd h (by first|omega|(dsimp only;omega)|(simp only [];omega))) (fun _ => ?_)
  have hcell:arrC .i64 256 f xs[i]=some (.int .i64 ((ln xs[i]:Nat):Int)):=by rw [arrC_get hx,h1]
  refine ixS_o rfl hx ?_
  rw [Nat.zero_add]
  refine ld_b (t := .I .i64) (x:=((ln xs[i]:Nat):Int)) B hcell ?_
  refine cnd_d (fun h=>absurd h (by omega)) (fun _ => ?_)
  refine ixS_o rfl hx ?_
  rw [Nat.zero_add]
  refine ld_b (t := .I .i64) (x:=((ln xs[i]:Nat):Int)) B hcell ?_
  have hb:=bitsL_le (ln:=ln) (xs:=xs) i (fun x hx=>(hf x hx).2.2)
  rw [wI64 (by omega) (by omega),wI64 (by omega) (by omega)]
  refine ⟨⟨i+1,?_,hi2,rfl⟩,by first|omega|(dsimp only;omega)|(simp only [];omega)⟩
  rw [bitsL_take hi2,Prod.mk.injEq]
  exact ⟨by omega,by first|omega|(dsimp only;omega)⟩
 ·intro hc
  have hi2:i=xs.length:=by omega
  subst hi2
  unfold q28_J1
  rw [List.take_length]
  exact hk
theorem c30 {s0:Sl} {xs:List Nat} {K:Sl→PT} (A:Arr .u8 w s0 xs) (hby:By xs) (hl:xs.length≤2^30) (hk:∀w' b,Fm w w' []→w.heap.size≤b→Blk w' b (arrC .u32 256 fun i=>(xs.count i:Nat))→K ⟨some ⟨b,0,none⟩,256,256⟩ w') :
  callP Tryd.prog 30 #[.slice s0.a s0.l s0.c] [.c .S] K w:=by
 apply q30_ok
 unfold q30
 refine mks1 (k := .u32) (v:=0) (n:=256) rfl rfl (by omega) ?_
 intro w1 F1 hs1 B1
 have A1:=A.fr F1 (by simp)
 have hne:∀a,s0.a=some a→xs ≠ []→a.block ∉ [w.heap.size]:=by
  intro a ha hx
  have:=A.old hx a ha
  simp;omega
 have hsz:w.heap.size≤w.heap.size:=Nat.le_refl _
 generalize hpe:w.heap.size=p at *
 have hsl:=A.len
 refine joinP_id ?_
 refine ⟨fun x w'=>∃i:Nat,x=(i:Int)∧i≤xs.length∧Blk w' p (arrC .u32 256 fun j=>((xs.take i).count j:Nat))∧Fm w1 w' [p],fun x _=>xs.length-x.toNat,⟨0,rfl,Nat.zero_le _,B1.congr (by simp),Fm.refl _ _⟩,?_⟩
 rintro x w2 ⟨i,rfl,hi,B2,F2⟩
 have A2:=A1.fr F2 hne
 unfold q30_L0
 refine cnd_d ?_ ?_
 ·intro hc
  have hi2:i<xs.length:=by omega
  have hx:=hby _ (List.getElem_mem hi2)
  refine A2.ldk i rfl hi2 ?_
  intro q hq
  refine ld_c (t := .I .u8) (x:=((xs[i]:Nat):Int)) hq ?_
  refine ixS_o rfl hx ?_
  rw [Nat.zero_add]
  refine ld_b (t := .I .u32) (x:=(((xs.take i).count xs[i]:Nat):Int)) B2 (by rw [arrC_get hx];rfl) ?_
  refine ixS_o rfl hx ?_
  rw [Nat.zero_add]
  refine st_u B2 (by rw [arrC_get hx];rfl) rfl ?_
  intro w3 B3 F3
  have hcl:(xs.take i).count xs[i]≤xs.length:=Nat.le_trans List.count_le_length (by rw [List.length_take];omega)
  rw [wU32 (by omega) (by omega),arrC_upd hx] at B3
  rw [wI64 (by omega) (by omega)]
  refine ⟨⟨i+1,by simp,hi2,B3.congr ?_,F2.trans F3 (fun x hx => .inl hx)⟩,by first|omega|(dsimp only;omega)⟩
  congr 1
  funext j
  unfold updF
  have hcnt:(xs.take (i+1)).count j=(xs.take i).count j+if xs[i]=j then 1 else 0:=by
   rw [List.take_succ_eq_append_getElem hi2,List.count_append,List.count_singleton]
   by_cases e:xs[i]=j
   ·rw [if_pos e,if_pos (by simpa using e)]
   ·rw [if_neg e,if_neg (by simpa using e)]
  by_cases e:j=xs[i]
  ·subst e
   rw [if_pos rfl] at hcnt
   rw [if_pos rfl,hcnt];omega
  ·rw [if_neg (fun h=>e h.symm)] at hcnt
   rw [if_neg e,hcnt];rfl
 ·intro hc
  have hi2:i=xs.length:=by omega
  subst hi2
  unfold q30_J1
  rw [List.take_length] at B2
  refine hk w2 p (F1.trans F2 (by intro v hv;right;simp at hv;omega)) hsz B2
end
def lnx (L:Nat) (ln:Nat→Nat) (i:Nat):Nat:=if i<L then ln i else 0
theorem lnx_lt {L i:Nat} {ln:Nat→Nat} (h:i<L):lnx L ln i=ln i:=if_pos h
theorem lnx_ge {L i:Nat} {ln:Nat→Nat} (h:L≤i):lnx L ln i=0:=if_neg (by omega)
theorem sF_z {g:Nat→Nat} {a:Nat} : ∀ {n:Nat},(∀i,a≤i→i<a+n→g i=0)→sF g a n=0
 | 0,_=>rfl
 | n+1,h=>by rw [sF,sF_z (fun i h1 h2=>h i h1 (by omega)),h (a+n) (by omega) (by omega)]
section
variable {xs tbl:List Nat} {M L:Nat} {ln:Nat→Nat}
theorem bitsL_congr {f h:Nat→Nat} (e:∀x∈xs,f x=h x):bitsL f xs=bitsL h xs:=by
 unfold bitsL
 rw [List.map_congr_left e]
end
end Go.Sx
namespace Go.Sx
open Go Go.Proofs Go.ChangeShapes Go.WideShapes Go.ChangeAt Go.RowKit Go.Proofs.YtlnhldlhmplphaaDoor
set_option maxRecDepth 100000
def mask32:List Int := [0,1,3,7,15,31,63,127,255,511,1023,2047,4095,8191,16383,32767,65535,65535,65535,65535,65535,65535,65535,65535,65535,65535,0,0,0,0,0,0]
def laid0:List (String×DataW Unit) := [("pub-pemmican/pub/compress/fse.bitMask16",Rows.laid_pub_pemmican_pub_compress_fse_bitMask16),("pub-pemmican/pub/compress/fse.rtbTable",Rows.laid_pub_pemmican_pub_compress_fse_rtbTable),("pub-pemmican/pub/compress/fse.ErrIncompressible",Rows.laid_pub_pemmican_pub_compress_fse_ErrIncompressible),("pub-pemmican/pub/compress/fse.ErrUseRLE",Rows.laid_pub_pemmican_pub_compress_fse_ErrUseRLE),("pub-pemmican/pub/compress/huff0.ErrIncompressible",Rows.laid_pub_pemmican_pub_compress_huff0_ErrIncompressible),("pub-pemmican/pub/compress/huff0.ErrUseRLE",Rows.laid_pub_pemmican_pub_compress_huff0_ErrUseRLE),("pub-pemmican/pub/compress/huff0.ErrTooBig",Rows.laid_pub_pemmican_pub_compress_huff0_ErrTooBig)]
theorem ge_of_laid {W:World} (h:laidMetH Tryd.prog laid0 W):GE W:=by
 rw [MakeChecks.laidMetH_plain _ _ _ (by kernel_rfl)] at h
 have e0:=err_of_laid h (.tail _ (.tail _ (.tail _ (.tail _ (.head _))))) (g:=0) (by kernel_rfl) (by kernel_rfl)
 have e1:=err_of_laid h (.tail _ (.tail _ (.tail _ (.tail _ (.tail _ (.head _)))))) (g:=1) (by kernel_rfl) (by kernel_rfl)
 have e2:=err_of_laid h (.tail _ (.tail _ (.tail _ (.tail _ (.tail _ (.tail _ (.head _))))))) (g:=2) (by kernel_rfl) (by kernel_rfl)
 have e3:=err_of_laid h (.tail _ (.tail _ (.head _))) (g:=3) (by kernel_rfl) (by kernel_rfl)
 have e4:=err_of_laid h (.tail _ (.tail _ (.tail _ (.head _)))) (g:=4) (by kernel_rfl) (by kernel_rfl)
 have em:=nums_of_laid (zs:=mask32) (k := .u16) (t:=240) (e:=81) (m:=32) h (.head _) (g:=8) (by kernel_rfl) (by kernel_rfl) (by kernel_rfl) (by kernel_rfl) (by kernel_rfl) rfl
 have er:=nums_of_laid (zs:=rtbZ) (k := .u32) (t:=207) (e:=79) (m:=8) h (.tail _ (.head _)) (g:=6) (by kernel_rfl) (by kernel_rfl) (by kernel_rfl) (by kernel_rfl) (by kernel_rfl) rfl
 have ee:∀ {g:Nat},(∃a c T,W.cell? ⟨g,0,none⟩=some (.iface 160 (.pointer (some a)))∧W.heap[a.block]? = some (.cells c T (0,0)))→errAt W g:=fun ⟨a,c,T,h1,_⟩=>⟨_,h1,rfl,rfl⟩
 refine ⟨⟨ee e3,ee e4,?_,?_⟩,?_⟩
 ·intro k hk
  exact er k hk
 ·intro n hn
  rw [em n (by omega)]
  have:∀m:Fin 17,mask32.getD (m:Nat) 0=((2^(m:Nat)-1:Nat):Int):=by decide
  rw [this ⟨n,by omega⟩]
 ·intro i hi
  have:i=0∨i=1∨i=2:=by omega
  rcases this with rfl|rfl|rfl
  ·exact e0
  ·exact e1
  ·exact e2
theorem bytes_in {H:Type} {enc:TypeId×Value→H} {W:World} {v:Value} {d:DataW H} {p:List MemPlace} (h:DataW.Trod enc Tryd.prog W 0 (fun _=>true) true 22 v d p) (hv:∃a l c,v = .slice a l c) :
  ∃(s:Sl) (xs:List Nat),v = .slice s.a s.l s.c∧Arr .u8 W s xs∧By xs:=by
 obtain ⟨n,hn⟩:=h
 obtain ⟨a0,l0,c0,rfl⟩:=hv
 rcases open_ints Tryd.underlying22 Tryd.underlying5 (by kernel_rfl) hn with ⟨e,_⟩|⟨a,len,cap,zs,e,_,hl,_,hzl,_,hcell,hwf⟩
 ·have e:Value.slice a0 l0 c0 = .slice none 0 0:=by simpa [Value.cells] using e
  injection e with e1 e2 e3
  subst e1 e2 e3
  exact ⟨⟨none,0,0⟩,[],rfl,⟨rfl,Nat.le_refl _,fun _=>rfl,(by intro b hb;cases hb)⟩,by intro x hx;cases hx⟩
 ·have e:Value.slice a0 l0 c0 = .slice (some a) len cap:=by simpa [Value.cells] using e
  injection e with e1 e2 e3
  subst e1 e2 e3
  simp only [if_true] at hzl
  have hz:∀i (hi:i<zs.length),0≤zs[i]∧zs[i]<256:=by
   intro i hi
   have:=bounds_u8 (hwf _ (List.getElem_mem hi))
   omega
  refine ⟨⟨some a,l0,c0⟩,(zs.take l0).map Int.toNat,rfl,⟨?_,hl,(fun h=>by cases h),?_⟩,?_⟩
  ·rw [List.length_map,List.length_take];simp only;omega
  ·intro b hb i hi
   injection hb with hb
   subst hb
   rw [List.length_map,List.length_take] at hi
   have hi2:i<zs.length:=by omega
   rw [hcell i hi2]
   have h1:=hz i hi2
   have h2:zs.getD i 0=zs[i]:=by rw [List.getD_eq_getElem?_getD,List.getElem?_eq_getElem hi2];rfl
   rw [h2,List.getElem_map,List.getElem_take,Int.toNat_of_nonneg h1.1]
  ·intro x hx
   obtain ⟨z,hz1,rfl⟩:=List.mem_map.mp hx
   obtain ⟨i,hi,e⟩:=List.mem_iff_getElem.mp (List.mem_of_mem_take hz1)
   have:=hz i hi
   rw [e] at this
   omega
theorem slice_in {H:Type} {enc:TypeId×Value→H} {W:World} {t e:TypeId} {v:Value} {d:DataW H} {p:List MemPlace} {base:Nat} (ht:Tryd.prog.underlying t=some (.slice e)) (ok:Value.okWide Tryd.prog W .any base t v) (h:DataW.Trod enc Tryd.prog W 0 (fun _=>true) true t v d p):∃a l c,v = .slice a l c:=by
 unfold Value.okWide at ok
 simp only [ht] at ok
 unfold Cell.okWide at ok
 cases v<;>simp [Value.cells,Cell.ok,ht] at ok ⊢
theorem door_met (os:Os) (args:Array Value):laidMetH Tryd.prog laid0 ((World.doorLaid Tryd.prog 4000 os).forCall (fun _ _=>0) ⟨#[],args,[]⟩).memory :=
 laidMetH_of_parts3 (fuel:=8) (laidMet_of_run' 8 (by kernel_rfl) (by kernel_rfl)) (by kernel_rfl) (by kernel_rfl)
end Go.Sx
namespace Go.Sx
open Go Go.Proofs
set_option maxRecDepth 4000
theorem Srt.uniq {cnt:Nat→Nat} {L:Nat} {l l':List Nat} (h:Srt cnt L l) (h':Srt cnt L l'):l=l':=by
 refine List.Perm.eq_of_pairwise ?_ h.dec h'.dec ((List.perm_ext_iff_of_nodup h.nd h'.nd).mpr fun a=>(h.mem a).trans (h'.mem a).symm)
 intro a b _ _ h1 h2
 omega
theorem Ord.uniq {cnt σ:Nat→Nat} {L N N':Nat} (h:Ord cnt L N σ) (h':Ord cnt L N' σ):N=N':=by
 have key:∀ {A B:Nat},Ord cnt L A σ→Ord cnt L B σ→B≤A:=by
  intro A B hA hB
  apply Classical.byContradiction
  intro hlt
  have hAB:A<B:=by omega
  obtain ⟨j,hj,e⟩:=hA.onto (σ A) (hB.lt A hAB) (hB.pos A hAB)
  have:=hB.inj j A (by omega) hAB e
  omega
 have h1:=key h h'
 have h2:=key h' h
 omega
theorem Pick.uniq {c:Nat→Nat} {k lo hi x lo1 hi1 x' lo1' hi1':Nat} (h:Pick c k lo hi x lo1 hi1) (h':Pick c k lo hi x' lo1' hi1'):x=x'∧lo1=lo1'∧hi1=hi1':=by
 rcases h with ⟨a1,a2,a3,a4,a5⟩|⟨a1,a2,a3,a4,a5⟩<;>rcases h' with ⟨b1,b2,b3,b4,b5⟩|⟨b1,b2,b3,b4,b5⟩
 ·exact ⟨by omega,by omega,by omega⟩
 ·have:=a5 b2;have:=b5 a2;omega
 ·have:=b5 a2;have:=a5 b2;omega
 ·exact ⟨by omega,by omega,by omega⟩
theorem TrR.ge {N L:Nat} {c0 c p:Nat→Nat} {k lo hi:Nat} (h:TrR N L c0 c p k lo hi):L+1≤k:=by
 induction h with
 | start=>exact Nat.le_refl _
 | step _ _ _ ih=>omega
theorem TrR.inv {N L:Nat} {c0 c p:Nat→Nat} {k lo hi:Nat} (h:TrR N L c0 c p k lo hi):(k=L+1∧c=updN c0 L (c0 (N-1)+c0 (N-2))∧p=updN (updN (fun _=>0) (N-1) L) (N-2) L∧lo=N-2∧hi=L) ∨
  ∃(c1 p1:Nat→Nat) (k1 lo0 hi0 x1 lo1 hi1 x2:Nat),TrR N L c0 c1 p1 k1 lo0 hi0∧Pick c1 k1 lo0 hi0 x1 lo1 hi1∧Pick c1 k1 lo1 hi1 x2 lo hi∧c=updN c1 k1 (c1 x1+c1 x2)∧p=updN (updN p1 x1 k1) x2 k1∧k=k1+1:=by
 cases h with
 | start=>exact .inl ⟨rfl,rfl,rfl,rfl,rfl⟩
 | step h1 h2 h3=>exact .inr ⟨_,_,_,_,_,_,_,_,_,h1,h2,h3,rfl,rfl,rfl⟩
theorem TrR.uniq {N L:Nat} {c0 c p:Nat→Nat} {k lo hi:Nat} (h:TrR N L c0 c p k lo hi):∀ {c' p':Nat→Nat} {lo' hi':Nat},TrR N L c0 c' p' k lo' hi'→c=c'∧p=p'∧lo=lo'∧hi=hi':=by
 induction h with
 | start =>
  intro c' p' lo' hi' h'
  rcases h'.inv with ⟨_,h1,h2,h3,h4⟩|⟨c1,p1,k1,lo0,hi0,x1,lo1,hi1,x2,h1,_,_,_,_,h5⟩
  ·exact ⟨h1.symm,h2.symm,h3.symm,h4.symm⟩
  ·have:=h1.ge;omega
 | @step c p k lo hi x1 lo1 hi1 x2 lo2 hi2 h1 h2 h3 ih =>
  intro c' p' lo' hi' h'
  rcases h'.inv with ⟨h5,_⟩|⟨c1,p1,k1,lo0,hi0,y1,m1,n1,y2,g1,g2,g3,rfl,rfl,h5⟩
  ·have:=h1.ge;omega
  ·have hk:k1=k:=by omega
   subst hk
   obtain ⟨rfl,rfl,rfl,rfl⟩:=ih g1
   obtain ⟨rfl,rfl,rfl⟩:=h2.uniq g2
   obtain ⟨rfl,rfl,rfl⟩:=h3.uniq g3
   exact ⟨rfl,rfl,rfl,rfl⟩
theorem DepP.uniqI {N L tot:Nat} {c p D D':Nat→Nat} (T:TreeP N L tot c p) (E:DepP N L p D) (E':DepP N L p D'):∀n v,L≤v→v≤L+N-2→L+N-2-v≤n→D v=D' v
 | 0,v,h1,h2,h3=>by
  have e:v=L+N-2:=by omega
  rw [e,E.root,E'.root]
 | n+1,v,h1,h2,h3=>by
  by_cases e:v=L+N-2
  ·rw [e,E.root,E'.root]
  ·have hp:=T.pin v h1 (by omega)
   rw [E.inn v h1 (by omega),E'.inn v h1 (by omega),DepP.uniqI T E E' n (p v) (by omega) hp.2 (by omega)]
theorem DepP.uniq {N L tot:Nat} {c p D D':Nat→Nat} (T:TreeP N L tot c p) (E:DepP N L p D) (E':DepP N L p D') {i:Nat} (hi:i<N):D i=D' i:=by
 have hp:=T.pl i hi
 rw [E.leaf i hi,E'.leaf i hi,DepP.uniqI T E E' (L+N) (p i) hp.1 hp.2 (by omega)]
section
variable {H N:Nat} {b b' rk rk' cn cn':Nat→Nat}
theorem RL.uniq (hN:N≤256) (h:RL H N b rk) (h':RL H N b' rk') (e:∀i,i<N→b i=b' i) {r:Nat} (h1:1≤r) (h2:r≤12):rk r=rk' r:=by
 rcases h r h1 h2 with ⟨a1,a2⟩|⟨a1,a2,a3⟩<;>rcases h' r h1 h2 with ⟨b1,b2⟩|⟨b1,b2,b3⟩
 ·rw [a1,b1]
 ·exact absurd (by rw [e _ b1];exact b2) (a2 _ b1)
 ·exact absurd (by rw [←e _ a1];exact a2) (b2 _ a1)
 ·rcases Nat.lt_trichotomy (rk r) (rk' r) with h3|h3|h3
  ·exact absurd (by rw [e _ b1];exact b2) (a3 _ h3 b1)
  ·exact h3
  ·exact absurd (by rw [←e _ a1];exact a2) (b3 _ h3 a1)
theorem RL.rng (h:RL H N b rk) {r:Nat} (h1:1≤r) (h2:r≤12):rk r=noS∨rk r<N:=by
 rcases h r h1 h2 with ⟨a1,_⟩|⟨a1,_⟩
 ·exact .inl a1
 ·exact .inr a1
theorem dnK_congr (hr:∀r,1≤r→r≤12→rk r=rk' r) (hv:∀r,1≤r→r≤12→rk r=noS∨rk r<N) (hc:∀i,i<N→cn i=cn' i):∀k,k≤12→dnK cn rk k=dnK cn' rk' k
 | 0,_=>rfl
 | 1,_=>rfl
 | k+2,h=>by
  rw [dnK,dnK, ←hr (k+2) (by omega) h, ←hr (k+1) (by omega) (by omega),dnK_congr hr hv hc (k+1) (by omega)]
  by_cases h1:rk (k+2)=noS
  ·rw [if_pos h1,if_pos h1]
  ·rw [if_neg h1,if_neg h1]
   by_cases h2:rk (k+1)=noS
   ·rw [if_pos h2,if_pos h2]
   ·rw [if_neg h2,if_neg h2]
    have g1:=(hv (k+2) (by omega) h).resolve_left h1
    have g2:=(hv (k+1) (by omega) (by omega)).resolve_left h2
    rw [hc _ g1,hc _ g2]
theorem dnK_ge {cn rk:Nat→Nat} : ∀k,1≤k→1≤dnK cn rk k
 | 0,h=>by omega
 | 1,_=>Nat.le_refl _
 | k+2,_=>by
  have:=dnK_ge (cn:=cn) (rk:=rk) (k+1) (by omega)
  rw [dnK]
  split
  ·exact this
  ·split
   ·omega
   ·split
    ·omega
    ·exact this
theorem upK_congr (hr:∀r,1≤r→r≤12→rk r=rk' r):∀f k,1≤k→upK rk f k=upK rk' f k
 | 0,_,_=>rfl
 | f+1,k,h=>by
  rw [upK,upK,upK_congr hr f (k+1) (by omega)]
  by_cases h1:k≤11
  ·rw [hr k h (by omega)]
  ·rw [if_neg (fun h=>h1 h.1),if_neg (fun h=>h1 h.1)]
theorem PayR.inv {H N:Nat} {cn b b':Nat→Nat} {tc tc':Int} (h:PayR H N cn b tc b' tc'):(tc≤0∧b'=b∧tc'=tc) ∨
  ∃(rk:Nat→Nat) (k:Nat),0<tc∧tc.toNat.log2<8∧RL H N b rk∧1≤k∧k≤12∧k=upJ rk (dnK cn rk (tc.toNat.log2+1))∧PayR H N cn (updN b (rk k) (b (rk k)+1)) (tc-((2^(k-1):Nat):Int)) b' tc':=by
 cases h with
 | stop h=>exact .inl ⟨h,rfl,rfl⟩
 | step h1 h2 h3 h4 h5 h6 h7=>exact .inr ⟨_,_,h1,h2,h3,h4,h5,h6,h7⟩
theorem PayR.uniq (hN:N≤256) (hc:∀i,i<N→cn i=cn' i) {tc t1:Int} {b1:Nat→Nat} (h:PayR H N cn b tc b1 t1):∀ {b' b2:Nat→Nat} {t2:Int},PayR H N cn' b' tc b2 t2→(∀i,i<N→b i=b' i)→t1=t2∧∀i,i<N→b1 i=b2 i:=by
 induction h with
 | stop h0 =>
  intro b' b2 t2 h' e
  rcases h'.inv with ⟨_,rfl,rfl⟩|⟨_,_,h1,_⟩
  ·exact ⟨rfl,e⟩
  ·omega
 | @step b rk b1 tc t1 k h1 h2 h3 h4 h5 h6 h7 ih =>
  intro b' b2 t2 h' e
  rcases h'.inv with ⟨g1,_⟩|⟨rk',k',g1,g2,g3,g4,g5,g6,g7⟩
  ·omega
  ·have hr:∀r,1≤r→r≤12→rk r=rk' r:=fun r h1 h2=>h3.uniq hN g3 e h1 h2
   have hk:k=k':=by
    rw [h6,g6,dnK_congr hr (fun r h1 h2=>h3.rng h1 h2) hc _ (by omega)]
    exact upK_congr hr _ _ (dnK_ge _ (by omega))
   subst hk
   rw [←hr k h4 h5] at g7
   refine ih g7 ?_
   intro i hi
   unfold updN
   by_cases e1:i=rk k
   ·rw [if_pos e1,if_pos e1,e _ (by omega)]
   ·rw [if_neg e1,if_neg e1];exact e i hi
theorem BackR.inv {H N:Nat} {b b':Nat→Nat} {tc:Int} (h:BackR H N b tc b'):(0≤tc∧b'=b)∨∃q,tc<0∧q<N∧b q=H∧(∀i,i<q→b i+1≤H)∧BackR H N (updN b q (H-1)) (tc+1) b':=by
 cases h with
 | stop h=>exact .inl ⟨h,rfl⟩
 | step h1 h2 h3 h4 h5=>exact .inr ⟨_,h1,h2,h3,h4,h5⟩
theorem BackR.uniq {tc:Int} {b1:Nat→Nat} (h:BackR H N b tc b1):∀ {b' b2:Nat→Nat},BackR H N b' tc b2→(∀i,i<N→b i=b' i)→∀i,i<N→b1 i=b2 i:=by
 induction h with
 | stop h0 =>
  intro b' b2 h' e
  rcases h'.inv with ⟨_,rfl⟩|⟨_,h1,_⟩
  ·exact e
  ·omega
 | @step b b1 tc q h1 h2 h3 h4 h5 ih =>
  intro b' b2 h' e
  rcases h'.inv with ⟨g1,_⟩|⟨q',g1,g2,g3,g4,g5⟩
  ·omega
  ·have hq:q=q':=by
    rcases Nat.lt_trichotomy q q' with h|h|h
    ·have:=g4 q h;rw [←e q h2] at this;omega
    ·exact h
    ·have:=h4 q' h;rw [e q' g2] at this;omega
   subst hq
   refine ih g5 ?_
   intro i hi
   unfold updN
   by_cases e1:i=q
   ·rw [if_pos e1,if_pos e1]
   ·rw [if_neg e1,if_neg e1];exact e i hi
theorem MaxR.uniq {D D':Nat→Nat} {M M':Nat} (hn:1≤N) (hN:N≤256) (h:MaxR H N cn D M b) (h':MaxR H N cn' D' M' b') (hc:∀i,i<N→cn i=cn' i) (hD:∀i,i<N→D i=D' i):M=M'∧∀i,i<N→b i=b' i:=by
 have e1:=hD (N-1) (by omega)
 have ecut:∀i,i<N→cutD H D i=cutD H D' i:=fun i hi=>by unfold cutD;rw [hD i hi]
 rcases h with ⟨a1,a2,a3⟩|⟨a1,a2,tc,b7,t7,a3,a4,a5⟩<;>rcases h' with ⟨c1,c2,c3⟩|⟨c1,c2,tc',b7',t7',c3,c4,c5⟩
 ·subst a3 c3
  exact ⟨by omega,hD⟩
 ·omega
 ·omega
 ·have ek:krS H (cutD H D) N=krS H (cutD H D') N:=sF_congr (fun i _ hi=>by rw [ecut i (by omega)])
  have et:tc'=tc:=by omega
  subst et
  obtain ⟨rfl,h7⟩:=a4.uniq hN hc c4 ecut
  exact ⟨by omega,a5.uniq c5 h7⟩
end
theorem lnS_congr {σ b b':Nat→Nat} : ∀ {N:Nat},(∀i,i<N→b i=b' i)→lnS σ b N=lnS σ b' N
 | 0,_=>rfl
 | n+1,h=>by rw [lnS,lnS,lnS_congr (fun i hi=>h i (by omega)),h n (by omega)]
theorem LenR.uniq {cnt:Nat→Nat} {L n t M M':Nat} {ln ln':Nat→Nat} (h:LenR cnt L n t M ln) (h':LenR cnt L n t M' ln'):M=M'∧ln=ln':=by
 obtain ⟨l,N,c,p,D,b,cn,lo,hi,tot,S,O,Tr,T,E,hcn,P,R,rfl⟩:=h
 obtain ⟨l',N',c',p',D',b',cn',lo',hi',tot',S',O',Tr',T',E',hcn',P',R',rfl⟩:=h'
 obtain rfl:=S.uniq S'
 obtain rfl:=O.uniq O'
 obtain ⟨rfl,rfl,_,_⟩:=Tr.uniq Tr'
 have hD:∀i,i<N→D i=D' i:=fun i hi=>E.uniq T E' hi
 obtain ⟨e1,e2⟩:=R.uniq P.n1 P.n2 R' (fun i hi=>(hcn i hi).trans (hcn' i hi).symm) hD
 exact ⟨e1,lnS_congr e2⟩
def scN (k v:Nat):Nat:=(v+(2^k-1))/2^k
theorem scN_zero (v:Nat):scN 0 v=v:=by simp [scN]
theorem scN_pos {k v:Nat} : 0<scN k v↔0<v:=by
 have hp:=Nat.two_pow_pos k
 unfold scN
 rw [Nat.div_pos_iff]
 omega
theorem scN_le (k v:Nat):scN k v≤v/2^k+1:=by
 have hp:=Nat.two_pow_pos k
 unfold scN
 rw [←Nat.add_div_right _ hp]
 exact Nat.div_le_div_right (by omega)
def SHk (S k:Nat):Prop:=S/2^k≤262143∧∀j,j<k→262143<S/2^j
theorem SHk.uniq {S k k':Nat} (h:SHk S k) (h':SHk S k'):k=k':=by
 rcases Nat.lt_trichotomy k k' with h1|h1|h1
 ·have:=h'.2 k h1;have:=h.1;omega
 ·exact h1
 ·have:=h.2 k' h1;have:=h'.1;omega
theorem scN_sum (cnt:Nat→Nat) (k:Nat):∀n,sF (fun i=>scN k (cnt i)) 0 n≤sF cnt 0 n/2^k+n
 | 0=>Nat.zero_le _
 | n+1=>by
  have h1:=scN_sum cnt k n
  have h2:=scN_le k (cnt n)
  have hp:=Nat.two_pow_pos k
  rw [sF,sF,Nat.zero_add]
  have h3:sF cnt 0 n/2^k+cnt n/2^k≤(sF cnt 0 n+cnt n)/2^k:=by
   rw [Nat.le_div_iff_mul_le hp,Nat.add_mul]
   exact Nat.add_le_add (Nat.div_mul_le_self _ _) (Nat.div_mul_le_self _ _)
  omega
theorem sF_two {g:Nat→Nat} {a b n:Nat} (hab:a≠b) (ha:a<n) (hb:b<n):g a+g b≤sF g 0 n:=by
 have h6:sF (updN g a 0) 0 n+g a=sF g 0 n+0:=sF_upd (fun x=>x) g a 0 n ha
 have h7:=sF_mem (updN g a 0) 0 (n:=n) (i:=b) (Nat.zero_le _) (by omega)
 rw [updN_ne (fun e=>hab e.symm)] at h7
 omega
theorem cpy_b {w:World} {sz da dl dc sb sl sc n:Nat} {D Fs:Cells} {κ:Int→PT} (hd:Blk w da D) (hs:Blk w sb Fs) (hn:Nat.min sl dl=n) (h1:∀i,i<n*sz→∃v,Fs i=some v∧one v=true) (h2:∀i,i<n*sz→(D i).isSome)
  (hk:∀w',Blk w' da (fun i=>if i<n*sz then Fs i else D i)→Fm w w' [da]→κ ((n:Nat):Int) w'):cpy sz ⟨some ⟨da,0,none⟩,dl,dc⟩ ⟨some ⟨sb,0,none⟩,sl,sc⟩ κ w:=by
 have hx:∀i,i<n*sz→Fs i=some ((Fs i).getD default):=by
  intro i hi
  obtain ⟨v,h,_⟩:=h1 i hi
  rw [h];rfl
 have hl:((List.range (n*sz)).map fun i=>(Fs i).getD default).length=n*sz:=by simp
 have hget:∀i,i<n*sz→((List.range (n*sz)).map fun i=>(Fs i).getD default)[i]? = Fs i:=by
  intro i hi
  rw [List.getElem?_map,List.getElem?_range hi]
  exact (hx i hi).symm
 refine ⟨(List.range (n*sz)).map fun i=>(Fs i).getD default,by rw [hl,hn],?_,(fun h=>by cases h),?_,?_⟩
 ·intro b hb i hi
  injection hb with hb
  subst hb
  rw [hl] at hi
  rw [add_mk,Nat.zero_add,hs.cell,hget i hi]
 ·intro v hv
  obtain ⟨i,hi,rfl⟩:=List.mem_map.mp hv
  obtain ⟨v,h,h'⟩:=h1 i (List.mem_range.mp hi)
  rw [h];exact h'
 ·refine ⟨?_,?_⟩
  ·intro i hi
   rw [hl] at hi
   rw [add_mk,Nat.zero_add]
   exact canSt_b hd (h2 i hi)
  ·rw [hn]
   refine hk _ ((hd.setL (fun i hi=>by rw [Nat.zero_add];exact h2 i (by rw [hl] at hi;exact hi))).congr ?_) ((Fm.refl w _).setL (.inl (by simp)))
   funext i
   unfold updL
   rw [hl,Nat.sub_zero,Nat.zero_add]
   by_cases hi:i<n*sz
   ·rw [if_pos ⟨Nat.zero_le _,hi⟩,if_pos hi,hget i hi]
   ·rw [if_neg (fun h=>hi h.2),if_neg hi]
section
variable {w w0:World} {g n L t m:Nat} {s0:HU} {col:Nat→Nat} {cnt:Nat→Nat} {c':Nat→Int} {K2:Value→PT}
theorem t74 {xa xb:Int} {rv:Value} (P:HP w0 g s0 col 0) (hpt:s0.pt=⟨none,0,0⟩) (F:Fm w0 w [g]) (B:Blk w g ({ s0 with count:=c' } : HU).at) (hc:∀i,i<256→c' i=(cnt i:Nat)) (hL2:2≤L) (hL:L≤256) (hlt:∀i,i<L→cnt i<2^18) (two:∃a b,a≠b∧a<L∧b<L∧0<cnt a∧0<cnt b) (hsum:sF cnt 0 L≤n) (hn2:n<4294967296) (h8:sF cnt 0 L<832040) (htl:s0.tl=(t:Nat)) (ht11:t≤11)
  (hk:∀w' s' col' M ln,HT cnt L M ln→LenR cnt L n t M ln→HW w' g s' col'→PTc w' s'.pt M ln L→s'.tl=s0.tl→s'.reuse=s0.reuse→s'.wll=s0.wll→s'.ptl=(M:Nat)→VecU w' s'.out []→GoW w w' col col'→FseC w' s'.fse col'→K2 .nilIface w') :
  q74_J11 K2 (some ⟨g,0,none⟩,rv) (xa,xb,((L:Nat):Int)) (((n:Nat):Int),((m:Nat):Int)) w:=by
 have kg:=fun r (hr:r≠1)=>P.toHW.keepG (r:=r) hr
 unfold q74_J11
 simp only
 refine ⟨_,rfl,?_⟩
 simp only [add_mk,Nat.zero_add]
 refine st_u B rfl rfl ?_
 intro w1 B1 F1
 have B1':=B1.congr (HU.setT (s' := { s0 with count:=c',symL:=((L:Nat):Int) }) 9 rfl rfl rfl (by decide))
 refine ⟨_,rfl,?_⟩
 simp only [add_mk,Nat.zero_add]
 refine st_u B1' rfl rfl ?_
 intro w2 B2 F2
 have B2':=B2.congr (HU.setT (s' := { s0 with count:=c',symL:=((L:Nat):Int),maxC:=((m:Nat):Int) }) 10 rfl rfl rfl (by decide))
 refine ⟨_,rfl,?_⟩
 simp only [add_mk,Nat.zero_add]
 refine st_u B2' rfl rfl ?_
 intro w3 B3 F3
 have B3':=B3.congr (HU.setT (s' := { s0 with count:=c',symL:=((L:Nat):Int),maxC:=((m:Nat):Int),srcLen:=((n:Nat):Int) }) 4 rfl rfl rfl (by decide))
 have F13:Fm w w3 [g]:=(F1.trans F2 (fun x hx => .inl hx)).trans F3 (fun x hx => .inl hx)
 have F03:Fm w0 w3 [g]:=F.trans F13 (fun x hx => .inl hx)
 obtain ⟨nb,l0,cap,Fn,hnod,hcap,cnb,HN,hS,hF⟩:=P.nodP.mv F03 (kg 3 (by decide))
 have hct:=P.ct.mv F03 (kg 4 (by decide))
 have hfse:=P.fseP.mv F03 (kg 6 (by decide))
 have hout:=P.out.mv F03 (kg 2 (by decide))
 have dgn:g≠nb:=fun e=>by rw [←e,P.cg] at cnb;cases cnb
 have c4:=hct.co
 have hg:g∉s0.ct.bs:=fun h=>by have:=c4 g h;rw [P.cg] at this;cases this
 have hnb:nb∉s0.ct.bs:=fun h=>by have:=c4 nb h;rw [cnb] at this;cases this
 refine c91 (cnt:=cnt) (L:=L) (n:=n) (t:=t) B3' ⟨rfl,by omega,hL,fun i hi=>hc i (by omega),hlt⟩ rfl htl ht11 hn2 two hsum h8 hnod hcap HN hS hF dgn hct.own hg hnb ?_
 intro w4 M ln tb capt F4t Fn4 HTc hLR h256 B4 HT4 hS4 hcells HN4 hSn4 hFn4 htb dgt dnt Fr4
 refine ⟨rfl,nil_cnd ?_⟩
 refine joinP_id ?_
 have own0:∀v∈g::nb::s0.ct.bs,v<w3.heap.size→own (col v):=by
  intro v hv _
  rcases List.mem_cons.mp hv with h|h
  ·rw [h,P.cg];exact ⟨by decide,by decide⟩
  ·rcases List.mem_cons.mp h with h|h
   ·rw [h,cnb];exact ⟨by decide,by decide⟩
   ·rw [c4 v h];exact ⟨by decide,by decide⟩
 have hkeep:∀r,r≠1→r≠3→r≠4→∀v∈g::nb::s0.ct.bs,v<w3.heap.size→col v≠r:=by
  intro r h1 h3 h4 v hv _ e
  rcases List.mem_cons.mp hv with h|h
  ·rw [h,P.cg] at e;exact h1 e.symm
  ·rcases List.mem_cons.mp h with h|h
   ·rw [h,cnb] at e;exact h3 e.symm
   ·rw [c4 v h] at e;exact h4 e.symm
 have hsz4:=Fr4.size
 have Kp:∀r,r≠1→r≠3→r≠4→Keep w3 col (colN w3.heap.size 4 col) (g::nb::s0.ct.bs) r:=fun r h1 h3 h4=>⟨hkeep r h1 h3 h4,fun v hv=>colN_old hv⟩
 have hout4:=hout.mv Fr4 (Kp 2 (by decide) (by decide) (by decide))
 have hfse4:=hfse.mv Fr4 (Kp 6 (by decide) (by decide) (by decide))
 have ctb:colN w3.heap.size 4 col tb=4:=by
  rcases htb with h|h
  ·exact (colN_old (hct.own.lt tb h)).trans (c4 tb h)
  ·exact colN_new h
 have cg4:colN w3.heap.size 4 col g=1:=(colN_old B3'.lt).trans P.cg
 have cn4:colN w3.heap.size 4 col nb=3:=(colN_old HN.lt).trans cnb
 have Bd:=B4.drew
 unfold drw
 refine ⟨_,rfl,?_⟩
 simp only [add_mk,Nat.zero_add]
 refine ld_b (t := .S) (x:=s0.pt) Bd rfl ?_
 refine ⟨_,rfl,?_⟩
 simp only [add_mk,Nat.zero_add]
 refine ld_b (t := .S) (x:=⟨some ⟨tb,0,none⟩,L,capt⟩) Bd rfl ?_
 refine cnd_d (fun _ => ?_) (fun h=>absurd (by rw [hpt];simp only;omega) h)
 refine ⟨0,256,rfl,rfl,Nat.zero_le _,by decide,?_⟩
 have F5:Fm w4.drew (w4.drew.alloc (.cells (zrep z140 256) 140)) []:=(Fm.refl w4.drew []).alloc
 have B5p:Blk (w4.drew.alloc (.cells (zrep z140 256) 140)) w4.drew.heap.size fun i=>(zrep z140 256)[i]? := Blk.new
 have hs5:(w4.drew.alloc (.cells (zrep z140 256) 140)).heap.size=w4.heap.size+1:=World.size_alloc _ _
 have B5:=Bd.fr F5 (by simp)
 have hgl:=B4.lt
 have hnl:=HN4.lt
 have htl4:=HT4.lt
 have epb:w4.drew.heap.size=w4.heap.size:=rfl
 rw [epb] at *
 generalize w4.drew.alloc (.cells (zrep z140 256) 140)=w5 at *
 have dgp:g≠w4.heap.size:=by omega
 have dnp:nb≠w4.heap.size:=by omega
 have dtp:tb≠w4.heap.size:=by omega
 refine ⟨_,rfl,?_⟩
 simp only [add_mk,Nat.zero_add]
 refine st_u B5 rfl rfl ?_
 intro w6 B6 F6
 have B6':=B6.congr (HU.setT (s' := { s0 with count:=c',symL:=((L:Nat):Int),maxC:=((m:Nat):Int),srcLen:=((n:Nat):Int),atl:=((M:Nat):Int),ct:=⟨some ⟨tb,0,none⟩,L,capt⟩,nodes:=⟨some ⟨nb,0,none⟩,513,cap⟩,pt:=⟨some ⟨w4.heap.size,0,none⟩,0,256⟩ }) 14 rfl rfl rfl (by decide))
 have B6p:=B5p.fr F6 (nm1 dgp.symm)
 unfold q74_J10 drw
 have B6d:=B6'.drew
 refine ⟨_,rfl,?_⟩
 simp only [add_mk,Nat.zero_add]
 refine ld_b (t := .S) (x:=⟨some ⟨w4.heap.size,0,none⟩,0,256⟩) B6d rfl ?_
 refine ⟨_,rfl,?_⟩
 simp only [add_mk,Nat.zero_add]
 refine ld_b (t := .S) (x:=⟨some ⟨tb,0,none⟩,L,capt⟩) B6d rfl ?_
 refine slc_hi (m:=L) rfl (by omega) ?_
 refine ⟨_,rfl,?_⟩
 simp only [add_mk,Nat.zero_add]
 refine st_u B6d rfl rfl ?_
 intro w7 B7 F7
 have B7':=B7.congr (HU.setT (s' := { s0 with count:=c',symL:=((L:Nat):Int),maxC:=((m:Nat):Int),srcLen:=((n:Nat):Int),atl:=((M:Nat):Int),ct:=⟨some ⟨tb,0,none⟩,L,capt⟩,nodes:=⟨some ⟨nb,0,none⟩,513,cap⟩,pt:=⟨some ⟨w4.heap.size,0,none⟩,L,256⟩ }) 14 rfl rfl rfl (by decide))
 have B7p:=B6p.drew.fr F7 (nm1 dgp.symm)
 have B7d:=B7'.drew
 refine ⟨_,rfl,?_⟩
 simp only [add_mk,Nat.zero_add]
 refine ld_b (t := .S) (x:=⟨some ⟨w4.heap.size,0,none⟩,L,256⟩) B7d rfl ?_
 refine ⟨_,rfl,?_⟩
 simp only [add_mk,Nat.zero_add]
 refine ld_b (t := .S) (x:=⟨some ⟨tb,0,none⟩,L,capt⟩) B7d rfl ?_
 have F46:Fm w4 w6 [g]:=((Fm.refl w4 []).drew.trans F5 (by simp)).mono (S' := [g]) (by simp) |>.trans F6 (fun x hx => .inl hx)
 have F47:Fm w4 w7 [g]:=F46.drew.trans F7 (fun x hx => .inl hx)
 have HT7:=HT4.fr F47 (nm1 dgt.symm)
 have hcv:∀i,i<L*2→∃v,F4t i=some v∧one v=true:=by
  intro i hi
  have h1:=hcells (i/2) (by omega)
  by_cases e:i%2=0
  ·rw [show i=i/2*2 by omega];exact ⟨_,h1.1,rfl⟩
  ·rw [show i=i/2*2+1 by omega];exact ⟨_,h1.2,rfl⟩
 refine cpy_b (n:=L) B7p.drew HT7.drew (Nat.min_self L) hcv (fun i hi=>zrep_some z140 256 i (by show i<256*2;omega)) ?_
 intro w8 B8p F8
 have B8:=B7d.fr F8 (nm1 dgp)
 refine ⟨_,rfl,?_⟩
 simp only [add_mk,Nat.zero_add]
 refine ld_b (t := .I .u8) (x:=((M:Nat):Int)) B8 rfl ?_
 refine ⟨_,rfl,?_⟩
 simp only [add_mk,Nat.zero_add]
 refine st_u B8 rfl rfl ?_
 intro w9 B9 F9
 have B9':=B9.congr (HU.setT (s' := { s0 with count:=c',symL:=((L:Nat):Int),maxC:=((m:Nat):Int),srcLen:=((n:Nat):Int),atl:=((M:Nat):Int),ptl:=((M:Nat):Int),ct:=⟨some ⟨tb,0,none⟩,L,capt⟩,nodes:=⟨some ⟨nb,0,none⟩,513,cap⟩,pt:=⟨some ⟨w4.heap.size,0,none⟩,L,256⟩ }) 13 rfl rfl rfl (by decide))
 refine ⟨_,rfl,?_⟩
 simp only [add_mk,Nat.zero_add]
 refine st_u B9' rfl rfl ?_
 intro w10 B10 F10
 have B10':=B10.congr (HU.setT (s' := { s0 with count:=c',symL:=((L:Nat):Int),maxC:=((m:Nat):Int),cc:=true,srcLen:=((n:Nat):Int),atl:=((M:Nat):Int),ptl:=((M:Nat):Int),ct:=⟨some ⟨tb,0,none⟩,L,capt⟩,nodes:=⟨some ⟨nb,0,none⟩,513,cap⟩,pt:=⟨some ⟨w4.heap.size,0,none⟩,L,256⟩ }) 11 rfl rfl rfl (by decide))
 refine ⟨_,rfl,?_⟩
 simp only [add_mk,Nat.zero_add]
 refine st_u B10' rfl rfl ?_
 intro w11 B11 F11
 have B11':=B11.congr (HU.setT (s' := { s0 with count:=c',symL:=((L:Nat):Int),maxC:=0,cc:=true,srcLen:=((n:Nat):Int),atl:=((M:Nat):Int),ptl:=((M:Nat):Int),ct:=⟨some ⟨tb,0,none⟩,L,capt⟩,nodes:=⟨some ⟨nb,0,none⟩,513,cap⟩,pt:=⟨some ⟨w4.heap.size,0,none⟩,L,256⟩ }) 10 rfl rfl rfl (by decide))
 have F8b:Fm w8 w11 [g]:=(F9.trans F10 (fun x hx => .inl hx)).trans F11 (fun x hx => .inl hx)
 have F411:Fm w4 w11 [g]:=by
  refine Fm.trans (F47.drew.trans (F8.mono (S' := [g,w4.heap.size]) (by simp)) ?_) F8b (fun x hx => .inl hx)
  intro v hv
  simp only [List.mem_cons,List.not_mem_nil,or_false] at hv
  rcases hv with rfl|rfl
  ·exact .inl (by simp)
  ·exact .inr (Nat.le_refl _)
 have B11p:=B8p.fr F8b (nm1 dgp.symm)
 have hsz411:=F411.size
 have K5:∀r,r≠1→Keep w4 (colN w3.heap.size 4 col) (colN w4.heap.size 5 (colN w3.heap.size 4 col)) [g] r:=fun r hr=>⟨fun v hv _ e=>by simp at hv;subst hv;exact hr (e.symm.trans cg4),fun v hv=>colN_old hv⟩
 have n9:∀v∈g::nb::s0.ct.bs,9≤v:=by
  intro v hv
  rcases List.mem_cons.mp hv with h|h
  ·rw [h];exact P.g9
  ·rcases List.mem_cons.mp h with h|h
   ·rw [h];exact P.nine (by rw [cnb];decide)
   ·exact P.nine (by rw [c4 v h];decide)
 have g9:∀v ∈ [g],9≤v:=by intro v hv;simp at hv;rw [hv];exact P.g9
 have h9:=P.gl.size
 have hsz03:=F03.size
 have Fend:Fm w3 w11 (g::nb::s0.ct.bs):=Fr4.trans F411 (by intro v hv;left;simp at hv;rw [hv];simp)
 have Fe:Fm w0 w11 (g::nb::s0.ct.bs):=(F03.mono (S':=g::nb::s0.ct.bs) (by intro v hv;left;simp at hv;rw [hv];simp)).trans Fend (fun x hx => .inl hx)
 have hptc:PTc w11 ⟨some ⟨w4.heap.size,0,none⟩,L,256⟩ M ln L:=by
  refine ⟨w4.heap.size,256,_,cnt,rfl,Nat.le_refl _,B11p,?_,HTc,hL,by omega⟩
  intro i hi
  rw [if_pos (by omega),if_pos (by omega)]
  exact hcells i hi
 refine hk w11 _ (colN w4.heap.size 5 (colN w3.heap.size 4 col)) M ln HTc hLR ⟨B11',?_,?_,?_,.inr ?_,?_,?_,.inr ⟨M,ln,L,hptc⟩,.inr ?_,P.gl.fm Fe n9,?_,rfl,.inl rfl⟩ hptc rfl rfl rfl rfl (P.o0.fr Fe ?_) ?_ ?_
 ·exact (colN_old hgl).trans cg4
 ·intro v hv;rw [colN_old (by omega),colN_old (by omega)];exact P.low v hv
 ·exact hout4.mv F411 (K5 2 (by decide))
 ·exact ⟨nb,513,cap,Fn4,rfl,hcap,(colN_old hnl).trans cn4,HN4.fr F411 (nm1 dgn.symm),hSn4,hFn4⟩
 ·refine ⟨Own.of (HT4.fr F411 (nm1 dgt.symm)) hS4 (by omega),?_⟩
  intro v hv
  simp [Sl.bs] at hv
  rw [hv,colN_old htl4];exact ctb
 ·refine ⟨Own.of B11p ?_ (by omega),?_⟩
  ·intro i hi
   by_cases e:i<L*2
   ·obtain ⟨v,h1,_⟩:=hcv i e
    simp only [if_pos e,h1];rfl
   ·simp only [if_neg e]
    exact zrep_some z140 256 i hi
  ·intro v hv
   simp [Sl.bs] at hv
   rw [hv];exact colN_new (Nat.le_refl _)
 ·exact hfse4.mv F411 (K5 6 (by decide))
 ·intro i hi
  exact (P.er i hi).fm Fe (fun h=>by have:=n9 i h;omega)
 ·intro v hv hm
  have h2:=P.out.co v hv
  rcases List.mem_cons.mp hm with h|h
  ·rw [h,P.cg] at h2;cases h2
  ·rcases List.mem_cons.mp h with h|h
   ·rw [h,cnb] at h2;cases h2
   ·rw [c4 v h] at h2;cases h2
 ·have G1:GoW w w3 col col:=GoW.of F13 (by intro v hv _;simp at hv;subst hv;rw [P.cg];exact ⟨by decide,by decide⟩) (fun _ _=>rfl)
  have G2:GoW w3 w4 col (colN w3.heap.size 4 col):=GoW.of Fr4 own0 (fun v hv=>colN_old hv)
  have G3:GoW w4 w11 (colN w3.heap.size 4 col) (colN w4.heap.size 5 (colN w3.heap.size 4 col)):=GoW.of F411 (by intro v hv _;simp at hv;subst hv;rw [cg4];exact ⟨by decide,by decide⟩) (fun v hv=>colN_old hv)
  exact (G1.trans G2).trans G3
 ·exact hfse4.mv F411 (K5 6 (by decide))
end
end Go.Sx
