/- Lemmas for the proof: X33 H1 H3 H7 H9 H13 H17 H18 U1 H21 H22 H23 H24 H33 H36 H37 H39 H43 H47 H48 H49 Z3 Z6 H65 H54 H55 H57 X34 X35 X36 X37 X38. No conditions. -/
import Derived.Test.YtlnhldlhmplphaaDoorS4A06
set_option linter.unusedVariables false
set_option linter.unusedSimpArgs false
namespace Go.Sx
open Go Go.Proofs
set_option maxRecDepth 4000
theorem bw_at (s:FS) (so:Sl):bwC s.at 518 0 0 so=({ s with bc:=0,bn:=0,bo:=so } : FS).at:=by
 have h1:=FS.setT (s:=s) (s' := { s with bc:=0 }) (v := .int .u64 0) 6 rfl rfl rfl (by decide)
 have h2:=FS.setT (s := { s with bc:=0 }) (s' := { s with bc:=0,bn:=0 }) (v := .int .u8 0) 7 rfl rfl rfl (by decide)
 have h3:=FS.setT (s := { s with bc:=0,bn:=0 }) (s' := { s with bc:=0,bn:=0,bo:=so }) (v:=so.val) 8 rfl rfl rfl (by decide)
 rw [←h3, ←h2, ←h1]
 funext i
 unfold bwC updC
 by_cases e0:i=518
 ·subst e0;rfl
 ·by_cases e1:i=519
  ·subst e1;rfl
  ·by_cases e2:i=520
   ·subst e2;rfl
   ·rw [if_neg e0,if_neg e1,if_neg e2,if_neg e2,if_neg e1,if_neg e0]
theorem ST.drew {w w':World} {b:Nat} {s s':FS} (h:ST w w' b s s'):ST w w'.drew b s s':=h.trans (h.sw.fm (Fm.refl w' []).drew)
theorem ST.gl {w w':World} {b:Nat} {s s':FS} (h:ST w w' b s s') (G:GL w) (h9:∀v∈SB b s,9≤v):GL w'∧∀v∈SB b s',9≤v:=by
 have hs:=G.size
 refine ⟨G.fm h.fr h9,?_⟩
 intro v hv
 rcases h.ext v hv with h1|h1
 ·exact h9 v h1
 ·omega
theorem nil_cnd {x y:PT} {w:World} (h:y w):cnd (!(isNil .nilIface)) x y w:=⟨fun h=>by simp [isNil] at h,fun _=>h⟩
theorem err_cnd {v:Value} {x y:PT} {w:World} (hv:isNil v=false) (h:x w):cnd (!(isNil v)) x y w:=⟨fun _=>h,fun h=>by rw [hv] at h;simp at h⟩
def nsZ (L:Nat) (ws:List Nat):List Int:=(List.range L).map (nmZ (fun i=>ws.count i) (tlZ ws.length L) L ws.length)
def FEx (m L:Nat) (ws:List Nat):Prop:=m≠ws.length∧m≠1∧ws.length/128≤m∧2<ws.length∧nmOk (fun i=>ws.count i) (tlZ ws.length L) L ws.length
def FTot (L:Nat) (ws:List Nat) (k:Nat):Prop:=∃f t,spreadZ (nsZ L ws) (2^tlZ ws.length L) (fun _ => -1)=some (f,0)∧HBt (tlZ ws.length L) (nsZ L ws) L false t ∧
 k=(8*((t+7)/8)+(encZ (tlZ ws.length L) (shareZ (nsZ L ws)) (posZ (2^tlZ ws.length L) f) ws).t+(tlZ ws.length L+tlZ ws.length L))/8+1
def FBad (m L:Nat) (ws:List Nat):Prop:=¬FEx m L ws∨∃k,FTot L ws k∧ws.length≤k
def FGood (m L:Nat) (ws:List Nat) (k:Nat):Prop:=FEx m L ws∧FTot L ws k∧k<ws.length
theorem c84 {w:World} {b m L:Nat} {s:FS} {src:Sl} {ws:List Nat} {K:Sl×Value→PT} (W:SW w b s) (G:GL w) (h9:∀v∈SB b s,9≤v) (hsrc:Arr .u8 w src ws) (hd:∀a,src.a=some a→ws ≠ []→a.block∉SB b s)
  (hn2:2≤ws.length) (hn:ws.length≤255) (htl:s.tl=6) (hm:s.maxC=(m:Nat)) (hm0:0<m) (hmn:m≤ws.length) (hsym:s.symL=(L:Nat)) (hL1:1≤L) (hL12:L≤12) (hcnt:∀i,i<L→s.count i=(ws.count i:Nat)) (hws:∀x∈ws,x<L)
  (hmax:∀i,i<L→ws.count i≤m) (hlast:ws.count (L-1)≠0)
  (hk0:∀w' s' v,FBad m L ws→ST w w' b s s'→isPE v=true→isNil v=false→K (⟨none,0,0⟩,v) w')
  (hk1:∀w' s' o ol,FGood m L ws ol.length→ST w w' b s s'→Arr .u8 w' o ol→By ol→ol.length<ws.length→FseOK ol ws→(∀v∈o.bs,v∈SB b s')→K (o,.nilIface) w') :
  callP Tryd.prog 84 #[.slice src.a src.l src.c,.pointer (some ⟨b,0,none⟩)] [.c .S,.c .V] K w:=by
 apply q84_ok (o1:=some ⟨b,0,none⟩)
 unfold q84
 have hsl:=hsrc.len
 have hbl:=W.blk.lt
 refine cnd_d (fun h=>absurd h (by omega)) (fun _ => ?_)
 refine cnd_d (fun h=>absurd h (by omega)) (fun _ => ?_)
 refine c77 (x:=src) W.blk htl (by rw [hm];omega) (by omega) ?_
 intro w1 s1 ecount enorm ebr ebro ets est ett edt emaxC esymL etl HB1 F1 hout
 have T1:ST w w1 b s s1:=by
  rcases hout with h|⟨h1,h2,h3,h4⟩
  ·exact W.same HB1 F1 h ets est ett
  ·exact W.out HB1 (F1.mono (by intro v hv;simp at hv;simp [hv])) h3.own (fun hb=>by have:=h4 _ hb;omega) (fun v hv => .inr (h4 v hv)) ets est ett
 refine ⟨rfl,nil_cnd ⟨_,rfl,?_⟩⟩
 simp only [add_mk,Nat.zero_add]
 refine ld_b (t := .I .i64) (x:=((m:Nat):Int)) HB1 (by show some (Value.int .i64 s1.maxC)=_;rw [emaxC,hm];rfl) ?_
 refine joinP_id (cnd_d (fun h=>absurd h (by omega)) (fun _ => ?_))
 unfold q84_J0
 refine ⟨_,rfl,?_⟩
 simp only [add_mk,Nat.zero_add]
 refine st_u HB1 rfl rfl ?_
 intro w2 HB2 F2
 have HB2':=HB2.congr (FS.setT (s' := { s1 with cc:=true }) 19 rfl rfl rfl (by decide))
 refine ⟨_,rfl,?_⟩
 simp only [add_mk,Nat.zero_add]
 refine st_u HB2' rfl rfl ?_
 intro w3 HB3 F3
 have HB3':=HB3.congr (FS.setT (s' := { s1 with cc:=true,maxC:=0 }) 13 rfl rfl rfl (by decide))
 have T3:ST w w3 b s { s1 with cc:=true,maxC:=0 } := T1.trans (T1.sw.same HB3' (F2.trans F3 (fun x hx => .inl hx)) rfl rfl rfl rfl)
 have hsum:smI (gC fun i=>ws.count i) (fun _=>0) L=ws.length:=counts_sum hws _
 generalize hs3:({ s1 with cc:=true,maxC:=0 } : FS)=s3 at *
 have e3count:s3.count=s.count:=by rw [←hs3];exact ecount
 have e3sym:s3.symL=(L:Nat):=by rw [←hs3];exact esymL.trans hsym
 have e3br:s3.br=src:=by rw [←hs3];exact ebr
 have e3bro:s3.brOff=0:=by rw [←hs3];exact ebro
 have e3tl:s3.tl=6:=by rw [←hs3];exact etl
 clear hs3
 obtain ⟨G3,h93⟩:=T3.gl G h9
 have eshr:shrI .i64 ((src.l:Nat):Int) (7:Int)=((ws.length/128:Nat):Int):=by
  rw [hsl,show (7:Int)=((7:Nat):Int) from rfl,shrI_nat _ _ _ (by simp only [IntKind.bits];omega)]
 rw [eshr]
 refine cnd_d (fun hc=>ld_err G3.e4 fun v h1 h2=>hk0 _ _ v (.inl fun hE=>hE.1 (by omega)) T3.drew h1 h2) (fun hne => ?_)
 refine cnd_d (fun hc=>ld_err G3.e3 fun v h1 h2=>hk0 _ _ v (.inl fun hE=>hE.2.1 (by omega)) T3.drew h1 h2) (fun hne1 => ?_)
 refine ⟨by decide,cnd_d (fun hc=>ld_err G3.e3 fun v h1 h2=>hk0 _ _ v (.inl fun hE=>by have:=hE.2.2.1;omega) T3.drew h1 h2) (fun hne2 => ?_)⟩
 have hmlt:m<ws.length:=by omega
 have hL2:2≤L:=by
  by_cases h:2≤L
  ·exact h
  ·exfalso
   have hL:L=1:=by omega
   subst hL
   have h1:smI (gC fun i=>ws.count i) (fun _=>0) 1=ws.count 0:=by rw [smI,smI];simp [gC]
   have:=hmax 0 (by omega)
   omega
 refine c110 (n:=ws.length) (L:=L) HB3' (by rw [e3br,hsl]) e3bro e3sym e3tl hn2 (by omega) hL2 (by omega) ?_
 intro w4 T hTe hT h6 HB4 F4
 have T4:ST w w4 b s { s3 with atl:=(T:Nat) } := T3.trans (T3.sw.same HB4 F4 rfl rfl rfl rfl)
 obtain ⟨G4,h94⟩:=T4.gl G h9
 have C:CS { s3 with atl:=(T:Nat) } (fun i=>ws.count i) T L ws.length:=⟨hT,rfl,e3sym,by show s3.br.l=_;rw [e3br,hsl],e3bro,hL2,hL12,hn2,by omega,fun i hi=>by show s3.count i=_;rw [e3count];exact hcnt i hi,hsum⟩
 have hb9:9≤b:=h9 b (mem_SB.mpr (.inl rfl))
 refine c111 C HB4 G4.rtb (by omega) ?_ ?_
 ·intro w5 v nf h1 h2 h3 HB5 F5
  exact ⟨isPE.ifc h1,err_cnd h2 (hk0 _ _ v (.inl fun hE=>h3 (by rw [hTe];exact hE.2.2.2.2)) (T4.trans (T4.sw.same HB5 F5 rfl rfl rfl rfl)) h1 h2)⟩
 intro w5 nf HN hNO hNE HB5 F5
 refine ⟨rfl,nil_cnd ?_⟩
 have hnsE:(List.range L).map nf=nsZ L ws:=List.map_congr_left (fun j hj=>by rw [hNE j (List.mem_range.mp hj),hTe])
 have T5:=T4.trans (T4.sw.same (s' := { s3 with atl:=(T:Nat),norm:=nf }) HB5 F5 rfl rfl rfl rfl)
 have hnl:((List.range L).map nf).length=L:=by simp
 have H5:NS { s3 with atl:=(T:Nat),norm:=nf } ((List.range L).map nf) T L:=by
  refine ⟨hT,rfl,e3sym,hnl,hL2,by omega,?_,?_,?_⟩
  ·intro i hi;simp
  ·intro c hc
   obtain ⟨j,hj,rfl⟩:=List.mem_map.mp hc
   exact HN.ge j (List.mem_range.mp hj)
  ·rw [sumZ_map];exact HN.sum
 have hshare:∀x,x<L→ws.count x≠0→nf x≠0:=fun x hx hc h=>hc ((HN.zero x hx).mp h)
 have hlast':((List.range L).map nf).getD (L-1) 0≠0:=by
  rw [getD_Z (by omega)]
  simp only [List.getElem_map,List.getElem_range]
  exact hshare _ (by omega) hlast
 generalize hns:(List.range L).map nf=ns at *
 refine c112 (n:=ws.length) H5 hL12 hlast' HB5 T5.sw.o T5.sw.bo (by show s3.br.l=_;rw [e3br,hsl]) e3bro (by omega) ?_
 intro w6 o Hd d0 d1 d2 d3 d4 d5 HB6 F6 d7 d8
 refine ⟨rfl,nil_cnd ?_⟩
 have T56:=T5.sw.out (s' := { s3 with atl:=(T:Nat),norm:=nf,out:=o }) HB6 F6 d5.own d8 d7 rfl rfl rfl
 have T6:=T5.trans T56
 have H6:NS { s3 with atl:=(T:Nat),norm:=nf,out:=o } ns T L:=H5.congr rfl rfl rfl
 have W6:=T56.sw
 refine c113 H6 HB6 W6.x W6.y W6.z W6.bx W6.bY W6.bz W6.xy W6.xz W6.yz ?_
 intro w7 tb stb ttb capx capy capz zz f hTt g hsp HE o1 o2 o3 hcz HB7 F7 n1 n2 n3 b1 b2 b3 b4 b5 b6
 refine ⟨rfl,nil_cnd ?_⟩
 have oo:∀v∈o.bs,v<w6.heap.size:=d5.own.lt
 have T67:ST w6 w7 b { s3 with atl:=(T:Nat),norm:=nf,out:=o } { s3 with atl:=(T:Nat),norm:=nf,out:=o,ts:=⟨some ⟨tb,0,none⟩,2^T,capx⟩,st:=⟨some ⟨stb,0,none⟩,2^T,capy⟩,tt:=⟨some ⟨ttb,0,none⟩,256,capz⟩,zb:=zz } := by
  have keep:∀v∈o.bs,v∉b::(s3.ts.bs++(s3.st.bs++s3.tt.bs)):=by
   intro v hv
   simp only [List.mem_cons,List.mem_append,not_or]
   exact ⟨fun e=>W6.bo (e▸hv),W6.ox v hv,W6.oy v hv,W6.oz v hv⟩
  have c1:∀v∈o.bs,v≠tb:=by
   intro v hv e;subst e
   rcases n1 with h|h
   ·exact W6.ox _ hv h
   ·have:=oo _ hv;omega
  have c2:∀v∈o.bs,v≠stb:=by
   intro v hv e;subst e
   rcases n2 with h|h
   ·exact W6.oy _ hv h
   ·have:=oo _ hv;omega
  have c3:∀v∈o.bs,v≠ttb:=by
   intro v hv e;subst e
   rcases n3 with h|h
   ·exact W6.oz _ hv h
   ·have:=oo _ hv;omega
  refine ⟨⟨HB7,W6.o.fm F7 keep,o1,o2,o3,W6.bo,?_,?_,?_,?_,?_,?_,?_,?_,?_⟩,F7.mono ?_,?_⟩
  ·simpa [Sl.bs] using b1
  ·simpa [Sl.bs] using b2
  ·simpa [Sl.bs] using b3
  ·intro v hv;simpa [Sl.bs] using c1 v hv
  ·intro v hv;simpa [Sl.bs] using c2 v hv
  ·intro v hv;simpa [Sl.bs] using c3 v hv
  ·intro v hv;simp [Sl.bs] at hv ⊢;omega
  ·intro v hv;simp [Sl.bs] at hv ⊢;omega
  ·intro v hv;simp [Sl.bs] at hv ⊢;omega
  ·intro v hv
   left
   rw [mem_SB]
   simp only [List.mem_cons,List.mem_append] at hv
   rcases hv with h|h|h|h
   ·exact .inl h
   ·exact .inr (.inr (.inl h))
   ·exact .inr (.inr (.inr (.inl h)))
   ·exact .inr (.inr (.inr (.inr h)))
  ·intro v hv
   rw [mem_SB] at hv ⊢
   simp only [Sl.bs,List.mem_cons,List.not_mem_nil,or_false] at hv
   rcases hv with h|h|h|h|h
   ·exact .inl (.inl h)
   ·exact .inl (.inr (.inl h))
   ·subst h
    rcases n1 with h|h
    ·exact .inl (.inr (.inr (.inl h)))
    ·exact .inr h
   ·subst h
    rcases n2 with h|h
    ·exact .inl (.inr (.inr (.inr (.inl h))))
    ·exact .inr h
   ·subst h
    rcases n3 with h|h
    ·exact .inl (.inr (.inr (.inr (.inr h))))
    ·exact .inr h
 have T7:=T6.trans T67
 obtain ⟨G7,h97⟩:=T7.gl G h9
 have W7:=T67.sw
 have hN:∀x,shareZ ns x<2^T:=by
  intro x
  rw [←hns]
  exact HN.lt hsum hmax hmlt x
 obtain ⟨f2,g1,g2,g3⟩:=statesZ_some hT H5.rng H5.sum
 have hf2:f2=f:=by rw [hsp] at g1;injection g1 with g1;injection g1 with g1;exact g1.symm
 subst hf2
 have hTab:=tabOK hT H5.rng hN g3 hsp
 have hok:∀x∈ws,x<256∧0<shareZ ns x:=by
  intro x hx
  have hxL:=hws x hx
  refine ⟨by omega,?_⟩
  rw [←hns,shareZ_in (by simpa using hxL)]
  simp only [List.getElem_map,List.getElem_range]
  have h1:=hshare x hxL (by have:=List.count_pos_iff.mpr hx;omega)
  have h2:=HN.ge x hxL
  unfold absZ;split<;>omega
 have hdS:∀a,src.a=some a→ws ≠ []→a.block∉SB b { s3 with atl:=(T:Nat),norm:=nf,out:=o,ts:=⟨some ⟨tb,0,none⟩,2^T,capx⟩,st:=⟨some ⟨stb,0,none⟩,2^T,capy⟩,tt:=⟨some ⟨ttb,0,none⟩,256,capz⟩,zb:=zz } := by
  intro a ha hne hv
  have:=hsrc.old hne a ha
  rcases T7.ext _ hv with h|h
  ·exact hd a ha hne h
  ·omega
 have hA7:Arr .u8 w7 src ws:=hsrc.fr T7.fr hd
 have HO7:Vec 1 w7 o (bytes .u8 Hd):=d5.fr F7 (by
  intro v hv
  simp only [List.mem_cons,List.mem_append,not_or]
  exact ⟨fun e=>W6.bo (e▸hv),W6.ox v hv,W6.oy v hv,W6.oz v hv⟩)
 have hm8:∀v∈o.bs,9≤v:=fun v hv=>h97 v (mem_SB.mpr (.inr (.inl hv)))
 generalize hs7:({ s3 with atl:=(T:Nat),norm:=nf,out:=o,ts:=⟨some ⟨tb,0,none⟩,2^T,capx⟩,st:=⟨some ⟨stb,0,none⟩,2^T,capy⟩,tt:=⟨some ⟨ttb,0,none⟩,256,capz⟩,zb:=zz } : FS)=s7 at *
 have e7out:s7.out=o:=by rw [←hs7]
 have e7atl:s7.atl=(T:Nat):=by rw [←hs7]
 have e7st:s7.st=⟨some ⟨stb,0,none⟩,2^T,capy⟩:=by rw [←hs7]
 have e7tt:s7.tt=⟨some ⟨ttb,0,none⟩,256,capz⟩:=by rw [←hs7]
 clear hs7
 rw [←e7out] at HO7 hm8
 have bs1:∀v,v∈s7.st.bs↔v=stb:=by intro v;rw [e7st];simp [Sl.bs]
 have bs2:∀v,v∈s7.tt.bs↔v=ttb:=by intro v;rw [e7tt];simp [Sl.bs]
 refine c114 (ol0:=Hd) (src:=src) HB7 e7atl e7st e7tt hcz HO7 d1 W7.bo (by omega) HE G7.mask hA7 hok ⟨_,hTab⟩ (by omega) ⟨b2.symm,fun h=>W7.oy _ h ((bs1 _).mpr rfl)⟩ ⟨b3.symm,fun h=>W7.oz _ h ((bs2 _).mpr rfl)⟩ ⟨by omega,fun h=>by have:=hm8 8 h;omega⟩ ?_ ?_ ?_
 ·intro a ha hne
  have:=hdS a ha hne
  rw [mem_SB] at this
  exact ⟨fun e=>this (.inl e),fun e=>this (.inr (.inl e))⟩
 ·intro hs2 w8 v F8 h1 h2
  exact ⟨isPE.ifc h1,err_cnd h2 (hk0 _ _ v (.inl fun hE=>by have:=hE.2.2.2.1;omega) (T7.trans (W7.fm F8)) h1 h2)⟩
 intro hl2 w8 so ol a1 a2 a3 a4 a5 a6
 have hTot:FTot L ws ol.length:=by
  obtain ⟨t,ht1,ht2⟩:=d0
  refine ⟨f2,t,?_,?_,?_⟩
  ·rw [←hTe, ←hnsE];exact hsp
  ·rw [←hTe, ←hnsE];exact ht1
  ·rw [←hTe, ←hnsE, ←ht2];exact a4
 refine ⟨rfl,nil_cnd ⟨_,rfl,?_⟩⟩
 simp only [add_mk,Nat.zero_add]
 have HB8:=a1.blk.congr (bw_at s7 so)
 refine ld_b (t := .S) (x:=so) HB8 rfl ?_
 refine ⟨_,rfl,?_⟩
 simp only [add_mk,Nat.zero_add]
 refine st_u HB8 rfl rfl ?_
 intro w9 HB9 F9
 have HB9':=HB9.congr (FS.setT (s' := { s7 with bc:=0,bn:=0,bo:=so,out:=so }) 14 rfl rfl rfl (by decide))
 have hso:∀v∈so.bs,v ∉ [b]:=by intro v hv;simp;intro e;exact a1.dis (e▸hv)
 have V9:Vec 1 w9 so (bytes .u8 ol):=a1.vec.fr F9 hso
 have T79:ST w7 w9 b s7 { s7 with bc:=0,bn:=0,bo:=so,out:=so } := by
  refine W7.out HB9' (a6.trans F9 (by intro v hv;simp at hv;left;simp [hv])) V9.own a1.dis ?_ rfl rfl rfl
  intro v hv
  rcases a5 v hv with h|h|h
  ·subst h;exact absurd hv a1.dis
  ·exact .inl h
  ·exact .inr h
 have T9:=T7.trans T79
 obtain ⟨G9,h99⟩:=T9.gl G h9
 refine ⟨_,rfl,?_⟩
 simp only [add_mk,Nat.zero_add]
 refine ld_b (t := .S) (x:=so) HB9' rfl ?_
 have hol:so.l=ol.length:=V9.arr.len
 refine cnd_d (fun hge=>ld_err G9.e3 fun v h1 h2=>hk0 _ _ v (.inr ⟨_,hTot,by omega⟩) T9.drew h1 h2) (fun hlt => ?_)
 refine ⟨_,rfl,?_⟩
 simp only [add_mk,Nat.zero_add]
 refine ld_b (t := .S) (x:=so) HB9' rfl ?_
 obtain ⟨bs,c1,c2,c3⟩:=leN_split a2 d1 (by omega) a3
 have hbl2:bs.length=((encZ T (shareZ ns) (posZ (2^T) f2) ws).t+(T+T))/8+1:=by
  have:=congrArg List.length c1
  rw [List.length_append] at this
  omega
 refine hk1 w9 _ so ol ⟨⟨by omega,by omega,by omega,hl2,by rw [←hTe];exact hNO⟩,hTot,by omega⟩ T9 V9.arr a2 (by omega) ⟨ns,T,bs,_,by rw [c1];exact d2 bs c2,by rcases hT with h|h<;>omega,g3,two_back hTab hn2 hn hok c2 hbl2 c3⟩ ?_
 intro v hv
 exact mem_SB.mpr (.inr (.inl hv))
structure HU where
 count:Nat→Int
 hw:Nat→Int
 out:Sl
 outT:Sl
 outD:Sl
 maxDec:Int
 srcLen:Int
 msv:Int
 tl:Int
 reuse:Int
 wll:Int
 symL:Int
 maxC:Int
 cc:Bool
 atl:Int
 ptl:Int
 pt:Sl
 ct:Sl
 dt:Sl
 nodes:Sl
 t0:Sl
 t1:Sl
 t2:Sl
 t3:Sl
 fse:Option Addr
def HU.tail (s:HU):List Value := [s.out.val,s.outT.val,s.outD.val,.int .i64 s.maxDec,.int .i64 s.srcLen,.int .u8 s.msv,.int .u8 s.tl,.int .u8 s.reuse,.int .u8 s.wll,.int .u16 s.symL,.int .i64 s.maxC,.bool s.cc,.int .u8 s.atl,.int .u8 s.ptl,
 s.pt.val,s.ct.val,s.dt.val,s.nodes.val,s.t0.val,s.t1.val,s.t2.val,s.t3.val,.pointer s.fse]
def HU.at (s:HU):Cells:=fun i=>if i<256 then some (.int .u32 (s.count i)) else if i<279 then s.tail[i-256]? else if i<535 then some (.int .u8 (s.hw (i-279))) else none
theorem HU.hw_at (s:HU) {i:Nat} (h:i<256):s.at (279+i)=some (.int .u8 (s.hw i)):=by
 unfold HU.at
 rw [if_neg (by omega),if_neg (by omega),if_pos (by omega),Nat.add_sub_cancel_left]
theorem HU.setT {s s':HU} (k:Nat) {v:Value} (h1:s'.count=s.count) (h2:s'.hw=s.hw) (h3:s'.tail=s.tail.set k v) (h4:k<23):updC s.at (256+k) v=s'.at:=by
 funext i
 unfold updC HU.at
 rw [h1,h2,h3]
 by_cases e:i=256+k
 ·subst e
  rw [if_pos rfl,if_neg (by omega),if_pos (by omega),Nat.add_sub_cancel_left,List.getElem?_set_self (by exact h4)]
 ·rw [if_neg e]
  split
  ·rfl
  ·split
   ·rw [List.getElem?_set_ne (by omega)]
   ·rfl
theorem HU.setW {s:HU} {i:Nat} {x:Int} (h:i<256):updC s.at (279+i) (.int .u8 x)=({ s with hw:=updF s.hw i x } : HU).at:=by
 funext j
 unfold updC HU.at updF
 by_cases e:j=279+i
 ·subst e
  rw [if_pos rfl,if_neg (by omega),if_neg (by omega),if_pos (by omega)]
  simp
 ·rw [if_neg e]
  by_cases h1:j<256
  ·rw [if_pos h1,if_pos h1]
  ·rw [if_neg h1,if_neg h1]
   by_cases h2:j<279
   ·rw [if_pos h2,if_pos h2];rfl
   ·rw [if_neg h2,if_neg h2]
    by_cases h3:j<535
    ·rw [if_pos h3,if_pos h3]
     dsimp only
     rw [if_neg (by omega)]
    ·rw [if_neg h3,if_neg h3]
def HU.zero:HU:=⟨fun _=>0,fun _=>0,⟨none,0,0⟩,⟨none,0,0⟩,⟨none,0,0⟩,0,0,0,0,0,0,0,0,false,0,0,⟨none,0,0⟩,⟨none,0,0⟩,⟨none,0,0⟩,⟨none,0,0⟩,⟨none,0,0⟩,⟨none,0,0⟩,⟨none,0,0⟩,⟨none,0,0⟩,none⟩
theorem HU.atZ:(fun i=>(⟨z94⟩:Array Value)[i]?)=HU.zero.at:=by
 funext i
 simp only [List.getElem?_toArray]
 unfold z94 HU.at
 rw [rep_get]
 by_cases h1:i<256
 ·rw [if_pos h1,if_pos h1];rfl
 ·rw [if_neg h1,if_neg h1]
  by_cases h2:i<279
  ·rw [if_pos h2]
   obtain ⟨k,rfl⟩:∃k,i=256+k:=⟨i-256,by omega⟩
   rw [Nat.add_sub_cancel_left]
   have hk:k<23:=by omega
   have:k=0∨k=1∨k=2∨k=3∨k=4∨k=5∨k=6∨k=7∨k=8∨k=9∨k=10∨k=11∨k=12∨k=13∨k=14∨k=15∨k=16∨k=17∨k=18∨k=19∨k=20∨k=21∨k=22:=by omega
   rcases this with rfl|rfl|rfl|rfl|rfl|rfl|rfl|rfl|rfl|rfl|rfl|rfl|rfl|rfl|rfl|rfl|rfl|rfl|rfl|rfl|rfl|rfl|rfl<;>rfl
  ·rw [if_neg h2]
   obtain ⟨k,rfl⟩:∃k,i=279+k:=⟨i-279,by omega⟩
   have e:(List.replicate 3 (Value.slice none 0 0)++(List.replicate 2 (Value.int .i64 0)++(List.replicate 4 (Value.int .u8 0)++([Value.int .u16 0]++([Value.int .i64 0]++([Value.bool false]++(List.replicate 2 (Value.int .u8 0)++(List.replicate 8 (Value.slice none 0 0)++([Value.pointer none]++List.replicate 256 (Value.int .u8 0))))))))))[279+k-256]? = (List.replicate 256 (Value.int .u8 0))[k]? := by
    rw [show 279+k-256=k+23 by omega]
    rfl
   rw [e,List.getElem?_replicate]
   by_cases h3:k<256
   ·rw [if_pos h3,if_pos (by omega)];rfl
   ·rw [if_neg h3,if_neg (by omega)]
theorem c64 {w:World} {n:Nat} {K:Int→PT} (h0:0<n) (h:n<4294967296) (hk:K (n.log2:Nat) w):callP Tryd.prog 64 #[.int .u32 n] [.c (.I .u32)] K w:=by
 apply q64_ok
 unfold q64
 refine c81 h ?_
 have hl:n.log2<32:=(Nat.log2_lt (by omega)).mpr (by omega)
 have e:lenOf n=n.log2+1:=by unfold lenOf;rw [if_neg (by omega)]
 rw [e,wI64 (by omega) (by omega),wU32 (by omega) (by omega)]
 rw [show (((n.log2+1:Nat):Int)-1)=((n.log2:Nat):Int) by omega]
 exact hk
def sF (g:Nat→Nat) (a:Nat):Nat→Nat
 | 0=>0
 | n+1=>sF g a n+g (a+n)
theorem sF_congr {g h:Nat→Nat} {a:Nat} : ∀ {n:Nat},(∀i,a≤i→i<a+n→g i=h i)→sF g a n=sF h a n
 | 0,_=>rfl
 | n+1,e=>by rw [sF,sF,sF_congr (fun i h1 h2=>e i h1 (by omega)),e (a+n) (by omega) (by omega)]
theorem sF_mem (g:Nat→Nat) (a:Nat):∀ {n i:Nat},a≤i→i<a+n→g i≤sF g a n
 | 0,i,h1,h2=>by omega
 | n+1,i,h1,h2=>by
  rw [sF]
  by_cases e:i=a+n
  ·subst e;omega
  ·have:=sF_mem g a (n:=n) h1 (by omega);omega
def updN (f:Nat→Nat) (o v:Nat):Nat→Nat:=fun i=>if i=o then v else f i
theorem updN_eq (f:Nat→Nat) (o v:Nat):updN f o v o=v:=if_pos rfl
theorem updN_ne {f:Nat→Nat} {o v i:Nat} (h:i≠o):updN f o v i=f i:=if_neg h
theorem sF_upd (φ:Nat→Nat) (b:Nat→Nat) (q v:Nat):∀n,q<n→sF (fun i=>φ (updN b q v i)) 0 n+φ (b q)=sF (fun i=>φ (b i)) 0 n+φ v
 | 0,h=>by omega
 | n+1,h=>by
  rw [sF,sF,Nat.zero_add]
  by_cases e:q=n
  ·subst e
   have:sF (fun i=>φ (updN b q v i)) 0 q=sF (fun i=>φ (b i)) 0 q:=sF_congr (fun i h1 h2=>by rw [updN_ne (by omega)])
   rw [this,updN_eq];omega
  ·have:=sF_upd φ b q v n (by omega)
   rw [updN_ne (i:=n) (fun h=>e h.symm)];omega
theorem sF_zero {g:Nat→Nat} : ∀ {n:Nat},(∀i,i<n→g i=0)→sF g 0 n=0
 | 0,_=>rfl
 | n+1,h=>by rw [sF,Nat.zero_add,h n (by omega),sF_zero (fun i hi=>h i (by omega))]
theorem sF_le_mul {g:Nat→Nat} {M:Nat} : ∀ {n:Nat},(∀i,i<n→g i≤M)→sF g 0 n≤n*M
 | 0,_=>by simp [sF]
 | n+1,h=>by
  rw [sF,Nat.zero_add,Nat.succ_mul]
  have:=sF_le_mul (n:=n) (fun i hi=>h i (by omega))
  have:=h n (by omega)
  omega
theorem slcA_all {w:World} {b o m:Nat} {κ:Sl→PT} (hm:0<m) (h:κ ⟨some ⟨b,o,none⟩,m,m⟩ w):slcA 1 m ⟨b,o,none⟩ none none none κ w:=by
 refine ⟨0,m,m,rfl,rfl,rfl,?_⟩
 rw [if_neg (by omega),Nat.zero_mul,add_mk,Nat.add_zero,Nat.sub_zero]
 exact h
def cN (f:Nat→Nat) (s:Nat):Nat→Nat
 | 0=>0
 | i+1=>cN f s i+if f i=s then 1 else 0
theorem cN_le (f:Nat→Nat) (s:Nat):∀i,cN f s i≤i
 | 0=>Nat.le_refl _
 | i+1=>by
  have:=cN_le f s i
  rw [cN];split<;>omega
theorem cN_mono (f:Nat→Nat) (s:Nat) {a b:Nat} (h:a≤b):cN f s a≤cN f s b:=by
 induction b with
 | zero=>have:a=0:=(by omega);subst this;exact Nat.le_refl _
 | succ b ih =>
  by_cases e:a=b+1
  ·subst e;exact Nat.le_refl _
  ·have:=ih (by omega)
   rw [cN];omega
theorem cN_congr {f g:Nat→Nat} {s:Nat} : ∀ {n:Nat},(∀i,i<n→f i=g i)→cN f s n=cN g s n
 | 0,_=>rfl
 | n+1,h=>by rw [cN,cN,cN_congr (n:=n) (fun i hi=>h i (by omega)),h n (by omega)]
def lnS (σ b:Nat→Nat):Nat→Nat→Nat
 | 0=>fun _=>0
 | j+1=>updN (lnS σ b j) (σ j) (b j)
theorem lnS_out {σ b:Nat→Nat} {i:Nat} : ∀ {n:Nat},(∀j,j<n→σ j≠i)→lnS σ b n i=0
 | 0,_=>rfl
 | n+1,h=>by
  rw [lnS,updN_ne (fun e=>h n (by omega) e.symm)]
  exact lnS_out (fun j hj=>h j (by omega))
theorem lnS_at {σ b:Nat→Nat} {j:Nat} : ∀ {n:Nat},(∀i j,i<n→j<n→σ i=σ j→i=j)→j<n→lnS σ b n (σ j)=b j
 | 0,_,h=>by omega
 | n+1,hi,h=>by
  rw [lnS]
  by_cases e:j=n
  ·subst e;rw [updN_eq]
  ·rw [updN_ne (fun he=>e (hi j n (by omega) (by omega) he))]
   exact lnS_at (fun i j h1 h2 he=>hi i j (by omega) (by omega) he) (by omega)
theorem lnS_sum {σ b φ:Nat→Nat} {L:Nat} (h0:φ 0=0):∀ {n:Nat},(∀i j,i<n→j<n→σ i=σ j→i=j)→(∀j,j<n→σ j<L)→sF (fun i=>φ (lnS σ b n i)) 0 L=sF (fun j=>φ (b j)) 0 n
 | 0,_,_=>by
  rw [sF]
  exact sF_zero (fun i hi=>h0)
 | n+1,hi,hl=>by
  have h1:=sF_upd φ (lnS σ b n) (σ n) (b n) L (hl n (by omega))
  rw [lnS_out (fun j hj he=>by have:=hi j n (by omega) (by omega) he;omega),h0,Nat.add_zero,lnS_sum h0 (fun i j h1 h2 he=>hi i j (by omega) (by omega) he) (fun j hj=>hl j (by omega))] at h1
  rw [sF,Nat.zero_add]
  exact h1
structure HT (cnt:Nat→Nat) (L M:Nat) (ln:Nat→Nat):Prop where
 pos:∀i,i<L→(0<ln i↔0<cnt i)
 le:∀i,i<L→ln i≤M
 m1:1≤M
 m11:M≤11
 kr:sF (fun i=>if 0<ln i then 2^(M-ln i) else 0) 0 L=2^M
 mono:∀i j,i<L→j<L→0<cnt j→cnt j<cnt i→ln i≤ln j
theorem nw_n {w:World} {k:IntKind} {n:Nat} {T:TypeId} {κ:Addr→PT} (hk:∀w',Fm w w' []→w'.heap.size=w.heap.size+1→Blk w' w.heap.size (arrC k n fun _=>0)→κ ⟨w.heap.size,0,none⟩ w'):nw (List.replicate n (.int k 0)) T κ w:=by
 refine hk _ (Fm.refl w []).alloc (World.size_alloc _ _) (Blk.new.congr ?_)
 funext i
 unfold arrC
 rw [List.getElem?_toArray,List.getElem?_replicate]
theorem ixS_2 {w:World} {b l c k:Nat} {i:Int} {κ:Addr→PT} (hi:i=k) (hk:k<l) (h:κ ⟨b,k*2,none⟩ w):ixS 2 ⟨some ⟨b,0,none⟩,l,c⟩ i κ w:=by
 refine ixS_b rfl hi hk ?_
 rw [Nat.zero_add]
 exact h
def U8A (w:World) (s:Sl):Prop:=∀a,s.a=some a→∀i,i<s.c→∃x:Int,w.cell? ⟨a.block,i,none⟩=some (.int .u8 x)
structure VecU (w:World) (s:Sl) (l:List Nat):Prop where
 vec:Vec 1 w s (bytes .u8 l)
 u8:U8A w s
 c63:s.c<2^63
theorem bytes_len (k:IntKind) (l:List Nat):(bytes k l).length=l.length:=by unfold bytes;rw [List.length_map]
theorem VecU.len {w:World} {s:Sl} {l:List Nat} (h:VecU w s l):s.l=l.length:=by
 have:=h.vec.len
 rw [bytes_len] at this;omega
theorem VecU.lt {w:World} {s:Sl} {l:List Nat} (h:VecU w s l):∀b∈s.bs,b<w.heap.size:=h.vec.lt
theorem U8A.fr {w w':World} {s:Sl} {S:List Nat} (h:U8A w s) (F:Fm w w' S) (hS:∀b∈s.bs,b∉S):U8A w' s:=by
 intro a ha i hi
 obtain ⟨x,hx⟩:=h a ha i hi
 have hl:=World.block_lt_of_cell? _ _ hx
 exact ⟨x,by rw [←hx];exact cell?_of_heap (F.old a.block hl (hS _ (by unfold Sl.bs;rw [ha];simp))) _ _⟩
theorem VecU.fr {w w':World} {s:Sl} {l:List Nat} {S:List Nat} (h:VecU w s l) (F:Fm w w' S) (hS:∀b∈s.bs,b∉S):VecU w' s l:=⟨h.vec.fr F hS,h.u8.fr F hS,h.c63⟩
theorem app_vuF {T:TypeId} {s x:Sl} {κ:Sl→PT} {w:World} {l xs:List Nat} (h:VecU w s l) (hx:Has 1 w x (bytes .u8 xs)) (hb:s.l+x.l≤2^46)
  (hk:∀s' w',VecU w' s' (l++xs)→Fm w w' s'.bs→Fm w w' s.bs→(∀b∈s'.bs,b∈s.bs∨w.heap.size≤b)→κ s' w'):app z5 T 1 s x κ w:=by
 have hxl:xs.length=x.l:=by have:=hx.len;rw [bytes_len] at this;omega
 have hll:=h.len
 refine ⟨by rw [Nat.mul_one];exact hb,?_,?_⟩
 ·intro hc
  refine ⟨bytes .u8 xs,hx.len,hx.get,hx.non,hx.one,?_⟩
  cases ha:s.a with
  | some a =>
   obtain ⟨h1,h2,f,h3,h4,h5⟩:=h.vec.blk a ha
   have hu:=h.u8 a ha
   obtain ⟨ab,ao,asp⟩:=a
   simp only at h1 h2 h3 hu
   subst h1 h2
   simp only [add_mk,Nat.zero_add]
   have e1:s.l*z5.length=s.l:=by show s.l*1=s.l;omega
   rw [e1]
   have hbl:=bytes_len .u8 xs
   refine ⟨?_,?_⟩
   ·intro i hi
    exact canSt_b h3 (h5 _ (by omega))
   ·have h6:=h3.setL (o:=s.l) (xs:=bytes .u8 xs) (fun i hi=>h5 _ (by omega))
    refine hk _ _ ⟨⟨?_,?_,?_,?_⟩,?_,h.c63⟩ ?_ ?_ ?_
    ·rw [bytes_len,List.length_append];simp only;omega
    ·exact hc
    ·intro h;cases h
    ·intro a ha'
     injection ha' with ha'
     subst ha'
     refine ⟨rfl,rfl,_,h6,?_,?_⟩
     ·intro i hi
      rw [bytes_len,List.length_append] at hi
      have e:bytes .u8 (l++xs)=bytes .u8 l++bytes .u8 xs:=by simp [bytes]
      have hl1:=bytes_len .u8 l
      unfold updL
      rw [e]
      by_cases hi2:s.l≤i
      ·rw [if_pos (by omega),List.getElem?_append_right (by omega),hl1,hll]
      ·rw [if_neg (by omega),h4 i (by omega),List.getElem?_append_left (by omega)]
     ·intro i hi
      unfold updL
      split
      ·rename_i hh
       rw [List.getElem?_eq_getElem (by omega)];rfl
      ·exact h5 i hi
    ·intro a ha' i hi
     injection ha' with ha'
     subst ha'
     show ∃x:Int,_
     rw [h6.cell]
     unfold updL
     split
     ·rename_i hh
      refine ⟨(xs[i-s.l]'(by omega):Nat),?_⟩
      unfold bytes
      rw [List.getElem?_map,List.getElem?_eq_getElem (by omega)]
      rfl
     ·obtain ⟨y,hy⟩:=hu i hi
      rw [h3.cell] at hy
      exact ⟨y,hy⟩
    ·exact (Fm.refl w _).setL (.inl (by simp [Sl.bs]))
    ·exact (Fm.refl w _).setL (.inl (by unfold Sl.bs;rw [ha];simp))
    ·intro b hb'
     left
     unfold Sl.bs at hb' ⊢
     rw [ha]
     exact hb'
  | none =>
   have h0:=h.vec.non ha
   have h01:=h.vec.cap
   have hx0:x.l=0:=by omega
   have hs0:s.l=0:=by omega
   have hxs:xs = []:=List.length_eq_zero_iff.mp (by omega)
   have hl:l = []:=List.length_eq_zero_iff.mp (by omega)
   subst hxs hl
   refine hk _ _ ⟨⟨?_,?_,?_,?_⟩,?_,h.c63⟩ (Fm.refl w _) (Fm.refl w _) ?_
   ·simp [hx0,hs0,bytes]
   ·exact hc
   ·intro _;exact h0
   ·intro a ha';cases ha'
   ·intro a ha';cases ha'
   ·intro b hb';unfold Sl.bs at hb';simp at hb'
 ·intro hc
  have e0:∀n:Nat,n*z5.length=n:=fun n=>by show n*1=n;omega
  refine ⟨bytes .u8 l,bytes .u8 xs,h.vec.len,?_,?_,hx.len,hx.get,hx.non,?_⟩
  ·intro b hb' i hi
   obtain ⟨h1,h2,f,h3,h4,h5⟩:=h.vec.blk b hb'
   obtain ⟨ab,ao,asp⟩:=b
   simp only at h1 h2 h3
   subst h1 h2
   rw [add_mk,Nat.zero_add,h3.cell,h4 i hi]
  ·intro ha
   have h0:=h.vec.non ha
   have h01:=h.vec.cap
   have:l = []:=List.length_eq_zero_iff.mp (by omega)
   subst this;rfl
  ·intro c hc1 hc2
   have hl1:=bytes_len .u8 l
   have hl2:=bytes_len .u8 xs
   have B:Blk (w.drew.alloc (.cells ((bytes .u8 l).toArray++(bytes .u8 xs).toArray++zrep z5 (c-(s.l+x.l))) T)) w.drew.heap.size fun i=>((bytes .u8 l).toArray++(bytes .u8 xs).toArray++zrep z5 (c-(s.l+x.l)))[i]? := Blk.new
   have hcell:∀i,i<c→∃y:Int,((bytes .u8 l).toArray++(bytes .u8 xs).toArray++zrep z5 (c-(s.l+x.l)))[i]? = some (.int .u8 y):=by
    intro i hi
    by_cases h1:i<s.l
    ·rw [Array.getElem?_append_left (by simp only [Array.size_append,List.size_toArray];omega),Array.getElem?_append_left (by simp only [List.size_toArray];omega)]
     refine ⟨(l[i]'(by omega):Nat),?_⟩
     unfold bytes
     rw [List.getElem?_toArray,List.getElem?_map,List.getElem?_eq_getElem (by omega)];rfl
    ·by_cases h2:i<s.l+x.l
     ·rw [Array.getElem?_append_left (by simp only [Array.size_append,List.size_toArray];omega),Array.getElem?_append_right (by simp only [List.size_toArray];omega)]
      refine ⟨(xs[i-s.l]'(by omega):Nat),?_⟩
      rw [List.getElem?_toArray,List.size_toArray,hl1]
      unfold bytes
      rw [List.getElem?_map, ←hll,List.getElem?_eq_getElem (by omega)];rfl
     ·rw [Array.getElem?_append_right (by simp only [Array.size_append,List.size_toArray];omega)]
      refine ⟨0,?_⟩
      show (zrep [.int .u8 0] (c-(s.l+x.l)))[_]? = _
      rw [zrep1,if_pos (by simp only [Array.size_append,List.size_toArray];omega)]
   refine hk _ _ ⟨⟨?_,hc1,?_,?_⟩,?_,hc2⟩ (Fm.refl w _).drew.alloc ?_ ?_
   ·rw [bytes_len,List.length_append];simp only;omega
   ·intro h;cases h
   ·intro a ha'
    injection ha' with ha'
    subst ha'
    refine ⟨rfl,rfl,_,B,?_,?_⟩
    ·intro i hi
     rw [bytes_len,List.length_append] at hi
     have e:bytes .u8 (l++xs)=bytes .u8 l++bytes .u8 xs:=by simp [bytes]
     rw [Array.getElem?_append_left (by simp only [Array.size_append,List.size_toArray];omega),e]
     rw [←Array.getElem?_toList];simp
    ·intro i hi
     simp only at hi
     obtain ⟨y,hy⟩:=hcell i (by omega)
     rw [hy];rfl
   ·intro a ha' i hi
    injection ha' with ha'
    subst ha'
    obtain ⟨y,hy⟩:=hcell i hi
    exact ⟨y,by rw [←hy];exact B.cell i⟩
   ·exact (Fm.refl w _).drew.alloc
   ·intro b hb'
    right
    unfold Sl.bs at hb'
    simp at hb'
    subst hb'
    exact Nat.le_refl _
theorem app_vu {T:TypeId} {s x:Sl} {κ:Sl→PT} {w:World} {l xs:List Nat} (h:VecU w s l) (hx:Has 1 w x (bytes .u8 xs)) (hb:s.l+x.l≤2^46)
  (hk:∀s' w',VecU w' s' (l++xs)→Fm w w' s.bs→(∀b∈s'.bs,b∈s.bs∨w.heap.size≤b)→κ s' w'):app z5 T 1 s x κ w :=
 app_vuF h hx hb (fun s' w' h1 _ h2 h3=>hk s' w' h1 h2 h3)
theorem app_1uF {T T':TypeId} {s:Sl} {κ:Sl→PT} {w:World} {l:List Nat} {v:Nat} (h:VecU w s l) (hb:s.l+1≤2^46)
  (hk:∀s' w',VecU w' s' (l ++ [v])→Fm w w' s'.bs→Fm w w' s.bs→(∀b∈s'.bs,b∈s.bs∨w.heap.size≤b)→κ s' w'):nw [.int .u8 (v:Nat)] T' (fun p=>app z5 T 1 s ⟨some p,1,1⟩ κ) w:=by
 have h0:Fm w (w.alloc (.cells ⟨[.int .u8 (v:Nat)]⟩ T')) []:=(Fm.refl w []).alloc
 refine app_vuF (xs := [v]) (h.fr h0 (by simp)) ⟨rfl,?_,(fun h=>by cases h),by simp [bytes,one]⟩ hb ?_
 ·intro b hb' i hi
  injection hb' with hb'
  subst hb'
  have hi:i=0:=by simpa [bytes] using hi
  subst hi
  simp [add_mk,bytes]
 ·intro s' w' h1 h1' h2 h3
  refine hk s' w' h1 ((h0.mono (S':=s'.bs) (by simp)).trans h1' (fun b hb => .inl hb)) ((h0.mono (S':=s.bs) (by simp)).trans h2 (fun b hb => .inl hb)) ?_
  intro b hb'
  rcases h3 b hb' with h4|h4
  ·exact .inl h4
  ·right;rw [World.size_alloc] at h4;omega
theorem app_1u {T T':TypeId} {s:Sl} {κ:Sl→PT} {w:World} {l:List Nat} {v:Nat} (h:VecU w s l) (hb:s.l+1≤2^46)
  (hk:∀s' w',VecU w' s' (l ++ [v])→Fm w w' s.bs→(∀b∈s'.bs,b∈s.bs∨w.heap.size≤b)→κ s' w'):nw [.int .u8 (v:Nat)] T' (fun p=>app z5 T 1 s ⟨some p,1,1⟩ κ) w:=by
 have h0:Fm w (w.alloc (.cells ⟨[.int .u8 (v:Nat)]⟩ T')) []:=(Fm.refl w []).alloc
 refine app_vu (xs := [v]) (h.fr h0 (by simp)) ⟨rfl,?_,(fun h=>by cases h),by simp [bytes,one]⟩ hb ?_
 ·intro b hb' i hi
  injection hb' with hb'
  subst hb'
  have hi:i=0:=by simpa [bytes] using hi
  subst hi
  simp [add_mk,bytes]
 ·intro s' w' h1 h2 h3
  refine hk s' w' h1 ((h0.mono (S':=s.bs) (by simp)).trans h2 (fun b hb => .inl hb)) ?_
  intro b hb'
  rcases h3 b hb' with h4|h4
  ·exact .inl h4
  ·right;rw [World.size_alloc] at h4;omega
def b2w (M r:Nat):Nat:=if r=0∨M<r then 0 else M+1-r
theorem b2w_le (M r:Nat):b2w M r≤M:=by unfold b2w;split<;>omega
def wtF (M:Nat) (ln:Nat→Nat) (n:Nat):Nat:=b2w M (ln n)
def wtL (M:Nat) (ln:Nat→Nat) (L:Nat):List Nat:=(List.range (L-1)).map (wtF M ln)
theorem cN_count (f:Nat→Nat) (s:Nat):∀n,cN f s n=((List.range n).map f).count s
 | 0=>rfl
 | n+1=>by
  rw [cN,cN_count f s n,List.range_succ,List.map_append,List.count_append]
  simp [List.count_cons,List.count_nil]
section
variable {w:World} {g fb pb tb L M:Nat} {s:HU} {fs:FS} {ln:Nat→Nat}
theorem wr_b2w {R11:Unit→PT} (HP:Blk w pb (arrC .u8 12 fun _=>0)) (hM:M≤11) (hk:∀w',Blk w' pb (arrC .u8 12 fun r=>((b2w M r:Nat):Int))→Fm w w' [pb]→R11 () w') :
  loopP (1:Int) (q65_L0 ⟨pb,0,none⟩ (M:Int) R11) w:=by
 refine ⟨fun x w'=>∃n:Nat,x=(n:Int)∧1≤n∧n≤M+1∧Blk w' pb (arrC .u8 12 fun r=>((if r<n then b2w M r else 0:Nat):Int))∧Fm w w' [pb],fun x _=>20-x.toNat,⟨1,rfl,by omega,by omega,HP.congr ?_,Fm.refl _ _⟩,?_⟩
 ·congr 1
  funext r
  split
  ·have:r=0:=by omega
   subst this;rfl
  ·rfl
 rintro x w2 ⟨n,rfl,h1,h2,HP2,Fr2⟩
 unfold q65_L0
 rw [wU8 (x:=(M:Int)+1) (by omega) (by omega)]
 refine cnd_d ?_ ?_
 ·intro hc
  refine ixA_o rfl (by omega) ?_
  rw [Nat.zero_add]
  refine st_u HP2 (by rw [arrC_get (by omega)];rfl) rfl ?_
  intro w3 HP3 F3
  rw [wU8 (by omega) (by omega),arrC_upd (by omega)] at HP3
  rw [wU8 (by omega) (by omega)]
  refine ⟨⟨n+1,by simp,by omega,by omega,HP3.congr ?_,Fr2.trans F3 (fun x hx => .inl hx)⟩,by dsimp only;omega⟩
  congr 1
  funext r
  unfold updF
  by_cases e:r=n
  ·subst e
   rw [if_pos rfl,if_pos (by omega)]
   unfold b2w
   rw [if_neg (by omega)];omega
  ·rw [if_neg e]
   show (((if r<n then b2w M r else 0):Nat):Int)=_
   by_cases e2:r<n
   ·rw [if_pos e2,if_pos (by omega)]
   ·rw [if_neg e2,if_neg (by omega)]
 ·intro hc
  have hn:n=M+1:=by omega
  subst hn
  refine hk w2 (HP2.congr ?_) Fr2
  congr 1
  funext r
  split
  ·rfl
  ·unfold b2w;rw [if_pos (.inr (by omega))]
theorem wr_clear {R20:Unit→PT} (HB:Blk w fb fs.at) (hk:∀w' c',(∀i,i<16→c' i=0)→Blk w' fb ({ fs with count:=c' } : FS).at→Fm w w' [fb]→R20 () w') :
  loopP (0:Int) (q65_L1 ⟨some ⟨fb,0,none⟩,256,256⟩ R20 ⟨some ⟨fb,0,none⟩,16,256⟩) w:=by
 refine ⟨fun x w'=>∃(n:Nat) (c':Nat→Int),x=(n:Int)∧n≤16∧(∀i,i<n→c' i=0)∧Blk w' fb ({ fs with count:=c' } : FS).at∧Fm w w' [fb],fun x _=>20-x.toNat,⟨0,fs.count,rfl,by omega,fun i hi=>absurd hi (Nat.not_lt_zero _),HB,Fm.refl _ _⟩,?_⟩
 rintro x w2 ⟨n,c2,rfl,h1,hc2,HB2,Fr2⟩
 unfold q65_L1
 refine cnd_d ?_ ?_
 ·intro hc
  have hn:n<16:=by simp only at hc;omega
  refine ixS_o rfl (by omega) ?_
  rw [Nat.zero_add]
  refine st_u HB2 (by rw [FS.count_at _ (by omega)];rfl) rfl ?_
  intro w3 HB3 F3
  rw [FS.setC (by omega)] at HB3
  rw [wI64 (by omega) (by omega)]
  refine ⟨⟨n+1,_,by simp,hn,?_,HB3,Fr2.trans F3 (fun x hx => .inl hx)⟩,by dsimp only;omega⟩
  intro i hi
  show updF c2 n 0 i=0
  unfold updF
  split
  ·rfl
  ·exact hc2 i (by omega)
 ·intro hc
  have hn:n=16:=by simp only at hc;omega
  subst hn
  exact hk w2 c2 hc2 HB2 Fr2
theorem wr_wts {R26:Unit→PT} {capt:Nat} {F:Cells} (HP:Blk w pb (arrC .u8 12 fun r=>((b2w M r:Nat):Int))) (B:Blk w g s.at) (HB:Blk w fb fs.at) (hz:∀i,i<16→fs.count i=0) (HT:Blk w tb F) (hF:∀i,i<L→F (i*2+1)=some (.int .u8 (ln i:Nat))) (hL2:2≤L) (hL:L≤256) (hM:M≤11) (hln:∀i,i<L→ln i≤M)
  (d1:g≠pb) (d2:g≠fb) (d3:g≠tb) (d4:pb≠fb) (d5:tb≠fb)
  (hk:∀(w':World) (c' hw':Nat→Int),(∀i,i<16→c' i=(cN (wtF M ln) i (L-1):Nat))→(∀n,n<L-1→hw' n=(wtF M ln n:Nat))→Blk w' fb ({ fs with count:=c' } : FS).at→Blk w' g ({ s with hw:=hw' } : HU).at→Fm w w' [g,fb]→R26 () w') :
  loopP (0:Int) (q65_L2 ⟨some ⟨tb,0,none⟩,L,capt⟩ ⟨pb,0,none⟩ (L:Int) ⟨some ⟨g,279,none⟩,256,256⟩ ⟨some ⟨fb,0,none⟩,256,256⟩ R26) w:=by
 refine ⟨fun x w'=>∃(n:Nat) (c' hw':Nat→Int),x=(n:Int)∧n≤L-1∧(∀i,i<16→c' i=(cN (wtF M ln) i n:Nat))∧(∀k,k<n→hw' k=(wtF M ln k:Nat))∧Blk w' fb ({ fs with count:=c' } : FS).at∧Blk w' g ({ s with hw:=hw' } : HU).at∧Fm w w' [g,fb],fun x _=>300-x.toNat,
  ⟨0,fs.count,s.hw,rfl,by omega,fun i hi=>by rw [hz i hi];rfl,fun k hk=>absurd hk (Nat.not_lt_zero _),HB,B,Fm.refl _ _⟩,?_⟩
 rintro x w2 ⟨n,c2,hw2,rfl,h1,hc2,hh2,HB2,B2,Fr2⟩
 unfold q65_L2
 rw [wU16 (x:=(L:Int)-1) (by omega) (by omega),wU8 (x:=(L:Int)-1) (by omega) (by omega)]
 refine cnd_d ?_ ?_
 ·intro hc
  have hn:n<L-1:=by omega
  have hl:=hln n (by omega)
  have hwle:wtF M ln n≤11:=Nat.le_trans (b2w_le _ _) hM
  have HT2:=HT.fr Fr2 (by simp;exact ⟨d3.symm,d5⟩)
  have HP2:=HP.fr Fr2 (by simp;exact ⟨d1.symm,d4⟩)
  have ea:andI .u8 ((wtF M ln n:Nat):Int) 15=((wtF M ln n:Nat):Int):=by
   have:=andI_nat (k := .u8) rfl (wtF M ln n) 15 (by simp only [IntKind.bits];omega) (by decide)
   rw [show (15:Int)=((15:Nat):Int) from rfl,this]
   congr 1
   have:=Nat.and_two_pow_sub_one_eq_mod (wtF M ln n) 4
   rw [show 2^4-1=15 from rfl] at this
   rw [this,Nat.mod_eq_of_lt (by omega)]
  refine ixS_2 rfl (by omega) ?_
  simp only [add_mk]
  refine ld_b (t := .I .u8) (x:=((ln n:Nat):Int)) HT2 (hF n (by omega)) ?_
  refine ixA_o rfl (by omega) ?_
  rw [Nat.zero_add]
  refine ld_b (t := .I .u8) (x:=((wtF M ln n:Nat):Int)) HP2 (arrC_get (by omega)) ?_
  rw [ea]
  refine ixS_o rfl (by omega) ?_
  refine st_u B2 (by rw [HU.hw_at _ (by omega)];rfl) rfl ?_
  intro w3 B3 F3
  rw [HU.setW (by omega)] at B3
  have HB3:=HB2.fr F3 (nm1 d2.symm)
  have hcn:=cN_le (wtF M ln) (wtF M ln n) n
  refine ixS_o rfl (by omega) ?_
  rw [Nat.zero_add]
  refine ld_b (t := .I .u32) (x:=((cN (wtF M ln) (wtF M ln n) n:Nat):Int)) HB3 (by rw [FS.count_at _ (by omega)];show some (Value.int .u32 (c2 _))=_;rw [hc2 _ (by omega)];rfl) ?_
  refine ixS_o rfl (by omega) ?_
  rw [Nat.zero_add]
  refine st_u HB3 (by rw [FS.count_at _ (by omega)];rfl) rfl ?_
  intro w4 HB4 F4
  rw [wU32 (by omega) (by omega),FS.setC (by omega)] at HB4
  rw [wU8 (by omega) (by omega)]
  refine ⟨⟨n+1,_,_,by simp,hn,?_,?_,HB4,B3.fr F4 (nm1 d2),(Fr2.trans F3 (by intro v hv;simp at hv;simp [hv])).trans F4 (by intro v hv;simp at hv;simp [hv])⟩,by omega⟩
  ·intro i hi
   show updF c2 (wtF M ln n) _ i=_
   unfold updF
   rw [cN]
   by_cases e:i=wtF M ln n
   ·subst e;rw [if_pos rfl,if_pos rfl];omega
   ·rw [if_neg e,if_neg (fun h=>e h.symm),hc2 i hi];omega
  ·intro k hk2
   show updF hw2 n _ k=_
   unfold updF
   by_cases e:k=n
   ·subst e;rw [if_pos rfl]
   ·rw [if_neg e];exact hh2 k (by omega)
 ·intro hc
  have hn:n=L-1:=by omega
  subst hn
  exact hk w2 c2 hw2 hc2 hh2 HB2 B2 Fr2
theorem wr_max {R39:Int×Int→PT} {c:Nat→Nat} (HB:Blk w fb fs.at) (hc:∀i,i<16→fs.count i=(c i:Nat)) (hlt:∀i,c i<4294967296) (hex:∃i,i<16∧c i≠0)
  (hk:∀m h,h<16→c h≠0→(∀i,i<16→h<i→c i=0)→(∀i,i<16→c i≤m)→(∃i,i<16∧c i=m)→R39 (((m:Nat):Int),((h:Nat):Int)) w) :
  loopP ((0:Int),(0:Int),(0:Int)) (q65_L4 R39 ⟨some ⟨fb,0,none⟩,16,256⟩) w:=by
 refine ⟨fun x w'=>w'=w∧∃(m h n:Nat),x=((m:Int),(h:Int),(n:Int))∧n≤16∧(∀i,i<n→c i≤m)∧(((∀i,i<n→c i=0)∧m=0)∨(h<n∧c h≠0∧(∀i,i<n→h<i→c i=0)∧∃i,i<n∧c i=m)),fun x _=>20-x.2.2.toNat,⟨rfl,0,0,0,rfl,by omega,fun i hi=>absurd hi (Nat.not_lt_zero _),.inl ⟨fun i hi=>absurd hi (Nat.not_lt_zero _),rfl⟩⟩,?_⟩
 rintro x w2 ⟨rfl,m,h,n,rfl,hn,hm,hh⟩
 unfold q65_L4
 simp only
 refine cnd_d ?_ ?_
 ·intro hcn
  have hn2:n<16:=by omega
  have hl:=hlt n
  unfold q65_J3
  refine joinP_id ?_
  simp only
  rw [wI64 (by omega) (by omega)]
  refine ixS_o rfl hn2 ?_
  rw [Nat.zero_add]
  refine ld_b (t := .I .u32) (x:=((c n:Nat):Int)) HB (by rw [FS.count_at _ (by omega),hc n hn2];rfl) ?_
  refine cnd_d ?_ ?_
  ·intro h0
   have h0':c n=0:=by omega
   refine ⟨⟨rfl,m,h,n+1,by simp,hn2,?_,?_⟩,by omega⟩
   ·intro i hi
    by_cases e:i=n
    ·subst e;omega
    ·exact hm i (by omega)
   ·rcases hh with ⟨h1,h2⟩|⟨h1,h2,h3,i,h4,h5⟩
    ·left
     refine ⟨fun i hi => ?_,h2⟩
     by_cases e:i=n
     ·subst e;exact h0'
     ·exact h1 i (by omega)
    ·right
     refine ⟨by omega,h2,fun i hi hi2 => ?_,i,by omega,h5⟩
     by_cases e:i=n
     ·subst e;exact h0'
     ·exact h3 i (by omega) hi2
  ·intro h0
   have h0':c n≠0:=by omega
   rw [wU8 (x:=(n:Int)) (by omega) (by omega)]
   refine cnd_d ?_ ?_
   ·intro h1
    refine ⟨⟨rfl,c n,n,n+1,by simp,hn2,?_,.inr ⟨by omega,h0',fun i hi hi2=>by omega,n,by omega,rfl⟩⟩,by omega⟩
    intro i hi
    by_cases e:i=n
    ·subst e;omega
    ·have:=hm i (by omega);omega
   ·intro h1
    refine ⟨⟨rfl,m,n,n+1,by simp,hn2,?_,.inr ⟨by omega,h0',fun i hi hi2=>by omega,?_⟩⟩,by omega⟩
    ·intro i hi
     by_cases e:i=n
     ·subst e;omega
     ·exact hm i (by omega)
    ·rcases hh with ⟨h2,h3⟩|⟨_,_,_,i,h4,h5⟩
     ·omega
     ·exact ⟨i,by omega,h5⟩
 ·intro hcn
  have hn2:n=16:=by omega
  subst hn2
  rcases hh with ⟨h1,h2⟩|⟨h1,h2,h3,h4⟩
  ·obtain ⟨i,hi,hi2⟩:=hex
   exact absurd (h1 i hi) hi2
  ·exact hk m h h1 h2 h3 hm h4
end
def padW (W:Nat→Nat) (L n:Nat):Nat:=if n<L-1 then W n else 0
def rawB (W:Nat→Nat) (L j:Nat):Nat:=16*padW W L (2*j)+padW W L (2*j+1)
def rawT (W:Nat→Nat) (L:Nat):List Nat:=(126+L)::(List.range (L/2)).map (rawB W L)
theorem rawT_ok {W:Nat→Nat} {L:Nat} (h2:2≤L) (hW:∀n,W n≤15):weightsZ (rawT W L)=some ((List.range (L-1)).map W,(rawT W L).length):=by
 have hlen:(rawT W L).length=1+L/2:=by unfold rawT;simp;omega
 unfold weightsZ
 show (if 128≤126+L then if (rawT W L).length<1+(126+L-127+1)/2 then none else some ((List.range (126+L-127)).map (rawZ (rawT W L)),1+(126+L-127+1)/2) else _)=_
 rw [if_pos (by omega),hlen,if_neg (by omega),show 126+L-127=L-1 by omega,show (L-1+1)/2=L/2 by congr 1;omega]
 congr 2
 apply List.map_congr_left
 intro i hi
 have hi2:=List.mem_range.mp hi
 have hg:(rawT W L).getD (1+i/2) 0=rawB W L (i/2):=by
  unfold rawT
  rw [show 1+i/2=i/2+1 by omega,List.getD_cons_succ,List.getD_eq_getElem?_getD,List.getElem?_eq_getElem (by simp;omega)]
  simp
 unfold rawZ
 rw [hg]
 unfold rawB padW
 have h1:=hW (2*(i/2))
 have h3:=hW (2*(i/2)+1)
 split
 ·have e:2*(i/2)=i:=by omega
  rw [e,if_pos hi2]
  rw [e] at h1 h3
  split<;>omega
 ·have e:2*(i/2)+1=i:=by omega
  rw [e,if_pos hi2]
  rw [e] at h3
  split<;>omega
theorem rawB_lt {W:Nat→Nat} {L j:Nat} (hW:∀n,W n≤15):rawB W L j<256:=by
 have h1:=hW (2*j)
 have h2:=hW (2*j+1)
 unfold rawB padW
 split<;>split<;>omega
theorem rawT_by {W:Nat→Nat} {L:Nat} (hW:∀n,W n≤15) (hL:L≤129):By (rawT W L):=by
 intro x hx
 unfold rawT at hx
 rcases List.mem_cons.mp hx with h|h
 ·omega
 ·obtain ⟨j,_,rfl⟩:=List.mem_map.mp h
  exact rawB_lt hW
theorem or_nib {a b:Nat} (ha:a≤15) (hb:b≤15):orI .u8 (shlI .u8 ((a:Nat):Int) 4) ((b:Nat):Int)=((16*a+b:Nat):Int):=by
 rw [show (4:Int)=((4:Nat):Int) from rfl,shlI_u rfl a 4 (by decide),orI_nat rfl _ _ (by simp only [IntKind.bits];omega) (by simp only [IntKind.bits];omega)]
 have e:a*2^4%2^IntKind.bits .u8=2^4*a:=by simp only [IntKind.bits];omega
 have:=Nat.two_pow_add_eq_or_of_lt (i:=4) (b:=b) (by omega) a
 rw [e, ←this]
theorem or_128 {b:Nat} (hb:b<128):orI .u8 128 ((b:Nat):Int)=((128+b:Nat):Int):=by
 have h:=orI_nat (k := .u8) rfl 128 b (by decide) (by simp only [IntKind.bits];omega)
 have:=Nat.two_pow_add_eq_or_of_lt (i:=7) (b:=b) (by omega) 1
 rw [show (128:Int)=((128:Nat):Int) from rfl,h,show (128:Nat)=2^7*1 from rfl, ←this]
section
variable {w:World} {g L:Nat} {s:HU} {W:Nat→Nat} {pre:List Nat} {K:Value→PT}
theorem wr_raw (B:Blk w g s.at) (HO:VecU w s.out pre) (hpre:pre.length≤1000000000) (hg:g∉s.out.bs) (h2:2≤L) (hL:L≤256) (hh:∀n,n<L-1→s.hw n=(W n:Nat)) (hW:∀n,W n≤15) (E:errAt w 0)
  (hk0:129<L→∀v,EG w v→w.cell? ⟨0,0,none⟩=some v→K v w)
  (hk1:∀w' o hw',L≤129→VecU w' o (pre++rawT W L)→Blk w' g ({ s with out:=o,hw:=hw' } : HU).at→(∀v∈o.bs,v∈s.out.bs∨w.heap.size≤v)→g∉o.bs→Fm w w' (g::s.out.bs)→K .nilIface w') :
  q65_J8 (some ⟨g,0,none⟩) K (L:Int) ⟨some ⟨g,279,none⟩,256,256⟩ () w:=by
 have hgl:=B.lt
 have hol:s.out.l=pre.length:=HO.len
 unfold q65_J8
 rw [wU16 (x:=(L:Int)-1) (by omega) (by omega),wU8 (x:=(L:Int)-1) (by omega) (by omega)]
 refine cnd_d ?_ ?_
 ·intro hc
  obtain ⟨v,e1,e2,e3⟩:=E
  exact ⟨v,e1,hk0 (by omega) v ⟨⟨0,by decide,e1⟩,e2⟩ e1⟩
 ·intro hc
  refine ⟨_,rfl,?_⟩
  simp only [add_mk,Nat.zero_add]
  refine ld_b (t := .S) (x:=s.out) B rfl ?_
  rw [wU8 (by omega) (by omega),show (L:Int)-1-1=((L-2:Nat):Int) by omega,or_128 (by omega),show 128+(L-2)=126+L by omega]
  refine app_1u HO (by omega) ?_
  intro s1 w1 HO1 F1 hb1
  have B1:=B.fr F1 hg
  have hg1:g∉s1.bs:=fun h=>by
   rcases hb1 g h with h|h
   ·exact hg h
   ·omega
  rw [show (L:Int)-1=((L-1:Nat):Int) by omega]
  refine ixS_o rfl (by omega) ?_
  refine st_u B1 (by rw [HU.hw_at _ (by omega)];rfl) rfl ?_
  intro w2 B2 F2
  rw [HU.setW (by omega)] at B2
  have HO2:=HO1.fr F2 (by intro b hb;simp;exact fun e=>hg1 (e▸hb))
  have Fr2:Fm w w2 (g::s.out.bs):=(F1.mono (by intro v hv;left;simp [hv])).trans F2 (by intro v hv;simp at hv;simp [hv])
  have hhw:∀n,n<256→n<L→updF s.hw (L-1) 0 n=(padW W L n:Nat):=by
   intro n hn hn2
   unfold updF padW
   by_cases e:n=L-1
   ·rw [if_pos e,if_neg (by omega)];rfl
   ·rw [if_neg e,if_pos (by omega)];exact hh n (by omega)
  have hpw:∀n,padW W L n≤15:=by
   intro n
   unfold padW
   split
   ·exact hW n
   ·omega
  have hpz:padW W L L=0:=by unfold padW;rw [if_neg (by omega)]
  generalize updF s.hw (L-1) 0=hw2 at *
  refine joinP_id ?_
  refine ⟨fun x w'=>∃j:Nat,x.2=((2*j:Nat):Int)∧j≤L/2∧VecU w' x.1 (pre ++ [126+L]++(List.range j).map (rawB W L))∧Blk w' g ({ s with hw:=hw2 } : HU).at∧(∀v∈x.1.bs,v∈s.out.bs∨w.heap.size≤v)∧Fm w w' (g::s.out.bs),fun x _=>300-x.2.toNat,
   ⟨0,rfl,Nat.zero_le _,by simpa using HO2,B2,hb1,Fr2⟩,?_⟩
  rintro ⟨xs,xn⟩ w3 ⟨j,hxn,hj,HO3,B3,hb3,Fr3⟩
  simp only at hxn HO3 hb3
  subst hxn
  have hg3:g∉xs.bs:=fun h=>by
   rcases hb3 g h with h|h
   ·exact hg h
   ·omega
  have hxl:xs.l=pre.length+1+j:=by
   have:=HO3.len
   simp at this;omega
  unfold q65_L6
  simp only
  rw [wU16 (x:=(L:Int)-1) (by omega) (by omega),wU8 (x:=(L:Int)-1) (by omega) (by omega),wU16 (x:=(L:Int)-1) (by omega) (by omega)]
  refine cnd_d ?_ ?_
  ·intro hc2
   unfold drw
   refine ixS_o rfl (by omega) ?_
   refine ld_b (t := .I .u8) (x:=((padW W L (2*j):Nat):Int)) B3.drew (by rw [HU.hw_at _ (by omega)];show some (Value.int .u8 (hw2 _))=_;rw [hhw _ (by omega) (by omega)];rfl) ?_
   refine ⟨by decide,?_⟩
   rw [wU16 (x:=((2*j:Nat):Int)+1) (by omega) (by omega),wU16 (x:=((2*j:Nat):Int)+2) (by omega) (by omega),show ((2*j:Nat):Int)+1=((2*j+1:Nat):Int) by omega]
   refine ixS_o rfl (by omega) ?_
   refine ld_b (t := .I .u8) (x:=((padW W L (2*j+1):Nat):Int)) B3.drew (by rw [HU.hw_at _ (by omega)];show some (Value.int .u8 (hw2 _))=_;rw [hhw _ (by omega) (by omega)];rfl) ?_
   rw [or_nib (hpw _) (hpw _)]
   refine app_1u (HO3.fr (Fm.refl w3 []).drew (by simp)) (by omega) ?_
   intro s4 w4 HO4 F4 hb4
   have F34:Fm w3 w4 xs.bs:=(Fm.refl w3 xs.bs).drew.trans F4 (fun x hx => .inl hx)
   have hsz:=Fr3.size
   refine ⟨⟨j+1,by omega,by omega,?_,B3.fr F34 hg3,?_,Fr3.trans F34 ?_⟩,by omega⟩
   ·rw [show (16*padW W L (2*j)+padW W L (2*j+1):Nat)=rawB W L j from rfl,List.append_assoc (pre ++ [126+L])] at HO4
    rw [List.range_succ,List.map_append]
    exact HO4
   ·intro v hv
    rcases hb4 v hv with h|h
    ·exact hb3 v h
    ·have:w3.drew.heap.size=w3.heap.size:=rfl
     right;omega
   ·intro v hv
    rcases hb3 v hv with h|h
    ·left;simp [h]
    ·exact .inr h
  ·intro hc2
   have hje:j=L/2:=by omega
   subst hje
   unfold q65_J7
   refine ⟨_,rfl,?_⟩
   simp only [add_mk,Nat.zero_add]
   refine st_u B3 rfl rfl ?_
   intro w4 B4 F4
   have B4':=B4.congr (HU.setT (s' := { s with hw:=hw2,out:=xs }) 0 rfl rfl rfl (by decide))
   refine hk1 w4 xs hw2 (by omega) ?_ B4' hb3 hg3 (Fr3.trans F4 (by intro v hv;simp at hv;simp [hv]))
   have:=HO3.fr F4 (by intro b hb;simp;exact fun e=>hg3 (e▸hb))
   rw [List.append_assoc] at this
   exact this
end
theorem SW.fr {w w':World} {b:Nat} {s:FS} {S:List Nat} (W:SW w b s) (F:Fm w w' S) (hS:∀v∈SB b s,v∉S):SW w' b s :=
 ⟨W.blk.fr F (hS b (mem_SB.mpr (.inl rfl))),W.o.fm F (fun v hv=>hS v (mem_SB.mpr (.inr (.inl hv)))),W.x.fm F (fun v hv=>hS v (mem_SB.mpr (.inr (.inr (.inl hv))))),W.y.fm F (fun v hv=>hS v (mem_SB.mpr (.inr (.inr (.inr (.inl hv)))))),W.z.fm F (fun v hv=>hS v (mem_SB.mpr (.inr (.inr (.inr (.inr hv)))))),W.bo,W.bx,W.bY,W.bz,W.ox,W.oy,W.oz,W.xy,W.xz,W.yz⟩
theorem fseT_ok {ol ws:List Nat} (h:FseOK ol ws) (hl:ol.length<128):weightsZ (ol.length::ol)=some (ws,(ol.length::ol).length):=by
 obtain ⟨cs,t,rest,tab,h1,h2,h3,h4⟩:=h
 unfold weightsZ
 simp only
 rw [if_neg (by omega),if_neg (by simp;omega),List.take_length,h1]
 simp only
 rw [if_neg (by omega),h3]
 simp only
 rw [h4]
 simp only [List.length_cons]
 rw [Nat.add_comm]
section
variable {w:World} {g fb tb capt L M:Nat} {s:HU} {fs:FS} {ln:Nat→Nat} {pre:List Nat} {F:Cells} {K:Value→PT}
structure WT (w w':World) (g fb:Nat) (s:HU) (fs fs':FS) (o:Sl):Prop where
 sw:SW w' fb fs'
 ext:∀v∈SB fb fs',v∈SB fb fs∨w.heap.size≤v
 fr:Fm w w' (g::(s.out.bs++SB fb fs))
 new:∀v∈o.bs,v∈s.out.bs∨w.heap.size≤v
 go:g∉o.bs
 dis:∀v∈o.bs,v∉SB fb fs'
theorem c82 {K:Sl→PT} (hk:K ⟨some ⟨fb,0,none⟩,256,256⟩ w):callP Tryd.prog 82 #[.pointer (some ⟨fb,0,none⟩)] [.c .S] K w:=by
 apply q82_ok
 unfold q82
 exact slcA_all (by omega) hk
theorem c83 {K:Unit→PT} {h m:Nat} (HB:Blk w fb fs.at) (hh:h<256) (hk:∀w',Blk w' fb ({ fs with maxC:=(m:Nat),symL:=(h+1:Nat),cc := !decide (((m:Nat):Int)=0) } : FS).at→Fm w w' [fb]→K () w') :
  callP Tryd.prog 83 #[.pointer (some ⟨fb,0,none⟩),.int .u8 (h:Nat),.int .i64 (m:Nat)] [] K w:=by
 apply q83_ok
 unfold q83
 simp only [add_mk,Nat.zero_add]
 refine st_u HB rfl rfl ?_
 intro w1 HB1 F1
 have HB1':=HB1.congr (FS.setT (s' := { fs with maxC:=(m:Nat) }) 13 rfl rfl rfl (by decide))
 refine st_u HB1' rfl rfl ?_
 intro w2 HB2 F2
 rw [wU16 (x:=(h:Int)) (by omega) (by omega),wU16 (x:=(h:Int)+1) (by omega) (by omega)] at HB2
 have HB2':=HB2.congr (FS.setT (s' := { fs with maxC:=(m:Nat),symL:=(h+1:Nat) }) 16 rfl rfl (by
  have:((h:Nat):Int)+1=((h+1:Nat):Int):=by omega
  rw [this];rfl) (by decide))
 refine st_u HB2' rfl rfl ?_
 intro w3 HB3 F3
 exact hk w3 (HB3.congr (FS.setT (s' := { fs with maxC:=(m:Nat),symL:=(h+1:Nat),cc := !decide (((m:Nat):Int)=0) }) 19 rfl rfl rfl (by decide))) ((F1.trans F2 (fun x hx => .inl hx)).trans F3 (fun x hx => .inl hx))
def WMx (ws:List Nat) (m h:Nat):Prop:=h<16∧ws.count h≠0∧(∀i,i<16→h<i→ws.count i=0)∧(∀i,i<16→ws.count i≤m)∧∃i,i<16∧ws.count i=m
def FsOut (ws:List Nat) (k:Nat):Prop:=∃m h,WMx ws m h∧FGood m (h+1) ws k
def FsBad (ws:List Nat):Prop:=∃m h,WMx ws m h∧FBad m (h+1) ws
def TPl (ws:List Nat) (L:Nat):Prop:=L<3∨FsBad ws∨∃k,FsOut ws k∧L/2≤k
def TL (ws:List Nat) (L n:Nat):Prop:=(∃k,3≤L∧FsOut ws k∧k<L/2∧n=k+1)∨(TPl ws L∧L≤129∧n=1+L/2)
def TBad (ws:List Nat) (L:Nat):Prop:=TPl ws L∧129<L
theorem c65 (B:Blk w g s.at) (hsy:s.symL=(L:Nat)) (h2:2≤L) (hL:L≤256) (hat:s.atl=(M:Nat)) (hM1:1≤M) (hM:M≤11) (hfse:s.fse=some ⟨fb,0,none⟩) (SWf:SW w fb fs) (G:GL w) (E:errAt w 0) (h9:∀v∈SB fb fs,9≤v) (g9:9≤g)
  (HO:VecU w s.out pre) (o9:∀v∈s.out.bs,9≤v) (hpre:pre.length≤1000000) (HT:Blk w tb F) (hF:∀i,i<L→F (i*2+1)=some (.int .u8 (ln i:Nat))) (hln:∀i,i<L→ln i≤M)
  (dgo:g∉s.out.bs) (dgf:g∉SB fb fs) (dof:∀v∈s.out.bs,v∉SB fb fs) (dgt:g≠tb) (dto:tb∉s.out.bs) (dtf:tb∉SB fb fs)
  (hk0:TBad (wtL M ln L) L→∀w' fs' hw' v,EG w' v→w'.cell? ⟨0,0,none⟩=some v→Blk w' g ({ s with hw:=hw' } : HU).at→VecU w' s.out pre→WT w w' g fb s fs fs' s.out→K v w')
  (hk1:∀w' fs' hw' o tbl,TL (wtL M ln L) L tbl.length→By tbl→tbl.length≤129→weightsZ tbl=some (wtL M ln L,tbl.length)→VecU w' o (pre++tbl)→Blk w' g ({ s with hw:=hw',out:=o } : HU).at→WT w w' g fb s fs fs' o→K .nilIface w') :
  callP Tryd.prog 65 #[.slice (some ⟨tb,0,none⟩) L capt,.pointer (some ⟨g,0,none⟩)] [.c .V] K w:=by
 have hgl:=B.lt
 have htl:=HT.lt
 have fbm:fb∈SB fb fs:=mem_SB.mpr (.inl rfl)
 have dgfb:g≠fb:=fun e=>dgf (e▸fbm)
 have dtfb:tb≠fb:=fun e=>dtf (e▸fbm)
 have hfl:=SWf.lt fb fbm
 have hol:s.out.l=pre.length:=HO.len
 have hatc:s.at 268=some (.int .u8 (M:Nat)):=by show some (Value.int .u8 s.atl)=_;rw [hat]
 have hsyc:s.at 265=some (.int .u16 (L:Nat)):=by show some (Value.int .u16 s.symL)=_;rw [hsy]
 have hW11:∀n,wtF M ln n≤11:=fun n=>Nat.le_trans (b2w_le _ _) hM
 apply q65_ok (s0:=⟨some ⟨tb,0,none⟩,L,capt⟩)
 unfold q65
 refine nw_n ?_
 intro w1 F1 hs1 HP1
 have dgp:g≠w.heap.size:=by omega
 have dfp:w.heap.size≠fb:=by omega
 have hwp:w.heap.size≤w.heap.size:=Nat.le_refl _
 generalize hpb:w.heap.size=pb at *
 have B1:=B.fr F1 (by simp)
 refine ⟨_,rfl,?_⟩
 simp only [add_mk,Nat.zero_add]
 refine ld_b (t := .I .u8) (x:=((M:Nat):Int)) B1 hatc ?_
 refine ⟨_,rfl,?_⟩
 simp only [add_mk,Nat.zero_add]
 refine ld_b (t := .I .u16) (x:=((L:Nat):Int)) B1 hsyc ?_
 refine ⟨_,rfl,?_⟩
 simp only [add_mk,Nat.zero_add]
 refine slcA_hi (n:=256) rfl (Nat.le_refl _) (by omega) ?_
 refine ixA_o (k:=0) rfl (by omega) ?_
 refine st_u HP1 (by rw [arrC_get (by omega)];rfl) rfl ?_
 intro w2 HP2 F2
 rw [arrC_upd (by omega)] at HP2
 have HP2':Blk w2 pb (arrC .u8 12 fun _=>0):=HP2.congr (by
  congr 1
  funext i
  unfold updF
  split<;>rfl)
 refine joinP_id ?_
 refine wr_b2w HP2' hM ?_
 intro w3 HP3 F3
 have F13:Fm w w3 []:=by
  refine Fm.trans (F1.trans F2 ?_) F3 ?_
  ·intro v hv;right;simp at hv;omega
  ·intro v hv;right;simp at hv;omega
 have B3:=B.fr F13 (by simp)
 have SW3:=SWf.fm F13
 have HT3:=HT.fr F13 (by simp)
 unfold q65_J11
 refine ⟨_,rfl,?_⟩
 simp only [add_mk,Nat.zero_add]
 refine ld_b (t := .P) (x:=some ⟨fb,0,none⟩) B3 (by show some (Value.pointer s.fse)=_;rw [hfse];rfl) ?_
 refine c82 ?_
 refine slc_hi (m:=256) rfl (Nat.le_refl _) ?_
 refine joinP_id ?_
 refine slc_hi (m:=16) rfl (by show 16≤256;omega) ?_
 refine wr_clear SW3.sw.blk ?_
 intro w4 c4 hz4 HB4 F4
 unfold q65_J10
 refine joinP_id ?_
 refine wr_wts (fs := { fs with count:=c4 }) (s:=s) (HP3.fr F4 (nm1 dfp)) (B3.fr F4 (nm1 dgfb)) HB4 hz4 (HT3.fr F4 (nm1 dtfb)) hF h2 hL hM hln dgp dgfb dgt dfp dtfb ?_
 intro w5 c5 hw5 hc5 hh5 HB5 B5 F5
 have Fr5:Fm w3 w5 [g,fb]:=(F4.mono (by intro v hv;simp at hv;simp [hv])).trans F5 (fun x hx => .inl hx)
 have F05:Fm w w5 [g,fb]:=(F13.mono (by simp)).trans Fr5 (fun x hx => .inl hx)
 have HB5':Blk w5 fb ({ fs with count:=c5 } : FS).at:=HB5
 have dsb:∀v∈SB fb fs,v≠g:=fun v hv e=>dgf (e▸hv)
 have SW4:SW w5 fb { fs with count:=c5 } := by
  have d:∀ {l:List Nat},fb∉l→(∀v∈l,v∈SB fb fs)→∀v∈l,v ∉ [g,fb]:=by
   intro l hb hs v hv
   simp
   exact ⟨dsb v (hs v hv),fun e=>hb (e▸hv)⟩
  exact ⟨HB5',SWf.o.fm F05 (d SWf.bo (fun v hv=>mem_SB.mpr (.inr (.inl hv)))),SWf.x.fm F05 (d SWf.bx (fun v hv=>mem_SB.mpr (.inr (.inr (.inl hv))))),SWf.y.fm F05 (d SWf.bY (fun v hv=>mem_SB.mpr (.inr (.inr (.inr (.inl hv)))))),SWf.z.fm F05 (d SWf.bz (fun v hv=>mem_SB.mpr (.inr (.inr (.inr (.inr hv)))))),SWf.bo,SWf.bx,SWf.bY,SWf.bz,SWf.ox,SWf.oy,SWf.oz,SWf.xy,SWf.xz,SWf.yz⟩
 have HO5:VecU w5 s.out pre:=HO.fr F05 (by intro v hv;simp;exact ⟨fun e=>dgo (e▸hv),fun e=>dof v hv (e▸fbm)⟩)
 have G5:GL w5:=G.fm F05 (by intro v hv;simp at hv;rcases hv with rfl|rfl;exact g9;exact h9 _ fbm)
 have E5:errAt w5 0:=E.fm F05 (by simp;exact ⟨by omega,by have:=h9 _ fbm;omega⟩)
 have sz5:=F05.size
 have raw:TPl (wtL M ln L) L→∀(w6:World) (fs6:FS),Blk w6 g ({ s with hw:=hw5 } : HU).at→VecU w6 s.out pre→errAt w6 0→SW w6 fb fs6→(∀v∈SB fb fs6,v∈SB fb fs∨w.heap.size≤v)→Fm w w6 (g::(s.out.bs++SB fb fs))→q65_J8 (some ⟨g,0,none⟩) K (L:Int) ⟨some ⟨g,279,none⟩,256,256⟩ () w6:=by
  intro hTP w6 fs6 B6 HO6 E6 SW6 hx6 Fr6
  have dof6:∀v∈s.out.bs,v∉SB fb fs6:=by
   intro v hv h
   rcases hx6 v h with h1|h1
   ·exact dof v hv h1
   ·have:=HO.lt v hv;omega
  have sz6:=Fr6.size
  refine wr_raw (s := { s with hw:=hw5 }) (W:=wtF M ln) B6 HO6 (by omega) dgo h2 hL hh5 (fun n=>Nat.le_trans (hW11 n) (by omega)) E6 ?_ ?_
  ·intro h129 v h3 h30
   exact hk0 ⟨hTP,h129⟩ w6 fs6 hw5 v h3 h30 B6 HO6 ⟨SW6,hx6,Fr6,fun v hv => .inl hv,dgo,dof6⟩
  ·intro w7 o hw7 h129 HO7 B7 hn7 hg7 F7
   have hlen:(rawT (wtF M ln) L).length=1+L/2:=by unfold rawT;simp;omega
   have hd7:∀v∈SB fb fs6,v∉g::s.out.bs:=by
    intro v hv h
    rcases List.mem_cons.mp h with h1|h1
    ·subst h1
     rcases hx6 v hv with h3|h3
     ·exact dgf h3
     ·omega
    ·exact dof6 v h1 hv
   refine hk1 w7 fs6 hw7 o _ (.inr ⟨hTP,h129,hlen⟩) (rawT_by (fun n=>Nat.le_trans (hW11 n) (by omega)) h129) (by rw [hlen];omega) (rawT_ok h2 (fun n=>Nat.le_trans (hW11 n) (by omega))) HO7 B7 ⟨SW6.fr F7 hd7,hx6,Fr6.trans F7 ?_,?_,hg7,?_⟩
   ·intro v hv
    left
    rcases List.mem_cons.mp hv with h1|h1
    ·simp [h1]
    ·simp [h1]
   ·intro v hv
    rcases hn7 v hv with h1|h1
    ·exact .inl h1
    ·right;omega
   ·intro v hv h
    rcases hn7 v hv with h1|h1
    ·exact dof6 v h1 h
    ·have:=SW6.lt v h;omega
 have x5:∀v∈SB fb ({ fs with count:=c5 } : FS),v∈SB fb fs∨w.heap.size≤v:=fun v hv => .inl hv
 have Fr05:Fm w w5 (g::(s.out.bs++SB fb fs)):=F05.mono (by intro v hv;simp at hv;left;rcases hv with rfl|rfl<;>simp [fbm])
 unfold q65_J9
 rw [wU16 (x:=(L:Int)-1) (by omega) (by omega),wU8 (x:=(L:Int)-1) (by omega) (by omega),show (L:Int)-1=((L-1:Nat):Int) by omega]
 refine joinP_id (cnd_d ?_ (fun hc2=>raw (.inl (by omega)) w5 _ B5 HO5 E5 SW4 x5 Fr05))
 intro hc2
 have hL3:3≤L:=by omega
 have hcl:∀i,cN (wtF M ln) i (L-1)<4294967296:=fun i=>by have:=cN_le (wtF M ln) i (L-1);omega
 refine joinP_id ?_
 refine slc_hi (m:=16) rfl (by show 16≤256;omega) ?_
 refine wr_max (fs := { fs with count:=c5 }) (c:=fun i=>cN (wtF M ln) i (L-1)) HB5 hc5 hcl ?_ ?_
 ·refine ⟨wtF M ln 0,by have:=hW11 0;omega,?_⟩
  have h1:=cN_mono (wtF M ln) (wtF M ln 0) (show 1≤L-1 by omega)
  have h3:cN (wtF M ln) (wtF M ln 0) 1=1:=by rw [cN,cN,if_pos rfl]
  show cN (wtF M ln) (wtF M ln 0) (L-1)≠0
  omega
 intro m h hh16 hch htop hmax hmex
 have hcnt:∀i,cN (wtF M ln) i (L-1)=(wtL M ln L).count i:=fun i=>cN_count _ _ _
 have hwl:(wtL M ln L).length=L-1:=by simp [wtL]
 have hwm:WMx (wtL M ln L) m h:=⟨hh16,by rw [←hcnt];exact hch,fun i h1 h2=>by rw [←hcnt];exact htop i h1 h2,fun i h1=>by rw [←hcnt];exact hmax i h1,by
  obtain ⟨i,h1,h2⟩:=hmex
  exact ⟨i,h1,by rw [←hcnt];exact h2⟩⟩
 have hmem:∀x∈wtL M ln L,x≤11:=by
  intro x hx
  obtain ⟨k,_,rfl⟩:=List.mem_map.mp hx
  exact hW11 k
 have hh11:h≤11:=by
  have:(wtL M ln L).count h≠0:=by rw [←hcnt];exact hch
  exact hmem h (List.count_pos_iff.mp (by omega))
 have hmle:m≤L-1:=by
  obtain ⟨i,_,e⟩:=hmex
  rw [←e]
  exact cN_le _ _ _
 have hm0:0<m:=by have:=hmax h hh16;omega
 unfold q65_J5
 refine ⟨_,rfl,?_⟩
 simp only [add_mk,Nat.zero_add]
 refine ld_b (t := .P) (x:=some ⟨fb,0,none⟩) B5 (by show some (Value.pointer s.fse)=_;rw [hfse];rfl) ?_
 rw [wI64 (x:=(m:Int)) (by omega) (by omega)]
 refine c83 (h:=h) (m:=m) HB5 (by omega) ?_
 intro w6 HB6 F6
 have B6:=B5.fr F6 (nm1 dgfb)
 refine ⟨_,rfl,?_⟩
 simp only [add_mk,Nat.zero_add]
 refine ld_b (t := .P) (x:=some ⟨fb,0,none⟩) B6 (by show some (Value.pointer s.fse)=_;rw [hfse];rfl) ?_
 refine ⟨_,rfl,?_⟩
 simp only [add_mk,Nat.zero_add]
 refine st_u HB6 rfl rfl ?_
 intro w7 HB7 F7
 have HB7':=HB7.congr (FS.setT (s' := { fs with count:=c5,maxC:=(m:Nat),symL:=(h+1:Nat),cc := !decide (((m:Nat):Int)=0),tl:=6 }) 21 rfl rfl rfl (by decide))
 have F57:Fm w5 w7 [fb]:=F6.trans F7 (fun x hx => .inl hx)
 have ST7:=SW4.same (s' := { fs with count:=c5,maxC:=(m:Nat),symL:=(h+1:Nat),cc := !decide (((m:Nat):Int)=0),tl:=6 }) HB7' F57 rfl rfl rfl rfl
 obtain ⟨fs7,e7t,e7m,e7s,e7c,e7b,ST7⟩:∃fs7:FS,fs7.tl=6∧fs7.maxC=(m:Nat)∧fs7.symL=((h+1:Nat):Int)∧fs7.count=c5∧SB fb fs7=SB fb fs∧ST w5 w7 fb { fs with count:=c5 } fs7:=⟨({ fs with count:=c5,maxC:=(m:Nat),symL:=(h+1:Nat),cc := !decide (((m:Nat):Int)=0),tl:=6 } : FS),rfl,rfl,rfl,rfl,rfl,ST7⟩
 have B7:=B5.fr F57 (nm1 dgfb)
 have HO7:VecU w7 s.out pre:=HO5.fr F57 (by intro v hv;simp;exact fun e=>dof v hv (e▸fbm))
 have G7:GL w7:=G5.fm F57 (by intro v hv;simp at hv;subst hv;exact h9 _ fbm)
 have E7:errAt w7 0:=E5.fm F57 (by simp;have:=h9 _ fbm;omega)
 have Fr07:Fm w w7 (g::(s.out.bs++SB fb fs)):=Fr05.trans F57 (by intro v hv;simp at hv;subst hv;left;simp [fbm])
 have sz7:=Fr07.size
 unfold drw
 refine slc_hi (m:=L-1) (by rw [wU16 (x:=(L:Int)-1) (by omega) (by omega),wU8 (x:=(L:Int)-1) (by omega) (by omega)];omega) (by show L-1≤256;omega) ?_
 refine ⟨_,rfl,?_⟩
 simp only [add_mk,Nat.zero_add]
 refine ld_b (t := .P) (x:=some ⟨fb,0,none⟩) B7.drew (by show some (Value.pointer s.fse)=_;rw [hfse];rfl) ?_
 have SW7:=ST7.drew.sw
 have hsrc:Arr .u8 w7.drew ⟨some ⟨g,279,none⟩,L-1,256⟩ (wtL M ln L):=by
  refine ⟨hwl.symm,by show L-1≤256;omega,(fun h=>by cases h),?_⟩
  intro b hb i hi
  injection hb with hb
  subst hb
  rw [add_mk,B7.drew.cell,HU.hw_at _ (by omega)]
  show some (Value.int .u8 (hw5 i))=_
  rw [hh5 i (by omega)]
  simp [wtL]
 have G7d:GL w7.drew:=G7.fm (Fm.refl w7 []).drew (by simp)
 have dofx:∀ {fs':FS} {w':World},ST w7.drew w' fb fs7 fs'→∀v∈SB fb fs',v∈SB fb fs∨w.heap.size≤v:=by
  intro fs' w' T v hv
  rcases T.ext v hv with h1|h1
  ·rw [e7b] at h1;exact .inl h1
  ·have:w7.drew.heap.size=w7.heap.size:=rfl
   right;omega
 have outd:∀v∈s.out.bs,v∉SB fb fs:=dof
 refine c84 (s:=fs7) (src:=⟨some ⟨g,279,none⟩,L-1,256⟩) (ws:=wtL M ln L) (L:=h+1) (m:=m) SW7 G7d (by rw [e7b];exact h9) hsrc (by intro a ha _;injection ha with ha;subst ha;rw [e7b];exact dgf) (by omega) (by omega) e7t e7m hm0 (by omega) e7s (by omega) (by omega) (fun i hi=>by rw [e7c, ←hcnt];exact hc5 i (by omega)) ?_ (fun i hi=>by rw [←hcnt];exact hmax i (by omega)) (by rw [Nat.add_sub_cancel, ←hcnt];exact hch) ?_ ?_
 ·intro x hx
  have h11:=hmem x hx
  by_cases hlt:x<h+1
  ·exact hlt
  ·have h0:=htop x (by omega) (by omega)
   have:0<(wtL M ln L).count x:=List.count_pos_iff.mpr hx
   rw [←hcnt] at this
   have h0:cN (wtF M ln) x (L-1)=0:=h0
   omega
 ·-- not pressed
  intro w8 fs8 v hBd T8 hv1 hv2
  refine ⟨isPE.ifc hv1,?_⟩
  refine ⟨fun e=>absurd (show isNil v=true from e) (by rw [hv2];simp),fun _ => ?_⟩
  have F8:Fm w7 w8 (SB fb fs):=(Fm.refl w7 _).drew.trans (e7b▸T8.fr) (fun x hx => .inl hx)
  exact raw (.inr (.inl ⟨m,h,hwm,hBd⟩)) w8 fs8 (B7.fr F8 dgf) (HO7.fr F8 dof) (E7.fm F8 (fun h=>by have:=h9 _ h;omega)) T8.sw (dofx T8) (Fr07.trans F8 (by intro v hv;left;simp [hv]))
 ·intro w8 fs8 o ol hGd T8 ha hby hll hok hob
  have F8:Fm w7 w8 (SB fb fs):=(Fm.refl w7 _).drew.trans (e7b▸T8.fr) (fun x hx => .inl hx)
  have B8:=B7.fr F8 dgf
  have HO8:=HO7.fr F8 dof
  have E8:=E7.fm F8 (fun h=>by have:=h9 _ h;omega)
  have Fr08:Fm w w8 (g::(s.out.bs++SB fb fs)):=Fr07.trans F8 (by intro v hv;left;simp [hv])
  have x8:=dofx T8
  have sz8:=Fr08.size
  refine ⟨rfl,?_⟩
  refine ⟨fun _ => ?_,fun e=>by simp [isNil] at e⟩
  refine ⟨_,rfl,?_⟩
  simp only [add_mk,Nat.zero_add]
  refine ld_b (t := .I .u16) (x:=((L:Nat):Int)) B8 (by show some (Value.int .u16 s.symL)=_;rw [hsy];rfl) ?_
  refine ⟨by decide,?_⟩
  have esh:IntKind.i64.wrap (shrI .u16 ((L:Nat):Int) 1)=((L/2:Nat):Int):=by
   rw [show (1:Int)=((1:Nat):Int) from rfl,shrI_nat _ _ _ (by simp only [IntKind.bits];omega),Nat.pow_one,wI64 (by omega) (by omega)]
  rw [esh]
  have hoL:o.l=ol.length:=ha.len
  refine cnd_d ?_ (fun hc3=>raw (.inr (.inr ⟨_,⟨m,h,hwm,hGd⟩,by omega⟩)) w8 fs8 B8 HO8 E8 T8.sw x8 Fr08)
  intro hc3
  have dof8:∀v∈s.out.bs,v∉SB fb fs8:=by
   intro v hv h
   rcases x8 v h with h1|h1
   ·exact dof v hv h1
   ·have:=HO.lt v hv;omega
  have dg8:g∉SB fb fs8:=by
   intro h
   rcases x8 g h with h1|h1
   ·exact dgf h1
   ·omega
  refine ⟨_,rfl,?_⟩
  simp only [add_mk,Nat.zero_add]
  refine ld_b (t := .S) (x:=s.out) B8 rfl ?_
  rw [hoL,wU8 (x:=((ol.length:Nat):Int)) (by omega) (by omega)]
  refine app_1u HO8 (by omega) ?_
  intro s9 w9 HO9 F9 hb9
  have B9:=B8.fr F9 dgo
  have hg9:g∉s9.bs:=fun h=>by
   rcases hb9 g h with h|h
   ·exact dgo h
   ·have:=B8.lt;omega
  have d9f:∀v∈s9.bs,v∉SB fb fs8:=by
   intro v hv h
   rcases hb9 v hv with h1|h1
   ·exact dof8 v h1 h
   ·have:=T8.sw.lt v h;omega
  refine ⟨_,rfl,?_⟩
  simp only [add_mk,Nat.zero_add]
  refine st_u B9 rfl rfl ?_
  intro w10 B10 F10
  have B10':=B10.congr (HU.setT (s' := { s with hw:=hw5,out:=s9 }) 0 rfl rfl rfl (by decide))
  have HO10:=HO9.fr F10 (by intro v hv;simp;exact fun e=>hg9 (e▸hv))
  have F810:Fm w8 w10 (g::s.out.bs):=(F9.mono (by intro v hv;left;simp [hv])).trans F10 (by intro v hv;simp at hv;simp [hv])
  have dSB8:∀v∈SB fb fs8,v∉g::s.out.bs:=by
   intro v hv h
   rcases List.mem_cons.mp h with h1|h1
   ·exact dg8 (h1▸hv)
   ·exact dof8 v h1 hv
  have ha10:Arr .u8 w10 o ol:=ha.fr F810 (by
   intro a h1 _
   exact dSB8 _ (hob _ (by unfold Sl.bs;rw [h1];simp)))
  have SW10:=T8.sw.fr F810 dSB8
  refine ⟨_,rfl,?_⟩
  simp only [add_mk,Nat.zero_add]
  refine ld_b (t := .S) (x:=s9) B10' rfl ?_
  have h9l:s9.l=pre.length+1:=by have:=HO10.len;simp at this;omega
  refine app_vu (xs:=ol) HO10 ha10.has (by omega) ?_
  intro s11 w11 HO11 F11 hb11
  have B11:=B10'.fr F11 hg9
  have sz811:=F810.size
  have hg11:g∉s11.bs:=fun h=>by
   rcases hb11 g h with h|h
   ·exact hg9 h
   ·have:=B10'.lt;omega
  refine ⟨_,rfl,?_⟩
  simp only [add_mk,Nat.zero_add]
  refine st_u B11 rfl rfl ?_
  intro w12 B12 F12
  have B12':=B12.congr (HU.setT (s' := { s with hw:=hw5,out:=s11 }) 0 rfl rfl rfl (by decide))
  have HO12:=HO11.fr F12 (by intro v hv;simp;exact fun e=>hg11 (e▸hv))
  have F1012:Fm w10 w12 (g::s9.bs):=(F11.mono (by intro v hv;left;simp [hv])).trans F12 (by intro v hv;simp at hv;simp [hv])
  have n9:∀v∈s9.bs,v∈s.out.bs∨w.heap.size≤v:=by
   intro v hv
   rcases hb9 v hv with h1|h1
   ·exact .inl h1
   ·right;omega
  refine hk1 w12 fs8 hw5 s11 (ol.length::ol) (.inl ⟨ol.length,hL3,⟨m,h,hwm,hGd⟩,by omega,rfl⟩) ?_ ?_ (fseT_ok hok (by omega)) ?_ B12' ⟨SW10.fr F1012 ?_,x8,(Fr08.trans F810 ?_).trans F1012 ?_,?_,hg11,?_⟩
  ·intro x hx
   rcases List.mem_cons.mp hx with h1|h1
   ·omega
   ·exact hby x h1
  ·simp only [List.length_cons];omega
  ·have e:pre ++ [ol.length]++ol=pre++ol.length::ol:=by simp
   rw [e] at HO12
   exact HO12
  ·intro v hv h
   rcases List.mem_cons.mp h with h1|h1
   ·exact dg8 (h1▸hv)
   ·exact d9f v h1 hv
  ·intro v hv
   left
   rcases List.mem_cons.mp hv with h1|h1
   ·simp [h1]
   ·simp [h1]
  ·intro v hv
   rcases List.mem_cons.mp hv with h1|h1
   ·left;simp [h1]
   ·rcases n9 v h1 with h3|h3
    ·left;simp [h3]
    ·exact .inr (by omega)
  ·intro v hv
   rcases hb11 v hv with h1|h1
   ·rcases n9 v h1 with h3|h3
    ·exact .inl h3
    ·exact .inr (by omega)
   ·right;omega
  ·intro v hv h
   rcases hb11 v hv with h1|h1
   ·exact d9f v h1 h
   ·have:=SW10.lt v h;omega
end
theorem leB_get {n k j:Nat} (h:j<k):(leB n k)[j]? = some (n/2^(8*j)%256):=by
 induction k with
 | zero=>omega
 | succ k ih =>
  rw [leB_snoc]
  by_cases e:j<k
  ·rw [List.getElem?_append_left (by rw [leB_len];exact e)]
   exact ih e
  ·have:j=k:=by omega
   subst this
   rw [List.getElem?_append_right (by rw [leB_len];omega),leB_len,Nat.sub_self,Nat.pow_mul]
   rfl
theorem VecU.set {w:World} {ob n c i v:Nat} {l:List Nat} {κ:PT} (h:VecU w ⟨some ⟨ob,0,none⟩,n,c⟩ l) (hi:i<l.length) (hk:∀w',VecU w' ⟨some ⟨ob,0,none⟩,n,c⟩ (l.set i v)→Fm w w' [ob]→κ w'):st ⟨ob,i,none⟩ (.int .u8 (v:Nat)) κ w:=by
 obtain ⟨h1,h2,f,h3,h4,h5⟩:=h.vec.blk _ rfl
 have hu:=h.u8 _ rfl
 have hn:=h.len
 have hc:=h.vec.cap
 simp only at h3 hu hn hc h5
 refine st_u h3 (h5 i (by omega)) rfl ?_
 intro w1 B1 F1
 refine hk w1 ⟨⟨?_,hc,(fun e=>by cases e),?_⟩,?_,h.c63⟩ F1
 ·rw [bytes_len,List.length_set];simp only;omega
 ·intro a ha
  injection ha with ha
  subst ha
  refine ⟨rfl,rfl,_,B1,?_,?_⟩
  ·intro j hj
   rw [bytes_len,List.length_set] at hj
   unfold updC bytes
   rw [List.getElem?_map]
   by_cases e:j=i
   ·subst e
    rw [if_pos rfl,List.getElem?_set_self hj];rfl
   ·rw [if_neg e,List.getElem?_set_ne (fun h=>e h.symm),h4 j (by rw [bytes_len];exact hj)]
    unfold bytes
    rw [List.getElem?_map]
  ·intro j hj
   unfold updC
   split
   ·rfl
   ·exact h5 j hj
 ·intro a ha j hj
  injection ha with ha
  subst ha
  show ∃x:Int,_
  rw [B1.cell]
  unfold updC
  split
  ·exact ⟨_,rfl⟩
  ·obtain ⟨x,hx⟩:=hu j hj
   rw [h3.cell] at hx
   exact ⟨x,hx⟩
theorem wOf_b2w {M r:Nat} (hr:r≤M):wOf (b2w M r)=if 0<r then 2^(M-r) else 0:=by
 unfold wOf b2w
 by_cases h:r=0
 ·subst h;simp
 ·rw [if_neg (by omega:¬(r=0∨M<r)),if_neg (by omega),if_pos (by omega),show M+1-r-1=M-r by omega]
theorem b2w_pos {M r:Nat} (h:0<r) (hr:r≤M):b2w M r=M+1-r:=by unfold b2w;rw [if_neg (by omega)]
theorem b2w_zero (M:Nat):b2w M 0=0:=by unfold b2w;rw [if_pos (.inl rfl)]
theorem sum_range_sF (f:Nat→Nat):∀n,((List.range n).map f).sum=sF f 0 n
 | 0=>rfl
 | n+1=>by rw [List.range_succ,List.map_append,List.sum_append,sum_range_sF f n,sF,Nat.zero_add];simp
theorem hl_ok {cnt ln:Nat→Nat} {L M used:Nat} {tbl:List Nat} (H:HT cnt L M ln) (h2:2≤L) (hL:L≤256) (hlast:0<cnt (L-1)) (two:∃a,a<L-1∧0<cnt a) (hw:weightsZ tbl=some (wtL M ln L,used)) :
  ∃f,hlZ tbl=some (f,used)∧(∀i,i<L→f i=(ln i:Nat))∧∀i,L≤i→f i=0:=by
 have hm1:=H.m1
 have hm11:=H.m11
 have hx1:0<ln (L-1):=(H.pos (L-1) (by omega)).mpr hlast
 have hxM:=H.le (L-1) (by omega)
 have hsum:wsum (wtL M ln L)+2^(M-ln (L-1))=2^M:=by
  rw [←H.kr]
  unfold wsum wtL
  rw [List.map_map,sum_range_sF]
  have e1:sF (wOf ∘ wtF M ln) 0 (L-1)=sF (fun i=>if 0<ln i then 2^(M-ln i) else 0) 0 (L-1):=sF_congr (fun i _ hi=>wOf_b2w (H.le i (by omega)))
  have e2:sF (fun i=>if 0<ln i then 2^(M-ln i) else 0) 0 L=sF (fun i=>if 0<ln i then 2^(M-ln i) else 0) 0 (L-1)+2^(M-ln (L-1)):=by
   conv=>lhs;rw [show L=L-1+1 by omega]
   rw [sF,Nat.zero_add,if_pos hx1]
  rw [e1,e2]
 have hple:2^(M-ln (L-1))≤2^(M-1):=Nat.pow_le_pow_right (by omega) (by omega)
 have hM2:2^M=2*2^(M-1):=by rw [←Nat.pow_succ',show (M-1).succ=M by omega]
 have hpp:=Nat.two_pow_pos (M-1)
 have hpl:=Nat.two_pow_pos (M-ln (L-1))
 have hlog:(wsum (wtL M ln L)).log2=M-1:=by
  have h3:(wsum (wtL M ln L)).log2<M:=(Nat.log2_lt (by omega)).mpr (by omega)
  have h4:M-1≤(wsum (wtL M ln L)).log2:=(Nat.le_log2 (by omega)).mpr (by omega)
  omega
 have hlz:lastZ (wtL M ln L)=2^(M-ln (L-1)):=by
  unfold lastZ
  rw [hlog,show M-1+1=M by omega];omega
 have hfull:fullZ (wtL M ln L)=(List.range L).map (wtF M ln):=by
  unfold fullZ wtL
  have e3:lastZ ((List.range (L-1)).map (wtF M ln))=2^(M-ln (L-1)):=hlz
  rw [e3,Nat.log2_two_pow]
  conv=>rhs;rw [show L=L-1+1 by omega,List.range_succ,List.map_append]
  congr 1
  show [M-ln (L-1)+1] = [wtF M ln (L-1)]
  unfold wtF b2w
  rw [if_neg (by omega)]
  congr 1;omega
 have hcond:(wtL M ln L).length≤255∧(∀w∈wtL M ln L,w≤12)∧wsum (wtL M ln L)≠0∧(wsum (wtL M ln L)).log2+1≤11∧lastZ (wtL M ln L)=2^(lastZ (wtL M ln L)).log2∧1<someZ (fullZ (wtL M ln L)):=by
  refine ⟨by simp [wtL];omega,?_,by omega,by omega,by rw [hlz,Nat.log2_two_pow],?_⟩
  ·intro w hw
   obtain ⟨k,_,rfl⟩:=List.mem_map.mp hw
   have:=b2w_le M (ln k)
   unfold wtF;omega
  ·rw [hfull]
   unfold someZ
   rw [List.map_map,sum_range_sF]
   obtain ⟨a,ha,hca⟩:=two
   have hpos:∀i,i<L→0<cnt i→((fun w=>if 0<w then 1 else 0) ∘ wtF M ln) i=1:=by
    intro i hi hc
    have h5:=(H.pos i hi).mpr hc
    have h6:=H.le i hi
    show (if 0<wtF M ln i then 1 else 0)=1
    rw [show wtF M ln i=M+1-ln i from b2w_pos h5 h6,if_pos (by omega)]
   have e4:sF ((fun w=>if 0<w then 1 else 0) ∘ wtF M ln) 0 L=sF ((fun w=>if 0<w then 1 else 0) ∘ wtF M ln) 0 (L-1)+1:=by
    conv=>lhs;rw [show L=L-1+1 by omega]
    rw [sF,Nat.zero_add,hpos (L-1) (by omega) hlast]
   have e5:=sF_mem ((fun w=>if 0<w then 1 else 0) ∘ wtF M ln) 0 (n:=L-1) (i:=a) (by omega) (by omega)
   rw [hpos a (by omega) hca] at e5
   omega
 refine ⟨lenF ((wsum (wtL M ln L)).log2+1) (fullZ (wtL M ln L)),?_,?_,?_⟩
 ·unfold hlZ
  rw [hw]
  simp only
  rw [if_pos hcond]
 ·intro i hi
  rw [hlog,hfull]
  unfold lenF
  rw [List.getD_eq_getElem?_getD,List.getElem?_map,List.getElem?_range hi]
  show (((if 0<wtF M ln i then M-1+1+1-wtF M ln i else 0):Nat):Int)=_
  have h6:=H.le i hi
  by_cases h0:ln i=0
  ·have hv:wtF M ln i=0:=by unfold wtF;rw [h0];exact b2w_zero M
   rw [hv,if_neg (by omega),h0]
  ·rw [show wtF M ln i=M+1-ln i from b2w_pos (by omega) h6,if_pos (by omega)]
   congr 1;omega
 ·intro i hi
  rw [hlog,hfull]
  unfold lenF
  rw [List.getD_eq_getElem?_getD,List.getElem?_eq_none (by simp;exact hi)]
  rfl
theorem sF_add (f g:Nat→Nat):∀n,sF (fun i=>f i+g i) 0 n=sF f 0 n+sF g 0 n
 | 0=>rfl
 | n+1=>by rw [sF,sF,sF,sF_add f g n];omega
theorem sF_split (g:Nat→Nat) (a:Nat):∀b,sF g 0 (a+b)=sF g 0 a+sF g a b
 | 0=>rfl
 | b+1=>by rw [←Nat.add_assoc,sF,sF_split g a b,sF,Nat.zero_add];omega
theorem sF_mono_n (g:Nat→Nat) {a b:Nat} (h:a≤b):sF g 0 a≤sF g 0 b:=by
 have:=sF_split g a (b-a)
 rw [show a+(b-a)=b by omega] at this
 omega
theorem SW.mv {w w':World} {b:Nat} {s:FS} {S:List Nat} (W:SW w b s) (F:Fm w w' S) (h:∀v∈SB b s,v∉S):SW w' b s :=
 ⟨W.blk.fr F (h b (mem_SB.mpr (.inl rfl))),W.o.fm F (fun v hv=>h v (mem_SB.mpr (.inr (.inl hv)))),W.x.fm F (fun v hv=>h v (mem_SB.mpr (.inr (.inr (.inl hv))))),W.y.fm F (fun v hv=>h v (mem_SB.mpr (.inr (.inr (.inr (.inl hv)))))),W.z.fm F (fun v hv=>h v (mem_SB.mpr (.inr (.inr (.inr (.inr hv)))))),
  W.bo,W.bx,W.bY,W.bz,W.ox,W.oy,W.oz,W.xy,W.xz,W.yz⟩
theorem VecU.nil {w:World} : VecU w ⟨none,0,0⟩ []:=⟨Vec.nil,(by intro a h;cases h),by decide⟩
theorem c47 {w:World} {s0:Sl} {xs:List Nat} {K:Sl→PT} (A:Arr .u8 w s0 xs) (hxs:xs.length≤2^40) (hk:∀w' s',VecU w' s' xs→Fm w w' []→(∀b∈s'.bs,w.heap.size≤b)→K s' w') :
  callP Tryd.prog 47 #[.slice s0.a s0.l s0.c] [.c .S] K w:=by
 apply q47_ok
 unfold q47 nw
 have F1:Fm w (w.alloc (.cells ⟨[]⟩ 5)) []:=(Fm.refl w []).alloc
 have B1:Blk (w.alloc (.cells ⟨[]⟩ 5)) w.heap.size fun i=>(⟨[]⟩:Array Value)[i]? := Blk.new
 have V1:VecU (w.alloc (.cells ⟨[]⟩ 5)) ⟨some ⟨w.heap.size,0,none⟩,0,0⟩ []:=by
  refine ⟨⟨rfl,Nat.le_refl _,fun _=>rfl,?_⟩,?_,show (0:Nat)<2^63 by decide⟩
  ·intro a ha
   injection ha with ha
   subst ha
   exact ⟨rfl,rfl,_,B1,by simp [bytes],by simp⟩
  ·intro a ha i hi
   exact absurd hi (Nat.not_lt_zero _)
 have A1:=A.fr F1 (by simp)
 refine app_vu (xs:=xs) V1 A1.has (by rw [A.len];simp only;omega) ?_
 intro s' w' h1 h2 h3
 rw [List.nil_append] at h1
 have F2:Fm w w' []:=F1.trans h2 (by intro b hb;right;simp [Sl.bs] at hb;omega)
 refine hk w' s' h1 F2 ?_
 intro b hb
 rcases h3 b hb with h|h
 ·simp [Sl.bs] at h;omega
 ·rw [World.size_alloc] at h;omega
section
variable {w:World}
theorem shl1 {e:Nat} (h:e≤11):shlI .i64 1 ((e:Nat):Int)=((2^e:Nat):Int):=by
 have:e=0∨e=1∨e=2∨e=3∨e=4∨e=5∨e=6∨e=7∨e=8∨e=9∨e=10∨e=11:=by omega
 rcases this with rfl|rfl|rfl|rfl|rfl|rfl|rfl|rfl|rfl|rfl|rfl|rfl<;>rfl
end
theorem sF_z {g:Nat→Nat} {a:Nat} : ∀ {n:Nat},(∀i,a≤i→i<a+n→g i=0)→sF g a n=0
 | 0,_=>rfl
 | n+1,h=>by rw [sF,sF_z (fun i h1 h2=>h i h1 (by omega)),h (a+n) (by omega) (by omega)]
end Go.Sx
namespace Go.Sx
open Go Go.Proofs Go.ChangeShapes Go.WideShapes Go.ChangeAt Go.RowKit Go.Proofs.YtlnhldlhmplphaaDoor
set_option maxRecDepth 100000
def mask32:List Int := [0,1,3,7,15,31,63,127,255,511,1023,2047,4095,8191,16383,32767,65535,65535,65535,65535,65535,65535,65535,65535,65535,65535,0,0,0,0,0,0]
theorem bytes_in {H:Type} {enc:TypeId×Value→H} {W:World} {v:Value} {d:DataW H} {p:List MemPlace} (h:DataW.Trod enc Tryd.prog W 0 (fun _=>true) true 22 v d p) (hv:∃a l c,v = .slice a l c) :
  ∃(s:Sl) (xs:List Nat),v = .slice s.a s.l s.c∧Arr .u8 W s xs∧By xs:=by
 obtain ⟨n,hn⟩:=h
 obtain ⟨a0,l0,c0,rfl⟩:=hv
 rcases open_ints Tryd.underlying22 Tryd.underlying5 (by kernel_rfl) hn with ⟨e,_⟩|⟨a,len,cap,zs,e,_,hl,_,hzl,_,hcell,hwf⟩
 ·have e:Value.slice a0 l0 c0 = .slice none 0 0:=by simpa [Value.cells] using e
  injection e with e1 e2 e3
  subst e1 e2 e3
  exact ⟨⟨none,0,0⟩,[],rfl,⟨rfl,Nat.le_refl _,fun _=>rfl,(by intro b hb;cases hb)⟩,by intro x hx;cases hx⟩
 ·have e:Value.slice a0 l0 c0 = .slice (some a) len cap:=by simpa [Value.cells] using e
  injection e with e1 e2 e3
  subst e1 e2 e3
  simp only [if_true] at hzl
  have hz:∀i (hi:i<zs.length),0≤zs[i]∧zs[i]<256:=by
   intro i hi
   have:=bounds_u8 (hwf _ (List.getElem_mem hi))
   omega
  refine ⟨⟨some a,l0,c0⟩,(zs.take l0).map Int.toNat,rfl,⟨?_,hl,(fun h=>by cases h),?_⟩,?_⟩
  ·rw [List.length_map,List.length_take];simp only;omega
  ·intro b hb i hi
   injection hb with hb
   subst hb
   rw [List.length_map,List.length_take] at hi
   have hi2:i<zs.length:=by omega
   rw [hcell i hi2]
   have h1:=hz i hi2
   have h2:zs.getD i 0=zs[i]:=by rw [List.getD_eq_getElem?_getD,List.getElem?_eq_getElem hi2];rfl
   rw [h2,List.getElem_map,List.getElem_take,Int.toNat_of_nonneg h1.1]
  ·intro x hx
   obtain ⟨z,hz1,rfl⟩:=List.mem_map.mp hx
   obtain ⟨i,hi,e⟩:=List.mem_iff_getElem.mp (List.mem_of_mem_take hz1)
   have:=hz i hi
   rw [e] at this
   omega
theorem slice_in {H:Type} {enc:TypeId×Value→H} {W:World} {t e:TypeId} {v:Value} {d:DataW H} {p:List MemPlace} {base:Nat} (ht:Tryd.prog.underlying t=some (.slice e)) (ok:Value.okWide Tryd.prog W .any base t v) (h:DataW.Trod enc Tryd.prog W 0 (fun _=>true) true t v d p):∃a l c,v = .slice a l c:=by
 unfold Value.okWide at ok
 simp only [ht] at ok
 unfold Cell.okWide at ok
 cases v<;>simp [Value.cells,Cell.ok,ht] at ok ⊢
def laid3:List (String×DataW Unit) := [("io.ErrUnexpectedEOF",Rows.laid_io_ErrUnexpectedEOF),("pub-pemmican/pub/compress/fse.bitMask16",Rows.laid_pub_pemmican_pub_compress_fse_bitMask16),("pub-pemmican/pub/compress/fse.rtbTable",Rows.laid_pub_pemmican_pub_compress_fse_rtbTable),("pub-pemmican/pub/compress/fse.ErrIncompressible",Rows.laid_pub_pemmican_pub_compress_fse_ErrIncompressible),("pub-pemmican/pub/compress/fse.ErrUseRLE",Rows.laid_pub_pemmican_pub_compress_fse_ErrUseRLE),("pub-pemmican/pub/compress/huff0.ErrIncompressible",Rows.laid_pub_pemmican_pub_compress_huff0_ErrIncompressible),("pub-pemmican/pub/compress/huff0.ErrTooBig",Rows.laid_pub_pemmican_pub_compress_huff0_ErrTooBig)]
theorem gl_of_laid {W:World} (h:laidMetH Tryd.prog laid3 W):GL W∧errAt W 0:=by
 rw [MakeChecks.laidMetH_plain _ _ _ (by kernel_rfl)] at h
 have e0:=err_of_laid h (.tail _ (.tail _ (.tail _ (.tail _ (.tail _ (.head _)))))) (g:=0) (by kernel_rfl) (by kernel_rfl)
 have e3:=err_of_laid h (.tail _ (.tail _ (.tail _ (.head _)))) (g:=3) (by kernel_rfl) (by kernel_rfl)
 have e4:=err_of_laid h (.tail _ (.tail _ (.tail _ (.tail _ (.head _))))) (g:=4) (by kernel_rfl) (by kernel_rfl)
 have em:=nums_of_laid (zs:=mask32) (k := .u16) (t:=240) (e:=81) (m:=32) h (.tail _ (.head _)) (g:=8) (by kernel_rfl) (by kernel_rfl) (by kernel_rfl) (by kernel_rfl) (by kernel_rfl) rfl
 have er:=nums_of_laid (zs:=rtbZ) (k := .u32) (t:=207) (e:=79) (m:=8) h (.tail _ (.tail _ (.head _))) (g:=6) (by kernel_rfl) (by kernel_rfl) (by kernel_rfl) (by kernel_rfl) (by kernel_rfl) rfl
 have ee:∀ {g:Nat},(∃a c T,W.cell? ⟨g,0,none⟩=some (.iface 160 (.pointer (some a)))∧W.heap[a.block]? = some (.cells c T (0,0)))→errAt W g:=fun ⟨a,c,T,h1,_⟩=>⟨_,h1,rfl,rfl⟩
 refine ⟨⟨ee e3,ee e4,?_,?_⟩,ee e0⟩
 ·intro k hk
  exact er k hk
 ·intro n hn
  rw [em n (by omega)]
  have:∀m:Fin 17,mask32.getD (m:Nat) 0=((2^(m:Nat)-1:Nat):Int):=by decide
  rw [this ⟨n,by omega⟩]
theorem door_met3 (os:Os) (args:Array Value):laidMetH Tryd.prog laid3 ((World.doorLaid Tryd.prog 4000 os).forCall (fun _ _=>0) ⟨#[],args,[]⟩).memory :=
 laidMetH_of_parts3 (fuel:=8) (laidMet_of_run' 8 (by kernel_rfl) (by kernel_rfl)) (by kernel_rfl) (by kernel_rfl)
end Go.Sx
namespace Go.Sx
open Go Go.Proofs
set_option maxRecDepth 4000
theorem ldA_b {w:World} {b n:Nat} {F:Cells} {κ:Array Value→PT} (B:Blk w b F) (hF:∀i,i<n→(F i).isSome) (hk:∀cs:Array Value,cs.size=n→(∀i,i<n→cs[i]? = F i)→κ cs w):ldA n ⟨b,0,none⟩ κ w:=by
 have hg:∀i,i<n→((List.range n).map fun i=>(F i).getD default)[i]? = F i:=by
  intro i hi
  have h:=hF i hi
  rw [List.getElem?_map,List.getElem?_range hi]
  cases hf:F i with
  | none=>rw [hf] at h;cases h
  | some v=>simp [hf]
 refine ⟨⟨(List.range n).map fun i=>(F i).getD default⟩,by simp,?_,hk _ (by simp) ?_⟩
 ·intro i hi
  rw [add_mk,Nat.zero_add,B.cell,List.getElem?_toArray,hg i hi]
 ·intro i hi
  rw [List.getElem?_toArray,hg i hi]
def codeB (v k:Nat):List Nat:=(List.range k).map fun i=>v/2^(k-1-i)%2
theorem codeB_len (v k:Nat):(codeB v k).length=k:=by simp [codeB]
def bN:List Nat→Nat
 | []=>0
 | b::r=>b*2^r.length+bN r
theorem bN_app (a b:List Nat):bN (a++b)=bN a*2^b.length+bN b:=by
 induction a with
 | nil=>simp [bN]
 | cons x r ih =>
  rw [List.cons_append,bN,ih,bN,List.length_append,Nat.pow_add,Nat.add_mul,Nat.mul_assoc];omega
theorem bN_snoc (a:List Nat) (x:Nat):bN (a ++ [x])=2*bN a+x:=by rw [bN_app];simp [bN];omega
theorem codeB_take (v k:Nat):∀i,i≤k→bN ((codeB v k).take i)=v/2^(k-i)%2^i
 | 0,_=>by simp [bN,Nat.mod_one]
 | i+1,h=>by
  have hl:i<(codeB v k).length:=by rw [codeB_len];omega
  rw [List.take_succ_eq_append_getElem hl,bN_snoc,codeB_take v k i (by omega)]
  have e:(codeB v k)[i]=v/2^(k-(i+1))%2:=by
   have h0:(codeB v k)[i]=v/2^(k-1-i)%2:=by simp [codeB]
   rw [h0,show k-1-i=k-(i+1) by omega]
  rw [e]
  have e2:v/2^(k-i)=v/2^(k-(i+1))/2:=by
   rw [Nat.div_div_eq_div_mul, ←Nat.pow_succ];congr 2;omega
  rw [e2,Nat.pow_succ,Nat.mul_comm (2^i) 2,Nat.mod_mul]
  omega
theorem codeB_val {v k:Nat} (h:v<2^k):bN (codeB v k)=v:=by
 have h1:=codeB_take v k k (Nat.le_refl _)
 rw [List.take_of_length_le (by rw [codeB_len];omega),Nat.sub_self,Nat.pow_zero,Nat.div_one,Nat.mod_eq_of_lt h] at h1
 exact h1
theorem codeB_bit {v k:Nat} : ∀b∈codeB v k,b<2:=by
 intro b hb
 unfold codeB at hb
 obtain ⟨i,_,rfl⟩:=List.mem_map.mp hb
 omega
def byF (N:Nat):Nat→Int:=fun k=>((N/2^(8*k)%256:Nat):Int)
theorem byF_set {N p:Nat} (h:2^(p+1)∣N):byF (N+2^p)=updF (byF N) (p/8) ((N/2^(8*(p/8))%256+2^(p%8):Nat):Int)∧(N/2^(8*(p/8))%256)%2^(p%8+1)=0∧N/2^(8*(p/8))%256+2^(p%8)<256:=by
 obtain ⟨a,rfl⟩:=h
 have hp:8*(p/8)+p%8=p:=by omega
 have hr:p%8<8:=Nat.mod_lt _ (by omega)
 have e1:∀c,(2^(p+1)*a+c*2^p)/2^(8*(p/8))=2^(p%8+1)*a+c*2^(p%8):=by
  intro c
  have:2^(p+1)*a+c*2^p=(2^(p%8+1)*a+c*2^(p%8))*2^(8*(p/8)):=by
   rw [Nat.add_mul,Nat.mul_right_comm, ←Nat.pow_add,Nat.mul_assoc c, ←Nat.pow_add,show p%8+1+8*(p/8)=p+1 by omega,show p%8+8*(p/8)=p by omega]
  rw [this,Nat.mul_div_cancel _ (Nat.two_pow_pos _)]
 have e0:=e1 0
 simp only [Nat.zero_mul,Nat.add_zero] at e0
 have eo:=e1 1
 rw [Nat.one_mul,Nat.one_mul] at eo
 have key:∀r,r<8→(2^(r+1)*a%256)%2^(r+1)=0∧2^(r+1)*a%256+2^r<256∧(2^(r+1)*a+2^r)%256=2^(r+1)*a%256+2^r:=by
  intro r hr
  have:r=0∨r=1∨r=2∨r=3∨r=4∨r=5∨r=6∨r=7:=by omega
  rcases this with rfl|rfl|rfl|rfl|rfl|rfl|rfl|rfl<;>simp only [Nat.reduceAdd,Nat.reducePow]<;>omega
 obtain ⟨k1,k2,k3⟩:=key (p%8) hr
 refine ⟨?_,by rw [e0];exact k1,by rw [e0];exact k2⟩
 funext k
 unfold byF updF
 by_cases hk:k=p/8
 ·subst hk
  rw [if_pos rfl,e0,eo,k3]
 ·rw [if_neg hk]
  congr 1
  rcases Nat.lt_or_ge k (p/8) with h|h
  ·have h2:(2^(p+1)*a+2^p)/2^(8*k)=2^(p+1)*a/2^(8*k)+256*2^(p-8*k-8):=by
    have e:2^p=(256*2^(p-8*k-8))*2^(8*k):=by
     rw [show (256:Nat)=2^8 from rfl, ←Nat.pow_add, ←Nat.pow_add];congr 1;omega
    rw [e,Nat.add_mul_div_right _ _ (Nat.two_pow_pos _)]
   rw [h2,Nat.add_mul_mod_self_left]
  ·have e:2^(8*k)=2^(p+1)*2^(8*k-(p+1)):=by rw [←Nat.pow_add];congr 1;omega
   rw [e, ←Nat.div_div_eq_div_mul, ←Nat.div_div_eq_div_mul]
   congr 2
   have hlt:2^p<2^(p+1):=Nat.pow_lt_pow_right (by omega) (by omega)
   rw [Nat.mul_add_div (Nat.two_pow_pos _),Nat.div_eq_of_lt hlt,Nat.mul_div_cancel_left _ (Nat.two_pow_pos _),Nat.add_zero]
theorem or_bit {x r:Nat} (hr:r<8) (hx:x%2^(r+1)=0) (hl:x+2^r<256):orI .u8 ((x:Nat):Int) ((2^r:Nat):Int)=((x+2^r:Nat):Int):=by
 have hlt:2^r<2^(r+1):=Nat.pow_lt_pow_right (by omega) (by omega)
 have e:x=2^(r+1)*(x/2^(r+1)):=by have:=Nat.div_add_mod x (2^(r+1));omega
 have h:=Nat.two_pow_add_eq_or_of_lt (i:=r+1) (b:=2^r) hlt (x/2^(r+1))
 rw [orI_nat rfl _ _ (by simp only [IntKind.bits];omega) (by simp only [IntKind.bits];omega)]
 rw [←e] at h
 rw [←h]
theorem or_zero8 {x:Nat} (h:x<256):orI .u8 ((x:Nat):Int) 0=((x:Nat):Int):=by
 have h1:=orI_nat (k := .u8) rfl x 0 (by simp only [IntKind.bits];omega) (by decide)
 rw [show ((0:Nat):Int)=0 from rfl,Nat.or_zero] at h1
 exact h1
section
variable {w:World}
theorem VecU.of_byF {b K N:Nat} (B:Blk w b (arrC .u8 K (byF N))) (hK:K<2^63):VecU w ⟨some ⟨b,0,none⟩,K,K⟩ (leB N K):=by
 refine ⟨⟨?_,Nat.le_refl _,(fun h=>by cases h),?_⟩,?_,hK⟩
 ·rw [bytes_len,leB_len];simp
 ·intro a ha
  injection ha with ha
  subst ha
  refine ⟨rfl,rfl,_,B,?_,fun i hi=>by rw [arrC_get (by simpa using hi)];rfl⟩
  intro i hi
  rw [bytes_len,leB_len] at hi
  rw [arrC_get hi]
  unfold bytes
  rw [List.getElem?_map,leB_get hi];rfl
 ·intro a ha i hi
  injection ha with ha
  subst ha
  exact ⟨_,(B.cell i).trans (arrC_get hi)⟩
theorem c54 {s0:Sl} {bl:List Nat} {K:Sl→PT} (V:Vec 1 w s0 (nints bl)) (hb:∀b∈bl,b<2) (hl:bl.length≤2^30) (hk:∀w' s',VecU w' s' (leB (bN bl+2^bl.length) (bl.length/8+1))→Fm w w' []→(∀v∈s'.bs,w.heap.size≤v)→K s' w') :
  callP Tryd.prog 54 #[.slice s0.a s0.l s0.c] [.c .S] K w:=by
 have hsl:=V.len
 rw [nints_len,Nat.mul_one] at hsl
 apply q54_ok
 unfold q54
 have eq8:quoI .i64 (s0.l:Int) 8=((bl.length/8:Nat):Int):=by
  rw [←hsl,show (8:Int)=((8:Nat):Int) from rfl,quoI_nat _ _ _ (by simp only [IntKind.bits];omega)]
 have em8:Int.tmod (s0.l:Int) 8=((bl.length%8:Nat):Int):=by rw [←hsl];rfl
 rw [eq8,em8,wI64 (by omega) (by omega)]
 refine ⟨by decide,?_⟩
 refine mks1 (k := .u8) (v:=0) (n:=bl.length/8+1) (by omega) (by omega) (by omega) ?_
 intro w1 F1 hs1 B1
 have hvb:∀b∈s0.bs,b≠w.heap.size:=fun b hb=>by have:=V.lt b hb;omega
 have hpn:w.heap.size≤w.heap.size:=Nat.le_refl _
 have V1:=V.fr F1 (by simp)
 generalize hpe:w.heap.size=p at *
 have B1':Blk w1 p (arrC .u8 (bl.length/8+1) (byF 0)):=B1.congr (by congr 1;funext k;unfold byF;simp)
 unfold drw
 refine ⟨by decide,?_⟩
 have hq:bl.length/8<bl.length/8+1:=by omega
 refine ixS_o rfl hq ?_
 rw [Nat.zero_add]
 refine ld_b (t := .I .u8) (x:=byF 0 (bl.length/8)) B1'.drew (arrC_get hq) ?_
 refine ⟨by decide,⟨by omega,?_⟩⟩
 refine ixS_o rfl hq ?_
 rw [Nat.zero_add]
 refine st_u B1'.drew (by rw [arrC_get hq];rfl) rfl ?_
 intro w2 B2 F2
 rw [arrC_upd hq] at B2
 have hm8:bl.length%8<8:=Nat.mod_lt _ (by omega)
 obtain ⟨g1,g2,g3⟩:=byF_set (N:=0) (p:=bl.length) ⟨0,by first|omega|(dsimp only;omega)⟩
 have eor:orI .u8 (byF 0 (bl.length/8)) (shlI .u8 1 ((bl.length%8:Nat):Int))=((0/2^(8*(bl.length/8))%256+2^(bl.length%8):Nat):Int):=by
  have e1:shlI .u8 1 ((bl.length%8:Nat):Int)=((2^(bl.length%8):Nat):Int):=by
   have:∀r:Fin 8,shlI .u8 1 (((r:Nat):Nat):Int)=((2^(r:Nat):Nat):Int):=by decide +kernel
   exact this ⟨_,hm8⟩
  rw [e1]
  exact or_bit hm8 g2 g3
 rw [eor, ←g1,Nat.zero_add] at B2
 have F02:Fm w1 w2 [p]:=(Fm.refl w1 [p]).drew.trans F2 (fun x hx => .inl hx)
 refine joinP_id ?_
 refine ⟨fun x w'=>∃i:Nat,x=(i:Int)∧i≤bl.length∧Blk w' p (arrC .u8 (bl.length/8+1) (byF (2^bl.length+bN (bl.take i)*2^(bl.length-i))))∧Fm w1 w' [p],fun x _=>bl.length-x.toNat,⟨0,rfl,Nat.zero_le _,by simpa [bN] using B2,F02⟩,?_⟩
 rintro x w3 ⟨i,rfl,hi,B3,F3⟩
 unfold q54_L0
 refine cnd_d ?_ ?_
 ·intro hc
  have hi2:i<bl.length:=by omega
  have hbi:=hb _ (List.getElem_mem hi2)
  have V3:=V1.fr F3 (by intro b hb';simp;exact hvb b hb')
  refine Vec.ldN i V3 rfl hi2 ?_
  intro q hq'
  refine ld_c (t := .I .i64) (x:=((bl[i]:Nat):Int)) hq' ?_
  unfold drw
  have eP:IntKind.i64.wrap (IntKind.i64.wrap ((s0.l:Int)-1)-((i:Nat):Int))=((bl.length-1-i:Nat):Int):=by
   rw [wI64 (x:=(s0.l:Int)-1) (by omega) (by omega),wI64 (by omega) (by omega)];omega
  rw [eP,show (8:Int)=((8:Nat):Int) from rfl,quoI_nat _ _ _ (by simp only [IntKind.bits];omega),show Int.tmod ((bl.length-1-i:Nat):Int) ((8:Nat):Int)=(((bl.length-1-i)%8:Nat):Int) from rfl]
  generalize hpp:bl.length-1-i=pp at *
  have hq2:pp/8<bl.length/8+1:=by omega
  have hr:pp%8<8:=Nat.mod_lt _ (by omega)
  refine ⟨by decide,?_⟩
  refine ixS_o rfl hq2 ?_
  rw [Nat.zero_add]
  refine ld_b (t := .I .u8) (x:=byF (2^bl.length+bN (bl.take i)*2^(bl.length-i)) (pp/8)) B3.drew (arrC_get hq2) ?_
  refine ⟨by decide,⟨by omega,?_⟩⟩
  refine ixS_o rfl hq2 ?_
  rw [Nat.zero_add]
  refine st_u B3.drew (by rw [arrC_get hq2];rfl) rfl ?_
  intro w4 B4 F4
  rw [arrC_upd hq2] at B4
  rw [wI64 (by omega) (by omega)]
  have hdv:2^(pp+1)∣2^bl.length+bN (bl.take i)*2^(bl.length-i):=by
   rw [show bl.length-i=pp+1 by omega]
   exact Nat.dvd_add (Nat.pow_dvd_pow 2 (by omega)) (Nat.dvd_mul_left _ _)
  obtain ⟨g1,g2,g3⟩:=byF_set hdv
  have enext:2^bl.length+bN (bl.take (i+1))*2^(bl.length-(i+1))=2^bl.length+bN (bl.take i)*2^(bl.length-i)+bl[i]*2^pp:=by
   rw [List.take_succ_eq_append_getElem hi2,bN_snoc,show bl.length-(i+1)=pp by omega,show bl.length-i=pp+1 by omega,Nat.add_mul,Nat.pow_succ,Nat.mul_comm 2 (bN _),Nat.mul_assoc,Nat.mul_comm 2 (2^pp)]
   omega
  have hbits:bl[i]=0∨bl[i]=1:=by omega
  refine ⟨⟨i+1,by simp,hi2,B4.congr ?_,F3.trans ((Fm.refl w3 [p]).drew.trans F4 (fun x hx => .inl hx)) (fun x hx => .inl hx)⟩,by first|omega|(dsimp only;omega)⟩
  rw [enext]
  congr 1
  rcases hbits with h0|h1
  ·rw [h0,Nat.zero_mul,Nat.add_zero]
   have ez:IntKind.u8.wrap (shlI .i64 ((0:Nat):Int) ((pp%8:Nat):Int))=0:=by
    unfold shlI
    simp
    rfl
   rw [ez]
   funext k
   unfold updF
   split
   ·rename_i hk
    subst hk
    exact or_zero8 (Nat.mod_lt _ (by omega))
   ·rfl
  ·rw [h1,Nat.one_mul,g1]
   have e1:IntKind.u8.wrap (shlI .i64 ((1:Nat):Int) ((pp%8:Nat):Int))=((2^(pp%8):Nat):Int):=by
    have:∀r:Fin 8,IntKind.u8.wrap (shlI .i64 ((1:Nat):Int) (((r:Nat):Nat):Int))=((2^(r:Nat):Nat):Int):=by decide +kernel
    exact this ⟨_,hr⟩
   rw [e1]
   congr 1
   exact or_bit hr g2 g3
 ·intro hc
  have hi2:i=bl.length:=by omega
  subst hi2
  unfold q54_J1
  rw [List.take_length,Nat.sub_self,Nat.pow_zero,Nat.mul_one] at B3
  have B3':Blk w3 p (arrC .u8 (bl.length/8+1) (byF (bN bl+2^bl.length))):=by rw [Nat.add_comm (bN bl)];exact B3
  refine hk w3 _ (VecU.of_byF B3' (by omega)) (F1.trans F3 (by intro v hv;right;simp at hv;omega)) ?_
  intro v hv
  simp [Sl.bs] at hv
  omega
end
section
variable {w:World}
theorem c21 {b:Nat} {ln:Nat→Nat} {f:Nat→Int} {K:Bool→PT} (B:Blk w b (arrC .i64 256 f)) (hf:∀i,f i=(ln i:Nat)) (h11:∀i,ln i≤11) (hs:sF (fun i=>if 0<ln i then 2^(11-ln i) else 0) 0 256=2^11) (two:∃x y,x<y∧y<256∧0<ln x∧0<ln y) (hk:K true w) :
  callP Tryd.prog 21 #[.slice (some ⟨b,0,none⟩) 256 256] [.c .B] K w:=by
 apply q21_ok (s0:=⟨some ⟨b,0,none⟩,256,256⟩)
 unfold q21
 refine cnd_d (fun h=>absurd h (show ¬((256:Int)<((256:Nat):Int)) by decide)) (fun _ => ?_)
 refine joinP_id ?_
 refine ⟨fun x w'=>∃i:Nat,x=(((sF (fun i=>if 0<ln i then 2^(11-ln i) else 0) 0 i:Nat):Int),((sF (fun i=>if 0<ln i then 1 else 0) 0 i:Nat):Int),(i:Int))∧i≤256∧w'=w,fun x _=>256-x.2.2.toNat,⟨0,rfl,Nat.zero_le _,rfl⟩,?_⟩
 rintro x w1 ⟨i,rfl,hi,rfl⟩
 unfold q21_L2
 simp only
 refine cnd_d ?_ ?_
 ·intro hc
  have hi2:i<256:=by omega
  have h1:=h11 i
  refine joinP_id ?_
  unfold q21_X1
  refine ixS_o rfl hi2 ?_
  rw [Nat.zero_add]
  refine ld_b (t := .I .i64) (x:=((ln i:Nat):Int)) B (by rw [arrC_get hi2,hf i];rfl) ?_
  refine cnd_d (fun h=>absurd h (by omega)) (fun _=>cnd_d (fun h=>absurd h (by omega)) (fun _ => ?_))
  have hsum:sF (fun i=>if 0<ln i then 2^(11-ln i) else 0) 0 (i+1)=sF (fun i=>if 0<ln i then 2^(11-ln i) else 0) 0 i+(if 0<ln i then 2^(11-ln i) else 0):=by rw [sF,Nat.zero_add]
  have hcnt:sF (fun i=>if 0<ln i then 1 else 0) 0 (i+1)=sF (fun i=>if 0<ln i then 1 else 0) 0 i+(if 0<ln i then 1 else 0):=by rw [sF,Nat.zero_add]
  have hle:sF (fun i=>if 0<ln i then 2^(11-ln i) else 0) 0 i≤2^11:=by
   rw [←hs];exact sF_mono_n _ (by omega)
  have hle2:sF (fun i=>if 0<ln i then 1 else 0) 0 i≤i*1:=sF_le_mul (fun j _=>by split<;>omega)
  have hp:2^(11-ln i)≤2^11:=Nat.pow_le_pow_right (by omega) (by omega)
  have e11:IntKind.i64.wrap ((11:Int)-((ln i:Nat):Int))=((11-ln i:Nat):Int):=by rw [wI64 (by omega) (by omega)];omega
  unfold q21_J0
  simp only
  refine cnd_d (fun hpos => ?_) (fun hn => ?_)
  ·rw [e11]
   refine ⟨by omega,?_⟩
   rw [shl1 (by omega)]
   generalize 2^(11-ln i)=pw at *
   rw [wI64 (x:=_+((pw:Nat):Int)) (by omega) (by omega),wI64 (x:=((sF (fun i=>if 0<ln i then 1 else 0) 0 i:Nat):Int)+1) (by omega) (by omega),wI64 (by omega) (by omega)]
   refine ⟨⟨i+1,?_,hi2,rfl⟩,by first|omega|(dsimp only;omega)|(simp only [];omega)⟩
   rw [hsum,hcnt,if_pos (by omega),if_pos (by omega),Prod.mk.injEq,Prod.mk.injEq]
   exact ⟨by omega,by omega,by first|omega|(dsimp only;omega)⟩
  ·rw [wI64 (by omega) (by omega)]
   refine ⟨⟨i+1,?_,hi2,rfl⟩,by first|omega|(dsimp only;omega)|(simp only [];omega)⟩
   rw [hsum,hcnt,if_neg (by omega),if_neg (by omega),Prod.mk.injEq,Prod.mk.injEq]
   exact ⟨by omega,by omega,by first|omega|(dsimp only;omega)⟩
 ·intro hc
  have hi2:i=256:=by omega
  subst hi2
  obtain ⟨x,y,hxy,hy,hx0,hy0⟩:=two
  have h2:2≤sF (fun i=>if 0<ln i then 1 else 0) 0 256:=by
   have e:=sF_split (fun i=>if 0<ln i then 1 else 0) y (256-y)
   rw [show y+(256-y)=256 by omega] at e
   have m1:=sF_mem (fun i=>if 0<ln i then 1 else 0) 0 (n:=y) (i:=x) (by omega) (by omega)
   have m2:=sF_mem (fun i=>if 0<ln i then 1 else 0) y (n:=256-y) (i:=y) (by omega) (by omega)
   rw [if_pos hx0] at m1
   rw [if_pos hy0] at m2
   omega
  unfold q21_J4
  simp only
  refine joinP_id (cnd_d (fun _ => ?_) (fun h=>absurd h (by omega)))
  unfold q21_J3
  rw [hs]
  exact hk
end
theorem VecU.fresh {w:World} {p:Nat} {f:Cells} (B:Blk w p f):VecU w ⟨some ⟨p,0,none⟩,0,0⟩ []:=by
 refine ⟨⟨rfl,Nat.le_refl _,fun _=>rfl,?_⟩,?_,show (0:Nat)<2^63 by decide⟩
 ·intro a ha
  injection ha with ha
  subst ha
  exact ⟨rfl,rfl,_,B,by simp [bytes],by simp⟩
 ·intro a ha i hi
  exact absurd hi (Nat.not_lt_zero _)
theorem shift_in (V v x n k q:Nat) (hx:x=V/2^q%2^k) (hv:v%2^n=V/2^(q+k)%2^n) :
  (v*2^k+x)%2^(n+k)=V/2^q%2^(n+k):=by
 have hk:=Nat.two_pow_pos k
 have hlt:x<2^k:=hx▸Nat.mod_lt _ hk
 rw [Nat.add_comm n k,Nat.pow_add,Nat.mod_mul,Nat.mod_mul (a:=2^k) (x:=V/2^q),Nat.div_div_eq_div_mul, ←Nat.pow_add]
 rw [show (v*2^k+x)%2^k=x by rw [Nat.mul_comm,Nat.mul_add_mod,Nat.mod_eq_of_lt hlt]]
 rw [show (v*2^k+x)/2^k=v by rw [Nat.mul_comm,Nat.mul_add_div hk,Nat.div_eq_of_lt hlt,Nat.add_zero]]
 rw [hv, ←hx]
theorem shl_or {v x k:Nat} (hk:k≤64) (hx:x<2^k):orI .u64 (shlI .u64 (v:Int) (k:Int)) (x:Int)=((v*2^k%2^64+x:Nat):Int)∧v*2^k%2^64+x<2^64∧v*2^k%2^64+x=(v*2^k+x)%2^64:=by
 have e:(2:Nat)^64=2^(64-k)*2^k:=by rw [←Nat.pow_add,show 64-k+k=64 by omega]
 have e2:v*2^k%2^64=v%2^(64-k)*2^k:=by rw [e,Nat.mul_mod_mul_right]
 have h1:v%2^(64-k)<2^(64-k):=Nat.mod_lt _ (Nat.two_pow_pos _)
 have h2:v%2^(64-k)*2^k+x<2^64:=by
  have:=Nat.mul_le_mul_right (2^k) h1
  rw [e]
  rw [Nat.succ_mul] at this
  omega
 have hp:2^k≤2^64:=Nat.pow_le_pow_right (by omega) hk
 refine ⟨?_,by rw [e2];exact h2,?_⟩
 ·rw [shlI_u (k := .u64) rfl v k (by simp only [IntKind.bits];omega)]
  simp only [IntKind.bits]
  rw [orI_nat (k := .u64) rfl _ _ (by simp only [IntKind.bits];omega) (by simp only [IntKind.bits];omega),e2,Nat.or_comm,or_add hx,Nat.add_comm]
 ·have h3:v*2^k%2^64+x<2^64:=by rw [e2];exact h2
  rw [←Nat.mod_add_mod,Nat.mod_eq_of_lt h3]
theorem or4 {a b c d:Nat} (ha:a<256) (hb:b<256) (hc:c<256) (hd:d<256) :
  orI .u32 (orI .u32 (orI .u32 (IntKind.wrap .u32 (a:Int)) (shlI .u32 (IntKind.wrap .u32 (b:Int)) (8:Int))) (shlI .u32 (IntKind.wrap .u32 (c:Int)) (16:Int))) (shlI .u32 (IntKind.wrap .u32 (d:Int)) (24:Int))
   = ((a+b*2^8+c*2^16+d*2^24:Nat):Int):=by
 have s:∀x k:Nat,x<256→k≤24→shlI .u32 (IntKind.wrap .u32 (x:Int)) (k:Int)=((x*2^k:Nat):Int):=by
  intro x k hx hk
  rw [wU32 (by omega) (by omega),shlI_u (k := .u32) rfl x k (by simp only [IntKind.bits];omega)]
  simp only [IntKind.bits]
  have h2:2^k≤2^24:=Nat.pow_le_pow_right (by omega) hk
  have h3:x*2^k≤255*2^24:=Nat.mul_le_mul (by omega) h2
  rw [Nat.mod_eq_of_lt (by omega)]
 have s1:shlI .u32 (IntKind.wrap .u32 (b:Int)) (8:Int)=_:=s b 8 hb (by omega)
 have s2:shlI .u32 (IntKind.wrap .u32 (c:Int)) (16:Int)=_:=s c 16 hc (by omega)
 have s3:shlI .u32 (IntKind.wrap .u32 (d:Int)) (24:Int)=_:=s d 24 hd (by omega)
 rw [s1,s2,s3,wU32 (by omega) (by omega)]
 rw [orI_nat (k := .u32) rfl _ _ (by simp only [IntKind.bits];omega) (by simp only [IntKind.bits];omega),or_add (by omega)]
 rw [orI_nat (k := .u32) rfl _ _ (by simp only [IntKind.bits];omega) (by simp only [IntKind.bits];omega),or_add (by omega)]
 rw [orI_nat (k := .u32) rfl _ _ (by simp only [IntKind.bits];omega) (by simp only [IntKind.bits];omega),or_add (by omega)]
theorem or8 {a b c d e f g h:Nat} (ha:a<256) (hb:b<256) (hc:c<256) (hd:d<256) (he:e<256) (hf:f<256) (hg:g<256) (hh:h<256) :
  orI .u64 (orI .u64 (orI .u64 (orI .u64 (orI .u64 (orI .u64 (orI .u64 (IntKind.wrap .u64 (a:Int)) (shlI .u64 (IntKind.wrap .u64 (b:Int)) (8:Int))) (shlI .u64 (IntKind.wrap .u64 (c:Int)) (16:Int))) (shlI .u64 (IntKind.wrap .u64 (d:Int)) (24:Int))) (shlI .u64 (IntKind.wrap .u64 (e:Int)) (32:Int))) (shlI .u64 (IntKind.wrap .u64 (f:Int)) (40:Int))) (shlI .u64 (IntKind.wrap .u64 (g:Int)) (48:Int))) (shlI .u64 (IntKind.wrap .u64 (h:Int)) (56:Int))
   = ((a+b*2^8+c*2^16+d*2^24+e*2^32+f*2^40+g*2^48+h*2^56:Nat):Int):=by
 have s:∀x k:Nat,x<256→k≤56→shlI .u64 (IntKind.wrap .u64 (x:Int)) (k:Int)=((x*2^k:Nat):Int):=by
  intro x k hx hk
  rw [wU64 (by omega) (by omega),shlI_u (k := .u64) rfl x k (by simp only [IntKind.bits];omega)]
  simp only [IntKind.bits]
  have h2:2^k≤2^56:=Nat.pow_le_pow_right (by omega) hk
  have h3:x*2^k≤255*2^56:=Nat.mul_le_mul (by omega) h2
  rw [Nat.mod_eq_of_lt (by omega)]
 have s1:shlI .u64 (IntKind.wrap .u64 (b:Int)) (8:Int)=_:=s b 8 hb (by omega)
 have s2:shlI .u64 (IntKind.wrap .u64 (c:Int)) (16:Int)=_:=s c 16 hc (by omega)
 have s3:shlI .u64 (IntKind.wrap .u64 (d:Int)) (24:Int)=_:=s d 24 hd (by omega)
 have s4:shlI .u64 (IntKind.wrap .u64 (e:Int)) (32:Int)=_:=s e 32 he (by omega)
 have s5:shlI .u64 (IntKind.wrap .u64 (f:Int)) (40:Int)=_:=s f 40 hf (by omega)
 have s6:shlI .u64 (IntKind.wrap .u64 (g:Int)) (48:Int)=_:=s g 48 hg (by omega)
 have s7:shlI .u64 (IntKind.wrap .u64 (h:Int)) (56:Int)=_:=s h 56 hh (by omega)
 rw [s1,s2,s3,s4,s5,s6,s7,wU64 (by omega) (by omega)]
 have st:∀x y k:Nat,x<2^k→y<256→k≤56→orI .u64 (x:Int) ((y*2^k:Nat):Int)=((x+y*2^k:Nat):Int):=by
  intro x y k hx hy hk
  have h2:2^k≤2^56:=Nat.pow_le_pow_right (by omega) hk
  have h3:y*2^k≤255*2^56:=Nat.mul_le_mul (by omega) h2
  rw [orI_nat (k := .u64) rfl _ _ (by simp only [IntKind.bits];omega) (by simp only [IntKind.bits];omega),or_add hx]
 rw [st _ _ 8 (by omega) hb (by omega),st _ _ 16 (by omega) hc (by omega),st _ _ 24 (by omega) hd (by omega),st _ _ 32 (by omega) he (by omega),st _ _ 40 (by omega) hf (by omega),
  st _ _ 48 (by omega) hg (by omega),st _ _ 56 (by omega) hh (by omega)]
theorem le4 {l:List Nat} (o:Nat) (h:By l):l.getD o 0+l.getD (o+1) 0*2^8+l.getD (o+2) 0*2^16+l.getD (o+3) 0*2^24=leN l/2^(8*o)%2^32:=by
 have g0:=leN_get o h
 have g1:=leN_get (o+1) h
 have g2:=leN_get (o+2) h
 have g3:=leN_get (o+3) h
 rw [Nat.pow_add, ←Nat.div_div_eq_div_mul] at g1 g2 g3
 rw [←g0, ←g1, ←g2, ←g3,Nat.pow_mul,show (2:Nat)^8=256 from rfl]
 generalize leN l/256^o=U
 omega
theorem le8 {l:List Nat} (o:Nat) (h:By l):l.getD o 0+l.getD (o+1) 0*2^8+l.getD (o+2) 0*2^16+l.getD (o+3) 0*2^24+l.getD (o+4) 0*2^32+l.getD (o+5) 0*2^40+l.getD (o+6) 0*2^48+l.getD (o+7) 0*2^56=leN l/2^(8*o)%2^64:=by
 have a:=le4 o h
 have b:=le4 (o+4) h
 rw [show 8*(o+4)=8*o+32 by omega,Nat.pow_add, ←Nat.div_div_eq_div_mul,show o+4+1=o+5 from rfl,show o+4+2=o+6 from rfl,show o+4+3=o+7 from rfl] at b
 generalize leN l/2^(8*o)=U at *
 omega
def FS.br4 (s:FS) (i:Sl) (off v r:Nat):FS := { s with bIn:=i,bOff:=off,bVal:=v,bRead:=r }
structure RB (w:World) (b:Nat) (s:FS) (i:Sl) (l:List Nat) (off v r:Nat):Prop where
 blk:Blk w b (s.br4 i off v r).at
 arr:Arr .u8 w i l
 u8:By l
 len:l.length<2^20
 dis:∀a,i.a=some a→l ≠ []→a.block≠b
 of:off≤l.length
 rd:r≤64
 v64:v<2^64
 val:v%2^(64-r)=leN l/2^(8*off)%2^(64-r)
theorem RB.fr {w w':World} {b:Nat} {s:FS} {i:Sl} {l:List Nat} {off v r:Nat} {S:List Nat} (H:RB w b s i l off v r) (F:Fm w w' S) (h1:b∉S) (h2:∀a,i.a=some a→l ≠ []→a.block∉S):RB w' b s i l off v r :=
 ⟨H.blk.fr F h1,H.arr.fr F h2,H.u8,H.len,H.dis,H.of,H.rd,H.v64,H.val⟩
theorem RB.drew {w:World} {b:Nat} {s:FS} {i:Sl} {l:List Nat} {off v r:Nat} (H:RB w b s i l off v r):RB w.drew b s i l off v r :=
 H.fr (Fm.refl w []).drew (by simp) (by simp)
theorem RB.mk' {w w':World} {b:Nat} {s:FS} {i:Sl} {l:List Nat} {off v r off' v' r':Nat} (H:RB w b s i l off v r) (B:Blk w' b (s.br4 i off' v' r').at) (F:Fm w w' [b]) (h1:off'≤l.length) (h2:r'≤64) (h3:v'<2^64)
  (h4:v'%2^(64-r')=leN l/2^(8*off')%2^(64-r')):RB w' b s i l off' v' r' :=
 ⟨B,H.arr.fr F (by intro a ha hl;simpa using H.dis a ha hl),H.u8,H.len,H.dis,h1,h2,h3,h4⟩
theorem and63' {n:Nat} (h:n<256):andI .u8 (n:Int) 63=((n%64:Nat):Int):=by
 have:=andI_nat (k := .u8) rfl n 63 (by simp only [IntKind.bits];omega) (by decide)
 have e:n &&& 63=n%64:=Nat.and_two_pow_sub_one_eq_mod n 6
 rw [e] at this
 exact this
theorem take_val {V v r n o:Nat} (hr:r+n≤64) (hv:v%2^(64-r)=V/2^o%2^(64-r)) :
  v*2^r%2^64/2^(64-n)=V/2^(o+(64-r)-n)%2^n:=by
 have e1:(2:Nat)^64=2^(64-r)*2^r:=by rw [←Nat.pow_add,show 64-r+r=64 by omega]
 have e2:(2:Nat)^(64-n)=2^(64-r-n)*2^r:=by rw [←Nat.pow_add,show 64-r-n+r=64-n by omega]
 rw [e1,Nat.mul_mod_mul_right,e2,Nat.mul_div_mul_right _ _ (Nat.two_pow_pos r),hv]
 rw [show (2:Nat)^(64-r)=2^(64-r-n)*2^n by rw [←Nat.pow_add,show 64-r-n+n=64-r by omega]]
 rw [Nat.mod_mul_right_div_self,Nat.div_div_eq_div_mul, ←Nat.pow_add,show o+(64-r)-n=o+(64-r-n) by omega]
theorem c133 {w:World} {b:Nat} {s:FS} {i:Sl} {l:List Nat} {off v r n:Nat} {K:Int→PT} (H:RB w b s i l off v r) (hn:0<n) (hn2:n≤16) (hr:r+n≤64)
  (hk:∀w',RB w' b s i l off v (r+n)→Fm w w' [b]→K ((tkB l n ((8*off+(64-r):Nat):Int):Nat):Int) w') :
  callP Tryd.prog 133 #[.pointer (some ⟨b,514,none⟩),.int .u8 n] [.c (.I .u16)] K w:=by
 apply q133_ok
 unfold q133 drw
 simp only [add_mk]
 have B:=H.blk.drew
 refine ld_b (t := .I .u64) (x:=(v:Int)) B rfl ?_
 refine ld_b (t := .I .u8) (x:=(r:Int)) B rfl ?_
 have er:andI .u8 (r:Int) 63=(r:Int):=by rw [and63' (by omega),Nat.mod_eq_of_lt (by omega)]
 have en:andI .u8 (IntKind.wrap .u8 ((64:Int)-(n:Int))) 63=((64-n:Nat):Int):=by
  rw [wU8 (by omega) (by omega),show (64:Int)-(n:Int)=((64-n:Nat):Int) by omega,and63' (by omega),Nat.mod_eq_of_lt (by omega)]
 rw [er,en]
 refine ⟨by omega,by omega,?_⟩
 refine ld_b (t := .I .u8) (x:=(r:Int)) B rfl ?_
 rw [wU8 (by omega) (by omega), ←Int.natCast_add]
 refine st_u B rfl rfl ?_
 intro w' B' F'
 have F:Fm w w' [b]:=((Fm.refl w [b]).drew).trans F' (fun x hx => .inl hx)
 have B2:Blk w' b (s.br4 i off v (r+n)).at:=B'.congr (FS.setT 5 rfl rfl rfl (by decide))
 have hv:=take_val hr H.val
 rw [shlI_u (k := .u64) rfl v r (by simp only [IntKind.bits];omega)]
 simp only [IntKind.bits]
 rw [shrI_nat .u64 _ (64-n) (by simp only [IntKind.bits];exact Nat.mod_lt _ (by decide)),hv, ←tkB_val l n _ (by omega)]
 have hlt:=tkB_lt l n ((8*off+(64-r):Nat):Int)
 have hp:2^n≤2^16:=Nat.pow_le_pow_right (by omega) hn2
 rw [wU16 (by omega) (by omega)]
 refine hk w' (H.mk' B2 F H.of hr H.v64 ?_) F
 have e:(2:Nat)^(64-r)=2^(64-(r+n))*2^n:=by rw [←Nat.pow_add,show 64-(r+n)+n=64-r by omega]
 have h1:=H.val
 rw [e] at h1
 have h2:=congrArg (· % 2^(64-(r+n))) h1
 simp only [Nat.mod_mul_right_mod] at h2
 exact h2
theorem c132 {w:World} {b:Nat} {s:FS} {i:Sl} {l:List Nat} {off v r n:Nat} {K:Int→PT} (H:RB w b s i l off v r) (hn2:n≤16) (hr:r+n≤64)
  (hk:∀w',RB w' b s i l off v (r+n)→Fm w w' [b]→K ((tkB l n ((8*off+(64-r):Nat):Int):Nat):Int) w') :
  callP Tryd.prog 132 #[.pointer (some ⟨b,514,none⟩),.int .u8 n] [.c (.I .u16)] K w:=by
 apply q132_ok
 unfold q132
 refine cnd_d ?_ ?_
 ·intro hc
  have:n=0:=by omega
  subst this
  exact hk w H (Fm.refl w _)
 ·intro hc
  simp only [add_mk]
  refine ld_b (t := .I .u8) (x:=(r:Int)) H.blk rfl (cnd_d (fun h=>by omega) fun _ => ?_)
  exact c133 H (by omega) hn2 hr hk
theorem c134 {w:World} {b:Nat} {s:FS} {i:Sl} {l:List Nat} {off v r:Nat} {K:Bool→PT} (H:RB w b s i l off v r)
  (hk:K (decide (8*off+(64-r)=0)) w) :
  callP Tryd.prog 134 #[.pointer (some ⟨b,514,none⟩)] [.c .B] K w:=by
 apply q134_ok
 unfold q134 q134_J0
 have hr:=H.rd
 simp only [add_mk]
 refine joinP_id (ld_b (t := .I .u8) (x:=(r:Int)) H.blk rfl (cnd_d (fun h => ?_) fun h => ?_))
 ·refine ld_b (t := .I .u64) (x:=(off:Int)) H.blk rfl ?_
  rw [show decide ((off:Int)=0)=decide (8*off+(64-r)=0) by
   by_cases h0:off=0
   ·rw [decide_eq_true (by omega),decide_eq_true (by omega)]
   ·rw [decide_eq_false (by omega),decide_eq_false (by omega)]]
  exact hk
 ·rw [show decide (8*off+(64-r)=0)=false from decide_eq_false (by omega)] at hk
  exact hk
theorem nw_x {cs:List Value} {T:TypeId} {κ:Addr→PT} {w:World} (hk:∀p w',Fm w w' []→Blk w' p (fun i=>(⟨cs⟩:Array Value)[i]?)→w.heap.size≤p→κ ⟨p,0,none⟩ w'):nw cs T κ w :=
 hk _ _ (Fm.refl w []).alloc Blk.new (Nat.le_refl _)
theorem c100 {w:World} {s:Sl} {n:Nat} {K:Sl→PT} (hn:n≤s.l) (hk:∀w',Fm w w' []→K ⟨slA s.a n s.c 1,s.l-n,s.c-n⟩ w'):callP Tryd.prog 100 #[.agg ⟨[.slice s.a s.l s.c,.int .i64 n]⟩] [.c .S] K w:=by
 apply q100_ok (r0:=(s,(n:Int)))
 unfold q100
 refine nw_x ?_
 intro p w' F B _
 refine ld_b (x:=s) B rfl ?_
 rw [add_mk]
 refine ld_b (t := .I .i64) (x:=(n:Int)) B rfl ?_
 exact slc_lo rfl hn (hk _ F)
theorem c94 {w:World} {s:Sl} {l:List Nat} {n:Nat} {K:Int→PT} (A:Arr .u8 w s l) (hl:By l) (hn:n+4≤l.length)
  (hk:∀w',Fm w w' []→K ((leN l/2^(8*n)%2^32:Nat):Int) w'):callP Tryd.prog 94 #[.agg ⟨[.slice s.a s.l s.c,.int .i64 n]⟩] [.c (.I .u32)] K w:=by
 apply q94_ok (r0:=(s,(n:Int)))
 unfold q94
 have hsl:=A.len
 refine nw_x ?_
 intro p w' F B _
 refine ld_b (x:=s) B rfl ?_
 rw [add_mk]
 refine ld_b (t := .I .i64) (x:=(n:Int)) B rfl ?_
 refine slc_lo rfl (by omega) ?_
 have hcap:=A.cap
 refine slc_hi (m:=4) rfl (by simp only;omega) ?_
 have A':=A.fr F (by simp)
 have A4:=(A'.drop n (by omega)).take 4 (by simp;omega)
 have hlen:((l.drop n).take 4).length=4:=by simp;omega
 have g:∀k (h:k<((l.drop n).take 4).length),((l.drop n).take 4)[k]=l.getD (n+k) 0:=by
  intro k hk
  rw [hlen] at hk
  simp only [List.getElem_take,List.getElem_drop]
  rw [getD_in (by omega)]
 have lt:∀k,l.getD k 0<256:=by
  intro k
  by_cases hk:k<l.length
  ·rw [getD_in hk];exact hl _ (List.getElem_mem _)
  ·rw [getD_out (by omega)];omega
 refine A4.ldk 3 rfl (by omega) fun p hp=>ld_c (t := .I .u8) hp ?_
 refine A4.ldk 2 rfl (by omega) fun p hp=>ld_c (t := .I .u8) hp ?_
 refine A4.ldk 1 rfl (by omega) fun p hp=>ld_c (t := .I .u8) hp ?_
 refine A4.ldk 0 rfl (by omega) fun p hp=>ld_c (t := .I .u8) hp ?_
 refine ⟨by decide,by decide,by decide,?_⟩
 rw [g,g,g,g,Nat.add_zero,or4 (lt _) (lt _) (lt _) (lt _),le4 n hl]
 exact hk _ F
theorem getD_lt {l:List Nat} (hl:By l) (k:Nat):l.getD k 0<256:=by
 by_cases hk:k<l.length
 ·rw [getD_in hk];exact hl _ (List.getElem_mem _)
 ·rw [getD_out (by omega)];omega
theorem leN_dropR {l:List Nat} (hl:By l) (k:Nat) (hk:k≤l.length):leN (l.drop k)=leN l/2^(8*k):=by
 have h1:leN (l.take k++l.drop k)=leN l:=by rw [List.take_append_drop]
 rw [leN_append] at h1
 have h2:leN (l.take k)<256^(l.take k).length:=leN_lt (fun x hx=>hl x (List.mem_of_mem_take hx))
 rw [List.length_take,Nat.min_eq_left hk] at h1 h2
 rw [Nat.pow_mul,show (2:Nat)^8=256 from rfl, ←h1,Nat.mul_comm,Nat.add_mul_div_right _ _ (Nat.pow_pos (by omega)),Nat.div_eq_of_lt h2,Nat.zero_add]
structure Fil (w:World) (b:Nat) (s:FS) (i:Sl) (l:List Nat) (left:Nat) (w':World) (off v r:Nat):Prop where
 rb:RB w' b s i l off v r
 lf:8*off+(64-r)=left
 fm:Fm w w' [b]
theorem fill4 {w:World} {b:Nat} {s:FS} {i:Sl} {l:List Nat} {off v r:Nat} {K:Unit→PT} (H:RB w b s i l off v r) (ho:4≤off) (hr:32≤r)
  (hk:∀w' v',Fil w b s i l (8*off+(64-r)) w' (off-4) v' (r-32)→K () w') :
  (drw<|ld .S ⟨b,514,none⟩ fun (s3:Sl)=>ld (.I .u64) (Addr.add ⟨b,514,none⟩ 1) fun (n4:Int)=>slc 1 s3 (some (IntKind.wrap .u64 (n4-(4:Int)))) none none fun (s5:Sl)=>slc 1 s5 none (some (4:Int)) none fun (s6:Sl)=>drw<|ixS 1 s6 (0:Int) fun (p7:Addr)=>ld (.I .u8) p7 fun (n8:Int)=>ixS 1 s6 (1:Int) fun (p9:Addr)=>ld (.I .u8) p9 fun (n10:Int)=>req (0≤(8:Int))<|ixS 1 s6 (2:Int) fun (p11:Addr)=>ld (.I .u8) p11 fun (n12:Int)=>req (0≤(16:Int))<|ixS 1 s6 (3:Int) fun (p13:Addr)=>ld (.I .u8) p13 fun (n14:Int)=>req (0≤(24:Int))<|ld (.I .u64) (Addr.add ⟨b,514,none⟩ 2) fun (n15:Int)=>req (0≤(32:Int))<|st (Addr.add ⟨b,514,none⟩ 2) (.int .u64 (orI .u64 (shlI .u64 n15 (32:Int)) (IntKind.wrap .u64 (orI .u32 (orI .u32 (orI .u32 (IntKind.wrap .u32 n8) (shlI .u32 (IntKind.wrap .u32 n10) (8:Int))) (shlI .u32 (IntKind.wrap .u32 n12) (16:Int))) (shlI .u32 (IntKind.wrap .u32 n14) (24:Int))))))<|ld (.I .u8) (Addr.add ⟨b,514,none⟩ 3) fun (n16:Int)=>st (Addr.add ⟨b,514,none⟩ 3) (.int .u8 (IntKind.wrap .u8 (n16-(32:Int))))<|ld (.I .u64) (Addr.add ⟨b,514,none⟩ 1) fun (n17:Int)=>st (Addr.add ⟨b,514,none⟩ 1) (.int .u64 (IntKind.wrap .u64 (n17-(4:Int))))<|K ()) w:=by
 unfold drw
 simp only [add_mk]
 have hlen:=H.len
 have hof:=H.of
 have hrd:=H.rd
 have A:=H.arr
 have hsl:=A.len
 have hcap:=A.cap
 have B:=H.blk.drew
 refine ld_b (t := .S) (x:=i) B rfl ?_
 refine ld_b (t := .I .u64) (x:=(off:Int)) B rfl ?_
 refine slc_lo (n:=off-4) (by rw [wU64 (by omega) (by omega)];omega) (by omega) ?_
 refine slc_hi (m:=4) rfl (by simp only;omega) ?_
 have A':Arr .u8 w.drew.drew i l:=(A.fr (Fm.refl w []).drew (by simp)).fr (Fm.refl _ []).drew (by simp)
 have A4:=(A'.drop (off-4) (by omega)).take 4 (by simp;omega)
 have B2:=B.drew
 have hl4:((l.drop (off-4)).take 4).length=4:=by simp;omega
 have g:∀k (h:k<((l.drop (off-4)).take 4).length),((l.drop (off-4)).take 4)[k]=l.getD (off-4+k) 0:=by
  intro k hk
  rw [hl4] at hk
  simp only [List.getElem_take,List.getElem_drop]
  rw [getD_in (by omega)]
 have lt:=getD_lt H.u8
 refine A4.ldk 0 rfl (by omega) fun p hp=>ld_c (t := .I .u8) hp ?_
 refine A4.ldk 1 rfl (by omega) fun p hp=>ld_c (t := .I .u8) hp ⟨by decide,?_⟩
 refine A4.ldk 2 rfl (by omega) fun p hp=>ld_c (t := .I .u8) hp ⟨by decide,?_⟩
 refine A4.ldk 3 rfl (by omega) fun p hp=>ld_c (t := .I .u8) hp ⟨by decide,?_⟩
 refine ld_b (t := .I .u64) (x:=(v:Int)) B2 rfl ⟨by decide,?_⟩
 rw [g,g,g,g,or4 (lt _) (lt _) (lt _) (lt _),Nat.add_zero,le4 _ H.u8]
 have hx:leN l/2^(8*(off-4))%2^32<2^32:=Nat.mod_lt _ (by decide)
 have hE:=shift_in (leN l) v _ (64-r) 32 (8*(off-4)) rfl (by rw [show 8*(off-4)+32=8*off by omega];exact H.val)
 generalize leN l/2^(8*(off-4))%2^32=x at *
 rw [wU64 (by omega) (by omega)]
 have hS:=shl_or (v:=v) (x:=x) (k:=32) (by omega) hx
 rw [show orI .u64 (shlI .u64 (v:Int) (32:Int)) (x:Int)=_ from hS.1]
 obtain ⟨_,hS2,hS3⟩:=hS
 generalize v*2^32%2^64+x=v' at *
 refine st_u B2 rfl rfl ?_
 intro w2 B3 F3
 have B4:Blk w2 b (s.br4 i off v' r).at:=B3.congr (FS.setT 4 rfl rfl rfl (by decide))
 refine ld_b (t := .I .u8) (x:=(r:Int)) B4 rfl ?_
 rw [wU8 (by omega) (by omega),show (r:Int)-32=((r-32:Nat):Int) by omega]
 refine st_u B4 rfl rfl ?_
 intro w3 B5 F5
 have B6:Blk w3 b (s.br4 i off v' (r-32)).at:=B5.congr (FS.setT 5 rfl rfl rfl (by decide))
 refine ld_b (t := .I .u64) (x:=(off:Int)) B6 rfl ?_
 rw [wU64 (by omega) (by omega),show (off:Int)-4=((off-4:Nat):Int) by omega]
 refine st_u B6 rfl rfl ?_
 intro w4 B7 F7
 have B8:Blk w4 b (s.br4 i (off-4) v' (r-32)).at:=B7.congr (FS.setT 3 rfl rfl rfl (by decide))
 have F:Fm w w4 [b]:=(((Fm.refl w [b]).drew.drew.trans F3 (fun x hx => .inl hx)).trans F5 (fun x hx => .inl hx)).trans F7 (fun x hx => .inl hx)
 refine hk w4 v' ⟨H.mk' B8 F (by omega) (by omega) hS2 ?_,by omega,F⟩
 rw [show 64-(r-32)=64-r+32 by omega,hS3, ←hE]
 rw [show (2:Nat)^64=2^(64-r+32)*2^(r-32) by rw [←Nat.pow_add,show 64-r+32+(r-32)=64 by omega],Nat.mod_mul_right_mod]
theorem c102 {w:World} {b:Nat} {s:FS} {i:Sl} {l:List Nat} {off v r:Nat} {K:Unit→PT} (H:RB w b s i l off v r) (ho:4≤off)
  (hk:∀w' off' v' r',Fil w b s i l (8*off+(64-r)) w' off' v' r'→r'≤32→off≤off'+4→K () w') :
  callP Tryd.prog 102 #[.pointer (some ⟨b,514,none⟩)] [] K w:=by
 apply q102_ok
 unfold q102
 have hr:=H.rd
 refine ld_b (t := .I .u8) (x:=(r:Int)) H.blk rfl (cnd_d (fun h => ?_) fun h => ?_)
 ·exact hk w off v r ⟨H,rfl,Fm.refl w _⟩ (by omega) (by omega)
 ·exact fill4 H ho (by omega) fun w' v' F=>hk w' _ v' _ F (by omega) (by omega)
theorem c107 {w:World} {b:Nat} {s:FS} {i:Sl} {l:List Nat} {off v r:Nat} {K:Unit→PT} (H:RB w b s i l off v r)
  (hk:∀w' off' v' r',Fil w b s i l (8*off+(64-r)) w' off' v' r'→(r'≤32∨off'=0)→K () w') :
  callP Tryd.prog 107 #[.pointer (some ⟨b,514,none⟩)] [] K w:=by
 apply q107_ok
 unfold q107
 have hr:=H.rd
 refine ld_b (t := .I .u8) (x:=(r:Int)) H.blk rfl (cnd_d (fun h => ?_) fun h => ?_)
 ·exact hk w off v r ⟨H,rfl,Fm.refl w _⟩ (.inl (by omega))
 ·refine ld_b (t := .I .u64) (x:=(off:Int)) H.blk rfl (cnd_d (fun ho => ?_) fun ho => ?_)
  ·exact fill4 H (by omega) (by omega) fun w' v' F=>hk w' _ v' _ F (.inl (by omega))
  ·refine ⟨fun _ w'=>∃off' v' r',Fil w b s i l (8*off+(64-r)) w' off' v' r'∧8*off'≤r',fun _ w'=>match w'.cell? ⟨b,515,none⟩ with|some (.int _ x)=>x.toNat|_=>0,⟨off,v,r,⟨H,rfl,Fm.refl w _⟩,by omega⟩,?_⟩
   rintro _ w1 ⟨o1,v1,r1,⟨H1,L1,F1⟩,hr1⟩
   unfold q107_L0
   simp only [add_mk]
   have hrd:=H1.rd
   have hof:=H1.of
   have hlen:=H1.len
   have hsl:=H1.arr.len
   refine ld_b (t := .I .u64) (x:=(o1:Int)) H1.blk rfl (cnd_d (fun hc => ?_) fun hc => ?_)
   ·unfold drw
    have H2:=H1.drew
    refine ld_b (t := .I .u64) (x:=(v1:Int)) H2.blk rfl ⟨by decide,?_⟩
    refine ld_b (t := .S) (x:=i) H2.blk rfl ?_
    refine ld_b (t := .I .u64) (x:=(o1:Int)) H2.blk rfl ?_
    refine H2.arr.ldk (o1-1) (by rw [wU64 (by omega) (by omega)];omega) (by omega) fun p hp=>ld_c (t := .I .u8) hp ?_
    have hb:l[o1-1]=leN l/2^(8*(o1-1))%2^8:=by
     rw [Nat.pow_mul,show (2:Nat)^8=256 from rfl,leN_get _ H.u8,getD_in (by omega)]
    have hE:=shift_in (leN l) v1 l[o1-1] (64-r1) 8 (8*(o1-1)) hb (by rw [show 8*(o1-1)+8=8*o1 by omega];exact H1.val)
    have hx:l[o1-1]<2^8:=by rw [hb];exact Nat.mod_lt _ (by decide)
    generalize l[o1-1]=x at *
    rw [wU64 (by omega) (by omega)]
    have hS:=shl_or (v:=v1) (x:=x) (k:=8) (by omega) hx
    rw [show orI .u64 (shlI .u64 (v1:Int) (8:Int)) (x:Int)=_ from hS.1]
    obtain ⟨_,hS2,hS3⟩:=hS
    generalize v1*2^8%2^64+x=v' at *
    refine st_u H2.blk rfl rfl ?_
    intro w2 B3 F3
    have B4:Blk w2 b (s.br4 i o1 v' r1).at:=B3.congr (FS.setT 4 rfl rfl rfl (by decide))
    refine ld_b (t := .I .u8) (x:=(r1:Int)) B4 rfl ?_
    rw [wU8 (by omega) (by omega),show (r1:Int)-8=((r1-8:Nat):Int) by omega]
    refine st_u B4 rfl rfl ?_
    intro w3 B5 F5
    have B6:Blk w3 b (s.br4 i o1 v' (r1-8)).at:=B5.congr (FS.setT 5 rfl rfl rfl (by decide))
    refine ld_b (t := .I .u64) (x:=(o1:Int)) B6 rfl ?_
    rw [wU64 (by omega) (by omega),show (o1:Int)-1=((o1-1:Nat):Int) by omega]
    refine st_u B6 rfl rfl ?_
    intro w4 B7 F7
    have B8:Blk w4 b (s.br4 i (o1-1) v' (r1-8)).at:=B7.congr (FS.setT 3 rfl rfl rfl (by decide))
    have F:Fm w1 w4 [b]:=(((Fm.refl w1 [b]).drew.trans F3 (fun x hx => .inl hx)).trans F5 (fun x hx => .inl hx)).trans F7 (fun x hx => .inl hx)
    refine ⟨⟨o1-1,v',r1-8,⟨H1.mk' B8 F (by omega) (by omega) hS2 ?_,by omega,F1.trans F (fun x hx => .inl hx)⟩,by omega⟩,?_⟩
    ·rw [show 64-(r1-8)=64-r1+8 by omega,hS3, ←hE]
     rw [show (2:Nat)^64=2^(64-r1+8)*2^(r1-8) by rw [←Nat.pow_add,show 64-r1+8+(r1-8)=64 by omega],Nat.mod_mul_right_mod]
    ·rw [B8.cell,H1.blk.cell]
     show ((o1-1:Nat):Int).toNat<((o1:Nat):Int).toNat
     omega
   ·exact hk w1 o1 v1 r1 ⟨H1,L1,F1⟩ (.inr (by omega))
theorem c155 {w:World} {x:Sl} {m:List Nat} {K:Int→PT} (A:Arr .u8 w x m) (hm:By m) (h8:8≤m.length) (hk:∀w',Fm w w' []→K ((leN m%2^64:Nat):Int) w'):callP Tryd.prog 155 #[.agg ⟨[]⟩,.slice x.a x.l x.c] [.c (.I .u64)] K w:=by
 apply q155_ok (r0:=())
 unfold q155
 refine nw_x ?_
 intro p w' F B _
 have A1:=A.fr F (by simp)
 have lt:=getD_lt hm
 have g:∀k (h:k<m.length),m[k]=m.getD k 0:=fun k h=>(getD_in h).symm
 refine A1.ldk 7 rfl (by omega) fun p hp=>ld_c (t := .I .u8) hp ?_
 unfold drw
 have A2:=A1.fr (Fm.refl w' []).drew (by simp)
 refine A2.ldk 0 rfl (by omega) fun p hp=>ld_c (t := .I .u8) hp ?_
 refine A2.ldk 1 rfl (by omega) fun p hp=>ld_c (t := .I .u8) hp ⟨by decide,?_⟩
 refine A2.ldk 2 rfl (by omega) fun p hp=>ld_c (t := .I .u8) hp ⟨by decide,?_⟩
 refine A2.ldk 3 rfl (by omega) fun p hp=>ld_c (t := .I .u8) hp ⟨by decide,?_⟩
 refine A2.ldk 4 rfl (by omega) fun p hp=>ld_c (t := .I .u8) hp ⟨by decide,?_⟩
 refine A2.ldk 5 rfl (by omega) fun p hp=>ld_c (t := .I .u8) hp ⟨by decide,?_⟩
 refine A2.ldk 6 rfl (by omega) fun p hp=>ld_c (t := .I .u8) hp ⟨by decide,?_⟩
 refine A2.ldk 7 rfl (by omega) fun p hp=>ld_c (t := .I .u8) hp ⟨by decide,?_⟩
 rw [g,g,g,g,g,g,g,g,or8 (lt _) (lt _) (lt _) (lt _) (lt _) (lt _) (lt _) (lt _)]
 have h:=le8 0 hm
 simp only [Nat.zero_add,Nat.mul_zero,Nat.pow_zero,Nat.div_one] at h
 rw [h]
 exact hk _ F.drew
theorem c131 {w:World} {b:Nat} {s:FS} {i:Sl} {l:List Nat} {off v:Nat} {K:Unit→PT} (H:RB w b s i l off v 64) (ho:8≤off)
  (hk:∀w' v',Fil w b s i l (8*off) w' (off-8) v' 0→K () w') :
  callP Tryd.prog 131 #[.pointer (some ⟨b,514,none⟩)] [] K w:=by
 apply q131_ok
 unfold q131 drw ldL
 simp only [add_mk]
 have hlen:=H.len
 have hof:=H.of
 have A:=H.arr
 have hsl:=A.len
 have hcap:=A.cap
 have B:=H.blk.drew
 refine ld_b (t := .S) (x:=i) B rfl ?_
 refine ld_b (t := .I .u64) (x:=(off:Int)) B rfl ?_
 refine slc_lo (n:=off-8) (by rw [wU64 (by omega) (by omega)];omega) (by omega) ?_
 have A':Arr .u8 w.drew i l:=A.fr (Fm.refl w []).drew (by simp)
 refine c155 (A'.drop (off-8) (by omega)) (fun x hx=>H.u8 x (List.mem_of_mem_drop hx)) (by simp;omega) ?_
 intro w2 F2
 rw [leN_dropR H.u8 _ (by omega)]
 have B2:=B.fr F2 (by simp)
 refine st_u B2 rfl rfl ?_
 intro w3 B3 F3
 have B4:Blk w3 b (s.br4 i off (leN l/2^(8*(off-8))%2^64) 64).at:=B3.congr (FS.setT 4 rfl rfl rfl (by decide))
 refine st_u B4 rfl rfl ?_
 intro w4 B5 F5
 have B6:Blk w4 b (s.br4 i off (leN l/2^(8*(off-8))%2^64) 0).at:=B5.congr (FS.setT 5 rfl rfl rfl (by decide))
 refine ld_b (t := .I .u64) (x:=(off:Int)) B6 rfl ?_
 rw [wU64 (by omega) (by omega),show (off:Int)-8=((off-8:Nat):Int) by omega]
 refine st_u B6 rfl rfl ?_
 intro w5 B7 F7
 have B8:Blk w5 b (s.br4 i (off-8) (leN l/2^(8*(off-8))%2^64) 0).at:=B7.congr (FS.setT 3 rfl rfl rfl (by decide))
 have F:Fm w w5 [b]:=(((((Fm.refl w []).drew.trans F2 (by simp)).mono (S' := [b]) (by simp)).trans F3 (fun x hx => .inl hx)).trans F5 (fun x hx => .inl hx)).trans F7 (fun x hx => .inl hx)
 refine hk w5 _ ⟨H.mk' B8 F (by omega) (by omega) (Nat.mod_lt _ (by decide)) ?_,by omega,F⟩
 simp
theorem c99 {w:World} {b:Nat} {s:FS} {i:Sl} {l:List Nat} {left:Nat} {K:Value→PT} (HB:Blk w b s.at) (A:Arr .u8 w i l) (hl:By l) (hlen:l.length<2^20) (hd:∀a,i.a=some a→l ≠ []→a.block≠b)
  (hb:backZ l=some left) (hk:∀w' off v r,Fil w b s i l left w' off v r→(r≤40∨off=0)→K .nilIface w') :
  callP Tryd.prog 99 #[.pointer (some ⟨b,514,none⟩),.slice i.a i.l i.c] [.c .V] K w:=by
 apply q99_ok
 unfold q99
 have hsl:=A.len
 have hne:l ≠ []:=by intro e;subst e;simp [backZ] at hb
 have hpos:=List.length_pos_iff.mpr hne
 have hlast:l.getLast? = some l[l.length-1]:=by rw [List.getLast?_eq_getElem?,List.getElem?_eq_getElem (by omega)]
 unfold backZ at hb
 rw [hlast] at hb
 simp only at hb
 have hx:l[l.length-1]<256:=hl _ (List.getElem_mem _)
 have hx0:l[l.length-1]≠0:=by
  intro e;rw [if_pos e] at hb;cases hb
 rw [if_neg hx0] at hb
 injection hb with hb
 have hlg:(l[l.length-1]).log2<8:=(Nat.log2_lt hx0).mpr hx
 refine cnd_d (fun h=>by omega) fun _ => ?_
 simp only [add_mk]
 refine st_u HB rfl rfl ?_
 intro w1 B1 F1
 have B1':Blk w1 b ({ s with bIn:=i } : FS).at:=B1.congr (FS.setT 2 rfl rfl rfl (by decide))
 rw [wU64 (by omega) (by omega)]
 refine st_u B1' rfl rfl ?_
 intro w2 B2 F2
 have B2':Blk w2 b ({ s with bIn:=i,bOff:=i.l } : FS).at:=B2.congr (FS.setT 3 rfl rfl rfl (by decide))
 have F12:Fm w w2 [b]:=F1.trans F2 (fun x hx => .inl hx)
 have hS:∀a,i.a=some a→l ≠ []→a.block ∉ [b]:=by intro a ha h;simpa using hd a ha h
 have A2:=A.fr F12 hS
 refine A2.ldk (l.length-1) (by rw [wI64 (by omega) (by omega)];omega) (by omega) fun p hp=>ld_c (t := .I .u8) hp ?_
 refine cnd_d (fun h=>by omega) fun _ => ?_
 refine st_u B2' rfl rfl ?_
 intro w3 B3 F3
 have B3':Blk w3 b ({ s with bIn:=i,bOff:=i.l,bRead:=64 } : FS).at:=B3.congr (FS.setT 5 rfl rfl rfl (by decide))
 refine st_u B3' rfl rfl ?_
 intro w4 B4 F4
 have e4:({ s with bIn:=i,bOff:=i.l,bRead:=64,bVal:=0 } : FS)=s.br4 i l.length 0 64:=by unfold FS.br4;rw [hsl];rfl
 have B4':Blk w4 b (s.br4 i l.length 0 64).at:=e4▸B4.congr (FS.setT (s':=({ s with bIn:=i,bOff:=i.l,bRead:=64,bVal:=0 } : FS)) 4 rfl rfl rfl (by decide))
 have F04:Fm w w4 [b]:=(F12.trans F3 (fun x hx => .inl hx)).trans F4 (fun x hx => .inl hx)
 have H4:RB w4 b s i l l.length 0 64:=⟨B4',A.fr F04 hS,hl,hlen,hd,Nat.le_refl _,Nat.le_refl _,by decide,by simp [Nat.mod_one]⟩
 have tail:∀w5 off v r,Fil w b s i l (8*l.length) w5 off v r→r≤56→(r≤32∨off=0)→q99_J0 ⟨b,514,none⟩ K ((l[l.length-1]:Nat):Int) () w5:=by
  intro w5 off v r H5 hr hr2
  unfold q99_J0 drw
  simp only [add_mk]
  have H6:=H5.rb.drew
  refine ld_b (t := .I .u8) (x:=(r:Int)) H6.blk rfl ?_
  rw [wU32 (by omega) (by omega)]
  refine c98 (by omega) (by omega) ?_
  refine ⟨?_,?_⟩
  ·intro f hf
   simp only [List.mem_cons,List.not_mem_nil,or_false] at hf
   subst hf
   exact H6.blk.cell 517
  generalize hg:(l[l.length-1]).log2=gb at *
  rw [wU8 (x:=((gb:Nat):Int)) (by omega) (by omega),wU8 (x:=(8:Int)-_) (by omega) (by omega),wU8 (by omega) (by omega),show (r:Int)+(8-(gb:Int))=((r+(8-gb):Nat):Int) by omega]
  refine st_u H6.blk rfl rfl ?_
  intro w7 B7 F7
  have B7':Blk w7 b (s.br4 i off v (r+(8-gb))).at:=B7.congr (FS.setT 5 rfl rfl rfl (by decide))
  have hrd:=H5.rb.rd
  have hlf:=H5.lf
  refine hk w7 off v (r+(8-gb)) ⟨H6.mk' B7' F7 H6.of (by omega) H6.v64 ?_,by omega,(H5.fm.drew).trans F7 (fun x hx => .inl hx)⟩ (by omega)
  have e:(2:Nat)^(64-r)=2^(64-(r+(8-gb)))*2^(8-gb):=by rw [←Nat.pow_add,show 64-(r+(8-gb))+(8-gb)=64-r by omega]
  have h1:=H6.val
  rw [e] at h1
  have h2:=congrArg (· % 2^(64-(r+(8-gb)))) h1
  simp only [Nat.mod_mul_right_mod] at h2
  exact h2
 refine joinP_id (cnd_d (fun h8 => ?_) fun h8 => ?_)
 ·refine c131 H4 (by omega) ?_
  intro w5 v' H5
  exact tail w5 _ v' 0 ⟨H5.rb,H5.lf,F04.trans H5.fm (fun x hx => .inl hx)⟩ (by omega) (by omega)
 ·refine c107 H4 ?_
  intro w5 o5 v5 r5 H5 h5
  refine c107 H5.rb ?_
  intro w6 o6 v6 r6 H6 h6
  have l5:=H5.lf
  have l6:=H6.lf
  have r6:=H6.rb.rd
  refine tail w6 o6 v6 _ ⟨H6.rb,by omega,(F04.trans H5.fm (fun x hx => .inl hx)).trans H6.fm (fun x hx => .inl hx)⟩ ?_ h6
  omega
theorem c108 {w:World} {b:Nat} {s:FS} {i:Sl} {l:List Nat} {off v r:Nat} {K:Value→PT} (H:RB w b s i l off v r)
  (hk:∀w',Blk w' b (s.br4 ⟨none,0,0⟩ off v r).at→Fm w w' [b]→K .nilIface w') :
  callP Tryd.prog 108 #[.pointer (some ⟨b,514,none⟩)] [.c .V] K w:=by
 apply q108_ok
 unfold q108
 have hr:=H.rd
 refine st_u H.blk rfl rfl ?_
 intro w2 B2 F2
 have B2':Blk w2 b (s.br4 ⟨none,0,0⟩ off v r).at:=B2.congr (FS.setT 2 rfl rfl rfl (by decide))
 simp only [add_mk]
 refine ld_b (t := .I .u8) (x:=(r:Int)) B2' rfl (cnd_d (fun h=>by omega) fun _=>hk w2 B2' F2)
def dcC (x b:Nat) (dt:Sl):Cells:=fun i=>match i with
 | 0=>some (.int .u16 x)
 | 1=>some (.pointer (some ⟨b,514,none⟩))
 | 2=>some dt.val
 | _=>none
theorem dcC0 (x y b:Nat) (dt:Sl):updC (dcC x b dt) 0 (.int .u16 (y:Nat))=dcC y b dt:=by
 funext i;rcases i with _|_|_|i<;>simp [updC,dcC]
structure DT (w:World) (dt:Sl) (tb:Nat) (tab:List Cell3):Prop where
 eq:dt.a=some ⟨tb,0,none⟩
 len:dt.l=tab.length
 blk:∃f,Blk w tb f∧∀i (h:i<tab.length),f (i*3)=some (.int .u16 tab[i].2.2)∧f (i*3+1)=some (.int .u8 (tab[i].1:Nat))∧f (i*3+2)=some (.int .u8 (tab[i].2.1:Nat))
theorem DT.fr {w w':World} {dt:Sl} {tb:Nat} {tab:List Cell3} {S:List Nat} (H:DT w dt tb tab) (F:Fm w w' S) (h:tb∉S):DT w' dt tb tab:=by
 obtain ⟨f,B,hf⟩:=H.blk
 exact ⟨H.eq,H.len,f,B.fr F h,hf⟩
theorem c101 {w:World} {b d:Nat} {s:FS} {i:Sl} {l:List Nat} {off v r T:Nat} {dt:Sl} {f:Cells} {K:Unit→PT} (H:RB w b s i l off v r) (hd:Blk w d f) (hf0:(f 0).isSome) (hf1:(f 1).isSome) (hf2:(f 2).isSome) (hf3:∀i,3≤i→f i=none) (hdb:d≠b) (hdi:∀a,i.a=some a→l ≠ []→a.block≠d)
  (hT:T≤16) (hr:r+T≤64)
  (hk:∀w',RB w' b s i l off v (r+T)→Blk w' d (dcC (tkB l T ((8*off+(64-r):Nat):Int)) b dt)→Fm w w' [b,d]→K () w') :
  callP Tryd.prog 101 #[.pointer (some ⟨d,0,none⟩),.pointer (some ⟨b,514,none⟩),.slice dt.a dt.l dt.c,.int .u8 T] [] K w:=by
 apply q101_ok
 unfold q101
 simp only [add_mk,Nat.zero_add]
 refine st_u hd hf2 rfl ?_
 intro w1 B1 F1
 refine st_u B1 (by unfold updC;rw [if_neg (by decide)];exact hf1) rfl ?_
 intro w2 B2 F2
 have F02:Fm w w2 [d]:=F1.trans F2 (fun x hx => .inl hx)
 refine c132 (H.fr F02 (by simp;exact fun e=>hdb e.symm) (by intro a ha h;simpa using hdi a ha h)) hT hr ?_
 intro w3 H3 F3
 have B3:=B2.fr F3 (by simpa using hdb)
 refine st_u B3 (by unfold updC;rw [if_neg (by decide),if_neg (by decide)];exact hf0) rfl ?_
 intro w4 B4 F4
 refine hk w4 (H3.fr F4 (by simp;exact fun e=>hdb e.symm) (by intro a ha h;simpa using hdi a ha h)) (B4.congr ?_) ?_
 ·funext j
  rcases j with _|_|_|j
  ·simp [updC,dcC]
  ·simp [updC,dcC]
  ·simp [updC,dcC,Sl.val]
  ·simp [updC,dcC];exact hf3 _ (by omega)
 ·exact ((F02.mono (S' := [b,d]) (by intro x hx;left;simp at hx;simp [hx])).trans F3 (by intro x hx;left;simp at hx;simp [hx])).trans F4 (by intro x hx;left;simp at hx;simp [hx])
structure DS (w:World) (b d tb:Nat) (s:FS) (i:Sl) (l:List Nat) (off v r:Nat) (dt:Sl) (tab:List Cell3) (x:Nat):Prop where
 rb:RB w b s i l off v r
 dc:Blk w d (dcC x b dt)
 dt:DT w dt tb tab
 db:d≠b
 tbb:tb≠b
 tbd:tb≠d
 di:∀a,i.a=some a→l ≠ []→a.block≠d
theorem c106 {w:World} {b d tb:Nat} {s:FS} {i:Sl} {l:List Nat} {off v r:Nat} {dt:Sl} {tab:List Cell3} {x:Nat} {K:Int→PT} (hd:Blk w d (dcC x b dt)) (ht:DT w dt tb tab) (hx:x<tab.length) (hk:∀w',Fm w w' []→K (tab[x].1:Nat) w') :
  callP Tryd.prog 106 #[.pointer (some ⟨d,0,none⟩)] [.c (.I .u8)] K w:=by
 apply q106_ok
 unfold q106 drw
 simp only [add_mk,Nat.zero_add]
 refine ld_b (t := .S) (x:=dt) hd.drew rfl ?_
 refine ld_b (t := .I .u16) (x:=(x:Int)) hd.drew rfl ?_
 obtain ⟨f,B,hf⟩:=ht.blk
 refine ixS_b ht.eq rfl (by rw [ht.len];exact hx) ?_
 simp only [add_mk,Nat.zero_add]
 refine ld_b (t := .I .u8) (x:=((tab[x].1:Nat):Int)) B.drew (hf x hx).2.1 ?_
 exact hk _ (Fm.refl w []).drew
theorem c105 {w:World} {b d tb:Nat} {s:FS} {i:Sl} {l:List Nat} {off v r:Nat} {dt:Sl} {tab:List Cell3} {x:Nat} {K:Bool→PT} (H:DS w b d tb s i l off v r dt tab x) (hx:x<tab.length)
  (hk:∀w',Fm w w' []→K (decide (8*off+(64-r)=0)&&decide (0<tab[x].2.1)) w') :
  callP Tryd.prog 105 #[.pointer (some ⟨d,0,none⟩)] [.c .B] K w:=by
 apply q105_ok
 unfold q105 q105_J0 drw
 simp only [add_mk,Nat.zero_add]
 refine joinP_id ?_
 refine ld_b (t := .P) (x:=some ⟨b,514,none⟩) H.dc.drew rfl ?_
 refine c134 H.rb.drew ?_
 by_cases h0:8*off+(64-r)=0
 ·rw [decide_eq_true h0] at hk ⊢
  refine ⟨fun _ => ?_,fun h=>by simp at h⟩
  refine ld_b (t := .S) (x:=dt) H.dc.drew rfl ?_
  refine ld_b (t := .I .u16) (x:=(x:Int)) H.dc.drew rfl ?_
  obtain ⟨f,B,hf⟩:=H.dt.blk
  refine ixS_b H.dt.eq rfl (by rw [H.dt.len];exact hx) ?_
  simp only [add_mk,Nat.zero_add]
  refine ld_b (t := .I .u8) (x:=((tab[x].2.1:Nat):Int)) B.drew (hf x hx).2.2 ?_
  have:=hk _ (Fm.refl w []).drew
  rw [show decide ((0:Int)<((tab[x].2.1:Nat):Int))=(true&&decide (0<tab[x].2.1)) by
   by_cases hz:0<tab[x].2.1
   ·rw [decide_eq_true (by omega),decide_eq_true hz];rfl
   ·rw [decide_eq_false (by omega),decide_eq_false hz];rfl]
  exact this
 ·rw [decide_eq_false h0] at hk ⊢
  refine ⟨fun h=>by simp at h,fun _ => ?_⟩
  exact hk _ (Fm.refl w []).drew
theorem DS.step {w w':World} {b d tb:Nat} {s:FS} {i:Sl} {l:List Nat} {off v r:Nat} {dt:Sl} {tab:List Cell3} {x y r':Nat} (H:DS w b d tb s i l off v r dt tab x) (F:Fm w w' [b,d]) (R:RB w' b s i l off v r') (D:Blk w' d (dcC y b dt)) :
  DS w' b d tb s i l off v r' dt tab y :=
 ⟨R,D,H.dt.fr F (by simp;exact ⟨H.tbb,H.tbd⟩),H.db,H.tbb,H.tbd,H.di⟩
theorem c104 {w:World} {b d tb:Nat} {s:FS} {i:Sl} {l:List Nat} {off v r:Nat} {dt:Sl} {tab:List Cell3} {x y:Nat} {K:Int→PT} (H:DS w b d tb s i l off v r dt tab x) (hx:x<tab.length) (hn:tab[x].2.1≤16) (hr:r+tab[x].2.1≤64)
  (hy:tab[x].2.2+(tkB l tab[x].2.1 ((8*off+(64-r):Nat):Int):Nat)=(y:Nat)) (hy2:y<65536)
  (hk:∀w',DS w' b d tb s i l off v (r+tab[x].2.1) dt tab y→Fm w w' [b,d]→K (tab[x].1:Nat) w') :
  callP Tryd.prog 104 #[.pointer (some ⟨d,0,none⟩)] [.c (.I .u8)] K w:=by
 apply q104_ok
 unfold q104 drw
 simp only [add_mk,Nat.zero_add]
 refine ld_b (t := .S) (x:=dt) H.dc.drew rfl ?_
 refine ld_b (t := .I .u16) (x:=(x:Int)) H.dc.drew rfl ?_
 refine ixS_b H.dt.eq rfl (by rw [H.dt.len];exact hx) ?_
 simp only [add_mk,Nat.zero_add]
 refine ld_b (t := .P) (x:=some ⟨b,514,none⟩) H.dc.drew.drew rfl ?_
 obtain ⟨f,B,hf⟩:=H.dt.blk
 obtain ⟨f0,f1,f2⟩:=hf x hx
 refine ld_b (t := .I .u8) (x:=((tab[x].2.1:Nat):Int)) B.drew.drew f2 ?_
 refine c132 H.rb.drew.drew hn hr ?_
 intro w2 H2 F2
 have F02:Fm w w2 [b]:=((Fm.refl w [b]).drew.drew).trans F2 (fun x hx => .inl hx)
 have B2:=B.fr F02 (by simpa using H.tbb)
 refine ld_b (t := .I .u16) (x:=tab[x].2.2) B2 f0 ?_
 rw [hy,wU16 (by omega) (by omega)]
 have D2:=H.dc.fr F02 (by simpa using H.db)
 refine st_u D2 rfl rfl ?_
 intro w3 B3 F3
 rw [dcC0] at B3
 have F03:Fm w w3 [b,d]:=(F02.mono (S' := [b,d]) (by intro x hx;left;simp at hx;simp [hx])).trans F3 (by intro x hx;left;simp at hx;simp [hx])
 have B4:=B2.fr F3 (by simpa using H.tbd)
 refine ld_b (t := .I .u8) (x:=((tab[x].1:Nat):Int)) B4 f1 ?_
 exact hk w3 (H.step F03 (H2.fr F3 (by simp;exact fun e=>H.db e.symm) (by intro a ha h;simpa using H.di a ha h)) B3) F03
theorem c103 {w:World} {b d tb:Nat} {s:FS} {i:Sl} {l:List Nat} {off v r:Nat} {dt:Sl} {tab:List Cell3} {x y:Nat} {K:Int→PT} (H:DS w b d tb s i l off v r dt tab x) (hx:x<tab.length) (hn0:0<tab[x].2.1) (hn:tab[x].2.1≤16) (hr:r+tab[x].2.1≤64)
  (hy:tab[x].2.2+(tkB l tab[x].2.1 ((8*off+(64-r):Nat):Int):Nat)=(y:Nat)) (hy2:y<65536)
  (hk:∀w',DS w' b d tb s i l off v (r+tab[x].2.1) dt tab y→Fm w w' [b,d]→K (tab[x].1:Nat) w') :
  callP Tryd.prog 103 #[.pointer (some ⟨d,0,none⟩)] [.c (.I .u8)] K w:=by
 apply q103_ok
 unfold q103 drw
 simp only [add_mk,Nat.zero_add]
 refine ld_b (t := .S) (x:=dt) H.dc.drew rfl ?_
 refine ld_b (t := .I .u16) (x:=(x:Int)) H.dc.drew rfl ?_
 refine ixS_b H.dt.eq rfl (by rw [H.dt.len];exact hx) ?_
 obtain ⟨f,B,hf⟩:=H.dt.blk
 obtain ⟨f0,f1,f2⟩:=hf x hx
 unfold ldL ldL ldL
 simp only [add_mk,Nat.zero_add]
 refine ld_b (t := .I .u16) (x:=tab[x].2.2) B.drew f0 ?_
 refine ld_b (t := .I .u8) (x:=((tab[x].1:Nat):Int)) B.drew f1 ?_
 refine ld_b (t := .I .u8) (x:=((tab[x].2.1:Nat):Int)) B.drew f2 ?_
 refine nw_x ?_
 intro p w1 F1 B1 hp
 have F01:Fm w w1 []:=(Fm.refl w []).drew.trans F1 (by simp)
 have hlt:=B.lt
 have hlt2:=H.dc.lt
 have hlt3:=H.rb.blk.lt
 have hp:w.heap.size≤p:=hp
 refine ⟨?_,?_⟩
 ·have Bt:=B.fr F01 (by simp)
  have Bd:=H.dc.fr F01 (by simp)
  intro g hg
  simp only [List.mem_cons,List.not_mem_nil,or_false] at hg
  rcases hg with rfl|rfl|rfl|rfl|rfl
  ·exact (Bt.cell _).trans f0
  ·exact (Bt.cell _).trans f1
  ·exact (Bt.cell _).trans f2
  ·exact Bd.cell 0
  ·exact Bd.cell 2
 unfold stL stL stL stL
 simp only [add_mk,Nat.zero_add]
 refine st_u B1 rfl rfl ?_
 intro w2 B2 F2
 refine st_u B2 rfl rfl ?_
 intro w3 B3 F3
 refine st_u B3 rfl rfl ?_
 intro w4 B4 F4
 have F04:Fm w w4 []:=((F01.trans F2 (by intro x hx;right;simp at hx;omega)).trans F3 (by intro x hx;right;simp at hx;omega)).trans F4 (by intro x hx;right;simp at hx;omega)
 have F05:Fm w w4.drew []:=F04.drew
 have B5:=B4.drew
 have D5:=H.dc.fr F05 (by simp)
 refine ld_b (t := .P) (x:=some ⟨b,514,none⟩) D5 rfl ?_
 refine ld_b (t := .I .u8) (x:=((tab[x].2.1:Nat):Int)) B5 rfl ?_
 refine c133 (H.rb.fr F05 (by simp) (by simp)) hn0 hn hr ?_
 intro w6 H6 F6
 have B6:=B5.fr F6 (by simp;omega)
 refine ld_b (t := .I .u16) (x:=tab[x].2.2) B6 rfl ?_
 rw [hy,wU16 (by omega) (by omega)]
 have D6:=D5.fr F6 (by simpa using H.db)
 refine st_u D6 rfl rfl ?_
 intro w7 B7 F7
 rw [dcC0] at B7
 have F06:Fm w w6 [b]:=(F05.mono (S' := [b]) (by simp)).trans F6 (fun x hx => .inl hx)
 have F07:Fm w w7 [b,d]:=(F06.mono (S' := [b,d]) (by intro x hx;left;simp at hx;simp [hx])).trans F7 (by intro x hx;left;simp at hx;simp [hx])
 have B8:=B6.fr F7 (by simp;omega)
 refine ld_b (t := .I .u8) (x:=((tab[x].1:Nat):Int)) B8 rfl ?_
 exact hk w7 (H.step F07 (H6.fr F7 (by simp;exact fun e=>H.db e.symm) (by intro a ha h;simpa using H.di a ha h)) B7) F07
inductive WhZ (l:List Nat) (tab:List Cell3):Nat→Nat→Nat→Prop
 | fin (a b:Nat) (h:a<tab.length) (hb:b<tab.length):0<tab[a].2.1→WhZ l tab 0 a b
 | step (left a b y:Nat) (h:a<tab.length) (hb:b<tab.length):0<tab[a].2.1→tab[a].2.1≤left→tab[a].2.2+(tkB l tab[a].2.1 (left:Int):Nat)=(y:Nat)→y<tab.length→WhZ l tab (left-tab[a].2.1) b y→WhZ l tab left a b
structure TW (l:List Nat) (tab:List Cell3) (lim left a c:Nat) (pre R:List Nat):Prop where
 two:twoZ l tab lim (left:Int) a c pre=some R
 wh:WhZ l tab left a c
theorem WhZ.lt {l:List Nat} {tab:List Cell3} {left a b:Nat} (h:WhZ l tab left a b):a<tab.length∧b<tab.length:=by
 cases h with
 | fin _ _ h1 h2 _=>exact ⟨h1,h2⟩
 | step _ _ _ _ h1 h2=>exact ⟨h1,h2⟩
theorem WhZ.pos {l:List Nat} {tab:List Cell3} {left a b:Nat} (H:WhZ l tab left a b) (h:a<tab.length):0<tab[a].2.1:=by
 cases H with
 | fin _ _ _ _ h=>exact h
 | step _ _ _ _ _ _ h=>exact h
theorem TW.step {l:List Nat} {tab:List Cell3} {lim left a c:Nat} {pre R:List Nat} (H:TW l tab lim left a c pre R) (h0:0<left) :
  ∃(h:a<tab.length) (y:Nat),0<tab[a].2.1∧tab[a].2.1≤left∧tab[a].2.2+(tkB l tab[a].2.1 (left:Int):Nat)=(y:Nat)∧y<tab.length∧TW l tab lim (left-tab[a].2.1) c y (pre ++ [tab[a].1%256]) R:=by
 obtain ⟨h1,h2⟩:=H
 cases h2 with
 | fin=>omega
 | step _ _ _ y h hb p1 p2 p3 p4 p5 =>
  refine ⟨h,y,p1,p2,p3,p4,?_,p5⟩
  rw [twoZ] at h1
  split at h1
  ·cases h1
  ·rw [List.getElem?_eq_getElem h] at h1
   simp only at h1
   rw [if_neg (by omega),if_neg (by omega),p3,Int.toNat_natCast] at h1
   rw [show ((left-tab[a].2.1:Nat):Int)=(left:Int)-(tab[a].2.1:Nat) by omega]
   exact h1
theorem TW.fin {l:List Nat} {tab:List Cell3} {lim a c:Nat} {pre R:List Nat} (H:TW l tab lim 0 a c pre R) :
  ∃(h:a<tab.length) (hc:c<tab.length),0<tab[a].2.1∧R=pre ++ [tab[a].1%256] ++ [tab[c].1%256]∧R.length≤lim:=by
 obtain ⟨h1,h2⟩:=H
 have hlt:=h2.lt
 have hp:0<tab[a].2.1:=by
  cases h2 with
  | fin _ _ _ _ h=>exact h
  | step _ _ _ y h hb p1 p2 p3 p4 p5=>omega
 refine ⟨hlt.1,hlt.2,hp,?_⟩
 rw [twoZ] at h1
 split at h1
 ·cases h1
 ·rw [List.getElem?_eq_getElem hlt.1,List.getElem?_eq_getElem hlt.2] at h1
  simp only at h1
  rw [if_pos (by omega)] at h1
  split at h1
  ·cases h1
  ·injection h1 with h1
   subst h1
   exact ⟨rfl,by simp;omega⟩
theorem twoZ_len (l:List Nat) (tab:List Cell3) (lim:Nat) (left:Int) (a c:Nat) (pre R:List Nat) (h:twoZ l tab lim left a c pre=some R):pre.length+2≤R.length∧R.length≤lim:=by
 fun_induction twoZ l tab lim left a c pre
 all_goals first
  | (cases h;done)
  | (injection h with h;subst h;simp only [List.length_append,List.length_cons,List.length_nil];omega)
  | (rename_i ih;have:=ih h;simp only [List.length_append,List.length_cons,List.length_nil] at this;omega)
theorem TW.len {l:List Nat} {tab:List Cell3} {lim left a c:Nat} {pre R:List Nat} (H:TW l tab lim left a c pre R):pre.length+2≤R.length∧R.length≤lim:=twoZ_len _ _ _ _ _ _ _ _ H.two
structure TabB (tab:List Cell3):Prop where
 len:tab.length≤64
 sym:∀i (h:i<tab.length),tab[i].1<256
 bit:∀i (h:i<tab.length),tab[i].2.1≤6
structure DW (w:World) (b d1 d2 tb:Nat) (s:FS) (i:Sl) (l:List Nat) (dt:Sl) (tab:List Cell3) (R:List Nat) (off v r a c:Nat) (pre:List Nat):Prop where
 rb:RB w b s i l off v r
 c1:Blk w d1 (dcC a b dt)
 c2:Blk w d2 (dcC c b dt)
 dt:DT w dt tb tab
 tw:TW l tab 255 (8*off+(64-r)) a c pre R
 tB:TabB tab
 n1:d1≠b
 n2:d2≠b
 n12:d1≠d2
 nt:tb≠b∧tb≠d1∧tb≠d2
 ni:∀a,i.a=some a→l ≠ []→a.block≠d1∧a.block≠d2
theorem DW.fr {w w':World} {b d1 d2 tb:Nat} {s:FS} {i:Sl} {l:List Nat} {dt:Sl} {tab:List Cell3} {R:List Nat} {off v r a c:Nat} {pre:List Nat} {S:List Nat} (H:DW w b d1 d2 tb s i l dt tab R off v r a c pre) (F:Fm w w' S)
  (h1:b∉S) (h2:d1∉S) (h3:d2∉S) (h4:tb∉S) (h5:∀a,i.a=some a→l ≠ []→a.block∉S):DW w' b d1 d2 tb s i l dt tab R off v r a c pre :=
 ⟨H.rb.fr F h1 h5,H.c1.fr F h2,H.c2.fr F h3,H.dt.fr F h4,H.tw,H.tB,H.n1,H.n2,H.n12,H.nt,H.ni⟩
theorem DW.fil {w w':World} {b d1 d2 tb:Nat} {s:FS} {i:Sl} {l:List Nat} {dt:Sl} {tab:List Cell3} {R:List Nat} {off v r a c off' v' r':Nat} {pre:List Nat} (H:DW w b d1 d2 tb s i l dt tab R off v r a c pre) (F:Fil w b s i l (8*off+(64-r)) w' off' v' r') :
  DW w' b d1 d2 tb s i l dt tab R off' v' r' a c pre :=
 ⟨F.rb,H.c1.fr F.fm (by simpa using H.n1),H.c2.fr F.fm (by simpa using H.n2),H.dt.fr F.fm (by simpa using H.nt.1),by rw [F.lf];exact H.tw,H.tB,H.n1,H.n2,H.n12,H.nt,H.ni⟩
theorem DW.ds1 {w:World} {b d1 d2 tb:Nat} {s:FS} {i:Sl} {l:List Nat} {dt:Sl} {tab:List Cell3} {R:List Nat} {off v r a c:Nat} {pre:List Nat} (H:DW w b d1 d2 tb s i l dt tab R off v r a c pre) :
  DS w b d1 tb s i l off v r dt tab a:=⟨H.rb,H.c1,H.dt,H.n1,H.nt.1,H.nt.2.1,fun x hx hl=>(H.ni x hx hl).1⟩
theorem DW.step {w:World} {b d1 d2 tb:Nat} {s:FS} {i:Sl} {l:List Nat} {dt:Sl} {tab:List Cell3} {R:List Nat} {off v r a c:Nat} {pre:List Nat} (H:DW w b d1 d2 tb s i l dt tab R off v r a c pre) (h0:0<8*off+(64-r)) (hr:r+6≤64∨off=0) {K:Int→PT}
  (hk:∀w' x r' y,x<256→DW w' b d2 d1 tb s i l dt tab R off v r' c y (pre ++ [x])→r'≤r+6→8*off+(64-r')<8*off+(64-r)→Fm w w' [b,d1]→K (x:Nat) w') :
  callP Tryd.prog 103 #[.pointer (some ⟨d1,0,none⟩)] [.c (.I .u8)] K w∧callP Tryd.prog 104 #[.pointer (some ⟨d1,0,none⟩)] [.c (.I .u8)] K w:=by
 obtain ⟨ha,y,p1,p2,p3,p4,p5⟩:=H.tw.step h0
 have hb6:=H.tB.bit a ha
 have hs:=H.tB.sym a ha
 have hl:=H.tB.len
 have hrd:=H.rb.rd
 have hr2:r+tab[a].2.1≤64:=by omega
 have go:∀w',DS w' b d1 tb s i l off v (r+tab[a].2.1) dt tab y→Fm w w' [b,d1]→K (tab[a].1:Nat) w':=by
  intro w' D F
  rw [Nat.mod_eq_of_lt hs] at p5
  refine hk w' tab[a].1 (r+tab[a].2.1) y hs ⟨D.rb,H.c2.fr F ?_,D.dc,D.dt,?_,H.tB,H.n2,H.n1,fun e=>H.n12 e.symm,⟨H.nt.1,H.nt.2.2,H.nt.2.1⟩,fun x hx hl=>⟨(H.ni x hx hl).2,(H.ni x hx hl).1⟩⟩ (by omega) (by omega) F
  ·simp;exact ⟨H.n2,fun e=>H.n12 e.symm⟩
  ·rw [show 8*off+(64-(r+tab[a].2.1))=8*off+(64-r)-tab[a].2.1 by omega];exact p5
 exact ⟨c103 H.ds1 ha p1 (by omega) hr2 p3 (by omega) go,c104 H.ds1 ha (by omega) hr2 p3 (by omega) go⟩
def hwC (G:Cells) (o:Nat) (f:Nat→Int):Cells:=fun j=>if o≤j∧j<o+256 then some (.int .u8 (f (j-o))) else G j
def OA (w:World) (g o:Nat) (G:Cells) (out:List Nat):Prop:=∃f:Nat→Int,Blk w g (hwC G o f)∧∀i (h:i<out.length),f i=(out[i]:Nat)
theorem OA.fr {w w':World} {g o:Nat} {G:Cells} {out:List Nat} {S:List Nat} (H:OA w g o G out) (F:Fm w w' S) (h:g∉S):OA w' g o G out:=by
 obtain ⟨f,B,hf⟩:=H;exact ⟨f,B.fr F h,hf⟩
theorem app_oa {w:World} {g o n:Nat} {G:Cells} {out ys:List Nat} {x:Sl} {κ:Sl→PT} (H:OA w g o G out) (hx:Has 1 w x (bytes .u8 ys)) (hn:out.length+ys.length≤256) (hn':n=out.length)
  (hk:∀w',OA w' g o G (out++ys)→Fm w w' [g]→κ ⟨some ⟨g,o,none⟩,(out++ys).length,256⟩ w'):app z5 5 1 ⟨some ⟨g,o,none⟩,n,256⟩ x κ w:=by
 subst hn'
 obtain ⟨f,B,hf⟩:=H
 have hxl:x.l=ys.length:=by have:=hx.len;simpa [bytes] using this.symm
 refine ⟨by rw [hxl];simp only;omega,fun _ => ?_,fun h=>by simp only at h;omega⟩
 refine ⟨bytes .u8 ys,hx.len,hx.get,hx.non,hx.one,?_⟩
 simp only [add_mk,show (z5:List Value).length=1 from rfl,Nat.mul_one]
 have hs:∀i,i<(bytes .u8 ys).length→(hwC G o f (o+out.length+i)).isSome:=by
  intro i hi
  simp only [bytes,List.length_map] at hi
  unfold hwC;rw [if_pos (by omega)];rfl
 refine ⟨fun i hi=>canSt_b B (hs i hi),?_⟩
 have B2:=B.setL (o:=o+out.length) (xs:=bytes .u8 ys) hs
 have F2:Fm w (setL w ⟨g,o+out.length,none⟩ 0 (bytes .u8 ys)) [g]:=(Fm.refl w [g]).setL (.inl (by simp))
 have e:(⟨some ⟨g,o,none⟩,out.length+x.l,256⟩:Sl)=⟨some ⟨g,o,none⟩,(out++ys).length,256⟩:=by rw [hxl,List.length_append]
 rw [e]
 refine hk _ ⟨fun i=>if out.length≤i∧i<out.length+ys.length then (ys.getD (i-out.length) 0:Nat) else f i,B2.congr ?_,?_⟩ F2
 ·funext j
  unfold updL hwC
  simp only [bytes,List.length_map]
  by_cases h1:o+out.length≤j∧j<o+out.length+ys.length
  ·rw [if_pos h1,if_pos (by omega),if_pos (by omega),List.getElem?_map,List.getElem?_eq_getElem (by omega),getD_in (by omega)]
   have:j-(o+out.length)=j-o-out.length:=by omega
   simp only [this,Option.map_some]
  ·rw [if_neg h1]
   by_cases h2:o≤j∧j<o+256
   ·rw [if_pos h2,if_pos h2,if_neg (by omega)]
   ·rw [if_neg h2,if_neg h2]
 ·intro i hi
  rw [List.length_append] at hi
  simp only
  by_cases h1:out.length≤i
  ·rw [if_pos (by omega),List.getElem_append_right h1,getD_in (by omega)]
  ·rw [if_neg (by omega),List.getElem_append_left (by omega),hf i (by omega)]
end Go.Sx
