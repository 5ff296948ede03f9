/- Lemmas for the proof: H43 H44 H45 H46 H47 H48 H49 Z3 ZW H50 H51 H52 H53 H56 H58 H59 H60. No conditions. -/
import Derived.Test.YtlnhldlhmplphaaDoorS10A09
set_option linter.unusedVariables false
set_option linter.unusedSimpArgs false
namespace Go.Sx
open Go Go.Proofs
set_option maxRecDepth 4000
structure SK (s s':HU):Prop where
 reuse:s'.reuse=s.reuse
 wll:s'.wll=s.wll
 tl:s'.tl=s.tl
theorem SK.refl (s:HU):SK s s:=⟨rfl,rfl,rfl⟩
theorem VecU.nil {w:World} : VecU w ⟨none,0,0⟩ []:=⟨Vec.nil,(by intro a h;cases h),by decide⟩
theorem Held.arr {w:World} {a:Option Addr} {c:Nat} {l:List Nat} {o:Sl} (h:Held w o.a l) (v:∃w0,VecU w0 o l):Arr .u8 w o l:=by
 obtain ⟨w0,hv⟩:=v
 refine ⟨hv.len,hv.vec.cap,?_,?_⟩
 ·intro e
  have h1:=hv.vec.non e
  have h2:=hv.vec.cap
  have h3:=hv.len
  exact List.length_eq_zero_iff.mp (by omega)
 ·intro b hb i hi
  obtain ⟨h1,h2,_⟩:=hv.vec.blk b hb
  have h3:=h b hb i hi
  obtain ⟨bb,bo,bs⟩:=b
  simp only at h1 h2
  subst h1 h2
  rw [add_mk,Nat.zero_add]
  exact h3
section
variable {w w':World} {g n L:Nat} {s s':HU} {col:Nat→Nat} {cnt:Nat→Nat} {pre pre':List Nat} {so:Sl}
theorem HQ.comp (Q:HQ w g s col n cnt L pre) (F:Fm w w' (g::s.out.bs)) (hn:∀v∈so.bs,v∈s.out.bs∨w.heap.size≤v) (hv:VecU w' so pre') (B:Blk w' g ({ s with out:=so } : HU).at) :
  HQ w' g { s with out:=so } (colN w.heap.size 2 col) n cnt L pre'∧Mv w w' col (colN w.heap.size 2 col) (g::s.out.bs):=by
 have M:Mv w w' col (colN w.heap.size 2 col) (g::s.out.bs):=by
  refine ⟨F,?_,fun v hv=>colN_old hv⟩
  intro v hv _
  rcases List.mem_cons.mp hv with h|h
  ·rw [h];exact Q.ownG
  ·rw [Q.out2 v h];exact ⟨by decide,by decide⟩
 have hk:∀r,r≠1→r≠2→∀v∈g::s.out.bs,v<w.heap.size→col v≠r:=by
  intro r h1 h2 v hv _ e
  rcases List.mem_cons.mp hv with h|h
  ·rw [h,Q.cg] at e;exact h1 e.symm
  ·rw [Q.out2 v h] at e;exact h2 e.symm
 refine ⟨Q.mv M B hv ?_ (Q.nodP.mv F (M.keep (hk 3 (by decide) (by decide)))) (Q.fseP.mv F (M.keep (hk 6 (by decide) (by decide)))) (Q.ct.mv F (M.keep (hk 4 (by decide) (by decide)))) (hk 5 (by decide) (by decide)) rfl rfl rfl rfl rfl rfl rfl rfl,M⟩
 intro v hv
 rcases hn v hv with h|h
 ·exact (colN_old (Q.oP.lt v h)).trans (Q.out2 v h)
 ·exact colN_new h
theorem HQ.ctO {M1 L1:Nat} {ln:Nat→Nat} (Q:HQ w g s col n cnt L pre) (F:Fm w w' (g::s.out.bs)) (h:PTc w s.ct M1 ln L1):PTc w' s.ct M1 ln L1:=by
 refine h.mv F ?_
 intro v hv hm
 have h4:=Q.ct.co v hv
 rcases List.mem_cons.mp hm with h|h
 ·rw [h,Q.cg] at h4;cases h4
 ·rw [Q.out2 v h] at h4;cases h4
theorem HQ.ptO {M1 L1:Nat} {ln:Nat→Nat} (Q:HQ w g s col n cnt L pre) (F:Fm w w' (g::s.out.bs)) (h:PTc w s.pt M1 ln L1):PTc w' s.pt M1 ln L1:=by
 refine h.mv F ?_
 intro v hv hm
 have h4:=Q.pt.co v hv
 rcases List.mem_cons.mp hm with h|h
 ·rw [h,Q.cg] at h4;cases h4
 ·rw [Q.out2 v h] at h4;cases h4
theorem HQ.hw (Q:HQ w g s col n cnt L pre):HW w g s col:=Q.toHW
theorem HQ.swap {M1 L1:Nat} {ln:Nat→Nat} (Q:HQ w g s col n cnt L pre) (h:PTc w s.ct M1 ln L1) (F:Fm w w' [g]) (B:Blk w' g s'.at) (ho:s'.out=s.out) (hn:s'.nodes=s.nodes) (hf:s'.fse=s.fse) (hct:s'.ct=⟨s.pt.a,0,s.pt.c⟩) (hpt:s'.pt=s.ct) (hcc:s'.cc=s.cc) (hmx:s'.maxC=s.maxC) :
  HW w' g s' (fun v=>if col v=4 then 5 else if col v=5 then 4 else col v)∧PTc w' s'.pt M1 ln L1:=by
 have hP:=Q.ctG F h
 have k:∀r,r≠4→r≠5→∀v,col v=r→(if col v=4 then 5 else if col v=5 then 4 else col v)=r:=by
  intro r h1 h2 v e
  rw [e,if_neg h1,if_neg h2]
 have ob:=Q.out.mv F (Q.keepG (by decide))
 have nb:=Q.nodP.mv F (Q.keepG (by decide))
 have fb:=Q.fseP.mv F (Q.keepG (by decide))
 have cb:=Q.ct.mv F (Q.keepG (by decide))
 have pb:=Q.pt.mv F (Q.keepG (by decide))
 have n9:∀v ∈ [g],9≤v:=by intro v hv;simp at hv;subst hv;exact Q.g9
 refine ⟨⟨B,k 1 (by decide) (by decide) g Q.cg,fun v hv=>k 0 (by decide) (by decide) v (Q.low v hv),?_,.inr ?_,?_,?_,.inr ⟨M1,ln,L1,by rw [hpt];exact hP⟩,.inr ?_,Q.gl.fm F n9,fun i hi=>(Q.er i hi).fm F (fun h=>by have:=n9 i h;omega),hmx.trans Q.mx,.inl (hcc.trans Q.ccT)⟩,by rw [hpt];exact hP⟩
 ·rw [ho];exact ⟨ob.ex,fun v hv=>k 2 (by decide) (by decide) v (ob.co v hv)⟩
 ·rw [hn]
  obtain ⟨b,l,cap,Fn,h1,h2,h3,h4⟩:=nb
  exact ⟨b,l,cap,Fn,h1,h2,k 3 (by decide) (by decide) b h3,h4⟩
 ·rw [hct]
  refine ⟨?_,?_⟩
  ·obtain ⟨h1,h2,h3⟩:=pb.own
   exact ⟨Nat.zero_le _,h2,h3⟩
  ·intro v hv
   have h5:=pb.co v hv
   rw [if_neg (by omega),if_pos h5]
 ·rw [hpt]
  exact ⟨cb.own,fun v hv=>by rw [if_pos (cb.co v hv)]⟩
 ·rw [hf]
  obtain ⟨b,fs,h1,h2,h3⟩:=fb
  exact ⟨b,fs,h1,h2,fun v hv=>k 6 (by decide) (by decide) v (h3 v hv)⟩
end
section
variable {w:World} {g n L M:Nat} {s:HU} {s1:Sl} {xs pre:List Nat} {col:Nat→Nat} {cnt ln:Nat→Nat} {fc:FuncId} {Enc:(Nat→Nat)→(Nat→Nat)→List Nat→List Nat→Prop} {K3:Sl×Bool×Value→PT}
theorem c65q {K:Value→PT} {lt ct:Nat} {tb:Nat} (Q:HQ w g s col n cnt L pre) (hP:PTc w s.ct M ln L) (hct:s.ct=⟨some ⟨tb,0,none⟩,lt,ct⟩) (hat:s.atl=(M:Nat)) (h2:2≤L) (hpre:pre.length≤1000000)
  (hk0:TBad (wtL M ln L) L→∀w' s' col' v,EG w' v→HQ w' g s' col' n cnt L pre→SK s s'→GoW w w' col col'→K v w')
  (hk1:∀w' s' col' tbl,TL (wtL M ln L) L tbl.length→By tbl→tbl.length≤129→weightsZ tbl=some (wtL M ln L,tbl.length)→HQ w' g s' col' n cnt L (pre++tbl)→PTc w' s'.ct M ln L→s'.atl=(M:Nat)→s'.ct=s.ct→s'.pt=s.pt→SK s s'→GoW w w' col col'→K .nilIface w') :
  callP Tryd.prog 65 #[.slice (some ⟨tb,0,none⟩) lt ct,.pointer (some ⟨g,0,none⟩)] [.c .V] K w:=by
 obtain ⟨qb,pc,F,cnt',e1,h256,HF,hF,HTc,hL256,hL0⟩:=hP
 rw [hct] at e1
 injection e1 with e1 e2 e3
 injection e1 with e1
 injection e1 with e1
 subst e1 e3
 have e2':=e2.symm
 subst e2'
 obtain ⟨fb,fs,hfse,SWf,hfc⟩:=Q.fseP
 have hne:∀ {u v:Nat},col u≠col v→u≠v:=fun h e=>h (by rw [e])
 have ctb:col tb=4:=Q.ct.co tb (by rw [hct];simp [Sl.bs])
 have dgo:g∉s.out.bs:=fun h=>by have:=Q.out2 g h;rw [Q.cg] at this;cases this
 have dgf:g∉SB fb fs:=fun h=>by have:=hfc g h;rw [Q.cg] at this;cases this
 have dof:∀v∈s.out.bs,v∉SB fb fs:=fun v hv h=>by have:=hfc v h;rw [Q.out2 v hv] at this;cases this
 have hown:∀v∈g::(s.out.bs++SB fb fs),v<w.heap.size→own (col v):=by
  intro v hv _
  rcases List.mem_cons.mp hv with h|h
  ·rw [h];exact Q.ownG
  ·rcases List.mem_append.mp h with h|h
   ·rw [Q.out2 v h];exact ⟨by decide,by decide⟩
   ·rw [hfc v h];exact ⟨by decide,by decide⟩
 have hkeep:∀r,r≠1→r≠2→r≠6→∀v∈g::(s.out.bs++SB fb fs),v<w.heap.size→col v≠r:=by
  intro r h1 h2 h6 v hv _ e
  rcases List.mem_cons.mp hv with h|h
  ·rw [h,Q.cg] at e;exact h1 e.symm
  ·rcases List.mem_append.mp h with h|h
   ·rw [Q.out2 v h] at e;exact h2 e.symm
   ·rw [hfc v h] at e;exact h6 e.symm
 have next:∀(w':World) (fs':FS) (hw':Nat→Int) (o:Sl) (pre':List Nat),VecU w' o pre'→Blk w' g ({ s with hw:=hw',out:=o } : HU).at→WT w w' g fb s fs fs' o →
   ∃col',HQ w' g { s with hw:=hw',out:=o } col' n cnt L pre'∧Mv w w' col col' (g::(s.out.bs++SB fb fs)):=by
  intro w' fs' hw' o pre' HV HB T
  have M1:Mv w w' col (fun v=>if v∈o.bs then 2 else colN w.heap.size 6 col v) (g::(s.out.bs++SB fb fs)):=by
   refine ⟨T.fr,hown,?_⟩
   intro v hv
   show (if v∈o.bs then 2 else colN w.heap.size 6 col v)=col v
   by_cases h:v∈o.bs
   ·rw [if_pos h]
    rcases T.new v h with h1|h1
    ·exact (Q.out2 v h1).symm
    ·omega
   ·rw [if_neg h];exact colN_old hv
  refine ⟨_,Q.mv M1 HB HV (fun v hv=>if_pos hv) (Q.nodP.mv T.fr (M1.keep (hkeep 3 (by decide) (by decide) (by decide)))) ?_ (Q.ct.mv T.fr (M1.keep (hkeep 4 (by decide) (by decide) (by decide)))) (hkeep 5 (by decide) (by decide) (by decide)) rfl rfl rfl rfl rfl rfl rfl rfl,M1⟩
  refine ⟨fb,fs',hfse,T.sw,?_⟩
  intro v hv
  show (if v∈o.bs then 2 else colN w.heap.size 6 col v)=6
  rw [if_neg (fun h=>T.dis v h hv)]
  rcases T.ext v hv with h|h
  ·rw [colN_old (SWf.lt v h)];exact hfc v h
  ·exact colN_new h
 refine c65 Q.blk Q.sc.sym h2 hL256 hat HTc.m1 HTc.m11 hfse SWf Q.gl (Q.er 0 (by decide)) (fun v hv=>Q.nine (by rw [hfc v hv];decide)) Q.g9 Q.oP (fun v hv=>Q.nine (by rw [Q.out2 v hv];decide)) hpre HF (fun i hi=>(hF i hi).2) HTc.le dgo dgf dof
  (hne (by rw [Q.cg,ctb];decide)) (fun h=>by have:=Q.out2 tb h;rw [ctb] at this;cases this) (fun h=>by have:=hfc tb h;rw [ctb] at this;cases this) ?_ ?_
 ·intro hTB w' fs' hw' v hv _ HB HV T
  obtain ⟨col',Q',M1⟩:=next w' fs' hw' s.out pre HV HB T
  exact hk0 hTB w' _ col' v hv Q' ⟨rfl,rfl,rfl⟩ M1.go
 ·intro w' fs' hw' o tbl hTL hby hl hwt HV HB T
  obtain ⟨col',Q',M1⟩:=next w' fs' hw' o (pre++tbl) HV HB T
  refine hk1 w' _ col' tbl hTL hby hl hwt Q' ?_ hat rfl rfl ⟨rfl,rfl,rfl⟩ M1.go
  refine ⟨tb,ct,F,cnt',hct,h256,HF.fr T.fr ?_,hF,HTc,hL256,hL0⟩
  intro h
  exact hkeep 4 (by decide) (by decide) (by decide) tb h HF.lt ctb
def WhyT (Enc:(Nat→Nat)→(Nat→Nat)→List Nat→List Nat→Prop) (xs:List Nat) (M:Nat) (ln:Nat→Nat) (L:Nat):Prop :=
 Enc≠EncT∨TBad (wtL M ln L) L∨∃k ol,TL (wtL M ln L) L k∧Enc (vC ln L M) ln xs ol∧xs.length≤k+ol.length
theorem j88_J5 (hC:CompOK fc Enc (Enc≠EncT)) (hfn:hasFn Tryd.prog fc=true) (hE:EncLe Enc) (Q:HQ w g s col n cnt L pre) (hP:PTc w s.ct M ln L) (hat:s.atl=(M:Nat)) (hL2:2≤L)
  (hx:∀x∈xs,x<L∧0<ln x) (hsrc:Arr .u8 w s1 xs) (hf:∀a,s1.a=some a→xs ≠ []→¬own (col a.block)) (h2:2≤xs.length) (hxs:xs.length≤2^18) (hpre:pre = []∨(xs.length≤pre.length∧pre.length≤2^19))
  (hk0:∀w' s' col' v,EG w' v→(pre = []→WhyT Enc xs M ln L)→HW w' g s' col'→s'.outT=⟨none,0,0⟩→SK s s'→GoW w w' col col'→K3 (⟨none,0,0⟩,false,v) w')
  (hk1:∀w' s' col' so tbl ol,TL (wtL M ln L) L tbl.length→By tbl→weightsZ tbl=some (wtL M ln L,tbl.length)→Enc (vC ln L M) ln xs ol→tbl.length+ol.length<xs.length→s'.out=so→VecU w' so (tbl++ol)→Arr .u8 w' s'.outT tbl→Arr .u8 w' s'.outD ol→(∀a,s'.outT.a=some a→col' a.block=2)→HW w' g s' col'→PTc w' s'.pt M ln L→SK s s'→GoW w w' col col'→K3 (so,false,.nilIface) w') :
  q88_J5 s1 (some ⟨g,0,none⟩) (.func (.func fc) #[.pointer (some ⟨g,0,none⟩)] #[]) K3 (xs.length:Nat) () w:=by
 have hpre19:pre.length≤2^19:=by
  rcases hpre with h|h
  ·rw [h];simp
  ·exact h.2
 have hxe:xs ≠ []:=by intro e;subst e;simp at h2
 obtain ⟨tb,pc,e1,_⟩:=hP.tb
 unfold q88_J5
 refine ⟨_,rfl,?_⟩
 simp only [add_mk,Nat.zero_add]
 refine ld_b (t := .S) (x:=s.ct) Q.blk rfl ?_
 rw [e1]
 refine c65q Q hP e1 hat hL2 (by omega) ?_ ?_
 ·intro hTB w1 sA colA v hv QA KA GA
  refine ⟨isPE.ifc hv.2,err_cnd (isPE.nil hv.2) ⟨_,rfl,?_⟩⟩
  simp only [add_mk,Nat.zero_add]
  refine st_u QA.blk rfl rfl ?_
  intro w2 B2 F2
  have B2':=B2.congr (HU.setT (s' := { sA with outT:=⟨none,0,0⟩ }) 1 rfl rfl rfl (by decide))
  have Q2:=QA.self F2 B2' rfl rfl rfl rfl rfl rfl rfl rfl rfl rfl rfl rfl
  exact hk0 w2 _ colA v (hv.fm F2 QA.g9l) (fun _ => .inr (.inl hTB)) Q2.hw rfl ⟨KA.reuse,KA.wll,KA.tl⟩ (GA.trans (QA.mvG F2).go)
 ·intro w1 sA colA tbl hTL hby hl129 hwt QA hPA hatA hctA hptA KA GA
  refine ⟨rfl,nil_cnd ⟨_,rfl,?_⟩⟩
  simp only [add_mk,Nat.zero_add]
  refine ld_b (t := .S) (x:=sA.out) QA.blk rfl ⟨_,rfl,?_⟩
  refine st_u QA.blk rfl rfl ?_
  intro w2 B2 F2
  have B2':=B2.congr (HU.setT (s' := { sA with outT:=sA.out }) 1 rfl rfl rfl (by decide))
  have Q2:=QA.self F2 B2' rfl rfl rfl rfl rfl rfl rfl rfl rfl rfl rfl rfl
  have P2:=QA.ctG F2 hPA
  have G2:=GA.trans (QA.mvG F2).go
  have hsrc2:=G2.arr hsrc hf
  have hf2:=G2.far hsrc hf
  have hpl:(pre++tbl).length=pre.length+tbl.length:=List.length_append
  refine comp_core (ln:=ln) (M1:=M) (L1:=L) hC hfn Q2 w2 (Fm.refl _ _) B2' rfl P2 ?_ hx hsrc2 hf2 h2 hxs (by omega) ?_ ?_
  ·intro v hv
   have h4:=Q2.ct.co v hv
   exact ⟨Q2.ct.own.lt v hv,by omega,by omega⟩
  ·intro hne w3 o v hv B3 F3
   refine ⟨_,rfl,?_⟩
   simp only [add_mk,Nat.zero_add]
   refine st_u B3 rfl rfl ?_
   intro w4 B4 F4
   have B4':=B4.congr (HU.setT (s' := { sA with outT:=sA.out,out:=⟨none,0,0⟩ }) 0 rfl rfl rfl (by decide))
   obtain ⟨Q4,M4⟩:=Q2.comp (so:=⟨none,0,0⟩) (F3.trans F4 (by intro v hv;left;simp at hv;simp [hv])) (by simp [Sl.bs]) VecU.nil B4'
   refine ⟨isPE.ifc hv.2,err_cnd (isPE.nil hv.2) ⟨_,rfl,?_⟩⟩
   simp only [add_mk,Nat.zero_add]
   refine st_u B4' rfl rfl ?_
   intro w5 B5 F5
   have B5':=B5.congr (HU.setT (s' := { sA with outT:=⟨none,0,0⟩,out:=⟨none,0,0⟩ }) 1 rfl rfl rfl (by decide))
   have Q5:=Q4.self F5 B5' rfl rfl rfl rfl rfl rfl rfl rfl rfl rfl rfl rfl
   exact hk0 w5 _ _ v ((hv.fm F4 Q2.g9l).fm F5 Q2.g9l) (fun _ => .inl hne) Q5.hw rfl ⟨KA.reuse,KA.wll,KA.tl⟩ ((G2.trans M4.go).trans (Q4.mvG F5).go)
  ·intro w3 o so ol hEn HV3 B3 hn3 F3 hh3
   refine ⟨_,rfl,?_⟩
   simp only [add_mk,Nat.zero_add]
   refine st_u B3 rfl rfl ?_
   intro w4 B4 F4
   have B4':=B4.congr (HU.setT (s' := { sA with outT:=sA.out,out:=so }) 0 rfl rfl rfl (by decide))
   have hgso:g∉so.bs:=by
    intro h
    rcases hn3 g h with h1|h1
    ·have:=Q2.out2 g h1;rw [Q2.cg] at this;cases this
    ·have:=Q2.blk.lt;omega
   have HV4:=HV3.fr F4 (by intro v hv;simp;exact fun e=>hgso (e▸hv))
   have hgsa:∀a,sA.out.a=some a→a.block ∉ [g]:=by
    intro a ha
    have h2c:=QA.out2 a.block (mem_bs ha)
    simp
    intro e
    rw [e,QA.cg] at h2c;cases h2c
   have hh4:Held w4 sA.out.a (pre++tbl):=hh3.fr F4 hgsa
   obtain ⟨Q4,M4⟩:=Q2.comp (so:=so) (F3.trans F4 (by intro v hv;left;simp at hv;simp [hv])) hn3 HV4 B4'
   have P4:PTc w4 sA.ct M ln L:=Q2.ctO (F3.trans F4 (by intro v hv;left;simp at hv;simp [hv])) P2
   have G4:=G2.trans M4.go
   refine ⟨rfl,nil_cnd ⟨_,rfl,?_⟩⟩
   simp only [add_mk,Nat.zero_add]
   have hln11:∀x∈xs,ln x≤11:=by
    intro x hx'
    obtain ⟨_,_,_,cnt',_,_,_,_,HTc,_⟩:=hP
    have h1:=HTc.le x (hx x hx').1
    have h2:=HTc.m11
    omega
   have hoE:=hE _ _ _ _ hEn hln11 hxs
   have hsl:=HV4.len
   rw [List.length_append] at hsl
   refine ld_b (t := .S) (x:=so) B4' rfl (cnd_d ?_ ?_)
   ·intro hge
    refine ⟨_,rfl,?_⟩
    simp only [add_mk,Nat.zero_add]
    refine st_u B4' rfl rfl ?_
    intro w5 B5 F5
    have B5':=B5.congr (HU.setT (s' := { sA with outT:=⟨none,0,0⟩,out:=so }) 1 rfl rfl rfl (by decide))
    have Q5:=Q4.self F5 B5' rfl rfl rfl rfl rfl rfl rfl rfl rfl rfl rfl rfl
    have G5:=G4.trans (Q4.mvG F5).go
    refine ld_errG (Q5.er 0 (by decide)) (by decide) ?_
    intro v hv
    have Fd:Fm w5 w5.drew [g]:=(Fm.refl w5 _).drew
    have Q6:=Q5.self (s' := { sA with outT:=⟨none,0,0⟩,out:=so }) Fd B5'.drew rfl rfl rfl rfl rfl rfl rfl rfl rfl rfl rfl rfl
    exact hk0 _ _ _ v hv (fun hp => .inr (.inr ⟨tbl.length,ol,hTL,hEn,by have hp0:pre.length=0:=by { rw [hp];rfl };omega⟩)) Q6.hw rfl ⟨KA.reuse,KA.wll,KA.tl⟩ (G5.trans (Q5.mvG Fd).go)
   ·intro hlt
    have hlt':so.l<xs.length:=by omega
    have hpn:pre = []:=by
     rcases hpre with h|h
     ·exact h
     ·exfalso
      have:=h.1
      omega
    subst hpn
    simp only [List.nil_append] at *
    rw [List.length_nil,Nat.zero_add] at hpl
    have Fd:Fm w4 w4.drew [g]:=(Fm.refl w4 _).drew
    have Qd:=Q4.self (s' := { sA with outT:=sA.out,out:=so }) Fd B4'.drew rfl rfl rfl rfl rfl rfl rfl rfl rfl rfl rfl rfl
    have Pd:PTc w4.drew sA.ct M ln L:=Q4.ctG Fd P4
    unfold drw
    refine ⟨_,rfl,?_⟩
    simp only [add_mk,Nat.zero_add]
    refine ld_b (t := .S) (x:=sA.ct) B4'.drew rfl ⟨_,rfl,?_⟩
    simp only [add_mk,Nat.zero_add]
    refine ld_b (t := .I .u8) (x:=sA.atl) B4'.drew rfl ⟨_,rfl,?_⟩
    simp only [add_mk,Nat.zero_add]
    refine ld_b (t := .S) (x:=sA.pt) B4'.drew rfl ?_
    refine slc_hi (m:=0) rfl (Nat.zero_le _) ⟨_,rfl,?_⟩
    simp only [add_mk,Nat.zero_add]
    refine st_u B4'.drew rfl rfl ?_
    intro w5 B5 F5
    have B5':=B5.congr (HU.setT (s' := { sA with outT:=sA.out,out:=so,pt:=sA.ct }) 14 rfl rfl rfl (by decide))
    refine ⟨_,rfl,?_⟩
    simp only [add_mk,Nat.zero_add]
    refine st_u B5' rfl rfl ?_
    intro w6 B6 F6
    have B6':=B6.congr (HU.setT (s' := { sA with outT:=sA.out,out:=so,pt:=sA.ct,ptl:=sA.atl }) 13 rfl rfl rfl (by decide))
    refine ⟨_,rfl,?_⟩
    simp only [add_mk,Nat.zero_add]
    refine st_u B6' rfl rfl ?_
    intro w7 B7 F7
    have B7':=B7.congr (HU.setT (s' := { sA with outT:=sA.out,out:=so,pt:=sA.ct,ptl:=sA.atl,ct:=⟨sA.pt.a,0,sA.pt.c⟩ }) 15 rfl rfl rfl (by decide))
    refine ⟨_,rfl,?_⟩
    simp only [add_mk,Nat.zero_add]
    refine ld_b (t := .S) (x:=so) B7'.drew rfl ⟨_,rfl,?_⟩
    simp only [add_mk,Nat.zero_add]
    refine ld_b (t := .S) (x:=sA.out) B7'.drew rfl ?_
    have hol:=QA.oP.len
    refine slc_lo (n:=tbl.length) (by rw [hol]) (by omega) ⟨_,rfl,?_⟩
    simp only [add_mk,Nat.zero_add]
    refine st_u B7'.drew rfl rfl ?_
    intro w8 B8 F8
    have B8':=B8.congr (HU.setT (s' := { sA with outT:=sA.out,out:=so,pt:=sA.ct,ptl:=sA.atl,ct:=⟨sA.pt.a,0,sA.pt.c⟩,outD:=⟨slA so.a tbl.length so.c 1,so.l-tbl.length,so.c-tbl.length⟩ }) 2 rfl rfl rfl (by decide))
    refine ⟨_,rfl,?_⟩
    simp only [add_mk,Nat.zero_add]
    refine ld_b (t := .S) (x:=so) B8' rfl ?_
    have F48:Fm w4 w8 [g]:=((((((Fm.refl w4 [g]).drew.trans F5 (fun x hx => .inl hx)).trans F6 (fun x hx => .inl hx)).trans F7 (fun x hx => .inl hx)).drew).trans F8 (fun x hx => .inl hx))
    obtain ⟨W8,P8⟩:=Q4.swap (s' := { sA with outT:=sA.out,out:=so,pt:=sA.ct,ptl:=sA.atl,ct:=⟨sA.pt.a,0,sA.pt.c⟩,outD:=⟨slA so.a tbl.length so.c 1,so.l-tbl.length,so.c-tbl.length⟩ }) P4 F48 B8' rfl rfl rfl rfl rfl rfl rfl
    have HV8:=HV4.fr F48 (by intro v hv;simp;exact fun e=>hgso (e▸hv))
    have hh8:Held w8 sA.out.a tbl:=hh4.fr F48 hgsa
    have A8:=HV8.vec.arr
    have AD:=A8.drop tbl.length (by rw [List.length_append];omega)
    rw [List.drop_left] at AD
    have GS:GoW w4 w8 (colN w2.heap.size 2 colA) (fun v=>if colN w2.heap.size 2 colA v=4 then 5 else if colN w2.heap.size 2 colA v=5 then 4 else colN w2.heap.size 2 colA v):=by
     refine ⟨⟨[g],F48,(Q4.mvG F48).own_⟩,?_⟩
     intro v _ hno
     show (if _=4 then 5 else if _=5 then 4 else _)=_
     rw [if_neg (fun e=>hno (by rw [e];exact ⟨by decide,by decide⟩)),if_neg (fun e=>hno (by rw [e];exact ⟨by decide,by decide⟩))]
    have hoc:∀a,sA.out.a=some a→(if colN w2.heap.size 2 colA a.block=4 then 5 else if colN w2.heap.size 2 colA a.block=5 then 4 else colN w2.heap.size 2 colA a.block)=2:=by
     intro a ha
     have e2:colN w2.heap.size 2 colA a.block=2:=(colN_old (Q2.oP.lt _ (mem_bs ha))).trans (QA.out2 _ (mem_bs ha))
     rw [e2];rfl
    exact hk1 w8 _ _ so tbl ol hTL hby hwt hEn (by omega) rfl HV8 (hh8.arr (a:=none) (c:=0) ⟨w1,QA.oP⟩) AD hoc W8 P8 ⟨KA.reuse,KA.wll,KA.tl⟩ (G4.trans GS)
end
section
variable {w:World} {g n L M0 L0:Nat} {s:HU} {s1:Sl} {xs pre:List Nat} {col:Nat→Nat} {cnt ln0:Nat→Nat} {fc:FuncId} {Enc:(Nat→Nat)→(Nat→Nat)→List Nat→List Nat→Prop} {K3:Sl×Bool×Value→PT}
theorem rs_step {K:Sl×Value→PT} {E:Prop} (hC:CompOK fc Enc E) (hfn:hasFn Tryd.prog fc=true) (Q:HQ w g s col n cnt L pre) (hP:PTc w s.pt M0 ln0 L0)
  (hx:∀x∈xs,x<L0∧0<ln0 x) (hsrc:Arr .u8 w s1 xs) (hf:∀a,s1.a=some a→xs ≠ []→¬own (col a.block)) (h2:2≤xs.length) (hxs:xs.length≤2^18) (hpre:pre.length≤2^20)
  (hk0:E→∀w' s' col' v,EG w' v→s' = { s with out:=⟨none,0,0⟩ } → HQ w' g s' col' n cnt L []→GoW w w' col col'→PTc w' s'.pt M0 ln0 L0→(∀M1 ln1 L1,PTc w s.ct M1 ln1 L1→PTc w' s'.ct M1 ln1 L1)→K (⟨none,0,0⟩,v) w')
  (hk1:∀w' s' col' so ol,Enc (vC ln0 L0 M0) ln0 xs ol→s' = { s with out:=so } → HQ w' g s' col' n cnt L (pre++ol)→GoW w w' col col'→PTc w' s'.pt M0 ln0 L0→(∀M1 ln1 L1,PTc w s.ct M1 ln1 L1→PTc w' s'.ct M1 ln1 L1)→K (so,.nilIface) w') :
  (nz (some ⟨g,0,none⟩) fun (p134:Addr)=>ld .S (Addr.add p134 271) fun (s135:Sl)=>nz (some ⟨g,0,none⟩) fun (p136:Addr)=>ld (.I .u8) (Addr.add p136 268) fun (n137:Int)=>nz (some ⟨g,0,none⟩) fun (p138:Addr)=>ld .S (Addr.add p138 270) fun (s139:Sl)=>nz (some ⟨g,0,none⟩) fun (p140:Addr)=>st (Addr.add p140 271) (.slice s139.a s139.l s139.c)<|nz (some ⟨g,0,none⟩) fun (p141:Addr)=>ld (.I .u8) (Addr.add p141 269) fun (n142:Int)=>nz (some ⟨g,0,none⟩) fun (p143:Addr)=>st (Addr.add p143 268) (.int .u8 n142)<|callV Tryd.prog (.func (.func fc) #[.pointer (some ⟨g,0,none⟩)] #[]) #[(.slice s1.a s1.l s1.c)] [.c .S,.c .V] fun (r144:Sl×Value)=>nz (some ⟨g,0,none⟩) fun (p145:Addr)=>st (Addr.add p145 256) (.slice r144.1.a r144.1.l r144.1.c)<|nz (some ⟨g,0,none⟩) fun (p146:Addr)=>st (Addr.add p146 271) (.slice s135.a s135.l s135.c)<|nz (some ⟨g,0,none⟩) fun (p147:Addr)=>st (Addr.add p147 268) (.int .u8 n137)<|K r144) w:=by
 refine ⟨_,rfl,?_⟩
 simp only [add_mk,Nat.zero_add]
 refine ld_b (t := .S) (x:=s.ct) Q.blk rfl ⟨_,rfl,?_⟩
 simp only [add_mk,Nat.zero_add]
 refine ld_b (t := .I .u8) (x:=s.atl) Q.blk rfl ⟨_,rfl,?_⟩
 simp only [add_mk,Nat.zero_add]
 refine ld_b (t := .S) (x:=s.pt) Q.blk rfl ⟨_,rfl,?_⟩
 simp only [add_mk,Nat.zero_add]
 refine st_u Q.blk rfl rfl ?_
 intro w1 B1 F1
 have B1':=B1.congr (HU.setT (s' := { s with ct:=s.pt }) 15 rfl rfl rfl (by decide))
 refine ⟨_,rfl,?_⟩
 simp only [add_mk,Nat.zero_add]
 refine ld_b (t := .I .u8) (x:=s.ptl) B1' rfl ⟨_,rfl,?_⟩
 simp only [add_mk,Nat.zero_add]
 refine st_u B1' rfl rfl ?_
 intro w2 B2 F2
 have B2':=B2.congr (HU.setT (s' := { s with ct:=s.pt,atl:=s.ptl }) 12 rfl rfl rfl (by decide))
 have F02:Fm w w2 [g]:=F1.trans F2 (fun x hx => .inl hx)
 refine comp_core (s2 := { s with ct:=s.pt,atl:=s.ptl }) (ln:=ln0) (M1:=M0) (L1:=L0) hC hfn Q w2 F02 B2' rfl (Q.ptG F02 hP) ?_ hx hsrc hf h2 hxs hpre ?_ ?_
 ·intro v hv
  have h5:=Q.pt.co v hv
  exact ⟨Q.pt.own.lt v hv,by omega,by omega⟩
 ·intro hE w3 o v hv B3 F3
  refine ⟨_,rfl,?_⟩
  simp only [add_mk,Nat.zero_add]
  refine st_u B3 rfl rfl ?_
  intro w4 B4 F4
  have B4':=B4.congr (HU.setT (s' := { s with ct:=s.pt,atl:=s.ptl,out:=⟨none,0,0⟩ }) 0 rfl rfl rfl (by decide))
  refine ⟨_,rfl,?_⟩
  simp only [add_mk,Nat.zero_add]
  refine st_u B4' rfl rfl ?_
  intro w5 B5 F5
  have B5':=B5.congr (HU.setT (s' := { s with atl:=s.ptl,out:=⟨none,0,0⟩ }) 15 rfl rfl rfl (by decide))
  refine ⟨_,rfl,?_⟩
  simp only [add_mk,Nat.zero_add]
  refine st_u B5' rfl rfl ?_
  intro w6 B6 F6
  have B6':=B6.congr (HU.setT (s' := { s with out:=⟨none,0,0⟩ }) 12 rfl rfl rfl (by decide))
  have F06:Fm w w6 (g::s.out.bs):=F3.trans ((F4.trans F5 (fun x hx => .inl hx)).trans F6 (fun x hx => .inl hx)) (by intro v hv;left;simp at hv;simp [hv])
  obtain ⟨Q6,M6⟩:=Q.comp (so:=⟨none,0,0⟩) F06 (by simp [Sl.bs]) VecU.nil B6'
  exact hk0 hE w6 _ _ v (((hv.fm F4 Q.g9l).fm F5 Q.g9l).fm F6 Q.g9l) rfl Q6 M6.go (Q.ptO F06 hP) (fun M1 ln1 L1 h=>Q.ctO F06 h)
 ·intro w3 o so ol hEn HV3 B3 hn3 F3 hh3
  refine ⟨_,rfl,?_⟩
  simp only [add_mk,Nat.zero_add]
  refine st_u B3 rfl rfl ?_
  intro w4 B4 F4
  have B4':=B4.congr (HU.setT (s' := { s with ct:=s.pt,atl:=s.ptl,out:=so }) 0 rfl rfl rfl (by decide))
  refine ⟨_,rfl,?_⟩
  simp only [add_mk,Nat.zero_add]
  refine st_u B4' rfl rfl ?_
  intro w5 B5 F5
  have B5':=B5.congr (HU.setT (s' := { s with atl:=s.ptl,out:=so }) 15 rfl rfl rfl (by decide))
  refine ⟨_,rfl,?_⟩
  simp only [add_mk,Nat.zero_add]
  refine st_u B5' rfl rfl ?_
  intro w6 B6 F6
  have B6':=B6.congr (HU.setT (s' := { s with out:=so }) 12 rfl rfl rfl (by decide))
  have F36:Fm w3 w6 [g]:=(F4.trans F5 (fun x hx => .inl hx)).trans F6 (fun x hx => .inl hx)
  have F06:Fm w w6 (g::s.out.bs):=F3.trans F36 (by intro v hv;left;simp at hv;simp [hv])
  have hgso:∀v∈so.bs,v ∉ [g]:=by
   intro v hv
   simp
   intro e
   subst e
   rcases hn3 v hv with h1|h1
   ·have:=Q.out2 v h1;rw [Q.cg] at this;cases this
   ·have:=Q.blk.lt;omega
  obtain ⟨Q6,M6⟩:=Q.comp (so:=so) F06 hn3 (HV3.fr F36 hgso) B6'
  exact hk1 w6 _ _ so ol hEn rfl Q6 M6.go (Q.ptO F06 hP) (fun M1 ln1 L1 h=>Q.ctO F06 h)
theorem c91q {K:Value→PT} (Q:HQ w g s col n cnt L pre) (hn2:n<4294967296) (two:∃a b,a≠b∧a<L∧b<L∧0<cnt a∧0<cnt b) (hsum:sF cnt 0 L≤n) (h8:sF cnt 0 L<832040)
  (hk:∀w' s' col' M ln,HT cnt L M ln→(∀t:Nat,s.tl=(t:Nat)→LenR cnt L n t M ln)→HQ w' g s' col' n cnt L pre→PTc w' s'.ct M ln L→s'.atl=(M:Nat)→s'.pt=s.pt→(∀M1 ln1 L1,PTc w s.pt M1 ln1 L1→PTc w' s'.pt M1 ln1 L1)→SK s s'→s'.out=s.out→s'.reuse=s.reuse→s'.outT=s.outT→GoW w w' col col'→K .nilIface w') :
  callP Tryd.prog 91 #[.pointer (some ⟨g,0,none⟩)] [.c .V] K w:=by
 obtain ⟨nb,l0,cap,Fn,hnod,hcap,cnb,HN,hS,hF⟩:=Q.nodP
 obtain ⟨t,htl,_,ht11⟩:=Q.tlP
 have c4:=Q.ct.co
 have dgn:g≠nb:=fun e=>by rw [←e,Q.cg] at cnb;cases cnb
 have hg:g∉s.ct.bs:=fun h=>by have:=c4 g h;rw [Q.cg] at this;cases this
 have hnb:nb∉s.ct.bs:=fun h=>by have:=c4 nb h;rw [cnb] at this;cases this
 have hl1:=Q.sc.l1
 have hl256:=Q.sc.l256
 refine c91 Q.blk Q.sc Q.srcN htl ht11 hn2 two hsum h8 hnod hcap HN hS hF dgn Q.ct.own hg hnb ?_
 intro w' M ln tb capt F' Fn' HTc hLR h256 B' HF' hS' hcells HN' hSn' hFn' htb dgt dnt Fr
 have hown:∀v∈g::nb::s.ct.bs,v<w.heap.size→own (col v):=by
  intro v hv _
  rcases List.mem_cons.mp hv with h|h
  ·rw [h];exact Q.ownG
  ·rcases List.mem_cons.mp h with h|h
   ·rw [h,cnb];exact ⟨by decide,by decide⟩
   ·rw [c4 v h];exact ⟨by decide,by decide⟩
 have hkeep:∀r,r≠1→r≠3→r≠4→∀v∈g::nb::s.ct.bs,v<w.heap.size→col v≠r:=by
  intro r h1 h3 h4 v hv _ e
  rcases List.mem_cons.mp hv with h|h
  ·rw [h,Q.cg] at e;exact h1 e.symm
  ·rcases List.mem_cons.mp h with h|h
   ·rw [h,cnb] at e;exact h3 e.symm
   ·rw [c4 v h] at e;exact h4 e.symm
 have M1:Mv w w' col (colN w.heap.size 4 col) (g::nb::s.ct.bs):=⟨Fr,hown,fun v hv=>colN_old hv⟩
 have K2:=M1.keep (hkeep 2 (by decide) (by decide) (by decide))
 have K5:=M1.keep (hkeep 5 (by decide) (by decide) (by decide))
 have ctb:colN w.heap.size 4 col tb=4:=by
  rcases htb with h|h
  ·exact (colN_old (Q.ct.own.lt tb h)).trans (c4 tb h)
  ·exact colN_new h
 have Q':HQ w' g ({ s with atl:=(M:Nat),ct:=⟨some ⟨tb,0,none⟩,L,capt⟩,nodes:=⟨some ⟨nb,0,none⟩,513,cap⟩ } : HU) (colN w.heap.size 4 col) n cnt L pre:=by
  refine Q.mv M1 B' (Q.oP.fr Fr (fun b hb=>K2.out (Q.out2 b hb) (Q.oP.lt b hb))) ?_ ?_ (Q.fseP.mv Fr (M1.keep (hkeep 6 (by decide) (by decide) (by decide)))) ?_ (hkeep 5 (by decide) (by decide) (by decide)) rfl rfl rfl rfl rfl rfl rfl rfl
  ·intro v hv;exact (colN_old (Q.oP.lt v hv)).trans (Q.out2 v hv)
  ·exact ⟨nb,513,cap,Fn',rfl,hcap,(colN_old HN.lt).trans cnb,HN',hSn',hFn'⟩
  ·refine ⟨Own.of HF' hS' (by omega),?_⟩
   intro v hv
   simp [Sl.bs] at hv
   rw [hv];exact ctb
 have hLR':∀t':Nat,s.tl=(t':Nat)→LenR cnt L n t' M ln:=by
  intro t' h'
  have e:t'=t:=by omega
  rw [e];exact hLR
 refine hk w' _ _ M ln HTc hLR' Q' ⟨tb,capt,F',cnt,rfl,h256,HF',hcells,HTc,hl256,by omega⟩ rfl rfl ?_ ⟨rfl,rfl,rfl⟩ rfl rfl rfl M1.go
 intro Ma lna La h
 exact h.mv Fr (fun v hv=>K5.out (Q.pt.co v hv) (Q.pt.own.lt v hv))
theorem HQ.em {w':World} (Q:HQ w g s col n cnt L pre) (F:Fm w w' []):HQ w' g s col n cnt L pre :=
 Q.self (s':=s) (F.mono (by simp)) (Q.blk.fr F (by simp)) rfl rfl rfl rfl rfl rfl rfl rfl rfl rfl rfl rfl
theorem HQ.goE {w':World} (Q:HQ w g s col n cnt L pre) (F:Fm w w' []):GoW w w' col col:=GoW.of F (by simp) (fun _ _=>rfl)
theorem c119q {K:Int→PT} {M1 L1:Nat} {ln1:Nat→Nat} {tb lt ct:Nat} {o:Sl} (Q:HQ w g s col n cnt L pre) (hP:PTc w o M1 ln1 L1) (ho:o=⟨some ⟨tb,0,none⟩,lt,ct⟩) (hL:L≤L1) (hk:∀w' r,Fm w w' []→K r w') :
  callP Tryd.prog 119 #[.slice (some ⟨tb,0,none⟩) lt ct,.slice (some ⟨g,0,none⟩) L 256] [.c (.I .i64)] K w:=by
 obtain ⟨qb,pc,e,h256,_,F,HF,hF,_,hL256,_⟩:=hP.tb
 rw [ho] at e
 injection e with e1 e2 e3
 injection e1 with e1
 injection e1 with e1
 subst e1 e2 e3
 have:=Q.sc.l256
 refine c119 (F:=F) HF (fun i hi=>hF i (by omega)) (by omega) this Q.blk (fun i hi=>⟨_,HU.count_at s (by omega)⟩) hk
theorem err_hw {κ:Value→PT} {i:Nat} (hi:i<3) (W:HW w g s col) (hk:∀w' v,EG w' v→HW w' g s col→GoW w w' col col→κ v w'):drw (ld .V ⟨i,0,none⟩ κ) w:=by
 refine ld_errG (W.er i hi) hi ?_
 intro v hv
 have F:Fm w w.drew []:=(Fm.refl w []).drew
 exact hk _ v hv (W.same (W.blk.fr F (by simp)) (F.mono (by simp)) rfl rfl rfl rfl rfl W.mx W.cz) (GoW.of F (by simp) (fun _ _=>rfl))
end
structure NT (xs:List Nat) (M:Nat) (ln:Nat→Nat) (L:Nat):Prop where
 h:HT (fun i=>xs.count i) L M ln
 l2:2≤L
 l256:L≤256
 out:∀i,L≤i→xs.count i=0
 last:0<xs.count (L-1)
 two:∃a,a<L-1∧0<xs.count a
theorem sF_count (L:Nat):∀xs:List Nat,sF (fun i=>xs.count i) 0 L≤xs.length
 | []=>by rw [sF_zero (fun i _=>by simp)];omega
 | x::r=>by
  have e:sF (fun i=>(x::r).count i) 0 L=sF (fun i=>r.count i) 0 L+sF (fun i=>if x=i then 1 else 0) 0 L:=by
   rw [←sF_add]
   refine sF_congr (fun i _ _ => ?_)
   rw [List.count_cons]
   by_cases h:x=i
   ·subst h;simp
   ·rw [if_neg (by simpa using h),if_neg h]
  have h1:=sF_count L r
  have h2:sF (fun i=>if x=i then 1 else 0) 0 L≤1:=by
   by_cases h:x<L
   ·rw [sF_single h (fun i _ hi=>if_neg (fun e=>hi e.symm)),if_pos rfl];omega
   ·rw [sF_zero (fun i hi=>if_neg (by omega))];omega
  rw [e,List.length_cons]
  omega
theorem mx_two {xs:List Nat} {m L:Nat} (hM:MX (fun i=>xs.count i) m L) (hby:By xs) (hm:m<xs.length):2≤L∧(∀i,L≤i→xs.count i=0)∧0<xs.count (L-1)∧∃a,a<L-1∧0<xs.count a:=by
 have h1:=hM.l1
 have hl:0<xs.count (L-1):=by have:xs.count (L-1)≠0:=hM.last;omega
 have hout:∀i,L≤i→xs.count i=0:=by
  intro i hi
  rcases Nat.lt_or_ge i 256 with h|h
  ·exact hM.out i h hi
  ·exact List.count_eq_zero.mpr (fun hh=>by have:=hby i hh;omega)
 have hle:xs.count (L-1)≤m:=hM.le (L-1) (by have:=hM.l256;omega)
 have hex:∃a,a<L-1∧0<xs.count a:=by
  refine Classical.byContradiction fun hn => ?_
  have hall:∀b∈xs,L-1=b:=by
   intro b hb
   have h2:0<xs.count b:=List.count_pos_iff.mpr hb
   have h3:b<L:=Classical.byContradiction fun h=>by have:=hout b (by omega);omega
   rcases Nat.lt_or_ge b (L-1) with h|h
   ·exact absurd ⟨b,h,h2⟩ hn
   ·omega
  have:=List.count_eq_length.mpr hall
  omega
 obtain ⟨a,ha,ha2⟩:=hex
 exact ⟨by omega,hout,hl,a,ha,ha2⟩
section
variable {w:World} {g n L M0 L0:Nat} {s:HU} {s1:Sl} {xs pre:List Nat} {col:Nat→Nat} {cnt ln0:Nat→Nat} {fc:FuncId} {Enc:(Nat→Nat)→(Nat→Nat)→List Nat→List Nat→Prop} {K3:Sl×Bool×Value→PT}
theorem CompOK.of {f:FuncId} {Enc:(Nat→Nat)→(Nat→Nat)→List Nat→List Nat→Prop} {E:Prop} (h:CompOK f Enc) (hE:E):CompOK f Enc E:=by
 intro w g tb capt lct cd ln pre xs s1 s K a1 a2 a3 a4 a5 a6 a7 a8 a9 a10 a11 a12 a13 a14 a15 a16 hk0 hk1
 exact h w g tb capt lct cd ln pre xs s1 s K a1 a2 a3 a4 a5 a6 a7 a8 a9 a10 a11 a12 a13 a14 a15 a16 (fun _=>hk0 hE) hk1
theorem enc4_ne:Enc4≠EncT:=by
 intro e
 have h:EncT (fun _=>0) (fun _=>0) [] [1]:=⟨(by intro x hx;simp at hx;omega),rfl,rfl⟩
 rw [←e] at h
 have:=h.1
 simp at this
def CntOK (xs:List Nat):Prop:=∃m L,MX (fun i=>xs.count i) m L∧m<xs.length∧m≠1∧xs.length/128≤m
theorem CntOK.at {xs:List Nat} {m L:Nat} (h:CntOK xs) (hM:MX (fun i=>xs.count i) m L):m<xs.length∧m≠1∧xs.length/128≤m:=by
 obtain ⟨m',L',h1,h2⟩:=h
 have e:m=m':=by
  obtain ⟨i,hi,hi2⟩:=hM.ex
  obtain ⟨j,hj,hj2⟩:=h1.ex
  have a:=h1.le i (by have:=hM.l256;omega)
  have b:=hM.le j (by have:=h1.l256;omega)
  have hi2:xs.count i=m:=hi2
  have hj2:xs.count j=m':=hj2
  have a:xs.count i≤m':=a
  have b:xs.count j≤m:=b
  omega
 subst e
 exact h2
theorem CntOK.ne {xs:List Nat} (h:CntOK xs):xs ≠ []:=by
 obtain ⟨m',L',h1,h2,_⟩:=h
 intro e
 rw [e] at h2
 simp at h2
def Bad (xs:List Nat) (t:Nat) (Enc:(Nat→Nat)→(Nat→Nat)→List Nat→List Nat→Prop):Prop :=
 ¬CntOK xs∨∃M ln L,NT xs M ln L∧LenR (fun i=>xs.count i) L xs.length t M ln∧WhyT Enc xs M ln L
structure KE (w:World) (g:Nat) (s:HU) (col:Nat→Nat) (xs:List Nat) (Enc:(Nat→Nat)→(Nat→Nat)→List Nat→List Nat→Prop) (M0:Nat) (ln0:Nat→Nat) (L0:Nat) (K3:Sl×Bool×Value→PT):Prop where
 e:∀w' s' col' v,EG w' v→(s.reuse=2→∀t:Nat,s.tl=(t:Nat)→Bad xs t Enc)→HW w' g s' col'→s'.outT=⟨none,0,0⟩→SK s s'→GoW w w' col col'→K3 (⟨none,0,0⟩,false,v) w'
 r:∀w' s' col' so ol,s.reuse≠2→Enc (vC ln0 L0 M0) ln0 xs ol→(∀x∈xs,x<L0∧0<ln0 x)→ol.length<xs.length→s'.out=so→VecU w' so ol→HW w' g s' col'→PTc w' s'.pt M0 ln0 L0→s'.outT=⟨none,0,0⟩→SK s s'→GoW w w' col col'→K3 (so,true,.nilIface) w'
 t:∀w' s' col' so M ln L tbl ol,s.reuse≠3→CntOK xs→TL (wtL M ln L) L tbl.length→(∀t:Nat,s.tl=(t:Nat)→LenR (fun i=>xs.count i) L xs.length t M ln)→NT xs M ln L→By tbl→weightsZ tbl=some (wtL M ln L,tbl.length)→Enc (vC ln L M) ln xs ol→tbl.length+ol.length<xs.length→s'.out=so→VecU w' so (tbl++ol)→Arr .u8 w' s'.outT tbl→Arr .u8 w' s'.outD ol→(∀a,s'.outT.a=some a→col' a.block=2)→HW w' g s' col'→PTc w' s'.pt M ln L→SK s s'→GoW w w' col col'→K3 (so,false,.nilIface) w'
theorem KE.go {w':World} {s':HU} {col':Nat→Nat} (k:KE w g s col xs Enc M0 ln0 L0 K3) (G:GoW w w' col col') (S:SK s s'):KE w' g s' col' xs Enc M0 ln0 L0 K3:=by
 have tr:∀ {s2:HU},SK s' s2→SK s s2:=fun h=>⟨h.reuse.trans S.reuse,h.wll.trans S.wll,h.tl.trans S.tl⟩
 refine ⟨?_,?_,?_⟩
 ·intro w2 s2 col2 v h1 hB h2 hT h3 h4
  exact k.e w2 s2 col2 v h1 (fun h t ht=>hB (S.reuse.trans h) t (S.tl.trans ht)) h2 hT (tr h3) (G.trans h4)
 ·intro w2 s2 col2 so ol h1 h2 h3 h4 h5 h6 h7 h8 hT h9 h10
  exact k.r w2 s2 col2 so ol (by rw [←S.reuse];exact h1) h2 h3 h4 h5 h6 h7 h8 hT (tr h9) (G.trans h10)
 ·intro w2 s2 col2 so M ln L tbl ol hr hcn hTL hl h1 h2 h3 h4 h5 h6 h7 h8 h9 hc h10 h11 h12 h13
  exact k.t w2 s2 col2 so M ln L tbl ol (by rw [←S.reuse];exact hr) hcn hTL (fun t ht=>hl t (S.tl.trans ht)) h1 h2 h3 h4 h5 h6 h7 h8 h9 hc h10 h11 (tr h12) (G.trans h13)
structure TX (w:World) (col:Nat→Nat) (s1:Sl) (xs:List Nat) (fc:FuncId) (Enc:(Nat→Nat)→(Nat→Nat)→List Nat→List Nat→Prop):Prop where
 hC:CompOK fc Enc (Enc≠EncT)
 hfn:hasFn Tryd.prog fc=true
 hE:EncLe Enc
 src:Arr .u8 w s1 xs
 by_:By xs
 far:∀a,s1.a=some a→xs ≠ []→¬own (col a.block)
 le:xs.length≤2^18
theorem TX.go {w':World} {col':Nat→Nat} (T:TX w col s1 xs fc Enc) (G:GoW w w' col col'):TX w' col' s1 xs fc Enc:=⟨T.hC,T.hfn,T.hE,G.arr T.src T.far,T.by_,G.far T.src T.far,T.le⟩
theorem rs_take {x25:Int} {so:Sl} {ol:List Nat} (hT:s.outT=⟨none,0,0⟩) (Q:HQ w g s col n cnt L ol) (k:KE w g s col xs Enc M0 ln0 L0 K3) (hr:s.reuse≠2) (hEn:Enc (vC ln0 L0 M0) ln0 xs ol) (hx:∀x∈xs,x<L0∧0<ln0 x) (hP:PTc w s.pt M0 ln0 L0) (ho:s.out=so) (hlt:ol.length<xs.length) :
  (nz (some ⟨g,0,none⟩) fun (p151:Addr)=>ld .S (Addr.add p151 256) fun (s152:Sl)=>nz (some ⟨g,0,none⟩) fun (p153:Addr)=>st (Addr.add p153 258) (.slice s152.a s152.l s152.c)<|nz (some ⟨g,0,none⟩) fun (p154:Addr)=>ld .S (Addr.add p154 256) fun (s155:Sl)=>K3 (s155,true,.nilIface)) w:=by
 refine ⟨_,rfl,?_⟩
 simp only [add_mk,Nat.zero_add]
 refine ld_b (t := .S) (x:=s.out) Q.blk rfl ⟨_,rfl,?_⟩
 simp only [add_mk,Nat.zero_add]
 refine st_u Q.blk rfl rfl ?_
 intro w1 B1 F1
 have B1':=B1.congr (HU.setT (s' := { s with outD:=s.out }) 2 rfl rfl rfl (by decide))
 refine ⟨_,rfl,?_⟩
 simp only [add_mk,Nat.zero_add]
 refine ld_b (t := .S) (x:=s.out) B1' rfl ?_
 have Q1:=Q.self F1 B1' rfl rfl rfl rfl rfl rfl rfl rfl rfl rfl rfl rfl
 exact k.r w1 { s with outD:=s.out } col s.out ol hr hEn hx hlt rfl Q1.oP Q1.hw (Q.ptG F1 hP) hT ⟨rfl,rfl,rfl⟩ (Q.mvG F1).go
theorem rs_end0 {s0:HU} {col0:Nat→Nat} {w0:World} (hT:s0.outT=⟨none,0,0⟩) (T:TX w0 col0 s1 xs fc Enc) (Q:HQ w0 g s0 col0 n cnt L []) (k:KE w0 g s0 col0 xs Enc M0 ln0 L0 K3) (hr:s0.reuse≠2) (hx:∀x∈xs,x<L0∧0<ln0 x) (hP:PTc w0 s0.pt M0 ln0 L0) (h2:2≤xs.length) :
  (nz (some ⟨g,0,none⟩) fun (p134:Addr)=>ld .S (Addr.add p134 271) fun (s135:Sl)=>nz (some ⟨g,0,none⟩) fun (p136:Addr)=>ld (.I .u8) (Addr.add p136 268) fun (n137:Int)=>nz (some ⟨g,0,none⟩) fun (p138:Addr)=>ld .S (Addr.add p138 270) fun (s139:Sl)=>nz (some ⟨g,0,none⟩) fun (p140:Addr)=>st (Addr.add p140 271) (.slice s139.a s139.l s139.c)<|nz (some ⟨g,0,none⟩) fun (p141:Addr)=>ld (.I .u8) (Addr.add p141 269) fun (n142:Int)=>nz (some ⟨g,0,none⟩) fun (p143:Addr)=>st (Addr.add p143 268) (.int .u8 n142)<|callV Tryd.prog (.func (.func fc) #[.pointer (some ⟨g,0,none⟩)] #[]) #[(.slice s1.a s1.l s1.c)] [.c .S,.c .V] fun (r144:Sl×Value)=>nz (some ⟨g,0,none⟩) fun (p145:Addr)=>st (Addr.add p145 256) (.slice r144.1.a r144.1.l r144.1.c)<|nz (some ⟨g,0,none⟩) fun (p146:Addr)=>st (Addr.add p146 271) (.slice s135.a s135.l s135.c)<|nz (some ⟨g,0,none⟩) fun (p147:Addr)=>st (Addr.add p147 268) (.int .u8 n137)<|req (isIf r144.2=true)<|cnd (!(isNil r144.2)) (K3 (⟨none,0,0⟩,false,r144.2)) (nz (some ⟨g,0,none⟩) fun (p148:Addr)=>ld .S (Addr.add p148 256) fun (s149:Sl)=>cnd (decide (((xs.length:Nat):Int)≤(s149.l:Int))) (drw<|ld .V ⟨0,0,none⟩ fun (v150:Value)=>K3 (⟨none,0,0⟩,false,v150)) (nz (some ⟨g,0,none⟩) fun (p151:Addr)=>ld .S (Addr.add p151 256) fun (s152:Sl)=>nz (some ⟨g,0,none⟩) fun (p153:Addr)=>st (Addr.add p153 258) (.slice s152.a s152.l s152.c)<|nz (some ⟨g,0,none⟩) fun (p154:Addr)=>ld .S (Addr.add p154 256) fun (s155:Sl)=>K3 (s155,true,.nilIface)))) w0:=by
 refine rs_step (K:=fun r144=>req (isIf r144.2=true)<|cnd (!(isNil r144.2)) (K3 (⟨none,0,0⟩,false,r144.2)) (nz (some ⟨g,0,none⟩) fun (p148:Addr)=>ld .S (Addr.add p148 256) fun (s149:Sl)=>cnd (decide (((xs.length:Nat):Int)≤(s149.l:Int))) (drw<|ld .V ⟨0,0,none⟩ fun (v150:Value)=>K3 (⟨none,0,0⟩,false,v150)) (nz (some ⟨g,0,none⟩) fun (p151:Addr)=>ld .S (Addr.add p151 256) fun (s152:Sl)=>nz (some ⟨g,0,none⟩) fun (p153:Addr)=>st (Addr.add p153 258) (.slice s152.a s152.l s152.c)<|nz (some ⟨g,0,none⟩) fun (p154:Addr)=>ld .S (Addr.add p154 256) fun (s155:Sl)=>K3 (s155,true,.nilIface)))) T.hC T.hfn Q hP hx T.src T.far h2 T.le (by simp) ?_ ?_
 ·intro _ w' s' col' v hv es Q' G' _ _
  subst es
  exact ⟨isPE.ifc hv.2,err_cnd (isPE.nil hv.2) (k.e w' _ col' v hv (fun h=>absurd h hr) Q'.hw hT ⟨rfl,rfl,rfl⟩ G')⟩
 ·intro w' s' col' so ol hEn es Q' G' hP' _
  subst es
  have hol:so.l=ol.length:=Q'.oP.len
  have k':=k.go (s' := { s0 with out:=so }) G' ⟨rfl,rfl,rfl⟩
  refine ⟨rfl,nil_cnd ⟨_,rfl,?_⟩⟩
  simp only [add_mk,Nat.zero_add]
  refine ld_b (t := .S) (x:=so) Q'.blk rfl (cnd_d (fun _ => ?_) (fun hlt => ?_))
  ·exact err_hw (by decide) Q'.hw (fun w2 v hv W2 G2=>k'.e w2 _ col' v hv (fun h=>absurd h hr) W2 hT ⟨rfl,rfl,rfl⟩ G2)
  ·exact rs_take (s := { s0 with out:=so }) (x25:=0) (so:=so) (ol:=ol) hT Q' k' hr hEn hx hP' rfl (by omega)
theorem j88_J7 {M:Nat} {ln:Nat→Nat} {x19:Int×Bool} (hcn:CntOK xs) (hp2:s.reuse=2→pre = []) (hT:s.outT=⟨none,0,0⟩) (T:TX w col s1 xs fc Enc) (Q:HQ w g s col n (fun i=>xs.count i) L pre) (k:KE w g s col xs Enc M0 ln0 L0 K3) (hr3:s.reuse≠3) (hLR:∀t:Nat,s.tl=(t:Nat)→LenR (fun i=>xs.count i) L xs.length t M ln) (hN:NT xs M ln L) (hP:PTc w s.ct M ln L) (hat:s.atl=(M:Nat)) (h2:2≤xs.length) (hpre:pre = []∨(s.reuse≠0∧xs.length≤pre.length∧pre.length≤2^19))
  (hb:s.reuse=0→x19.2=true→(∀x∈xs,x<L0∧0<ln0 x)∧PTc w s.pt M0 ln0 L0) :
  q88_J7 s1 (some ⟨g,0,none⟩) (.func (.func fc) #[.pointer (some ⟨g,0,none⟩)] #[]) K3 x19 (xs.length:Nat) () w:=by
 have hx:∀x∈xs,x<L∧0<ln x:=by
  intro x hx
  have h1:0<xs.count x:=List.count_pos_iff.mpr hx
  have h3:x<L:=Classical.byContradiction fun h=>by have:=hN.out x (by omega);omega
  exact ⟨h3,(hN.h.pos x h3).mpr h1⟩
 have fin:∀w',Fm w w' []→q88_J5 s1 (some ⟨g,0,none⟩) (.func (.func fc) #[.pointer (some ⟨g,0,none⟩)] #[]) K3 (xs.length:Nat) () w':=by
  intro w' F'
  have Q':=Q.em F'
  have G':=Q.goE F'
  have T':=T.go G'
  have k':=k.go (s':=s) G' (SK.refl s)
  refine j88_J5 T'.hC T'.hfn T'.hE Q' (hP.mv F' (by simp)) hat hN.l2 hx T'.src T'.far h2 T'.le (hpre.imp id (fun h=>h.2)) (fun w2 s2 col2 v h1 hW h2 h3 h4 h5=>k'.e w2 s2 col2 v h1 (fun h t ht => .inr ⟨M,ln,L,hN,hLR t ht,hW (hp2 h)⟩) h2 h3 h4 h5) ?_
  intro w2 s2 col2 so tbl ol hTL h1 h2 h3 h4 h5 h6 h7 h8 hc h9 h10 h11 h12
  exact k'.t w2 s2 col2 so M ln L tbl ol hr3 hcn hTL hLR hN h1 h2 h3 h4 h5 h6 h7 h8 hc h9 h10 h11 h12
 unfold q88_J7
 refine joinP_id ?_
 unfold q88_X6
 refine ⟨_,rfl,?_⟩
 simp only [add_mk,Nat.zero_add]
 refine ld_b (t := .I .u8) (x:=s.reuse) Q.blk rfl (cnd_d (fun hr0 => ?_) (fun _=>fin w (Fm.refl _ _)))
 refine ⟨fun hbt => ?_,fun _=>fin w (Fm.refl _ _)⟩
 obtain ⟨hx0,hP0⟩:=hb hr0 hbt
 have hpn:pre = []:=hpre.elim id (fun h=>absurd hr0 h.1)
 subst hpn
 have hr2:s.reuse≠2:=by rw [hr0];decide
 obtain ⟨qb,pc,e0,_⟩:=hP0.tb
 obtain ⟨tb,pc1,e1,_⟩:=hP.tb
 have hLL:L≤L0:=by
  have h1:=hN.last
  have h3:=hx0 (L-1) (List.count_pos_iff.mp h1)
  have:=hN.l2
  omega
 have hl1:=Q.sc.l1
 have hl256:=Q.sc.l256
 have hsyat:s.at 265=some (.int .u16 ((L:Nat):Int)):=by show some (Value.int .u16 s.symL)=_;rw [Q.sc.sym]
 refine ⟨_,rfl,?_⟩
 simp only [add_mk,Nat.zero_add]
 refine ld_b (t := .S) (x:=s.out) Q.blk rfl ?_
 have Fd:Fm w w.drew []:=(Fm.refl w []).drew
 unfold drw
 refine ⟨_,rfl,?_⟩
 simp only [add_mk,Nat.zero_add]
 refine ld_b (t := .S) (x:=s.pt) Q.blk.drew rfl ?_
 rw [e0]
 refine ⟨_,rfl,⟨_,rfl,?_⟩⟩
 simp only [add_mk,Nat.zero_add]
 refine ld_b (t := .I .u16) (x:=((L:Nat):Int)) Q.blk.drew hsyat ?_
 refine slcA_hi rfl (by omega) (by omega) ?_
 refine c119q (Q.em Fd) (hP0.mv Fd (by simp)) e0 hLL ?_
 intro w1 r1 F1
 have F1d:Fm w w1.drew []:=(Fd.trans F1 (by simp)).drew
 have Q1:=Q.em F1d
 refine ⟨_,rfl,?_⟩
 simp only [add_mk,Nat.zero_add]
 refine ld_b (t := .S) (x:=s.ct) Q1.blk rfl ?_
 rw [e1]
 refine ⟨_,rfl,⟨_,rfl,?_⟩⟩
 simp only [add_mk,Nat.zero_add]
 refine ld_b (t := .I .u16) (x:=((L:Nat):Int)) Q1.blk hsyat ?_
 refine slcA_hi rfl (by omega) (by omega) ?_
 refine c119q Q1 (hP.mv F1d (by simp)) e1 (Nat.le_refl _) ?_
 intro w2 r2 F2
 have F02:Fm w w2 []:=F1d.trans F2 (by simp)
 have Q2:=Q.em F02
 have G2:=Q.goE F02
 have k2:=k.go (s':=s) G2 (SK.refl s)
 have take:=rs_end0 hT (T.go G2) Q2 k2 hr2 hx0 (hP0.mv F02 (by simp)) h2
 refine cnd_d (fun _=>take) (fun _=>cnd_d (fun _=>take) (fun _=>fin w2 F02))
theorem j88_J8 {x19:Int×Bool} (hcn:CntOK xs) (hp2:s.reuse=2→pre = []) (hr3:s.reuse≠3) (hT:s.outT=⟨none,0,0⟩) (T:TX w col s1 xs fc Enc) (Q:HQ w g s col xs.length (fun i=>xs.count i) L pre) (k:KE w g s col xs Enc M0 ln0 L0 K3) (hl:2≤L∧(∀i,L≤i→xs.count i=0)∧0<xs.count (L-1)∧∃a,a<L-1∧0<xs.count a) (h2:2≤xs.length) (hpre:pre = []∨(s.reuse≠0∧xs.length≤pre.length∧pre.length≤2^19))
  (hb:s.reuse=0→x19.2=true→(∀x∈xs,x<L0∧0<ln0 x)∧PTc w s.pt M0 ln0 L0) :
  q88_J8 s1 (some ⟨g,0,none⟩) (.func (.func fc) #[.pointer (some ⟨g,0,none⟩)] #[]) K3 x19 (xs.length:Nat) () w:=by
 obtain ⟨hL2,hout,hlast,a,ha,ha2⟩:=hl
 have hle:=T.le
 have hsum:=sF_count L xs
 unfold q88_J8
 refine c91q Q (by omega) ⟨a,L-1,by omega,by omega,by omega,ha2,hlast⟩ hsum (by omega) ?_
 intro w' s' col' M ln HTc hLR Q' hP hat hpt hpts hK ho hr hoT G
 refine ⟨rfl,nil_cnd ?_⟩
 refine joinP_id ?_
 refine j88_J7 (M:=M) (ln:=ln) hcn (fun h=>hp2 (hr.symm.trans h)) (hoT.trans hT) (T.go G) Q' (k.go G hK) (by rw [hr];exact hr3) (fun t ht=>hLR t (hK.tl.symm.trans ht)) ⟨HTc,hL2,Q.sc.l256,hout,hlast,a,ha,ha2⟩ hP hat h2 (hpre.imp id (fun h=>⟨by rw [hr];exact h.1,h.2⟩)) ?_
 intro h1 h3
 obtain ⟨h4,h5⟩:=hb (hr▸h1) h3
 exact ⟨h4,hpts _ _ _ h5⟩
end
section
variable {w:World} {g n L M0 L0:Nat} {s:HU} {s1:Sl} {xs pre:List Nat} {col:Nat→Nat} {cnt ln0:Nat→Nat} {fc:FuncId} {Enc:(Nat→Nat)→(Nat→Nat)→List Nat→List Nat→Prop} {K3:Sl×Bool×Value→PT}
theorem HQ.pt0 {w':World} (Q:HQ w g s col n cnt L pre) (F:Fm w w' [g]) (B:Blk w' g ({ s with pt:=⟨s.pt.a,0,s.pt.c⟩ } : HU).at):HQ w' g { s with pt:=⟨s.pt.a,0,s.pt.c⟩ } col n cnt L pre:=by
 have n9:∀v ∈ [g],9≤v:=by intro v hv;simp at hv;subst hv;exact Q.g9
 have pb:=Q.pt.mv F (Q.keepG (by decide))
 refine ⟨⟨B,Q.cg,Q.low,Q.out.mv F (Q.keepG (by decide)),.inr (Q.nodP.mv F (Q.keepG (by decide))),Q.ct.mv F (Q.keepG (by decide)),⟨?_,pb.co⟩,.inl rfl,.inr (Q.fseP.mv F (Q.keepG (by decide))),Q.gl.fm F n9,fun i hi=>(Q.er i hi).fm F (fun h=>by have:=n9 i h;omega),Q.mx,.inl Q.ccT⟩,Q.oP.fr F (fun b hb=>(Q.keepG (r:=2) (by decide)).out (Q.out2 b hb) (Q.oP.lt b hb)),Q.nodP.mv F (Q.keepG (by decide)),Q.fseP.mv F (Q.keepG (by decide)),Q.srcN,Q.tlP,⟨Q.sc.sym,Q.sc.l1,Q.sc.l256,Q.sc.cn,Q.sc.lt⟩,Q.ccT,Q.wl⟩
 obtain ⟨h1,h2,h3⟩:=pb.own
 exact ⟨Nat.zero_le _,h2,h3⟩
theorem HW.pt0 {w':World} (Q:HW w g s col) (F:Fm w w' [g]) (B:Blk w' g ({ s with pt:=⟨s.pt.a,0,s.pt.c⟩ } : HU).at):HW w' g { s with pt:=⟨s.pt.a,0,s.pt.c⟩ } col:=by
 have n9:∀v ∈ [g],9≤v:=by intro v hv;simp at hv;subst hv;exact Q.g9
 have pb:=Q.pt.mv F (Q.keepG (by decide))
 refine ⟨B,Q.cg,Q.low,Q.out.mv F (Q.keepG (by decide)),Q.nod.imp id (fun h=>h.mv F (Q.keepG (by decide))),Q.ct.mv F (Q.keepG (by decide)),⟨?_,pb.co⟩,.inl rfl,Q.fse.imp id (fun h=>h.mv F (Q.keepG (by decide))),Q.gl.fm F n9,fun i hi=>(Q.er i hi).fm F (fun h=>by have:=n9 i h;omega),Q.mx,Q.cz⟩
 obtain ⟨h1,h2,h3⟩:=pb.own
 exact ⟨Nat.zero_le _,h2,h3⟩
theorem rs_fall {R:Unit→PT} (hT:s.outT=⟨none,0,0⟩) (Q:HQ w g s col n cnt L pre) (k:KE w g s col xs Enc M0 ln0 L0 K3) (hk:s.reuse≠3→∀w' s' col',s'.outT=⟨none,0,0⟩→HQ w' g s' col' n cnt L pre→SK s s'→GoW w w' col col'→R () w') :
  (nz (some ⟨g,0,none⟩) fun (p272:Addr)=>ld (.I .u8) (Addr.add p272 263) fun (n273:Int)=>cnd (decide (n273=(3:Int))) (drw<|ld .V ⟨0,0,none⟩ fun (v274:Value)=>K3 (⟨none,0,0⟩,false,v274)) (nz (some ⟨g,0,none⟩) fun (p275:Addr)=>ld .S (Addr.add p275 270) fun (s276:Sl)=>slc 2 s276 none (some (0:Int)) none fun (s277:Sl)=>nz (some ⟨g,0,none⟩) fun (p278:Addr)=>st (Addr.add p278 270) (.slice s277.a s277.l s277.c)<|R ())) w:=by
 refine ⟨_,rfl,?_⟩
 simp only [add_mk,Nat.zero_add]
 refine ld_b (t := .I .u8) (x:=s.reuse) Q.blk rfl (cnd_d (fun h3 => ?_) (fun h3=>⟨_,rfl,?_⟩))
 ·exact err_hw (by decide) Q.hw (fun w2 v hv W2 G2=>k.e w2 _ col v hv (fun h=>absurd (h3.symm.trans h) (by decide)) W2 hT (SK.refl s) G2)
 ·simp only [add_mk,Nat.zero_add]
  refine ld_b (t := .S) (x:=s.pt) Q.blk rfl ?_
  refine slc_hi (m:=0) rfl (Nat.zero_le _) ⟨_,rfl,?_⟩
  simp only [add_mk,Nat.zero_add]
  refine st_u Q.blk rfl rfl ?_
  intro w1 B1 F1
  have B1':=B1.congr (HU.setT (s' := { s with pt:=⟨s.pt.a,0,s.pt.c⟩ }) 14 rfl rfl rfl (by decide))
  exact hk h3 w1 { s with pt:=⟨s.pt.a,0,s.pt.c⟩ } col hT (Q.pt0 F1 B1') ⟨rfl,rfl,rfl⟩ (Q.mvG F1).go
theorem rs_end1 {R:Unit→PT} (hT:s.outT=⟨none,0,0⟩) (T:TX w col s1 xs fc Enc) (Q:HQ w g s col n cnt L []) (k:KE w g s col xs Enc M0 ln0 L0 K3) (hr:s.reuse≠2) (hx:∀x∈xs,x<L0∧0<ln0 x) (hP:PTc w s.pt M0 ln0 L0) (h2:2≤xs.length)
  (hk:s.reuse≠3→∀w' s' col' pre,s'.outT=⟨none,0,0⟩→(pre = []∨(xs.length≤pre.length∧pre.length≤2^19))→HQ w' g s' col' n cnt L pre→SK s s'→GoW w w' col col'→R () w') :
  (nz (some ⟨g,0,none⟩) fun (p214:Addr)=>ld .S (Addr.add p214 271) fun (s215:Sl)=>nz (some ⟨g,0,none⟩) fun (p216:Addr)=>ld (.I .u8) (Addr.add p216 268) fun (n217:Int)=>nz (some ⟨g,0,none⟩) fun (p218:Addr)=>ld .S (Addr.add p218 270) fun (s219:Sl)=>nz (some ⟨g,0,none⟩) fun (p220:Addr)=>st (Addr.add p220 271) (.slice s219.a s219.l s219.c)<|nz (some ⟨g,0,none⟩) fun (p221:Addr)=>ld (.I .u8) (Addr.add p221 269) fun (n222:Int)=>nz (some ⟨g,0,none⟩) fun (p223:Addr)=>st (Addr.add p223 268) (.int .u8 n222)<|callV Tryd.prog (.func (.func fc) #[.pointer (some ⟨g,0,none⟩)] #[]) #[(.slice s1.a s1.l s1.c)] [.c .S,.c .V] fun (r224:Sl×Value)=>nz (some ⟨g,0,none⟩) fun (p225:Addr)=>st (Addr.add p225 256) (.slice r224.1.a r224.1.l r224.1.c)<|nz (some ⟨g,0,none⟩) fun (p226:Addr)=>st (Addr.add p226 271) (.slice s215.a s215.l s215.c)<|nz (some ⟨g,0,none⟩) fun (p227:Addr)=>st (Addr.add p227 268) (.int .u8 n217)<|req (isIf r224.2=true)<|cnd (isNil r224.2) (nz (some ⟨g,0,none⟩) fun (p228:Addr)=>ld .S (Addr.add p228 256) fun (s229:Sl)=>cnd (decide ((s229.l:Int)<((xs.length:Nat):Int))) (nz (some ⟨g,0,none⟩) fun (p230:Addr)=>ld .S (Addr.add p230 256) fun (s231:Sl)=>nz (some ⟨g,0,none⟩) fun (p232:Addr)=>st (Addr.add p232 258) (.slice s231.a s231.l s231.c)<|nz (some ⟨g,0,none⟩) fun (p233:Addr)=>ld .S (Addr.add p233 256) fun (s234:Sl)=>K3 (s234,true,.nilIface)) (nz (some ⟨g,0,none⟩) fun (p235:Addr)=>ld (.I .u8) (Addr.add p235 263) fun (n236:Int)=>cnd (decide (n236=(3:Int))) (drw<|ld .V ⟨0,0,none⟩ fun (v237:Value)=>K3 (⟨none,0,0⟩,false,v237)) (nz (some ⟨g,0,none⟩) fun (p238:Addr)=>ld .S (Addr.add p238 270) fun (s239:Sl)=>slc 2 s239 none (some (0:Int)) none fun (s240:Sl)=>nz (some ⟨g,0,none⟩) fun (p241:Addr)=>st (Addr.add p241 270) (.slice s240.a s240.l s240.c)<|R ()))) (nz (some ⟨g,0,none⟩) fun (p242:Addr)=>ld (.I .u8) (Addr.add p242 263) fun (n243:Int)=>cnd (decide (n243=(3:Int))) (drw<|ld .V ⟨0,0,none⟩ fun (v244:Value)=>K3 (⟨none,0,0⟩,false,v244)) (nz (some ⟨g,0,none⟩) fun (p245:Addr)=>ld .S (Addr.add p245 270) fun (s246:Sl)=>slc 2 s246 none (some (0:Int)) none fun (s247:Sl)=>nz (some ⟨g,0,none⟩) fun (p248:Addr)=>st (Addr.add p248 270) (.slice s247.a s247.l s247.c)<|R ()))) w:=by
 refine rs_step (K:=fun r224=>req (isIf r224.2=true)<|cnd (isNil r224.2) (nz (some ⟨g,0,none⟩) fun (p228:Addr)=>ld .S (Addr.add p228 256) fun (s229:Sl)=>cnd (decide ((s229.l:Int)<((xs.length:Nat):Int))) (nz (some ⟨g,0,none⟩) fun (p230:Addr)=>ld .S (Addr.add p230 256) fun (s231:Sl)=>nz (some ⟨g,0,none⟩) fun (p232:Addr)=>st (Addr.add p232 258) (.slice s231.a s231.l s231.c)<|nz (some ⟨g,0,none⟩) fun (p233:Addr)=>ld .S (Addr.add p233 256) fun (s234:Sl)=>K3 (s234,true,.nilIface)) (nz (some ⟨g,0,none⟩) fun (p235:Addr)=>ld (.I .u8) (Addr.add p235 263) fun (n236:Int)=>cnd (decide (n236=(3:Int))) (drw<|ld .V ⟨0,0,none⟩ fun (v237:Value)=>K3 (⟨none,0,0⟩,false,v237)) (nz (some ⟨g,0,none⟩) fun (p238:Addr)=>ld .S (Addr.add p238 270) fun (s239:Sl)=>slc 2 s239 none (some (0:Int)) none fun (s240:Sl)=>nz (some ⟨g,0,none⟩) fun (p241:Addr)=>st (Addr.add p241 270) (.slice s240.a s240.l s240.c)<|R ()))) (nz (some ⟨g,0,none⟩) fun (p242:Addr)=>ld (.I .u8) (Addr.add p242 263) fun (n243:Int)=>cnd (decide (n243=(3:Int))) (drw<|ld .V ⟨0,0,none⟩ fun (v244:Value)=>K3 (⟨none,0,0⟩,false,v244)) (nz (some ⟨g,0,none⟩) fun (p245:Addr)=>ld .S (Addr.add p245 270) fun (s246:Sl)=>slc 2 s246 none (some (0:Int)) none fun (s247:Sl)=>nz (some ⟨g,0,none⟩) fun (p248:Addr)=>st (Addr.add p248 270) (.slice s247.a s247.l s247.c)<|R ()))) T.hC T.hfn Q hP hx T.src T.far h2 T.le (by simp) ?_ ?_
 ·intro _ w' s' col' v hv es Q' G' _ _
  subst es
  refine ⟨isPE.ifc hv.2,⟨fun h=>(by rw [isPE.nil hv.2] at h;cases h),fun _ => ?_⟩⟩
  refine rs_fall (s := { s with out:=⟨none,0,0⟩ }) hT Q' (k.go G' ⟨rfl,rfl,rfl⟩) ?_
  intro h3 w2 s2 col2 hT2 Q2 S2 G2
  exact hk h3 w2 s2 col2 [] hT2 (.inl rfl) Q2 ⟨S2.reuse,S2.wll,S2.tl⟩ (G'.trans G2)
 ·intro w' s' col' so ol hEn es Q' G' hP' _
  subst es
  have hol:so.l=ol.length:=Q'.oP.len
  have k':=k.go (s' := { s with out:=so }) G' ⟨rfl,rfl,rfl⟩
  refine ⟨rfl,⟨fun _=>⟨_,rfl,?_⟩,fun h=>by cases h⟩⟩
  simp only [add_mk,Nat.zero_add]
  refine ld_b (t := .S) (x:=so) Q'.blk rfl (cnd_d (fun hlt => ?_) (fun hge => ?_))
  ·exact rs_take (s := { s with out:=so }) (so:=so) (x25:=0) (ol:=ol) hT Q' k' hr hEn hx hP' rfl (by omega)
  ·refine rs_fall (s := { s with out:=so }) hT Q' k' ?_
   intro h3 w2 s2 col2 hT2 Q2 S2 G2
   refine hk h3 w2 s2 col2 ol hT2 (.inr ⟨by omega,?_⟩) Q2 ⟨S2.reuse,S2.wll,S2.tl⟩ (G'.trans G2)
   refine T.hE _ _ _ _ hEn ?_ T.le
   intro x hx'
   obtain ⟨_,_,_,cnt',_,_,_,_,HTc,_⟩:=hP
   have h1:=HTc.le x (hx x hx').1
   have h2:=HTc.m11
   omega
theorem j88_X9 {x19:Int×Bool} (hcn:CntOK xs) (hX3:s.reuse=3→x19.2=true) (hT:s.outT=⟨none,0,0⟩) (T:TX w col s1 xs fc Enc) (Q:HQ w g s col xs.length (fun i=>xs.count i) L []) (k:KE w g s col xs Enc M0 ln0 L0 K3) (hl:2≤L∧(∀i,L≤i→xs.count i=0)∧0<xs.count (L-1)∧∃a,a<L-1∧0<xs.count a) (h2:2≤xs.length)
  (hb:x19.2=true→s.reuse≠2∧(∀x∈xs,x<L0∧0<ln0 x)∧PTc w s.pt M0 ln0 L0) :
  q88_X9 s1 (some ⟨g,0,none⟩) (.func (.func fc) #[.pointer (some ⟨g,0,none⟩)] #[]) K3 x19 (xs.length:Nat) (q88_J8 s1 (some ⟨g,0,none⟩) (.func (.func fc) #[.pointer (some ⟨g,0,none⟩)] #[]) K3 x19 (xs.length:Nat)) w:=by
 have plain:s.reuse≠3→q88_J8 s1 (some ⟨g,0,none⟩) (.func (.func fc) #[.pointer (some ⟨g,0,none⟩)] #[]) K3 x19 (xs.length:Nat) () w:=fun hr3=>j88_J8 hcn (fun _=>rfl) hr3 hT T Q k hl h2 (.inl rfl) (fun _ h=>(hb h).2)
 have again:s.reuse≠0→s.reuse≠2→s.reuse≠3→∀w' s' col' pre,s'.outT=⟨none,0,0⟩→(pre = []∨(xs.length≤pre.length∧pre.length≤2^19))→HQ w' g s' col' xs.length (fun i=>xs.count i) L pre→SK s s'→GoW w w' col col'→q88_J8 s1 (some ⟨g,0,none⟩) (.func (.func fc) #[.pointer (some ⟨g,0,none⟩)] #[]) K3 x19 (xs.length:Nat) () w':=by
  intro h0 h02 hr3 w' s' col' pre hT' hpre Q' S' G'
  exact j88_J8 hcn (fun h=>absurd (S'.reuse.symm.trans h) h02) (by rw [S'.reuse];exact hr3) hT' (T.go G') Q' (k.go G' S') hl h2 (hpre.imp id (fun h=>⟨by rw [S'.reuse];exact h0,h.1,h.2⟩)) (fun h _=>absurd (S'.reuse▸h) h0)
 unfold q88_X9
 refine ⟨_,rfl,?_⟩
 simp only [add_mk,Nat.zero_add]
 refine ld_b (t := .I .u8) (x:=s.reuse) Q.blk rfl (cnd_d (fun h1=>⟨fun hbt => ?_,fun _=>plain (by rw [h1];decide)⟩) (fun _=>⟨_,rfl,?_⟩))
 ·obtain ⟨hr,hx,hP⟩:=hb hbt
  exact rs_end1 hT T Q k hr hx hP h2 (again (by rw [h1];decide) (by rw [h1];decide))
 ·simp only [add_mk,Nat.zero_add]
  refine ld_b (t := .I .u8) (x:=s.reuse) Q.blk rfl (cnd_d (fun h3=>⟨fun hbt => ?_,fun hbf=>absurd (hX3 h3) (by rw [hbf];decide)⟩) (fun h3=>plain h3))
  obtain ⟨hr,hx,hP⟩:=hb hbt
  exact rs_end1 hT T Q k hr hx hP h2 (again (by rw [h3];decide) (by rw [h3];decide))
theorem c88 (T:TX w col s1 xs fc Enc) (W:HP w g s col xs.length) (hp:s.pt.l=0∨PTc w s.pt M0 ln0 L0) (hwl:s.wll=0) (k:KE w g s col xs Enc M0 ln0 L0 K3) :
  callP Tryd.prog 88 #[.slice s1.a s1.l s1.c,.pointer (some ⟨g,0,none⟩),.func (.func fc) #[.pointer (some ⟨g,0,none⟩)] #[]] [.c .S,.c .B,.c .V] K3 w:=by
 apply q88_ok
 unfold q88
 refine joinP_id ?_
 have body:∀(w1:World) (sA:HU),HP w1 g sA col xs.length→SK s sA→GoW w w1 col col→(sA.pt.l=0∨(s.reuse≠2∧PTc w1 sA.pt M0 ln0 L0))→q88_J12 s1 (some ⟨g,0,none⟩) (.func (.func fc) #[.pointer (some ⟨g,0,none⟩)] #[]) K3 () w1:=by
  intro w1 sA W1 S1 G1 hp1
  have T1:=T.go G1
  have k1:=k.go G1 S1
  have hsl:=T1.src.len
  have hle:=T1.le
  unfold q88_J12
  refine ⟨_,rfl,?_⟩
  simp only [add_mk,Nat.zero_add]
  refine ld_b (t := .I .i64) (x:=sA.maxC) W1.blk rfl ?_
  refine joinP_id ?_
  refine cnd_d (fun _ => ?_) (fun h=>absurd W1.mx h)
  have go:∀(w2:World) (sB:HU) (m:Nat) (b:Bool),Fm w1 w2 [g]→Blk w2 g sB.at→sB.wll=0 →
    (∀w3,Fm w1 w3 [g]→Blk w3 g ({ sB with cc:=true,maxC:=0 } : HU).at→(cnd (decide (((s1.l:Nat):Int)≤((m:Nat):Int))) (cnd (decide (((s1.l:Nat):Int)<((m:Nat):Int))) (callP Tryd.prog 62 #[(.string ⟨#[109,97,120,67,111,117,110,116,32,62,32,108,101,110,103,116,104]⟩)] [.c .V] fun (r28:Value)=>K3 (⟨none,0,0⟩,false,r28)) (cnd (decide (((s1.l:Nat):Int)=(1:Int))) (drw<|ld .V ⟨0,0,none⟩ fun (v29:Value)=>K3 (⟨none,0,0⟩,false,v29)) (drw<|ld .V ⟨1,0,none⟩ fun (v30:Value)=>K3 (⟨none,0,0⟩,false,v30)))) (cnd (decide (((m:Nat):Int)=(1:Int))) (drw<|ld .V ⟨0,0,none⟩ fun (v31:Value)=>K3 (⟨none,0,0⟩,false,v31)) (req (0≤(7:Int))<|cnd (decide (((m:Nat):Int)<(shrI .i64 ((s1.l:Nat):Int) (7:Int)))) (drw<|ld .V ⟨0,0,none⟩ fun (v32:Value)=>K3 (⟨none,0,0⟩,false,v32)) (nz (some ⟨g,0,none⟩) fun (p33:Addr)=>ld (.I .u8) (Addr.add p33 263) fun (n34:Int)=>cnd (decide (n34=(3:Int))) (cnd (!b) (drw<|ld .V ⟨0,0,none⟩ fun (v35:Value)=>K3 (⟨none,0,0⟩,false,v35)) (joinP (q88_X4 s1 (some ⟨g,0,none⟩) (.func (.func fc) #[.pointer (some ⟨g,0,none⟩)] #[]) K3 (((m:Nat):Int),b) ((s1.l:Nat):Int)) (q88_J3 s1 (some ⟨g,0,none⟩) (.func (.func fc) #[.pointer (some ⟨g,0,none⟩)] #[]) K3 (((m:Nat):Int),b) ((s1.l:Nat):Int)))) (joinP (q88_X9 s1 (some ⟨g,0,none⟩) (.func (.func fc) #[.pointer (some ⟨g,0,none⟩)] #[]) K3 (((m:Nat):Int),b) ((s1.l:Nat):Int)) (q88_J8 s1 (some ⟨g,0,none⟩) (.func (.func fc) #[.pointer (some ⟨g,0,none⟩)] #[]) K3 (((m:Nat):Int),b) ((s1.l:Nat):Int))))))) w3) →
    q88_J11 s1 (some ⟨g,0,none⟩) (.func (.func fc) #[.pointer (some ⟨g,0,none⟩)] #[]) K3 (((m:Nat):Int),b) w2:=by
   intro w2 sB m b F2 B2 hwlB h
   unfold q88_J11
   refine joinP_id ⟨_,rfl,?_⟩
   simp only [add_mk,Nat.zero_add]
   refine ld_b (t := .I .u8) (x:=sB.wll) B2 rfl (cnd_d (fun h0=>absurd h0 (by rw [hwlB];decide)) (fun _ => ?_))
   unfold q88_J10
   refine ⟨_,rfl,?_⟩
   simp only [add_mk,Nat.zero_add]
   refine st_u B2 rfl rfl ?_
   intro w3 B3 F3
   have B3':=B3.congr (HU.setT (s' := { sB with cc:=true }) 11 rfl rfl rfl (by decide))
   refine ⟨_,rfl,?_⟩
   simp only [add_mk,Nat.zero_add]
   refine st_u B3' rfl rfl ?_
   intro w4 B4 F4
   have B4':=B4.congr (HU.setT (s' := { sB with cc:=true,maxC:=0 }) 10 rfl rfl rfl (by decide))
   exact h w4 ((F2.trans F3 (fun x hx => .inl hx)).trans F4 (fun x hx => .inl hx)) B4'
  have hown:∀v ∈ [g],v<w1.heap.size→own (col v):=by intro v hv _;simp at hv;subst hv;rw [W1.cg];exact ⟨by decide,by decide⟩
  refine c117p W1.toHW W1.cnt0 T1.src T1.by_ (by omega) T1.far ?_ ?_
  ·-- no bytes
   intro hxe w2 c' b B2 F2
   refine go w2 _ 0 b F2 B2 (S1.wll.trans hwl) ?_
   intro w3 F3 B3
   have h0:s1.l=0:=by rw [hsl,hxe];rfl
   rw [h0]
   have W3:=W1.toHW.same (s' := { sA with count:=c',cc:=true,maxC:=0 }) B3 F3 rfl rfl rfl rfl rfl rfl (.inl rfl)
   have k3:=k1.go (s' := { sA with count:=c',cc:=true,maxC:=0 }) (GoW.of F3 hown (fun _ _=>rfl)) ⟨rfl,rfl,rfl⟩
   refine cnd_d (fun _=>cnd_d (fun h=>absurd h (by decide)) (fun _=>cnd_d (fun h=>absurd h (by decide)) (fun _ => ?_))) (fun h=>absurd h (by decide))
   exact err_hw (by decide) W3 (fun w4 v hv W4 G4=>k3.e w4 _ col v hv (fun _ _ _ => .inl (fun h=>h.ne hxe)) W4 W1.oT0 (SK.refl _) G4)
  ·intro w2 c' b m Lx hxe hM hbt hbf hc B2 F2
   refine go w2 _ m b F2 B2 (S1.wll.trans hwl) ?_
   intro w3 F3 B3
   have W3:=W1.toHW.same (s' := { sA with count:=c',symL:=(Lx:Nat),cc:=true,maxC:=0 }) B3 F3 rfl rfl rfl rfl rfl rfl (.inl rfl)
   have G3:GoW w1 w3 col col:=GoW.of F3 hown (fun _ _=>rfl)
   have T3:=T1.go G3
   have k3:=k1.go (s' := { sA with count:=c',symL:=(Lx:Nat),cc:=true,maxC:=0 }) G3 ⟨rfl,rfl,rfl⟩
   have er:∀i,i<3→(sA.reuse=2→¬CntOK xs)→(drw<|ld .V ⟨i,0,none⟩ fun (v31:Value)=>K3 (⟨none,0,0⟩,false,v31)) w3:=fun i hi hno=>err_hw hi W3 (fun w4 v hv W4 G4=>k3.e w4 _ col v hv (fun h _ _ => .inl (hno h)) W4 W1.oT0 (SK.refl _) G4)
   have eshr:shrI .i64 ((xs.length:Nat):Int) (7:Int)=((xs.length/128:Nat):Int):=by
    rw [show (7:Int)=((7:Nat):Int) from rfl,shrI_nat _ _ _ (by simp only [IntKind.bits];omega)]
   rw [hsl,eshr]
   obtain ⟨ix,_,hix⟩:=hM.ex
   have hix:xs.count ix=m:=hix
   have hmle:xs.count ix≤xs.length:=List.count_le_length
   refine cnd_d (fun hge=>cnd_d (fun h=>by omega) (fun _=>cnd_d (fun _=>er 0 (by decide) (fun _ h=>by have:=(h.at hM).1;omega)) (fun _=>er 1 (by decide) (fun _ h=>by have:=(h.at hM).1;omega)))) (fun hlt => ?_)
   have hm:m<xs.length:=by omega
   have hmp:=hM.pos
   refine cnd_d (fun hm1=>er 0 (by decide) (fun _ h=>by have:=(h.at hM).2.1;omega)) (fun hm1=>⟨by decide,cnd_d (fun hm7=>er 0 (by decide) (fun _ h=>by have:=(h.at hM).2.2;omega)) (fun hm7=>⟨_,rfl,?_⟩)⟩)
   have hcn:CntOK xs:=⟨m,Lx,hM,hm,by omega,by omega⟩
   have hl:=mx_two hM T1.by_ hm
   have h2:2≤xs.length:=by omega
   have Q3:HQ w3 g ({ sA with count:=c',symL:=(Lx:Nat),cc:=true,maxC:=0 } : HU) col xs.length (fun i=>xs.count i) Lx []:=by
    refine ⟨W3,W1.o0.fr F3 (fun b hb=>(W1.toHW.keepG (r:=2) (by decide)).out (W1.out.co b hb) (W1.o0.lt b hb)),W1.nodP.mv F3 (W1.toHW.keepG (by decide)),W1.fseP.mv F3 (W1.toHW.keepG (by decide)),W1.srcN,W1.tlP,⟨rfl,hM.l1,hM.l256,fun i hi=>hc i (by have:=hM.l256;omega),fun i hi => ?_⟩,rfl,S1.wll.trans hwl⟩
    have h1:xs.count i≤m:=hM.le i (by have:=hM.l256;omega)
    show xs.count i<2^18
    omega
   have hP3:∀M1 ln1 L1,PTc w1 sA.pt M1 ln1 L1→PTc w3 sA.pt M1 ln1 L1:=fun M1 ln1 L1 h=>h.mv F3 (fun v hv=>(W1.toHW.keepG (r:=5) (by decide)).out (W1.pt.co v hv) (W1.pt.own.lt v hv))
   have hb3:b=true→s.reuse≠2∧(∀x∈xs,x<L0∧0<ln0 x)∧PTc w3 sA.pt M0 ln0 L0:=by
    intro hb
    obtain ⟨h1,h3⟩:=hbt hb
    rcases hp1 with h4|⟨h4,h5⟩
    ·omega
    ·exact ⟨h4,h3 _ _ _ h5,hP3 _ _ _ h5⟩
   have hX:=fun (hX3:sA.reuse=3→b=true)=>j88_X9 (s := { sA with count:=c',symL:=((Lx:Nat):Int),cc:=true,maxC:=0 }) (x19:=(((m:Nat):Int),b)) hcn hX3 W1.oT0 T3 Q3 k3 hl h2 (fun hb=>by
    obtain ⟨h1,h3,h4⟩:=hb3 hb
    exact ⟨fun e=>h1 (S1.reuse▸e),h3,h4⟩)
   simp only [add_mk,Nat.zero_add]
   refine ld_b (t := .I .u8) (x:=sA.reuse) Q3.blk rfl (cnd_d (fun h33=>⟨fun _=>er 0 (by decide) (fun h=>absurd (h33.symm.trans h) (by decide)),fun hbt => ?_⟩) (fun h3=>joinP_id (hX (fun e=>absurd e h3))))
   exact joinP_id (hX (fun _=>by simpa using hbt))
 refine ⟨_,rfl,?_⟩
 simp only [add_mk,Nat.zero_add]
 refine ld_b (t := .I .u8) (x:=s.reuse) W.blk rfl (cnd_d (fun h2=>⟨_,rfl,?_⟩) (fun h2 => ?_))
 ·simp only [add_mk,Nat.zero_add]
  refine ld_b (t := .S) (x:=s.pt) W.blk rfl ?_
  refine slc_hi (m:=0) rfl (Nat.zero_le _) ⟨_,rfl,?_⟩
  simp only [add_mk,Nat.zero_add]
  refine st_u W.blk rfl rfl ?_
  intro w1 B1 F1
  have B1':=B1.congr (HU.setT (s' := { s with pt:=⟨s.pt.a,0,s.pt.c⟩ }) 14 rfl rfl rfl (by decide))
  have W1:=W.toHW.pt0 F1 B1'
  have kg:=fun r (hr:r≠1)=>W.toHW.keepG (r:=r) hr
  refine body w1 _ ⟨W1,W.o0.fr F1 (fun b hb=>(kg 2 (by decide)).out (W.out.co b hb) (W.o0.lt b hb)),W.oT0,W.nodP.mv F1 (kg 3 (by decide)),W.fseP.mv F1 (kg 6 (by decide)),W.cnt0,W.cc0,W.srcN,W.tlP⟩ ⟨rfl,rfl,rfl⟩ ?_ (.inl rfl)
  exact GoW.of F1 (by intro v hv _;simp at hv;subst hv;rw [W.cg];exact ⟨by decide,by decide⟩) (fun _ _=>rfl)
 ·exact body w s W (SK.refl s) (GoW.refl w col) (hp.imp id (fun h=>⟨h2,h⟩))
end
theorem c47 {w:World} {s0:Sl} {xs:List Nat} {K:Sl→PT} (A:Arr .u8 w s0 xs) (hxs:xs.length≤2^40) (hk:∀w' s',VecU w' s' xs→Fm w w' []→(∀b∈s'.bs,w.heap.size≤b)→K s' w') :
  callP Tryd.prog 47 #[.slice s0.a s0.l s0.c] [.c .S] K w:=by
 apply q47_ok
 unfold q47 nw
 have F1:Fm w (w.alloc (.cells ⟨[]⟩ 5)) []:=(Fm.refl w []).alloc
 have B1:Blk (w.alloc (.cells ⟨[]⟩ 5)) w.heap.size fun i=>(⟨[]⟩:Array Value)[i]? := Blk.new
 have V1:VecU (w.alloc (.cells ⟨[]⟩ 5)) ⟨some ⟨w.heap.size,0,none⟩,0,0⟩ []:=by
  refine ⟨⟨rfl,Nat.le_refl _,fun _=>rfl,?_⟩,?_,show (0:Nat)<2^63 by decide⟩
  ·intro a ha
   injection ha with ha
   subst ha
   exact ⟨rfl,rfl,_,B1,by simp [bytes],by simp⟩
  ·intro a ha i hi
   exact absurd hi (Nat.not_lt_zero _)
 have A1:=A.fr F1 (by simp)
 refine app_vu (xs:=xs) V1 A1.has (by rw [A.len];simp only;omega) ?_
 intro s' w' h1 h2 h3
 rw [List.nil_append] at h1
 have F2:Fm w w' []:=F1.trans h2 (by intro b hb;right;simp [Sl.bs] at hb;omega)
 refine hk w' s' h1 F2 ?_
 intro b hb
 rcases h3 b hb with h|h
 ·simp [Sl.bs] at h;omega
 ·rw [World.size_alloc] at h;omega
structure GE (w:World):Prop where
 gl:GL w
 ob:∀i,i<3→∃a c T,w.cell? ⟨i,0,none⟩=some (.iface 160 (.pointer (some a)))∧w.heap[a.block]? = some (.cells c T (0,0))
theorem GE.er {w:World} (G:GE w) {i:Nat} (hi:i<3):errAt w i:=by
 obtain ⟨a,c,T,h1,_⟩:=G.ob i hi
 exact ⟨_,h1,rfl,rfl⟩
theorem GE.fm {w w':World} (G:GE w) (F:Fm w w' []):GE w':=by
 refine ⟨G.gl.fm F (by simp),?_⟩
 intro i hi
 obtain ⟨a,c,T,h1,h2⟩:=G.ob i hi
 have hl:a.block<w.heap.size:=Classical.byContradiction fun h=>by rw [Array.getElem?_eq_none (by omega)] at h2;cases h2
 refine ⟨a,c,T,?_,by rw [F.old _ hl (by simp)];exact h2⟩
 rw [←h1]
 exact cell?_of_heap (F.old _ (World.block_lt_of_cell? _ _ h1) (by simp)) _ _
theorem und68:(match Tryd.prog.underlying 68 with|some (.interface _)=>true|_=>false)=true:=by kernel_rfl
theorem und160:(match Tryd.prog.underlying 160,Tryd.prog.info? 160 with|some (.pointer te),some i=>i.comparable&&(match Tryd.prog.info? te with|some j=>j.size != 0|none=>false)|_,_=>false)=true:=by kernel_rfl
theorem eq_pe {w:World} {a b:Addr} {ca cb:Array Value} {ta tb:TypeId} {κ:Bool→PT} (ha:w.heap[a.block]? = some (.cells ca ta (0,0))) (hb:w.heap[b.block]? = some (.cells cb tb (0,0))) (hk:∀r:Bool,(a=b→r=true)→κ r w) :
  eqE Cx 68 (.iface 160 (.pointer (some a))) (.iface 160 (.pointer (some b))) κ w:=by
 obtain ⟨ms,hi⟩:∃ms,Tryd.prog.underlying 68=some (.interface ms):=by
  have h:=und68
  split at h
  ·rename_i ms e;exact ⟨ms,e⟩
  ·cases h
 obtain ⟨te,i,j,hp,hinfo,hcomp,hte,hsz⟩:∃te i j,Tryd.prog.underlying 160=some (.pointer te)∧Tryd.prog.info? 160=some i∧i.comparable=true∧Tryd.prog.info? te=some j∧j.size≠0:=by
  have h:=und160
  split at h
  ·rename_i te i e1 e2
   rw [Bool.and_eq_true] at h
   obtain ⟨h1,h2⟩:=h
   split at h2
   ·rename_i j e3
    exact ⟨te,i,j,e1,e2,h1,e3,by simpa using h2⟩
   ·cases h2
  ·cases h
 unfold eqE
 by_cases e:a=b
 ·subst e
  refine ⟨true,?_,hk _ (fun _=>rfl)⟩
  have:=run_eql_iface_ptr_same (P:=Tryd.prog) w a hi hp hinfo hcomp hte
  simpa [eqGuard,show Cx.P=Tryd.prog from rfl] using this
 ·refine ⟨false,?_,hk _ (fun h=>absurd h e)⟩
  have:=run_eql_iface_ptr_other (P:=Tryd.prog) w hi hp hinfo hcomp hte hsz e ha hb
  simpa [eqGuard,show Cx.P=Tryd.prog from rfl] using this
theorem c51 {w:World} {v:Value} {K:Int→PT} (G:GE w) (h:ER w v) (hk:∀k:Int,1≤k→k≤4→(w.cell? ⟨0,0,none⟩=some v→k=1)→K k w):callP Tryd.prog 51 #[v] [.c (.I .i64)] K w:=by
 obtain ⟨a,c,T,rfl,ha⟩:∃a c T,v = .iface 160 (.pointer (some a))∧w.heap[a.block]? = some (.cells c T (0,0)):=by
  rcases h with ⟨⟨i,hi,h1⟩,_⟩|h
  ·obtain ⟨a,c,T,h2,h3⟩:=G.ob i hi
   rw [h2] at h1
   injection h1 with h1
   exact ⟨a,c,T,h1.symm,h3⟩
  ·exact h
 obtain ⟨a0,c0,T0,h00,h01⟩:=G.ob 0 (by decide)
 obtain ⟨a1,c1,T1,h10,h11⟩:=G.ob 1 (by decide)
 obtain ⟨a2,c2,T2,h20,h21⟩:=G.ob 2 (by decide)
 have key:∀ {r:Bool},(a=a0→r=true)→r=false→w.cell? ⟨0,0,none⟩=some (.iface 160 (.pointer (some a)))→∀k:Int,k=1:=by
  intro r h1 h2 h3 k
  rw [h00] at h3
  injection h3 with h3
  injection h3 with _ h3
  injection h3 with h3
  injection h3 with h3
  rw [h1 h3.symm] at h2
  cases h2
 apply q51_ok
 unfold q51
 refine ⟨rfl,fun h=>by simp [isNil] at h,fun _ => ?_⟩
 refine ld_c (t := .V) (x := .iface 160 (.pointer (some a0))) h00 ?_
 refine eq_pe ha h01 (fun r hr=>⟨fun _=>hk 1 (by decide) (by decide) (fun _=>rfl),fun hr0 => ?_⟩)
 refine ld_c (t := .V) (x := .iface 160 (.pointer (some a1))) h10 ?_
 refine eq_pe ha h11 (fun r _=>⟨fun _=>hk 2 (by decide) (by decide) (fun h=>key hr hr0 h 2),fun _ => ?_⟩)
 refine ld_c (t := .V) (x := .iface 160 (.pointer (some a2))) h20 ?_
 exact eq_pe ha h21 (fun r _=>⟨fun _=>hk 3 (by decide) (by decide) (fun h=>key hr hr0 h 3),fun _=>hk 4 (by decide) (by decide) (fun h=>key hr hr0 h 4)⟩)
def EncB (b:Bool):(Nat→Nat)→(Nat→Nat)→List Nat→List Nat→Prop:=fun cd ln xs ol=>if b then Enc4 cd ln xs ol else EncT cd ln xs ol
theorem encB_t:EncB true=Enc4:=by unfold EncB;funext a b c d;simp
theorem encB_f:EncB false=EncT:=by unfold EncB;funext a b c d;simp
theorem hf89:hasFn Tryd.prog 89=true:=by kernel_rfl
theorem hf90:hasFn Tryd.prog 90=true:=by kernel_rfl
structure SX (s s':HU):Prop where
 reuse:s'.reuse=s.reuse
 wll:s'.wll=s.wll
 tl:s'.tl=s.tl∨(s.tl=0∧s'.tl=11)
section
variable {w:World} {g M0 L0 t:Nat} {s:HU} {s1:Sl} {xs:List Nat} {col:Nat→Nat} {ln0:Nat→Nat} {K3:Sl×Bool×Value→PT}
def tlE (t:Nat):Nat:=if t=0 then 11 else t
structure KP (w:World) (g:Nat) (s:HU) (col:Nat→Nat) (xs:List Nat) (b:Bool) (M0:Nat) (ln0:Nat→Nat) (L0:Nat) (K3:Sl×Bool×Value→PT):Prop where
 e:∀w' s' col' v,ER w' v→(s.tl=0∨(5≤s.tl∧s.tl≤11)→EG w' v)→(s.reuse=2→xs.length≤262143→∀t9:Nat,s.tl=(t9:Nat)→(t9=0∨(5≤t9∧t9≤11))→Bad xs (tlE t9) (EncB b))→HW w' g s' col'→(s'.outT=⟨none,0,0⟩∨(s'.outT=s.outT∧Fm w w' [g]∧col'=col))→SX s s'→GoW w w' col col'→K3 (⟨none,0,0⟩,false,v) w'
 r:∀w' s' col' so ol,s.reuse≠2→EncB b (vC ln0 L0 M0) ln0 xs ol→(∀x∈xs,x<L0∧0<ln0 x)→ol.length<xs.length→s'.out=so→VecU w' so ol→HW w' g s' col'→PTc w' s'.pt M0 ln0 L0→s'.outT=⟨none,0,0⟩→SX s s'→GoW w w' col col'→K3 (so,true,.nilIface) w'
 t:∀w' s' col' so M ln L tbl ol,s.reuse≠3→CntOK xs→TL (wtL M ln L) L tbl.length→(∀t9:Nat,s.tl=(t9:Nat)→LenR (fun i=>xs.count i) L xs.length (tlE t9) M ln)→NT xs M ln L→By tbl→weightsZ tbl=some (wtL M ln L,tbl.length)→EncB b (vC ln L M) ln xs ol→tbl.length+ol.length<xs.length→s'.out=so→VecU w' so (tbl++ol)→Arr .u8 w' s'.outT tbl→Arr .u8 w' s'.outD ol→(∀a,s'.outT.a=some a→col' a.block=2)→HW w' g s' col'→PTc w' s'.pt M ln L→SX s s'→GoW w w' col col'→K3 (so,false,.nilIface) w'
theorem c61w {K:Option Addr×Value→PT} (W:HW w g s col) (ht:s.tl=(t:Nat)) (ht2:t<256) (hsrc:Arr .u8 w s1 xs)
  (hk0:(262143<xs.length∨¬(s.tl=0∨(5≤s.tl∧s.tl≤11)))→∀w' s' v,ER w' v→(s.tl=0∨(5≤s.tl∧s.tl≤11)→EG w' v)→HW w' g s' col→s'.outT=s.outT→Fm w w' [g]→SX s s'→GoW w w' col col→K (none,v) w')
  (hk:xs.length≤262143→∀w' s' col',HP w' g s' col' xs.length→SR s s'→GoW w w' col col'→Fm w w' [g]→K (some ⟨g,0,none⟩,.nilIface) w') :
  callP Tryd.prog 61 #[.pointer (some ⟨g,0,none⟩),.slice s1.a s1.l s1.c] [.c .P,.c .V] K w:=by
 have hown:∀v ∈ [g],v<w.heap.size→own (col v):=by intro v hv _;simp at hv;subst hv;rw [W.cg];exact ⟨by decide,by decide⟩
 refine c61 W ht ht2 ?_ ?_
 ·intro hno w' s' v hv hv2 W' R eT F
  rw [hsrc.len] at hno
  exact hk0 hno w' s' v hv hv2 W' eT F ⟨R.reuse,R.wll,R.tl⟩ (GoW.of F hown (fun _ _=>rfl))
 ·intro hl w' s' col' P R hc F
  rw [hsrc.len] at hl P
  exact hk hl w' s' col' P R (GoW.of F hown hc) F
theorem comp_run {fc:FuncId} {b:Bool} (hC:CompOK fc (EncB b) (EncB b≠EncT)) (hfn:hasFn Tryd.prog fc=true) (hE:EncLe (EncB b)) (W:HW w g s col) (hwl:s.wll=0) (hsrc:Arr .u8 w s1 xs) (hby:By xs) (hle:xs.length≤2^18) (far:∀a,s1.a=some a→xs ≠ []→¬own (col a.block)) (hp:s.pt.l=0∨PTc w s.pt M0 ln0 L0) (k:KP w g s col xs b M0 ln0 L0 K3)
  {w':World} {s':HU} {col':Nat→Nat} (P:HP w' g s' col' xs.length) (R:SR s s') (G:GoW w w' col col') (F:Fm w w' [g]) :
  callP Tryd.prog 88 #[.slice s1.a s1.l s1.c,.pointer (some ⟨g,0,none⟩),.func (.func fc) #[.pointer (some ⟨g,0,none⟩)] #[]] [.c .S,.c .B,.c .V] K3 w':=by
 have tr:∀ {s2:HU},SK s' s2→SX s s2:=fun h=>⟨h.reuse.trans R.reuse,h.wll.trans R.wll,by rw [h.tl];exact R.tl⟩
 have htl:∀t9:Nat,s.tl=(t9:Nat)→s'.tl=((tlE t9:Nat):Int):=by
  intro t9 ht9
  obtain ⟨t8,h81,h82,h83⟩:=P.tlP
  unfold tlE
  rcases R.tl with h|⟨h,h'⟩
  ·rw [if_neg (by omega)];omega
  ·rw [if_pos (by omega)];exact h'
 have kg:=W.keepG (r:=5) (by decide)
 refine c88 (M0:=M0) (ln0:=ln0) (L0:=L0) (Enc:=EncB b) ⟨hC,hfn,hE,G.arr hsrc far,hby,G.far hsrc far,hle⟩ P ?_ (R.wll.trans hwl) ⟨?_,?_,?_⟩
 ·rw [R.pt]
  exact hp.imp id (fun h=>h.mv F (fun v hv=>kg.out (W.pt.co v hv) (W.pt.own.lt v hv)))
 ·intro w2 s2 col2 v h1 hB h2 hT h3 h4
  exact k.e w2 s2 col2 v (.inl h1) (fun _=>h1) (fun hr _ t9 ht9 _=>hB (R.reuse.trans hr) (tlE t9) (htl t9 ht9)) h2 (.inl hT) (tr h3) (G.trans h4)
 ·intro w2 s2 col2 so ol h1 h2 h3 h4 h5 h6 h7 h8 hT h9 h10
  exact k.r w2 s2 col2 so ol (by rw [←R.reuse];exact h1) h2 h3 h4 h5 h6 h7 h8 hT (tr h9) (G.trans h10)
 ·intro w2 s2 col2 so M ln L tbl ol hr3 hcn hTL hl h1 h2 h3 h4 h5 h6 h7 h8 h9 hc h10 h11 h12 h13
  have hl':∀t9:Nat,s.tl=(t9:Nat)→LenR (fun i=>xs.count i) L xs.length (tlE t9) M ln:=by
   intro t9 ht9
   exact hl (tlE t9) (htl t9 ht9)
  exact k.t w2 s2 col2 so M ln L tbl ol (by rw [←R.reuse];exact hr3) hcn hTL hl' h1 h2 h3 h4 h5 h6 h7 h8 h9 hc h10 h11 (tr h12) (G.trans h13)
theorem c50 {b:Bool} (W:HW w g s col) (ht:s.tl=(t:Nat)) (ht2:t<256) (hwl:s.wll=0) (hsrc:Arr .u8 w s1 xs) (hby:By xs) (hle:xs.length≤2^18) (far:∀a,s1.a=some a→xs ≠ []→¬own (col a.block)) (hp:s.pt.l=0∨PTc w s.pt M0 ln0 L0) (k:KP w g s col xs b M0 ln0 L0 K3) :
  callP Tryd.prog 50 #[.slice s1.a s1.l s1.c,.pointer (some ⟨g,0,none⟩),.bool b] [.c .S,.c .B,.c .V] K3 w:=by
 apply q50_ok
 unfold q50
 cases b with
 | true =>
  refine ⟨fun _ => ?_,fun h=>by cases h⟩
  apply q70_ok
  unfold q70
  refine c61w W ht ht2 hsrc ?_ ?_
  ·intro hno w' s' v hv hv2 W' eT FT S' G'
   exact ⟨isPE.ifc hv.pe,err_cnd (isPE.nil hv.pe) (k.e w' s' col v hv hv2 (fun _ hl9 t9 ht9 htt=>by
    rcases hno with h|h
    ·omega
    ·exact absurd (by omega) h) W' (.inr ⟨eT,FT,rfl⟩) S' G')⟩
  ·intro hl w' s' col' P R G F
   refine ⟨rfl,nil_cnd ?_⟩
   refine comp_run (b:=true) (by rw [encB_t];exact comp89.of enc4_ne) hf89 (by rw [encB_t];exact encLe89) W hwl hsrc hby hle far hp ⟨k.e,k.r,k.t⟩ P R G F
 | false =>
  refine ⟨(fun h=>by cases h),fun _ => ?_⟩
  apply q71_ok
  unfold q71
  refine c61w W ht ht2 hsrc ?_ ?_
  ·intro hno w' s' v hv hv2 W' eT FT S' G'
   exact ⟨isPE.ifc hv.pe,err_cnd (isPE.nil hv.pe) (k.e w' s' col v hv hv2 (fun _ hl9 t9 ht9 htt=>by
    rcases hno with h|h
    ·omega
    ·exact absurd (by omega) h) W' (.inr ⟨eT,FT,rfl⟩) S' G')⟩
  ·intro hl w' s' col' P R G F
   refine ⟨rfl,nil_cnd ?_⟩
   refine comp_run (b:=false) (by rw [encB_f];exact comp90) hf90 (by rw [encB_f];exact encLe90) W hwl hsrc hby hle far hp ⟨k.e,k.r,k.t⟩ P R G F
end
def colF (g:Nat):Nat→Nat:=fun v=>if v<9 then 0 else if v=g then 1 else 7
theorem HW.fresh {w w1:World} {s:HU} (G:GE w) (F:Fm w w1 []) (B:Blk w1 w.heap.size s.at) (h1:s.out=⟨none,0,0⟩) (h2:s.nodes=⟨none,0,0⟩) (h3:s.ct=⟨none,0,0⟩) (h4:s.pt=⟨none,0,0⟩) (h5:s.fse=none) (h6:s.maxC=0) (h7:∀i,i<256→s.count i=0):HW w1 w.heap.size s (colF w.heap.size):=by
 have h9:=G.gl.size
 have G1:=G.fm F
 refine ⟨B,?_,?_,?_,.inl ?_,?_,?_,.inl ?_,.inl h5,G1.gl,fun i hi=>G1.er hi,h6,.inr h7⟩
 ·unfold colF;rw [if_neg (by omega),if_pos rfl]
 ·intro v hv;unfold colF;rw [if_pos hv]
 ·rw [h1];exact ⟨⟨[],VecU.nil⟩,by simp [Sl.bs]⟩
 ·rw [h2];decide
 ·rw [h3];exact ⟨Own.none,by simp [Sl.bs]⟩
 ·rw [h4];exact ⟨Own.none,by simp [Sl.bs]⟩
 ·rw [h4]
theorem set_cells (l:List Value) (k:Nat) (v:Value) (h:k<l.length):(fun i=>(⟨List.set l k v⟩:Array Value)[i]?)=updC (fun i=>(⟨l⟩:Array Value)[i]?) k v:=by
 funext i
 simp only [List.getElem?_toArray]
 unfold updC
 by_cases e:i=k
 ·subst e;rw [if_pos rfl,List.getElem?_set_self h]
 ·rw [if_neg e,List.getElem?_set_ne (fun h=>e h.symm)]
theorem z94_len:z94.length=535:=by kernel_rfl
def HU.start (r t l:Int):HU := { HU.zero with reuse:=r,tl:=t,wll:=l }
section
variable {w:World}
theorem c25 {k:Int} {K:Bool→PT} (h1:0≤k) (h2:k≤4) (hk:K true w):callP Tryd.prog 25 #[.int .i64 k] [.c .B] K w:=by
 apply q25_ok
 unfold q25
 refine joinP_id ?_
 refine cnd_d (fun _ => ?_) (fun h=>absurd h1 h)
 unfold q25_J0
 rw [decide_eq_true h2]
 exact hk
theorem c27 {s0 s1:Sl} {xs:List Nat} {K:Bool→PT} (A:Arr .u8 w s0 xs) (C:Arr .u8 w s1 xs) (hl:xs.length≤2^40) (hk:∀w',Fm w w' []→K true w') :
  callP Tryd.prog 27 #[.slice s0.a s0.l s0.c,.slice s1.a s1.l s1.c] [.c .B] K w:=by
 have h0:=A.len
 have h1:=C.len
 apply q27_ok
 unfold q27
 refine cnd_nd (fun h=>absurd (by omega) h) (fun _ => ?_)
 refine joinP_id ?_
 refine ⟨fun x w'=>∃i:Nat,x=(i:Int)∧i≤xs.length∧Fm w w' [],fun x _=>xs.length-x.toNat,⟨0,rfl,Nat.zero_le _,Fm.refl _ _⟩,?_⟩
 rintro x w1 ⟨i,rfl,hi,F1⟩
 unfold q27_L0
 refine cnd_d ?_ ?_
 ·intro hc
  have hi2:i<xs.length:=by omega
  have Ad:=A.fr F1.drew (by simp)
  have Cd:=C.fr F1.drew (by simp)
  unfold drw
  refine Ad.ldk i rfl hi2 ?_
  intro p hp
  refine ld_c (t := .I .u8) (x:=((xs[i]:Nat):Int)) hp ?_
  refine Cd.ldk i rfl hi2 ?_
  intro q hq
  refine ld_c (t := .I .u8) (x:=((xs[i]:Nat):Int)) hq ?_
  refine cnd_nd (fun h=>absurd rfl h) (fun _ => ?_)
  rw [wI64 (by omega) (by omega)]
  exact ⟨⟨i+1,by simp,hi2,F1.drew⟩,by first|omega|(dsimp only;omega)⟩
 ·intro hc
  unfold q27_J1
  exact hk w1 F1
end
def lnx (L:Nat) (ln:Nat→Nat) (i:Nat):Nat:=if i<L then ln i else 0
theorem lnx_lt {L i:Nat} {ln:Nat→Nat} (h:i<L):lnx L ln i=ln i:=if_pos h
theorem lnx_ge {L i:Nat} {ln:Nat→Nat} (h:L≤i):lnx L ln i=0:=if_neg (by omega)
section
variable {xs tbl:List Nat} {M L:Nat} {ln:Nat→Nat}
theorem NT.hl (hN:NT xs M ln L) (hw:weightsZ tbl=some (wtL M ln L,tbl.length)):∃f,hlZ tbl=some (f,tbl.length)∧∀i,f i=(lnx L ln i:Nat):=by
 obtain ⟨f,h1,h2,h3⟩:=hl_ok hN.h hN.l2 hN.l256 hN.last hN.two hw
 refine ⟨f,h1,?_⟩
 intro i
 rcases Nat.lt_or_ge i L with h|h
 ·rw [lnx_lt h];exact h2 i h
 ·rw [lnx_ge h];exact h3 i h
theorem NT.mem (hN:NT xs M ln L) {x:Nat} (hx:x∈xs):x<L∧0<ln x∧ln x≤11:=by
 have h1:0<xs.count x:=List.count_pos_iff.mpr hx
 have h3:x<L:=Classical.byContradiction fun h=>by have:=hN.out x (by omega);omega
 have h4:=hN.h.le x h3
 have h5:=hN.h.m11
 exact ⟨h3,(hN.h.pos x h3).mpr h1,by first|omega|(dsimp only;omega)⟩
end
end Go.Sx
namespace Go.Sx
open Go Go.Proofs Go.ChangeShapes Go.WideShapes Go.ChangeAt Go.RowKit Go.Proofs.YtlnhldlhmplphaaDoor
set_option maxRecDepth 100000
def mask32:List Int := [0,1,3,7,15,31,63,127,255,511,1023,2047,4095,8191,16383,32767,65535,65535,65535,65535,65535,65535,65535,65535,65535,65535,0,0,0,0,0,0]
def laid0:List (String×DataW Unit) := [("pub-pemmican/pub/compress/fse.bitMask16",Rows.laid_pub_pemmican_pub_compress_fse_bitMask16),("pub-pemmican/pub/compress/fse.rtbTable",Rows.laid_pub_pemmican_pub_compress_fse_rtbTable),("pub-pemmican/pub/compress/fse.ErrIncompressible",Rows.laid_pub_pemmican_pub_compress_fse_ErrIncompressible),("pub-pemmican/pub/compress/fse.ErrUseRLE",Rows.laid_pub_pemmican_pub_compress_fse_ErrUseRLE),("pub-pemmican/pub/compress/huff0.ErrIncompressible",Rows.laid_pub_pemmican_pub_compress_huff0_ErrIncompressible),("pub-pemmican/pub/compress/huff0.ErrUseRLE",Rows.laid_pub_pemmican_pub_compress_huff0_ErrUseRLE),("pub-pemmican/pub/compress/huff0.ErrTooBig",Rows.laid_pub_pemmican_pub_compress_huff0_ErrTooBig)]
theorem ge_of_laid {W:World} (h:laidMetH Tryd.prog laid0 W):GE W:=by
 rw [MakeChecks.laidMetH_plain _ _ _ (by kernel_rfl)] at h
 have e0:=err_of_laid h (.tail _ (.tail _ (.tail _ (.tail _ (.head _))))) (g:=0) (by kernel_rfl) (by kernel_rfl)
 have e1:=err_of_laid h (.tail _ (.tail _ (.tail _ (.tail _ (.tail _ (.head _)))))) (g:=1) (by kernel_rfl) (by kernel_rfl)
 have e2:=err_of_laid h (.tail _ (.tail _ (.tail _ (.tail _ (.tail _ (.tail _ (.head _))))))) (g:=2) (by kernel_rfl) (by kernel_rfl)
 have e3:=err_of_laid h (.tail _ (.tail _ (.head _))) (g:=3) (by kernel_rfl) (by kernel_rfl)
 have e4:=err_of_laid h (.tail _ (.tail _ (.tail _ (.head _)))) (g:=4) (by kernel_rfl) (by kernel_rfl)
 have em:=nums_of_laid (zs:=mask32) (k := .u16) (t:=240) (e:=81) (m:=32) h (.head _) (g:=8) (by kernel_rfl) (by kernel_rfl) (by kernel_rfl) (by kernel_rfl) (by kernel_rfl) rfl
 have er:=nums_of_laid (zs:=rtbZ) (k := .u32) (t:=207) (e:=79) (m:=8) h (.tail _ (.head _)) (g:=6) (by kernel_rfl) (by kernel_rfl) (by kernel_rfl) (by kernel_rfl) (by kernel_rfl) rfl
 have ee:∀ {g:Nat},(∃a c T,W.cell? ⟨g,0,none⟩=some (.iface 160 (.pointer (some a)))∧W.heap[a.block]? = some (.cells c T (0,0)))→errAt W g:=fun ⟨a,c,T,h1,_⟩=>⟨_,h1,rfl,rfl⟩
 refine ⟨⟨ee e3,ee e4,?_,?_⟩,?_⟩
 ·intro k hk
  exact er k hk
 ·intro n hn
  rw [em n (by omega)]
  have:∀m:Fin 17,mask32.getD (m:Nat) 0=((2^(m:Nat)-1:Nat):Int):=by decide
  rw [this ⟨n,by omega⟩]
 ·intro i hi
  have:i=0∨i=1∨i=2:=by omega
  rcases this with rfl|rfl|rfl
  ·exact e0
  ·exact e1
  ·exact e2
theorem slice_in {H:Type} {enc:TypeId×Value→H} {W:World} {t e:TypeId} {v:Value} {d:DataW H} {p:List MemPlace} {base:Nat} (ht:Tryd.prog.underlying t=some (.slice e)) (ok:Value.okWide Tryd.prog W .any base t v) (h:DataW.Trod enc Tryd.prog W 0 (fun _=>true) true t v d p):∃a l c,v = .slice a l c:=by
 unfold Value.okWide at ok
 simp only [ht] at ok
 unfold Cell.okWide at ok
 cases v<;>simp [Value.cells,Cell.ok,ht] at ok ⊢
theorem door_met (os:Os) (args:Array Value):laidMetH Tryd.prog laid0 ((World.doorLaid Tryd.prog 4000 os).forCall (fun _ _=>0) ⟨#[],args,[]⟩).memory :=
 laidMetH_of_parts3 (fuel:=8) (laidMet_of_run' 8 (by kernel_rfl) (by kernel_rfl)) (by kernel_rfl) (by kernel_rfl)
end Go.Sx
namespace Go.Sx
open Go Go.Proofs
set_option maxRecDepth 4000
def levU (L M:Nat) (ln:Nat→Nat) (n s:Nat):List Cell3:=((List.range s).filter fun i=>lnx L ln i=n).map fun i=>(i,vC ln L M i,((n:Nat):Int))
def clZ (L M:Nat) (ln:Nat→Nat):Nat→List Cell3
 | 0 => []
 | k+1=>clZ L M ln k++levU L M ln (11-k) 256
theorem levU_succ (L M:Nat) (ln:Nat→Nat) (n s:Nat):levU L M ln n (s+1)=levU L M ln n s++(if lnx L ln s=n then [(s,vC ln L M s,((n:Nat):Int))] else []):=by
 unfold levU
 rw [List.range_succ,List.filter_append,List.map_append]
 congr 1
 by_cases h:lnx L ln s=n
 ·rw [if_pos h];simp [h]
 ·rw [if_neg h];simp [h]
theorem levU_len (L M:Nat) (ln:Nat→Nat) (n s:Nat):(levU L M ln n s).length≤s:=by
 unfold levU
 rw [List.length_map]
 exact Nat.le_trans (List.length_filter_le _ _) (by rw [List.length_range];omega)
theorem clZ_len (L M:Nat) (ln:Nat→Nat):∀k,(clZ L M ln k).length≤256*k
 | 0=>by simp [clZ]
 | k+1=>by
  have:=clZ_len L M ln k
  have:=levU_len L M ln (11-k) 256
  rw [clZ,List.length_append];omega
theorem flat3_app (a b:List Cell3):flat3 (a++b)=flat3 a++flat3 b:=by unfold flat3;rw [List.flatMap_append]
theorem cN_lnx {L n:Nat} {ln:Nat→Nat} (hn:0<n):∀s,s≤L→cN (lnx L ln) n s=cN ln n s
 | 0,_=>rfl
 | s+1,h=>by rw [cN,cN,cN_lnx hn s (by omega),lnx_lt (by omega)]
theorem cN_lnx_ge {L n:Nat} {ln:Nat→Nat} (hn:0<n):∀k,cN (lnx L ln) n (L+k)=cN ln n L
 | 0=>cN_lnx hn L (Nat.le_refl _)
 | k+1=>by rw [←Nat.add_assoc,cN,cN_lnx_ge hn k,lnx_ge (by omega),if_neg (by omega)];omega
theorem cN_none {f:Nat→Nat} {n:Nat} : ∀ {s},(∀i,i<s→f i≠n)→cN f n s=0
 | 0,_=>rfl
 | s+1,h=>by rw [cN,cN_none (fun i hi=>h i (by omega)),if_neg (h s (by omega))]
def nxV (L M:Nat) (ln:Nat→Nat) (n:Nat):Nat:=vJ (fun r=>cN ln r L) M (M-n)
section
variable {cnt ln:Nat→Nat} {L M n s:Nat}
theorem nxV_num (H:HT cnt L M ln) (hs:lnx L ln s=n) (hn:0<n):nxV L M ln n+cN (lnx L ln) n s=vC ln L M s:=by
 have hsL:s<L:=Classical.byContradiction fun h=>by rw [lnx_ge (by omega)] at hs;omega
 rw [lnx_lt hsL] at hs
 have hle:=H.le s hsL
 unfold vC vR nxV
 rw [cN_lnx hn s (by omega),hs,if_neg (by omega)]
theorem nxV_next (H:HT cnt L M ln) (hL:L≤256) (hn:0<n):nxV L M ln n+cN (lnx L ln) n 256=2*nxV L M ln (n-1):=by
 have e:=cN_lnx_ge (L:=L) (ln:=ln) hn (256-L)
 rw [show L+(256-L)=256 by omega] at e
 rw [e]
 unfold nxV
 rcases Nat.lt_or_ge M n with h|h
 ·rw [cN_none (fun i hi=>by have:=H.le i hi;omega),show M-n=0 by omega,show M-(n-1)=0 by omega]
  rfl
 ·have hk:=(kraft_ranks (M:=M) L H.le).symm.trans H.kr
  have h1:=(vJ_even (nb:=fun r=>cN ln r L) (j:=M-n) hk (by omega)).1
  rw [show M-(M-n)=n by omega,show M-n+1=M-(n-1) by omega] at h1
  exact h1
theorem nxV_le (H:HT cnt L M ln) (hL:L≤256):nxV L M ln n≤256:=vJ_le (fun r=>Nat.le_trans (cN_le ln r L) hL) _
end
section
variable {w:World}
theorem nw_3i {x y z:Int} {T:TypeId} {κ:Addr→PT} (hk:∀w',Fm w w' []→w'.heap.size=w.heap.size+1→Blk w' w.heap.size (c3C x y z)→κ ⟨w.heap.size,0,none⟩ w'):nw [.int .i64 x,.int .i64 y,.int .i64 z] T κ w :=
 hk _ (Fm.refl w []).alloc (World.size_alloc _ _) (Blk.new.congr (by funext i;rcases i with _|_|_|i<;>simp [c3C]))
theorem app_3 {T T':TypeId} {s:Sl} {κ:Sl→PT} {tab:List Cell3} {x:Cell3} {a b c:Int} (h:Vec 3 w s (flat3 tab)) (ha:a=(x.1:Nat)) (hb:b=(x.2.1:Nat)) (hc:c=x.2.2) (hl:tab.length<2^30)
  (hk:∀s' w',Vec 3 w' s' (flat3 (tab ++ [x]))→Fm w w' s.bs→(∀b∈s'.bs,b∈s.bs∨w.heap.size≤b)→κ s' w'):nw [.int .i64 a,.int .i64 b,.int .i64 c] T' (fun p=>app z155 T 24 s ⟨some p,1,1⟩ κ) w:=by
 subst ha hb hc
 have h1:=h.len
 rw [flat3_len] at h1
 refine nw_3i ?_
 intro w1 F1 hs1 B1
 refine app_v (zs:=z155) (xs:=cell3 x) (h.fr F1 (by simp)) ⟨rfl,?_,(fun h=>by cases h),by simp [cell3,one]⟩ (by decide) (by first|omega|(dsimp only;omega)|(simp only [];omega)) ?_
 ·intro b hb i hi
  injection hb with hb
  subst hb
  rw [add_mk,Nat.zero_add,B1.cell]
  have hi:i<3:=hi
  have:i=0∨i=1∨i=2:=by omega
  rcases this with rfl|rfl|rfl<;>rfl
 ·intro s' w' h2 h3 h4
  refine hk s' w' ?_ ((F1.mono (S':=s.bs) (by simp)).trans h3 (fun b hb => .inl hb)) ?_
  ·rw [flat3_app]
   have:flat3 [x]=cell3 x:=by simp [flat3]
   rw [this]
   exact h2
  ·intro b hb
   rcases h4 b hb with h5|h5
   ·exact .inl h5
   ·right;omega
theorem c73 {b:Nat} {cnt ln:Nat→Nat} {L M:Nat} {f:Nat→Int} {K:Sl→PT} (H:HT cnt L M ln) (hL:L≤256) (B:Blk w b (arrC .i64 256 f)) (hf:∀i,f i=(lnx L ln i:Nat)) (hk:∀w' s',Vec 3 w' s' (flat3 (clZ L M ln 11))→Fm w w' []→(∀v∈s'.bs,w.heap.size≤v)→K s' w') :
  callP Tryd.prog 73 #[.slice (some ⟨b,0,none⟩) 256 256] [.c .S] K w:=by
 have hbl:=B.lt
 apply q73_ok (s0:=⟨some ⟨b,0,none⟩,256,256⟩)
 unfold q73
 refine joinP_id ?_
 refine ⟨fun x w'=>∃k:Nat,k≤11∧x.2=(((nxV L M ln (11-k):Nat):Int),((11-k:Nat):Int))∧Vec 3 w' x.1 (flat3 (clZ L M ln k))∧Fm w w' []∧(∀v∈x.1.bs,w.heap.size≤v),fun x _=>x.2.2.toNat,⟨0,by omega,?_,Vec.nil,Fm.refl _ _,by simp [Sl.bs]⟩,?_⟩
 ·rw [Prod.mk.injEq]
  refine ⟨?_,rfl⟩
  unfold nxV
  rw [show M-(11-0)=0 by have:=H.m11;omega]
  rfl
 rintro ⟨x,y⟩ w1 ⟨k,hk11,hy,V1,F1,n1⟩
 simp only at hy V1 n1
 subst hy
 unfold q73_L4
 simp only
 refine cnd_d ?_ ?_
 ·intro hc
  have hn:0<11-k:=by omega
  have hcl:=clZ_len L M ln k
  refine joinP_id ?_
  refine joinP_id ?_
  refine ⟨fun x w'=>∃i:Nat,i≤256∧x.2=(((nxV L M ln (11-k)+cN (lnx L ln) (11-k) i:Nat):Int),(i:Int))∧Vec 3 w' x.1 (flat3 (clZ L M ln k++levU L M ln (11-k) i))∧Fm w w' []∧(∀v∈x.1.bs,w.heap.size≤v),fun x _=>256-x.2.2.toNat,⟨0,by omega,by rw [cN];rfl,by simpa [levU] using V1,F1,n1⟩,?_⟩
  rintro ⟨x,y⟩ w2 ⟨i,hi,hy,V2,F2,n2⟩
  simp only at hy V2 n2
  subst hy
  have hnx:=nxV_le (n:=11-k) H hL
  have hcN:=cN_le (lnx L ln) (11-k) i
  unfold q73_L1
  simp only
  refine cnd_d ?_ ?_
  ·intro hci
   have hi2:i<256:=by omega
   refine joinP_id ?_
   refine ixS_o rfl hi2 ?_
   rw [Nat.zero_add]
   refine ld_b (t := .I .i64) (x:=((lnx L ln i:Nat):Int)) (B.fr F2 (by simp)) (by rw [arrC_get hi2,hf i];rfl) ?_
   unfold q73_J0
   simp only
   refine cnd_d (fun he => ?_) (fun hne => ?_)
   ·have he':lnx L ln i=11-k:=by omega
    have hv:=nxV_num H he' hn
    have hll:=levU_len L M ln (11-k) i
    refine app_3 (x:=(i,vC ln L M i,((11-k:Nat):Int))) V2 rfl (by simp only;rw [←hv]) rfl (by rw [List.length_append];omega) ?_
    intro s' w3 V3 F3 n3
    rw [wI64 (by omega) (by omega),wI64 (by omega) (by omega)]
    refine ⟨⟨i+1,hi2,?_,?_,F2.trans F3 (fun v hv => .inr (n2 v hv)),?_⟩,by first|omega|(dsimp only;omega)|(simp only [];omega)⟩
    ·rw [cN,if_pos he',Prod.mk.injEq]
     exact ⟨by omega,by first|omega|(dsimp only;omega)⟩
    ·rw [levU_succ,if_pos he', ←List.append_assoc]
     exact V3
    ·intro v hv
     have hsz:=F2.size
     rcases n3 v hv with h|h
     ·exact n2 v h
     ·omega
   ·have hne':lnx L ln i≠11-k:=by omega
    rw [wI64 (by omega) (by omega)]
    refine ⟨⟨i+1,hi2,?_,?_,F2,n2⟩,by first|omega|(dsimp only;omega)|(simp only [];omega)⟩
    ·rw [cN,if_neg hne',Prod.mk.injEq]
     exact ⟨by omega,by first|omega|(dsimp only;omega)⟩
    ·rw [levU_succ,if_neg hne',List.append_nil]
     exact V2
  ·intro hci
   have hi2:i=256:=by omega
   subst hi2
   have hnext:=nxV_next H hL hn
   unfold q73_J2
   simp only
   refine ⟨by decide,cnd_nd (fun h => ?_) (fun _=>⟨by decide,?_⟩)⟩
   ·refine absurd ?_ h
    rw [hnext,show Int.tmod ((2*nxV L M ln (11-k-1):Nat):Int) (2:Int)=((2*nxV L M ln (11-k-1)%2:Nat):Int) from rfl]
    omega
   ·unfold q73_J3
    simp only
    rw [show (2:Int)=((2:Nat):Int) from rfl,quoI_nat _ _ _ (by simp only [IntKind.bits];omega),wI64 (by omega) (by omega)]
    refine ⟨⟨k+1,by omega,?_,?_,F2,n2⟩,by first|omega|(dsimp only;omega)|(simp only [];omega)⟩
    ·rw [Prod.mk.injEq]
     refine ⟨?_,by first|omega|(dsimp only;omega)⟩
     rw [hnext,Nat.mul_div_cancel_left _ (by omega)]
     rfl
    ·rw [clZ];exact V2
 ·intro hc
  have hk2:k=11:=by omega
  subst hk2
  unfold q73_J5
  exact hk w1 x V1 F1 n1
end
def mt (v n:Nat) (tab:List Cell3):List Nat:=(tab.filter fun c=>c.2.2=((n:Nat):Int)∧c.2.1=v).map fun c=>c.1
theorem mt_app (v n:Nat) (a b:List Cell3):mt v n (a++b)=mt v n a++mt v n b:=by unfold mt;rw [List.filter_append,List.map_append]
theorem mt_one (v n:Nat) (c:Cell3):mt v n [c]=if c.2.2=((n:Nat):Int)∧c.2.1=v then [c.1] else []:=by
 unfold mt
 by_cases h:c.2.2=((n:Nat):Int)∧c.2.1=v
 ·rw [if_pos h];simp [h]
 ·rw [if_neg h,List.filter_cons_of_neg (by simpa using h)];rfl
theorem mt_take {v n:Nat} {tab:List Cell3} {i:Nat} (h:i<tab.length):mt v n (tab.take (i+1))=mt v n (tab.take i)++(if tab[i].2.2=((n:Nat):Int)∧tab[i].2.1=v then [tab[i].1] else []):=by
 rw [List.take_succ_eq_append_getElem h,mt_app,mt_one]
section
variable {cnt ln:Nat→Nat} {L M x:Nat}
theorem levU_mem {n s:Nat} {c:Cell3} (h:c∈levU L M ln n s):∃i,i<s∧lnx L ln i=n∧c=(i,vC ln L M i,((n:Nat):Int)):=by
 unfold levU at h
 obtain ⟨i,hi,e⟩:=List.mem_map.mp h
 obtain ⟨h1,h2⟩:=List.mem_filter.mp hi
 exact ⟨i,List.mem_range.mp h1,by simpa using h2,e.symm⟩
theorem clZ_mem {c:Cell3} : ∀ {k},c∈clZ L M ln k→∃i n,i<256∧lnx L ln i=n∧c=(i,vC ln L M i,((n:Nat):Int))
 | 0,h=>by simp [clZ] at h
 | k+1,h=>by
  rw [clZ] at h
  rcases List.mem_append.mp h with h|h
  ·exact clZ_mem h
  ·obtain ⟨i,h1,h2,h3⟩:=levU_mem h
   exact ⟨i,_,h1,h2,h3⟩
theorem vC_eq (H:HT cnt L M ln) {i j:Nat} (hi:i<L) (hj:j<L) (he:ln i=ln j) (hv:vC ln L M i=vC ln L M j):i=j:=by
 rcases Nat.lt_trichotomy i j with h|h|h
 ·have:=vC_inj (L:=L) (M:=M) h he;omega
 ·exact h
 ·have:=vC_inj (L:=L) (M:=M) h he.symm;omega
theorem mt_none (H:HT cnt L M ln) (hx:x<L) {n:Nat} (hn:0<n) (hl:n<ln x) (k:Nat):mt (vC ln L M x/2^(ln x-n)) n (clZ L M ln k) = []:=by
 unfold mt
 rw [List.map_eq_nil_iff,List.filter_eq_nil_iff]
 intro c hc
 obtain ⟨i,m,h1,h2,rfl⟩:=clZ_mem hc
 simp only [decide_eq_true_eq]
 rintro ⟨e1,e2⟩
 have e1:m=n:=by omega
 subst e1
 have hiL:i<L:=Classical.byContradiction fun h=>by rw [lnx_ge (by omega)] at h2;omega
 rw [lnx_lt hiL] at h2
 have h3:=vC_sep H hiL hx (by omega) (by omega)
 rw [h2] at h3
 have h4:vC ln L M x/2^(ln x-m)<vC ln L M i:=(Nat.div_lt_iff_lt_mul (Nat.two_pow_pos _)).mpr (by omega)
 omega
theorem mt_levU (H:HT cnt L M ln) (hx:x<L) (h0:0<ln x) (n:Nat):∀s,mt (vC ln L M x) (ln x) (levU L M ln n s)=if n=ln x∧x<s then [x] else []
 | 0=>by simp [levU,mt]
 | s+1=>by
  rw [levU_succ,mt_app,mt_levU H hx h0 n s]
  by_cases hn:n=ln x
  ·subst hn
   by_cases hs:lnx L ln s=ln x
   ·have hsL:s<L:=Classical.byContradiction fun h=>by rw [lnx_ge (by omega)] at hs;omega
    have hs':=hs
    rw [lnx_lt hsL] at hs'
    rw [if_pos hs,mt_one]
    by_cases e:s=x
    ·subst e
     rw [if_neg (by omega),if_pos ⟨rfl,rfl⟩,if_pos ⟨rfl,by omega⟩];rfl
    ·rw [if_neg (c:=_∧_) (fun h=>e (vC_eq H hsL hx hs' h.2)),List.append_nil]
     by_cases h:x<s
     ·rw [if_pos ⟨rfl,h⟩,if_pos ⟨rfl,by omega⟩]
     ·rw [if_neg (fun h'=>h h'.2),if_neg (fun h'=>by omega)]
   ·rw [if_neg hs]
    have hne:s≠x:=fun e=>hs (by rw [e];exact lnx_lt hx)
    show _ ++ []=_
    rw [List.append_nil]
    by_cases h:x<s
    ·rw [if_pos ⟨rfl,h⟩,if_pos ⟨rfl,by omega⟩]
    ·rw [if_neg (fun h'=>h h'.2),if_neg (fun h'=>by omega)]
  ·have e1:∀s',(if n=ln x∧x<s' then [x] else [])=([]:List Nat):=fun s'=>if_neg (fun h=>hn h.1)
   rw [e1,e1,List.nil_append]
   by_cases hs:lnx L ln s=n
   ·rw [if_pos hs,mt_one,if_neg]
    rintro ⟨h1,_⟩
    exact hn (by have h1:((n:Nat):Int)=((ln x:Nat):Int):=h1;omega)
   ·rw [if_neg hs];rfl
theorem mt_clZ (H:HT cnt L M ln) (hx:x<L) (hL:L≤256) (h0:0<ln x):∀k,k≤11→mt (vC ln L M x) (ln x) (clZ L M ln k)=if 11<ln x+k then [x] else []
 | 0,_=>by
  have h1:=H.le x hx
  have h2:=H.m11
  rw [if_neg (by omega)];rfl
 | k+1,hk=>by
  rw [clZ,mt_app,mt_clZ H hx hL h0 k (by omega),mt_levU H hx h0]
  by_cases h1:11<ln x+k
  ·rw [if_pos h1,if_neg (by omega),if_pos (by omega)];rfl
  ·rw [if_neg h1]
   by_cases h2:11-k=ln x
   ·rw [if_pos ⟨h2,by omega⟩,if_pos (by omega)];rfl
   ·rw [if_neg (fun h=>h2 h.1),if_neg (by omega)];rfl
theorem mt_some (H:HT cnt L M ln) (hx:x<L) (hL:L≤256) (h0:0<ln x):mt (vC ln L M x) (ln x) (clZ L M ln 11) = [x]:=by
 rw [mt_clZ H hx hL h0 11 (by omega),if_pos (by omega)]
theorem hE_lt (H:HT cnt L M ln):∀ {xs:List Nat},(∀x∈xs,x<L∧0<ln x)→(hE (vC ln L M) ln xs).1<2^(hE (vC ln L M) ln xs).2
 | [],_=>by simp [hE]
 | x::r,h=>by
  have h1:=hE_lt H (xs:=r) (fun y hy=>h y (List.mem_cons_of_mem _ hy))
  obtain ⟨h2,h3⟩:=h x (List.mem_cons_self ..)
  exact add_lt h1 (vC_lt H h2 h3)
theorem top_bits {V T c m n N:Nat} (hV:V<2^T) (hN:N%2^(T+m)=V+c*2^T) (hc:c<2^m) (hn:n≤m):N/2^(T+m-n)%2^n=c/2^(m-n):=by
 have e1:N/2^(T+m-n)%2^n=(N%2^(T+m))/2^(T+m-n):=by
  have:2^(T+m)=2^(T+m-n)*2^n:=by rw [←Nat.pow_add];congr 1;omega
  rw [this,Nat.mod_mul_right_div_self]
 rw [e1,hN,show T+m-n=T+(m-n) by omega,Nat.pow_add, ←Nat.div_div_eq_div_mul]
 congr 1
 rw [Nat.add_mul_div_right _ _ (Nat.two_pow_pos _),Nat.div_eq_of_lt hV,Nat.zero_add]
end
section
variable {w:World} {h rb cb:Nat} {s1:Sl} {ol ys:List Nat} {cnt ln:Nat→Nat} {L M:Nat} {tab:List Cell3}
theorem c52_L2 {A13:Sl×Int×Int×Bool→PT} {r5 x12s:Sl} {v m:Nat} {r16:Int} {base:List Nat} {x2 x3:Int} (V5:Vec 3 w r5 (flat3 tab)) (VB:VecU w x12s base) (hbase:base.length≤2^30) (htab:tab.length≤2816) (hsym:∀c∈tab,c.1<256)
  (d5:∀b∈r5.bs,b∉x12s.bs) (hv:IntKind.i64.wrap (IntKind.i64.wrap (2*x2)+r16)=((v:Nat):Int)) (hm:IntKind.i64.wrap (x3+1)=((m:Nat):Int))
  (hk:∀w' s',VecU w' s' (base++mt v m tab)→Fm w w' x12s.bs→(∀b∈s'.bs,b∈x12s.bs∨w.heap.size≤b)→A13 (s',((v:Nat):Int),((m:Nat):Int), !(mt v m tab).isEmpty) w') :
  loopP (x12s,false,(0:Int)) (q52_L2 r5 (x12s,x2,x3,false) A13 r16) w:=by
 have h5l:=V5.len
 rw [flat3_len] at h5l
 have h5lt:=V5.lt
 refine ⟨fun x w'=>∃j:Nat,j≤tab.length∧x.2=(!(mt v m (tab.take j)).isEmpty,(j:Int))∧VecU w' x.1 (base++mt v m (tab.take j))∧Fm w w' x12s.bs∧(∀b∈x.1.bs,b∈x12s.bs∨w.heap.size≤b),fun x _=>tab.length-x.2.2.toNat,⟨0,Nat.zero_le _,rfl,by simpa [mt] using VB,Fm.refl _ _,fun b hb => .inl hb⟩,?_⟩
 rintro ⟨x,y⟩ w1 ⟨j,hj,hy,V1,F1,n1⟩
 simp only at hy V1 n1
 subst hy
 have V51:=V5.fr F1 d5
 unfold q52_L2
 simp only
 refine cnd_d ?_ ?_
 ·intro hc
  have hj2:j<tab.length:=by omega
  refine joinP_id ?_
  unfold q52_X1
  refine tab_ld j V51 rfl hj2 ?_
  rintro b o ⟨F,HB,f0,f1,f2⟩
  refine ld3_b HB f0 f1 f2 ?_
  refine nw_3i ?_
  intro w2 F2 hs2 B2
  have hq:∀b∈x.bs,b≠w1.heap.size:=fun b hb=>by have:=V1.lt b hb;omega
  have hq5:∀b∈r5.bs,b≠w1.heap.size:=fun b hb=>by have:=V51.lt b hb;omega
  have hsz1:=F1.size
  have hpn:w.heap.size≤w1.heap.size:=hsz1
  generalize w1.heap.size=p at *
  show st _ _ (st _ _ (st _ _ _)) _
  simp only [add_mk,Nat.add_zero,Nat.zero_add]
  refine st_u B2 rfl rfl ?_
  intro w3 B3 F3
  refine st_u B3 rfl rfl ?_
  intro w4 B4 F4
  refine st_u B4 rfl rfl ?_
  intro w5 B5 F5
  have F25:Fm w1 w5 [p]:=(((F2.mono (S' := [p]) (by simp)).trans F3 (fun x hx => .inl hx)).trans F4 (fun x hx => .inl hx)).trans F5 (fun x hx => .inl hx)
  have V5x:=V1.fr F25 (by intro b hb;simp;exact hq b hb)
  have F05:Fm w w5 x12s.bs:=F1.trans F25 (by intro v hv;right;simp at hv;omega)
  have hnext:∀(w6:World) (s6:Sl) (e:List Nat) (fl:Bool),mt v m (tab.take (j+1))=mt v m (tab.take j)++e→fl = !(mt v m (tab.take (j+1))).isEmpty→VecU w6 s6 (base++mt v m (tab.take j)++e)→Fm w w6 x12s.bs→(∀b∈s6.bs,b∈x12s.bs∨w.heap.size≤b) →
    q52_J0 (x, !(mt v m (tab.take j)).isEmpty,(j:Int)) (fun s' w'=>(∃j:Nat,j≤tab.length∧s'.2=(!(mt v m (tab.take j)).isEmpty,(j:Int))∧VecU w' s'.1 (base++mt v m (tab.take j))∧Fm w w' x12s.bs∧(∀b∈s'.1.bs,b∈x12s.bs∨w.heap.size≤b))∧tab.length-s'.2.2.toNat<tab.length-((j:Nat):Int).toNat) (s6,fl) w6:=by
   intro w6 s6 e fl he hfl V6 F6 n6
   unfold q52_J0
   simp only
   rw [wI64 (by omega) (by omega)]
   refine ⟨⟨j+1,hj2,?_,?_,F6,n6⟩,by first|omega|(dsimp only;omega)⟩
   ·rw [hfl];simp
   ·rw [he, ←List.append_assoc];exact V6
  have hmt:=mt_take (v:=v) (n:=m) hj2
  refine ld_b (t := .I .i64) (x:=tab[j].2.2) B5 rfl ?_
  rw [hm]
  have skip:¬(tab[j].2.2=((m:Nat):Int)∧tab[j].2.1=v)→q52_J0 (x, !(mt v m (tab.take j)).isEmpty,(j:Int)) (fun s' w'=>(∃j:Nat,j≤tab.length∧s'.2=(!(mt v m (tab.take j)).isEmpty,(j:Int))∧VecU w' s'.1 (base++mt v m (tab.take j))∧Fm w w' x12s.bs∧(∀b∈s'.1.bs,b∈x12s.bs∨w.heap.size≤b))∧tab.length-s'.2.2.toNat<tab.length-((j:Nat):Int).toNat) (x, !(mt v m (tab.take j)).isEmpty) w5:=by
   intro hno
   rw [if_neg hno,List.append_nil] at hmt
   exact hnext w5 x [] _ (by rw [hmt,List.append_nil]) (by rw [hmt]) (by rw [List.append_nil];exact V5x) F05 n1
  refine cnd_d (fun hlen => ?_) (fun hlen=>skip (fun h=>hlen h.1))
  refine ld_b (t := .I .i64) (x:=((tab[j].2.1:Nat):Int)) B5 rfl ?_
  rw [hv]
  refine cnd_d (fun hnum => ?_) (fun hnum=>skip (fun h=>hnum (by rw [h.2])))
  refine ld_b (t := .I .i64) (x:=((tab[j].1:Nat):Int)) B5 rfl ?_
  have hs:=hsym _ (List.getElem_mem hj2)
  rw [wU8 (x:=((tab[j].1:Nat):Int)) (by omega) (by omega)]
  have hyes:tab[j].2.2=((m:Nat):Int)∧tab[j].2.1=v:=⟨hlen,by first|omega|(dsimp only;omega)⟩
  rw [if_pos hyes] at hmt
  have hxl:=V5x.len
  have hml:(mt v m (tab.take j)).length≤tab.length:=by
   unfold mt
   rw [List.length_map]
   exact Nat.le_trans (List.length_filter_le _ _) (by rw [List.length_take];omega)
  rw [List.length_append] at hxl
  refine app_1u V5x (by omega) ?_
  intro s6 w6 V6 F6 n6
  refine hnext w6 s6 [tab[j].1] true hmt (by rw [hmt];simp) V6 (F05.trans F6 n1) ?_
  intro b hb
  have hsz5:=F05.size
  rcases n6 b hb with h6|h6
  ·exact n1 b h6
  ·right;omega
 ·intro hc
  have hj2:j=tab.length:=by omega
  subst hj2
  rw [hv,hm]
  rw [List.take_length] at V1 ⊢
  exact hk w1 x V1 F1 n1
end
theorem hE_mod {cnt ln:Nat→Nat} {L M N:Nat} (H:HT cnt L M ln) {ys:List Nat} (hy:∀x∈ys,x<L∧0<ln x) (hN:N=(hE (vC ln L M) ln ys).1+2^(hE (vC ln L M) ln ys).2):∀i,i≤ys.length→N%2^(hE (vC ln L M) ln (ys.drop i)).2=(hE (vC ln L M) ln (ys.drop i)).1
 | 0,_=>by
  have h:=hE_lt H hy
  rw [List.drop_zero,hN,Nat.add_mod_right,Nat.mod_eq_of_lt h]
 | i+1,hi=>by
  have ih:=hE_mod H hy hN i (by omega)
  have hd:=hE_drop (cd:=vC ln L M) (ln:=ln) (xs:=ys) (i:=i) (by omega)
  have hlt:=hE_lt H (xs:=ys.drop (i+1)) (fun x hx=>hy x (List.mem_of_mem_drop hx))
  rw [hd] at ih
  simp only at ih
  have hdv:2^(hE (vC ln L M) ln (ys.drop (i+1))).2∣2^((hE (vC ln L M) ln (ys.drop (i+1))).2+ln ys[i]):=Nat.pow_dvd_pow 2 (by omega)
  rw [←Nat.mod_mod_of_dvd N hdv,ih,Nat.add_mul_mod_self_right,Nat.mod_eq_of_lt hlt]
theorem hE_two_le {cd ln:Nat→Nat} {ys:List Nat} {i:Nat} (hy:∀x∈ys,0<ln x) (hi:i<ys.length):0<(hE cd ln (ys.drop i)).2:=by
 rw [hE_drop hi]
 have:=hy _ (List.getElem_mem hi)
 simp only;omega
section
variable {w:World} {s1:Sl} {ol ys:List Nat} {cnt ln:Nat→Nat} {L M lb:Nat} {f:Nat→Int}
theorem c52 {K:Sl×Bool→PT} {most:Int} (H:HT cnt L M ln) (hL:L≤256) (B:Blk w lb (arrC .i64 256 f)) (hf:∀i,f i=(lnx L ln i:Nat)) (A:Arr .u8 w s1 ol) (E:EncT (vC ln L M) ln ys ol) (hy:∀x∈ys,x<L∧0<ln x) (hyl:ys.length≤2^18) (hmost:(ys.length:Int)≤most)
  (hk:∀w' s',VecU w' s' ys→Fm w w' []→(∀b∈s'.bs,w.heap.size≤b)→K (s',true) w') :
  callP Tryd.prog 52 #[.slice (some ⟨lb,0,none⟩) 256 256,.slice s1.a s1.l s1.c,.int .i64 most] [.c .S,.c .B] K w:=by
 have hb:=E.1
 have hN:=E.2.1
 have hlen:=E.2.2
 have hlt0:=hE_lt H hy
 have hln11:∀x∈ys,ln x≤11:=fun x hx=>by have:=H.le x (hy x hx).1;have:=H.m11;omega
 have hT11:=hE_le (cd:=vC ln L M) hln11
 have hback:backZ ol=some (hE (vC ln L M) ln ys).2:=back_of hb hlen (by omega) (by rw [Nat.pow_succ];omega)
 have hmod:=hE_mod H hy hN
 apply q52_ok (s0:=⟨some ⟨lb,0,none⟩,256,256⟩)
 unfold q52
 refine c72 A hb (by omega) (fun h=>by rw [hback] at h;cases h) ?_
 intro left hleft w1 F1 B1
 rw [hback] at hleft
 injection hleft with hleft
 subst hleft
 have hoe:ol ≠ []:=by intro e;rw [e] at hlen;simp at hlen
 have hds:∀a,s1.a=some a→ol ≠ []→a.block≠w.heap.size:=fun a ha hx=>by have:=A.old hx a ha;omega
 have hh1:=B1.lt
 refine ⟨(fun h=>by cases h),fun _ => ?_⟩
 refine c73 H hL (B.fr F1 (by simp)) hf ?_
 intro w2 r5 V5 F2 n5
 have F12:Fm w w2 []:=F1.trans F2 (by simp)
 have B2:=B1.fr F2 (by simp)
 have A2:=A.fr F12 (by simp)
 have hsz2:=F2.size
 have hhn:w.heap.size≤w.heap.size:=Nat.le_refl _
 generalize hhe:w.heap.size=h at *
 have h5lt:=V5.lt
 refine joinP_id ?_
 refine ⟨fun x w'=>∃i:Nat,i≤ys.length∧VecU w' x (ys.take i)∧Blk w' h (rbC s1 ((hE (vC ln L M) ln (ys.drop i)).2:Nat))∧Fm w2 w' [h]∧(∀b∈x.bs,w2.heap.size≤b),fun x _=>ys.length-x.l,⟨0,Nat.zero_le _,VecU.nil,by rw [List.drop_zero];exact B2,Fm.refl _ _,by simp [Sl.bs]⟩,?_⟩
 rintro x w3 ⟨i,hi,V3,B3,F3,n3⟩
 have hx3:=V3.len
 rw [List.length_take,Nat.min_eq_left hi] at hx3
 unfold q52_L5
 refine ⟨_,rfl,?_⟩
 simp only [add_mk,Nat.zero_add]
 refine ld_b (t := .I .i64) (x:=(((hE (vC ln L M) ln (ys.drop i)).2:Nat):Int)) B3 rfl ?_
 refine cnd_d ?_ ?_
 ·intro hpos
  have hi2:i<ys.length:=by
   refine Classical.byContradiction fun hn => ?_
   rw [List.drop_of_length_le (by omega)] at hpos
   simp [hE] at hpos
  refine cnd_d (fun hle=>absurd hle (by omega)) (fun _ => ?_)
  obtain ⟨hxL,hx0⟩:=hy _ (List.getElem_mem hi2)
  have hx11:=hln11 _ (List.getElem_mem hi2)
  have hd:=hE_drop (cd:=vC ln L M) (ln:=ln) hi2
  have hc:=vC_lt H hxL hx0
  have hV:=hE_lt H (xs:=ys.drop (i+1)) (fun x hx=>hy x (List.mem_of_mem_drop hx))
  have hmi:=hmod i hi
  rw [hd] at hmi B3
  have hTi:(hE (vC ln L M) ln (ys.drop i)).2≤11*ys.length:=by
   have:=hE_le (cd:=vC ln L M) (xs:=ys.drop i) (fun x hx=>hln11 x (List.mem_of_mem_drop hx))
   rw [List.length_drop] at this
   omega
  rw [hd] at hTi
  simp only at hmi B3 hTi
  generalize hx':ys[i]=x0 at *
  generalize hT':(hE (vC ln L M) ln (ys.drop (i+1))).2=T' at *
  generalize hV':(hE (vC ln L M) ln (ys.drop (i+1))).1=V' at *
  have hpl:vC ln L M x0<2048:=Nat.lt_of_lt_of_le hc (Nat.pow_le_pow_right (by omega) hx11:2^_≤2^11)
  refine joinP_id ?_
  refine ⟨fun y w'=>Fm w2 w' [h]∧(∀b∈y.1.bs,w2.heap.size≤b)∧((∃m,m<ln x0∧y.2=(((vC ln L M x0/2^(ln x0-m):Nat):Int),((m:Nat):Int),false)∧VecU w' y.1 (ys.take i)∧Blk w' h (rbC s1 ((T'+ln x0-m:Nat):Int)))∨(y.2=(((vC ln L M x0:Nat):Int),((ln x0:Nat):Int),true)∧VecU w' y.1 (ys.take (i+1))∧Blk w' h (rbC s1 ((T':Nat):Int)))),fun y _=>20-y.2.2.1.toNat,
   ⟨F3,n3,.inl ⟨0,hx0,?_,V3,B3⟩⟩,?_⟩
  ·rw [Nat.sub_zero,Nat.div_eq_of_lt hc];rfl
  rintro ⟨y,z⟩ w4 ⟨F4,n4,hcase⟩
  simp only at n4 hcase
  unfold q52_L3
  refine ⟨_,rfl,?_⟩
  simp only [add_mk,Nat.zero_add]
  rcases hcase with ⟨m,hm,rfl,V4,B4⟩|⟨rfl,V4,B4⟩
  ·refine ld_b (t := .I .i64) (x:=((T'+ln x0-m:Nat):Int)) B4 rfl ?_
   refine cnd_d (fun _ => ?_) (fun hn=>absurd hn (by omega))
   refine ⟨fun _ => ?_,(fun h=>by cases h)⟩
   refine cnd_d (fun _ => ?_) (fun hn=>absurd hn (by first|omega|(dsimp only;omega)))
   have A4:=A2.fr F4 (by intro a ha hx;simp;exact hds a ha hx)
   refine c59 (n:=1) B4 A4 hds hb (by omega) (by omega) (by omega) ?_
   intro w5 B5 F5
   have hyb:∀b∈y.bs,b ∉ [h]:=by intro b hb;have:=n4 b hb;simp;omega
   have V5':=V4.fr F5 hyb
   have F45:Fm w2 w5 [h]:=F4.trans F5 (fun x hx => .inl hx)
   have h5y:∀b∈r5.bs,b∉y.bs:=fun b hb hb'=>by have:=n4 b hb';have:=h5lt b hb;omega
   have h5h:∀b∈r5.bs,b ∉ [h]:=by
    intro b hb
    have:=n5 b hb
    simp;omega
   have ebit:tkB ol 1 ((T'+ln x0-m:Nat):Int)=vC ln L M x0/2^(ln x0-(m+1))%2:=by
    rw [tkB_val ol 1 (T'+ln x0-m) (by omega)]
    have ht:=top_bits (n:=m+1) hV hmi hc (by omega)
    rw [←ht,show T'+ln x0-m-1=T'+ln x0-(m+1) by omega,Nat.pow_one,Nat.mod_mod_of_dvd _ (by exact ⟨2^m,by rw [Nat.pow_succ];omega⟩)]
   have ev:2*(vC ln L M x0/2^(ln x0-m))+vC ln L M x0/2^(ln x0-(m+1))%2=vC ln L M x0/2^(ln x0-(m+1)):=by
    have:vC ln L M x0/2^(ln x0-m)=vC ln L M x0/2^(ln x0-(m+1))/2:=by
     rw [Nat.div_div_eq_div_mul, ←Nat.pow_succ]
     congr 2;omega
    rw [this];omega
   have hvle:vC ln L M x0/2^(ln x0-m)≤vC ln L M x0:=Nat.div_le_self _ _
   rw [ebit]
   have hcl:=clZ_len L M ln 11
   dsimp only
   refine c52_L2 (tab:=clZ L M ln 11) (v:=vC ln L M x0/2^(ln x0-(m+1))) (m:=m+1) (base:=ys.take i) (V5.fr F45 h5h) V5' (by rw [List.length_take];omega) (by omega) ?_ h5y ?_ ?_ ?_
   ·intro c hc'
    obtain ⟨j,n,h1,h2,rfl⟩:=clZ_mem hc'
    exact h1
   ·have:vC ln L M x0/2^(ln x0-(m+1))%2<2:=Nat.mod_lt _ (by omega)
    rw [wI64 (x:=2*_) (by omega) (by omega),wI64 (by omega) (by omega), ←ev]
    omega
   ·rw [wI64 (by omega) (by omega)];omega
   ·intro w6 s6 V6 F6 n6
    have F46:Fm w2 w6 [h]:=F45.trans F6 (fun v hv => .inr (n4 v hv))
    have n6':∀b∈s6.bs,w2.heap.size≤b:=by
     intro b hb
     have hs5:=F45.size
     rcases n6 b hb with h6|h6
     ·exact n4 b h6
     ·omega
    have hhy:h∉y.bs:=fun hh=>by have:=n4 h hh;omega
    have B6:=B5.fr F6 hhy
    refine ⟨⟨F46,n6',?_⟩,by first|omega|(dsimp only;omega)|(simp only [];omega)⟩
    by_cases hm2:m+1<ln x0
    ·left
     rw [mt_none H hxL (by omega) hm2 11] at V6 ⊢
     rw [List.append_nil] at V6
     refine ⟨m+1,hm2,rfl,V6,?_⟩
     rw [show ((T'+ln x0-(m+1):Nat):Int)=((T'+ln x0-m:Nat):Int)-1 by omega]
     exact B6
    ·right
     have em:m+1=ln x0:=by omega
     have e0:vC ln L M x0/2^(ln x0-(m+1))=vC ln L M x0:=by rw [em,Nat.sub_self,Nat.pow_zero,Nat.div_one]
     rw [e0,em,mt_some H hxL hL hx0] at V6
     rw [e0,em,mt_some H hxL hL hx0]
     refine ⟨rfl,?_,?_⟩
     ·rw [List.take_succ_eq_append_getElem hi2,hx'];exact V6
     ·rw [show ((T':Nat):Int)=((T'+ln x0-m:Nat):Int)-1 by omega]
      exact B6
  ·have fin:q52_J4 K (fun s' w'=>(∃i:Nat,i≤ys.length∧VecU w' s' (ys.take i)∧Blk w' h (rbC s1 ((hE (vC ln L M) ln (ys.drop i)).2:Nat))∧Fm w2 w' [h]∧(∀b∈s'.bs,w2.heap.size≤b))∧ys.length-s'.l<ys.length-x.l) (y,true) w4:=by
    unfold q52_J4
    refine ⟨(fun h=>by cases h),fun _ => ?_⟩
    have hyl4:=V4.len
    rw [List.length_take,Nat.min_eq_left (by omega)] at hyl4
    refine ⟨⟨i+1,hi2,V4,?_,F4,n4⟩,by first|omega|(dsimp only;omega)|(simp only [];omega)⟩
    rw [hT'];exact B4
   refine ld_b (t := .I .i64) (x:=((T':Nat):Int)) B4 rfl ?_
   exact cnd_d (fun _=>⟨(fun h=>by cases h),fun _=>fin⟩) (fun _=>fin)
 ·intro hz
  have hi2:i=ys.length:=by
   refine Classical.byContradiction fun hn => ?_
   have:=hE_two_le (cd:=vC ln L M) (ln:=ln) (fun x hx=>(hy x hx).2) (show i<ys.length by omega)
   omega
  subst hi2
  rw [List.take_length] at V3
  unfold q52_J6
  refine hk w3 x V3 (F12.trans F3 (by intro v hv;right;simp at hv;omega)) ?_
  intro b hb
  have:=n3 b hb
  omega
end
def atP (ols:List (List Nat)) (i:Nat):Nat:=6+(ols.take i).flatten.length
theorem atP_succ {ols:List (List Nat)} {i:Nat} (h:i<ols.length):atP ols (i+1)=atP ols i+lenP ols i:=by
 unfold atP lenP
 rw [List.take_succ_eq_append_getElem h,List.flatten_append,List.length_append,List.getD_eq_getElem?_getD,List.getElem?_eq_getElem h]
 simp;omega
theorem out4_len (ols:List (List Nat)):(Out4 ols).length=6+ols.flatten.length:=by unfold Out4;rw [List.length_append];rfl
theorem atP_le {ols:List (List Nat)} {i:Nat} : atP ols i≤(Out4 ols).length:=by
 rw [out4_len]
 unfold atP
 have:ols.flatten=(ols.take i).flatten++(ols.drop i).flatten:=by rw [←List.flatten_append,List.take_append_drop]
 rw [this,List.length_append];omega
theorem out4_part {ols:List (List Nat)} {i:Nat} (h:i<ols.length):((Out4 ols).drop (atP ols i)).take (lenP ols i)=ols.getD i []:=by
 have e1:ols.flatten=(ols.take i).flatten++(ols[i]++(ols.drop (i+1)).flatten):=by
  have:ols=ols.take i++ols[i]::ols.drop (i+1):=by rw [←List.drop_eq_getElem_cons h,List.take_append_drop]
  have e:=congrArg List.flatten this
  rw [List.flatten_append,List.flatten_cons] at e
  exact e
 have e2:ols.getD i []=ols[i]:=by rw [List.getD_eq_getElem?_getD,List.getElem?_eq_getElem h];rfl
 have e3:atP ols i=(hdr6 (lenP ols 0) (lenP ols 1) (lenP ols 2)++(ols.take i).flatten).length:=by rw [List.length_append];rfl
 unfold lenP
 rw [e2]
 unfold Out4
 rw [e1, ←List.append_assoc,e3]
 unfold lenP
 rw [List.drop_left,List.take_left]
theorem seg_take (xs:List Nat) (i:Nat):xs.take (i*segN xs.length)++segP xs i=xs.take ((i+1)*segN xs.length):=by
 unfold segP
 rw [Nat.succ_mul,List.take_add]
section
variable {w:World} {s0 s1:Sl} {tbl ol xs:List Nat} {cnt ln:Nat→Nat} {L M:Nat} {f:Nat→Int} {b:Bool}
theorem c26 {K4:Sl×Bool→PT} (H:HT cnt L M ln) (hL:L≤256) (hz:hlZ tbl=some (f,tbl.length)) (hf:∀i,f i=(lnx L ln i:Nat)) (AT:Arr .u8 w s0 tbl) (hbt:By tbl) (hbl:tbl.length<2^40) (AD:Arr .u8 w s1 ol) (hol:ol.length<2^40) (E:EncB b (vC ln L M) ln xs ol) (hy:∀x∈xs,x<L∧0<ln x) (hxl:xs.length≤2^18)
  (hk:∀w' s',VecU w' s' xs→Fm w w' []→K4 (s',true) w') :
  callP Tryd.prog 26 #[.slice s0.a s0.l s0.c,.slice s1.a s1.l s1.c,.bool b,.int .i64 (xs.length:Nat)] [.c .S,.c .B] K4 w:=by
 have h0l:=AT.len
 have h1l:=AD.len
 apply q26_ok
 unfold q26
 refine c15 AT hbt hbl (fun h=>by rw [hz] at h;cases h) ?_
 intro f' used hz' w1 lb F1 hlb B1
 rw [hz] at hz'
 injection hz' with hz'
 injection hz' with e1 e2
 subst e1 e2
 have AD1:=AD.fr F1 (by simp)
 refine ⟨(fun h=>by cases h),fun _=>cnd_nd (fun h=>absurd (by first|omega|(dsimp only;omega)|(simp only [];omega)) h) (fun _=>cnd_d (fun h=>absurd h (by omega)) (fun _ => ?_))⟩
 cases b with
 | false =>
  refine ⟨fun _ => ?_,fun h=>by cases h⟩
  have E:EncT (vC ln L M) ln xs ol:=E
  refine c52 H hL B1 hf AD1 E hy hxl (Int.le_refl _) ?_
  intro w2 s' V2 F2 n2
  have hs':=V2.len
  refine joinP_id ⟨fun _ => ?_,fun h=>by cases h⟩
  unfold q26_J0
  simp only
  rw [decide_eq_true (by omega)]
  exact hk w2 s' V2 (F1.trans F2 (by simp))
 | true =>
  refine ⟨(fun h=>by cases h),fun _ => ?_⟩
  obtain ⟨h12,ols,h4,hparts,rfl⟩:Enc4 (vC ln L M) ln xs ol:=E
  have holen:=out4_len ols
  refine cnd_d (fun h=>absurd h (by omega)) (fun _=>⟨by decide,?_⟩)
  refine joinP_id ?_
  have hsg:segN xs.length=(xs.length+3)/4:=rfl
  refine ⟨fun x w'=>∃i:Nat,i≤4∧x.2=(((atP ols i:Nat):Int),(i:Int))∧VecU w' x.1 (xs.take (i*segN xs.length))∧Fm w1 w' []∧(∀v∈x.1.bs,w1.heap.size≤v),fun x _=>5-x.2.2.toNat,⟨0,by omega,rfl,by rw [Nat.zero_mul];exact VecU.nil,Fm.refl _ _,by simp [Sl.bs]⟩,?_⟩
  rintro ⟨x,y⟩ w2 ⟨i,hi,hy2,V2,F2,n2⟩
  simp only at hy2 V2 n2
  subst hy2
  have hxl2:=V2.len
  rw [List.length_take] at hxl2
  unfold q26_L4
  simp only
  refine cnd_d ?_ ?_
  ·intro hc
   have hi4:i<4:=by omega
   have hio:i<ols.length:=by omega
   have hat:=atP_succ hio
   have hle:=atP_le (ols:=ols) (i:=i+1)
   obtain ⟨hEi,hl65⟩:=hparts i hi4
   have hat6:6≤atP ols i:=by unfold atP;omega
   have hpl:(segP xs i).length=min (segN xs.length) (xs.length-i*segN xs.length):=by unfold segP;rw [List.length_take,List.length_drop]
   have body:∀w3,Fm w1 w3 []→VecU w3 x (xs.take (i*segN xs.length))→q26_J2 s1 ((xs.length:Nat):Int) K4 (⟨some ⟨lb,0,none⟩,256,256⟩,((tbl.length:Nat):Int),true) (x,((atP ols i:Nat):Int),((i:Nat):Int)) (fun s' w'=>(∃i:Nat,i≤4∧s'.2=(((atP ols i:Nat):Int),(i:Int))∧VecU w' s'.1 (xs.take (i*segN xs.length))∧Fm w1 w' []∧(∀v∈s'.1.bs,w1.heap.size≤v))∧5-s'.2.2.toNat<5-((i:Nat):Int).toNat) ((lenP ols i:Nat):Int) w3:=by
    intro w3 F3 V3
    unfold q26_J2
    refine joinP_id ?_
    have go:q26_J1 s1 K4 (⟨some ⟨lb,0,none⟩,256,256⟩,((tbl.length:Nat):Int),true) (x,((atP ols i:Nat):Int),((i:Nat):Int)) (fun s' w'=>(∃i:Nat,i≤4∧s'.2=(((atP ols i:Nat):Int),(i:Int))∧VecU w' s'.1 (xs.take (i*segN xs.length))∧Fm w1 w' []∧(∀v∈s'.1.bs,w1.heap.size≤v))∧5-s'.2.2.toNat<5-((i:Nat):Int).toNat) ((lenP ols i:Nat):Int) (((segP xs i).length:Nat):Int) w3:=by
     unfold q26_J1
     simp only
     rw [wI64 (x:=((atP ols i:Nat):Int)+((lenP ols i:Nat):Int)) (by omega) (by omega)]
     refine cnd_d (fun h=>absurd h (by omega)) (fun _=>cnd_d (fun h=>absurd h (by omega)) (fun _ => ?_))
     have AD3:=AD1.fr F3 (by simp)
     have hsub:=AD3.sub (atP ols i) (atP ols i+lenP ols i) (by omega) (by omega)
     rw [show atP ols i+lenP ols i-atP ols i=lenP ols i by omega,out4_part hio] at hsub
     refine slc_lh (n:=atP ols i) (m:=atP ols i+lenP ols i) rfl (by omega) (by omega) (by have:=AD3.cap;omega) ?_
     rw [show atP ols i+lenP ols i-atP ols i=lenP ols i by omega]
     refine c52 (s1:=⟨slA s1.a (atP ols i) s1.c 1,lenP ols i,s1.c-atP ols i⟩) H hL (B1.fr F3 (by simp)) hf hsub hEi (fun z hz=>hy z (List.mem_of_mem_drop (List.mem_of_mem_take hz))) (by omega) (Int.le_refl _) ?_
     intro w4 s' V4 F4 n4
     have hs':=V4.len
     refine ⟨(fun h=>by cases h),fun _=>cnd_nd (fun h=>absurd (by first|omega|(dsimp only;omega)|(simp only [];omega)) h) (fun _ => ?_)⟩
     have V34:=V3.fr F4 (by simp)
     refine app_vu (xs:=segP xs i) V34 V4.vec.arr.has (by first|omega|(dsimp only;omega)|(simp only [];omega)) ?_
     intro s6 w6 V6 F6 n6
     rw [wI64 (by omega) (by omega)]
     have hs3:=F3.size
     have hs4:=F4.size
     refine ⟨⟨i+1,by omega,?_,?_,(F3.trans F4 (by simp)).trans F6 (fun v hv => .inr (n2 v hv)),?_⟩,by first|omega|(dsimp only;omega)|(simp only [];omega)⟩
     ·rw [Prod.mk.injEq]
      exact ⟨by omega,by first|omega|(dsimp only;omega)⟩
     ·rw [←seg_take];exact V6
     ·intro v hv
      rcases n6 v hv with h|h
      ·exact n2 v h
      ·omega
    simp only
    refine cnd_d (fun h3 => ?_) (fun h3 => ?_)
    ·rw [wI64 (by omega) (by omega)]
     have e:((xs.length:Nat):Int)-(x.l:Int)=(((segP xs i).length:Nat):Int):=by
      have:i=3:=by omega
      subst this
      rw [hpl];omega
     rw [e];exact go
    ·have e:minI (quoI .i64 (IntKind.i64.wrap (((xs.length:Nat):Int)+3)) 4) (IntKind.i64.wrap (((xs.length:Nat):Int)-(x.l:Int)))=(((segP xs i).length:Nat):Int):=by
      rw [wI64 (x:=((xs.length:Nat):Int)+3) (by omega) (by omega),wI64 (by omega) (by omega),show ((xs.length:Nat):Int)+3=((xs.length+3:Nat):Int) by omega,show (4:Int)=((4:Nat):Int) from rfl,quoI_nat _ _ _ (by simp only [IntKind.bits];omega)]
      unfold minI
      have:i=0∨i=1∨i=2:=by omega
      rcases this with rfl|rfl|rfl<;>(split<;>omega)
     rw [e];exact go
   refine joinP_id ?_
   unfold q26_X3
   simp only
   refine cnd_d (fun h3 => ?_) (fun h3 => ?_)
   ·have Fd:Fm w1 w2.drew []:=F2.drew
    have ADd:=AD1.fr Fd (by simp)
    have Vd:=V2.fr (Fm.refl w2 []).drew (by simp)
    unfold drw
    rw [wI64 (x:=2*((i:Nat):Int)) (by omega) (by omega),wI64 (x:=2*((i:Nat):Int)+1) (by omega) (by omega)]
    have hb0:(Out4 ols)[2*i]'(by omega)=lenP ols i%256∧(Out4 ols)[2*i+1]'(by omega)=lenP ols i/256%256:=by
     have:i=0∨i=1∨i=2:=by omega
     rcases this with rfl|rfl|rfl<;>simp [Out4,hdr6]
    refine ADd.ldk (2*i) (by omega) (by omega) ?_
    intro p hp
    rw [hb0.1] at hp
    refine ld_c (t := .I .u8) (x:=((lenP ols i%256:Nat):Int)) hp ?_
    refine ADd.ldk (2*i+1) (by omega) (by omega) ?_
    intro q hq
    rw [hb0.2] at hq
    refine ld_c (t := .I .u8) (x:=((lenP ols i/256%256:Nat):Int)) hq ?_
    have e:IntKind.i64.wrap (IntKind.i64.wrap ((lenP ols i%256:Nat):Int)+IntKind.i64.wrap (256*IntKind.i64.wrap ((lenP ols i/256%256:Nat):Int)))=((lenP ols i:Nat):Int):=by
     rw [wI64 (x:=((lenP ols i%256:Nat):Int)) (by omega) (by omega),wI64 (x:=((lenP ols i/256%256:Nat):Int)) (by omega) (by omega),wI64 (x:=256*_) (by omega) (by omega),wI64 (by omega) (by omega)]
     omega
    rw [e]
    exact body _ Fd Vd
   ·have e:IntKind.i64.wrap ((s1.l:Int)-((atP ols i:Nat):Int))=((lenP ols i:Nat):Int):=by
     have hi3:i=3:=by omega
     subst hi3
     have h44:atP ols 4=(Out4 ols).length:=by
      rw [holen]
      unfold atP
      rw [List.take_of_length_le (by omega)]
     have hat':atP ols 4=atP ols 3+lenP ols 3:=hat
     rw [wI64 (by omega) (by omega)]
     omega
    rw [e]
    exact body w2 F2 V2
  ·intro hc
   have hi4:i=4:=by omega
   subst hi4
   rw [List.take_of_length_le (by omega)] at V2
   unfold q26_J5
   exact hk w2 x V2 (F1.trans F2 (by simp))
end
def updS (G:Nat→Sl) (o:Nat) (s:Sl):Nat→Sl:=fun i=>if i=o then s else G i
structure ArS (w:World) (s:Sl) (l:List Sl):Prop where
 len:s.l=l.length
 cap:s.l≤s.c
 non:s.a=none→l = []
 get:∀b,s.a=some b→∀i (h:i<l.length),w.cell? (b.add i)=some (l[i]).val
theorem ArS.fr {w w':World} {s:Sl} {l:List Sl} {S:List Nat} (h:ArS w s l) (h':Fm w w' S) (hS:∀a,s.a=some a→l ≠ []→a.block∉S):ArS w' s l:=by
 refine ⟨h.len,h.cap,h.non,?_⟩
 intro b hb i hi
 have h1:=h.get b hb i hi
 rw [←h1]
 have h2:=World.block_lt_of_cell? _ _ h1
 have h3:(b.add i).block=b.block:=by unfold Addr.add;split<;>rfl
 rw [h3] at h2
 have h4:=h'.old b.block h2 (hS b hb (by intro e;subst e;simp at hi))
 have h5:b.add i=⟨b.block,(b.add i).off,(b.add i).spot⟩:=by rw [←h3]
 rw [h5]
 exact cell?_of_heap h4 _ _
theorem ArS.old {w:World} {s:Sl} {l:List Sl} (h:ArS w s l) (hl:l ≠ []):∀a,s.a=some a→a.block<w.heap.size:=by
 intro a ha
 have h1:=h.get a ha 0 (List.length_pos_iff.mpr hl)
 have h2:=World.block_lt_of_cell? _ _ h1
 have h3:(a.add 0).block=a.block:=by unfold Addr.add;split<;>rfl
 rw [h3] at h2
 exact h2
theorem ArS.ldS {w:World} {s:Sl} {l:List Sl} (h:ArS w s l) {i:Int} (n:Nat) {κ:Sl→PT} (hi:i=n) (hn:n<l.length) (hk:κ l[n] w):ixS 1 s i (fun p=>ld .S p κ) w:=by
 cases ha:s.a with
 | none=>have:=h.non ha;subst this;simp at hn
 | some b=>exact ⟨b,ha,n,hi,h.len▸hn,l[n],by rw [Nat.mul_one];exact h.get b ha n hn,hk⟩
theorem Vec.ldV {w:World} {s:Sl} {l:List Value} {t:CT} {x:t.ty} {i:Int} {κ:t.ty→PT} (h:Vec 1 w s l) (n:Nat) (hi:i=n) (hn:n<l.length) (he:l[n]=t.mk x) (hk:κ x w):ixS 1 s i (fun p=>ld t p κ) w:=by
 have hl:=h.len
 cases ha:s.a with
 | none=>have h1:=h.non ha;have h2:=h.cap;omega
 | some b =>
  obtain ⟨h1,h2,f,h3,h4,h5⟩:=h.blk b ha
  obtain ⟨ab,ao,asp⟩:=b
  simp only at h1 h2 h3
  subst h1 h2
  refine ⟨_,ha,n,hi,by omega,x,?_,hk⟩
  rw [Nat.mul_one,add_mk,Nat.zero_add,h3.cell,h4 n hn,List.getElem?_eq_getElem hn,he]
theorem HW.ext {w w':World} {g:Nat} {s:HU} {col col':Nat→Nat} {S:List Nat} (W:HW w g s col) (F:Fm w w' S) (hS:∀v∈S,v<w.heap.size→7≤col v) (hc:∀v,v<w.heap.size→col' v=col v):HW w' g s col':=by
 have h9:=W.gl.size
 have k:∀r,r<7→Keep w col col' S r:=fun r hr=>⟨fun v hv hl e=>by have:=hS v hv hl;omega,hc⟩
 have n9:∀v∈S,9≤v:=by
  intro v hv
  rcases Nat.lt_or_ge v w.heap.size with h|h
  ·exact W.nine (by have:=hS v hv h;omega)
  ·omega
 have hg:=W.blk.lt
 refine ⟨W.blk.fr F ((k 1 (by omega)).out W.cg hg),(hc g hg).trans W.cg,fun v hv=>(hc v (by omega)).trans (W.low v hv),W.out.mv F (k 2 (by omega)),W.nod.imp id (fun h=>h.mv F (k 3 (by omega))),W.ct.mv F (k 4 (by omega)),W.pt.mv F (k 5 (by omega)),W.ptv.imp id (fun ⟨M,ln,L,h⟩=>⟨M,ln,L,h.mv F (fun v hv=>(k 5 (by omega)).out (W.pt.co v hv) (W.pt.own.lt v hv))⟩),W.fse.imp id (fun h=>h.mv F (k 6 (by omega))),W.gl.fm F n9,fun i hi=>(W.er i hi).fm F (fun h=>by have:=n9 i h;omega),W.mx,W.cz⟩
theorem HW.ptx {w w':World} {g M L:Nat} {s:HU} {col:Nat→Nat} {S:List Nat} {ln:Nat→Nat} (W:HW w g s col) (F:Fm w w' S) (hS:∀v∈S,v<w.heap.size→7≤col v) (h:PTc w s.pt M ln L):PTc w' s.pt M ln L :=
 h.mv F (fun v hv hm=>by have h1:=W.pt.co v hv;have h2:=hS v hm (W.pt.own.lt v hv);omega)
structure TabL (tbl:List Nat) (M:Nat) (ln:Nat→Nat) (L:Nat):Prop where
 h:∃cnt,HT cnt L M ln
 l256:L≤256
 by_:By tbl
 le:tbl.length≤2^20
 hl:∃f,hlZ tbl=some (f,tbl.length)∧∀i,f i=(lnx L ln i:Nat)
structure RB where
 k:Int
 o:List Nat
 t:List Nat
 r:Bool
section
variable {w w':World} {col col':Nat→Nat} {S:List Nat} {i1 i2 i3 i4:Nat} {x1 x2 x3 x4 y r:Sl} {OS TS:Nat→Sl} {R:Nat→RB}
structure SI (w:World) (i1 i2 i3 i4:Nat) (x1 x2 x3 x4:Sl) (col:Nat→Nat) (OS TS:Nat→Sl) (R:Nat→RB):Prop where
 v1:Vec 1 w x1 ((List.range i1).map fun j=>(OS j).val)
 v2:Vec 1 w x2 ((List.range i2).map fun j=>(TS j).val)
 v3:Vec 1 w x3 ((List.range i3).map fun j=>Value.bool (R j).r)
 v4:Vec 1 w x4 ((List.range i4).map fun j=>Value.int .i64 (R j).k)
 c1:∀v∈x1.bs,col v=11
 c2:∀v∈x2.bs,col v=12
 c3:∀v∈x3.bs,col v=13
 c4:∀v∈x4.bs,col v=14
 o:∀j,j<i1→VecU w (OS j) (R j).o
 oc:∀j,j<i1→∀v∈(OS j).bs,col v=7
 t:∀j,j<i2→VecU w (TS j) (R j).t
 tc:∀j,j<i2→∀v∈(TS j).bs,col v=7
theorem nown {c:Nat} (h:7≤c):¬own c:=fun h'=>by have:=h'.2;omega
theorem SI.mv (h:SI w i1 i2 i3 i4 x1 x2 x3 x4 col OS TS R) (F:Fm w w' S) (hS:∀v∈S,v<w.heap.size→own (col v)) (hc:∀v,v<w.heap.size→¬own (col v)→col' v=col v):SI w' i1 i2 i3 i4 x1 x2 x3 x4 col' OS TS R:=by
 have k:∀ {bs:List Nat} {c:Nat},7≤c→(∀v∈bs,col v=c)→(∀v∈bs,v<w.heap.size)→(∀v∈bs,v∉S)∧∀v∈bs,col' v=c:=by
  intro bs c h7 hb hl
  refine ⟨?_,?_⟩
  ·intro v hv hm
   have:=hS v hm (hl v hv)
   rw [hb v hv] at this
   exact nown h7 this
  ·intro v hv
   rw [hc v (hl v hv) (by rw [hb v hv];exact nown h7)]
   exact hb v hv
 obtain ⟨a1,b1⟩:=k (by omega) h.c1 h.v1.lt
 obtain ⟨a2,b2⟩:=k (by omega) h.c2 h.v2.lt
 obtain ⟨a3,b3⟩:=k (by omega) h.c3 h.v3.lt
 obtain ⟨a4,b4⟩:=k (by omega) h.c4 h.v4.lt
 refine ⟨h.v1.fr F a1,h.v2.fr F a2,h.v3.fr F a3,h.v4.fr F a4,b1,b2,b3,b4,?_,?_,?_,?_⟩
 ·intro j hj;exact (h.o j hj).fr F (k (by omega) (h.oc j hj) (h.o j hj).lt).1
 ·intro j hj;exact (k (by omega) (h.oc j hj) (h.o j hj).lt).2
 ·intro j hj;exact (h.t j hj).fr F (k (by omega) (h.tc j hj) (h.t j hj).lt).1
 ·intro j hj;exact (k (by omega) (h.tc j hj) (h.t j hj).lt).2
theorem SI.re {R':Nat→RB} (h:SI w i1 i1 i1 i1 x1 x2 x3 x4 col OS TS R) (e:∀j,j<i1→R' j=R j):SI w i1 i1 i1 i1 x1 x2 x3 x4 col OS TS R':=by
 have m:∀(f:RB→Value),((List.range i1).map fun j=>f (R' j))=(List.range i1).map fun j=>f (R j):=fun f=>List.map_congr_left (fun j hj=>by rw [e j (List.mem_range.mp hj)])
 refine ⟨h.v1,h.v2,?_,?_,h.c1,h.c2,h.c3,h.c4,fun j hj=>by rw [e j hj];exact h.o j hj,h.oc,fun j hj=>by rw [e j hj];exact h.t j hj,h.tc⟩
 ·rw [m fun x=>Value.bool x.r];exact h.v3
 ·rw [m fun x=>Value.int .i64 x.k];exact h.v4
theorem range_snoc {f g:Nat→Value} {i:Nat} {v:Value} (e:∀j,j<i→g j=f j) (ev:g i=v):(List.range (i+1)).map g=(List.range i).map f ++ [v]:=by
 rw [List.range_succ,List.map_append,List.map_congr_left (fun j hj=>e j (List.mem_range.mp hj))]
 simp [ev]
theorem colN_ne {n r v c:Nat} (hv:v<n) (h:col v=c):colN n r col v=c:=(colN_old hv).trans h
theorem new_col {n c:Nat} (hx:∀v∈x1.bs,col v=c) (hl:∀v∈x1.bs,v<n) (hn:∀b∈y.bs,b∈x1.bs∨n≤b):∀v∈y.bs,colN n c col v=c:=by
 intro v hv
 rcases hn v hv with h|h
 ·exact colN_ne (hl v h) (hx v h)
 ·exact colN_new h
theorem off_col {bs bs':List Nat} {c c':Nat} (h:c≠c') (h1:∀v∈bs,col v=c) (h2:∀v∈bs',col v=c'):∀v∈bs,v∉bs':=fun v hv hm=>h ((h1 v hv).symm.trans (h2 v hm))
theorem SI.a1 (h:SI w i1 i2 i3 i4 x1 x2 x3 x4 col OS TS R) (F:Fm w w' x1.bs) (V:Vec 1 w' y (((List.range i1).map fun j=>(OS j).val) ++ [r.val])) (n:∀b∈y.bs,b∈x1.bs∨w.heap.size≤b) (Vr:VecU w r (R i1).o) (rc:∀v∈r.bs,col v=7) :
  SI w' (i1+1) i2 i3 i4 y x2 x3 x4 (colN w.heap.size 11 col) (updS OS i1 r) TS R:=by
 refine ⟨?_,h.v2.fr F (off_col (by decide) h.c2 h.c1),h.v3.fr F (off_col (by decide) h.c3 h.c1),h.v4.fr F (off_col (by decide) h.c4 h.c1),new_col h.c1 h.v1.lt n,fun v hv=>colN_ne (h.v2.lt v hv) (h.c2 v hv),fun v hv=>colN_ne (h.v3.lt v hv) (h.c3 v hv),fun v hv=>colN_ne (h.v4.lt v hv) (h.c4 v hv),?_,?_,?_,?_⟩
 ·rw [range_snoc (f:=fun j=>(OS j).val) (v:=r.val) (fun j hj=>by unfold updS;rw [if_neg (by omega)]) (by unfold updS;rw [if_pos rfl])];exact V
 ·intro j hj
  unfold updS
  by_cases e:j=i1
  ·subst e;rw [if_pos rfl];exact Vr.fr F (off_col (by decide) rc h.c1)
  ·rw [if_neg e];exact (h.o j (by omega)).fr F (off_col (by decide) (h.oc j (by omega)) h.c1)
 ·intro j hj
  unfold updS
  by_cases e:j=i1
  ·subst e;rw [if_pos rfl];exact fun v hv=>colN_ne (Vr.lt v hv) (rc v hv)
  ·rw [if_neg e];exact fun v hv=>colN_ne ((h.o j (by omega)).lt v hv) (h.oc j (by omega) v hv)
 ·intro j hj;exact (h.t j hj).fr F (off_col (by decide) (h.tc j hj) h.c1)
 ·intro j hj v hv;exact colN_ne ((h.t j hj).lt v hv) (h.tc j hj v hv)
theorem SI.a2 (h:SI w i1 i2 i3 i4 x1 x2 x3 x4 col OS TS R) (F:Fm w w' x2.bs) (V:Vec 1 w' y (((List.range i2).map fun j=>(TS j).val) ++ [r.val])) (n:∀b∈y.bs,b∈x2.bs∨w.heap.size≤b) (Vr:VecU w r (R i2).t) (rc:∀v∈r.bs,col v=7) :
  SI w' i1 (i2+1) i3 i4 x1 y x3 x4 (colN w.heap.size 12 col) OS (updS TS i2 r) R:=by
 refine ⟨h.v1.fr F (off_col (by decide) h.c1 h.c2),?_,h.v3.fr F (off_col (by decide) h.c3 h.c2),h.v4.fr F (off_col (by decide) h.c4 h.c2),fun v hv=>colN_ne (h.v1.lt v hv) (h.c1 v hv),new_col h.c2 h.v2.lt n,fun v hv=>colN_ne (h.v3.lt v hv) (h.c3 v hv),fun v hv=>colN_ne (h.v4.lt v hv) (h.c4 v hv),?_,?_,?_,?_⟩
 ·rw [range_snoc (f:=fun j=>(TS j).val) (v:=r.val) (fun j hj=>by unfold updS;rw [if_neg (by omega)]) (by unfold updS;rw [if_pos rfl])];exact V
 ·intro j hj;exact (h.o j hj).fr F (off_col (by decide) (h.oc j hj) h.c2)
 ·intro j hj v hv;exact colN_ne ((h.o j hj).lt v hv) (h.oc j hj v hv)
 ·intro j hj
  unfold updS
  by_cases e:j=i2
  ·subst e;rw [if_pos rfl];exact Vr.fr F (off_col (by decide) rc h.c2)
  ·rw [if_neg e];exact (h.t j (by omega)).fr F (off_col (by decide) (h.tc j (by omega)) h.c2)
 ·intro j hj
  unfold updS
  by_cases e:j=i2
  ·subst e;rw [if_pos rfl];exact fun v hv=>colN_ne (Vr.lt v hv) (rc v hv)
  ·rw [if_neg e];exact fun v hv=>colN_ne ((h.t j (by omega)).lt v hv) (h.tc j (by omega) v hv)
theorem SI.a3 (h:SI w i1 i2 i3 i4 x1 x2 x3 x4 col OS TS R) (F:Fm w w' x3.bs) (V:Vec 1 w' y (((List.range i3).map fun j=>Value.bool (R j).r) ++ [.bool (R i3).r])) (n:∀b∈y.bs,b∈x3.bs∨w.heap.size≤b) :
  SI w' i1 i2 (i3+1) i4 x1 x2 y x4 (colN w.heap.size 13 col) OS TS R:=by
 refine ⟨h.v1.fr F (off_col (by decide) h.c1 h.c3),h.v2.fr F (off_col (by decide) h.c2 h.c3),?_,h.v4.fr F (off_col (by decide) h.c4 h.c3),fun v hv=>colN_ne (h.v1.lt v hv) (h.c1 v hv),fun v hv=>colN_ne (h.v2.lt v hv) (h.c2 v hv),new_col h.c3 h.v3.lt n,fun v hv=>colN_ne (h.v4.lt v hv) (h.c4 v hv),?_,?_,?_,?_⟩
 ·rw [range_snoc (f:=fun j=>Value.bool (R j).r) (fun _ _=>rfl) rfl];exact V
 ·intro j hj;exact (h.o j hj).fr F (off_col (by decide) (h.oc j hj) h.c3)
 ·intro j hj v hv;exact colN_ne ((h.o j hj).lt v hv) (h.oc j hj v hv)
 ·intro j hj;exact (h.t j hj).fr F (off_col (by decide) (h.tc j hj) h.c3)
 ·intro j hj v hv;exact colN_ne ((h.t j hj).lt v hv) (h.tc j hj v hv)
theorem SI.a4 (h:SI w i1 i2 i3 i4 x1 x2 x3 x4 col OS TS R) (F:Fm w w' x4.bs) (V:Vec 1 w' y (((List.range i4).map fun j=>Value.int .i64 (R j).k) ++ [.int .i64 (R i4).k])) (n:∀b∈y.bs,b∈x4.bs∨w.heap.size≤b) :
  SI w' i1 i2 i3 (i4+1) x1 x2 x3 y (colN w.heap.size 14 col) OS TS R:=by
 refine ⟨h.v1.fr F (off_col (by decide) h.c1 h.c4),h.v2.fr F (off_col (by decide) h.c2 h.c4),h.v3.fr F (off_col (by decide) h.c3 h.c4),?_,fun v hv=>colN_ne (h.v1.lt v hv) (h.c1 v hv),fun v hv=>colN_ne (h.v2.lt v hv) (h.c2 v hv),fun v hv=>colN_ne (h.v3.lt v hv) (h.c3 v hv),new_col h.c4 h.v4.lt n,?_,?_,?_,?_⟩
 ·rw [range_snoc (f:=fun j=>Value.int .i64 (R j).k) (fun _ _=>rfl) rfl];exact V
 ·intro j hj;exact (h.o j hj).fr F (off_col (by decide) (h.oc j hj) h.c4)
 ·intro j hj v hv;exact colN_ne ((h.o j hj).lt v hv) (h.oc j hj v hv)
 ·intro j hj;exact (h.t j hj).fr F (off_col (by decide) (h.tc j hj) h.c4)
 ·intro j hj v hv;exact colN_ne ((h.t j hj).lt v hv) (h.tc j hj v hv)
structure IN (w:World) (col:Nat→Nat) (s0:Sl) (ins:List Sl) (xss:List (List Nat)):Prop where
 s:ArS w s0 ins
 sf:∀a,s0.a=some a→ins ≠ []→col a.block=0∨col a.block=7
 len:ins.length=xss.length
 a:∀j (h1:j<ins.length) (h2:j<xss.length),Arr .u8 w ins[j] xss[j]∧By xss[j]∧∀a,ins[j].a=some a→xss[j] ≠ []→col a.block=0∨col a.block=7
theorem IN.mv {s0:Sl} {ins:List Sl} {xss:List (List Nat)} (h:IN w col s0 ins xss) (F:Fm w w' S) (hS:∀v∈S,v<w.heap.size→col v≠0∧col v≠7) (hc:∀v,v<w.heap.size→¬own (col v)→col' v=col v):IN w' col' s0 ins xss:=by
 have k:∀ {c:Nat},c=0∨c=7→¬own c:=by
  intro c h h'
  have:=h'.1
  have:=h'.2
  omega
 refine ⟨h.s.fr F ?_,?_,h.len,?_⟩
 ·intro a ha hx hm
  have h1:=h.sf a ha hx
  have h2:=hS _ hm (h.s.old hx a ha)
  omega
 ·intro a ha hx
  have h1:=h.sf a ha hx
  rw [hc _ (h.s.old hx a ha) (k h1)]
  exact h1
 ·intro j h1 h2
  obtain ⟨hA,hb,hf⟩:=h.a j h1 h2
  refine ⟨hA.fr F ?_,hb,?_⟩
  ·intro a ha hx hm
   have h3:=hf a ha hx
   have h4:=hS _ hm (hA.old hx a ha)
   omega
  ·intro a ha hx
   have h3:=hf a ha hx
   rw [hc _ (hA.old hx a ha) (k h3)]
   exact h3
end
structure RT (w0 w:World) (g:Nat) (s:HU) (col:Nat→Nat) (s0:Sl) (ins:List Sl) (xss:List (List Nat)) (tl:List Nat) (v:Value):Prop where
 hw:HW w g s col
 inn:IN w col s0 ins xss
 ot:Arr .u8 w s.outT tl
 oc:∀a,s.outT.a=some a→tl ≠ []→col a.block=2
 fm:Fm w0 w []
 base:∀u,u<w0.heap.size→col u=0∨col u=7
 eg:v = .nilIface∨EG w v
section
variable {w0 w w':World} {g i:Nat} {s:HU} {col col':Nat→Nat} {s0:Sl} {ins:List Sl} {xss:List (List Nat)} {tl:List Nat} {v:Value} {S:List Nat}
theorem RT.mv (h:RT w0 w g s col s0 ins xss tl v) (F:Fm w w' S) (hS:∀u∈S,u<w.heap.size→11≤col u) (hc:∀u,u<w.heap.size→col' u=col u):RT w0 w' g s col' s0 ins xss tl v:=by
 have h9:=h.hw.gl.size
 have hsz:=h.fm.size
 refine ⟨h.hw.ext F (fun u hu hl=>by have:=hS u hu hl;omega) hc,h.inn.mv F (fun u hu hl=>by have:=hS u hu hl;omega) (fun u hl _=>hc u hl),h.ot.fr F ?_,?_,h.fm.trans F ?_,?_,?_⟩
 ·intro a ha hx hm
  have h1:=h.oc a ha hx
  have h2:=hS _ hm (h.ot.old hx a ha)
  omega
 ·intro a ha hx
  rw [hc _ (h.ot.old hx a ha)]
  exact h.oc a ha hx
 ·intro u hu
  right
  rcases Nat.lt_or_ge u w0.heap.size with h1|h1
  ·have h2:=h.base u h1
   have h3:=hS u hu (by omega)
   omega
  ·exact h1
 ·intro u hu
  rw [hc u (by omega)]
  exact h.base u hu
 ·refine h.eg.imp id (fun e=>e.fm F ?_)
  intro u hu
  rcases Nat.lt_or_ge u w.heap.size with h1|h1
  ·exact h.hw.nine (by have:=hS u hu h1;omega)
  ·omega
theorem c51k {K:Int→PT} (G:GE w) (h:v = .nilIface∨EG w v) (hk:∀k:Int,0≤k→k≤4→(v = .nilIface→k=0)→(v ≠ .nilIface→1≤k)→K k w):callP Tryd.prog 51 #[v] [.c (.I .i64)] K w:=by
 rcases h with rfl|h
 ·apply q51_ok
  unfold q51
  exact ⟨rfl,fun _=>hk 0 (by decide) (by decide) (fun _=>rfl) (fun h=>absurd rfl h),fun h=>by cases h⟩
 ·refine c51 G (.inl h) (fun k h1 h2 _=>hk k (by omega) h2 (fun e => ?_) (fun _=>h1))
  subst e
  have:=h.2
  cases this
theorem SI.rek {i1 i2 i3 i4:Nat} {x1 x2 x3 x4:Sl} {OS TS:Nat→Sl} {R R':Nat→RB} (h:SI w i1 i2 i3 i4 x1 x2 x3 x4 col OS TS R) (eo:∀j,(R' j).o=(R j).o) (et:∀j,(R' j).t=(R j).t) (er:∀j,(R' j).r=(R j).r) (ek:∀j,j<i4→(R' j).k=(R j).k):SI w i1 i2 i3 i4 x1 x2 x3 x4 col OS TS R':=by
 refine ⟨h.v1,h.v2,?_,?_,h.c1,h.c2,h.c3,h.c4,fun j hj=>by rw [eo j];exact h.o j hj,h.oc,fun j hj=>by rw [et j];exact h.t j hj,h.tc⟩
 ·have:((List.range i3).map fun j=>Value.bool (R' j).r)=(List.range i3).map fun j=>Value.bool (R j).r:=List.map_congr_left (fun j hj=>by rw [er j])
  rw [this];exact h.v3
 ·have:((List.range i4).map fun j=>Value.int .i64 (R' j).k)=(List.range i4).map fun j=>Value.int .i64 (R j).k:=List.map_congr_left (fun j hj=>by rw [ek j (List.mem_range.mp hj)])
  rw [this];exact h.v4
theorem s35_tail {x1 x2 x3 x4 o:Sl} {OS TS:Nat→Sl} {R:Nat→RB} {ob:List Nat} {rb:Bool} {A7:Sl×Sl×Sl×Sl×Int→PT} (G0:GE w0) (X:RT w0 w g s col s0 ins xss tl v) (I:SI w i i i i x1 x2 x3 x4 col OS TS R) (hi:i<2^20) (AO:Arr .u8 w o ob) (hol:ob.length≤2^30) (htl:tl.length≤2^30)
  (ro:(R i).o=ob) (rt:(R i).t=tl) (rr:(R i).r=rb)
  (hk:∀w' col' y1 y2 y3 y4 OS' TS' (k:Int),0≤k→k≤4→(v = .nilIface→k=0)→(v ≠ .nilIface→1≤k)→RT w0 w' g s col' s0 ins xss tl v→SI w' (i+1) (i+1) (i+1) (i+1) y1 y2 y3 y4 col' OS' TS' (fun j=>if j=i then { R i with k:=k } else R j)→(∀M ln L,PTc w s.pt M ln L→PTc w' s.pt M ln L)→A7 (y1,y2,y3,y4,((i+1:Nat):Int)) w') :
  (callP Tryd.prog 47 #[(.slice o.a o.l o.c)] [.c .S] fun (r11:Sl)=>nw [(.slice r11.a r11.l r11.c)] 22 fun (p12:Addr)=>app z22 22 24 x1 ⟨(some p12),1,1⟩ fun (s13:Sl)=>ld .S ⟨g,257,none⟩ fun (s14:Sl)=>callP Tryd.prog 47 #[(.slice s14.a s14.l s14.c)] [.c .S] fun (r15:Sl)=>nw [(.slice r15.a r15.l r15.c)] 22 fun (p16:Addr)=>app z22 22 24 x2 ⟨(some p16),1,1⟩ fun (s17:Sl)=>nw [(.bool rb)] 4 fun (p18:Addr)=>app z4 4 1 x3 ⟨(some p18),1,1⟩ fun (s19:Sl)=>callP Tryd.prog 51 #[v] [.c (.I .i64)] fun (r20:Int)=>nw [(.int .i64 r20)] 3 fun (p21:Addr)=>app z3 3 8 x4 ⟨(some p21),1,1⟩ fun (s22:Sl)=>A7 (s13,s17,s19,s22,(IntKind.wrap .i64 (((i:Nat):Int)+(1:Int))))) w:=by
 have vl:∀ {x:Sl} {f:Nat→Value} {w:World},Vec 1 w x ((List.range i).map f)→x.l=i:=by
  intro x f w h
  have:=h.len
  rw [List.length_map,List.length_range] at this;omega
 refine c47 AO (by omega) ?_
 intro w3 r11 V3 F3 n3
 have X3:=X.mv (col':=colN w.heap.size 7 col) F3 (by simp) (fun u hu=>colN_old hu)
 have I3:=I.mv (col':=colN w.heap.size 7 col) F3 (by simp) (fun u hu _=>colN_old hu)
 have k3:∀u∈r11.bs,colN w.heap.size 7 col u=7:=fun u hu=>colN_new (n3 u hu)
 have P3:∀M ln L,PTc w s.pt M ln L→PTc w3 s.pt M ln L:=fun M ln L h=>h.mv F3 (by simp)
 generalize colN w.heap.size 7 col=col3 at *
 refine app_1 (v:=r11.val) I3.v1 rfl (by rw [vl I3.v1];omega) ?_
 intro s13 w4 V4 F4 n4
 have I4:=I3.a1 F4 V4 n4 (by rw [ro];exact V3) k3
 have X4:=X3.mv (col':=colN w3.heap.size 11 col3) F4 (fun u hu _=>by rw [I3.c1 u hu];omega) (fun u hu=>colN_old hu)
 have P4:∀M ln L,PTc w s.pt M ln L→PTc w4 s.pt M ln L:=fun M ln L h=>X3.hw.ptx F4 (fun u hu _=>by rw [I3.c1 u hu];omega) (P3 M ln L h)
 generalize colN w3.heap.size 11 col3=col4 at *
 refine ld_b (t := .S) (x:=s.outT) X4.hw.blk rfl ?_
 refine c47 X4.ot (by omega) ?_
 intro w5 r15 V5 F5 n5
 have X5:=X4.mv (col':=colN w4.heap.size 7 col4) F5 (by simp) (fun u hu=>colN_old hu)
 have I5:=I4.mv (col':=colN w4.heap.size 7 col4) F5 (by simp) (fun u hu _=>colN_old hu)
 have k5:∀u∈r15.bs,colN w4.heap.size 7 col4 u=7:=fun u hu=>colN_new (n5 u hu)
 have P5:∀M ln L,PTc w s.pt M ln L→PTc w5 s.pt M ln L:=fun M ln L h=>(P4 M ln L h).mv F5 (by simp)
 generalize colN w4.heap.size 7 col4=col5 at *
 refine app_1 (v:=r15.val) I5.v2 rfl (by rw [vl I5.v2];omega) ?_
 intro s17 w6 V6 F6 n6
 have I6:=I5.a2 F6 V6 n6 (by rw [rt];exact V5) k5
 have X6:=X5.mv (col':=colN w5.heap.size 12 col5) F6 (fun u hu _=>by rw [I5.c2 u hu];omega) (fun u hu=>colN_old hu)
 have P6:∀M ln L,PTc w s.pt M ln L→PTc w6 s.pt M ln L:=fun M ln L h=>X5.hw.ptx F6 (fun u hu _=>by rw [I5.c2 u hu];omega) (P5 M ln L h)
 generalize colN w5.heap.size 12 col5=col6 at *
 refine app_1 (v := .bool rb) I6.v3 rfl (by rw [vl I6.v3];omega) ?_
 intro s19 w7 V7 F7 n7
 have I7:=I6.a3 F7 (by rw [rr];exact V7) n7
 have X7:=X6.mv (col':=colN w6.heap.size 13 col6) F7 (fun u hu _=>by rw [I6.c3 u hu];omega) (fun u hu=>colN_old hu)
 have P7:∀M ln L,PTc w s.pt M ln L→PTc w7 s.pt M ln L:=fun M ln L h=>X6.hw.ptx F7 (fun u hu _=>by rw [I6.c3 u hu];omega) (P6 M ln L h)
 generalize colN w6.heap.size 13 col6=col7 at *
 refine c51k (G0.fm X7.fm) X7.eg ?_
 intro k hk0 hk4 hkn hke
 have I7':=I7.rek (R':=fun j=>if j=i then { R i with k:=k } else R j) (by intro j;by_cases e:j=i<;>simp [e]) (by intro j;by_cases e:j=i<;>simp [e]) (by intro j;by_cases e:j=i<;>simp [e]) (by intro j hj;rw [if_neg (by omega)])
 refine app_1 (v := .int .i64 k) I7'.v4 rfl (by rw [vl I7'.v4];omega) ?_
 intro s22 w8 V8 F8 n8
 have I8:=I7'.a4 F8 (by rw [if_pos rfl];exact V8) n8
 have X8:=X7.mv (col':=colN w7.heap.size 14 col7) F8 (fun u hu _=>by rw [I7.c4 u hu];omega) (fun u hu=>colN_old hu)
 have P8:∀M ln L,PTc w s.pt M ln L→PTc w8 s.pt M ln L:=fun M ln L h=>X7.hw.ptx F8 (fun u hu _=>by rw [I7.c4 u hu];omega) (P7 M ln L h)
 rw [wI64 (by omega) (by omega),show ((i:Nat):Int)+1=((i+1:Nat):Int) by omega]
 exact hk w8 _ s13 s17 s19 s22 _ _ k hk0 hk4 hkn hke X8 I8 P8
end
end Go.Sx
