/- Lemmas for the proof: H43 H44 H45 H46 H47 H48 H49 Z3 ZW H63 H64 H65 H66 H67. No conditions. -/
import Derived.Test.YtlnhldlhmplphaaDoorS13A09
set_option linter.unusedVariables false
set_option linter.unusedSimpArgs false
namespace Go.Sx
open Go Go.Proofs
set_option maxRecDepth 4000
structure SK (s s':HU):Prop where
 reuse:s'.reuse=s.reuse
 wll:s'.wll=s.wll
 tl:s'.tl=s.tl
theorem SK.refl (s:HU):SK s s:=⟨rfl,rfl,rfl⟩
theorem VecU.nil {w:World} : VecU w ⟨none,0,0⟩ []:=⟨Vec.nil,(by intro a h;cases h),by decide⟩
theorem Held.arr {w:World} {a:Option Addr} {c:Nat} {l:List Nat} {o:Sl} (h:Held w o.a l) (v:∃w0,VecU w0 o l):Arr .u8 w o l:=by
 obtain ⟨w0,hv⟩:=v
 refine ⟨hv.len,hv.vec.cap,?_,?_⟩
 ·intro e
  have h1:=hv.vec.non e
  have h2:=hv.vec.cap
  have h3:=hv.len
  exact List.length_eq_zero_iff.mp (by omega)
 ·intro b hb i hi
  obtain ⟨h1,h2,_⟩:=hv.vec.blk b hb
  have h3:=h b hb i hi
  obtain ⟨bb,bo,bs⟩:=b
  simp only at h1 h2
  subst h1 h2
  rw [add_mk,Nat.zero_add]
  exact h3
section
variable {w w':World} {g n L:Nat} {s s':HU} {col:Nat→Nat} {cnt:Nat→Nat} {pre pre':List Nat} {so:Sl}
theorem HQ.comp (Q:HQ w g s col n cnt L pre) (F:Fm w w' (g::s.out.bs)) (hn:∀v∈so.bs,v∈s.out.bs∨w.heap.size≤v) (hv:VecU w' so pre') (B:Blk w' g ({ s with out:=so } : HU).at) :
  HQ w' g { s with out:=so } (colN w.heap.size 2 col) n cnt L pre'∧Mv w w' col (colN w.heap.size 2 col) (g::s.out.bs):=by
 have M:Mv w w' col (colN w.heap.size 2 col) (g::s.out.bs):=by
  refine ⟨F,?_,fun v hv=>colN_old hv⟩
  intro v hv _
  rcases List.mem_cons.mp hv with h|h
  ·rw [h];exact Q.ownG
  ·rw [Q.out2 v h];exact ⟨by decide,by decide⟩
 have hk:∀r,r≠1→r≠2→∀v∈g::s.out.bs,v<w.heap.size→col v≠r:=by
  intro r h1 h2 v hv _ e
  rcases List.mem_cons.mp hv with h|h
  ·rw [h,Q.cg] at e;exact h1 e.symm
  ·rw [Q.out2 v h] at e;exact h2 e.symm
 refine ⟨Q.mv M B hv ?_ (Q.nodP.mv F (M.keep (hk 3 (by decide) (by decide)))) (Q.fseP.mv F (M.keep (hk 6 (by decide) (by decide)))) (Q.ct.mv F (M.keep (hk 4 (by decide) (by decide)))) (hk 5 (by decide) (by decide)) rfl rfl rfl rfl rfl rfl rfl rfl,M⟩
 intro v hv
 rcases hn v hv with h|h
 ·exact (colN_old (Q.oP.lt v h)).trans (Q.out2 v h)
 ·exact colN_new h
theorem HQ.ctO {M1 L1:Nat} {ln:Nat→Nat} (Q:HQ w g s col n cnt L pre) (F:Fm w w' (g::s.out.bs)) (h:PTc w s.ct M1 ln L1):PTc w' s.ct M1 ln L1:=by
 refine h.mv F ?_
 intro v hv hm
 have h4:=Q.ct.co v hv
 rcases List.mem_cons.mp hm with h|h
 ·rw [h,Q.cg] at h4;cases h4
 ·rw [Q.out2 v h] at h4;cases h4
theorem HQ.ptO {M1 L1:Nat} {ln:Nat→Nat} (Q:HQ w g s col n cnt L pre) (F:Fm w w' (g::s.out.bs)) (h:PTc w s.pt M1 ln L1):PTc w' s.pt M1 ln L1:=by
 refine h.mv F ?_
 intro v hv hm
 have h4:=Q.pt.co v hv
 rcases List.mem_cons.mp hm with h|h
 ·rw [h,Q.cg] at h4;cases h4
 ·rw [Q.out2 v h] at h4;cases h4
theorem HQ.hw (Q:HQ w g s col n cnt L pre):HW w g s col:=Q.toHW
theorem HQ.swap {M1 L1:Nat} {ln:Nat→Nat} (Q:HQ w g s col n cnt L pre) (h:PTc w s.ct M1 ln L1) (F:Fm w w' [g]) (B:Blk w' g s'.at) (ho:s'.out=s.out) (hn:s'.nodes=s.nodes) (hf:s'.fse=s.fse) (hct:s'.ct=⟨s.pt.a,0,s.pt.c⟩) (hpt:s'.pt=s.ct) (hcc:s'.cc=s.cc) (hmx:s'.maxC=s.maxC) :
  HW w' g s' (fun v=>if col v=4 then 5 else if col v=5 then 4 else col v)∧PTc w' s'.pt M1 ln L1:=by
 have hP:=Q.ctG F h
 have k:∀r,r≠4→r≠5→∀v,col v=r→(if col v=4 then 5 else if col v=5 then 4 else col v)=r:=by
  intro r h1 h2 v e
  rw [e,if_neg h1,if_neg h2]
 have ob:=Q.out.mv F (Q.keepG (by decide))
 have nb:=Q.nodP.mv F (Q.keepG (by decide))
 have fb:=Q.fseP.mv F (Q.keepG (by decide))
 have cb:=Q.ct.mv F (Q.keepG (by decide))
 have pb:=Q.pt.mv F (Q.keepG (by decide))
 have n9:∀v ∈ [g],9≤v:=by intro v hv;simp at hv;subst hv;exact Q.g9
 refine ⟨⟨B,k 1 (by decide) (by decide) g Q.cg,fun v hv=>k 0 (by decide) (by decide) v (Q.low v hv),?_,.inr ?_,?_,?_,.inr ⟨M1,ln,L1,by rw [hpt];exact hP⟩,.inr ?_,Q.gl.fm F n9,fun i hi=>(Q.er i hi).fm F (fun h=>by have:=n9 i h;omega),hmx.trans Q.mx,.inl (hcc.trans Q.ccT)⟩,by rw [hpt];exact hP⟩
 ·rw [ho];exact ⟨ob.ex,fun v hv=>k 2 (by decide) (by decide) v (ob.co v hv)⟩
 ·rw [hn]
  obtain ⟨b,l,cap,Fn,h1,h2,h3,h4⟩:=nb
  exact ⟨b,l,cap,Fn,h1,h2,k 3 (by decide) (by decide) b h3,h4⟩
 ·rw [hct]
  refine ⟨?_,?_⟩
  ·obtain ⟨h1,h2,h3⟩:=pb.own
   exact ⟨Nat.zero_le _,h2,h3⟩
  ·intro v hv
   have h5:=pb.co v hv
   rw [if_neg (by omega),if_pos h5]
 ·rw [hpt]
  exact ⟨cb.own,fun v hv=>by rw [if_pos (cb.co v hv)]⟩
 ·rw [hf]
  obtain ⟨b,fs,h1,h2,h3⟩:=fb
  exact ⟨b,fs,h1,h2,fun v hv=>k 6 (by decide) (by decide) v (h3 v hv)⟩
end
section
variable {w:World} {g n L M:Nat} {s:HU} {s1:Sl} {xs pre:List Nat} {col:Nat→Nat} {cnt ln:Nat→Nat} {fc:FuncId} {Enc:(Nat→Nat)→(Nat→Nat)→List Nat→List Nat→Prop} {K3:Sl×Bool×Value→PT}
theorem c65q {K:Value→PT} {lt ct:Nat} {tb:Nat} (Q:HQ w g s col n cnt L pre) (hP:PTc w s.ct M ln L) (hct:s.ct=⟨some ⟨tb,0,none⟩,lt,ct⟩) (hat:s.atl=(M:Nat)) (h2:2≤L) (hpre:pre.length≤1000000)
  (hk0:TBad (wtL M ln L) L→∀w' s' col' v,EG w' v→HQ w' g s' col' n cnt L pre→SK s s'→GoW w w' col col'→K v w')
  (hk1:∀w' s' col' tbl,TL (wtL M ln L) L tbl.length→By tbl→tbl.length≤129→weightsZ tbl=some (wtL M ln L,tbl.length)→HQ w' g s' col' n cnt L (pre++tbl)→PTc w' s'.ct M ln L→s'.atl=(M:Nat)→s'.ct=s.ct→s'.pt=s.pt→SK s s'→GoW w w' col col'→K .nilIface w') :
  callP Tryd.prog 65 #[.slice (some ⟨tb,0,none⟩) lt ct,.pointer (some ⟨g,0,none⟩)] [.c .V] K w:=by
 obtain ⟨qb,pc,F,cnt',e1,h256,HF,hF,HTc,hL256,hL0⟩:=hP
 rw [hct] at e1
 injection e1 with e1 e2 e3
 injection e1 with e1
 injection e1 with e1
 subst e1 e3
 have e2':=e2.symm
 subst e2'
 obtain ⟨fb,fs,hfse,SWf,hfc⟩:=Q.fseP
 have hne:∀ {u v:Nat},col u≠col v→u≠v:=fun h e=>h (by rw [e])
 have ctb:col tb=4:=Q.ct.co tb (by rw [hct];simp [Sl.bs])
 have dgo:g∉s.out.bs:=fun h=>by have:=Q.out2 g h;rw [Q.cg] at this;cases this
 have dgf:g∉SB fb fs:=fun h=>by have:=hfc g h;rw [Q.cg] at this;cases this
 have dof:∀v∈s.out.bs,v∉SB fb fs:=fun v hv h=>by have:=hfc v h;rw [Q.out2 v hv] at this;cases this
 have hown:∀v∈g::(s.out.bs++SB fb fs),v<w.heap.size→own (col v):=by
  intro v hv _
  rcases List.mem_cons.mp hv with h|h
  ·rw [h];exact Q.ownG
  ·rcases List.mem_append.mp h with h|h
   ·rw [Q.out2 v h];exact ⟨by decide,by decide⟩
   ·rw [hfc v h];exact ⟨by decide,by decide⟩
 have hkeep:∀r,r≠1→r≠2→r≠6→∀v∈g::(s.out.bs++SB fb fs),v<w.heap.size→col v≠r:=by
  intro r h1 h2 h6 v hv _ e
  rcases List.mem_cons.mp hv with h|h
  ·rw [h,Q.cg] at e;exact h1 e.symm
  ·rcases List.mem_append.mp h with h|h
   ·rw [Q.out2 v h] at e;exact h2 e.symm
   ·rw [hfc v h] at e;exact h6 e.symm
 have next:∀(w':World) (fs':FS) (hw':Nat→Int) (o:Sl) (pre':List Nat),VecU w' o pre'→Blk w' g ({ s with hw:=hw',out:=o } : HU).at→WT w w' g fb s fs fs' o →
   ∃col',HQ w' g { s with hw:=hw',out:=o } col' n cnt L pre'∧Mv w w' col col' (g::(s.out.bs++SB fb fs)):=by
  intro w' fs' hw' o pre' HV HB T
  have M1:Mv w w' col (fun v=>if v∈o.bs then 2 else colN w.heap.size 6 col v) (g::(s.out.bs++SB fb fs)):=by
   refine ⟨T.fr,hown,?_⟩
   intro v hv
   show (if v∈o.bs then 2 else colN w.heap.size 6 col v)=col v
   by_cases h:v∈o.bs
   ·rw [if_pos h]
    rcases T.new v h with h1|h1
    ·exact (Q.out2 v h1).symm
    ·omega
   ·rw [if_neg h];exact colN_old hv
  refine ⟨_,Q.mv M1 HB HV (fun v hv=>if_pos hv) (Q.nodP.mv T.fr (M1.keep (hkeep 3 (by decide) (by decide) (by decide)))) ?_ (Q.ct.mv T.fr (M1.keep (hkeep 4 (by decide) (by decide) (by decide)))) (hkeep 5 (by decide) (by decide) (by decide)) rfl rfl rfl rfl rfl rfl rfl rfl,M1⟩
  refine ⟨fb,fs',hfse,T.sw,?_⟩
  intro v hv
  show (if v∈o.bs then 2 else colN w.heap.size 6 col v)=6
  rw [if_neg (fun h=>T.dis v h hv)]
  rcases T.ext v hv with h|h
  ·rw [colN_old (SWf.lt v h)];exact hfc v h
  ·exact colN_new h
 refine c65 Q.blk Q.sc.sym h2 hL256 hat HTc.m1 HTc.m11 hfse SWf Q.gl (Q.er 0 (by decide)) (fun v hv=>Q.nine (by rw [hfc v hv];decide)) Q.g9 Q.oP (fun v hv=>Q.nine (by rw [Q.out2 v hv];decide)) hpre HF (fun i hi=>(hF i hi).2) HTc.le dgo dgf dof
  (hne (by rw [Q.cg,ctb];decide)) (fun h=>by have:=Q.out2 tb h;rw [ctb] at this;cases this) (fun h=>by have:=hfc tb h;rw [ctb] at this;cases this) ?_ ?_
 ·intro hTB w' fs' hw' v hv _ HB HV T
  obtain ⟨col',Q',M1⟩:=next w' fs' hw' s.out pre HV HB T
  exact hk0 hTB w' _ col' v hv Q' ⟨rfl,rfl,rfl⟩ M1.go
 ·intro w' fs' hw' o tbl hTL hby hl hwt HV HB T
  obtain ⟨col',Q',M1⟩:=next w' fs' hw' o (pre++tbl) HV HB T
  refine hk1 w' _ col' tbl hTL hby hl hwt Q' ?_ hat rfl rfl ⟨rfl,rfl,rfl⟩ M1.go
  refine ⟨tb,ct,F,cnt',hct,h256,HF.fr T.fr ?_,hF,HTc,hL256,hL0⟩
  intro h
  exact hkeep 4 (by decide) (by decide) (by decide) tb h HF.lt ctb
def WhyT (Enc:(Nat→Nat)→(Nat→Nat)→List Nat→List Nat→Prop) (xs:List Nat) (M:Nat) (ln:Nat→Nat) (L:Nat):Prop :=
 Enc≠EncT∨TBad (wtL M ln L) L∨∃k ol,TL (wtL M ln L) L k∧Enc (vC ln L M) ln xs ol∧xs.length≤k+ol.length
theorem j88_J5 (hC:CompOK fc Enc (Enc≠EncT)) (hfn:hasFn Tryd.prog fc=true) (hE:EncLe Enc) (Q:HQ w g s col n cnt L pre) (hP:PTc w s.ct M ln L) (hat:s.atl=(M:Nat)) (hL2:2≤L)
  (hx:∀x∈xs,x<L∧0<ln x) (hsrc:Arr .u8 w s1 xs) (hf:∀a,s1.a=some a→xs ≠ []→¬own (col a.block)) (h2:2≤xs.length) (hxs:xs.length≤2^18) (hpre:pre = []∨(xs.length≤pre.length∧pre.length≤2^19))
  (hk0:∀w' s' col' v,EG w' v→(pre = []→WhyT Enc xs M ln L)→HW w' g s' col'→s'.outT=⟨none,0,0⟩→SK s s'→GoW w w' col col'→K3 (⟨none,0,0⟩,false,v) w')
  (hk1:∀w' s' col' so tbl ol,TL (wtL M ln L) L tbl.length→By tbl→weightsZ tbl=some (wtL M ln L,tbl.length)→Enc (vC ln L M) ln xs ol→tbl.length+ol.length<xs.length→s'.out=so→VecU w' so (tbl++ol)→Arr .u8 w' s'.outT tbl→Arr .u8 w' s'.outD ol→(∀a,s'.outT.a=some a→col' a.block=2)→HW w' g s' col'→PTc w' s'.pt M ln L→SK s s'→GoW w w' col col'→K3 (so,false,.nilIface) w') :
  q88_J5 s1 (some ⟨g,0,none⟩) (.func (.func fc) #[.pointer (some ⟨g,0,none⟩)] #[]) K3 (xs.length:Nat) () w:=by
 have hpre19:pre.length≤2^19:=by
  rcases hpre with h|h
  ·rw [h];simp
  ·exact h.2
 have hxe:xs ≠ []:=by intro e;subst e;simp at h2
 obtain ⟨tb,pc,e1,_⟩:=hP.tb
 unfold q88_J5
 refine ⟨_,rfl,?_⟩
 simp only [add_mk,Nat.zero_add]
 refine ld_b (t := .S) (x:=s.ct) Q.blk rfl ?_
 rw [e1]
 refine c65q Q hP e1 hat hL2 (by omega) ?_ ?_
 ·intro hTB w1 sA colA v hv QA KA GA
  refine ⟨isPE.ifc hv.2,err_cnd (isPE.nil hv.2) ⟨_,rfl,?_⟩⟩
  simp only [add_mk,Nat.zero_add]
  refine st_u QA.blk rfl rfl ?_
  intro w2 B2 F2
  have B2':=B2.congr (HU.setT (s' := { sA with outT:=⟨none,0,0⟩ }) 1 rfl rfl rfl (by decide))
  have Q2:=QA.self F2 B2' rfl rfl rfl rfl rfl rfl rfl rfl rfl rfl rfl rfl
  exact hk0 w2 _ colA v (hv.fm F2 QA.g9l) (fun _ => .inr (.inl hTB)) Q2.hw rfl ⟨KA.reuse,KA.wll,KA.tl⟩ (GA.trans (QA.mvG F2).go)
 ·intro w1 sA colA tbl hTL hby hl129 hwt QA hPA hatA hctA hptA KA GA
  refine ⟨rfl,nil_cnd ⟨_,rfl,?_⟩⟩
  simp only [add_mk,Nat.zero_add]
  refine ld_b (t := .S) (x:=sA.out) QA.blk rfl ⟨_,rfl,?_⟩
  refine st_u QA.blk rfl rfl ?_
  intro w2 B2 F2
  have B2':=B2.congr (HU.setT (s' := { sA with outT:=sA.out }) 1 rfl rfl rfl (by decide))
  have Q2:=QA.self F2 B2' rfl rfl rfl rfl rfl rfl rfl rfl rfl rfl rfl rfl
  have P2:=QA.ctG F2 hPA
  have G2:=GA.trans (QA.mvG F2).go
  have hsrc2:=G2.arr hsrc hf
  have hf2:=G2.far hsrc hf
  have hpl:(pre++tbl).length=pre.length+tbl.length:=List.length_append
  refine comp_core (ln:=ln) (M1:=M) (L1:=L) hC hfn Q2 w2 (Fm.refl _ _) B2' rfl P2 ?_ hx hsrc2 hf2 h2 hxs (by omega) ?_ ?_
  ·intro v hv
   have h4:=Q2.ct.co v hv
   exact ⟨Q2.ct.own.lt v hv,by omega,by omega⟩
  ·intro hne w3 o v hv B3 F3
   refine ⟨_,rfl,?_⟩
   simp only [add_mk,Nat.zero_add]
   refine st_u B3 rfl rfl ?_
   intro w4 B4 F4
   have B4':=B4.congr (HU.setT (s' := { sA with outT:=sA.out,out:=⟨none,0,0⟩ }) 0 rfl rfl rfl (by decide))
   obtain ⟨Q4,M4⟩:=Q2.comp (so:=⟨none,0,0⟩) (F3.trans F4 (by intro v hv;left;simp at hv;simp [hv])) (by simp [Sl.bs]) VecU.nil B4'
   refine ⟨isPE.ifc hv.2,err_cnd (isPE.nil hv.2) ⟨_,rfl,?_⟩⟩
   simp only [add_mk,Nat.zero_add]
   refine st_u B4' rfl rfl ?_
   intro w5 B5 F5
   have B5':=B5.congr (HU.setT (s' := { sA with outT:=⟨none,0,0⟩,out:=⟨none,0,0⟩ }) 1 rfl rfl rfl (by decide))
   have Q5:=Q4.self F5 B5' rfl rfl rfl rfl rfl rfl rfl rfl rfl rfl rfl rfl
   exact hk0 w5 _ _ v ((hv.fm F4 Q2.g9l).fm F5 Q2.g9l) (fun _ => .inl hne) Q5.hw rfl ⟨KA.reuse,KA.wll,KA.tl⟩ ((G2.trans M4.go).trans (Q4.mvG F5).go)
  ·intro w3 o so ol hEn HV3 B3 hn3 F3 hh3
   refine ⟨_,rfl,?_⟩
   simp only [add_mk,Nat.zero_add]
   refine st_u B3 rfl rfl ?_
   intro w4 B4 F4
   have B4':=B4.congr (HU.setT (s' := { sA with outT:=sA.out,out:=so }) 0 rfl rfl rfl (by decide))
   have hgso:g∉so.bs:=by
    intro h
    rcases hn3 g h with h1|h1
    ·have:=Q2.out2 g h1;rw [Q2.cg] at this;cases this
    ·have:=Q2.blk.lt;omega
   have HV4:=HV3.fr F4 (by intro v hv;simp;exact fun e=>hgso (e▸hv))
   have hgsa:∀a,sA.out.a=some a→a.block ∉ [g]:=by
    intro a ha
    have h2c:=QA.out2 a.block (mem_bs ha)
    simp
    intro e
    rw [e,QA.cg] at h2c;cases h2c
   have hh4:Held w4 sA.out.a (pre++tbl):=hh3.fr F4 hgsa
   obtain ⟨Q4,M4⟩:=Q2.comp (so:=so) (F3.trans F4 (by intro v hv;left;simp at hv;simp [hv])) hn3 HV4 B4'
   have P4:PTc w4 sA.ct M ln L:=Q2.ctO (F3.trans F4 (by intro v hv;left;simp at hv;simp [hv])) P2
   have G4:=G2.trans M4.go
   refine ⟨rfl,nil_cnd ⟨_,rfl,?_⟩⟩
   simp only [add_mk,Nat.zero_add]
   have hln11:∀x∈xs,ln x≤11:=by
    intro x hx'
    obtain ⟨_,_,_,cnt',_,_,_,_,HTc,_⟩:=hP
    have h1:=HTc.le x (hx x hx').1
    have h2:=HTc.m11
    omega
   have hoE:=hE _ _ _ _ hEn hln11 hxs
   have hsl:=HV4.len
   rw [List.length_append] at hsl
   refine ld_b (t := .S) (x:=so) B4' rfl (cnd_d ?_ ?_)
   ·intro hge
    refine ⟨_,rfl,?_⟩
    simp only [add_mk,Nat.zero_add]
    refine st_u B4' rfl rfl ?_
    intro w5 B5 F5
    have B5':=B5.congr (HU.setT (s' := { sA with outT:=⟨none,0,0⟩,out:=so }) 1 rfl rfl rfl (by decide))
    have Q5:=Q4.self F5 B5' rfl rfl rfl rfl rfl rfl rfl rfl rfl rfl rfl rfl
    have G5:=G4.trans (Q4.mvG F5).go
    refine ld_errG (Q5.er 0 (by decide)) (by decide) ?_
    intro v hv
    have Fd:Fm w5 w5.drew [g]:=(Fm.refl w5 _).drew
    have Q6:=Q5.self (s' := { sA with outT:=⟨none,0,0⟩,out:=so }) Fd B5'.drew rfl rfl rfl rfl rfl rfl rfl rfl rfl rfl rfl rfl
    exact hk0 _ _ _ v hv (fun hp => .inr (.inr ⟨tbl.length,ol,hTL,hEn,by have hp0:pre.length=0:=by { rw [hp];rfl };omega⟩)) Q6.hw rfl ⟨KA.reuse,KA.wll,KA.tl⟩ (G5.trans (Q5.mvG Fd).go)
   ·intro hlt
    have hlt':so.l<xs.length:=by omega
    have hpn:pre = []:=by
     rcases hpre with h|h
     ·exact h
     ·exfalso
      have:=h.1
      omega
    subst hpn
    simp only [List.nil_append] at *
    rw [List.length_nil,Nat.zero_add] at hpl
    have Fd:Fm w4 w4.drew [g]:=(Fm.refl w4 _).drew
    have Qd:=Q4.self (s' := { sA with outT:=sA.out,out:=so }) Fd B4'.drew rfl rfl rfl rfl rfl rfl rfl rfl rfl rfl rfl rfl
    have Pd:PTc w4.drew sA.ct M ln L:=Q4.ctG Fd P4
    unfold drw
    refine ⟨_,rfl,?_⟩
    simp only [add_mk,Nat.zero_add]
    refine ld_b (t := .S) (x:=sA.ct) B4'.drew rfl ⟨_,rfl,?_⟩
    simp only [add_mk,Nat.zero_add]
    refine ld_b (t := .I .u8) (x:=sA.atl) B4'.drew rfl ⟨_,rfl,?_⟩
    simp only [add_mk,Nat.zero_add]
    refine ld_b (t := .S) (x:=sA.pt) B4'.drew rfl ?_
    refine slc_hi (m:=0) rfl (Nat.zero_le _) ⟨_,rfl,?_⟩
    simp only [add_mk,Nat.zero_add]
    refine st_u B4'.drew rfl rfl ?_
    intro w5 B5 F5
    have B5':=B5.congr (HU.setT (s' := { sA with outT:=sA.out,out:=so,pt:=sA.ct }) 14 rfl rfl rfl (by decide))
    refine ⟨_,rfl,?_⟩
    simp only [add_mk,Nat.zero_add]
    refine st_u B5' rfl rfl ?_
    intro w6 B6 F6
    have B6':=B6.congr (HU.setT (s' := { sA with outT:=sA.out,out:=so,pt:=sA.ct,ptl:=sA.atl }) 13 rfl rfl rfl (by decide))
    refine ⟨_,rfl,?_⟩
    simp only [add_mk,Nat.zero_add]
    refine st_u B6' rfl rfl ?_
    intro w7 B7 F7
    have B7':=B7.congr (HU.setT (s' := { sA with outT:=sA.out,out:=so,pt:=sA.ct,ptl:=sA.atl,ct:=⟨sA.pt.a,0,sA.pt.c⟩ }) 15 rfl rfl rfl (by decide))
    refine ⟨_,rfl,?_⟩
    simp only [add_mk,Nat.zero_add]
    refine ld_b (t := .S) (x:=so) B7'.drew rfl ⟨_,rfl,?_⟩
    simp only [add_mk,Nat.zero_add]
    refine ld_b (t := .S) (x:=sA.out) B7'.drew rfl ?_
    have hol:=QA.oP.len
    refine slc_lo (n:=tbl.length) (by rw [hol]) (by omega) ⟨_,rfl,?_⟩
    simp only [add_mk,Nat.zero_add]
    refine st_u B7'.drew rfl rfl ?_
    intro w8 B8 F8
    have B8':=B8.congr (HU.setT (s' := { sA with outT:=sA.out,out:=so,pt:=sA.ct,ptl:=sA.atl,ct:=⟨sA.pt.a,0,sA.pt.c⟩,outD:=⟨slA so.a tbl.length so.c 1,so.l-tbl.length,so.c-tbl.length⟩ }) 2 rfl rfl rfl (by decide))
    refine ⟨_,rfl,?_⟩
    simp only [add_mk,Nat.zero_add]
    refine ld_b (t := .S) (x:=so) B8' rfl ?_
    have F48:Fm w4 w8 [g]:=((((((Fm.refl w4 [g]).drew.trans F5 (fun x hx => .inl hx)).trans F6 (fun x hx => .inl hx)).trans F7 (fun x hx => .inl hx)).drew).trans F8 (fun x hx => .inl hx))
    obtain ⟨W8,P8⟩:=Q4.swap (s' := { sA with outT:=sA.out,out:=so,pt:=sA.ct,ptl:=sA.atl,ct:=⟨sA.pt.a,0,sA.pt.c⟩,outD:=⟨slA so.a tbl.length so.c 1,so.l-tbl.length,so.c-tbl.length⟩ }) P4 F48 B8' rfl rfl rfl rfl rfl rfl rfl
    have HV8:=HV4.fr F48 (by intro v hv;simp;exact fun e=>hgso (e▸hv))
    have hh8:Held w8 sA.out.a tbl:=hh4.fr F48 hgsa
    have A8:=HV8.vec.arr
    have AD:=A8.drop tbl.length (by rw [List.length_append];omega)
    rw [List.drop_left] at AD
    have GS:GoW w4 w8 (colN w2.heap.size 2 colA) (fun v=>if colN w2.heap.size 2 colA v=4 then 5 else if colN w2.heap.size 2 colA v=5 then 4 else colN w2.heap.size 2 colA v):=by
     refine ⟨⟨[g],F48,(Q4.mvG F48).own_⟩,?_⟩
     intro v _ hno
     show (if _=4 then 5 else if _=5 then 4 else _)=_
     rw [if_neg (fun e=>hno (by rw [e];exact ⟨by decide,by decide⟩)),if_neg (fun e=>hno (by rw [e];exact ⟨by decide,by decide⟩))]
    have hoc:∀a,sA.out.a=some a→(if colN w2.heap.size 2 colA a.block=4 then 5 else if colN w2.heap.size 2 colA a.block=5 then 4 else colN w2.heap.size 2 colA a.block)=2:=by
     intro a ha
     have e2:colN w2.heap.size 2 colA a.block=2:=(colN_old (Q2.oP.lt _ (mem_bs ha))).trans (QA.out2 _ (mem_bs ha))
     rw [e2];rfl
    exact hk1 w8 _ _ so tbl ol hTL hby hwt hEn (by omega) rfl HV8 (hh8.arr (a:=none) (c:=0) ⟨w1,QA.oP⟩) AD hoc W8 P8 ⟨KA.reuse,KA.wll,KA.tl⟩ (G4.trans GS)
end
section
variable {w:World} {g n L M0 L0:Nat} {s:HU} {s1:Sl} {xs pre:List Nat} {col:Nat→Nat} {cnt ln0:Nat→Nat} {fc:FuncId} {Enc:(Nat→Nat)→(Nat→Nat)→List Nat→List Nat→Prop} {K3:Sl×Bool×Value→PT}
theorem rs_step {K:Sl×Value→PT} {E:Prop} (hC:CompOK fc Enc E) (hfn:hasFn Tryd.prog fc=true) (Q:HQ w g s col n cnt L pre) (hP:PTc w s.pt M0 ln0 L0)
  (hx:∀x∈xs,x<L0∧0<ln0 x) (hsrc:Arr .u8 w s1 xs) (hf:∀a,s1.a=some a→xs ≠ []→¬own (col a.block)) (h2:2≤xs.length) (hxs:xs.length≤2^18) (hpre:pre.length≤2^20)
  (hk0:E→∀w' s' col' v,EG w' v→s' = { s with out:=⟨none,0,0⟩ } → HQ w' g s' col' n cnt L []→GoW w w' col col'→PTc w' s'.pt M0 ln0 L0→(∀M1 ln1 L1,PTc w s.ct M1 ln1 L1→PTc w' s'.ct M1 ln1 L1)→K (⟨none,0,0⟩,v) w')
  (hk1:∀w' s' col' so ol,Enc (vC ln0 L0 M0) ln0 xs ol→s' = { s with out:=so } → HQ w' g s' col' n cnt L (pre++ol)→GoW w w' col col'→PTc w' s'.pt M0 ln0 L0→(∀M1 ln1 L1,PTc w s.ct M1 ln1 L1→PTc w' s'.ct M1 ln1 L1)→K (so,.nilIface) w') :
  (nz (some ⟨g,0,none⟩) fun (p134:Addr)=>ld .S (Addr.add p134 271) fun (s135:Sl)=>nz (some ⟨g,0,none⟩) fun (p136:Addr)=>ld (.I .u8) (Addr.add p136 268) fun (n137:Int)=>nz (some ⟨g,0,none⟩) fun (p138:Addr)=>ld .S (Addr.add p138 270) fun (s139:Sl)=>nz (some ⟨g,0,none⟩) fun (p140:Addr)=>st (Addr.add p140 271) (.slice s139.a s139.l s139.c)<|nz (some ⟨g,0,none⟩) fun (p141:Addr)=>ld (.I .u8) (Addr.add p141 269) fun (n142:Int)=>nz (some ⟨g,0,none⟩) fun (p143:Addr)=>st (Addr.add p143 268) (.int .u8 n142)<|callV Tryd.prog (.func (.func fc) #[.pointer (some ⟨g,0,none⟩)] #[]) #[(.slice s1.a s1.l s1.c)] [.c .S,.c .V] fun (r144:Sl×Value)=>nz (some ⟨g,0,none⟩) fun (p145:Addr)=>st (Addr.add p145 256) (.slice r144.1.a r144.1.l r144.1.c)<|nz (some ⟨g,0,none⟩) fun (p146:Addr)=>st (Addr.add p146 271) (.slice s135.a s135.l s135.c)<|nz (some ⟨g,0,none⟩) fun (p147:Addr)=>st (Addr.add p147 268) (.int .u8 n137)<|K r144) w:=by
 refine ⟨_,rfl,?_⟩
 simp only [add_mk,Nat.zero_add]
 refine ld_b (t := .S) (x:=s.ct) Q.blk rfl ⟨_,rfl,?_⟩
 simp only [add_mk,Nat.zero_add]
 refine ld_b (t := .I .u8) (x:=s.atl) Q.blk rfl ⟨_,rfl,?_⟩
 simp only [add_mk,Nat.zero_add]
 refine ld_b (t := .S) (x:=s.pt) Q.blk rfl ⟨_,rfl,?_⟩
 simp only [add_mk,Nat.zero_add]
 refine st_u Q.blk rfl rfl ?_
 intro w1 B1 F1
 have B1':=B1.congr (HU.setT (s' := { s with ct:=s.pt }) 15 rfl rfl rfl (by decide))
 refine ⟨_,rfl,?_⟩
 simp only [add_mk,Nat.zero_add]
 refine ld_b (t := .I .u8) (x:=s.ptl) B1' rfl ⟨_,rfl,?_⟩
 simp only [add_mk,Nat.zero_add]
 refine st_u B1' rfl rfl ?_
 intro w2 B2 F2
 have B2':=B2.congr (HU.setT (s' := { s with ct:=s.pt,atl:=s.ptl }) 12 rfl rfl rfl (by decide))
 have F02:Fm w w2 [g]:=F1.trans F2 (fun x hx => .inl hx)
 refine comp_core (s2 := { s with ct:=s.pt,atl:=s.ptl }) (ln:=ln0) (M1:=M0) (L1:=L0) hC hfn Q w2 F02 B2' rfl (Q.ptG F02 hP) ?_ hx hsrc hf h2 hxs hpre ?_ ?_
 ·intro v hv
  have h5:=Q.pt.co v hv
  exact ⟨Q.pt.own.lt v hv,by omega,by omega⟩
 ·intro hE w3 o v hv B3 F3
  refine ⟨_,rfl,?_⟩
  simp only [add_mk,Nat.zero_add]
  refine st_u B3 rfl rfl ?_
  intro w4 B4 F4
  have B4':=B4.congr (HU.setT (s' := { s with ct:=s.pt,atl:=s.ptl,out:=⟨none,0,0⟩ }) 0 rfl rfl rfl (by decide))
  refine ⟨_,rfl,?_⟩
  simp only [add_mk,Nat.zero_add]
  refine st_u B4' rfl rfl ?_
  intro w5 B5 F5
  have B5':=B5.congr (HU.setT (s' := { s with atl:=s.ptl,out:=⟨none,0,0⟩ }) 15 rfl rfl rfl (by decide))
  refine ⟨_,rfl,?_⟩
  simp only [add_mk,Nat.zero_add]
  refine st_u B5' rfl rfl ?_
  intro w6 B6 F6
  have B6':=B6.congr (HU.setT (s' := { s with out:=⟨none,0,0⟩ }) 12 rfl rfl rfl (by decide))
  have F06:Fm w w6 (g::s.out.bs):=F3.trans ((F4.trans F5 (fun x hx => .inl hx)).trans F6 (fun x hx => .inl hx)) (by intro v hv;left;simp at hv;simp [hv])
  obtain ⟨Q6,M6⟩:=Q.comp (so:=⟨none,0,0⟩) F06 (by simp [Sl.bs]) VecU.nil B6'
  exact hk0 hE w6 _ _ v (((hv.fm F4 Q.g9l).fm F5 Q.g9l).fm F6 Q.g9l) rfl Q6 M6.go (Q.ptO F06 hP) (fun M1 ln1 L1 h=>Q.ctO F06 h)
 ·intro w3 o so ol hEn HV3 B3 hn3 F3 hh3
  refine ⟨_,rfl,?_⟩
  simp only [add_mk,Nat.zero_add]
  refine st_u B3 rfl rfl ?_
  intro w4 B4 F4
  have B4':=B4.congr (HU.setT (s' := { s with ct:=s.pt,atl:=s.ptl,out:=so }) 0 rfl rfl rfl (by decide))
  refine ⟨_,rfl,?_⟩
  simp only [add_mk,Nat.zero_add]
  refine st_u B4' rfl rfl ?_
  intro w5 B5 F5
  have B5':=B5.congr (HU.setT (s' := { s with atl:=s.ptl,out:=so }) 15 rfl rfl rfl (by decide))
  refine ⟨_,rfl,?_⟩
  simp only [add_mk,Nat.zero_add]
  refine st_u B5' rfl rfl ?_
  intro w6 B6 F6
  have B6':=B6.congr (HU.setT (s' := { s with out:=so }) 12 rfl rfl rfl (by decide))
  have F36:Fm w3 w6 [g]:=(F4.trans F5 (fun x hx => .inl hx)).trans F6 (fun x hx => .inl hx)
  have F06:Fm w w6 (g::s.out.bs):=F3.trans F36 (by intro v hv;left;simp at hv;simp [hv])
  have hgso:∀v∈so.bs,v ∉ [g]:=by
   intro v hv
   simp
   intro e
   subst e
   rcases hn3 v hv with h1|h1
   ·have:=Q.out2 v h1;rw [Q.cg] at this;cases this
   ·have:=Q.blk.lt;omega
  obtain ⟨Q6,M6⟩:=Q.comp (so:=so) F06 hn3 (HV3.fr F36 hgso) B6'
  exact hk1 w6 _ _ so ol hEn rfl Q6 M6.go (Q.ptO F06 hP) (fun M1 ln1 L1 h=>Q.ctO F06 h)
theorem c91q {K:Value→PT} (Q:HQ w g s col n cnt L pre) (hn2:n<4294967296) (two:∃a b,a≠b∧a<L∧b<L∧0<cnt a∧0<cnt b) (hsum:sF cnt 0 L≤n) (h8:sF cnt 0 L<832040)
  (hk:∀w' s' col' M ln,HT cnt L M ln→(∀t:Nat,s.tl=(t:Nat)→LenR cnt L n t M ln)→HQ w' g s' col' n cnt L pre→PTc w' s'.ct M ln L→s'.atl=(M:Nat)→s'.pt=s.pt→(∀M1 ln1 L1,PTc w s.pt M1 ln1 L1→PTc w' s'.pt M1 ln1 L1)→SK s s'→s'.out=s.out→s'.reuse=s.reuse→s'.outT=s.outT→GoW w w' col col'→K .nilIface w') :
  callP Tryd.prog 91 #[.pointer (some ⟨g,0,none⟩)] [.c .V] K w:=by
 obtain ⟨nb,l0,cap,Fn,hnod,hcap,cnb,HN,hS,hF⟩:=Q.nodP
 obtain ⟨t,htl,_,ht11⟩:=Q.tlP
 have c4:=Q.ct.co
 have dgn:g≠nb:=fun e=>by rw [←e,Q.cg] at cnb;cases cnb
 have hg:g∉s.ct.bs:=fun h=>by have:=c4 g h;rw [Q.cg] at this;cases this
 have hnb:nb∉s.ct.bs:=fun h=>by have:=c4 nb h;rw [cnb] at this;cases this
 have hl1:=Q.sc.l1
 have hl256:=Q.sc.l256
 refine c91 Q.blk Q.sc Q.srcN htl ht11 hn2 two hsum h8 hnod hcap HN hS hF dgn Q.ct.own hg hnb ?_
 intro w' M ln tb capt F' Fn' HTc hLR h256 B' HF' hS' hcells HN' hSn' hFn' htb dgt dnt Fr
 have hown:∀v∈g::nb::s.ct.bs,v<w.heap.size→own (col v):=by
  intro v hv _
  rcases List.mem_cons.mp hv with h|h
  ·rw [h];exact Q.ownG
  ·rcases List.mem_cons.mp h with h|h
   ·rw [h,cnb];exact ⟨by decide,by decide⟩
   ·rw [c4 v h];exact ⟨by decide,by decide⟩
 have hkeep:∀r,r≠1→r≠3→r≠4→∀v∈g::nb::s.ct.bs,v<w.heap.size→col v≠r:=by
  intro r h1 h3 h4 v hv _ e
  rcases List.mem_cons.mp hv with h|h
  ·rw [h,Q.cg] at e;exact h1 e.symm
  ·rcases List.mem_cons.mp h with h|h
   ·rw [h,cnb] at e;exact h3 e.symm
   ·rw [c4 v h] at e;exact h4 e.symm
 have M1:Mv w w' col (colN w.heap.size 4 col) (g::nb::s.ct.bs):=⟨Fr,hown,fun v hv=>colN_old hv⟩
 have K2:=M1.keep (hkeep 2 (by decide) (by decide) (by decide))
 have K5:=M1.keep (hkeep 5 (by decide) (by decide) (by decide))
 have ctb:colN w.heap.size 4 col tb=4:=by
  rcases htb with h|h
  ·exact (colN_old (Q.ct.own.lt tb h)).trans (c4 tb h)
  ·exact colN_new h
 have Q':HQ w' g ({ s with atl:=(M:Nat),ct:=⟨some ⟨tb,0,none⟩,L,capt⟩,nodes:=⟨some ⟨nb,0,none⟩,513,cap⟩ } : HU) (colN w.heap.size 4 col) n cnt L pre:=by
  refine Q.mv M1 B' (Q.oP.fr Fr (fun b hb=>K2.out (Q.out2 b hb) (Q.oP.lt b hb))) ?_ ?_ (Q.fseP.mv Fr (M1.keep (hkeep 6 (by decide) (by decide) (by decide)))) ?_ (hkeep 5 (by decide) (by decide) (by decide)) rfl rfl rfl rfl rfl rfl rfl rfl
  ·intro v hv;exact (colN_old (Q.oP.lt v hv)).trans (Q.out2 v hv)
  ·exact ⟨nb,513,cap,Fn',rfl,hcap,(colN_old HN.lt).trans cnb,HN',hSn',hFn'⟩
  ·refine ⟨Own.of HF' hS' (by omega),?_⟩
   intro v hv
   simp [Sl.bs] at hv
   rw [hv];exact ctb
 have hLR':∀t':Nat,s.tl=(t':Nat)→LenR cnt L n t' M ln:=by
  intro t' h'
  have e:t'=t:=by omega
  rw [e];exact hLR
 refine hk w' _ _ M ln HTc hLR' Q' ⟨tb,capt,F',cnt,rfl,h256,HF',hcells,HTc,hl256,by omega⟩ rfl rfl ?_ ⟨rfl,rfl,rfl⟩ rfl rfl rfl M1.go
 intro Ma lna La h
 exact h.mv Fr (fun v hv=>K5.out (Q.pt.co v hv) (Q.pt.own.lt v hv))
theorem HQ.em {w':World} (Q:HQ w g s col n cnt L pre) (F:Fm w w' []):HQ w' g s col n cnt L pre :=
 Q.self (s':=s) (F.mono (by simp)) (Q.blk.fr F (by simp)) rfl rfl rfl rfl rfl rfl rfl rfl rfl rfl rfl rfl
theorem HQ.goE {w':World} (Q:HQ w g s col n cnt L pre) (F:Fm w w' []):GoW w w' col col:=GoW.of F (by simp) (fun _ _=>rfl)
theorem c119q {K:Int→PT} {M1 L1:Nat} {ln1:Nat→Nat} {tb lt ct:Nat} {o:Sl} (Q:HQ w g s col n cnt L pre) (hP:PTc w o M1 ln1 L1) (ho:o=⟨some ⟨tb,0,none⟩,lt,ct⟩) (hL:L≤L1) (hk:∀w' r,Fm w w' []→K r w') :
  callP Tryd.prog 119 #[.slice (some ⟨tb,0,none⟩) lt ct,.slice (some ⟨g,0,none⟩) L 256] [.c (.I .i64)] K w:=by
 obtain ⟨qb,pc,e,h256,_,F,HF,hF,_,hL256,_⟩:=hP.tb
 rw [ho] at e
 injection e with e1 e2 e3
 injection e1 with e1
 injection e1 with e1
 subst e1 e2 e3
 have:=Q.sc.l256
 refine c119 (F:=F) HF (fun i hi=>hF i (by omega)) (by omega) this Q.blk (fun i hi=>⟨_,HU.count_at s (by omega)⟩) hk
theorem err_hw {κ:Value→PT} {i:Nat} (hi:i<3) (W:HW w g s col) (hk:∀w' v,EG w' v→HW w' g s col→GoW w w' col col→κ v w'):drw (ld .V ⟨i,0,none⟩ κ) w:=by
 refine ld_errG (W.er i hi) hi ?_
 intro v hv
 have F:Fm w w.drew []:=(Fm.refl w []).drew
 exact hk _ v hv (W.same (W.blk.fr F (by simp)) (F.mono (by simp)) rfl rfl rfl rfl rfl W.mx W.cz) (GoW.of F (by simp) (fun _ _=>rfl))
end
structure NT (xs:List Nat) (M:Nat) (ln:Nat→Nat) (L:Nat):Prop where
 h:HT (fun i=>xs.count i) L M ln
 l2:2≤L
 l256:L≤256
 out:∀i,L≤i→xs.count i=0
 last:0<xs.count (L-1)
 two:∃a,a<L-1∧0<xs.count a
theorem sF_count (L:Nat):∀xs:List Nat,sF (fun i=>xs.count i) 0 L≤xs.length
 | []=>by rw [sF_zero (fun i _=>by simp)];omega
 | x::r=>by
  have e:sF (fun i=>(x::r).count i) 0 L=sF (fun i=>r.count i) 0 L+sF (fun i=>if x=i then 1 else 0) 0 L:=by
   rw [←sF_add]
   refine sF_congr (fun i _ _ => ?_)
   rw [List.count_cons]
   by_cases h:x=i
   ·subst h;simp
   ·rw [if_neg (by simpa using h),if_neg h]
  have h1:=sF_count L r
  have h2:sF (fun i=>if x=i then 1 else 0) 0 L≤1:=by
   by_cases h:x<L
   ·rw [sF_single h (fun i _ hi=>if_neg (fun e=>hi e.symm)),if_pos rfl];omega
   ·rw [sF_zero (fun i hi=>if_neg (by omega))];omega
  rw [e,List.length_cons]
  omega
theorem mx_two {xs:List Nat} {m L:Nat} (hM:MX (fun i=>xs.count i) m L) (hby:By xs) (hm:m<xs.length):2≤L∧(∀i,L≤i→xs.count i=0)∧0<xs.count (L-1)∧∃a,a<L-1∧0<xs.count a:=by
 have h1:=hM.l1
 have hl:0<xs.count (L-1):=by have:xs.count (L-1)≠0:=hM.last;omega
 have hout:∀i,L≤i→xs.count i=0:=by
  intro i hi
  rcases Nat.lt_or_ge i 256 with h|h
  ·exact hM.out i h hi
  ·exact List.count_eq_zero.mpr (fun hh=>by have:=hby i hh;omega)
 have hle:xs.count (L-1)≤m:=hM.le (L-1) (by have:=hM.l256;omega)
 have hex:∃a,a<L-1∧0<xs.count a:=by
  refine Classical.byContradiction fun hn => ?_
  have hall:∀b∈xs,L-1=b:=by
   intro b hb
   have h2:0<xs.count b:=List.count_pos_iff.mpr hb
   have h3:b<L:=Classical.byContradiction fun h=>by have:=hout b (by omega);omega
   rcases Nat.lt_or_ge b (L-1) with h|h
   ·exact absurd ⟨b,h,h2⟩ hn
   ·omega
  have:=List.count_eq_length.mpr hall
  omega
 obtain ⟨a,ha,ha2⟩:=hex
 exact ⟨by omega,hout,hl,a,ha,ha2⟩
section
variable {w:World} {g n L M0 L0:Nat} {s:HU} {s1:Sl} {xs pre:List Nat} {col:Nat→Nat} {cnt ln0:Nat→Nat} {fc:FuncId} {Enc:(Nat→Nat)→(Nat→Nat)→List Nat→List Nat→Prop} {K3:Sl×Bool×Value→PT}
theorem CompOK.of {f:FuncId} {Enc:(Nat→Nat)→(Nat→Nat)→List Nat→List Nat→Prop} {E:Prop} (h:CompOK f Enc) (hE:E):CompOK f Enc E:=by
 intro w g tb capt lct cd ln pre xs s1 s K a1 a2 a3 a4 a5 a6 a7 a8 a9 a10 a11 a12 a13 a14 a15 a16 hk0 hk1
 exact h w g tb capt lct cd ln pre xs s1 s K a1 a2 a3 a4 a5 a6 a7 a8 a9 a10 a11 a12 a13 a14 a15 a16 (fun _=>hk0 hE) hk1
theorem enc4_ne:Enc4≠EncT:=by
 intro e
 have h:EncT (fun _=>0) (fun _=>0) [] [1]:=⟨(by intro x hx;simp at hx;omega),rfl,rfl⟩
 rw [←e] at h
 have:=h.1
 simp at this
def CntOK (xs:List Nat):Prop:=∃m L,MX (fun i=>xs.count i) m L∧m<xs.length∧m≠1∧xs.length/128≤m
theorem CntOK.at {xs:List Nat} {m L:Nat} (h:CntOK xs) (hM:MX (fun i=>xs.count i) m L):m<xs.length∧m≠1∧xs.length/128≤m:=by
 obtain ⟨m',L',h1,h2⟩:=h
 have e:m=m':=by
  obtain ⟨i,hi,hi2⟩:=hM.ex
  obtain ⟨j,hj,hj2⟩:=h1.ex
  have a:=h1.le i (by have:=hM.l256;omega)
  have b:=hM.le j (by have:=h1.l256;omega)
  have hi2:xs.count i=m:=hi2
  have hj2:xs.count j=m':=hj2
  have a:xs.count i≤m':=a
  have b:xs.count j≤m:=b
  omega
 subst e
 exact h2
theorem CntOK.ne {xs:List Nat} (h:CntOK xs):xs ≠ []:=by
 obtain ⟨m',L',h1,h2,_⟩:=h
 intro e
 rw [e] at h2
 simp at h2
def Bad (xs:List Nat) (t:Nat) (Enc:(Nat→Nat)→(Nat→Nat)→List Nat→List Nat→Prop):Prop :=
 ¬CntOK xs∨∃M ln L,NT xs M ln L∧LenR (fun i=>xs.count i) L xs.length t M ln∧WhyT Enc xs M ln L
structure KE (w:World) (g:Nat) (s:HU) (col:Nat→Nat) (xs:List Nat) (Enc:(Nat→Nat)→(Nat→Nat)→List Nat→List Nat→Prop) (M0:Nat) (ln0:Nat→Nat) (L0:Nat) (K3:Sl×Bool×Value→PT):Prop where
 e:∀w' s' col' v,EG w' v→(s.reuse=2→∀t:Nat,s.tl=(t:Nat)→Bad xs t Enc)→HW w' g s' col'→s'.outT=⟨none,0,0⟩→SK s s'→GoW w w' col col'→K3 (⟨none,0,0⟩,false,v) w'
 r:∀w' s' col' so ol,s.reuse≠2→Enc (vC ln0 L0 M0) ln0 xs ol→(∀x∈xs,x<L0∧0<ln0 x)→ol.length<xs.length→s'.out=so→VecU w' so ol→HW w' g s' col'→PTc w' s'.pt M0 ln0 L0→s'.outT=⟨none,0,0⟩→SK s s'→GoW w w' col col'→K3 (so,true,.nilIface) w'
 t:∀w' s' col' so M ln L tbl ol,s.reuse≠3→CntOK xs→TL (wtL M ln L) L tbl.length→(∀t:Nat,s.tl=(t:Nat)→LenR (fun i=>xs.count i) L xs.length t M ln)→NT xs M ln L→By tbl→weightsZ tbl=some (wtL M ln L,tbl.length)→Enc (vC ln L M) ln xs ol→tbl.length+ol.length<xs.length→s'.out=so→VecU w' so (tbl++ol)→Arr .u8 w' s'.outT tbl→Arr .u8 w' s'.outD ol→(∀a,s'.outT.a=some a→col' a.block=2)→HW w' g s' col'→PTc w' s'.pt M ln L→SK s s'→GoW w w' col col'→K3 (so,false,.nilIface) w'
theorem KE.go {w':World} {s':HU} {col':Nat→Nat} (k:KE w g s col xs Enc M0 ln0 L0 K3) (G:GoW w w' col col') (S:SK s s'):KE w' g s' col' xs Enc M0 ln0 L0 K3:=by
 have tr:∀ {s2:HU},SK s' s2→SK s s2:=fun h=>⟨h.reuse.trans S.reuse,h.wll.trans S.wll,h.tl.trans S.tl⟩
 refine ⟨?_,?_,?_⟩
 ·intro w2 s2 col2 v h1 hB h2 hT h3 h4
  exact k.e w2 s2 col2 v h1 (fun h t ht=>hB (S.reuse.trans h) t (S.tl.trans ht)) h2 hT (tr h3) (G.trans h4)
 ·intro w2 s2 col2 so ol h1 h2 h3 h4 h5 h6 h7 h8 hT h9 h10
  exact k.r w2 s2 col2 so ol (by rw [←S.reuse];exact h1) h2 h3 h4 h5 h6 h7 h8 hT (tr h9) (G.trans h10)
 ·intro w2 s2 col2 so M ln L tbl ol hr hcn hTL hl h1 h2 h3 h4 h5 h6 h7 h8 h9 hc h10 h11 h12 h13
  exact k.t w2 s2 col2 so M ln L tbl ol (by rw [←S.reuse];exact hr) hcn hTL (fun t ht=>hl t (S.tl.trans ht)) h1 h2 h3 h4 h5 h6 h7 h8 h9 hc h10 h11 (tr h12) (G.trans h13)
structure TX (w:World) (col:Nat→Nat) (s1:Sl) (xs:List Nat) (fc:FuncId) (Enc:(Nat→Nat)→(Nat→Nat)→List Nat→List Nat→Prop):Prop where
 hC:CompOK fc Enc (Enc≠EncT)
 hfn:hasFn Tryd.prog fc=true
 hE:EncLe Enc
 src:Arr .u8 w s1 xs
 by_:By xs
 far:∀a,s1.a=some a→xs ≠ []→¬own (col a.block)
 le:xs.length≤2^18
theorem TX.go {w':World} {col':Nat→Nat} (T:TX w col s1 xs fc Enc) (G:GoW w w' col col'):TX w' col' s1 xs fc Enc:=⟨T.hC,T.hfn,T.hE,G.arr T.src T.far,T.by_,G.far T.src T.far,T.le⟩
theorem rs_take {x25:Int} {so:Sl} {ol:List Nat} (hT:s.outT=⟨none,0,0⟩) (Q:HQ w g s col n cnt L ol) (k:KE w g s col xs Enc M0 ln0 L0 K3) (hr:s.reuse≠2) (hEn:Enc (vC ln0 L0 M0) ln0 xs ol) (hx:∀x∈xs,x<L0∧0<ln0 x) (hP:PTc w s.pt M0 ln0 L0) (ho:s.out=so) (hlt:ol.length<xs.length) :
  (nz (some ⟨g,0,none⟩) fun (p151:Addr)=>ld .S (Addr.add p151 256) fun (s152:Sl)=>nz (some ⟨g,0,none⟩) fun (p153:Addr)=>st (Addr.add p153 258) (.slice s152.a s152.l s152.c)<|nz (some ⟨g,0,none⟩) fun (p154:Addr)=>ld .S (Addr.add p154 256) fun (s155:Sl)=>K3 (s155,true,.nilIface)) w:=by
 refine ⟨_,rfl,?_⟩
 simp only [add_mk,Nat.zero_add]
 refine ld_b (t := .S) (x:=s.out) Q.blk rfl ⟨_,rfl,?_⟩
 simp only [add_mk,Nat.zero_add]
 refine st_u Q.blk rfl rfl ?_
 intro w1 B1 F1
 have B1':=B1.congr (HU.setT (s' := { s with outD:=s.out }) 2 rfl rfl rfl (by decide))
 refine ⟨_,rfl,?_⟩
 simp only [add_mk,Nat.zero_add]
 refine ld_b (t := .S) (x:=s.out) B1' rfl ?_
 have Q1:=Q.self F1 B1' rfl rfl rfl rfl rfl rfl rfl rfl rfl rfl rfl rfl
 exact k.r w1 { s with outD:=s.out } col s.out ol hr hEn hx hlt rfl Q1.oP Q1.hw (Q.ptG F1 hP) hT ⟨rfl,rfl,rfl⟩ (Q.mvG F1).go
theorem rs_end0 {s0:HU} {col0:Nat→Nat} {w0:World} (hT:s0.outT=⟨none,0,0⟩) (T:TX w0 col0 s1 xs fc Enc) (Q:HQ w0 g s0 col0 n cnt L []) (k:KE w0 g s0 col0 xs Enc M0 ln0 L0 K3) (hr:s0.reuse≠2) (hx:∀x∈xs,x<L0∧0<ln0 x) (hP:PTc w0 s0.pt M0 ln0 L0) (h2:2≤xs.length) :
  (nz (some ⟨g,0,none⟩) fun (p134:Addr)=>ld .S (Addr.add p134 271) fun (s135:Sl)=>nz (some ⟨g,0,none⟩) fun (p136:Addr)=>ld (.I .u8) (Addr.add p136 268) fun (n137:Int)=>nz (some ⟨g,0,none⟩) fun (p138:Addr)=>ld .S (Addr.add p138 270) fun (s139:Sl)=>nz (some ⟨g,0,none⟩) fun (p140:Addr)=>st (Addr.add p140 271) (.slice s139.a s139.l s139.c)<|nz (some ⟨g,0,none⟩) fun (p141:Addr)=>ld (.I .u8) (Addr.add p141 269) fun (n142:Int)=>nz (some ⟨g,0,none⟩) fun (p143:Addr)=>st (Addr.add p143 268) (.int .u8 n142)<|callV Tryd.prog (.func (.func fc) #[.pointer (some ⟨g,0,none⟩)] #[]) #[(.slice s1.a s1.l s1.c)] [.c .S,.c .V] fun (r144:Sl×Value)=>nz (some ⟨g,0,none⟩) fun (p145:Addr)=>st (Addr.add p145 256) (.slice r144.1.a r144.1.l r144.1.c)<|nz (some ⟨g,0,none⟩) fun (p146:Addr)=>st (Addr.add p146 271) (.slice s135.a s135.l s135.c)<|nz (some ⟨g,0,none⟩) fun (p147:Addr)=>st (Addr.add p147 268) (.int .u8 n137)<|req (isIf r144.2=true)<|cnd (!(isNil r144.2)) (K3 (⟨none,0,0⟩,false,r144.2)) (nz (some ⟨g,0,none⟩) fun (p148:Addr)=>ld .S (Addr.add p148 256) fun (s149:Sl)=>cnd (decide (((xs.length:Nat):Int)≤(s149.l:Int))) (drw<|ld .V ⟨0,0,none⟩ fun (v150:Value)=>K3 (⟨none,0,0⟩,false,v150)) (nz (some ⟨g,0,none⟩) fun (p151:Addr)=>ld .S (Addr.add p151 256) fun (s152:Sl)=>nz (some ⟨g,0,none⟩) fun (p153:Addr)=>st (Addr.add p153 258) (.slice s152.a s152.l s152.c)<|nz (some ⟨g,0,none⟩) fun (p154:Addr)=>ld .S (Addr.add p154 256) fun (s155:Sl)=>K3 (s155,true,.nilIface)))) w0:=by
 refine rs_step (K:=fun r144=>req (isIf r144.2=true)<|cnd (!(isNil r144.2)) (K3 (⟨none,0,0⟩,false,r144.2)) (nz (some ⟨g,0,none⟩) fun (p148:Addr)=>ld .S (Addr.add p148 256) fun (s149:Sl)=>cnd (decide (((xs.length:Nat):Int)≤(s149.l:Int))) (drw<|ld .V ⟨0,0,none⟩ fun (v150:Value)=>K3 (⟨none,0,0⟩,false,v150)) (nz (some ⟨g,0,none⟩) fun (p151:Addr)=>ld .S (Addr.add p151 256) fun (s152:Sl)=>nz (some ⟨g,0,none⟩) fun (p153:Addr)=>st (Addr.add p153 258) (.slice s152.a s152.l s152.c)<|nz (some ⟨g,0,none⟩) fun (p154:Addr)=>ld .S (Addr.add p154 256) fun (s155:Sl)=>K3 (s155,true,.nilIface)))) T.hC T.hfn Q hP hx T.src T.far h2 T.le (by simp) ?_ ?_
 ·intro _ w' s' col' v hv es Q' G' _ _
  subst es
  exact ⟨isPE.ifc hv.2,err_cnd (isPE.nil hv.2) (k.e w' _ col' v hv (fun h=>absurd h hr) Q'.hw hT ⟨rfl,rfl,rfl⟩ G')⟩
 ·intro w' s' col' so ol hEn es Q' G' hP' _
  subst es
  have hol:so.l=ol.length:=Q'.oP.len
  have k':=k.go (s' := { s0 with out:=so }) G' ⟨rfl,rfl,rfl⟩
  refine ⟨rfl,nil_cnd ⟨_,rfl,?_⟩⟩
  simp only [add_mk,Nat.zero_add]
  refine ld_b (t := .S) (x:=so) Q'.blk rfl (cnd_d (fun _ => ?_) (fun hlt => ?_))
  ·exact err_hw (by decide) Q'.hw (fun w2 v hv W2 G2=>k'.e w2 _ col' v hv (fun h=>absurd h hr) W2 hT ⟨rfl,rfl,rfl⟩ G2)
  ·exact rs_take (s := { s0 with out:=so }) (x25:=0) (so:=so) (ol:=ol) hT Q' k' hr hEn hx hP' rfl (by omega)
theorem j88_J7 {M:Nat} {ln:Nat→Nat} {x19:Int×Bool} (hcn:CntOK xs) (hp2:s.reuse=2→pre = []) (hT:s.outT=⟨none,0,0⟩) (T:TX w col s1 xs fc Enc) (Q:HQ w g s col n (fun i=>xs.count i) L pre) (k:KE w g s col xs Enc M0 ln0 L0 K3) (hr3:s.reuse≠3) (hLR:∀t:Nat,s.tl=(t:Nat)→LenR (fun i=>xs.count i) L xs.length t M ln) (hN:NT xs M ln L) (hP:PTc w s.ct M ln L) (hat:s.atl=(M:Nat)) (h2:2≤xs.length) (hpre:pre = []∨(s.reuse≠0∧xs.length≤pre.length∧pre.length≤2^19))
  (hb:s.reuse=0→x19.2=true→(∀x∈xs,x<L0∧0<ln0 x)∧PTc w s.pt M0 ln0 L0) :
  q88_J7 s1 (some ⟨g,0,none⟩) (.func (.func fc) #[.pointer (some ⟨g,0,none⟩)] #[]) K3 x19 (xs.length:Nat) () w:=by
 have hx:∀x∈xs,x<L∧0<ln x:=by
  intro x hx
  have h1:0<xs.count x:=List.count_pos_iff.mpr hx
  have h3:x<L:=Classical.byContradiction fun h=>by have:=hN.out x (by omega);omega
  exact ⟨h3,(hN.h.pos x h3).mpr h1⟩
 have fin:∀w',Fm w w' []→q88_J5 s1 (some ⟨g,0,none⟩) (.func (.func fc) #[.pointer (some ⟨g,0,none⟩)] #[]) K3 (xs.length:Nat) () w':=by
  intro w' F'
  have Q':=Q.em F'
  have G':=Q.goE F'
  have T':=T.go G'
  have k':=k.go (s':=s) G' (SK.refl s)
  refine j88_J5 T'.hC T'.hfn T'.hE Q' (hP.mv F' (by simp)) hat hN.l2 hx T'.src T'.far h2 T'.le (hpre.imp id (fun h=>h.2)) (fun w2 s2 col2 v h1 hW h2 h3 h4 h5=>k'.e w2 s2 col2 v h1 (fun h t ht => .inr ⟨M,ln,L,hN,hLR t ht,hW (hp2 h)⟩) h2 h3 h4 h5) ?_
  intro w2 s2 col2 so tbl ol hTL h1 h2 h3 h4 h5 h6 h7 h8 hc h9 h10 h11 h12
  exact k'.t w2 s2 col2 so M ln L tbl ol hr3 hcn hTL hLR hN h1 h2 h3 h4 h5 h6 h7 h8 hc h9 h10 h11 h12
 unfold q88_J7
 refine joinP_id ?_
 unfold q88_X6
 refine ⟨_,rfl,?_⟩
 simp only [add_mk,Nat.zero_add]
 refine ld_b (t := .I .u8) (x:=s.reuse) Q.blk rfl (cnd_d (fun hr0 => ?_) (fun _=>fin w (Fm.refl _ _)))
 refine ⟨fun hbt => ?_,fun _=>fin w (Fm.refl _ _)⟩
 obtain ⟨hx0,hP0⟩:=hb hr0 hbt
 have hpn:pre = []:=hpre.elim id (fun h=>absurd hr0 h.1)
 subst hpn
 have hr2:s.reuse≠2:=by rw [hr0];decide
 obtain ⟨qb,pc,e0,_⟩:=hP0.tb
 obtain ⟨tb,pc1,e1,_⟩:=hP.tb
 have hLL:L≤L0:=by
  have h1:=hN.last
  have h3:=hx0 (L-1) (List.count_pos_iff.mp h1)
  have:=hN.l2
  omega
 have hl1:=Q.sc.l1
 have hl256:=Q.sc.l256
 have hsyat:s.at 265=some (.int .u16 ((L:Nat):Int)):=by show some (Value.int .u16 s.symL)=_;rw [Q.sc.sym]
 refine ⟨_,rfl,?_⟩
 simp only [add_mk,Nat.zero_add]
 refine ld_b (t := .S) (x:=s.out) Q.blk rfl ?_
 have Fd:Fm w w.drew []:=(Fm.refl w []).drew
 unfold drw
 refine ⟨_,rfl,?_⟩
 simp only [add_mk,Nat.zero_add]
 refine ld_b (t := .S) (x:=s.pt) Q.blk.drew rfl ?_
 rw [e0]
 refine ⟨_,rfl,⟨_,rfl,?_⟩⟩
 simp only [add_mk,Nat.zero_add]
 refine ld_b (t := .I .u16) (x:=((L:Nat):Int)) Q.blk.drew hsyat ?_
 refine slcA_hi rfl (by omega) (by omega) ?_
 refine c119q (Q.em Fd) (hP0.mv Fd (by simp)) e0 hLL ?_
 intro w1 r1 F1
 have F1d:Fm w w1.drew []:=(Fd.trans F1 (by simp)).drew
 have Q1:=Q.em F1d
 refine ⟨_,rfl,?_⟩
 simp only [add_mk,Nat.zero_add]
 refine ld_b (t := .S) (x:=s.ct) Q1.blk rfl ?_
 rw [e1]
 refine ⟨_,rfl,⟨_,rfl,?_⟩⟩
 simp only [add_mk,Nat.zero_add]
 refine ld_b (t := .I .u16) (x:=((L:Nat):Int)) Q1.blk hsyat ?_
 refine slcA_hi rfl (by omega) (by omega) ?_
 refine c119q Q1 (hP.mv F1d (by simp)) e1 (Nat.le_refl _) ?_
 intro w2 r2 F2
 have F02:Fm w w2 []:=F1d.trans F2 (by simp)
 have Q2:=Q.em F02
 have G2:=Q.goE F02
 have k2:=k.go (s':=s) G2 (SK.refl s)
 have take:=rs_end0 hT (T.go G2) Q2 k2 hr2 hx0 (hP0.mv F02 (by simp)) h2
 refine cnd_d (fun _=>take) (fun _=>cnd_d (fun _=>take) (fun _=>fin w2 F02))
theorem j88_J8 {x19:Int×Bool} (hcn:CntOK xs) (hp2:s.reuse=2→pre = []) (hr3:s.reuse≠3) (hT:s.outT=⟨none,0,0⟩) (T:TX w col s1 xs fc Enc) (Q:HQ w g s col xs.length (fun i=>xs.count i) L pre) (k:KE w g s col xs Enc M0 ln0 L0 K3) (hl:2≤L∧(∀i,L≤i→xs.count i=0)∧0<xs.count (L-1)∧∃a,a<L-1∧0<xs.count a) (h2:2≤xs.length) (hpre:pre = []∨(s.reuse≠0∧xs.length≤pre.length∧pre.length≤2^19))
  (hb:s.reuse=0→x19.2=true→(∀x∈xs,x<L0∧0<ln0 x)∧PTc w s.pt M0 ln0 L0) :
  q88_J8 s1 (some ⟨g,0,none⟩) (.func (.func fc) #[.pointer (some ⟨g,0,none⟩)] #[]) K3 x19 (xs.length:Nat) () w:=by
 obtain ⟨hL2,hout,hlast,a,ha,ha2⟩:=hl
 have hle:=T.le
 have hsum:=sF_count L xs
 unfold q88_J8
 refine c91q Q (by omega) ⟨a,L-1,by omega,by omega,by omega,ha2,hlast⟩ hsum (by omega) ?_
 intro w' s' col' M ln HTc hLR Q' hP hat hpt hpts hK ho hr hoT G
 refine ⟨rfl,nil_cnd ?_⟩
 refine joinP_id ?_
 refine j88_J7 (M:=M) (ln:=ln) hcn (fun h=>hp2 (hr.symm.trans h)) (hoT.trans hT) (T.go G) Q' (k.go G hK) (by rw [hr];exact hr3) (fun t ht=>hLR t (hK.tl.symm.trans ht)) ⟨HTc,hL2,Q.sc.l256,hout,hlast,a,ha,ha2⟩ hP hat h2 (hpre.imp id (fun h=>⟨by rw [hr];exact h.1,h.2⟩)) ?_
 intro h1 h3
 obtain ⟨h4,h5⟩:=hb (hr▸h1) h3
 exact ⟨h4,hpts _ _ _ h5⟩
end
section
variable {w:World} {g n L M0 L0:Nat} {s:HU} {s1:Sl} {xs pre:List Nat} {col:Nat→Nat} {cnt ln0:Nat→Nat} {fc:FuncId} {Enc:(Nat→Nat)→(Nat→Nat)→List Nat→List Nat→Prop} {K3:Sl×Bool×Value→PT}
theorem HQ.pt0 {w':World} (Q:HQ w g s col n cnt L pre) (F:Fm w w' [g]) (B:Blk w' g ({ s with pt:=⟨s.pt.a,0,s.pt.c⟩ } : HU).at):HQ w' g { s with pt:=⟨s.pt.a,0,s.pt.c⟩ } col n cnt L pre:=by
 have n9:∀v ∈ [g],9≤v:=by intro v hv;simp at hv;subst hv;exact Q.g9
 have pb:=Q.pt.mv F (Q.keepG (by decide))
 refine ⟨⟨B,Q.cg,Q.low,Q.out.mv F (Q.keepG (by decide)),.inr (Q.nodP.mv F (Q.keepG (by decide))),Q.ct.mv F (Q.keepG (by decide)),⟨?_,pb.co⟩,.inl rfl,.inr (Q.fseP.mv F (Q.keepG (by decide))),Q.gl.fm F n9,fun i hi=>(Q.er i hi).fm F (fun h=>by have:=n9 i h;omega),Q.mx,.inl Q.ccT⟩,Q.oP.fr F (fun b hb=>(Q.keepG (r:=2) (by decide)).out (Q.out2 b hb) (Q.oP.lt b hb)),Q.nodP.mv F (Q.keepG (by decide)),Q.fseP.mv F (Q.keepG (by decide)),Q.srcN,Q.tlP,⟨Q.sc.sym,Q.sc.l1,Q.sc.l256,Q.sc.cn,Q.sc.lt⟩,Q.ccT,Q.wl⟩
 obtain ⟨h1,h2,h3⟩:=pb.own
 exact ⟨Nat.zero_le _,h2,h3⟩
theorem HW.pt0 {w':World} (Q:HW w g s col) (F:Fm w w' [g]) (B:Blk w' g ({ s with pt:=⟨s.pt.a,0,s.pt.c⟩ } : HU).at):HW w' g { s with pt:=⟨s.pt.a,0,s.pt.c⟩ } col:=by
 have n9:∀v ∈ [g],9≤v:=by intro v hv;simp at hv;subst hv;exact Q.g9
 have pb:=Q.pt.mv F (Q.keepG (by decide))
 refine ⟨B,Q.cg,Q.low,Q.out.mv F (Q.keepG (by decide)),Q.nod.imp id (fun h=>h.mv F (Q.keepG (by decide))),Q.ct.mv F (Q.keepG (by decide)),⟨?_,pb.co⟩,.inl rfl,Q.fse.imp id (fun h=>h.mv F (Q.keepG (by decide))),Q.gl.fm F n9,fun i hi=>(Q.er i hi).fm F (fun h=>by have:=n9 i h;omega),Q.mx,Q.cz⟩
 obtain ⟨h1,h2,h3⟩:=pb.own
 exact ⟨Nat.zero_le _,h2,h3⟩
theorem rs_fall {R:Unit→PT} (hT:s.outT=⟨none,0,0⟩) (Q:HQ w g s col n cnt L pre) (k:KE w g s col xs Enc M0 ln0 L0 K3) (hk:s.reuse≠3→∀w' s' col',s'.outT=⟨none,0,0⟩→HQ w' g s' col' n cnt L pre→SK s s'→GoW w w' col col'→R () w') :
  (nz (some ⟨g,0,none⟩) fun (p272:Addr)=>ld (.I .u8) (Addr.add p272 263) fun (n273:Int)=>cnd (decide (n273=(3:Int))) (drw<|ld .V ⟨0,0,none⟩ fun (v274:Value)=>K3 (⟨none,0,0⟩,false,v274)) (nz (some ⟨g,0,none⟩) fun (p275:Addr)=>ld .S (Addr.add p275 270) fun (s276:Sl)=>slc 2 s276 none (some (0:Int)) none fun (s277:Sl)=>nz (some ⟨g,0,none⟩) fun (p278:Addr)=>st (Addr.add p278 270) (.slice s277.a s277.l s277.c)<|R ())) w:=by
 refine ⟨_,rfl,?_⟩
 simp only [add_mk,Nat.zero_add]
 refine ld_b (t := .I .u8) (x:=s.reuse) Q.blk rfl (cnd_d (fun h3 => ?_) (fun h3=>⟨_,rfl,?_⟩))
 ·exact err_hw (by decide) Q.hw (fun w2 v hv W2 G2=>k.e w2 _ col v hv (fun h=>absurd (h3.symm.trans h) (by decide)) W2 hT (SK.refl s) G2)
 ·simp only [add_mk,Nat.zero_add]
  refine ld_b (t := .S) (x:=s.pt) Q.blk rfl ?_
  refine slc_hi (m:=0) rfl (Nat.zero_le _) ⟨_,rfl,?_⟩
  simp only [add_mk,Nat.zero_add]
  refine st_u Q.blk rfl rfl ?_
  intro w1 B1 F1
  have B1':=B1.congr (HU.setT (s' := { s with pt:=⟨s.pt.a,0,s.pt.c⟩ }) 14 rfl rfl rfl (by decide))
  exact hk h3 w1 { s with pt:=⟨s.pt.a,0,s.pt.c⟩ } col hT (Q.pt0 F1 B1') ⟨rfl,rfl,rfl⟩ (Q.mvG F1).go
theorem rs_end1 {R:Unit→PT} (hT:s.outT=⟨none,0,0⟩) (T:TX w col s1 xs fc Enc) (Q:HQ w g s col n cnt L []) (k:KE w g s col xs Enc M0 ln0 L0 K3) (hr:s.reuse≠2) (hx:∀x∈xs,x<L0∧0<ln0 x) (hP:PTc w s.pt M0 ln0 L0) (h2:2≤xs.length)
  (hk:s.reuse≠3→∀w' s' col' pre,s'.outT=⟨none,0,0⟩→(pre = []∨(xs.length≤pre.length∧pre.length≤2^19))→HQ w' g s' col' n cnt L pre→SK s s'→GoW w w' col col'→R () w') :
  (nz (some ⟨g,0,none⟩) fun (p214:Addr)=>ld .S (Addr.add p214 271) fun (s215:Sl)=>nz (some ⟨g,0,none⟩) fun (p216:Addr)=>ld (.I .u8) (Addr.add p216 268) fun (n217:Int)=>nz (some ⟨g,0,none⟩) fun (p218:Addr)=>ld .S (Addr.add p218 270) fun (s219:Sl)=>nz (some ⟨g,0,none⟩) fun (p220:Addr)=>st (Addr.add p220 271) (.slice s219.a s219.l s219.c)<|nz (some ⟨g,0,none⟩) fun (p221:Addr)=>ld (.I .u8) (Addr.add p221 269) fun (n222:Int)=>nz (some ⟨g,0,none⟩) fun (p223:Addr)=>st (Addr.add p223 268) (.int .u8 n222)<|callV Tryd.prog (.func (.func fc) #[.pointer (some ⟨g,0,none⟩)] #[]) #[(.slice s1.a s1.l s1.c)] [.c .S,.c .V] fun (r224:Sl×Value)=>nz (some ⟨g,0,none⟩) fun (p225:Addr)=>st (Addr.add p225 256) (.slice r224.1.a r224.1.l r224.1.c)<|nz (some ⟨g,0,none⟩) fun (p226:Addr)=>st (Addr.add p226 271) (.slice s215.a s215.l s215.c)<|nz (some ⟨g,0,none⟩) fun (p227:Addr)=>st (Addr.add p227 268) (.int .u8 n217)<|req (isIf r224.2=true)<|cnd (isNil r224.2) (nz (some ⟨g,0,none⟩) fun (p228:Addr)=>ld .S (Addr.add p228 256) fun (s229:Sl)=>cnd (decide ((s229.l:Int)<((xs.length:Nat):Int))) (nz (some ⟨g,0,none⟩) fun (p230:Addr)=>ld .S (Addr.add p230 256) fun (s231:Sl)=>nz (some ⟨g,0,none⟩) fun (p232:Addr)=>st (Addr.add p232 258) (.slice s231.a s231.l s231.c)<|nz (some ⟨g,0,none⟩) fun (p233:Addr)=>ld .S (Addr.add p233 256) fun (s234:Sl)=>K3 (s234,true,.nilIface)) (nz (some ⟨g,0,none⟩) fun (p235:Addr)=>ld (.I .u8) (Addr.add p235 263) fun (n236:Int)=>cnd (decide (n236=(3:Int))) (drw<|ld .V ⟨0,0,none⟩ fun (v237:Value)=>K3 (⟨none,0,0⟩,false,v237)) (nz (some ⟨g,0,none⟩) fun (p238:Addr)=>ld .S (Addr.add p238 270) fun (s239:Sl)=>slc 2 s239 none (some (0:Int)) none fun (s240:Sl)=>nz (some ⟨g,0,none⟩) fun (p241:Addr)=>st (Addr.add p241 270) (.slice s240.a s240.l s240.c)<|R ()))) (nz (some ⟨g,0,none⟩) fun (p242:Addr)=>ld (.I .u8) (Addr.add p242 263) fun (n243:Int)=>cnd (decide (n243=(3:Int))) (drw<|ld .V ⟨0,0,none⟩ fun (v244:Value)=>K3 (⟨none,0,0⟩,false,v244)) (nz (some ⟨g,0,none⟩) fun (p245:Addr)=>ld .S (Addr.add p245 270) fun (s246:Sl)=>slc 2 s246 none (some (0:Int)) none fun (s247:Sl)=>nz (some ⟨g,0,none⟩) fun (p248:Addr)=>st (Addr.add p248 270) (.slice s247.a s247.l s247.c)<|R ()))) w:=by
 refine rs_step (K:=fun r224=>req (isIf r224.2=true)<|cnd (isNil r224.2) (nz (some ⟨g,0,none⟩) fun (p228:Addr)=>ld .S (Addr.add p228 256) fun (s229:Sl)=>cnd (decide ((s229.l:Int)<((xs.length:Nat):Int))) (nz (some ⟨g,0,none⟩) fun (p230:Addr)=>ld .S (Addr.add p230 256) fun (s231:Sl)=>nz (some ⟨g,0,none⟩) fun (p232:Addr)=>st (Addr.add p232 258) (.slice s231.a s231.l s231.c)<|nz (some ⟨g,0,none⟩) fun (p233:Addr)=>ld .S (Addr.add p233 256) fun (s234:Sl)=>K3 (s234,true,.nilIface)) (nz (some ⟨g,0,none⟩) fun (p235:Addr)=>ld (.I .u8) (Addr.add p235 263) fun (n236:Int)=>cnd (decide (n236=(3:Int))) (drw<|ld .V ⟨0,0,none⟩ fun (v237:Value)=>K3 (⟨none,0,0⟩,false,v237)) (nz (some ⟨g,0,none⟩) fun (p238:Addr)=>ld .S (Addr.add p238 270) fun (s239:Sl)=>slc 2 s239 none (some (0:Int)) none fun (s240:Sl)=>nz (some ⟨g,0,none⟩) fun (p241:Addr)=>st (Addr.add p241 270) (.slice s240.a s240.l s240.c)<|R ()))) (nz (some ⟨g,0,none⟩) fun (p242:Addr)=>ld (.I .u8) (Addr.add p242 263) fun (n243:Int)=>cnd (decide (n243=(3:Int))) (drw<|ld .V ⟨0,0,none⟩ fun (v244:Value)=>K3 (⟨none,0,0⟩,false,v244)) (nz (some ⟨g,0,none⟩) fun (p245:Addr)=>ld .S (Addr.add p245 270) fun (s246:Sl)=>slc 2 s246 none (some (0:Int)) none fun (s247:Sl)=>nz (some ⟨g,0,none⟩) fun (p248:Addr)=>st (Addr.add p248 270) (.slice s247.a s247.l s247.c)<|R ()))) T.hC T.hfn Q hP hx T.src T.far h2 T.le (by simp) ?_ ?_
 ·intro _ w' s' col' v hv es Q' G' _ _
  subst es
  refine ⟨isPE.ifc hv.2,⟨fun h=>(by rw [isPE.nil hv.2] at h;cases h),fun _ => ?_⟩⟩
  refine rs_fall (s := { s with out:=⟨none,0,0⟩ }) hT Q' (k.go G' ⟨rfl,rfl,rfl⟩) ?_
  intro h3 w2 s2 col2 hT2 Q2 S2 G2
  exact hk h3 w2 s2 col2 [] hT2 (.inl rfl) Q2 ⟨S2.reuse,S2.wll,S2.tl⟩ (G'.trans G2)
 ·intro w' s' col' so ol hEn es Q' G' hP' _
  subst es
  have hol:so.l=ol.length:=Q'.oP.len
  have k':=k.go (s' := { s with out:=so }) G' ⟨rfl,rfl,rfl⟩
  refine ⟨rfl,⟨fun _=>⟨_,rfl,?_⟩,fun h=>by cases h⟩⟩
  simp only [add_mk,Nat.zero_add]
  refine ld_b (t := .S) (x:=so) Q'.blk rfl (cnd_d (fun hlt => ?_) (fun hge => ?_))
  ·exact rs_take (s := { s with out:=so }) (so:=so) (x25:=0) (ol:=ol) hT Q' k' hr hEn hx hP' rfl (by omega)
  ·refine rs_fall (s := { s with out:=so }) hT Q' k' ?_
   intro h3 w2 s2 col2 hT2 Q2 S2 G2
   refine hk h3 w2 s2 col2 ol hT2 (.inr ⟨by omega,?_⟩) Q2 ⟨S2.reuse,S2.wll,S2.tl⟩ (G'.trans G2)
   refine T.hE _ _ _ _ hEn ?_ T.le
   intro x hx'
   obtain ⟨_,_,_,cnt',_,_,_,_,HTc,_⟩:=hP
   have h1:=HTc.le x (hx x hx').1
   have h2:=HTc.m11
   omega
theorem j88_X9 {x19:Int×Bool} (hcn:CntOK xs) (hX3:s.reuse=3→x19.2=true) (hT:s.outT=⟨none,0,0⟩) (T:TX w col s1 xs fc Enc) (Q:HQ w g s col xs.length (fun i=>xs.count i) L []) (k:KE w g s col xs Enc M0 ln0 L0 K3) (hl:2≤L∧(∀i,L≤i→xs.count i=0)∧0<xs.count (L-1)∧∃a,a<L-1∧0<xs.count a) (h2:2≤xs.length)
  (hb:x19.2=true→s.reuse≠2∧(∀x∈xs,x<L0∧0<ln0 x)∧PTc w s.pt M0 ln0 L0) :
  q88_X9 s1 (some ⟨g,0,none⟩) (.func (.func fc) #[.pointer (some ⟨g,0,none⟩)] #[]) K3 x19 (xs.length:Nat) (q88_J8 s1 (some ⟨g,0,none⟩) (.func (.func fc) #[.pointer (some ⟨g,0,none⟩)] #[]) K3 x19 (xs.length:Nat)) w:=by
 have plain:s.reuse≠3→q88_J8 s1 (some ⟨g,0,none⟩) (.func (.func fc) #[.pointer (some ⟨g,0,none⟩)] #[]) K3 x19 (xs.length:Nat) () w:=fun hr3=>j88_J8 hcn (fun _=>rfl) hr3 hT T Q k hl h2 (.inl rfl) (fun _ h=>(hb h).2)
 have again:s.reuse≠0→s.reuse≠2→s.reuse≠3→∀w' s' col' pre,s'.outT=⟨none,0,0⟩→(pre = []∨(xs.length≤pre.length∧pre.length≤2^19))→HQ w' g s' col' xs.length (fun i=>xs.count i) L pre→SK s s'→GoW w w' col col'→q88_J8 s1 (some ⟨g,0,none⟩) (.func (.func fc) #[.pointer (some ⟨g,0,none⟩)] #[]) K3 x19 (xs.length:Nat) () w':=by
  intro h0 h02 hr3 w' s' col' pre hT' hpre Q' S' G'
  exact j88_J8 hcn (fun h=>absurd (S'.reuse.symm.trans h) h02) (by rw [S'.reuse];exact hr3) hT' (T.go G') Q' (k.go G' S') hl h2 (hpre.imp id (fun h=>⟨by rw [S'.reuse];exact h0,h.1,h.2⟩)) (fun h _=>absurd (S'.reuse▸h) h0)
 unfold q88_X9
 refine ⟨_,rfl,?_⟩
 simp only [add_mk,Nat.zero_add]
 refine ld_b (t := .I .u8) (x:=s.reuse) Q.blk rfl (cnd_d (fun h1=>⟨fun hbt => ?_,fun _=>plain (by rw [h1];decide)⟩) (fun _=>⟨_,rfl,?_⟩))
 ·obtain ⟨hr,hx,hP⟩:=hb hbt
  exact rs_end1 hT T Q k hr hx hP h2 (again (by rw [h1];decide) (by rw [h1];decide))
 ·simp only [add_mk,Nat.zero_add]
  refine ld_b (t := .I .u8) (x:=s.reuse) Q.blk rfl (cnd_d (fun h3=>⟨fun hbt => ?_,fun hbf=>absurd (hX3 h3) (by rw [hbf];decide)⟩) (fun h3=>plain h3))
  obtain ⟨hr,hx,hP⟩:=hb hbt
  exact rs_end1 hT T Q k hr hx hP h2 (again (by rw [h3];decide) (by rw [h3];decide))
theorem c88 (T:TX w col s1 xs fc Enc) (W:HP w g s col xs.length) (hp:s.pt.l=0∨PTc w s.pt M0 ln0 L0) (hwl:s.wll=0) (k:KE w g s col xs Enc M0 ln0 L0 K3) :
  callP Tryd.prog 88 #[.slice s1.a s1.l s1.c,.pointer (some ⟨g,0,none⟩),.func (.func fc) #[.pointer (some ⟨g,0,none⟩)] #[]] [.c .S,.c .B,.c .V] K3 w:=by
 apply q88_ok
 unfold q88
 refine joinP_id ?_
 have body:∀(w1:World) (sA:HU),HP w1 g sA col xs.length→SK s sA→GoW w w1 col col→(sA.pt.l=0∨(s.reuse≠2∧PTc w1 sA.pt M0 ln0 L0))→q88_J12 s1 (some ⟨g,0,none⟩) (.func (.func fc) #[.pointer (some ⟨g,0,none⟩)] #[]) K3 () w1:=by
  intro w1 sA W1 S1 G1 hp1
  have T1:=T.go G1
  have k1:=k.go G1 S1
  have hsl:=T1.src.len
  have hle:=T1.le
  unfold q88_J12
  refine ⟨_,rfl,?_⟩
  simp only [add_mk,Nat.zero_add]
  refine ld_b (t := .I .i64) (x:=sA.maxC) W1.blk rfl ?_
  refine joinP_id ?_
  refine cnd_d (fun _ => ?_) (fun h=>absurd W1.mx h)
  have go:∀(w2:World) (sB:HU) (m:Nat) (b:Bool),Fm w1 w2 [g]→Blk w2 g sB.at→sB.wll=0 →
    (∀w3,Fm w1 w3 [g]→Blk w3 g ({ sB with cc:=true,maxC:=0 } : HU).at→(cnd (decide (((s1.l:Nat):Int)≤((m:Nat):Int))) (cnd (decide (((s1.l:Nat):Int)<((m:Nat):Int))) (callP Tryd.prog 62 #[(.string ⟨#[109,97,120,67,111,117,110,116,32,62,32,108,101,110,103,116,104]⟩)] [.c .V] fun (r28:Value)=>K3 (⟨none,0,0⟩,false,r28)) (cnd (decide (((s1.l:Nat):Int)=(1:Int))) (drw<|ld .V ⟨0,0,none⟩ fun (v29:Value)=>K3 (⟨none,0,0⟩,false,v29)) (drw<|ld .V ⟨1,0,none⟩ fun (v30:Value)=>K3 (⟨none,0,0⟩,false,v30)))) (cnd (decide (((m:Nat):Int)=(1:Int))) (drw<|ld .V ⟨0,0,none⟩ fun (v31:Value)=>K3 (⟨none,0,0⟩,false,v31)) (req (0≤(7:Int))<|cnd (decide (((m:Nat):Int)<(shrI .i64 ((s1.l:Nat):Int) (7:Int)))) (drw<|ld .V ⟨0,0,none⟩ fun (v32:Value)=>K3 (⟨none,0,0⟩,false,v32)) (nz (some ⟨g,0,none⟩) fun (p33:Addr)=>ld (.I .u8) (Addr.add p33 263) fun (n34:Int)=>cnd (decide (n34=(3:Int))) (cnd (!b) (drw<|ld .V ⟨0,0,none⟩ fun (v35:Value)=>K3 (⟨none,0,0⟩,false,v35)) (joinP (q88_X4 s1 (some ⟨g,0,none⟩) (.func (.func fc) #[.pointer (some ⟨g,0,none⟩)] #[]) K3 (((m:Nat):Int),b) ((s1.l:Nat):Int)) (q88_J3 s1 (some ⟨g,0,none⟩) (.func (.func fc) #[.pointer (some ⟨g,0,none⟩)] #[]) K3 (((m:Nat):Int),b) ((s1.l:Nat):Int)))) (joinP (q88_X9 s1 (some ⟨g,0,none⟩) (.func (.func fc) #[.pointer (some ⟨g,0,none⟩)] #[]) K3 (((m:Nat):Int),b) ((s1.l:Nat):Int)) (q88_J8 s1 (some ⟨g,0,none⟩) (.func (.func fc) #[.pointer (some ⟨g,0,none⟩)] #[]) K3 (((m:Nat):Int),b) ((s1.l:Nat):Int))))))) w3) →
    q88_J11 s1 (some ⟨g,0,none⟩) (.func (.func fc) #[.pointer (some ⟨g,0,none⟩)] #[]) K3 (((m:Nat):Int),b) w2:=by
   intro w2 sB m b F2 B2 hwlB h
   unfold q88_J11
   refine joinP_id ⟨_,rfl,?_⟩
   simp only [add_mk,Nat.zero_add]
   refine ld_b (t := .I .u8) (x:=sB.wll) B2 rfl (cnd_d (fun h0=>absurd h0 (by rw [hwlB];decide)) (fun _ => ?_))
   unfold q88_J10
   refine ⟨_,rfl,?_⟩
   simp only [add_mk,Nat.zero_add]
   refine st_u B2 rfl rfl ?_
   intro w3 B3 F3
   have B3':=B3.congr (HU.setT (s' := { sB with cc:=true }) 11 rfl rfl rfl (by decide))
   refine ⟨_,rfl,?_⟩
   simp only [add_mk,Nat.zero_add]
   refine st_u B3' rfl rfl ?_
   intro w4 B4 F4
   have B4':=B4.congr (HU.setT (s' := { sB with cc:=true,maxC:=0 }) 10 rfl rfl rfl (by decide))
   exact h w4 ((F2.trans F3 (fun x hx => .inl hx)).trans F4 (fun x hx => .inl hx)) B4'
  have hown:∀v ∈ [g],v<w1.heap.size→own (col v):=by intro v hv _;simp at hv;subst hv;rw [W1.cg];exact ⟨by decide,by decide⟩
  refine c117p W1.toHW W1.cnt0 T1.src T1.by_ (by omega) T1.far ?_ ?_
  ·-- no bytes
   intro hxe w2 c' b B2 F2
   refine go w2 _ 0 b F2 B2 (S1.wll.trans hwl) ?_
   intro w3 F3 B3
   have h0:s1.l=0:=by rw [hsl,hxe];rfl
   rw [h0]
   have W3:=W1.toHW.same (s' := { sA with count:=c',cc:=true,maxC:=0 }) B3 F3 rfl rfl rfl rfl rfl rfl (.inl rfl)
   have k3:=k1.go (s' := { sA with count:=c',cc:=true,maxC:=0 }) (GoW.of F3 hown (fun _ _=>rfl)) ⟨rfl,rfl,rfl⟩
   refine cnd_d (fun _=>cnd_d (fun h=>absurd h (by decide)) (fun _=>cnd_d (fun h=>absurd h (by decide)) (fun _ => ?_))) (fun h=>absurd h (by decide))
   exact err_hw (by decide) W3 (fun w4 v hv W4 G4=>k3.e w4 _ col v hv (fun _ _ _ => .inl (fun h=>h.ne hxe)) W4 W1.oT0 (SK.refl _) G4)
  ·intro w2 c' b m Lx hxe hM hbt hbf hc B2 F2
   refine go w2 _ m b F2 B2 (S1.wll.trans hwl) ?_
   intro w3 F3 B3
   have W3:=W1.toHW.same (s' := { sA with count:=c',symL:=(Lx:Nat),cc:=true,maxC:=0 }) B3 F3 rfl rfl rfl rfl rfl rfl (.inl rfl)
   have G3:GoW w1 w3 col col:=GoW.of F3 hown (fun _ _=>rfl)
   have T3:=T1.go G3
   have k3:=k1.go (s' := { sA with count:=c',symL:=(Lx:Nat),cc:=true,maxC:=0 }) G3 ⟨rfl,rfl,rfl⟩
   have er:∀i,i<3→(sA.reuse=2→¬CntOK xs)→(drw<|ld .V ⟨i,0,none⟩ fun (v31:Value)=>K3 (⟨none,0,0⟩,false,v31)) w3:=fun i hi hno=>err_hw hi W3 (fun w4 v hv W4 G4=>k3.e w4 _ col v hv (fun h _ _ => .inl (hno h)) W4 W1.oT0 (SK.refl _) G4)
   have eshr:shrI .i64 ((xs.length:Nat):Int) (7:Int)=((xs.length/128:Nat):Int):=by
    rw [show (7:Int)=((7:Nat):Int) from rfl,shrI_nat _ _ _ (by simp only [IntKind.bits];omega)]
   rw [hsl,eshr]
   obtain ⟨ix,_,hix⟩:=hM.ex
   have hix:xs.count ix=m:=hix
   have hmle:xs.count ix≤xs.length:=List.count_le_length
   refine cnd_d (fun hge=>cnd_d (fun h=>by omega) (fun _=>cnd_d (fun _=>er 0 (by decide) (fun _ h=>by have:=(h.at hM).1;omega)) (fun _=>er 1 (by decide) (fun _ h=>by have:=(h.at hM).1;omega)))) (fun hlt => ?_)
   have hm:m<xs.length:=by omega
   have hmp:=hM.pos
   refine cnd_d (fun hm1=>er 0 (by decide) (fun _ h=>by have:=(h.at hM).2.1;omega)) (fun hm1=>⟨by decide,cnd_d (fun hm7=>er 0 (by decide) (fun _ h=>by have:=(h.at hM).2.2;omega)) (fun hm7=>⟨_,rfl,?_⟩)⟩)
   have hcn:CntOK xs:=⟨m,Lx,hM,hm,by omega,by omega⟩
   have hl:=mx_two hM T1.by_ hm
   have h2:2≤xs.length:=by omega
   have Q3:HQ w3 g ({ sA with count:=c',symL:=(Lx:Nat),cc:=true,maxC:=0 } : HU) col xs.length (fun i=>xs.count i) Lx []:=by
    refine ⟨W3,W1.o0.fr F3 (fun b hb=>(W1.toHW.keepG (r:=2) (by decide)).out (W1.out.co b hb) (W1.o0.lt b hb)),W1.nodP.mv F3 (W1.toHW.keepG (by decide)),W1.fseP.mv F3 (W1.toHW.keepG (by decide)),W1.srcN,W1.tlP,⟨rfl,hM.l1,hM.l256,fun i hi=>hc i (by have:=hM.l256;omega),fun i hi => ?_⟩,rfl,S1.wll.trans hwl⟩
    have h1:xs.count i≤m:=hM.le i (by have:=hM.l256;omega)
    show xs.count i<2^18
    omega
   have hP3:∀M1 ln1 L1,PTc w1 sA.pt M1 ln1 L1→PTc w3 sA.pt M1 ln1 L1:=fun M1 ln1 L1 h=>h.mv F3 (fun v hv=>(W1.toHW.keepG (r:=5) (by decide)).out (W1.pt.co v hv) (W1.pt.own.lt v hv))
   have hb3:b=true→s.reuse≠2∧(∀x∈xs,x<L0∧0<ln0 x)∧PTc w3 sA.pt M0 ln0 L0:=by
    intro hb
    obtain ⟨h1,h3⟩:=hbt hb
    rcases hp1 with h4|⟨h4,h5⟩
    ·omega
    ·exact ⟨h4,h3 _ _ _ h5,hP3 _ _ _ h5⟩
   have hX:=fun (hX3:sA.reuse=3→b=true)=>j88_X9 (s := { sA with count:=c',symL:=((Lx:Nat):Int),cc:=true,maxC:=0 }) (x19:=(((m:Nat):Int),b)) hcn hX3 W1.oT0 T3 Q3 k3 hl h2 (fun hb=>by
    obtain ⟨h1,h3,h4⟩:=hb3 hb
    exact ⟨fun e=>h1 (S1.reuse▸e),h3,h4⟩)
   simp only [add_mk,Nat.zero_add]
   refine ld_b (t := .I .u8) (x:=sA.reuse) Q3.blk rfl (cnd_d (fun h33=>⟨fun _=>er 0 (by decide) (fun h=>absurd (h33.symm.trans h) (by decide)),fun hbt => ?_⟩) (fun h3=>joinP_id (hX (fun e=>absurd e h3))))
   exact joinP_id (hX (fun _=>by simpa using hbt))
 refine ⟨_,rfl,?_⟩
 simp only [add_mk,Nat.zero_add]
 refine ld_b (t := .I .u8) (x:=s.reuse) W.blk rfl (cnd_d (fun h2=>⟨_,rfl,?_⟩) (fun h2 => ?_))
 ·simp only [add_mk,Nat.zero_add]
  refine ld_b (t := .S) (x:=s.pt) W.blk rfl ?_
  refine slc_hi (m:=0) rfl (Nat.zero_le _) ⟨_,rfl,?_⟩
  simp only [add_mk,Nat.zero_add]
  refine st_u W.blk rfl rfl ?_
  intro w1 B1 F1
  have B1':=B1.congr (HU.setT (s' := { s with pt:=⟨s.pt.a,0,s.pt.c⟩ }) 14 rfl rfl rfl (by decide))
  have W1:=W.toHW.pt0 F1 B1'
  have kg:=fun r (hr:r≠1)=>W.toHW.keepG (r:=r) hr
  refine body w1 _ ⟨W1,W.o0.fr F1 (fun b hb=>(kg 2 (by decide)).out (W.out.co b hb) (W.o0.lt b hb)),W.oT0,W.nodP.mv F1 (kg 3 (by decide)),W.fseP.mv F1 (kg 6 (by decide)),W.cnt0,W.cc0,W.srcN,W.tlP⟩ ⟨rfl,rfl,rfl⟩ ?_ (.inl rfl)
  exact GoW.of F1 (by intro v hv _;simp at hv;subst hv;rw [W.cg];exact ⟨by decide,by decide⟩) (fun _ _=>rfl)
 ·exact body w s W (SK.refl s) (GoW.refl w col) (hp.imp id (fun h=>⟨h2,h⟩))
end
theorem c47 {w:World} {s0:Sl} {xs:List Nat} {K:Sl→PT} (A:Arr .u8 w s0 xs) (hxs:xs.length≤2^40) (hk:∀w' s',VecU w' s' xs→Fm w w' []→(∀b∈s'.bs,w.heap.size≤b)→K s' w') :
  callP Tryd.prog 47 #[.slice s0.a s0.l s0.c] [.c .S] K w:=by
 apply q47_ok
 unfold q47 nw
 have F1:Fm w (w.alloc (.cells ⟨[]⟩ 5)) []:=(Fm.refl w []).alloc
 have B1:Blk (w.alloc (.cells ⟨[]⟩ 5)) w.heap.size fun i=>(⟨[]⟩:Array Value)[i]? := Blk.new
 have V1:VecU (w.alloc (.cells ⟨[]⟩ 5)) ⟨some ⟨w.heap.size,0,none⟩,0,0⟩ []:=by
  refine ⟨⟨rfl,Nat.le_refl _,fun _=>rfl,?_⟩,?_,show (0:Nat)<2^63 by decide⟩
  ·intro a ha
   injection ha with ha
   subst ha
   exact ⟨rfl,rfl,_,B1,by simp [bytes],by simp⟩
  ·intro a ha i hi
   exact absurd hi (Nat.not_lt_zero _)
 have A1:=A.fr F1 (by simp)
 refine app_vu (xs:=xs) V1 A1.has (by rw [A.len];simp only;omega) ?_
 intro s' w' h1 h2 h3
 rw [List.nil_append] at h1
 have F2:Fm w w' []:=F1.trans h2 (by intro b hb;right;simp [Sl.bs] at hb;omega)
 refine hk w' s' h1 F2 ?_
 intro b hb
 rcases h3 b hb with h|h
 ·simp [Sl.bs] at h;omega
 ·rw [World.size_alloc] at h;omega
structure GE (w:World):Prop where
 gl:GL w
 ob:∀i,i<3→∃a c T,w.cell? ⟨i,0,none⟩=some (.iface 160 (.pointer (some a)))∧w.heap[a.block]? = some (.cells c T (0,0))
theorem GE.er {w:World} (G:GE w) {i:Nat} (hi:i<3):errAt w i:=by
 obtain ⟨a,c,T,h1,_⟩:=G.ob i hi
 exact ⟨_,h1,rfl,rfl⟩
theorem GE.fm {w w':World} (G:GE w) (F:Fm w w' []):GE w':=by
 refine ⟨G.gl.fm F (by simp),?_⟩
 intro i hi
 obtain ⟨a,c,T,h1,h2⟩:=G.ob i hi
 have hl:a.block<w.heap.size:=Classical.byContradiction fun h=>by rw [Array.getElem?_eq_none (by omega)] at h2;cases h2
 refine ⟨a,c,T,?_,by rw [F.old _ hl (by simp)];exact h2⟩
 rw [←h1]
 exact cell?_of_heap (F.old _ (World.block_lt_of_cell? _ _ h1) (by simp)) _ _
theorem und68:(match Tryd.prog.underlying 68 with|some (.interface _)=>true|_=>false)=true:=by kernel_rfl
theorem und160:(match Tryd.prog.underlying 160,Tryd.prog.info? 160 with|some (.pointer te),some i=>i.comparable&&(match Tryd.prog.info? te with|some j=>j.size != 0|none=>false)|_,_=>false)=true:=by kernel_rfl
theorem eq_pe {w:World} {a b:Addr} {ca cb:Array Value} {ta tb:TypeId} {κ:Bool→PT} (ha:w.heap[a.block]? = some (.cells ca ta (0,0))) (hb:w.heap[b.block]? = some (.cells cb tb (0,0))) (hk:∀r:Bool,(a=b→r=true)→κ r w) :
  eqE Cx 68 (.iface 160 (.pointer (some a))) (.iface 160 (.pointer (some b))) κ w:=by
 obtain ⟨ms,hi⟩:∃ms,Tryd.prog.underlying 68=some (.interface ms):=by
  have h:=und68
  split at h
  ·rename_i ms e;exact ⟨ms,e⟩
  ·cases h
 obtain ⟨te,i,j,hp,hinfo,hcomp,hte,hsz⟩:∃te i j,Tryd.prog.underlying 160=some (.pointer te)∧Tryd.prog.info? 160=some i∧i.comparable=true∧Tryd.prog.info? te=some j∧j.size≠0:=by
  have h:=und160
  split at h
  ·rename_i te i e1 e2
   rw [Bool.and_eq_true] at h
   obtain ⟨h1,h2⟩:=h
   split at h2
   ·rename_i j e3
    exact ⟨te,i,j,e1,e2,h1,e3,by simpa using h2⟩
   ·cases h2
  ·cases h
 unfold eqE
 by_cases e:a=b
 ·subst e
  refine ⟨true,?_,hk _ (fun _=>rfl)⟩
  have:=run_eql_iface_ptr_same (P:=Tryd.prog) w a hi hp hinfo hcomp hte
  simpa [eqGuard,show Cx.P=Tryd.prog from rfl] using this
 ·refine ⟨false,?_,hk _ (fun h=>absurd h e)⟩
  have:=run_eql_iface_ptr_other (P:=Tryd.prog) w hi hp hinfo hcomp hte hsz e ha hb
  simpa [eqGuard,show Cx.P=Tryd.prog from rfl] using this
theorem c51 {w:World} {v:Value} {K:Int→PT} (G:GE w) (h:ER w v) (hk:∀k:Int,1≤k→k≤4→(w.cell? ⟨0,0,none⟩=some v→k=1)→K k w):callP Tryd.prog 51 #[v] [.c (.I .i64)] K w:=by
 obtain ⟨a,c,T,rfl,ha⟩:∃a c T,v = .iface 160 (.pointer (some a))∧w.heap[a.block]? = some (.cells c T (0,0)):=by
  rcases h with ⟨⟨i,hi,h1⟩,_⟩|h
  ·obtain ⟨a,c,T,h2,h3⟩:=G.ob i hi
   rw [h2] at h1
   injection h1 with h1
   exact ⟨a,c,T,h1.symm,h3⟩
  ·exact h
 obtain ⟨a0,c0,T0,h00,h01⟩:=G.ob 0 (by decide)
 obtain ⟨a1,c1,T1,h10,h11⟩:=G.ob 1 (by decide)
 obtain ⟨a2,c2,T2,h20,h21⟩:=G.ob 2 (by decide)
 have key:∀ {r:Bool},(a=a0→r=true)→r=false→w.cell? ⟨0,0,none⟩=some (.iface 160 (.pointer (some a)))→∀k:Int,k=1:=by
  intro r h1 h2 h3 k
  rw [h00] at h3
  injection h3 with h3
  injection h3 with _ h3
  injection h3 with h3
  injection h3 with h3
  rw [h1 h3.symm] at h2
  cases h2
 apply q51_ok
 unfold q51
 refine ⟨rfl,fun h=>by simp [isNil] at h,fun _ => ?_⟩
 refine ld_c (t := .V) (x := .iface 160 (.pointer (some a0))) h00 ?_
 refine eq_pe ha h01 (fun r hr=>⟨fun _=>hk 1 (by decide) (by decide) (fun _=>rfl),fun hr0 => ?_⟩)
 refine ld_c (t := .V) (x := .iface 160 (.pointer (some a1))) h10 ?_
 refine eq_pe ha h11 (fun r _=>⟨fun _=>hk 2 (by decide) (by decide) (fun h=>key hr hr0 h 2),fun _ => ?_⟩)
 refine ld_c (t := .V) (x := .iface 160 (.pointer (some a2))) h20 ?_
 exact eq_pe ha h21 (fun r _=>⟨fun _=>hk 3 (by decide) (by decide) (fun h=>key hr hr0 h 3),fun _=>hk 4 (by decide) (by decide) (fun h=>key hr hr0 h 4)⟩)
def EncB (b:Bool):(Nat→Nat)→(Nat→Nat)→List Nat→List Nat→Prop:=fun cd ln xs ol=>if b then Enc4 cd ln xs ol else EncT cd ln xs ol
theorem encB_t:EncB true=Enc4:=by unfold EncB;funext a b c d;simp
theorem encB_f:EncB false=EncT:=by unfold EncB;funext a b c d;simp
theorem hf89:hasFn Tryd.prog 89=true:=by kernel_rfl
theorem hf90:hasFn Tryd.prog 90=true:=by kernel_rfl
structure SX (s s':HU):Prop where
 reuse:s'.reuse=s.reuse
 wll:s'.wll=s.wll
 tl:s'.tl=s.tl∨(s.tl=0∧s'.tl=11)
section
variable {w:World} {g M0 L0 t:Nat} {s:HU} {s1:Sl} {xs:List Nat} {col:Nat→Nat} {ln0:Nat→Nat} {K3:Sl×Bool×Value→PT}
def tlE (t:Nat):Nat:=if t=0 then 11 else t
structure KP (w:World) (g:Nat) (s:HU) (col:Nat→Nat) (xs:List Nat) (b:Bool) (M0:Nat) (ln0:Nat→Nat) (L0:Nat) (K3:Sl×Bool×Value→PT):Prop where
 e:∀w' s' col' v,ER w' v→(s.tl=0∨(5≤s.tl∧s.tl≤11)→EG w' v)→(s.reuse=2→xs.length≤262143→∀t9:Nat,s.tl=(t9:Nat)→(t9=0∨(5≤t9∧t9≤11))→Bad xs (tlE t9) (EncB b))→HW w' g s' col'→(s'.outT=⟨none,0,0⟩∨(s'.outT=s.outT∧Fm w w' [g]∧col'=col))→SX s s'→GoW w w' col col'→K3 (⟨none,0,0⟩,false,v) w'
 r:∀w' s' col' so ol,s.reuse≠2→EncB b (vC ln0 L0 M0) ln0 xs ol→(∀x∈xs,x<L0∧0<ln0 x)→ol.length<xs.length→s'.out=so→VecU w' so ol→HW w' g s' col'→PTc w' s'.pt M0 ln0 L0→s'.outT=⟨none,0,0⟩→SX s s'→GoW w w' col col'→K3 (so,true,.nilIface) w'
 t:∀w' s' col' so M ln L tbl ol,s.reuse≠3→CntOK xs→TL (wtL M ln L) L tbl.length→(∀t9:Nat,s.tl=(t9:Nat)→LenR (fun i=>xs.count i) L xs.length (tlE t9) M ln)→NT xs M ln L→By tbl→weightsZ tbl=some (wtL M ln L,tbl.length)→EncB b (vC ln L M) ln xs ol→tbl.length+ol.length<xs.length→s'.out=so→VecU w' so (tbl++ol)→Arr .u8 w' s'.outT tbl→Arr .u8 w' s'.outD ol→(∀a,s'.outT.a=some a→col' a.block=2)→HW w' g s' col'→PTc w' s'.pt M ln L→SX s s'→GoW w w' col col'→K3 (so,false,.nilIface) w'
theorem c61w {K:Option Addr×Value→PT} (W:HW w g s col) (ht:s.tl=(t:Nat)) (ht2:t<256) (hsrc:Arr .u8 w s1 xs)
  (hk0:(262143<xs.length∨¬(s.tl=0∨(5≤s.tl∧s.tl≤11)))→∀w' s' v,ER w' v→(s.tl=0∨(5≤s.tl∧s.tl≤11)→EG w' v)→HW w' g s' col→s'.outT=s.outT→Fm w w' [g]→SX s s'→GoW w w' col col→K (none,v) w')
  (hk:xs.length≤262143→∀w' s' col',HP w' g s' col' xs.length→SR s s'→GoW w w' col col'→Fm w w' [g]→K (some ⟨g,0,none⟩,.nilIface) w') :
  callP Tryd.prog 61 #[.pointer (some ⟨g,0,none⟩),.slice s1.a s1.l s1.c] [.c .P,.c .V] K w:=by
 have hown:∀v ∈ [g],v<w.heap.size→own (col v):=by intro v hv _;simp at hv;subst hv;rw [W.cg];exact ⟨by decide,by decide⟩
 refine c61 W ht ht2 ?_ ?_
 ·intro hno w' s' v hv hv2 W' R eT F
  rw [hsrc.len] at hno
  exact hk0 hno w' s' v hv hv2 W' eT F ⟨R.reuse,R.wll,R.tl⟩ (GoW.of F hown (fun _ _=>rfl))
 ·intro hl w' s' col' P R hc F
  rw [hsrc.len] at hl P
  exact hk hl w' s' col' P R (GoW.of F hown hc) F
theorem comp_run {fc:FuncId} {b:Bool} (hC:CompOK fc (EncB b) (EncB b≠EncT)) (hfn:hasFn Tryd.prog fc=true) (hE:EncLe (EncB b)) (W:HW w g s col) (hwl:s.wll=0) (hsrc:Arr .u8 w s1 xs) (hby:By xs) (hle:xs.length≤2^18) (far:∀a,s1.a=some a→xs ≠ []→¬own (col a.block)) (hp:s.pt.l=0∨PTc w s.pt M0 ln0 L0) (k:KP w g s col xs b M0 ln0 L0 K3)
  {w':World} {s':HU} {col':Nat→Nat} (P:HP w' g s' col' xs.length) (R:SR s s') (G:GoW w w' col col') (F:Fm w w' [g]) :
  callP Tryd.prog 88 #[.slice s1.a s1.l s1.c,.pointer (some ⟨g,0,none⟩),.func (.func fc) #[.pointer (some ⟨g,0,none⟩)] #[]] [.c .S,.c .B,.c .V] K3 w':=by
 have tr:∀ {s2:HU},SK s' s2→SX s s2:=fun h=>⟨h.reuse.trans R.reuse,h.wll.trans R.wll,by rw [h.tl];exact R.tl⟩
 have htl:∀t9:Nat,s.tl=(t9:Nat)→s'.tl=((tlE t9:Nat):Int):=by
  intro t9 ht9
  obtain ⟨t8,h81,h82,h83⟩:=P.tlP
  unfold tlE
  rcases R.tl with h|⟨h,h'⟩
  ·rw [if_neg (by omega)];omega
  ·rw [if_pos (by omega)];exact h'
 have kg:=W.keepG (r:=5) (by decide)
 refine c88 (M0:=M0) (ln0:=ln0) (L0:=L0) (Enc:=EncB b) ⟨hC,hfn,hE,G.arr hsrc far,hby,G.far hsrc far,hle⟩ P ?_ (R.wll.trans hwl) ⟨?_,?_,?_⟩
 ·rw [R.pt]
  exact hp.imp id (fun h=>h.mv F (fun v hv=>kg.out (W.pt.co v hv) (W.pt.own.lt v hv)))
 ·intro w2 s2 col2 v h1 hB h2 hT h3 h4
  exact k.e w2 s2 col2 v (.inl h1) (fun _=>h1) (fun hr _ t9 ht9 _=>hB (R.reuse.trans hr) (tlE t9) (htl t9 ht9)) h2 (.inl hT) (tr h3) (G.trans h4)
 ·intro w2 s2 col2 so ol h1 h2 h3 h4 h5 h6 h7 h8 hT h9 h10
  exact k.r w2 s2 col2 so ol (by rw [←R.reuse];exact h1) h2 h3 h4 h5 h6 h7 h8 hT (tr h9) (G.trans h10)
 ·intro w2 s2 col2 so M ln L tbl ol hr3 hcn hTL hl h1 h2 h3 h4 h5 h6 h7 h8 h9 hc h10 h11 h12 h13
  have hl':∀t9:Nat,s.tl=(t9:Nat)→LenR (fun i=>xs.count i) L xs.length (tlE t9) M ln:=by
   intro t9 ht9
   exact hl (tlE t9) (htl t9 ht9)
  exact k.t w2 s2 col2 so M ln L tbl ol (by rw [←R.reuse];exact hr3) hcn hTL hl' h1 h2 h3 h4 h5 h6 h7 h8 h9 hc h10 h11 (tr h12) (G.trans h13)
theorem c50 {b:Bool} (W:HW w g s col) (ht:s.tl=(t:Nat)) (ht2:t<256) (hwl:s.wll=0) (hsrc:Arr .u8 w s1 xs) (hby:By xs) (hle:xs.length≤2^18) (far:∀a,s1.a=some a→xs ≠ []→¬own (col a.block)) (hp:s.pt.l=0∨PTc w s.pt M0 ln0 L0) (k:KP w g s col xs b M0 ln0 L0 K3) :
  callP Tryd.prog 50 #[.slice s1.a s1.l s1.c,.pointer (some ⟨g,0,none⟩),.bool b] [.c .S,.c .B,.c .V] K3 w:=by
 apply q50_ok
 unfold q50
 cases b with
 | true =>
  refine ⟨fun _ => ?_,fun h=>by cases h⟩
  apply q70_ok
  unfold q70
  refine c61w W ht ht2 hsrc ?_ ?_
  ·intro hno w' s' v hv hv2 W' eT FT S' G'
   exact ⟨isPE.ifc hv.pe,err_cnd (isPE.nil hv.pe) (k.e w' s' col v hv hv2 (fun _ hl9 t9 ht9 htt=>by
    rcases hno with h|h
    ·omega
    ·exact absurd (by omega) h) W' (.inr ⟨eT,FT,rfl⟩) S' G')⟩
  ·intro hl w' s' col' P R G F
   refine ⟨rfl,nil_cnd ?_⟩
   refine comp_run (b:=true) (by rw [encB_t];exact comp89.of enc4_ne) hf89 (by rw [encB_t];exact encLe89) W hwl hsrc hby hle far hp ⟨k.e,k.r,k.t⟩ P R G F
 | false =>
  refine ⟨(fun h=>by cases h),fun _ => ?_⟩
  apply q71_ok
  unfold q71
  refine c61w W ht ht2 hsrc ?_ ?_
  ·intro hno w' s' v hv hv2 W' eT FT S' G'
   exact ⟨isPE.ifc hv.pe,err_cnd (isPE.nil hv.pe) (k.e w' s' col v hv hv2 (fun _ hl9 t9 ht9 htt=>by
    rcases hno with h|h
    ·omega
    ·exact absurd (by omega) h) W' (.inr ⟨eT,FT,rfl⟩) S' G')⟩
  ·intro hl w' s' col' P R G F
   refine ⟨rfl,nil_cnd ?_⟩
   refine comp_run (b:=false) (by rw [encB_f];exact comp90) hf90 (by rw [encB_f];exact encLe90) W hwl hsrc hby hle far hp ⟨k.e,k.r,k.t⟩ P R G F
end
def colF (g:Nat):Nat→Nat:=fun v=>if v<9 then 0 else if v=g then 1 else 7
theorem HW.fresh {w w1:World} {s:HU} (G:GE w) (F:Fm w w1 []) (B:Blk w1 w.heap.size s.at) (h1:s.out=⟨none,0,0⟩) (h2:s.nodes=⟨none,0,0⟩) (h3:s.ct=⟨none,0,0⟩) (h4:s.pt=⟨none,0,0⟩) (h5:s.fse=none) (h6:s.maxC=0) (h7:∀i,i<256→s.count i=0):HW w1 w.heap.size s (colF w.heap.size):=by
 have h9:=G.gl.size
 have G1:=G.fm F
 refine ⟨B,?_,?_,?_,.inl ?_,?_,?_,.inl ?_,.inl h5,G1.gl,fun i hi=>G1.er hi,h6,.inr h7⟩
 ·unfold colF;rw [if_neg (by omega),if_pos rfl]
 ·intro v hv;unfold colF;rw [if_pos hv]
 ·rw [h1];exact ⟨⟨[],VecU.nil⟩,by simp [Sl.bs]⟩
 ·rw [h2];decide
 ·rw [h3];exact ⟨Own.none,by simp [Sl.bs]⟩
 ·rw [h4];exact ⟨Own.none,by simp [Sl.bs]⟩
 ·rw [h4]
theorem colF_far {g v:Nat} (h:v≠g):¬own (colF g v):=by
 unfold colF own
 by_cases hv:v<9
 ·rw [if_pos hv];omega
 ·rw [if_neg hv,if_neg h];omega
theorem colF_own {g v:Nat} (h:own (colF g v)):v=g:=Classical.byContradiction fun h1=>colF_far h1 h
theorem set_cells (l:List Value) (k:Nat) (v:Value) (h:k<l.length):(fun i=>(⟨List.set l k v⟩:Array Value)[i]?)=updC (fun i=>(⟨l⟩:Array Value)[i]?) k v:=by
 funext i
 simp only [List.getElem?_toArray]
 unfold updC
 by_cases e:i=k
 ·subst e;rw [if_pos rfl,List.getElem?_set_self h]
 ·rw [if_neg e,List.getElem?_set_ne (fun h=>e h.symm)]
theorem z94_len:z94.length=535:=by kernel_rfl
def HU.start (r t l:Int):HU := { HU.zero with reuse:=r,tl:=t,wll:=l }
theorem start_cells (r t l:Int):(fun i=>(⟨(List.set (List.set (List.set z94 263 (.int .u8 r)) 262 (.int .u8 t)) 264 (.int .u8 l))⟩:Array Value)[i]?)=(HU.start r t l).at:=by
 rw [set_cells _ _ _ (by rw [List.length_set,List.length_set,z94_len];decide),set_cells _ _ _ (by rw [List.length_set,z94_len];decide),set_cells _ _ _ (by rw [z94_len];decide),HU.atZ]
 have e1:=HU.setT (s:=HU.zero) (s' := { HU.zero with reuse:=r }) (v := .int .u8 r) 7 rfl rfl rfl (by decide)
 have e2:=HU.setT (s := { HU.zero with reuse:=r }) (s' := { HU.zero with reuse:=r,tl:=t }) (v := .int .u8 t) 6 rfl rfl rfl (by decide)
 have e3:=HU.setT (s := { HU.zero with reuse:=r,tl:=t }) (s':=HU.start r t l) (v := .int .u8 l) 8 rfl rfl rfl (by decide)
 rw [←e3, ←e2, ←e1]
theorem c24 {w:World} {s0:Sl} {xs:List Nat} {b:Bool} {t:Nat} {K4:Sl×Sl×Sl×Int→PT} (G:GE w) (hsrc:Arr .u8 w s0 xs) (hby:By xs) (hle:xs.length≤2^18) (ht:t<256)
  (hk0:∀w' k,1≤k→k≤4→Fm w w' []→K4 (⟨none,0,0⟩,⟨none,0,0⟩,⟨none,0,0⟩,k) w')
  (hk1:∀w' o T D M ln L tbl ol,CntOK xs→TL (wtL M ln L) L tbl.length→NT xs M ln L→LenR (fun i=>xs.count i) L xs.length (tlE t) M ln→By tbl→weightsZ tbl=some (wtL M ln L,tbl.length)→EncB b (vC ln L M) ln xs ol→tbl.length+ol.length<xs.length→VecU w' o (tbl++ol)→VecU w' T tbl→VecU w' D ol→Fm w w' []→K4 (o,T,D,0) w') :
  callP Tryd.prog 24 #[.slice s0.a s0.l s0.c,.bool b,.int .u8 (t:Nat),.int .u8 0] [.c .S,.c .S,.c .S,.c (.I .i64)] K4 w:=by
 apply q24_ok
 unfold q24 nwA
 have F1:Fm w (w.alloc (.cells ⟨(List.set (List.set (List.set z94 263 (.int .u8 (2:Int))) 262 (.int .u8 ((t:Nat):Int))) 264 (.int .u8 (0:Int)))⟩ 94)) []:=(Fm.refl w []).alloc
 have B1:=(Blk.new (w:=w) (cs:=⟨(List.set (List.set (List.set z94 263 (.int .u8 (2:Int))) 262 (.int .u8 ((t:Nat):Int))) 264 (.int .u8 (0:Int)))⟩) (T:=94)).congr (start_cells 2 ((t:Nat):Int) 0)
 have hs1:(w.alloc (.cells ⟨(List.set (List.set (List.set z94 263 (.int .u8 (2:Int))) 262 (.int .u8 ((t:Nat):Int))) 264 (.int .u8 (0:Int)))⟩ 94)).heap.size=w.heap.size+1:=World.size_alloc _ _
 generalize w.alloc (.cells ⟨(List.set (List.set (List.set z94 263 (.int .u8 (2:Int))) 262 (.int .u8 ((t:Nat):Int))) 264 (.int .u8 (0:Int)))⟩ 94)=w1 at *
 have W1:HW w1 w.heap.size (HU.start 2 ((t:Nat):Int) 0) (colF w.heap.size):=HW.fresh G F1 B1 rfl rfl rfl rfl rfl rfl (fun _ _=>rfl)
 have far:∀a,s0.a=some a→xs ≠ []→¬own (colF w.heap.size a.block):=by
  intro a ha hx
  have:=hsrc.old hx a ha
  exact colF_far (by omega)
 have toFm:∀ {w2:World} {col2:Nat→Nat},GoW w1 w2 (colF w.heap.size) col2→Fm w w2 []:=by
  intro w2 col2 h
  obtain ⟨⟨S,F,hS⟩,_⟩:=h
  refine F1.trans F ?_
  intro v hv
  right
  rcases Nat.lt_or_ge v w1.heap.size with h|h
  ·have:=colF_own (hS v hv h);omega
  ·omega
 refine c50 (t:=t) (M0:=0) (ln0:=fun _=>0) (L0:=0) W1 rfl ht rfl (hsrc.fr F1 (by simp)) hby hle far (.inl rfl) ⟨?_,?_,?_⟩
 ·intro w2 s2 col2 v hv _ _ W2 hT2 S2 G2
  have F2:=toFm G2
  refine ⟨isPE.ifc hv.pe,err_cnd (isPE.nil hv.pe) ?_⟩
  exact c51 (G.fm F2) hv (fun k h1 h2 _=>hk0 w2 k h1 h2 F2)
 ·intro w2 s2 col2 so ol hr
  exact absurd rfl hr
 ·intro w2 s2 col2 so M ln L tbl ol _ hcn hTL hLR hN hbt hwt hEn hlt hso V2 AT AD hoc W2 P2 S2 G2
  have F2:=toFm G2
  refine ⟨rfl,nil_cnd ?_⟩
  unfold drw
  simp only [add_mk,Nat.zero_add]
  have Bd:=W2.blk.drew
  have Fd:Fm w2 w2.drew []:=(Fm.refl w2 []).drew
  refine ld_b (t := .S) (x:=s2.outT) Bd rfl ?_
  refine ld_b (t := .S) (x:=s2.outD) Bd rfl ?_
  have hpl:(tbl++ol).length=tbl.length+ol.length:=List.length_append
  refine c47 (V2.vec.arr.fr Fd (by simp)) (by omega) ?_
  intro w3 r10 V3 F3 n3
  have B3:=Bd.fr F3 (by simp)
  have F23:Fm w2 w3 []:=Fd.trans F3 (by simp)
  refine ⟨?_,?_⟩
  ·intro f hf
   simp only [List.mem_cons,List.not_mem_nil,or_false] at hf
   rcases hf with rfl|rfl
   ·exact B3.cell 258
   ·exact B3.cell 257
  refine c47 (AT.fr F23 (by simp)) (by omega) ?_
  intro w4 r11 V4 F4 n4
  have B4:=B3.fr F4 (by simp)
  have F24:Fm w2 w4 []:=F23.trans F4 (by simp)
  refine ⟨?_,?_⟩
  ·intro f hf
   simp only [List.mem_cons,List.not_mem_nil,or_false] at hf
   subst hf
   exact B4.cell 258
  refine c47 (AD.fr F24 (by simp)) (by omega) ?_
  intro w5 r12 V5 F5 n5
  exact hk1 w5 r10 r11 r12 M ln L tbl ol hcn hTL hN (hLR t rfl) hbt hwt hEn hlt ((V3.fr F4 (by simp)).fr F5 (by simp)) (V4.fr F5 (by simp)) V5 ((F2.trans F24 (by simp)).trans F5 (by simp))
section
variable {w:World}
theorem c25 {k:Int} {K:Bool→PT} (h1:0≤k) (h2:k≤4) (hk:K true w):callP Tryd.prog 25 #[.int .i64 k] [.c .B] K w:=by
 apply q25_ok
 unfold q25
 refine joinP_id ?_
 refine cnd_d (fun _ => ?_) (fun h=>absurd h1 h)
 unfold q25_J0
 rw [decide_eq_true h2]
 exact hk
def bitsL (ln:Nat→Nat) (xs:List Nat):Nat:=(xs.map ln).sum
theorem hE_bits (cd ln:Nat→Nat):∀xs,(hE cd ln xs).2=bitsL ln xs
 | []=>rfl
 | x::r=>by
  have h:=hE_bits cd ln r
  show (hE cd ln r).2+ln x=_
  rw [h]
  unfold bitsL
  rw [List.map_cons,List.sum_cons];omega
theorem bitsL_take {ln:Nat→Nat} {xs:List Nat} {i:Nat} (h:i<xs.length):bitsL ln (xs.take (i+1))=bitsL ln (xs.take i)+ln xs[i]:=sum_take h
theorem bitsL_le {ln:Nat→Nat} {xs:List Nat} (i:Nat) (h:∀x∈xs,ln x≤11):bitsL ln (xs.take i)≤i*11:=sum_take_le ln xs 11 i h
theorem c28 {b:Nat} {s1:Sl} {xs:List Nat} {f:Nat→Int} {ln:Nat→Nat} {K:Int→PT} (B:Blk w b (arrC .i64 256 f)) (A:Arr .u8 w s1 xs) (hby:By xs) (hl:xs.length≤2^30) (hf:∀x∈xs,f x=(ln x:Nat)∧0<ln x∧ln x≤11) (hk:K ((bitsL ln xs:Nat):Int) w) :
  callP Tryd.prog 28 #[.slice (some ⟨b,0,none⟩) 256 256,.slice s1.a s1.l s1.c] [.c (.I .i64)] K w:=by
 apply q28_ok (s0:=⟨some ⟨b,0,none⟩,256,256⟩)
 unfold q28
 refine joinP_id ?_
 have hsl:=A.len
 refine ⟨fun x w'=>∃i:Nat,x=(((bitsL ln (xs.take i):Nat):Int),(i:Int))∧i≤xs.length∧w'=w,fun x _=>xs.length-x.2.toNat,⟨0,by simp [bitsL],Nat.zero_le _,rfl⟩,?_⟩
 rintro x w1 ⟨i,rfl,hi,rfl⟩
 unfold q28_L0
 simp only
 refine cnd_d ?_ ?_
 ·intro hc
  have hi2:i<xs.length:=by omega
  obtain ⟨h1,h2,h3⟩:=hf _ (List.getElem_mem hi2)
  have hx:=hby _ (List.getElem_mem hi2)
  refine A.ldk i rfl hi2 ?_
  intro p hp
  refine ld_c (t := .I .u8) (x:=((xs[i]:Nat):Int)) hp ?_
  rw [wI64 (x:=((xs[i]:Nat):Int)) (by omega) (by omega)]
  refine cnd_d (fun h=>absurd h (by first|omega|(dsimp only;omega)|(simp only [];omega))) (fun _ => ?_)
  have hcell:arrC .i64 256 f xs[i]=some (.int .i64 ((ln xs[i]:Nat):Int)):=by rw [arrC_get hx,h1]
  refine ixS_o rfl hx ?_
  rw [Nat.zero_add]
  refine ld_b (t := .I .i64) (x:=((ln xs[i]:Nat):Int)) B hcell ?_
  refine cnd_d (fun h=>absurd h (by omega)) (fun _ => ?_)
  refine ixS_o rfl hx ?_
  rw [Nat.zero_add]
  refine ld_b (t := .I .i64) (x:=((ln xs[i]:Nat):Int)) B hcell ?_
  have hb:=bitsL_le (ln:=ln) (xs:=xs) i (fun x hx=>(hf x hx).2.2)
  rw [wI64 (by omega) (by omega),wI64 (by omega) (by omega)]
  refine ⟨⟨i+1,?_,hi2,rfl⟩,by first|omega|(dsimp only;omega)|(simp only [];omega)⟩
  rw [bitsL_take hi2,Prod.mk.injEq]
  exact ⟨by omega,by first|omega|(dsimp only;omega)⟩
 ·intro hc
  have hi2:i=xs.length:=by omega
  subst hi2
  unfold q28_J1
  rw [List.take_length]
  exact hk
theorem c30 {s0:Sl} {xs:List Nat} {K:Sl→PT} (A:Arr .u8 w s0 xs) (hby:By xs) (hl:xs.length≤2^30) (hk:∀w' b,Fm w w' []→w.heap.size≤b→Blk w' b (arrC .u32 256 fun i=>(xs.count i:Nat))→K ⟨some ⟨b,0,none⟩,256,256⟩ w') :
  callP Tryd.prog 30 #[.slice s0.a s0.l s0.c] [.c .S] K w:=by
 apply q30_ok
 unfold q30
 refine mks1 (k := .u32) (v:=0) (n:=256) rfl rfl (by omega) ?_
 intro w1 F1 hs1 B1
 have A1:=A.fr F1 (by simp)
 have hne:∀a,s0.a=some a→xs ≠ []→a.block ∉ [w.heap.size]:=by
  intro a ha hx
  have:=A.old hx a ha
  simp;omega
 have hsz:w.heap.size≤w.heap.size:=Nat.le_refl _
 generalize hpe:w.heap.size=p at *
 have hsl:=A.len
 refine joinP_id ?_
 refine ⟨fun x w'=>∃i:Nat,x=(i:Int)∧i≤xs.length∧Blk w' p (arrC .u32 256 fun j=>((xs.take i).count j:Nat))∧Fm w1 w' [p],fun x _=>xs.length-x.toNat,⟨0,rfl,Nat.zero_le _,B1.congr (by simp),Fm.refl _ _⟩,?_⟩
 rintro x w2 ⟨i,rfl,hi,B2,F2⟩
 have A2:=A1.fr F2 hne
 unfold q30_L0
 refine cnd_d ?_ ?_
 ·intro hc
  have hi2:i<xs.length:=by omega
  have hx:=hby _ (List.getElem_mem hi2)
  refine A2.ldk i rfl hi2 ?_
  intro q hq
  refine ld_c (t := .I .u8) (x:=((xs[i]:Nat):Int)) hq ?_
  refine ixS_o rfl hx ?_
  rw [Nat.zero_add]
  refine ld_b (t := .I .u32) (x:=(((xs.take i).count xs[i]:Nat):Int)) B2 (by rw [arrC_get hx];rfl) ?_
  refine ixS_o rfl hx ?_
  rw [Nat.zero_add]
  refine st_u B2 (by rw [arrC_get hx];rfl) rfl ?_
  intro w3 B3 F3
  have hcl:(xs.take i).count xs[i]≤xs.length:=Nat.le_trans List.count_le_length (by rw [List.length_take];omega)
  rw [wU32 (by omega) (by omega),arrC_upd hx] at B3
  rw [wI64 (by omega) (by omega)]
  refine ⟨⟨i+1,by simp,hi2,B3.congr ?_,F2.trans F3 (fun x hx => .inl hx)⟩,by first|omega|(dsimp only;omega)⟩
  congr 1
  funext j
  unfold updF
  have hcnt:(xs.take (i+1)).count j=(xs.take i).count j+if xs[i]=j then 1 else 0:=by
   rw [List.take_succ_eq_append_getElem hi2,List.count_append,List.count_singleton]
   by_cases e:xs[i]=j
   ·rw [if_pos e,if_pos (by simpa using e)]
   ·rw [if_neg e,if_neg (by simpa using e)]
  by_cases e:j=xs[i]
  ·subst e
   rw [if_pos rfl] at hcnt
   rw [if_pos rfl,hcnt];omega
  ·rw [if_neg (fun h=>e h.symm)] at hcnt
   rw [if_neg e,hcnt];rfl
 ·intro hc
  have hi2:i=xs.length:=by omega
  subst hi2
  unfold q30_J1
  rw [List.take_length] at B2
  refine hk w2 p (F1.trans F2 (by intro v hv;right;simp at hv;omega)) hsz B2
end
def lnx (L:Nat) (ln:Nat→Nat) (i:Nat):Nat:=if i<L then ln i else 0
theorem lnx_lt {L i:Nat} {ln:Nat→Nat} (h:i<L):lnx L ln i=ln i:=if_pos h
theorem lnx_ge {L i:Nat} {ln:Nat→Nat} (h:L≤i):lnx L ln i=0:=if_neg (by omega)
section
variable {xs tbl:List Nat} {M L:Nat} {ln:Nat→Nat}
theorem NT.hl (hN:NT xs M ln L) (hw:weightsZ tbl=some (wtL M ln L,tbl.length)):∃f,hlZ tbl=some (f,tbl.length)∧∀i,f i=(lnx L ln i:Nat):=by
 obtain ⟨f,h1,h2,h3⟩:=hl_ok hN.h hN.l2 hN.l256 hN.last hN.two hw
 refine ⟨f,h1,?_⟩
 intro i
 rcases Nat.lt_or_ge i L with h|h
 ·rw [lnx_lt h];exact h2 i h
 ·rw [lnx_ge h];exact h3 i h
theorem NT.mem (hN:NT xs M ln L) {x:Nat} (hx:x∈xs):x<L∧0<ln x∧ln x≤11:=by
 have h1:0<xs.count x:=List.count_pos_iff.mpr hx
 have h3:x<L:=Classical.byContradiction fun h=>by have:=hN.out x (by omega);omega
 have h4:=hN.h.le x h3
 have h5:=hN.h.m11
 exact ⟨h3,(hN.h.pos x h3).mpr h1,by first|omega|(dsimp only;omega)⟩
theorem bitsL_congr {f h:Nat→Nat} (e:∀x∈xs,f x=h x):bitsL f xs=bitsL h xs:=by
 unfold bitsL
 rw [List.map_congr_left e]
end
end Go.Sx
namespace Go.Sx
open Go Go.Proofs Go.ChangeShapes Go.WideShapes Go.ChangeAt Go.RowKit Go.Proofs.YtlnhldlhmplphaaDoor
set_option maxRecDepth 100000
def mask32:List Int := [0,1,3,7,15,31,63,127,255,511,1023,2047,4095,8191,16383,32767,65535,65535,65535,65535,65535,65535,65535,65535,65535,65535,0,0,0,0,0,0]
def laid0:List (String×DataW Unit) := [("pub-pemmican/pub/compress/fse.bitMask16",Rows.laid_pub_pemmican_pub_compress_fse_bitMask16),("pub-pemmican/pub/compress/fse.rtbTable",Rows.laid_pub_pemmican_pub_compress_fse_rtbTable),("pub-pemmican/pub/compress/fse.ErrIncompressible",Rows.laid_pub_pemmican_pub_compress_fse_ErrIncompressible),("pub-pemmican/pub/compress/fse.ErrUseRLE",Rows.laid_pub_pemmican_pub_compress_fse_ErrUseRLE),("pub-pemmican/pub/compress/huff0.ErrIncompressible",Rows.laid_pub_pemmican_pub_compress_huff0_ErrIncompressible),("pub-pemmican/pub/compress/huff0.ErrUseRLE",Rows.laid_pub_pemmican_pub_compress_huff0_ErrUseRLE),("pub-pemmican/pub/compress/huff0.ErrTooBig",Rows.laid_pub_pemmican_pub_compress_huff0_ErrTooBig)]
theorem ge_of_laid {W:World} (h:laidMetH Tryd.prog laid0 W):GE W:=by
 rw [MakeChecks.laidMetH_plain _ _ _ (by kernel_rfl)] at h
 have e0:=err_of_laid h (.tail _ (.tail _ (.tail _ (.tail _ (.head _))))) (g:=0) (by kernel_rfl) (by kernel_rfl)
 have e1:=err_of_laid h (.tail _ (.tail _ (.tail _ (.tail _ (.tail _ (.head _)))))) (g:=1) (by kernel_rfl) (by kernel_rfl)
 have e2:=err_of_laid h (.tail _ (.tail _ (.tail _ (.tail _ (.tail _ (.tail _ (.head _))))))) (g:=2) (by kernel_rfl) (by kernel_rfl)
 have e3:=err_of_laid h (.tail _ (.tail _ (.head _))) (g:=3) (by kernel_rfl) (by kernel_rfl)
 have e4:=err_of_laid h (.tail _ (.tail _ (.tail _ (.head _)))) (g:=4) (by kernel_rfl) (by kernel_rfl)
 have em:=nums_of_laid (zs:=mask32) (k := .u16) (t:=240) (e:=81) (m:=32) h (.head _) (g:=8) (by kernel_rfl) (by kernel_rfl) (by kernel_rfl) (by kernel_rfl) (by kernel_rfl) rfl
 have er:=nums_of_laid (zs:=rtbZ) (k := .u32) (t:=207) (e:=79) (m:=8) h (.tail _ (.head _)) (g:=6) (by kernel_rfl) (by kernel_rfl) (by kernel_rfl) (by kernel_rfl) (by kernel_rfl) rfl
 have ee:∀ {g:Nat},(∃a c T,W.cell? ⟨g,0,none⟩=some (.iface 160 (.pointer (some a)))∧W.heap[a.block]? = some (.cells c T (0,0)))→errAt W g:=fun ⟨a,c,T,h1,_⟩=>⟨_,h1,rfl,rfl⟩
 refine ⟨⟨ee e3,ee e4,?_,?_⟩,?_⟩
 ·intro k hk
  exact er k hk
 ·intro n hn
  rw [em n (by omega)]
  have:∀m:Fin 17,mask32.getD (m:Nat) 0=((2^(m:Nat)-1:Nat):Int):=by decide
  rw [this ⟨n,by omega⟩]
 ·intro i hi
  have:i=0∨i=1∨i=2:=by omega
  rcases this with rfl|rfl|rfl
  ·exact e0
  ·exact e1
  ·exact e2
theorem bytes_in {H:Type} {enc:TypeId×Value→H} {W:World} {v:Value} {d:DataW H} {p:List MemPlace} (h:DataW.Trod enc Tryd.prog W 0 (fun _=>true) true 22 v d p) (hv:∃a l c,v = .slice a l c) :
  ∃(s:Sl) (xs:List Nat),v = .slice s.a s.l s.c∧Arr .u8 W s xs∧By xs:=by
 obtain ⟨n,hn⟩:=h
 obtain ⟨a0,l0,c0,rfl⟩:=hv
 rcases open_ints Tryd.underlying22 Tryd.underlying5 (by kernel_rfl) hn with ⟨e,_⟩|⟨a,len,cap,zs,e,_,hl,_,hzl,_,hcell,hwf⟩
 ·have e:Value.slice a0 l0 c0 = .slice none 0 0:=by simpa [Value.cells] using e
  injection e with e1 e2 e3
  subst e1 e2 e3
  exact ⟨⟨none,0,0⟩,[],rfl,⟨rfl,Nat.le_refl _,fun _=>rfl,(by intro b hb;cases hb)⟩,by intro x hx;cases hx⟩
 ·have e:Value.slice a0 l0 c0 = .slice (some a) len cap:=by simpa [Value.cells] using e
  injection e with e1 e2 e3
  subst e1 e2 e3
  simp only [if_true] at hzl
  have hz:∀i (hi:i<zs.length),0≤zs[i]∧zs[i]<256:=by
   intro i hi
   have:=bounds_u8 (hwf _ (List.getElem_mem hi))
   omega
  refine ⟨⟨some a,l0,c0⟩,(zs.take l0).map Int.toNat,rfl,⟨?_,hl,(fun h=>by cases h),?_⟩,?_⟩
  ·rw [List.length_map,List.length_take];simp only;omega
  ·intro b hb i hi
   injection hb with hb
   subst hb
   rw [List.length_map,List.length_take] at hi
   have hi2:i<zs.length:=by omega
   rw [hcell i hi2]
   have h1:=hz i hi2
   have h2:zs.getD i 0=zs[i]:=by rw [List.getD_eq_getElem?_getD,List.getElem?_eq_getElem hi2];rfl
   rw [h2,List.getElem_map,List.getElem_take,Int.toNat_of_nonneg h1.1]
  ·intro x hx
   obtain ⟨z,hz1,rfl⟩:=List.mem_map.mp hx
   obtain ⟨i,hi,e⟩:=List.mem_iff_getElem.mp (List.mem_of_mem_take hz1)
   have:=hz i hi
   rw [e] at this
   omega
theorem slice_in {H:Type} {enc:TypeId×Value→H} {W:World} {t e:TypeId} {v:Value} {d:DataW H} {p:List MemPlace} {base:Nat} (ht:Tryd.prog.underlying t=some (.slice e)) (ok:Value.okWide Tryd.prog W .any base t v) (h:DataW.Trod enc Tryd.prog W 0 (fun _=>true) true t v d p):∃a l c,v = .slice a l c:=by
 unfold Value.okWide at ok
 simp only [ht] at ok
 unfold Cell.okWide at ok
 cases v<;>simp [Value.cells,Cell.ok,ht] at ok ⊢
theorem door_met (os:Os) (args:Array Value):laidMetH Tryd.prog laid0 ((World.doorLaid Tryd.prog 4000 os).forCall (fun _ _=>0) ⟨#[],args,[]⟩).memory :=
 laidMetH_of_parts3 (fuel:=8) (laidMet_of_run' 8 (by kernel_rfl) (by kernel_rfl)) (by kernel_rfl) (by kernel_rfl)
end Go.Sx
namespace Go.Sx
open Go Go.Proofs
set_option maxRecDepth 4000
theorem Srt.uniq {cnt:Nat→Nat} {L:Nat} {l l':List Nat} (h:Srt cnt L l) (h':Srt cnt L l'):l=l':=by
 refine List.Perm.eq_of_pairwise ?_ h.dec h'.dec ((List.perm_ext_iff_of_nodup h.nd h'.nd).mpr fun a=>(h.mem a).trans (h'.mem a).symm)
 intro a b _ _ h1 h2
 omega
theorem Ord.uniq {cnt σ:Nat→Nat} {L N N':Nat} (h:Ord cnt L N σ) (h':Ord cnt L N' σ):N=N':=by
 have key:∀ {A B:Nat},Ord cnt L A σ→Ord cnt L B σ→B≤A:=by
  intro A B hA hB
  apply Classical.byContradiction
  intro hlt
  have hAB:A<B:=by omega
  obtain ⟨j,hj,e⟩:=hA.onto (σ A) (hB.lt A hAB) (hB.pos A hAB)
  have:=hB.inj j A (by omega) hAB e
  omega
 have h1:=key h h'
 have h2:=key h' h
 omega
theorem Pick.uniq {c:Nat→Nat} {k lo hi x lo1 hi1 x' lo1' hi1':Nat} (h:Pick c k lo hi x lo1 hi1) (h':Pick c k lo hi x' lo1' hi1'):x=x'∧lo1=lo1'∧hi1=hi1':=by
 rcases h with ⟨a1,a2,a3,a4,a5⟩|⟨a1,a2,a3,a4,a5⟩<;>rcases h' with ⟨b1,b2,b3,b4,b5⟩|⟨b1,b2,b3,b4,b5⟩
 ·exact ⟨by omega,by omega,by omega⟩
 ·have:=a5 b2;have:=b5 a2;omega
 ·have:=b5 a2;have:=a5 b2;omega
 ·exact ⟨by omega,by omega,by omega⟩
theorem TrR.ge {N L:Nat} {c0 c p:Nat→Nat} {k lo hi:Nat} (h:TrR N L c0 c p k lo hi):L+1≤k:=by
 induction h with
 | start=>exact Nat.le_refl _
 | step _ _ _ ih=>omega
theorem TrR.inv {N L:Nat} {c0 c p:Nat→Nat} {k lo hi:Nat} (h:TrR N L c0 c p k lo hi):(k=L+1∧c=updN c0 L (c0 (N-1)+c0 (N-2))∧p=updN (updN (fun _=>0) (N-1) L) (N-2) L∧lo=N-2∧hi=L) ∨
  ∃(c1 p1:Nat→Nat) (k1 lo0 hi0 x1 lo1 hi1 x2:Nat),TrR N L c0 c1 p1 k1 lo0 hi0∧Pick c1 k1 lo0 hi0 x1 lo1 hi1∧Pick c1 k1 lo1 hi1 x2 lo hi∧c=updN c1 k1 (c1 x1+c1 x2)∧p=updN (updN p1 x1 k1) x2 k1∧k=k1+1:=by
 cases h with
 | start=>exact .inl ⟨rfl,rfl,rfl,rfl,rfl⟩
 | step h1 h2 h3=>exact .inr ⟨_,_,_,_,_,_,_,_,_,h1,h2,h3,rfl,rfl,rfl⟩
theorem TrR.uniq {N L:Nat} {c0 c p:Nat→Nat} {k lo hi:Nat} (h:TrR N L c0 c p k lo hi):∀ {c' p':Nat→Nat} {lo' hi':Nat},TrR N L c0 c' p' k lo' hi'→c=c'∧p=p'∧lo=lo'∧hi=hi':=by
 induction h with
 | start =>
  intro c' p' lo' hi' h'
  rcases h'.inv with ⟨_,h1,h2,h3,h4⟩|⟨c1,p1,k1,lo0,hi0,x1,lo1,hi1,x2,h1,_,_,_,_,h5⟩
  ·exact ⟨h1.symm,h2.symm,h3.symm,h4.symm⟩
  ·have:=h1.ge;omega
 | @step c p k lo hi x1 lo1 hi1 x2 lo2 hi2 h1 h2 h3 ih =>
  intro c' p' lo' hi' h'
  rcases h'.inv with ⟨h5,_⟩|⟨c1,p1,k1,lo0,hi0,y1,m1,n1,y2,g1,g2,g3,rfl,rfl,h5⟩
  ·have:=h1.ge;omega
  ·have hk:k1=k:=by omega
   subst hk
   obtain ⟨rfl,rfl,rfl,rfl⟩:=ih g1
   obtain ⟨rfl,rfl,rfl⟩:=h2.uniq g2
   obtain ⟨rfl,rfl,rfl⟩:=h3.uniq g3
   exact ⟨rfl,rfl,rfl,rfl⟩
theorem DepP.uniqI {N L tot:Nat} {c p D D':Nat→Nat} (T:TreeP N L tot c p) (E:DepP N L p D) (E':DepP N L p D'):∀n v,L≤v→v≤L+N-2→L+N-2-v≤n→D v=D' v
 | 0,v,h1,h2,h3=>by
  have e:v=L+N-2:=by omega
  rw [e,E.root,E'.root]
 | n+1,v,h1,h2,h3=>by
  by_cases e:v=L+N-2
  ·rw [e,E.root,E'.root]
  ·have hp:=T.pin v h1 (by omega)
   rw [E.inn v h1 (by omega),E'.inn v h1 (by omega),DepP.uniqI T E E' n (p v) (by omega) hp.2 (by omega)]
theorem DepP.uniq {N L tot:Nat} {c p D D':Nat→Nat} (T:TreeP N L tot c p) (E:DepP N L p D) (E':DepP N L p D') {i:Nat} (hi:i<N):D i=D' i:=by
 have hp:=T.pl i hi
 rw [E.leaf i hi,E'.leaf i hi,DepP.uniqI T E E' (L+N) (p i) hp.1 hp.2 (by omega)]
section
variable {H N:Nat} {b b' rk rk' cn cn':Nat→Nat}
theorem RL.uniq (hN:N≤256) (h:RL H N b rk) (h':RL H N b' rk') (e:∀i,i<N→b i=b' i) {r:Nat} (h1:1≤r) (h2:r≤12):rk r=rk' r:=by
 rcases h r h1 h2 with ⟨a1,a2⟩|⟨a1,a2,a3⟩<;>rcases h' r h1 h2 with ⟨b1,b2⟩|⟨b1,b2,b3⟩
 ·rw [a1,b1]
 ·exact absurd (by rw [e _ b1];exact b2) (a2 _ b1)
 ·exact absurd (by rw [←e _ a1];exact a2) (b2 _ a1)
 ·rcases Nat.lt_trichotomy (rk r) (rk' r) with h3|h3|h3
  ·exact absurd (by rw [e _ b1];exact b2) (a3 _ h3 b1)
  ·exact h3
  ·exact absurd (by rw [←e _ a1];exact a2) (b3 _ h3 a1)
theorem RL.rng (h:RL H N b rk) {r:Nat} (h1:1≤r) (h2:r≤12):rk r=noS∨rk r<N:=by
 rcases h r h1 h2 with ⟨a1,_⟩|⟨a1,_⟩
 ·exact .inl a1
 ·exact .inr a1
theorem dnK_congr (hr:∀r,1≤r→r≤12→rk r=rk' r) (hv:∀r,1≤r→r≤12→rk r=noS∨rk r<N) (hc:∀i,i<N→cn i=cn' i):∀k,k≤12→dnK cn rk k=dnK cn' rk' k
 | 0,_=>rfl
 | 1,_=>rfl
 | k+2,h=>by
  rw [dnK,dnK, ←hr (k+2) (by omega) h, ←hr (k+1) (by omega) (by omega),dnK_congr hr hv hc (k+1) (by omega)]
  by_cases h1:rk (k+2)=noS
  ·rw [if_pos h1,if_pos h1]
  ·rw [if_neg h1,if_neg h1]
   by_cases h2:rk (k+1)=noS
   ·rw [if_pos h2,if_pos h2]
   ·rw [if_neg h2,if_neg h2]
    have g1:=(hv (k+2) (by omega) h).resolve_left h1
    have g2:=(hv (k+1) (by omega) (by omega)).resolve_left h2
    rw [hc _ g1,hc _ g2]
theorem dnK_ge {cn rk:Nat→Nat} : ∀k,1≤k→1≤dnK cn rk k
 | 0,h=>by omega
 | 1,_=>Nat.le_refl _
 | k+2,_=>by
  have:=dnK_ge (cn:=cn) (rk:=rk) (k+1) (by omega)
  rw [dnK]
  split
  ·exact this
  ·split
   ·omega
   ·split
    ·omega
    ·exact this
theorem upK_congr (hr:∀r,1≤r→r≤12→rk r=rk' r):∀f k,1≤k→upK rk f k=upK rk' f k
 | 0,_,_=>rfl
 | f+1,k,h=>by
  rw [upK,upK,upK_congr hr f (k+1) (by omega)]
  by_cases h1:k≤11
  ·rw [hr k h (by omega)]
  ·rw [if_neg (fun h=>h1 h.1),if_neg (fun h=>h1 h.1)]
theorem PayR.inv {H N:Nat} {cn b b':Nat→Nat} {tc tc':Int} (h:PayR H N cn b tc b' tc'):(tc≤0∧b'=b∧tc'=tc) ∨
  ∃(rk:Nat→Nat) (k:Nat),0<tc∧tc.toNat.log2<8∧RL H N b rk∧1≤k∧k≤12∧k=upJ rk (dnK cn rk (tc.toNat.log2+1))∧PayR H N cn (updN b (rk k) (b (rk k)+1)) (tc-((2^(k-1):Nat):Int)) b' tc':=by
 cases h with
 | stop h=>exact .inl ⟨h,rfl,rfl⟩
 | step h1 h2 h3 h4 h5 h6 h7=>exact .inr ⟨_,_,h1,h2,h3,h4,h5,h6,h7⟩
theorem PayR.uniq (hN:N≤256) (hc:∀i,i<N→cn i=cn' i) {tc t1:Int} {b1:Nat→Nat} (h:PayR H N cn b tc b1 t1):∀ {b' b2:Nat→Nat} {t2:Int},PayR H N cn' b' tc b2 t2→(∀i,i<N→b i=b' i)→t1=t2∧∀i,i<N→b1 i=b2 i:=by
 induction h with
 | stop h0 =>
  intro b' b2 t2 h' e
  rcases h'.inv with ⟨_,rfl,rfl⟩|⟨_,_,h1,_⟩
  ·exact ⟨rfl,e⟩
  ·omega
 | @step b rk b1 tc t1 k h1 h2 h3 h4 h5 h6 h7 ih =>
  intro b' b2 t2 h' e
  rcases h'.inv with ⟨g1,_⟩|⟨rk',k',g1,g2,g3,g4,g5,g6,g7⟩
  ·omega
  ·have hr:∀r,1≤r→r≤12→rk r=rk' r:=fun r h1 h2=>h3.uniq hN g3 e h1 h2
   have hk:k=k':=by
    rw [h6,g6,dnK_congr hr (fun r h1 h2=>h3.rng h1 h2) hc _ (by omega)]
    exact upK_congr hr _ _ (dnK_ge _ (by omega))
   subst hk
   rw [←hr k h4 h5] at g7
   refine ih g7 ?_
   intro i hi
   unfold updN
   by_cases e1:i=rk k
   ·rw [if_pos e1,if_pos e1,e _ (by omega)]
   ·rw [if_neg e1,if_neg e1];exact e i hi
theorem BackR.inv {H N:Nat} {b b':Nat→Nat} {tc:Int} (h:BackR H N b tc b'):(0≤tc∧b'=b)∨∃q,tc<0∧q<N∧b q=H∧(∀i,i<q→b i+1≤H)∧BackR H N (updN b q (H-1)) (tc+1) b':=by
 cases h with
 | stop h=>exact .inl ⟨h,rfl⟩
 | step h1 h2 h3 h4 h5=>exact .inr ⟨_,h1,h2,h3,h4,h5⟩
theorem BackR.uniq {tc:Int} {b1:Nat→Nat} (h:BackR H N b tc b1):∀ {b' b2:Nat→Nat},BackR H N b' tc b2→(∀i,i<N→b i=b' i)→∀i,i<N→b1 i=b2 i:=by
 induction h with
 | stop h0 =>
  intro b' b2 h' e
  rcases h'.inv with ⟨_,rfl⟩|⟨_,h1,_⟩
  ·exact e
  ·omega
 | @step b b1 tc q h1 h2 h3 h4 h5 ih =>
  intro b' b2 h' e
  rcases h'.inv with ⟨g1,_⟩|⟨q',g1,g2,g3,g4,g5⟩
  ·omega
  ·have hq:q=q':=by
    rcases Nat.lt_trichotomy q q' with h|h|h
    ·have:=g4 q h;rw [←e q h2] at this;omega
    ·exact h
    ·have:=h4 q' h;rw [e q' g2] at this;omega
   subst hq
   refine ih g5 ?_
   intro i hi
   unfold updN
   by_cases e1:i=q
   ·rw [if_pos e1,if_pos e1]
   ·rw [if_neg e1,if_neg e1];exact e i hi
theorem MaxR.uniq {D D':Nat→Nat} {M M':Nat} (hn:1≤N) (hN:N≤256) (h:MaxR H N cn D M b) (h':MaxR H N cn' D' M' b') (hc:∀i,i<N→cn i=cn' i) (hD:∀i,i<N→D i=D' i):M=M'∧∀i,i<N→b i=b' i:=by
 have e1:=hD (N-1) (by omega)
 have ecut:∀i,i<N→cutD H D i=cutD H D' i:=fun i hi=>by unfold cutD;rw [hD i hi]
 rcases h with ⟨a1,a2,a3⟩|⟨a1,a2,tc,b7,t7,a3,a4,a5⟩<;>rcases h' with ⟨c1,c2,c3⟩|⟨c1,c2,tc',b7',t7',c3,c4,c5⟩
 ·subst a3 c3
  exact ⟨by omega,hD⟩
 ·omega
 ·omega
 ·have ek:krS H (cutD H D) N=krS H (cutD H D') N:=sF_congr (fun i _ hi=>by rw [ecut i (by omega)])
  have et:tc'=tc:=by omega
  subst et
  obtain ⟨rfl,h7⟩:=a4.uniq hN hc c4 ecut
  exact ⟨by omega,a5.uniq c5 h7⟩
end
theorem lnS_congr {σ b b':Nat→Nat} : ∀ {N:Nat},(∀i,i<N→b i=b' i)→lnS σ b N=lnS σ b' N
 | 0,_=>rfl
 | n+1,h=>by rw [lnS,lnS,lnS_congr (fun i hi=>h i (by omega)),h n (by omega)]
theorem LenR.uniq {cnt:Nat→Nat} {L n t M M':Nat} {ln ln':Nat→Nat} (h:LenR cnt L n t M ln) (h':LenR cnt L n t M' ln'):M=M'∧ln=ln':=by
 obtain ⟨l,N,c,p,D,b,cn,lo,hi,tot,S,O,Tr,T,E,hcn,P,R,rfl⟩:=h
 obtain ⟨l',N',c',p',D',b',cn',lo',hi',tot',S',O',Tr',T',E',hcn',P',R',rfl⟩:=h'
 obtain rfl:=S.uniq S'
 obtain rfl:=O.uniq O'
 obtain ⟨rfl,rfl,_,_⟩:=Tr.uniq Tr'
 have hD:∀i,i<N→D i=D' i:=fun i hi=>E.uniq T E' hi
 obtain ⟨e1,e2⟩:=R.uniq P.n1 P.n2 R' (fun i hi=>(hcn i hi).trans (hcn' i hi).symm) hD
 exact ⟨e1,lnS_congr e2⟩
def scN (k v:Nat):Nat:=(v+(2^k-1))/2^k
theorem scN_zero (v:Nat):scN 0 v=v:=by simp [scN]
theorem scN_pos {k v:Nat} : 0<scN k v↔0<v:=by
 have hp:=Nat.two_pow_pos k
 unfold scN
 rw [Nat.div_pos_iff]
 omega
theorem scN_le (k v:Nat):scN k v≤v/2^k+1:=by
 have hp:=Nat.two_pow_pos k
 unfold scN
 rw [←Nat.add_div_right _ hp]
 exact Nat.div_le_div_right (by omega)
def SHk (S k:Nat):Prop:=S/2^k≤262143∧∀j,j<k→262143<S/2^j
theorem SHk.uniq {S k k':Nat} (h:SHk S k) (h':SHk S k'):k=k':=by
 rcases Nat.lt_trichotomy k k' with h1|h1|h1
 ·have:=h'.2 k h1;have:=h.1;omega
 ·exact h1
 ·have:=h.2 k' h1;have:=h'.1;omega
theorem scN_sum (cnt:Nat→Nat) (k:Nat):∀n,sF (fun i=>scN k (cnt i)) 0 n≤sF cnt 0 n/2^k+n
 | 0=>Nat.zero_le _
 | n+1=>by
  have h1:=scN_sum cnt k n
  have h2:=scN_le k (cnt n)
  have hp:=Nat.two_pow_pos k
  rw [sF,sF,Nat.zero_add]
  have h3:sF cnt 0 n/2^k+cnt n/2^k≤(sF cnt 0 n+cnt n)/2^k:=by
   rw [Nat.le_div_iff_mul_le hp,Nat.add_mul]
   exact Nat.add_le_add (Nat.div_mul_le_self _ _) (Nat.div_mul_le_self _ _)
  omega
theorem sF_two {g:Nat→Nat} {a b n:Nat} (hab:a≠b) (ha:a<n) (hb:b<n):g a+g b≤sF g 0 n:=by
 have h6:sF (updN g a 0) 0 n+g a=sF g 0 n+0:=sF_upd (fun x=>x) g a 0 n ha
 have h7:=sF_mem (updN g a 0) 0 (n:=n) (i:=b) (Nat.zero_le _) (by omega)
 rw [updN_ne (fun e=>hab e.symm)] at h7
 omega
theorem cpy_b {w:World} {sz da dl dc sb sl sc n:Nat} {D Fs:Cells} {κ:Int→PT} (hd:Blk w da D) (hs:Blk w sb Fs) (hn:Nat.min sl dl=n) (h1:∀i,i<n*sz→∃v,Fs i=some v∧one v=true) (h2:∀i,i<n*sz→(D i).isSome)
  (hk:∀w',Blk w' da (fun i=>if i<n*sz then Fs i else D i)→Fm w w' [da]→κ ((n:Nat):Int) w'):cpy sz ⟨some ⟨da,0,none⟩,dl,dc⟩ ⟨some ⟨sb,0,none⟩,sl,sc⟩ κ w:=by
 have hx:∀i,i<n*sz→Fs i=some ((Fs i).getD default):=by
  intro i hi
  obtain ⟨v,h,_⟩:=h1 i hi
  rw [h];rfl
 have hl:((List.range (n*sz)).map fun i=>(Fs i).getD default).length=n*sz:=by simp
 have hget:∀i,i<n*sz→((List.range (n*sz)).map fun i=>(Fs i).getD default)[i]? = Fs i:=by
  intro i hi
  rw [List.getElem?_map,List.getElem?_range hi]
  exact (hx i hi).symm
 refine ⟨(List.range (n*sz)).map fun i=>(Fs i).getD default,by rw [hl,hn],?_,(fun h=>by cases h),?_,?_⟩
 ·intro b hb i hi
  injection hb with hb
  subst hb
  rw [hl] at hi
  rw [add_mk,Nat.zero_add,hs.cell,hget i hi]
 ·intro v hv
  obtain ⟨i,hi,rfl⟩:=List.mem_map.mp hv
  obtain ⟨v,h,h'⟩:=h1 i (List.mem_range.mp hi)
  rw [h];exact h'
 ·refine ⟨?_,?_⟩
  ·intro i hi
   rw [hl] at hi
   rw [add_mk,Nat.zero_add]
   exact canSt_b hd (h2 i hi)
  ·rw [hn]
   refine hk _ ((hd.setL (fun i hi=>by rw [Nat.zero_add];exact h2 i (by rw [hl] at hi;exact hi))).congr ?_) ((Fm.refl w _).setL (.inl (by simp)))
   funext i
   unfold updL
   rw [hl,Nat.sub_zero,Nat.zero_add]
   by_cases hi:i<n*sz
   ·rw [if_pos ⟨Nat.zero_le _,hi⟩,if_pos hi,hget i hi]
   ·rw [if_neg (fun h=>hi h.2),if_neg hi]
section
variable {w w0:World} {g n L t m:Nat} {s0:HU} {col:Nat→Nat} {cnt:Nat→Nat} {c':Nat→Int} {K2:Value→PT}
theorem t74 {xa xb:Int} {rv:Value} (P:HP w0 g s0 col 0) (hpt:s0.pt=⟨none,0,0⟩) (F:Fm w0 w [g]) (B:Blk w g ({ s0 with count:=c' } : HU).at) (hc:∀i,i<256→c' i=(cnt i:Nat)) (hL2:2≤L) (hL:L≤256) (hlt:∀i,i<L→cnt i<2^18) (two:∃a b,a≠b∧a<L∧b<L∧0<cnt a∧0<cnt b) (hsum:sF cnt 0 L≤n) (hn2:n<4294967296) (h8:sF cnt 0 L<832040) (htl:s0.tl=(t:Nat)) (ht11:t≤11)
  (hk:∀w' s' col' M ln,HT cnt L M ln→LenR cnt L n t M ln→HW w' g s' col'→PTc w' s'.pt M ln L→s'.tl=s0.tl→s'.reuse=s0.reuse→s'.wll=s0.wll→s'.ptl=(M:Nat)→VecU w' s'.out []→GoW w w' col col'→FseC w' s'.fse col'→K2 .nilIface w') :
  q74_J11 K2 (some ⟨g,0,none⟩,rv) (xa,xb,((L:Nat):Int)) (((n:Nat):Int),((m:Nat):Int)) w:=by
 have kg:=fun r (hr:r≠1)=>P.toHW.keepG (r:=r) hr
 unfold q74_J11
 simp only
 refine ⟨_,rfl,?_⟩
 simp only [add_mk,Nat.zero_add]
 refine st_u B rfl rfl ?_
 intro w1 B1 F1
 have B1':=B1.congr (HU.setT (s' := { s0 with count:=c',symL:=((L:Nat):Int) }) 9 rfl rfl rfl (by decide))
 refine ⟨_,rfl,?_⟩
 simp only [add_mk,Nat.zero_add]
 refine st_u B1' rfl rfl ?_
 intro w2 B2 F2
 have B2':=B2.congr (HU.setT (s' := { s0 with count:=c',symL:=((L:Nat):Int),maxC:=((m:Nat):Int) }) 10 rfl rfl rfl (by decide))
 refine ⟨_,rfl,?_⟩
 simp only [add_mk,Nat.zero_add]
 refine st_u B2' rfl rfl ?_
 intro w3 B3 F3
 have B3':=B3.congr (HU.setT (s' := { s0 with count:=c',symL:=((L:Nat):Int),maxC:=((m:Nat):Int),srcLen:=((n:Nat):Int) }) 4 rfl rfl rfl (by decide))
 have F13:Fm w w3 [g]:=(F1.trans F2 (fun x hx => .inl hx)).trans F3 (fun x hx => .inl hx)
 have F03:Fm w0 w3 [g]:=F.trans F13 (fun x hx => .inl hx)
 obtain ⟨nb,l0,cap,Fn,hnod,hcap,cnb,HN,hS,hF⟩:=P.nodP.mv F03 (kg 3 (by decide))
 have hct:=P.ct.mv F03 (kg 4 (by decide))
 have hfse:=P.fseP.mv F03 (kg 6 (by decide))
 have hout:=P.out.mv F03 (kg 2 (by decide))
 have dgn:g≠nb:=fun e=>by rw [←e,P.cg] at cnb;cases cnb
 have c4:=hct.co
 have hg:g∉s0.ct.bs:=fun h=>by have:=c4 g h;rw [P.cg] at this;cases this
 have hnb:nb∉s0.ct.bs:=fun h=>by have:=c4 nb h;rw [cnb] at this;cases this
 refine c91 (cnt:=cnt) (L:=L) (n:=n) (t:=t) B3' ⟨rfl,by omega,hL,fun i hi=>hc i (by omega),hlt⟩ rfl htl ht11 hn2 two hsum h8 hnod hcap HN hS hF dgn hct.own hg hnb ?_
 intro w4 M ln tb capt F4t Fn4 HTc hLR h256 B4 HT4 hS4 hcells HN4 hSn4 hFn4 htb dgt dnt Fr4
 refine ⟨rfl,nil_cnd ?_⟩
 refine joinP_id ?_
 have own0:∀v∈g::nb::s0.ct.bs,v<w3.heap.size→own (col v):=by
  intro v hv _
  rcases List.mem_cons.mp hv with h|h
  ·rw [h,P.cg];exact ⟨by decide,by decide⟩
  ·rcases List.mem_cons.mp h with h|h
   ·rw [h,cnb];exact ⟨by decide,by decide⟩
   ·rw [c4 v h];exact ⟨by decide,by decide⟩
 have hkeep:∀r,r≠1→r≠3→r≠4→∀v∈g::nb::s0.ct.bs,v<w3.heap.size→col v≠r:=by
  intro r h1 h3 h4 v hv _ e
  rcases List.mem_cons.mp hv with h|h
  ·rw [h,P.cg] at e;exact h1 e.symm
  ·rcases List.mem_cons.mp h with h|h
   ·rw [h,cnb] at e;exact h3 e.symm
   ·rw [c4 v h] at e;exact h4 e.symm
 have hsz4:=Fr4.size
 have Kp:∀r,r≠1→r≠3→r≠4→Keep w3 col (colN w3.heap.size 4 col) (g::nb::s0.ct.bs) r:=fun r h1 h3 h4=>⟨hkeep r h1 h3 h4,fun v hv=>colN_old hv⟩
 have hout4:=hout.mv Fr4 (Kp 2 (by decide) (by decide) (by decide))
 have hfse4:=hfse.mv Fr4 (Kp 6 (by decide) (by decide) (by decide))
 have ctb:colN w3.heap.size 4 col tb=4:=by
  rcases htb with h|h
  ·exact (colN_old (hct.own.lt tb h)).trans (c4 tb h)
  ·exact colN_new h
 have cg4:colN w3.heap.size 4 col g=1:=(colN_old B3'.lt).trans P.cg
 have cn4:colN w3.heap.size 4 col nb=3:=(colN_old HN.lt).trans cnb
 have Bd:=B4.drew
 unfold drw
 refine ⟨_,rfl,?_⟩
 simp only [add_mk,Nat.zero_add]
 refine ld_b (t := .S) (x:=s0.pt) Bd rfl ?_
 refine ⟨_,rfl,?_⟩
 simp only [add_mk,Nat.zero_add]
 refine ld_b (t := .S) (x:=⟨some ⟨tb,0,none⟩,L,capt⟩) Bd rfl ?_
 refine cnd_d (fun _ => ?_) (fun h=>absurd (by rw [hpt];simp only;omega) h)
 refine ⟨0,256,rfl,rfl,Nat.zero_le _,by decide,?_⟩
 have F5:Fm w4.drew (w4.drew.alloc (.cells (zrep z140 256) 140)) []:=(Fm.refl w4.drew []).alloc
 have B5p:Blk (w4.drew.alloc (.cells (zrep z140 256) 140)) w4.drew.heap.size fun i=>(zrep z140 256)[i]? := Blk.new
 have hs5:(w4.drew.alloc (.cells (zrep z140 256) 140)).heap.size=w4.heap.size+1:=World.size_alloc _ _
 have B5:=Bd.fr F5 (by simp)
 have hgl:=B4.lt
 have hnl:=HN4.lt
 have htl4:=HT4.lt
 have epb:w4.drew.heap.size=w4.heap.size:=rfl
 rw [epb] at *
 generalize w4.drew.alloc (.cells (zrep z140 256) 140)=w5 at *
 have dgp:g≠w4.heap.size:=by omega
 have dnp:nb≠w4.heap.size:=by omega
 have dtp:tb≠w4.heap.size:=by omega
 refine ⟨_,rfl,?_⟩
 simp only [add_mk,Nat.zero_add]
 refine st_u B5 rfl rfl ?_
 intro w6 B6 F6
 have B6':=B6.congr (HU.setT (s' := { s0 with count:=c',symL:=((L:Nat):Int),maxC:=((m:Nat):Int),srcLen:=((n:Nat):Int),atl:=((M:Nat):Int),ct:=⟨some ⟨tb,0,none⟩,L,capt⟩,nodes:=⟨some ⟨nb,0,none⟩,513,cap⟩,pt:=⟨some ⟨w4.heap.size,0,none⟩,0,256⟩ }) 14 rfl rfl rfl (by decide))
 have B6p:=B5p.fr F6 (nm1 dgp.symm)
 unfold q74_J10 drw
 have B6d:=B6'.drew
 refine ⟨_,rfl,?_⟩
 simp only [add_mk,Nat.zero_add]
 refine ld_b (t := .S) (x:=⟨some ⟨w4.heap.size,0,none⟩,0,256⟩) B6d rfl ?_
 refine ⟨_,rfl,?_⟩
 simp only [add_mk,Nat.zero_add]
 refine ld_b (t := .S) (x:=⟨some ⟨tb,0,none⟩,L,capt⟩) B6d rfl ?_
 refine slc_hi (m:=L) rfl (by omega) ?_
 refine ⟨_,rfl,?_⟩
 simp only [add_mk,Nat.zero_add]
 refine st_u B6d rfl rfl ?_
 intro w7 B7 F7
 have B7':=B7.congr (HU.setT (s' := { s0 with count:=c',symL:=((L:Nat):Int),maxC:=((m:Nat):Int),srcLen:=((n:Nat):Int),atl:=((M:Nat):Int),ct:=⟨some ⟨tb,0,none⟩,L,capt⟩,nodes:=⟨some ⟨nb,0,none⟩,513,cap⟩,pt:=⟨some ⟨w4.heap.size,0,none⟩,L,256⟩ }) 14 rfl rfl rfl (by decide))
 have B7p:=B6p.drew.fr F7 (nm1 dgp.symm)
 have B7d:=B7'.drew
 refine ⟨_,rfl,?_⟩
 simp only [add_mk,Nat.zero_add]
 refine ld_b (t := .S) (x:=⟨some ⟨w4.heap.size,0,none⟩,L,256⟩) B7d rfl ?_
 refine ⟨_,rfl,?_⟩
 simp only [add_mk,Nat.zero_add]
 refine ld_b (t := .S) (x:=⟨some ⟨tb,0,none⟩,L,capt⟩) B7d rfl ?_
 have F46:Fm w4 w6 [g]:=((Fm.refl w4 []).drew.trans F5 (by simp)).mono (S' := [g]) (by simp) |>.trans F6 (fun x hx => .inl hx)
 have F47:Fm w4 w7 [g]:=F46.drew.trans F7 (fun x hx => .inl hx)
 have HT7:=HT4.fr F47 (nm1 dgt.symm)
 have hcv:∀i,i<L*2→∃v,F4t i=some v∧one v=true:=by
  intro i hi
  have h1:=hcells (i/2) (by omega)
  by_cases e:i%2=0
  ·rw [show i=i/2*2 by omega];exact ⟨_,h1.1,rfl⟩
  ·rw [show i=i/2*2+1 by omega];exact ⟨_,h1.2,rfl⟩
 refine cpy_b (n:=L) B7p.drew HT7.drew (Nat.min_self L) hcv (fun i hi=>zrep_some z140 256 i (by show i<256*2;omega)) ?_
 intro w8 B8p F8
 have B8:=B7d.fr F8 (nm1 dgp)
 refine ⟨_,rfl,?_⟩
 simp only [add_mk,Nat.zero_add]
 refine ld_b (t := .I .u8) (x:=((M:Nat):Int)) B8 rfl ?_
 refine ⟨_,rfl,?_⟩
 simp only [add_mk,Nat.zero_add]
 refine st_u B8 rfl rfl ?_
 intro w9 B9 F9
 have B9':=B9.congr (HU.setT (s' := { s0 with count:=c',symL:=((L:Nat):Int),maxC:=((m:Nat):Int),srcLen:=((n:Nat):Int),atl:=((M:Nat):Int),ptl:=((M:Nat):Int),ct:=⟨some ⟨tb,0,none⟩,L,capt⟩,nodes:=⟨some ⟨nb,0,none⟩,513,cap⟩,pt:=⟨some ⟨w4.heap.size,0,none⟩,L,256⟩ }) 13 rfl rfl rfl (by decide))
 refine ⟨_,rfl,?_⟩
 simp only [add_mk,Nat.zero_add]
 refine st_u B9' rfl rfl ?_
 intro w10 B10 F10
 have B10':=B10.congr (HU.setT (s' := { s0 with count:=c',symL:=((L:Nat):Int),maxC:=((m:Nat):Int),cc:=true,srcLen:=((n:Nat):Int),atl:=((M:Nat):Int),ptl:=((M:Nat):Int),ct:=⟨some ⟨tb,0,none⟩,L,capt⟩,nodes:=⟨some ⟨nb,0,none⟩,513,cap⟩,pt:=⟨some ⟨w4.heap.size,0,none⟩,L,256⟩ }) 11 rfl rfl rfl (by decide))
 refine ⟨_,rfl,?_⟩
 simp only [add_mk,Nat.zero_add]
 refine st_u B10' rfl rfl ?_
 intro w11 B11 F11
 have B11':=B11.congr (HU.setT (s' := { s0 with count:=c',symL:=((L:Nat):Int),maxC:=0,cc:=true,srcLen:=((n:Nat):Int),atl:=((M:Nat):Int),ptl:=((M:Nat):Int),ct:=⟨some ⟨tb,0,none⟩,L,capt⟩,nodes:=⟨some ⟨nb,0,none⟩,513,cap⟩,pt:=⟨some ⟨w4.heap.size,0,none⟩,L,256⟩ }) 10 rfl rfl rfl (by decide))
 have F8b:Fm w8 w11 [g]:=(F9.trans F10 (fun x hx => .inl hx)).trans F11 (fun x hx => .inl hx)
 have F411:Fm w4 w11 [g]:=by
  refine Fm.trans (F47.drew.trans (F8.mono (S' := [g,w4.heap.size]) (by simp)) ?_) F8b (fun x hx => .inl hx)
  intro v hv
  simp only [List.mem_cons,List.not_mem_nil,or_false] at hv
  rcases hv with rfl|rfl
  ·exact .inl (by simp)
  ·exact .inr (Nat.le_refl _)
 have B11p:=B8p.fr F8b (nm1 dgp.symm)
 have hsz411:=F411.size
 have K5:∀r,r≠1→Keep w4 (colN w3.heap.size 4 col) (colN w4.heap.size 5 (colN w3.heap.size 4 col)) [g] r:=fun r hr=>⟨fun v hv _ e=>by simp at hv;subst hv;exact hr (e.symm.trans cg4),fun v hv=>colN_old hv⟩
 have n9:∀v∈g::nb::s0.ct.bs,9≤v:=by
  intro v hv
  rcases List.mem_cons.mp hv with h|h
  ·rw [h];exact P.g9
  ·rcases List.mem_cons.mp h with h|h
   ·rw [h];exact P.nine (by rw [cnb];decide)
   ·exact P.nine (by rw [c4 v h];decide)
 have g9:∀v ∈ [g],9≤v:=by intro v hv;simp at hv;rw [hv];exact P.g9
 have h9:=P.gl.size
 have hsz03:=F03.size
 have Fend:Fm w3 w11 (g::nb::s0.ct.bs):=Fr4.trans F411 (by intro v hv;left;simp at hv;rw [hv];simp)
 have Fe:Fm w0 w11 (g::nb::s0.ct.bs):=(F03.mono (S':=g::nb::s0.ct.bs) (by intro v hv;left;simp at hv;rw [hv];simp)).trans Fend (fun x hx => .inl hx)
 have hptc:PTc w11 ⟨some ⟨w4.heap.size,0,none⟩,L,256⟩ M ln L:=by
  refine ⟨w4.heap.size,256,_,cnt,rfl,Nat.le_refl _,B11p,?_,HTc,hL,by omega⟩
  intro i hi
  rw [if_pos (by omega),if_pos (by omega)]
  exact hcells i hi
 refine hk w11 _ (colN w4.heap.size 5 (colN w3.heap.size 4 col)) M ln HTc hLR ⟨B11',?_,?_,?_,.inr ?_,?_,?_,.inr ⟨M,ln,L,hptc⟩,.inr ?_,P.gl.fm Fe n9,?_,rfl,.inl rfl⟩ hptc rfl rfl rfl rfl (P.o0.fr Fe ?_) ?_ ?_
 ·exact (colN_old hgl).trans cg4
 ·intro v hv;rw [colN_old (by omega),colN_old (by omega)];exact P.low v hv
 ·exact hout4.mv F411 (K5 2 (by decide))
 ·exact ⟨nb,513,cap,Fn4,rfl,hcap,(colN_old hnl).trans cn4,HN4.fr F411 (nm1 dgn.symm),hSn4,hFn4⟩
 ·refine ⟨Own.of (HT4.fr F411 (nm1 dgt.symm)) hS4 (by omega),?_⟩
  intro v hv
  simp [Sl.bs] at hv
  rw [hv,colN_old htl4];exact ctb
 ·refine ⟨Own.of B11p ?_ (by omega),?_⟩
  ·intro i hi
   by_cases e:i<L*2
   ·obtain ⟨v,h1,_⟩:=hcv i e
    simp only [if_pos e,h1];rfl
   ·simp only [if_neg e]
    exact zrep_some z140 256 i hi
  ·intro v hv
   simp [Sl.bs] at hv
   rw [hv];exact colN_new (Nat.le_refl _)
 ·exact hfse4.mv F411 (K5 6 (by decide))
 ·intro i hi
  exact (P.er i hi).fm Fe (fun h=>by have:=n9 i h;omega)
 ·intro v hv hm
  have h2:=P.out.co v hv
  rcases List.mem_cons.mp hm with h|h
  ·rw [h,P.cg] at h2;cases h2
  ·rcases List.mem_cons.mp h with h|h
   ·rw [h,cnb] at h2;cases h2
   ·rw [c4 v h] at h2;cases h2
 ·have G1:GoW w w3 col col:=GoW.of F13 (by intro v hv _;simp at hv;subst hv;rw [P.cg];exact ⟨by decide,by decide⟩) (fun _ _=>rfl)
  have G2:GoW w3 w4 col (colN w3.heap.size 4 col):=GoW.of Fr4 own0 (fun v hv=>colN_old hv)
  have G3:GoW w4 w11 (colN w3.heap.size 4 col) (colN w4.heap.size 5 (colN w3.heap.size 4 col)):=GoW.of F411 (by intro v hv _;simp at hv;subst hv;rw [cg4];exact ⟨by decide,by decide⟩) (fun v hv=>colN_old hv)
  exact (G1.trans G2).trans G3
 ·exact hfse4.mv F411 (K5 6 (by decide))
end
theorem ldA_b {w:World} {b n:Nat} {F:Cells} {κ:Array Value→PT} (B:Blk w b F) (hF:∀i,i<n→(F i).isSome) (hk:∀cs:Array Value,cs.size=n→(∀i,i<n→cs[i]? = F i)→κ cs w):ldA n ⟨b,0,none⟩ κ w:=by
 have hg:∀i,i<n→((List.range n).map fun i=>(F i).getD default)[i]? = F i:=by
  intro i hi
  have h:=hF i hi
  rw [List.getElem?_map,List.getElem?_range hi]
  cases hf:F i with
  | none=>rw [hf] at h;cases h
  | some v=>simp [hf]
 refine ⟨⟨(List.range n).map fun i=>(F i).getD default⟩,by simp,?_,hk _ (by simp) ?_⟩
 ·intro i hi
  rw [add_mk,Nat.zero_add,B.cell,List.getElem?_toArray,hg i hi]
 ·intro i hi
  rw [List.getElem?_toArray,hg i hi]
theorem stA_b {w:World} {b n:Nat} {F:Cells} {cs:Array Value} {κ:PT} (B:Blk w b F) (hF:∀i,i<n→(F i).isSome) (hs:cs.size=n) (h1:∀i v,i<n→cs[i]? = some v→one v=true) (hk:∀w',Blk w' b (fun i=>if i<n then cs[i]? else F i)→Fm w w' [b]→κ w'):stA n ⟨b,0,none⟩ cs κ w:=by
 have hl:cs.toList.length=n:=by simpa using hs
 refine ⟨hs,?_,?_⟩
 ·intro i v hv
  have hi:i<n:=by
   have:=Array.getElem?_eq_some_iff.mp hv
   obtain ⟨h,_⟩:=this
   omega
  rw [add_mk,Nat.zero_add]
  exact ⟨h1 i v hi hv,canSt_b B (hF i hi)⟩
 ·refine hk _ ((B.setL (fun i hi=>by rw [Nat.zero_add];exact hF i (by rw [hl] at hi;exact hi))).congr ?_) ((Fm.refl w _).setL (.inl (by simp)))
  funext i
  unfold updL
  rw [hl,Nat.sub_zero,Nat.zero_add]
  by_cases hi:i<n
  ·rw [if_pos ⟨Nat.zero_le _,hi⟩,if_pos hi];simp
  ·rw [if_neg (fun h=>hi h.2),if_neg hi]
structure CMx (cnt:Nat→Nat) (i m L:Nat):Prop where
 le:∀j,j<i→cnt j≤m
 ex:m=0∨∃j,j<i∧cnt j=m
 li:L≤i
 out:∀j,L≤j→j<i→cnt j=0
 last:L=0∨0<cnt (L-1)
theorem CMx.step {cnt:Nat→Nat} {i m L:Nat} (h:CMx cnt i m L):CMx cnt (i+1) (if m<cnt i then cnt i else m) (if cnt i≠0 then i+1 else L):=by
 refine ⟨?_,?_,?_,?_,?_⟩
 ·intro j hj
  by_cases e:j=i
  ·subst e;split<;>omega
  ·have:=h.le j (by omega);split<;>omega
 ·by_cases e:m<cnt i
  ·rw [if_pos e];exact .inr ⟨i,by omega,rfl⟩
  ·rw [if_neg e];exact h.ex.imp id (fun ⟨j,h1,h2⟩=>⟨j,by omega,h2⟩)
 ·have:=h.li;split<;>omega
 ·intro j h1 h2
  by_cases e:cnt i≠0
  ·rw [if_pos e] at h1;omega
  ·rw [if_neg e] at h1
   by_cases e2:j=i
   ·subst e2;omega
   ·exact h.out j h1 (by omega)
 ·by_cases e:cnt i≠0
  ·rw [if_pos e];right;rw [Nat.add_sub_cancel];omega
  ·rw [if_neg e];exact h.last
theorem CMx.two {cnt:Nat→Nat} {m L:Nat} (h:CMx cnt 256 m L) {a b:Nat} (hab:a≠b) (ha:a<256) (hb:b<256) (ha0:0<cnt a) (hb0:0<cnt b):2≤L∧m<sF cnt 0 256:=by
 have hl:∀j,j<256→0<cnt j→j<L:=fun j hj h0=>Classical.byContradiction fun hn=>by have:=h.out j (by omega) hj;omega
 have h1:=hl a ha ha0
 have h2:=hl b hb hb0
 refine ⟨by omega,?_⟩
 have h3:=sF_two (g:=cnt) hab ha hb
 rcases h.ex with h4|⟨j,hj,h4⟩
 ·omega
 ·by_cases e:j=a
  ·subst e;omega
  ·have:=sF_two (g:=cnt) e hj ha;omega
theorem CMx.ab {cnt:Nat→Nat} {m L:Nat} (h:CMx cnt 256 m L) (hL:2≤L) (hm:m≠sF cnt 0 256):∃a,a<L-1∧0<cnt a:=by
 refine Classical.byContradiction fun hn=>hm ?_
 have hL0:0<cnt (L-1):=h.last.resolve_left (by omega)
 have hli:=h.li
 have hz:∀j,j<256→j≠L-1→cnt j=0:=by
  intro j hj hne
  by_cases h1:j<L-1
  ·have:¬0<cnt j:=fun h0=>hn ⟨j,h1,h0⟩
   omega
  ·exact h.out j (by omega) hj
 have hs:sF cnt 0 256=cnt (L-1):=sF_single (by omega) (fun j hj hne=>hz j hj hne)
 rw [hs]
 have h1:=h.le (L-1) (by omega)
 rcases h.ex with h4|⟨j,hj,h4⟩
 ·omega
 ·by_cases e:j=L-1
  ·rw [←h4,e]
  ·have:=hz j hj e;omega
section
variable {w:World} {g t:Nat} {s:HU} {col:Nat→Nat} {cnt:Nat→Nat} {K2:Value→PT}
theorem t74_cnt {c11:Array Value} {R9:Int×Int×Int→PT} (hcnt:∀i,i<256→cnt i≤2^18) (hc:∀i,i<256→c11[i]? = some (.int .u32 (cnt i:Nat)))
  (hk:∀m L,CMx cnt 256 m L→R9 (((sF cnt 0 256:Nat):Int),(m:Int),(L:Int)) w):loopP ((0:Int),(0:Int),(0:Int),(0:Int)) (q74_L2 R9 c11) w:=by
 refine ⟨fun x w'=>w'=w∧∃i m L:Nat,x=(((sF cnt 0 i:Nat):Int),(m:Int),(L:Int),(i:Int))∧i≤256∧CMx cnt i m L,fun x _=>256-x.2.2.2.toNat,⟨rfl,0,0,0,rfl,by decide,⟨fun j hj=>absurd hj (Nat.not_lt_zero _),.inl rfl,Nat.le_refl _,fun j _ hj=>absurd hj (Nat.not_lt_zero _),.inl rfl⟩⟩,?_⟩
 rintro x w1 ⟨rfl,i,m,L,rfl,hi,H⟩
 unfold q74_L2
 simp only
 refine cnd_d ?_ ?_
 ·intro hc0
  have hi2:i<256:=by omega
  have hci:=hcnt i hi2
  have hsm:sF cnt 0 i≤i*2^18:=sF_le_mul (fun j hj=>hcnt j (by omega))
  have hm:m≤2^18:=by
   rcases H.ex with h|⟨j,hj,h⟩
   ·omega
   ·have:=hcnt j (by omega);omega
  refine joinP_id ⟨i,rfl,hi2,((cnt i:Nat):Int),hc i hi2,?_⟩
  have ew:IntKind.i64.wrap ((cnt i:Nat):Int)=((cnt i:Nat):Int):=wI64 (by omega) (by omega)
  have fin:∀m':Nat,m'=(if m<cnt i then cnt i else m)→q74_J0 (((sF cnt 0 i:Nat):Int),(m:Int),(L:Int),(i:Int)) (q74_J1 (((sF cnt 0 i:Nat):Int),(m:Int),(L:Int),(i:Int)) (fun s' w'=>(w'=w1∧∃i m L:Nat,s'=(((sF cnt 0 i:Nat):Int),(m:Int),(L:Int),(i:Int))∧i≤256∧CMx cnt i m L)∧256-s'.2.2.2.toNat<256-((i:Nat):Int).toNat)) ((cnt i:Nat):Int) (m':Int) w1:=by
   intro m' hm'
   unfold q74_J0
   simp only
   rw [ew,wI64 (x:=((sF cnt 0 i:Nat):Int)+((cnt i:Nat):Int)) (by omega) (by omega),wU16 (x:=(i:Int)) (by omega) (by omega),wU16 (x:=(i:Int)+1) (by omega) (by omega)]
   have es:((sF cnt 0 i:Nat):Int)+((cnt i:Nat):Int)=((sF cnt 0 (i+1):Nat):Int):=by rw [sF,Nat.zero_add];omega
   have hst:=H.step
   rw [←hm'] at hst
   refine cnd_nd (fun h => ?_) (fun h => ?_)
   ·have h':cnt i≠0:=by omega
    rw [if_pos h'] at hst
    unfold q74_J1
    simp only
    rw [wI64 (x:=(i:Int)+1) (by omega) (by omega),es]
    exact ⟨⟨trivial,i+1,m',i+1,by simp,hi2,hst⟩,by first|omega|(dsimp only;omega)⟩
   ·have h':¬cnt i≠0:=by omega
    rw [if_neg h'] at hst
    unfold q74_J1
    simp only
    rw [wI64 (x:=(i:Int)+1) (by omega) (by omega),es]
    exact ⟨⟨trivial,i+1,m',L,by simp,hi2,hst⟩,by first|omega|(dsimp only;omega)⟩
  refine joinP_id ?_
  rw [ew]
  refine cnd_d (fun h => ?_) (fun h => ?_)
  ·exact fin (cnt i) (by rw [if_pos (by omega)])
  ·exact fin m (by rw [if_neg (by omega)])
 ·intro hc0
  have hi2:i=256:=by omega
  subst hi2
  exact hk m L H
theorem t74_sh {S:Nat} {xb xc:Int} {R24:Int→PT} (hS:S≤2^26) (hk:∀k:Nat,k≤9→SHk S k→R24 (k:Int) w):loopP (0:Int) (q74_L3 (((S:Nat):Int),xb,xc) R24) w:=by
 refine ⟨fun x w'=>w'=w∧∃k:Nat,x=(k:Int)∧k≤9∧∀j,j<k→262143<S/2^j,fun x _=>10-x.toNat,⟨rfl,0,rfl,by decide,fun j hj=>absurd hj (Nat.not_lt_zero _)⟩,?_⟩
 rintro x w1 ⟨rfl,k,rfl,hk9,hj⟩
 unfold q74_L3
 refine ⟨by omega,?_⟩
 simp only
 rw [shrI_nat _ _ _ (by simp only [IntKind.bits];omega)]
 refine cnd_d ?_ ?_
 ·intro hc
  have h2:262143<S/2^k:=by omega
  have hk8:k≠9:=by
   intro e
   subst e
   have:S/2^9≤2^26/2^9:=Nat.div_le_div_right hS
   have e2:(2:Nat)^26/2^9=131072:=by decide
   omega
  rw [wU64 (by omega) (by omega)]
  refine ⟨⟨rfl,k+1,by simp,by omega,?_⟩,by first|omega|(dsimp only;omega)⟩
  intro j hj2
  by_cases e:j=k
  ·subst e;exact h2
  ·exact hj j (by omega)
 ·intro hc
  exact hk k hk9 ⟨by omega,hj⟩
def scF (k i:Nat) (cnt:Nat→Nat):Nat→Int:=fun j=>if j<i then ((scN k (cnt j):Nat):Int) else ((cnt j:Nat):Int)
theorem t74_sc {c30:Array Value} {k:Nat} {rv:Value} {R28:Int×Int→PT} (hk9:k≤9) (hcnt:∀i,i<256→cnt i≤2^18) (hc:∀i,i<256→c30[i]? = some (.int .u32 (cnt i:Nat))) (B:Blk w g ({ s with count:=scF k 0 cnt } : HU).at)
  (hk:∀w' m L,Blk w' g ({ s with count:=scF k 256 cnt } : HU).at→Fm w w' [g]→CMx (fun i=>scN k (cnt i)) 256 m L→R28 (((sF (fun i=>scN k (cnt i)) 0 256:Nat):Int),(m:Int)) w') :
  loopP ((0:Int),(0:Int),(0:Int)) (q74_L7 (some ⟨g,0,none⟩,rv) (k:Int) R28 c30) w:=by
 refine ⟨fun x w'=>∃i m L:Nat,x=(((sF (fun i=>scN k (cnt i)) 0 i:Nat):Int),(m:Int),(i:Int))∧i≤256∧CMx (fun i=>scN k (cnt i)) i m L∧Blk w' g ({ s with count:=scF k i cnt } : HU).at∧Fm w w' [g],fun x _=>256-x.2.2.toNat,⟨0,0,0,rfl,by decide,⟨fun j hj=>absurd hj (Nat.not_lt_zero _),.inl rfl,Nat.le_refl _,fun j _ hj=>absurd hj (Nat.not_lt_zero _),.inl rfl⟩,B,Fm.refl _ _⟩,?_⟩
 rintro x w1 ⟨i,m,L,rfl,hi,H,B1,F1⟩
 have hsc:∀i,i<256→scN k (cnt i)≤2^18+1:=by
  intro i hi
  have h1:=scN_le k (cnt i)
  have h2:=hcnt i hi
  have h3:=Nat.div_le_self (cnt i) (2^k)
  omega
 unfold q74_L7
 simp only
 refine cnd_d ?_ ?_
 ·intro hc0
  have hi2:i<256:=by omega
  have hci:=hcnt i hi2
  have hsi:=hsc i hi2
  have hsm:sF (fun i=>scN k (cnt i)) 0 i≤i*(2^18+1):=sF_le_mul (fun j hj=>hsc j (by omega))
  have hm:m≤2^18+1:=by
   rcases H.ex with h|⟨j,hj,h⟩
   ·omega
   ·have:=hsc j (by omega);omega
  have hst:=H.step
  have es:((sF (fun i=>scN k (cnt i)) 0 i:Nat):Int)+((scN k (cnt i):Nat):Int)=((sF (fun i=>scN k (cnt i)) 0 (i+1):Nat):Int):=by rw [sF,Nat.zero_add];omega
  refine joinP_id ?_
  unfold q74_X6
  refine ⟨i,rfl,hi2,((cnt i:Nat):Int),hc i hi2,?_⟩
  refine cnd_d ?_ ?_
  ·intro h0
   have h0':cnt i=0:=by omega
   have hs0:scN k (cnt i)=0:=by
    have h5:=scN_pos (k:=k) (v:=cnt i)
    have:¬0<scN k (cnt i):=fun h=>by have:=h5.mp h;omega
    omega
   rw [hs0,if_neg (by omega),if_neg (by omega)] at hst
   unfold q74_J5
   simp only
   rw [wI64 (by omega) (by omega)]
   rw [hs0] at es
   refine ⟨⟨i+1,m,L,?_,hi2,hst,B1.congr ?_,F1⟩,by first|omega|(dsimp only;omega)⟩
   ·rw [Prod.mk.injEq,Prod.mk.injEq];exact ⟨by omega,rfl,by omega⟩
   ·have:scF k i cnt=scF k (i+1) cnt:=by
     funext j
     unfold scF
     by_cases e:j=i
     ·subst e;rw [if_neg (by omega),if_pos (by omega),hs0,h0']
     ·by_cases e2:j<i
      ·rw [if_pos e2,if_pos (by omega)]
      ·rw [if_neg e2,if_neg (by omega)]
    rw [this]
  ·intro h0
   have h0':0<cnt i:=by omega
   have hs0:0<scN k (cnt i):=scN_pos.mpr h0'
   refine ⟨by omega,?_⟩
   have hp:2^k≤2^9:=Nat.pow_le_pow_right (by omega) hk9
   have hp1:=Nat.two_pow_pos k
   have e1:shlI .u32 (1:Int) (k:Int)=((2^k:Nat):Int):=by
    have:=shlI_nat .u32 1 k (by simp only [IntKind.bits];omega) (by rw [Nat.one_mul];simp only [IntKind.bits];omega)
    rw [Nat.one_mul] at this
    exact this
   have e2:shrI .u32 (IntKind.wrap .u32 (((cnt i:Nat):Int)+(IntKind.wrap .u32 ((shlI .u32 (1:Int) (k:Int))-(1:Int))))) (k:Int)=((scN k (cnt i):Nat):Int):=by
    rw [e1,show ((2^k:Nat):Int)-1=((2^k-1:Nat):Int) by omega,wU32 (x:=((2^k-1:Nat):Int)) (by omega) (by omega), ←Int.natCast_add,wU32 (by omega) (by omega),shrI_nat _ _ _ (by simp only [IntKind.bits];omega)]
    rfl
   rw [e2]
   have fin:q74_J4 (some ⟨g,0,none⟩,rv) (((sF (fun i=>scN k (cnt i)) 0 i:Nat):Int),(m:Int),(i:Int)) (q74_J5 (((sF (fun i=>scN k (cnt i)) 0 i:Nat):Int),(m:Int),(i:Int)) (fun s' w'=>(∃i m L:Nat,s'=(((sF (fun i=>scN k (cnt i)) 0 i:Nat):Int),(m:Int),(i:Int))∧i≤256∧CMx (fun i=>scN k (cnt i)) i m L∧Blk w' g ({ s with count:=scF k i cnt } : HU).at∧Fm w w' [g])∧256-s'.2.2.toNat<256-((i:Nat):Int).toNat)) ((scN k (cnt i):Nat):Int) w1:=by
    unfold q74_J4
    simp only
    refine ⟨_,rfl,?_⟩
    refine ixA_o rfl hi2 ?_
    rw [Nat.zero_add]
    refine st_u B1 (by rw [HU.count_at _ hi2];rfl) rfl ?_
    intro w2 B2 F2
    have B2':Blk w2 g ({ s with count:=scF k (i+1) cnt } : HU).at:=by
     refine B2.congr ((HU.setC (s := { s with count:=scF k i cnt }) hi2).trans ?_)
     have:updF (scF k i cnt) i ((scN k (cnt i):Nat):Int)=scF k (i+1) cnt:=by
      funext j
      unfold updF scF
      by_cases e:j=i
      ·subst e;rw [if_pos rfl,if_pos (by omega)]
      ·rw [if_neg e]
       by_cases e2:j<i
       ·rw [if_pos e2,if_pos (by omega)]
       ·rw [if_neg e2,if_neg (by omega)]
     show ({ s with count:=updF (scF k i cnt) i ((scN k (cnt i):Nat):Int) } : HU).at=_
     rw [this]
    have F12:Fm w w2 [g]:=F1.trans F2 (fun x hx => .inl hx)
    rw [wI64 (x:=((scN k (cnt i):Nat):Int)) (by omega) (by omega),wI64 (x:=((sF (fun i=>scN k (cnt i)) 0 i:Nat):Int)+((scN k (cnt i):Nat):Int)) (by omega) (by omega),es]
    rw [if_pos (c:=scN k (cnt i)≠0) (by omega)] at hst
    refine cnd_d (fun h => ?_) (fun h => ?_)
    ·rw [if_pos (by omega)] at hst
     unfold q74_J5
     simp only
     rw [wI64 (by omega) (by omega)]
     exact ⟨⟨i+1,_,_,by simp,hi2,hst,B2',F12⟩,by first|omega|(dsimp only;omega)⟩
    ·rw [if_neg (by omega)] at hst
     unfold q74_J5
     simp only
     rw [wI64 (by omega) (by omega)]
     exact ⟨⟨i+1,_,_,by simp,hi2,hst,B2',F12⟩,by first|omega|(dsimp only;omega)⟩
   refine joinP_id ?_
   refine cnd_d (fun h=>absurd h (by omega)) (fun _=>fin)
 ·intro hc0
  have hi2:i=256:=by omega
  subst hi2
  exact hk w1 m L B1 F1 H
structure BR (cnt:Nat→Nat) (L k M:Nat) (ln:Nat→Nat):Prop where
 l2:2≤L
 l256:L≤256
 last:0<cnt (L-1)
 out:∀i,L≤i→i<256→cnt i=0
 two:∃a,a<L-1∧0<cnt a
 sh:SHk (sF cnt 0 256) k
 ht:HT (fun i=>scN k (cnt i)) L M ln
 lr:LenR (fun i=>scN k (cnt i)) L (sF (fun i=>scN k (cnt i)) 0 256) 11 M ln
theorem BR.uniq {cnt ln ln':Nat→Nat} {L L' k k' M M':Nat} (h:BR cnt L k M ln) (h':BR cnt L' k' M' ln'):L=L'∧M=M'∧ln=ln':=by
 have key:∀ {A B kA kB MA MB:Nat} {la lb:Nat→Nat},BR cnt A kA MA la→BR cnt B kB MB lb→B≤A:=by
  intro A B kA kB MA MB la lb hA hB
  refine Classical.byContradiction fun hn => ?_
  have h1:=hA.out (B-1) (by omega) (by have:=hB.l256;have:=hB.l2;omega)
  have:=hB.last
  omega
 have e1:L=L':=by have:=key h h';have:=key h' h;omega
 subst e1
 have e2:=h.sh.uniq h'.sh
 subst e2
 exact ⟨rfl,h.lr.uniq h'.lr⟩
theorem c74 {cb:Nat} (W:HW w g s col) (htl0:s.tl=0) (hpt:s.pt=⟨none,0,0⟩) (C:Blk w cb (arrC .u32 256 fun i=>((cnt i:Nat):Int))) (hcol:¬own (col cb)) (hcnt:∀i,i<256→cnt i≤2^18)
  (hk0:∀w' v,ER w' v→(∀a b,a≠b→a<256→b<256→0<cnt a→0<cnt b→False)→Fm w w' [g]→K2 v w')
  (hk1:∀w' s' col' M ln L k,BR cnt L k M ln→HW w' g s' col'→PTc w' s'.pt M ln L→s'.tl=11→s'.reuse=s.reuse→s'.wll=s.wll→s'.ptl=(M:Nat)→VecU w' s'.out []→GoW w w' col col'→FseC w' s'.fse col'→K2 .nilIface w') :
  callP Tryd.prog 74 #[.pointer (some ⟨g,0,none⟩),.pointer (some ⟨cb,0,none⟩)] [.c .V] K2 w:=by
 have hcg:cb≠g:=fun e=>hcol (by rw [e,W.cg];exact ⟨by decide,by decide⟩)
 have hsum:sF cnt 0 256≤256*2^18:=sF_le_mul (fun j hj=>hcnt j hj)
 apply q74_ok
 unfold q74
 refine ⟨(fun h=>by cases h),fun _=>⟨(fun h=>by cases h),fun _ => ?_⟩⟩
 refine c61 (s1:=⟨none,0,0⟩) (t:=0) W htl0 (by decide) (fun h=>absurd h ?_) ?_
 ·intro h
  rcases h with h|h
  ·exact absurd h (show ¬(262143<0) by decide)
  ·exact h (.inl htl0)
 intro _ w1 s1 col1 P R hc1 F1
 refine ⟨rfl,nil_cnd ?_⟩
 have htl1:s1.tl=((11:Nat):Int):=by
  rcases R.tl with h|h
  ·obtain ⟨t',h1,h2,_⟩:=P.tlP;omega
  ·exact h.2
 have C1:=C.fr F1 (nm1 hcg)
 refine ⟨_,rfl,?_⟩
 refine ldA_b C1 (fun i hi=>by rw [arrC_get hi];rfl) ?_
 intro c7 hs7 h7
 have h7':∀i,i<256→c7[i]? = some (.int .u32 ((cnt i:Nat):Int)):=fun i hi=>by rw [h7 i hi,arrC_get hi]
 refine ⟨_,rfl,?_⟩
 refine stA_b P.blk (fun i hi=>by rw [HU.count_at _ hi];rfl) hs7 (fun i v hi hv=>by rw [h7' i hi] at hv;injection hv with hv;rw [←hv];rfl) ?_
 intro w2 B2 F2
 have B2':Blk w2 g ({ s1 with count:=fun i=>((cnt i:Nat):Int) } : HU).at:=by
  refine B2.congr ?_
  funext i
  unfold HU.at
  by_cases hi:i<256
  ·rw [if_pos hi,if_pos hi,h7' i hi]
  ·rw [if_neg hi,if_neg hi,if_neg hi];rfl
 refine joinP_id ⟨_,rfl,?_⟩
 refine ldA_b B2' (fun i hi=>by rw [HU.count_at _ hi];rfl) ?_
 intro c11 hs11 h11
 refine t74_cnt hcnt (fun i hi=>by rw [h11 i hi,HU.count_at _ hi]) ?_
 intro m L H
 have hown:∀v ∈ [g],v<w.heap.size→own (col v):=by intro v hv _;simp at hv;subst hv;rw [W.cg];exact ⟨by decide,by decide⟩
 have G1:GoW w w1 col col1:=GoW.of F1 hown hc1
 have hcg1:col1 g=1:=P.cg
 have hown1:∀v ∈ [g],v<w1.heap.size→own (col1 v):=by intro v hv _;simp at hv;subst hv;rw [hcg1];exact ⟨by decide,by decide⟩
 have F02:Fm w w2 [g]:=F1.trans F2 (fun x hx => .inl hx)
 unfold q74_J12
 simp only
 have n9:∀v ∈ [g],9≤v:=by intro v hv;simp at hv;rw [hv];exact W.g9
 have er1:∀ {w3:World} (F3:Fm w w3 [g]) (hn:∀a b,a≠b→a<256→b<256→0<cnt a→0<cnt b→False),(ld .V ⟨1,0,none⟩ fun (v22:Value)=>K2 v22) w3:=by
  intro w3 F3 hn
  obtain ⟨v,h1,h2,h3⟩:=(W.er 1 (by decide)).fm F3 (fun h=>by have:=n9 1 h;omega)
  exact ⟨v,h1,hk0 w3 v (.inl ⟨⟨1,by decide,h1⟩,h2⟩) hn F3⟩
 refine cnd_d (fun h0 => ?_) (fun h0=>cnd_d (fun hL => ?_) (fun hL=>cnd_d (fun hmS => ?_) (fun hmS => ?_)))
 ·refine c62e ?_
  intro w3 v F3 hv _
  refine hk0 w3 v hv ?_ (F02.trans F3 (by simp))
  intro a b hab ha hb ha0 hb0
  have:=(H.two hab ha hb ha0 hb0).2
  omega
 ·exact er1 F02 (fun a b hab ha hb ha0 hb0=>by have:=(H.two hab ha hb ha0 hb0).1;omega)
 ·exact er1 F02 (fun a b hab ha hb ha0 hb0=>by have:=(H.two hab ha hb ha0 hb0).2;omega)
 have hL2:2≤L:=by omega
 have hL256:L≤256:=H.li
 have hmS':m≠sF cnt 0 256:=by omega
 obtain ⟨a0,ha0,ha0p⟩:=H.ab hL2 hmS'
 have hlast:0<cnt (L-1):=H.last.resolve_left (by omega)
 have fin:∀(k m2:Nat) (w3:World) (c':Nat→Int),SHk (sF cnt 0 256) k→k≤9→(∀i,i<256→c' i=((scN k (cnt i):Nat):Int))→Fm w1 w3 [g]→Blk w3 g ({ s1 with count:=c' } : HU).at→q74_J11 K2 (some ⟨g,0,none⟩,.nilIface) (((sF cnt 0 256:Nat):Int),(m:Int),(L:Int)) (((sF (fun i=>scN k (cnt i)) 0 256:Nat):Int),(m2:Int)) w3:=by
  intro k m2 w3 c' hS hk9 hc' F3 B3
  have hs1:=scN_sum cnt k 256
  have hS1:=hS.1
  have hle:=sF_mono_n (fun i=>scN k (cnt i)) hL256
  have hltc:∀i,i<256→scN k (cnt i)<2^18:=by
   intro i hi
   by_cases e:k=0
   ·subst e
    rw [scN_zero]
    have h1:=sF_mem cnt 0 (n:=256) (i:=i) (Nat.zero_le _) (by omega)
    rw [Nat.pow_zero,Nat.div_one] at hS1
    omega
   ·have h1:=scN_le k (cnt i)
    have h2:=hcnt i hi
    have h3:2^1≤2^k:=Nat.pow_le_pow_right (by omega) (by omega)
    have h4:cnt i/2^k≤cnt i/2^1:=Nat.div_le_div_left h3 (by decide)
    omega
  refine t74 (cnt:=fun i=>scN k (cnt i)) (t:=11) P (by rw [R.pt];exact hpt) F3 B3 hc' hL2 hL256 (fun i hi=>hltc i (by omega)) ⟨a0,L-1,by omega,by omega,by omega,scN_pos.mpr ha0p,scN_pos.mpr hlast⟩ hle (by omega) (by omega) htl1 (Nat.le_refl _) ?_
  intro w4 s4 col4 M ln hHT hLR W4 P4 t4 r4 l4 p4 o4 G4 f4
  have G13:GoW w1 w3 col1 col1:=GoW.of F3 hown1 (fun _ _=>rfl)
  refine hk1 w4 s4 col4 M ln L k ⟨hL2,hL256,hlast,fun i h1 h2=>H.out i h1 h2,⟨a0,ha0,ha0p⟩,hS,hHT,hLR⟩ W4 P4 (t4.trans htl1) (r4.trans R.reuse) (l4.trans R.wll) p4 o4 ((G1.trans G13).trans G4) f4
 refine joinP_id ?_
 refine cnd_d (fun hbig => ?_) (fun hsm => ?_)
 ·refine joinP_id ?_
  refine t74_sh (by omega) ?_
  intro k hk9 hS
  unfold q74_J9
  refine ⟨by omega,joinP_id ⟨_,rfl,?_⟩⟩
  have B2s:Blk w2 g ({ s1 with count:=scF k 0 cnt } : HU).at:=by
   refine B2'.congr ?_
   have:scF k 0 cnt=fun i=>((cnt i:Nat):Int):=by funext i;unfold scF;rw [if_neg (by omega)]
   rw [this]
  refine ldA_b B2' (fun i hi=>by rw [HU.count_at _ hi];rfl) ?_
  intro c30 hs30 h30
  refine t74_sc hk9 hcnt (fun i hi=>by rw [h30 i hi,HU.count_at _ hi]) B2s ?_
  intro w3 m3 L3 B3 F3 H3
  unfold q74_J8
  simp only
  refine cnd_d (fun he => ?_) (fun he => ?_)
  ·exact er1 (F02.trans F3 (fun x hx => .inl hx)) (fun a b hab ha hb ha0 hb0=>by have:=(H3.two hab ha hb (scN_pos.mpr ha0) (scN_pos.mpr hb0)).2;omega)
  ·exact fin k m3 w3 _ hS hk9 (fun i hi=>by unfold scF;rw [if_pos hi]) (F2.trans F3 (fun x hx => .inl hx)) B3
 ·have hS0:SHk (sF cnt 0 256) 0:=⟨by rw [Nat.pow_zero,Nat.div_one];omega,fun j hj=>absurd hj (Nat.not_lt_zero _)⟩
  have e0:(fun i=>scN 0 (cnt i))=cnt:=by funext i;exact scN_zero _
  have:=fin 0 m w2 _ hS0 (by decide) (fun i hi=>by rw [scN_zero]) F2 B2'
  rw [e0] at this
  exact this
end
theorem fm_new {w w1 w2:World} {col:Nat→Nat} (F1:Fm w w1 []) (hold:∀v,v<w.heap.size→¬own (col v)) (h:∃S,Fm w1 w2 S∧∀v∈S,v<w1.heap.size→own (col v)):Fm w w2 []:=by
 obtain ⟨S,F,hS⟩:=h
 refine F1.trans F ?_
 intro v hv
 right
 have hs:=F1.size
 rcases Nat.lt_or_ge v w.heap.size with h1|h1
 ·exact absurd (hS v hv (by omega)) (hold v h1)
 ·exact h1
section
variable {w:World} {g L M:Nat} {s:HU} {col:Nat→Nat} {cnt ln:Nat→Nat}
theorem c46 {K2:Sl×Value→PT} (W:HW w g s col) (hP:PTc w s.pt M ln L) (hptl:s.ptl=(M:Nat)) (h2:2≤L) (hO:VecU w s.out []) (hF:FseC w s.fse col)
  (hk0:129<L→∀w' v,EG w' v→w'.cell? ⟨0,0,none⟩=some v→(∃S,Fm w w' S∧∀v∈S,v<w.heap.size→own (col v))→K2 (⟨none,0,0⟩,v) w')
  (hk1:∀w' o tbl,By tbl→tbl.length≤129→weightsZ tbl=some (wtL M ln L,tbl.length)→VecU w' o tbl→(∃S,Fm w w' S∧∀v∈S,v<w.heap.size→own (col v))→K2 (o,.nilIface) w') :
  callP Tryd.prog 46 #[.pointer (some ⟨g,0,none⟩),.slice none 0 0] [.c .S,.c .V] K2 w:=by
 obtain ⟨qb,pc,Q,cnt',e1,h256,HQ',hQ,HTc,hL256,hL0⟩:=hP
 obtain ⟨fb,fs,hfse,SWf,hfc⟩:=hF
 have hol:=hO.len
 have hout:(⟨s.out.a,0,s.out.c⟩:Sl)=s.out:=by
  have:s.out.l=0:=hol
  cases h:s.out with
  | mk a l c=>rw [h] at this;simp only at this;rw [this]
 have o2:=W.out.co
 have cqb:col qb=5:=W.pt.co qb (by rw [e1];simp [Sl.bs])
 apply q46_ok (p0:=⟨g,0,none⟩) (s1:=⟨none,0,0⟩)
 unfold q46
 simp only [add_mk,Nat.zero_add]
 refine ⟨(fun h=>by cases h),fun _ => ?_⟩
 refine ld_b (t := .S) (x:=⟨some ⟨qb,0,none⟩,L,pc⟩) W.blk (by show some s.pt.val=_;rw [e1];rfl) (cnd_d (fun h=>absurd h (by simp only;omega)) (fun _ => ?_))
 refine ld_b (t := .S) (x:=s.out) W.blk rfl ?_
 refine ld_b (t := .I .u8) (x:=s.atl) W.blk rfl ?_
 refine ld_b (t := .I .u16) (x:=s.symL) W.blk rfl ?_
 refine joinP_id ?_
 refine ld_b (t := .P) (x:=some ⟨fb,0,none⟩) W.blk (by show some (Value.pointer s.fse)=_;rw [hfse];rfl) ⟨(fun h=>by cases h),fun _ => ?_⟩
 unfold q46_J0
 simp only [add_mk,Nat.zero_add]
 refine ld_b (t := .S) (x:=s.out) W.blk rfl ?_
 refine slc_hi (m:=0) rfl (Nat.zero_le _) ?_
 refine st_u W.blk rfl rfl ?_
 intro w1 B1 F1
 have B1':Blk w1 g s.at:=by
  refine B1.congr ?_
  rw [hout]
  exact HU.setT (s:=s) (s':=s) 0 rfl rfl rfl (by decide)
 refine ld_b (t := .I .u8) (x:=((M:Nat):Int)) B1' (by show some (Value.int .u8 s.ptl)=_;rw [hptl];rfl) ?_
 refine st_u B1' rfl rfl ?_
 intro w2 B2 F2
 have B2':=B2.congr (HU.setT (s' := { s with atl:=((M:Nat):Int) }) 12 rfl rfl rfl (by decide))
 refine ld_b (t := .S) (x:=⟨some ⟨qb,0,none⟩,L,pc⟩) B2' (by show some s.pt.val=_;rw [e1];rfl) ?_
 have eL:IntKind.u16.wrap ((L:Nat):Int)=((L:Nat):Int):=wU16 (by omega) (by omega)
 dsimp only
 rw [eL]
 refine st_u B2' rfl rfl ?_
 intro w3 B3 F3
 have B3':=B3.congr (HU.setT (s' := { s with atl:=((M:Nat):Int),symL:=((L:Nat):Int) }) 9 rfl rfl rfl (by decide))
 refine ld_b (t := .S) (x:=⟨some ⟨qb,0,none⟩,L,pc⟩) B3' (by show some s.pt.val=_;rw [e1];rfl) ?_
 have F03:Fm w w3 [g]:=(F1.trans F2 (fun x hx => .inl hx)).trans F3 (fun x hx => .inl hx)
 have dgo:g∉s.out.bs:=fun h=>by have:=o2 g h;rw [W.cg] at this;cases this
 have dgf:g∉SB fb fs:=fun h=>by have:=hfc g h;rw [W.cg] at this;cases this
 have dof:∀v∈s.out.bs,v∉SB fb fs:=fun v hv h=>by have:=hfc v h;rw [o2 v hv] at this;cases this
 have dgq:g≠qb:=fun e=>by rw [←e,W.cg] at cqb;cases cqb
 have n9:∀v ∈ [g],9≤v:=by intro v hv;simp at hv;rw [hv];exact W.g9
 have ng:∀v,v≠g→v ∉ [g]:=fun v h=>nm1 h
 have hown:∀v∈g::(s.out.bs++SB fb fs),v<w.heap.size→own (col v):=by
  intro v hv _
  rcases List.mem_cons.mp hv with h|h
  ·rw [h,W.cg];exact ⟨by decide,by decide⟩
  ·rcases List.mem_append.mp h with h|h
   ·rw [o2 v h];exact ⟨by decide,by decide⟩
   ·rw [hfc v h];exact ⟨by decide,by decide⟩
 refine c65 (M:=M) (L:=L) (ln:=ln) (pre := []) (tb:=qb) B3' rfl h2 hL256 rfl HTc.m1 HTc.m11 hfse (SWf.mv F03 (fun v hv=>nm1 (fun e=>dgf (e▸hv)))) (W.gl.fm F03 n9) ((W.er 0 (by decide)).fm F03 (fun h=>by have:=n9 0 h;omega)) (fun v hv=>W.nine (by rw [hfc v hv];decide)) W.g9
  (hO.fr F03 (fun v hv=>nm1 (fun e=>dgo (e▸hv)))) (fun v hv=>W.nine (by rw [o2 v hv];decide)) (by simp) (HQ'.fr F03 (nm1 dgq.symm)) (fun i hi=>(hQ i hi).2) HTc.le dgo dgf dof dgq (fun h=>by have:=o2 qb h;rw [cqb] at this;cases this) (fun h=>by have:=hfc qb h;rw [cqb] at this;cases this) ?_ ?_
 ·intro h129 w4 fs4 hw4 v hv hv0 B4 HO4 T4
  refine ⟨isPE.ifc hv.2,err_cnd (isPE.nil hv.2) ?_⟩
  refine st_u B4 rfl rfl ?_
  intro w5 B5 F5
  have B5':=B5.congr (HU.setT (s' := { s with atl:=((M:Nat):Int),symL:=((L:Nat):Int),hw:=hw4 }) 0 rfl rfl rfl (by decide))
  refine st_u B5' rfl rfl ?_
  intro w6 B6 F6
  have B6':=B6.congr (HU.setT (s' := { s with symL:=((L:Nat):Int),hw:=hw4 }) 12 rfl rfl rfl (by decide))
  refine st_u B6' rfl rfl ?_
  intro w7 B7 F7
  have F47:Fm w4 w7 [g]:=(F5.trans F6 (fun x hx => .inl hx)).trans F7 (fun x hx => .inl hx)
  have h0l:=World.block_lt_of_cell? _ _ hv0
  refine hk0 h129.2 w7 v (hv.fm F47 n9) ?_ ⟨g::(s.out.bs++SB fb fs),?_,hown⟩
  ·rw [←hv0];exact cell?_of_heap (F47.old 0 h0l (fun h=>by have:=n9 0 h;omega)) _ _
  ·exact ((F03.mono (S':=g::(s.out.bs++SB fb fs)) (by intro v hv;left;simp at hv;simp [hv])).trans T4.fr (fun x hx => .inl hx)).trans F47 (by intro v hv;left;simp at hv;simp [hv])
 ·intro w4 fs4 hw4 o tbl _ hby hl129 hwt HO4 B4 T4
  refine ⟨rfl,nil_cnd ?_⟩
  have HO4:VecU w4 o tbl:=HO4
  have hol4:=HO4.len
  refine ld_b (t := .S) (x:=o) B4 rfl ?_
  refine app_vu (xs:=tbl) VecU.nil HO4.vec.arr.has (by simp only;omega) ?_
  intro s5 w5 V5 F5 n5
  have V5:VecU w5 s5 tbl:=V5
  have hgl:=B4.lt
  have B5:=B4.fr F5 (by simp [Sl.bs])
  have hs5:g∉s5.bs:=fun h=>by
   rcases n5 g h with h1|h1
   ·simp [Sl.bs] at h1
   ·omega
  refine st_u B5 rfl rfl ?_
  intro w6 B6 F6
  have B6':=B6.congr (HU.setT (s' := { s with atl:=((M:Nat):Int),symL:=((L:Nat):Int),hw:=hw4 }) 0 rfl rfl rfl (by decide))
  refine st_u B6' rfl rfl ?_
  intro w7 B7 F7
  have B7':=B7.congr (HU.setT (s' := { s with symL:=((L:Nat):Int),hw:=hw4 }) 12 rfl rfl rfl (by decide))
  refine st_u B7' rfl rfl ?_
  intro w8 B8 F8
  have F58:Fm w5 w8 [g]:=(F6.trans F7 (fun x hx => .inl hx)).trans F8 (fun x hx => .inl hx)
  refine hk1 w8 s5 tbl hby hl129 hwt (V5.fr F58 (fun v hv=>nm1 (fun e=>hs5 (e▸hv)))) ⟨g::(s.out.bs++SB fb fs),?_,hown⟩
  exact (((F03.mono (S':=g::(s.out.bs++SB fb fs)) (by intro v hv;left;simp at hv;simp [hv])).trans T4.fr (fun x hx => .inl hx)).trans F5 (by simp [Sl.bs])).trans F58 (by intro v hv;left;simp at hv;simp [hv])
end
section
variable {w:World} {b:Nat} {cnt:Nat→Nat}
theorem c56 {K1:Option Addr×Value→PT} (G:GE w) (C:Blk w b (arrC .u32 256 fun i=>((cnt i:Nat):Int))) (hcnt:∀i,i<256→cnt i≤2^18)
  (hk0:∀w' p v,ER w' v→(∀a b,a≠b→a<256→b<256→0<cnt a→0<cnt b→False)→Fm w w' []→K1 (p,v) w')
  (hk1:∀w' g s' col' M ln L k,BR cnt L k M ln→HW w' g s' col'→PTc w' s'.pt M ln L→s'.tl=11→s'.reuse=0→s'.wll=0→s'.ptl=(M:Nat)→VecU w' s'.out []→FseC w' s'.fse col'→(∀v,v<w.heap.size→¬own (col' v))→Fm w w' []→K1 (some ⟨g,0,none⟩,.nilIface) w') :
  callP Tryd.prog 56 #[.slice (some ⟨b,0,none⟩) 256 256] [.c .P,.c .V] K1 w:=by
 have hbl:=C.lt
 apply q56_ok (s0:=⟨some ⟨b,0,none⟩,256,256⟩)
 unfold q56
 refine nw_n ?_
 intro w1 F1 hs1 B1
 have hb1:b≠w.heap.size:=by omega
 have C1:=C.fr F1 (by simp)
 refine slcA_all (by decide) ?_
 refine cpy_b (n:=256) B1 C1 rfl (fun i hi=>⟨_,arrC_get (by omega),rfl⟩) (fun i hi=>by rw [arrC_get (by omega)];rfl) ?_
 intro w2 B2 F2
 have B2':Blk w2 w.heap.size (arrC .u32 256 fun i=>((cnt i:Nat):Int)):=by
  refine B2.congr ?_
  funext i
  by_cases hi:i<256*1
  ·rw [if_pos hi]
  ·rw [if_neg hi];unfold arrC;rw [if_neg (by omega),if_neg (by omega)]
 have F02:Fm w w2 []:=F1.trans F2 (by intro v hv;right;simp at hv;omega)
 unfold nwA
 have F3:Fm w2 (w2.alloc (.cells ⟨z94⟩ 94)) []:=(Fm.refl w2 []).alloc
 have B3:=(Blk.new (w:=w2) (cs:=⟨z94⟩) (T:=94)).congr HU.atZ
 have hs3:(w2.alloc (.cells ⟨z94⟩ 94)).heap.size=w2.heap.size+1:=World.size_alloc _ _
 have hsz2:=F02.size
 have hcl:=B2'.lt
 generalize w2.alloc (.cells ⟨z94⟩ 94)=w3 at *
 have W3:HW w3 w2.heap.size HU.zero (colF w2.heap.size):=HW.fresh (G.fm F02) F3 B3 rfl rfl rfl rfl rfl rfl (fun _ _=>rfl)
 have F03:Fm w w3 []:=F02.trans F3 (by simp)
 refine c74 (cb:=w.heap.size) W3 rfl rfl (B2'.fr F3 (by simp)) (colF_far (by omega)) hcnt ?_ ?_
 ·intro w4 v hv hn F4
  exact hk0 w4 _ v hv hn (F03.trans F4 (by intro v hv;right;simp at hv;omega))
 ·intro w4 s4 col4 M ln L k hB W4 P4 t4 r4 l4 p4 o4 G4 f4
  refine hk1 w4 _ s4 col4 M ln L k hB W4 P4 t4 r4 l4 p4 o4 f4 ?_ (fm_new F03 (col:=colF w2.heap.size) (fun v hv h=>by have:=colF_own h;omega) G4.fr)
  intro v hv
  rw [G4.old v (by omega) (colF_far (by omega))]
  exact colF_far (by omega)
theorem c39 {K1:Sl×Int→PT} (G:GE w) (C:Blk w b (arrC .u32 256 fun i=>((cnt i:Nat):Int))) (hcnt:∀i,i<256→cnt i≤2^18)
  (hk0:∀w' k,1≤k→k≤4→((∃a b,a≠b∧a<256∧b<256∧0<cnt a∧0<cnt b)→k=1∧∃i,128<i∧i<256∧0<cnt i)→Fm w w' []→K1 (⟨none,0,0⟩,k) w')
  (hk1:∀w' T M ln L k tbl,BR cnt L k M ln→By tbl→tbl.length≤129→weightsZ tbl=some (wtL M ln L,tbl.length)→VecU w' T tbl→Fm w w' []→K1 (T,0) w') :
  callP Tryd.prog 39 #[.slice (some ⟨b,0,none⟩) 256 256] [.c .S,.c (.I .i64)] K1 w:=by
 apply q39_ok (s0:=⟨some ⟨b,0,none⟩,256,256⟩)
 unfold q39
 refine c56 G C hcnt ?_ ?_
 ·intro w1 p v hv hn F1
  refine ⟨isPE.ifc hv.pe,err_cnd (isPE.nil hv.pe) ?_⟩
  refine c51 (G.fm F1) hv (fun k h1 h2 _=>hk0 w1 k h1 h2 ?_ F1)
  rintro ⟨x,y,hxy,hx,hy,hx0,hy0⟩
  exact absurd (hn x y hxy hx hy hx0 hy0) id
 ·intro w1 g s1 col1 M ln L k hB W1 P1 t1 r1 l1 p1 o1 f1 hold F1
  refine ⟨rfl,nil_cnd ?_⟩
  refine c46 W1 P1 p1 hB.l2 o1 f1 ?_ ?_
  ·intro h129 w2 v hv hv0 hF
   have F2:=fm_new F1 hold hF
   refine ⟨isPE.ifc hv.2,err_cnd (isPE.nil hv.2) ?_⟩
   refine c51 (G.fm F2) (.inl hv) (fun k h1 h2 h3=>hk0 w2 k h1 h2 (fun _=>⟨h3 hv0,L-1,by omega,by have:=hB.l256;omega,hB.last⟩) F2)
  ·intro w2 o tbl hby hl hwt V2 hF
   have F2:=fm_new F1 hold hF
   refine ⟨rfl,nil_cnd ?_⟩
   refine c47 V2.vec.arr (by omega) ?_
   intro w3 r3 V3 F3 n3
   exact hk1 w3 r3 M ln L k tbl hB hby hl hwt V3 (F2.trans F3 (by simp))
theorem c41 {K3:Sl×Int→PT} {s1:Sl} {xs:List Nat} (G:GE w) (C:Blk w b (arrC .u32 256 fun i=>((cnt i:Nat):Int))) (hcnt:∀i,i<256→cnt i≤2^18) (A:Arr .u8 w s1 xs) (hby:By xs) (hle:xs.length≤2^18)
  (hk0:∀w' k,1≤k→k≤4→Fm w w' []→K3 (⟨none,0,0⟩,k) w')
  (hk1:∀w' o M ln L k ol,BR cnt L k M ln→EncT (vC ln L M) ln xs ol→(∀x∈xs,x<L∧0<ln x)→ol.length<xs.length→VecU w' o ol→Fm w w' []→K3 (o,0) w') :
  callP Tryd.prog 41 #[.slice (some ⟨b,0,none⟩) 256 256,.slice s1.a s1.l s1.c,.bool false] [.c .S,.c (.I .i64)] K3 w:=by
 apply q41_ok (s0:=⟨some ⟨b,0,none⟩,256,256⟩)
 unfold q41
 refine c56 G C hcnt ?_ ?_
 ·intro w1 p v hv hn F1
  refine ⟨isPE.ifc hv.pe,err_cnd (isPE.nil hv.pe) ?_⟩
  exact c51 (G.fm F1) hv (fun k h1 h2 _=>hk0 w1 k h1 h2 F1)
 ·intro w1 g s2 col1 M ln L k hB W1 P1 t1 r1 l1 p1 o1 f1 hold F1
  refine ⟨rfl,nil_cnd ⟨_,rfl,?_⟩⟩
  simp only [add_mk,Nat.zero_add]
  refine st_u W1.blk rfl rfl ?_
  intro w2 B2 F2
  have B2':=B2.congr (HU.setT (s' := { s2 with reuse:=3 }) 7 rfl rfl rfl (by decide))
  have W2:=W1.same (s' := { s2 with reuse:=3 }) B2' F2 rfl rfl rfl rfl rfl W1.mx W1.cz
  have hown:∀v ∈ [g],v<w1.heap.size→own (col1 v):=by intro v hv _;simp at hv;subst hv;rw [W1.cg];exact ⟨by decide,by decide⟩
  have G2:GoW w1 w2 col1 col1:=GoW.of F2 hown (fun _ _=>rfl)
  have far1:∀a,s1.a=some a→xs ≠ []→¬own (col1 a.block):=fun a ha hx=>hold _ (A.old hx a ha)
  have A1:=A.fr F1 (by simp)
  have A2:=G2.arr A1 far1
  have kg:=W1.keepG (r:=5) (by decide)
  have P2:PTc w2 s2.pt M ln L:=P1.mv F2 (fun v hv=>kg.out (W1.pt.co v hv) (W1.pt.own.lt v hv))
  refine c50 (b:=false) (t:=11) (M0:=M) (ln0:=ln) (L0:=L) (s := { s2 with reuse:=3 }) W2 (by show s2.tl=_;rw [t1];rfl) (by decide) l1 A2 hby hle far1 (.inr P2) ⟨?_,?_,?_⟩
  ·intro w3 s3 col3 v hv _ _ W3 _ S3 G3
   have F3:=fm_new F1 hold (G2.trans G3).fr
   refine ⟨isPE.ifc hv.pe,err_cnd (isPE.nil hv.pe) ?_⟩
   exact c51 (G.fm F3) hv (fun k h1 h2 _=>hk0 w3 k h1 h2 F3)
  ·intro w3 s3 col3 so ol _ hEn hx hlt hso V3 W3 P3 _ S3 G3
   have F3:=fm_new F1 hold (G2.trans G3).fr
   have hEn:EncT (vC ln L M) ln xs ol:=hEn
   refine ⟨rfl,nil_cnd ?_⟩
   refine c47 V3.vec.arr (by omega) ?_
   intro w4 r4 V4 F4 n4
   exact hk1 w4 r4 M ln L k ol hB hEn hx hlt V4 (F3.trans F4 (by simp))
  ·intro w3 s3 col3 so M' ln' L' tbl ol hr
   exact absurd rfl hr
end
end Go.Sx
