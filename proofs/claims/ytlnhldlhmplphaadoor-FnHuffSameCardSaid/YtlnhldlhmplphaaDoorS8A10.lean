/- Lemmas for the proof: H43 H44 H45 H46 H47 H48 H49 Z3 ZW H50 H51 H54 H55 H56 H57. No conditions. -/
import Derived.Test.YtlnhldlhmplphaaDoorS8A09
set_option linter.unusedVariables false
set_option linter.unusedSimpArgs false
namespace Go.Sx
open Go Go.Proofs
set_option maxRecDepth 4000
structure SK (s s':HU):Prop where
 reuse:s'.reuse=s.reuse
 wll:s'.wll=s.wll
 tl:s'.tl=s.tl
theorem SK.refl (s:HU):SK s s:=⟨rfl,rfl,rfl⟩
theorem VecU.nil {w:World} : VecU w ⟨none,0,0⟩ []:=⟨Vec.nil,(by intro a h;cases h),by decide⟩
theorem Held.arr {w:World} {a:Option Addr} {c:Nat} {l:List Nat} {o:Sl} (h:Held w o.a l) (v:∃w0,VecU w0 o l):Arr .u8 w o l:=by
 obtain ⟨w0,hv⟩:=v
 refine ⟨hv.len,hv.vec.cap,?_,?_⟩
 ·intro e
  have h1:=hv.vec.non e
  have h2:=hv.vec.cap
  have h3:=hv.len
  exact List.length_eq_zero_iff.mp (by omega)
 ·intro b hb i hi
  obtain ⟨h1,h2,_⟩:=hv.vec.blk b hb
  have h3:=h b hb i hi
  obtain ⟨bb,bo,bs⟩:=b
  simp only at h1 h2
  subst h1 h2
  rw [add_mk,Nat.zero_add]
  exact h3
section
variable {w w':World} {g n L:Nat} {s s':HU} {col:Nat→Nat} {cnt:Nat→Nat} {pre pre':List Nat} {so:Sl}
theorem HQ.comp (Q:HQ w g s col n cnt L pre) (F:Fm w w' (g::s.out.bs)) (hn:∀v∈so.bs,v∈s.out.bs∨w.heap.size≤v) (hv:VecU w' so pre') (B:Blk w' g ({ s with out:=so } : HU).at) :
  HQ w' g { s with out:=so } (colN w.heap.size 2 col) n cnt L pre'∧Mv w w' col (colN w.heap.size 2 col) (g::s.out.bs):=by
 have M:Mv w w' col (colN w.heap.size 2 col) (g::s.out.bs):=by
  refine ⟨F,?_,fun v hv=>colN_old hv⟩
  intro v hv _
  rcases List.mem_cons.mp hv with h|h
  ·rw [h];exact Q.ownG
  ·rw [Q.out2 v h];exact ⟨by decide,by decide⟩
 have hk:∀r,r≠1→r≠2→∀v∈g::s.out.bs,v<w.heap.size→col v≠r:=by
  intro r h1 h2 v hv _ e
  rcases List.mem_cons.mp hv with h|h
  ·rw [h,Q.cg] at e;exact h1 e.symm
  ·rw [Q.out2 v h] at e;exact h2 e.symm
 refine ⟨Q.mv M B hv ?_ (Q.nodP.mv F (M.keep (hk 3 (by decide) (by decide)))) (Q.fseP.mv F (M.keep (hk 6 (by decide) (by decide)))) (Q.ct.mv F (M.keep (hk 4 (by decide) (by decide)))) (hk 5 (by decide) (by decide)) rfl rfl rfl rfl rfl rfl rfl rfl,M⟩
 intro v hv
 rcases hn v hv with h|h
 ·exact (colN_old (Q.oP.lt v h)).trans (Q.out2 v h)
 ·exact colN_new h
theorem HQ.ctO {M1 L1:Nat} {ln:Nat→Nat} (Q:HQ w g s col n cnt L pre) (F:Fm w w' (g::s.out.bs)) (h:PTc w s.ct M1 ln L1):PTc w' s.ct M1 ln L1:=by
 refine h.mv F ?_
 intro v hv hm
 have h4:=Q.ct.co v hv
 rcases List.mem_cons.mp hm with h|h
 ·rw [h,Q.cg] at h4;cases h4
 ·rw [Q.out2 v h] at h4;cases h4
theorem HQ.ptO {M1 L1:Nat} {ln:Nat→Nat} (Q:HQ w g s col n cnt L pre) (F:Fm w w' (g::s.out.bs)) (h:PTc w s.pt M1 ln L1):PTc w' s.pt M1 ln L1:=by
 refine h.mv F ?_
 intro v hv hm
 have h4:=Q.pt.co v hv
 rcases List.mem_cons.mp hm with h|h
 ·rw [h,Q.cg] at h4;cases h4
 ·rw [Q.out2 v h] at h4;cases h4
theorem HQ.hw (Q:HQ w g s col n cnt L pre):HW w g s col:=Q.toHW
theorem HQ.swap {M1 L1:Nat} {ln:Nat→Nat} (Q:HQ w g s col n cnt L pre) (h:PTc w s.ct M1 ln L1) (F:Fm w w' [g]) (B:Blk w' g s'.at) (ho:s'.out=s.out) (hn:s'.nodes=s.nodes) (hf:s'.fse=s.fse) (hct:s'.ct=⟨s.pt.a,0,s.pt.c⟩) (hpt:s'.pt=s.ct) (hcc:s'.cc=s.cc) (hmx:s'.maxC=s.maxC) :
  HW w' g s' (fun v=>if col v=4 then 5 else if col v=5 then 4 else col v)∧PTc w' s'.pt M1 ln L1:=by
 have hP:=Q.ctG F h
 have k:∀r,r≠4→r≠5→∀v,col v=r→(if col v=4 then 5 else if col v=5 then 4 else col v)=r:=by
  intro r h1 h2 v e
  rw [e,if_neg h1,if_neg h2]
 have ob:=Q.out.mv F (Q.keepG (by decide))
 have nb:=Q.nodP.mv F (Q.keepG (by decide))
 have fb:=Q.fseP.mv F (Q.keepG (by decide))
 have cb:=Q.ct.mv F (Q.keepG (by decide))
 have pb:=Q.pt.mv F (Q.keepG (by decide))
 have n9:∀v ∈ [g],9≤v:=by intro v hv;simp at hv;subst hv;exact Q.g9
 refine ⟨⟨B,k 1 (by decide) (by decide) g Q.cg,fun v hv=>k 0 (by decide) (by decide) v (Q.low v hv),?_,.inr ?_,?_,?_,.inr ⟨M1,ln,L1,by rw [hpt];exact hP⟩,.inr ?_,Q.gl.fm F n9,fun i hi=>(Q.er i hi).fm F (fun h=>by have:=n9 i h;omega),hmx.trans Q.mx,.inl (hcc.trans Q.ccT)⟩,by rw [hpt];exact hP⟩
 ·rw [ho];exact ⟨ob.ex,fun v hv=>k 2 (by decide) (by decide) v (ob.co v hv)⟩
 ·rw [hn]
  obtain ⟨b,l,cap,Fn,h1,h2,h3,h4⟩:=nb
  exact ⟨b,l,cap,Fn,h1,h2,k 3 (by decide) (by decide) b h3,h4⟩
 ·rw [hct]
  refine ⟨?_,?_⟩
  ·obtain ⟨h1,h2,h3⟩:=pb.own
   exact ⟨Nat.zero_le _,h2,h3⟩
  ·intro v hv
   have h5:=pb.co v hv
   rw [if_neg (by omega),if_pos h5]
 ·rw [hpt]
  exact ⟨cb.own,fun v hv=>by rw [if_pos (cb.co v hv)]⟩
 ·rw [hf]
  obtain ⟨b,fs,h1,h2,h3⟩:=fb
  exact ⟨b,fs,h1,h2,fun v hv=>k 6 (by decide) (by decide) v (h3 v hv)⟩
end
section
variable {w:World} {g n L M:Nat} {s:HU} {s1:Sl} {xs pre:List Nat} {col:Nat→Nat} {cnt ln:Nat→Nat} {fc:FuncId} {Enc:(Nat→Nat)→(Nat→Nat)→List Nat→List Nat→Prop} {K3:Sl×Bool×Value→PT}
theorem c65q {K:Value→PT} {lt ct:Nat} {tb:Nat} (Q:HQ w g s col n cnt L pre) (hP:PTc w s.ct M ln L) (hct:s.ct=⟨some ⟨tb,0,none⟩,lt,ct⟩) (hat:s.atl=(M:Nat)) (h2:2≤L) (hpre:pre.length≤1000000)
  (hk0:TBad (wtL M ln L) L→∀w' s' col' v,EG w' v→HQ w' g s' col' n cnt L pre→SK s s'→GoW w w' col col'→K v w')
  (hk1:∀w' s' col' tbl,TL (wtL M ln L) L tbl.length→By tbl→tbl.length≤129→weightsZ tbl=some (wtL M ln L,tbl.length)→HQ w' g s' col' n cnt L (pre++tbl)→PTc w' s'.ct M ln L→s'.atl=(M:Nat)→s'.ct=s.ct→s'.pt=s.pt→SK s s'→GoW w w' col col'→K .nilIface w') :
  callP Tryd.prog 65 #[.slice (some ⟨tb,0,none⟩) lt ct,.pointer (some ⟨g,0,none⟩)] [.c .V] K w:=by
 obtain ⟨qb,pc,F,cnt',e1,h256,HF,hF,HTc,hL256,hL0⟩:=hP
 rw [hct] at e1
 injection e1 with e1 e2 e3
 injection e1 with e1
 injection e1 with e1
 subst e1 e3
 have e2':=e2.symm
 subst e2'
 obtain ⟨fb,fs,hfse,SWf,hfc⟩:=Q.fseP
 have hne:∀ {u v:Nat},col u≠col v→u≠v:=fun h e=>h (by rw [e])
 have ctb:col tb=4:=Q.ct.co tb (by rw [hct];simp [Sl.bs])
 have dgo:g∉s.out.bs:=fun h=>by have:=Q.out2 g h;rw [Q.cg] at this;cases this
 have dgf:g∉SB fb fs:=fun h=>by have:=hfc g h;rw [Q.cg] at this;cases this
 have dof:∀v∈s.out.bs,v∉SB fb fs:=fun v hv h=>by have:=hfc v h;rw [Q.out2 v hv] at this;cases this
 have hown:∀v∈g::(s.out.bs++SB fb fs),v<w.heap.size→own (col v):=by
  intro v hv _
  rcases List.mem_cons.mp hv with h|h
  ·rw [h];exact Q.ownG
  ·rcases List.mem_append.mp h with h|h
   ·rw [Q.out2 v h];exact ⟨by decide,by decide⟩
   ·rw [hfc v h];exact ⟨by decide,by decide⟩
 have hkeep:∀r,r≠1→r≠2→r≠6→∀v∈g::(s.out.bs++SB fb fs),v<w.heap.size→col v≠r:=by
  intro r h1 h2 h6 v hv _ e
  rcases List.mem_cons.mp hv with h|h
  ·rw [h,Q.cg] at e;exact h1 e.symm
  ·rcases List.mem_append.mp h with h|h
   ·rw [Q.out2 v h] at e;exact h2 e.symm
   ·rw [hfc v h] at e;exact h6 e.symm
 have next:∀(w':World) (fs':FS) (hw':Nat→Int) (o:Sl) (pre':List Nat),VecU w' o pre'→Blk w' g ({ s with hw:=hw',out:=o } : HU).at→WT w w' g fb s fs fs' o →
   ∃col',HQ w' g { s with hw:=hw',out:=o } col' n cnt L pre'∧Mv w w' col col' (g::(s.out.bs++SB fb fs)):=by
  intro w' fs' hw' o pre' HV HB T
  have M1:Mv w w' col (fun v=>if v∈o.bs then 2 else colN w.heap.size 6 col v) (g::(s.out.bs++SB fb fs)):=by
   refine ⟨T.fr,hown,?_⟩
   intro v hv
   show (if v∈o.bs then 2 else colN w.heap.size 6 col v)=col v
   by_cases h:v∈o.bs
   ·rw [if_pos h]
    rcases T.new v h with h1|h1
    ·exact (Q.out2 v h1).symm
    ·omega
   ·rw [if_neg h];exact colN_old hv
  refine ⟨_,Q.mv M1 HB HV (fun v hv=>if_pos hv) (Q.nodP.mv T.fr (M1.keep (hkeep 3 (by decide) (by decide) (by decide)))) ?_ (Q.ct.mv T.fr (M1.keep (hkeep 4 (by decide) (by decide) (by decide)))) (hkeep 5 (by decide) (by decide) (by decide)) rfl rfl rfl rfl rfl rfl rfl rfl,M1⟩
  refine ⟨fb,fs',hfse,T.sw,?_⟩
  intro v hv
  show (if v∈o.bs then 2 else colN w.heap.size 6 col v)=6
  rw [if_neg (fun h=>T.dis v h hv)]
  rcases T.ext v hv with h|h
  ·rw [colN_old (SWf.lt v h)];exact hfc v h
  ·exact colN_new h
 refine c65 Q.blk Q.sc.sym h2 hL256 hat HTc.m1 HTc.m11 hfse SWf Q.gl (Q.er 0 (by decide)) (fun v hv=>Q.nine (by rw [hfc v hv];decide)) Q.g9 Q.oP (fun v hv=>Q.nine (by rw [Q.out2 v hv];decide)) hpre HF (fun i hi=>(hF i hi).2) HTc.le dgo dgf dof
  (hne (by rw [Q.cg,ctb];decide)) (fun h=>by have:=Q.out2 tb h;rw [ctb] at this;cases this) (fun h=>by have:=hfc tb h;rw [ctb] at this;cases this) ?_ ?_
 ·intro hTB w' fs' hw' v hv _ HB HV T
  obtain ⟨col',Q',M1⟩:=next w' fs' hw' s.out pre HV HB T
  exact hk0 hTB w' _ col' v hv Q' ⟨rfl,rfl,rfl⟩ M1.go
 ·intro w' fs' hw' o tbl hTL hby hl hwt HV HB T
  obtain ⟨col',Q',M1⟩:=next w' fs' hw' o (pre++tbl) HV HB T
  refine hk1 w' _ col' tbl hTL hby hl hwt Q' ?_ hat rfl rfl ⟨rfl,rfl,rfl⟩ M1.go
  refine ⟨tb,ct,F,cnt',hct,h256,HF.fr T.fr ?_,hF,HTc,hL256,hL0⟩
  intro h
  exact hkeep 4 (by decide) (by decide) (by decide) tb h HF.lt ctb
def WhyT (Enc:(Nat→Nat)→(Nat→Nat)→List Nat→List Nat→Prop) (xs:List Nat) (M:Nat) (ln:Nat→Nat) (L:Nat):Prop :=
 Enc≠EncT∨TBad (wtL M ln L) L∨∃k ol,TL (wtL M ln L) L k∧Enc (vC ln L M) ln xs ol∧xs.length≤k+ol.length
theorem j88_J5 (hC:CompOK fc Enc (Enc≠EncT)) (hfn:hasFn Tryd.prog fc=true) (hE:EncLe Enc) (Q:HQ w g s col n cnt L pre) (hP:PTc w s.ct M ln L) (hat:s.atl=(M:Nat)) (hL2:2≤L)
  (hx:∀x∈xs,x<L∧0<ln x) (hsrc:Arr .u8 w s1 xs) (hf:∀a,s1.a=some a→xs ≠ []→¬own (col a.block)) (h2:2≤xs.length) (hxs:xs.length≤2^18) (hpre:pre = []∨(xs.length≤pre.length∧pre.length≤2^19))
  (hk0:∀w' s' col' v,EG w' v→(pre = []→WhyT Enc xs M ln L)→HW w' g s' col'→s'.outT=⟨none,0,0⟩→SK s s'→GoW w w' col col'→K3 (⟨none,0,0⟩,false,v) w')
  (hk1:∀w' s' col' so tbl ol,TL (wtL M ln L) L tbl.length→By tbl→weightsZ tbl=some (wtL M ln L,tbl.length)→Enc (vC ln L M) ln xs ol→tbl.length+ol.length<xs.length→s'.out=so→VecU w' so (tbl++ol)→Arr .u8 w' s'.outT tbl→Arr .u8 w' s'.outD ol→(∀a,s'.outT.a=some a→col' a.block=2)→HW w' g s' col'→PTc w' s'.pt M ln L→SK s s'→GoW w w' col col'→K3 (so,false,.nilIface) w') :
  q88_J5 s1 (some ⟨g,0,none⟩) (.func (.func fc) #[.pointer (some ⟨g,0,none⟩)] #[]) K3 (xs.length:Nat) () w:=by
 have hpre19:pre.length≤2^19:=by
  rcases hpre with h|h
  ·rw [h];simp
  ·exact h.2
 have hxe:xs ≠ []:=by intro e;subst e;simp at h2
 obtain ⟨tb,pc,e1,_⟩:=hP.tb
 unfold q88_J5
 refine ⟨_,rfl,?_⟩
 simp only [add_mk,Nat.zero_add]
 refine ld_b (t := .S) (x:=s.ct) Q.blk rfl ?_
 rw [e1]
 refine c65q Q hP e1 hat hL2 (by omega) ?_ ?_
 ·intro hTB w1 sA colA v hv QA KA GA
  refine ⟨isPE.ifc hv.2,err_cnd (isPE.nil hv.2) ⟨_,rfl,?_⟩⟩
  simp only [add_mk,Nat.zero_add]
  refine st_u QA.blk rfl rfl ?_
  intro w2 B2 F2
  have B2':=B2.congr (HU.setT (s' := { sA with outT:=⟨none,0,0⟩ }) 1 rfl rfl rfl (by decide))
  have Q2:=QA.self F2 B2' rfl rfl rfl rfl rfl rfl rfl rfl rfl rfl rfl rfl
  exact hk0 w2 _ colA v (hv.fm F2 QA.g9l) (fun _ => .inr (.inl hTB)) Q2.hw rfl ⟨KA.reuse,KA.wll,KA.tl⟩ (GA.trans (QA.mvG F2).go)
 ·intro w1 sA colA tbl hTL hby hl129 hwt QA hPA hatA hctA hptA KA GA
  refine ⟨rfl,nil_cnd ⟨_,rfl,?_⟩⟩
  simp only [add_mk,Nat.zero_add]
  refine ld_b (t := .S) (x:=sA.out) QA.blk rfl ⟨_,rfl,?_⟩
  refine st_u QA.blk rfl rfl ?_
  intro w2 B2 F2
  have B2':=B2.congr (HU.setT (s' := { sA with outT:=sA.out }) 1 rfl rfl rfl (by decide))
  have Q2:=QA.self F2 B2' rfl rfl rfl rfl rfl rfl rfl rfl rfl rfl rfl rfl
  have P2:=QA.ctG F2 hPA
  have G2:=GA.trans (QA.mvG F2).go
  have hsrc2:=G2.arr hsrc hf
  have hf2:=G2.far hsrc hf
  have hpl:(pre++tbl).length=pre.length+tbl.length:=List.length_append
  refine comp_core (ln:=ln) (M1:=M) (L1:=L) hC hfn Q2 w2 (Fm.refl _ _) B2' rfl P2 ?_ hx hsrc2 hf2 h2 hxs (by omega) ?_ ?_
  ·intro v hv
   have h4:=Q2.ct.co v hv
   exact ⟨Q2.ct.own.lt v hv,by omega,by omega⟩
  ·intro hne w3 o v hv B3 F3
   refine ⟨_,rfl,?_⟩
   simp only [add_mk,Nat.zero_add]
   refine st_u B3 rfl rfl ?_
   intro w4 B4 F4
   have B4':=B4.congr (HU.setT (s' := { sA with outT:=sA.out,out:=⟨none,0,0⟩ }) 0 rfl rfl rfl (by decide))
   obtain ⟨Q4,M4⟩:=Q2.comp (so:=⟨none,0,0⟩) (F3.trans F4 (by intro v hv;left;simp at hv;simp [hv])) (by simp [Sl.bs]) VecU.nil B4'
   refine ⟨isPE.ifc hv.2,err_cnd (isPE.nil hv.2) ⟨_,rfl,?_⟩⟩
   simp only [add_mk,Nat.zero_add]
   refine st_u B4' rfl rfl ?_
   intro w5 B5 F5
   have B5':=B5.congr (HU.setT (s' := { sA with outT:=⟨none,0,0⟩,out:=⟨none,0,0⟩ }) 1 rfl rfl rfl (by decide))
   have Q5:=Q4.self F5 B5' rfl rfl rfl rfl rfl rfl rfl rfl rfl rfl rfl rfl
   exact hk0 w5 _ _ v ((hv.fm F4 Q2.g9l).fm F5 Q2.g9l) (fun _ => .inl hne) Q5.hw rfl ⟨KA.reuse,KA.wll,KA.tl⟩ ((G2.trans M4.go).trans (Q4.mvG F5).go)
  ·intro w3 o so ol hEn HV3 B3 hn3 F3 hh3
   refine ⟨_,rfl,?_⟩
   simp only [add_mk,Nat.zero_add]
   refine st_u B3 rfl rfl ?_
   intro w4 B4 F4
   have B4':=B4.congr (HU.setT (s' := { sA with outT:=sA.out,out:=so }) 0 rfl rfl rfl (by decide))
   have hgso:g∉so.bs:=by
    intro h
    rcases hn3 g h with h1|h1
    ·have:=Q2.out2 g h1;rw [Q2.cg] at this;cases this
    ·have:=Q2.blk.lt;omega
   have HV4:=HV3.fr F4 (by intro v hv;simp;exact fun e=>hgso (e▸hv))
   have hgsa:∀a,sA.out.a=some a→a.block ∉ [g]:=by
    intro a ha
    have h2c:=QA.out2 a.block (mem_bs ha)
    simp
    intro e
    rw [e,QA.cg] at h2c;cases h2c
   have hh4:Held w4 sA.out.a (pre++tbl):=hh3.fr F4 hgsa
   obtain ⟨Q4,M4⟩:=Q2.comp (so:=so) (F3.trans F4 (by intro v hv;left;simp at hv;simp [hv])) hn3 HV4 B4'
   have P4:PTc w4 sA.ct M ln L:=Q2.ctO (F3.trans F4 (by intro v hv;left;simp at hv;simp [hv])) P2
   have G4:=G2.trans M4.go
   refine ⟨rfl,nil_cnd ⟨_,rfl,?_⟩⟩
   simp only [add_mk,Nat.zero_add]
   have hln11:∀x∈xs,ln x≤11:=by
    intro x hx'
    obtain ⟨_,_,_,cnt',_,_,_,_,HTc,_⟩:=hP
    have h1:=HTc.le x (hx x hx').1
    have h2:=HTc.m11
    omega
   have hoE:=hE _ _ _ _ hEn hln11 hxs
   have hsl:=HV4.len
   rw [List.length_append] at hsl
   refine ld_b (t := .S) (x:=so) B4' rfl (cnd_d ?_ ?_)
   ·intro hge
    refine ⟨_,rfl,?_⟩
    simp only [add_mk,Nat.zero_add]
    refine st_u B4' rfl rfl ?_
    intro w5 B5 F5
    have B5':=B5.congr (HU.setT (s' := { sA with outT:=⟨none,0,0⟩,out:=so }) 1 rfl rfl rfl (by decide))
    have Q5:=Q4.self F5 B5' rfl rfl rfl rfl rfl rfl rfl rfl rfl rfl rfl rfl
    have G5:=G4.trans (Q4.mvG F5).go
    refine ld_errG (Q5.er 0 (by decide)) (by decide) ?_
    intro v hv
    have Fd:Fm w5 w5.drew [g]:=(Fm.refl w5 _).drew
    have Q6:=Q5.self (s' := { sA with outT:=⟨none,0,0⟩,out:=so }) Fd B5'.drew rfl rfl rfl rfl rfl rfl rfl rfl rfl rfl rfl rfl
    exact hk0 _ _ _ v hv (fun hp => .inr (.inr ⟨tbl.length,ol,hTL,hEn,by have hp0:pre.length=0:=by { rw [hp];rfl };omega⟩)) Q6.hw rfl ⟨KA.reuse,KA.wll,KA.tl⟩ (G5.trans (Q5.mvG Fd).go)
   ·intro hlt
    have hlt':so.l<xs.length:=by omega
    have hpn:pre = []:=by
     rcases hpre with h|h
     ·exact h
     ·exfalso
      have:=h.1
      omega
    subst hpn
    simp only [List.nil_append] at *
    rw [List.length_nil,Nat.zero_add] at hpl
    have Fd:Fm w4 w4.drew [g]:=(Fm.refl w4 _).drew
    have Qd:=Q4.self (s' := { sA with outT:=sA.out,out:=so }) Fd B4'.drew rfl rfl rfl rfl rfl rfl rfl rfl rfl rfl rfl rfl
    have Pd:PTc w4.drew sA.ct M ln L:=Q4.ctG Fd P4
    unfold drw
    refine ⟨_,rfl,?_⟩
    simp only [add_mk,Nat.zero_add]
    refine ld_b (t := .S) (x:=sA.ct) B4'.drew rfl ⟨_,rfl,?_⟩
    simp only [add_mk,Nat.zero_add]
    refine ld_b (t := .I .u8) (x:=sA.atl) B4'.drew rfl ⟨_,rfl,?_⟩
    simp only [add_mk,Nat.zero_add]
    refine ld_b (t := .S) (x:=sA.pt) B4'.drew rfl ?_
    refine slc_hi (m:=0) rfl (Nat.zero_le _) ⟨_,rfl,?_⟩
    simp only [add_mk,Nat.zero_add]
    refine st_u B4'.drew rfl rfl ?_
    intro w5 B5 F5
    have B5':=B5.congr (HU.setT (s' := { sA with outT:=sA.out,out:=so,pt:=sA.ct }) 14 rfl rfl rfl (by decide))
    refine ⟨_,rfl,?_⟩
    simp only [add_mk,Nat.zero_add]
    refine st_u B5' rfl rfl ?_
    intro w6 B6 F6
    have B6':=B6.congr (HU.setT (s' := { sA with outT:=sA.out,out:=so,pt:=sA.ct,ptl:=sA.atl }) 13 rfl rfl rfl (by decide))
    refine ⟨_,rfl,?_⟩
    simp only [add_mk,Nat.zero_add]
    refine st_u B6' rfl rfl ?_
    intro w7 B7 F7
    have B7':=B7.congr (HU.setT (s' := { sA with outT:=sA.out,out:=so,pt:=sA.ct,ptl:=sA.atl,ct:=⟨sA.pt.a,0,sA.pt.c⟩ }) 15 rfl rfl rfl (by decide))
    refine ⟨_,rfl,?_⟩
    simp only [add_mk,Nat.zero_add]
    refine ld_b (t := .S) (x:=so) B7'.drew rfl ⟨_,rfl,?_⟩
    simp only [add_mk,Nat.zero_add]
    refine ld_b (t := .S) (x:=sA.out) B7'.drew rfl ?_
    have hol:=QA.oP.len
    refine slc_lo (n:=tbl.length) (by rw [hol]) (by omega) ⟨_,rfl,?_⟩
    simp only [add_mk,Nat.zero_add]
    refine st_u B7'.drew rfl rfl ?_
    intro w8 B8 F8
    have B8':=B8.congr (HU.setT (s' := { sA with outT:=sA.out,out:=so,pt:=sA.ct,ptl:=sA.atl,ct:=⟨sA.pt.a,0,sA.pt.c⟩,outD:=⟨slA so.a tbl.length so.c 1,so.l-tbl.length,so.c-tbl.length⟩ }) 2 rfl rfl rfl (by decide))
    refine ⟨_,rfl,?_⟩
    simp only [add_mk,Nat.zero_add]
    refine ld_b (t := .S) (x:=so) B8' rfl ?_
    have F48:Fm w4 w8 [g]:=((((((Fm.refl w4 [g]).drew.trans F5 (fun x hx => .inl hx)).trans F6 (fun x hx => .inl hx)).trans F7 (fun x hx => .inl hx)).drew).trans F8 (fun x hx => .inl hx))
    obtain ⟨W8,P8⟩:=Q4.swap (s' := { sA with outT:=sA.out,out:=so,pt:=sA.ct,ptl:=sA.atl,ct:=⟨sA.pt.a,0,sA.pt.c⟩,outD:=⟨slA so.a tbl.length so.c 1,so.l-tbl.length,so.c-tbl.length⟩ }) P4 F48 B8' rfl rfl rfl rfl rfl rfl rfl
    have HV8:=HV4.fr F48 (by intro v hv;simp;exact fun e=>hgso (e▸hv))
    have hh8:Held w8 sA.out.a tbl:=hh4.fr F48 hgsa
    have A8:=HV8.vec.arr
    have AD:=A8.drop tbl.length (by rw [List.length_append];omega)
    rw [List.drop_left] at AD
    have GS:GoW w4 w8 (colN w2.heap.size 2 colA) (fun v=>if colN w2.heap.size 2 colA v=4 then 5 else if colN w2.heap.size 2 colA v=5 then 4 else colN w2.heap.size 2 colA v):=by
     refine ⟨⟨[g],F48,(Q4.mvG F48).own_⟩,?_⟩
     intro v _ hno
     show (if _=4 then 5 else if _=5 then 4 else _)=_
     rw [if_neg (fun e=>hno (by rw [e];exact ⟨by decide,by decide⟩)),if_neg (fun e=>hno (by rw [e];exact ⟨by decide,by decide⟩))]
    have hoc:∀a,sA.out.a=some a→(if colN w2.heap.size 2 colA a.block=4 then 5 else if colN w2.heap.size 2 colA a.block=5 then 4 else colN w2.heap.size 2 colA a.block)=2:=by
     intro a ha
     have e2:colN w2.heap.size 2 colA a.block=2:=(colN_old (Q2.oP.lt _ (mem_bs ha))).trans (QA.out2 _ (mem_bs ha))
     rw [e2];rfl
    exact hk1 w8 _ _ so tbl ol hTL hby hwt hEn (by omega) rfl HV8 (hh8.arr (a:=none) (c:=0) ⟨w1,QA.oP⟩) AD hoc W8 P8 ⟨KA.reuse,KA.wll,KA.tl⟩ (G4.trans GS)
end
section
variable {w:World} {g n L M0 L0:Nat} {s:HU} {s1:Sl} {xs pre:List Nat} {col:Nat→Nat} {cnt ln0:Nat→Nat} {fc:FuncId} {Enc:(Nat→Nat)→(Nat→Nat)→List Nat→List Nat→Prop} {K3:Sl×Bool×Value→PT}
theorem rs_step {K:Sl×Value→PT} {E:Prop} (hC:CompOK fc Enc E) (hfn:hasFn Tryd.prog fc=true) (Q:HQ w g s col n cnt L pre) (hP:PTc w s.pt M0 ln0 L0)
  (hx:∀x∈xs,x<L0∧0<ln0 x) (hsrc:Arr .u8 w s1 xs) (hf:∀a,s1.a=some a→xs ≠ []→¬own (col a.block)) (h2:2≤xs.length) (hxs:xs.length≤2^18) (hpre:pre.length≤2^20)
  (hk0:E→∀w' s' col' v,EG w' v→s' = { s with out:=⟨none,0,0⟩ } → HQ w' g s' col' n cnt L []→GoW w w' col col'→PTc w' s'.pt M0 ln0 L0→(∀M1 ln1 L1,PTc w s.ct M1 ln1 L1→PTc w' s'.ct M1 ln1 L1)→K (⟨none,0,0⟩,v) w')
  (hk1:∀w' s' col' so ol,Enc (vC ln0 L0 M0) ln0 xs ol→s' = { s with out:=so } → HQ w' g s' col' n cnt L (pre++ol)→GoW w w' col col'→PTc w' s'.pt M0 ln0 L0→(∀M1 ln1 L1,PTc w s.ct M1 ln1 L1→PTc w' s'.ct M1 ln1 L1)→K (so,.nilIface) w') :
  (nz (some ⟨g,0,none⟩) fun (p134:Addr)=>ld .S (Addr.add p134 271) fun (s135:Sl)=>nz (some ⟨g,0,none⟩) fun (p136:Addr)=>ld (.I .u8) (Addr.add p136 268) fun (n137:Int)=>nz (some ⟨g,0,none⟩) fun (p138:Addr)=>ld .S (Addr.add p138 270) fun (s139:Sl)=>nz (some ⟨g,0,none⟩) fun (p140:Addr)=>st (Addr.add p140 271) (.slice s139.a s139.l s139.c)<|nz (some ⟨g,0,none⟩) fun (p141:Addr)=>ld (.I .u8) (Addr.add p141 269) fun (n142:Int)=>nz (some ⟨g,0,none⟩) fun (p143:Addr)=>st (Addr.add p143 268) (.int .u8 n142)<|callV Tryd.prog (.func (.func fc) #[.pointer (some ⟨g,0,none⟩)] #[]) #[(.slice s1.a s1.l s1.c)] [.c .S,.c .V] fun (r144:Sl×Value)=>nz (some ⟨g,0,none⟩) fun (p145:Addr)=>st (Addr.add p145 256) (.slice r144.1.a r144.1.l r144.1.c)<|nz (some ⟨g,0,none⟩) fun (p146:Addr)=>st (Addr.add p146 271) (.slice s135.a s135.l s135.c)<|nz (some ⟨g,0,none⟩) fun (p147:Addr)=>st (Addr.add p147 268) (.int .u8 n137)<|K r144) w:=by
 refine ⟨_,rfl,?_⟩
 simp only [add_mk,Nat.zero_add]
 refine ld_b (t := .S) (x:=s.ct) Q.blk rfl ⟨_,rfl,?_⟩
 simp only [add_mk,Nat.zero_add]
 refine ld_b (t := .I .u8) (x:=s.atl) Q.blk rfl ⟨_,rfl,?_⟩
 simp only [add_mk,Nat.zero_add]
 refine ld_b (t := .S) (x:=s.pt) Q.blk rfl ⟨_,rfl,?_⟩
 simp only [add_mk,Nat.zero_add]
 refine st_u Q.blk rfl rfl ?_
 intro w1 B1 F1
 have B1':=B1.congr (HU.setT (s' := { s with ct:=s.pt }) 15 rfl rfl rfl (by decide))
 refine ⟨_,rfl,?_⟩
 simp only [add_mk,Nat.zero_add]
 refine ld_b (t := .I .u8) (x:=s.ptl) B1' rfl ⟨_,rfl,?_⟩
 simp only [add_mk,Nat.zero_add]
 refine st_u B1' rfl rfl ?_
 intro w2 B2 F2
 have B2':=B2.congr (HU.setT (s' := { s with ct:=s.pt,atl:=s.ptl }) 12 rfl rfl rfl (by decide))
 have F02:Fm w w2 [g]:=F1.trans F2 (fun x hx => .inl hx)
 refine comp_core (s2 := { s with ct:=s.pt,atl:=s.ptl }) (ln:=ln0) (M1:=M0) (L1:=L0) hC hfn Q w2 F02 B2' rfl (Q.ptG F02 hP) ?_ hx hsrc hf h2 hxs hpre ?_ ?_
 ·intro v hv
  have h5:=Q.pt.co v hv
  exact ⟨Q.pt.own.lt v hv,by omega,by omega⟩
 ·intro hE w3 o v hv B3 F3
  refine ⟨_,rfl,?_⟩
  simp only [add_mk,Nat.zero_add]
  refine st_u B3 rfl rfl ?_
  intro w4 B4 F4
  have B4':=B4.congr (HU.setT (s' := { s with ct:=s.pt,atl:=s.ptl,out:=⟨none,0,0⟩ }) 0 rfl rfl rfl (by decide))
  refine ⟨_,rfl,?_⟩
  simp only [add_mk,Nat.zero_add]
  refine st_u B4' rfl rfl ?_
  intro w5 B5 F5
  have B5':=B5.congr (HU.setT (s' := { s with atl:=s.ptl,out:=⟨none,0,0⟩ }) 15 rfl rfl rfl (by decide))
  refine ⟨_,rfl,?_⟩
  simp only [add_mk,Nat.zero_add]
  refine st_u B5' rfl rfl ?_
  intro w6 B6 F6
  have B6':=B6.congr (HU.setT (s' := { s with out:=⟨none,0,0⟩ }) 12 rfl rfl rfl (by decide))
  have F06:Fm w w6 (g::s.out.bs):=F3.trans ((F4.trans F5 (fun x hx => .inl hx)).trans F6 (fun x hx => .inl hx)) (by intro v hv;left;simp at hv;simp [hv])
  obtain ⟨Q6,M6⟩:=Q.comp (so:=⟨none,0,0⟩) F06 (by simp [Sl.bs]) VecU.nil B6'
  exact hk0 hE w6 _ _ v (((hv.fm F4 Q.g9l).fm F5 Q.g9l).fm F6 Q.g9l) rfl Q6 M6.go (Q.ptO F06 hP) (fun M1 ln1 L1 h=>Q.ctO F06 h)
 ·intro w3 o so ol hEn HV3 B3 hn3 F3 hh3
  refine ⟨_,rfl,?_⟩
  simp only [add_mk,Nat.zero_add]
  refine st_u B3 rfl rfl ?_
  intro w4 B4 F4
  have B4':=B4.congr (HU.setT (s' := { s with ct:=s.pt,atl:=s.ptl,out:=so }) 0 rfl rfl rfl (by decide))
  refine ⟨_,rfl,?_⟩
  simp only [add_mk,Nat.zero_add]
  refine st_u B4' rfl rfl ?_
  intro w5 B5 F5
  have B5':=B5.congr (HU.setT (s' := { s with atl:=s.ptl,out:=so }) 15 rfl rfl rfl (by decide))
  refine ⟨_,rfl,?_⟩
  simp only [add_mk,Nat.zero_add]
  refine st_u B5' rfl rfl ?_
  intro w6 B6 F6
  have B6':=B6.congr (HU.setT (s' := { s with out:=so }) 12 rfl rfl rfl (by decide))
  have F36:Fm w3 w6 [g]:=(F4.trans F5 (fun x hx => .inl hx)).trans F6 (fun x hx => .inl hx)
  have F06:Fm w w6 (g::s.out.bs):=F3.trans F36 (by intro v hv;left;simp at hv;simp [hv])
  have hgso:∀v∈so.bs,v ∉ [g]:=by
   intro v hv
   simp
   intro e
   subst e
   rcases hn3 v hv with h1|h1
   ·have:=Q.out2 v h1;rw [Q.cg] at this;cases this
   ·have:=Q.blk.lt;omega
  obtain ⟨Q6,M6⟩:=Q.comp (so:=so) F06 hn3 (HV3.fr F36 hgso) B6'
  exact hk1 w6 _ _ so ol hEn rfl Q6 M6.go (Q.ptO F06 hP) (fun M1 ln1 L1 h=>Q.ctO F06 h)
theorem c91q {K:Value→PT} (Q:HQ w g s col n cnt L pre) (hn2:n<4294967296) (two:∃a b,a≠b∧a<L∧b<L∧0<cnt a∧0<cnt b) (hsum:sF cnt 0 L≤n) (h8:sF cnt 0 L<832040)
  (hk:∀w' s' col' M ln,HT cnt L M ln→(∀t:Nat,s.tl=(t:Nat)→LenR cnt L n t M ln)→HQ w' g s' col' n cnt L pre→PTc w' s'.ct M ln L→s'.atl=(M:Nat)→s'.pt=s.pt→(∀M1 ln1 L1,PTc w s.pt M1 ln1 L1→PTc w' s'.pt M1 ln1 L1)→SK s s'→s'.out=s.out→s'.reuse=s.reuse→s'.outT=s.outT→GoW w w' col col'→K .nilIface w') :
  callP Tryd.prog 91 #[.pointer (some ⟨g,0,none⟩)] [.c .V] K w:=by
 obtain ⟨nb,l0,cap,Fn,hnod,hcap,cnb,HN,hS,hF⟩:=Q.nodP
 obtain ⟨t,htl,_,ht11⟩:=Q.tlP
 have c4:=Q.ct.co
 have dgn:g≠nb:=fun e=>by rw [←e,Q.cg] at cnb;cases cnb
 have hg:g∉s.ct.bs:=fun h=>by have:=c4 g h;rw [Q.cg] at this;cases this
 have hnb:nb∉s.ct.bs:=fun h=>by have:=c4 nb h;rw [cnb] at this;cases this
 have hl1:=Q.sc.l1
 have hl256:=Q.sc.l256
 refine c91 Q.blk Q.sc Q.srcN htl ht11 hn2 two hsum h8 hnod hcap HN hS hF dgn Q.ct.own hg hnb ?_
 intro w' M ln tb capt F' Fn' HTc hLR h256 B' HF' hS' hcells HN' hSn' hFn' htb dgt dnt Fr
 have hown:∀v∈g::nb::s.ct.bs,v<w.heap.size→own (col v):=by
  intro v hv _
  rcases List.mem_cons.mp hv with h|h
  ·rw [h];exact Q.ownG
  ·rcases List.mem_cons.mp h with h|h
   ·rw [h,cnb];exact ⟨by decide,by decide⟩
   ·rw [c4 v h];exact ⟨by decide,by decide⟩
 have hkeep:∀r,r≠1→r≠3→r≠4→∀v∈g::nb::s.ct.bs,v<w.heap.size→col v≠r:=by
  intro r h1 h3 h4 v hv _ e
  rcases List.mem_cons.mp hv with h|h
  ·rw [h,Q.cg] at e;exact h1 e.symm
  ·rcases List.mem_cons.mp h with h|h
   ·rw [h,cnb] at e;exact h3 e.symm
   ·rw [c4 v h] at e;exact h4 e.symm
 have M1:Mv w w' col (colN w.heap.size 4 col) (g::nb::s.ct.bs):=⟨Fr,hown,fun v hv=>colN_old hv⟩
 have K2:=M1.keep (hkeep 2 (by decide) (by decide) (by decide))
 have K5:=M1.keep (hkeep 5 (by decide) (by decide) (by decide))
 have ctb:colN w.heap.size 4 col tb=4:=by
  rcases htb with h|h
  ·exact (colN_old (Q.ct.own.lt tb h)).trans (c4 tb h)
  ·exact colN_new h
 have Q':HQ w' g ({ s with atl:=(M:Nat),ct:=⟨some ⟨tb,0,none⟩,L,capt⟩,nodes:=⟨some ⟨nb,0,none⟩,513,cap⟩ } : HU) (colN w.heap.size 4 col) n cnt L pre:=by
  refine Q.mv M1 B' (Q.oP.fr Fr (fun b hb=>K2.out (Q.out2 b hb) (Q.oP.lt b hb))) ?_ ?_ (Q.fseP.mv Fr (M1.keep (hkeep 6 (by decide) (by decide) (by decide)))) ?_ (hkeep 5 (by decide) (by decide) (by decide)) rfl rfl rfl rfl rfl rfl rfl rfl
  ·intro v hv;exact (colN_old (Q.oP.lt v hv)).trans (Q.out2 v hv)
  ·exact ⟨nb,513,cap,Fn',rfl,hcap,(colN_old HN.lt).trans cnb,HN',hSn',hFn'⟩
  ·refine ⟨Own.of HF' hS' (by omega),?_⟩
   intro v hv
   simp [Sl.bs] at hv
   rw [hv];exact ctb
 have hLR':∀t':Nat,s.tl=(t':Nat)→LenR cnt L n t' M ln:=by
  intro t' h'
  have e:t'=t:=by omega
  rw [e];exact hLR
 refine hk w' _ _ M ln HTc hLR' Q' ⟨tb,capt,F',cnt,rfl,h256,HF',hcells,HTc,hl256,by omega⟩ rfl rfl ?_ ⟨rfl,rfl,rfl⟩ rfl rfl rfl M1.go
 intro Ma lna La h
 exact h.mv Fr (fun v hv=>K5.out (Q.pt.co v hv) (Q.pt.own.lt v hv))
theorem HQ.em {w':World} (Q:HQ w g s col n cnt L pre) (F:Fm w w' []):HQ w' g s col n cnt L pre :=
 Q.self (s':=s) (F.mono (by simp)) (Q.blk.fr F (by simp)) rfl rfl rfl rfl rfl rfl rfl rfl rfl rfl rfl rfl
theorem HQ.goE {w':World} (Q:HQ w g s col n cnt L pre) (F:Fm w w' []):GoW w w' col col:=GoW.of F (by simp) (fun _ _=>rfl)
theorem c119q {K:Int→PT} {M1 L1:Nat} {ln1:Nat→Nat} {tb lt ct:Nat} {o:Sl} (Q:HQ w g s col n cnt L pre) (hP:PTc w o M1 ln1 L1) (ho:o=⟨some ⟨tb,0,none⟩,lt,ct⟩) (hL:L≤L1) (hk:∀w' r,Fm w w' []→K r w') :
  callP Tryd.prog 119 #[.slice (some ⟨tb,0,none⟩) lt ct,.slice (some ⟨g,0,none⟩) L 256] [.c (.I .i64)] K w:=by
 obtain ⟨qb,pc,e,h256,_,F,HF,hF,_,hL256,_⟩:=hP.tb
 rw [ho] at e
 injection e with e1 e2 e3
 injection e1 with e1
 injection e1 with e1
 subst e1 e2 e3
 have:=Q.sc.l256
 refine c119 (F:=F) HF (fun i hi=>hF i (by omega)) (by omega) this Q.blk (fun i hi=>⟨_,HU.count_at s (by omega)⟩) hk
theorem err_hw {κ:Value→PT} {i:Nat} (hi:i<3) (W:HW w g s col) (hk:∀w' v,EG w' v→HW w' g s col→GoW w w' col col→κ v w'):drw (ld .V ⟨i,0,none⟩ κ) w:=by
 refine ld_errG (W.er i hi) hi ?_
 intro v hv
 have F:Fm w w.drew []:=(Fm.refl w []).drew
 exact hk _ v hv (W.same (W.blk.fr F (by simp)) (F.mono (by simp)) rfl rfl rfl rfl rfl W.mx W.cz) (GoW.of F (by simp) (fun _ _=>rfl))
end
structure NT (xs:List Nat) (M:Nat) (ln:Nat→Nat) (L:Nat):Prop where
 h:HT (fun i=>xs.count i) L M ln
 l2:2≤L
 l256:L≤256
 out:∀i,L≤i→xs.count i=0
 last:0<xs.count (L-1)
 two:∃a,a<L-1∧0<xs.count a
theorem sF_count (L:Nat):∀xs:List Nat,sF (fun i=>xs.count i) 0 L≤xs.length
 | []=>by rw [sF_zero (fun i _=>by simp)];omega
 | x::r=>by
  have e:sF (fun i=>(x::r).count i) 0 L=sF (fun i=>r.count i) 0 L+sF (fun i=>if x=i then 1 else 0) 0 L:=by
   rw [←sF_add]
   refine sF_congr (fun i _ _ => ?_)
   rw [List.count_cons]
   by_cases h:x=i
   ·subst h;simp
   ·rw [if_neg (by simpa using h),if_neg h]
  have h1:=sF_count L r
  have h2:sF (fun i=>if x=i then 1 else 0) 0 L≤1:=by
   by_cases h:x<L
   ·rw [sF_single h (fun i _ hi=>if_neg (fun e=>hi e.symm)),if_pos rfl];omega
   ·rw [sF_zero (fun i hi=>if_neg (by omega))];omega
  rw [e,List.length_cons]
  omega
theorem mx_two {xs:List Nat} {m L:Nat} (hM:MX (fun i=>xs.count i) m L) (hby:By xs) (hm:m<xs.length):2≤L∧(∀i,L≤i→xs.count i=0)∧0<xs.count (L-1)∧∃a,a<L-1∧0<xs.count a:=by
 have h1:=hM.l1
 have hl:0<xs.count (L-1):=by have:xs.count (L-1)≠0:=hM.last;omega
 have hout:∀i,L≤i→xs.count i=0:=by
  intro i hi
  rcases Nat.lt_or_ge i 256 with h|h
  ·exact hM.out i h hi
  ·exact List.count_eq_zero.mpr (fun hh=>by have:=hby i hh;omega)
 have hle:xs.count (L-1)≤m:=hM.le (L-1) (by have:=hM.l256;omega)
 have hex:∃a,a<L-1∧0<xs.count a:=by
  refine Classical.byContradiction fun hn => ?_
  have hall:∀b∈xs,L-1=b:=by
   intro b hb
   have h2:0<xs.count b:=List.count_pos_iff.mpr hb
   have h3:b<L:=Classical.byContradiction fun h=>by have:=hout b (by omega);omega
   rcases Nat.lt_or_ge b (L-1) with h|h
   ·exact absurd ⟨b,h,h2⟩ hn
   ·omega
  have:=List.count_eq_length.mpr hall
  omega
 obtain ⟨a,ha,ha2⟩:=hex
 exact ⟨by omega,hout,hl,a,ha,ha2⟩
section
variable {w:World} {g n L M0 L0:Nat} {s:HU} {s1:Sl} {xs pre:List Nat} {col:Nat→Nat} {cnt ln0:Nat→Nat} {fc:FuncId} {Enc:(Nat→Nat)→(Nat→Nat)→List Nat→List Nat→Prop} {K3:Sl×Bool×Value→PT}
theorem CompOK.of {f:FuncId} {Enc:(Nat→Nat)→(Nat→Nat)→List Nat→List Nat→Prop} {E:Prop} (h:CompOK f Enc) (hE:E):CompOK f Enc E:=by
 intro w g tb capt lct cd ln pre xs s1 s K a1 a2 a3 a4 a5 a6 a7 a8 a9 a10 a11 a12 a13 a14 a15 a16 hk0 hk1
 exact h w g tb capt lct cd ln pre xs s1 s K a1 a2 a3 a4 a5 a6 a7 a8 a9 a10 a11 a12 a13 a14 a15 a16 (fun _=>hk0 hE) hk1
theorem enc4_ne:Enc4≠EncT:=by
 intro e
 have h:EncT (fun _=>0) (fun _=>0) [] [1]:=⟨(by intro x hx;simp at hx;omega),rfl,rfl⟩
 rw [←e] at h
 have:=h.1
 simp at this
def CntOK (xs:List Nat):Prop:=∃m L,MX (fun i=>xs.count i) m L∧m<xs.length∧m≠1∧xs.length/128≤m
theorem CntOK.at {xs:List Nat} {m L:Nat} (h:CntOK xs) (hM:MX (fun i=>xs.count i) m L):m<xs.length∧m≠1∧xs.length/128≤m:=by
 obtain ⟨m',L',h1,h2⟩:=h
 have e:m=m':=by
  obtain ⟨i,hi,hi2⟩:=hM.ex
  obtain ⟨j,hj,hj2⟩:=h1.ex
  have a:=h1.le i (by have:=hM.l256;omega)
  have b:=hM.le j (by have:=h1.l256;omega)
  have hi2:xs.count i=m:=hi2
  have hj2:xs.count j=m':=hj2
  have a:xs.count i≤m':=a
  have b:xs.count j≤m:=b
  omega
 subst e
 exact h2
theorem CntOK.ne {xs:List Nat} (h:CntOK xs):xs ≠ []:=by
 obtain ⟨m',L',h1,h2,_⟩:=h
 intro e
 rw [e] at h2
 simp at h2
def Bad (xs:List Nat) (t:Nat) (Enc:(Nat→Nat)→(Nat→Nat)→List Nat→List Nat→Prop):Prop :=
 ¬CntOK xs∨∃M ln L,NT xs M ln L∧LenR (fun i=>xs.count i) L xs.length t M ln∧WhyT Enc xs M ln L
structure KE (w:World) (g:Nat) (s:HU) (col:Nat→Nat) (xs:List Nat) (Enc:(Nat→Nat)→(Nat→Nat)→List Nat→List Nat→Prop) (M0:Nat) (ln0:Nat→Nat) (L0:Nat) (K3:Sl×Bool×Value→PT):Prop where
 e:∀w' s' col' v,EG w' v→(s.reuse=2→∀t:Nat,s.tl=(t:Nat)→Bad xs t Enc)→HW w' g s' col'→s'.outT=⟨none,0,0⟩→SK s s'→GoW w w' col col'→K3 (⟨none,0,0⟩,false,v) w'
 r:∀w' s' col' so ol,s.reuse≠2→Enc (vC ln0 L0 M0) ln0 xs ol→(∀x∈xs,x<L0∧0<ln0 x)→ol.length<xs.length→s'.out=so→VecU w' so ol→HW w' g s' col'→PTc w' s'.pt M0 ln0 L0→s'.outT=⟨none,0,0⟩→SK s s'→GoW w w' col col'→K3 (so,true,.nilIface) w'
 t:∀w' s' col' so M ln L tbl ol,s.reuse≠3→CntOK xs→TL (wtL M ln L) L tbl.length→(∀t:Nat,s.tl=(t:Nat)→LenR (fun i=>xs.count i) L xs.length t M ln)→NT xs M ln L→By tbl→weightsZ tbl=some (wtL M ln L,tbl.length)→Enc (vC ln L M) ln xs ol→tbl.length+ol.length<xs.length→s'.out=so→VecU w' so (tbl++ol)→Arr .u8 w' s'.outT tbl→Arr .u8 w' s'.outD ol→(∀a,s'.outT.a=some a→col' a.block=2)→HW w' g s' col'→PTc w' s'.pt M ln L→SK s s'→GoW w w' col col'→K3 (so,false,.nilIface) w'
theorem KE.go {w':World} {s':HU} {col':Nat→Nat} (k:KE w g s col xs Enc M0 ln0 L0 K3) (G:GoW w w' col col') (S:SK s s'):KE w' g s' col' xs Enc M0 ln0 L0 K3:=by
 have tr:∀ {s2:HU},SK s' s2→SK s s2:=fun h=>⟨h.reuse.trans S.reuse,h.wll.trans S.wll,h.tl.trans S.tl⟩
 refine ⟨?_,?_,?_⟩
 ·intro w2 s2 col2 v h1 hB h2 hT h3 h4
  exact k.e w2 s2 col2 v h1 (fun h t ht=>hB (S.reuse.trans h) t (S.tl.trans ht)) h2 hT (tr h3) (G.trans h4)
 ·intro w2 s2 col2 so ol h1 h2 h3 h4 h5 h6 h7 h8 hT h9 h10
  exact k.r w2 s2 col2 so ol (by rw [←S.reuse];exact h1) h2 h3 h4 h5 h6 h7 h8 hT (tr h9) (G.trans h10)
 ·intro w2 s2 col2 so M ln L tbl ol hr hcn hTL hl h1 h2 h3 h4 h5 h6 h7 h8 h9 hc h10 h11 h12 h13
  exact k.t w2 s2 col2 so M ln L tbl ol (by rw [←S.reuse];exact hr) hcn hTL (fun t ht=>hl t (S.tl.trans ht)) h1 h2 h3 h4 h5 h6 h7 h8 h9 hc h10 h11 (tr h12) (G.trans h13)
structure TX (w:World) (col:Nat→Nat) (s1:Sl) (xs:List Nat) (fc:FuncId) (Enc:(Nat→Nat)→(Nat→Nat)→List Nat→List Nat→Prop):Prop where
 hC:CompOK fc Enc (Enc≠EncT)
 hfn:hasFn Tryd.prog fc=true
 hE:EncLe Enc
 src:Arr .u8 w s1 xs
 by_:By xs
 far:∀a,s1.a=some a→xs ≠ []→¬own (col a.block)
 le:xs.length≤2^18
theorem TX.go {w':World} {col':Nat→Nat} (T:TX w col s1 xs fc Enc) (G:GoW w w' col col'):TX w' col' s1 xs fc Enc:=⟨T.hC,T.hfn,T.hE,G.arr T.src T.far,T.by_,G.far T.src T.far,T.le⟩
theorem rs_take {x25:Int} {so:Sl} {ol:List Nat} (hT:s.outT=⟨none,0,0⟩) (Q:HQ w g s col n cnt L ol) (k:KE w g s col xs Enc M0 ln0 L0 K3) (hr:s.reuse≠2) (hEn:Enc (vC ln0 L0 M0) ln0 xs ol) (hx:∀x∈xs,x<L0∧0<ln0 x) (hP:PTc w s.pt M0 ln0 L0) (ho:s.out=so) (hlt:ol.length<xs.length) :
  (nz (some ⟨g,0,none⟩) fun (p151:Addr)=>ld .S (Addr.add p151 256) fun (s152:Sl)=>nz (some ⟨g,0,none⟩) fun (p153:Addr)=>st (Addr.add p153 258) (.slice s152.a s152.l s152.c)<|nz (some ⟨g,0,none⟩) fun (p154:Addr)=>ld .S (Addr.add p154 256) fun (s155:Sl)=>K3 (s155,true,.nilIface)) w:=by
 refine ⟨_,rfl,?_⟩
 simp only [add_mk,Nat.zero_add]
 refine ld_b (t := .S) (x:=s.out) Q.blk rfl ⟨_,rfl,?_⟩
 simp only [add_mk,Nat.zero_add]
 refine st_u Q.blk rfl rfl ?_
 intro w1 B1 F1
 have B1':=B1.congr (HU.setT (s' := { s with outD:=s.out }) 2 rfl rfl rfl (by decide))
 refine ⟨_,rfl,?_⟩
 simp only [add_mk,Nat.zero_add]
 refine ld_b (t := .S) (x:=s.out) B1' rfl ?_
 have Q1:=Q.self F1 B1' rfl rfl rfl rfl rfl rfl rfl rfl rfl rfl rfl rfl
 exact k.r w1 { s with outD:=s.out } col s.out ol hr hEn hx hlt rfl Q1.oP Q1.hw (Q.ptG F1 hP) hT ⟨rfl,rfl,rfl⟩ (Q.mvG F1).go
theorem rs_end0 {s0:HU} {col0:Nat→Nat} {w0:World} (hT:s0.outT=⟨none,0,0⟩) (T:TX w0 col0 s1 xs fc Enc) (Q:HQ w0 g s0 col0 n cnt L []) (k:KE w0 g s0 col0 xs Enc M0 ln0 L0 K3) (hr:s0.reuse≠2) (hx:∀x∈xs,x<L0∧0<ln0 x) (hP:PTc w0 s0.pt M0 ln0 L0) (h2:2≤xs.length) :
  (nz (some ⟨g,0,none⟩) fun (p134:Addr)=>ld .S (Addr.add p134 271) fun (s135:Sl)=>nz (some ⟨g,0,none⟩) fun (p136:Addr)=>ld (.I .u8) (Addr.add p136 268) fun (n137:Int)=>nz (some ⟨g,0,none⟩) fun (p138:Addr)=>ld .S (Addr.add p138 270) fun (s139:Sl)=>nz (some ⟨g,0,none⟩) fun (p140:Addr)=>st (Addr.add p140 271) (.slice s139.a s139.l s139.c)<|nz (some ⟨g,0,none⟩) fun (p141:Addr)=>ld (.I .u8) (Addr.add p141 269) fun (n142:Int)=>nz (some ⟨g,0,none⟩) fun (p143:Addr)=>st (Addr.add p143 268) (.int .u8 n142)<|callV Tryd.prog (.func (.func fc) #[.pointer (some ⟨g,0,none⟩)] #[]) #[(.slice s1.a s1.l s1.c)] [.c .S,.c .V] fun (r144:Sl×Value)=>nz (some ⟨g,0,none⟩) fun (p145:Addr)=>st (Addr.add p145 256) (.slice r144.1.a r144.1.l r144.1.c)<|nz (some ⟨g,0,none⟩) fun (p146:Addr)=>st (Addr.add p146 271) (.slice s135.a s135.l s135.c)<|nz (some ⟨g,0,none⟩) fun (p147:Addr)=>st (Addr.add p147 268) (.int .u8 n137)<|req (isIf r144.2=true)<|cnd (!(isNil r144.2)) (K3 (⟨none,0,0⟩,false,r144.2)) (nz (some ⟨g,0,none⟩) fun (p148:Addr)=>ld .S (Addr.add p148 256) fun (s149:Sl)=>cnd (decide (((xs.length:Nat):Int)≤(s149.l:Int))) (drw<|ld .V ⟨0,0,none⟩ fun (v150:Value)=>K3 (⟨none,0,0⟩,false,v150)) (nz (some ⟨g,0,none⟩) fun (p151:Addr)=>ld .S (Addr.add p151 256) fun (s152:Sl)=>nz (some ⟨g,0,none⟩) fun (p153:Addr)=>st (Addr.add p153 258) (.slice s152.a s152.l s152.c)<|nz (some ⟨g,0,none⟩) fun (p154:Addr)=>ld .S (Addr.add p154 256) fun (s155:Sl)=>K3 (s155,true,.nilIface)))) w0:=by
 refine rs_step (K:=fun r144=>req (isIf r144.2=true)<|cnd (!(isNil r144.2)) (K3 (⟨none,0,0⟩,false,r144.2)) (nz (some ⟨g,0,none⟩) fun (p148:Addr)=>ld .S (Addr.add p148 256) fun (s149:Sl)=>cnd (decide (((xs.length:Nat):Int)≤(s149.l:Int))) (drw<|ld .V ⟨0,0,none⟩ fun (v150:Value)=>K3 (⟨none,0,0⟩,false,v150)) (nz (some ⟨g,0,none⟩) fun (p151:Addr)=>ld .S (Addr.add p151 256) fun (s152:Sl)=>nz (some ⟨g,0,none⟩) fun (p153:Addr)=>st (Addr.add p153 258) (.slice s152.a s152.l s152.c)<|nz (some ⟨g,0,none⟩) fun (p154:Addr)=>ld .S (Addr.add p154 256) fun (s155:Sl)=>K3 (s155,true,.nilIface)))) T.hC T.hfn Q hP hx T.src T.far h2 T.le (by simp) ?_ ?_
 ·intro _ w' s' col' v hv es Q' G' _ _
  subst es
  exact ⟨isPE.ifc hv.2,err_cnd (isPE.nil hv.2) (k.e w' _ col' v hv (fun h=>absurd h hr) Q'.hw hT ⟨rfl,rfl,rfl⟩ G')⟩
 ·intro w' s' col' so ol hEn es Q' G' hP' _
  subst es
  have hol:so.l=ol.length:=Q'.oP.len
  have k':=k.go (s' := { s0 with out:=so }) G' ⟨rfl,rfl,rfl⟩
  refine ⟨rfl,nil_cnd ⟨_,rfl,?_⟩⟩
  simp only [add_mk,Nat.zero_add]
  refine ld_b (t := .S) (x:=so) Q'.blk rfl (cnd_d (fun _ => ?_) (fun hlt => ?_))
  ·exact err_hw (by decide) Q'.hw (fun w2 v hv W2 G2=>k'.e w2 _ col' v hv (fun h=>absurd h hr) W2 hT ⟨rfl,rfl,rfl⟩ G2)
  ·exact rs_take (s := { s0 with out:=so }) (x25:=0) (so:=so) (ol:=ol) hT Q' k' hr hEn hx hP' rfl (by omega)
theorem j88_J7 {M:Nat} {ln:Nat→Nat} {x19:Int×Bool} (hcn:CntOK xs) (hp2:s.reuse=2→pre = []) (hT:s.outT=⟨none,0,0⟩) (T:TX w col s1 xs fc Enc) (Q:HQ w g s col n (fun i=>xs.count i) L pre) (k:KE w g s col xs Enc M0 ln0 L0 K3) (hr3:s.reuse≠3) (hLR:∀t:Nat,s.tl=(t:Nat)→LenR (fun i=>xs.count i) L xs.length t M ln) (hN:NT xs M ln L) (hP:PTc w s.ct M ln L) (hat:s.atl=(M:Nat)) (h2:2≤xs.length) (hpre:pre = []∨(s.reuse≠0∧xs.length≤pre.length∧pre.length≤2^19))
  (hb:s.reuse=0→x19.2=true→(∀x∈xs,x<L0∧0<ln0 x)∧PTc w s.pt M0 ln0 L0) :
  q88_J7 s1 (some ⟨g,0,none⟩) (.func (.func fc) #[.pointer (some ⟨g,0,none⟩)] #[]) K3 x19 (xs.length:Nat) () w:=by
 have hx:∀x∈xs,x<L∧0<ln x:=by
  intro x hx
  have h1:0<xs.count x:=List.count_pos_iff.mpr hx
  have h3:x<L:=Classical.byContradiction fun h=>by have:=hN.out x (by omega);omega
  exact ⟨h3,(hN.h.pos x h3).mpr h1⟩
 have fin:∀w',Fm w w' []→q88_J5 s1 (some ⟨g,0,none⟩) (.func (.func fc) #[.pointer (some ⟨g,0,none⟩)] #[]) K3 (xs.length:Nat) () w':=by
  intro w' F'
  have Q':=Q.em F'
  have G':=Q.goE F'
  have T':=T.go G'
  have k':=k.go (s':=s) G' (SK.refl s)
  refine j88_J5 T'.hC T'.hfn T'.hE Q' (hP.mv F' (by simp)) hat hN.l2 hx T'.src T'.far h2 T'.le (hpre.imp id (fun h=>h.2)) (fun w2 s2 col2 v h1 hW h2 h3 h4 h5=>k'.e w2 s2 col2 v h1 (fun h t ht => .inr ⟨M,ln,L,hN,hLR t ht,hW (hp2 h)⟩) h2 h3 h4 h5) ?_
  intro w2 s2 col2 so tbl ol hTL h1 h2 h3 h4 h5 h6 h7 h8 hc h9 h10 h11 h12
  exact k'.t w2 s2 col2 so M ln L tbl ol hr3 hcn hTL hLR hN h1 h2 h3 h4 h5 h6 h7 h8 hc h9 h10 h11 h12
 unfold q88_J7
 refine joinP_id ?_
 unfold q88_X6
 refine ⟨_,rfl,?_⟩
 simp only [add_mk,Nat.zero_add]
 refine ld_b (t := .I .u8) (x:=s.reuse) Q.blk rfl (cnd_d (fun hr0 => ?_) (fun _=>fin w (Fm.refl _ _)))
 refine ⟨fun hbt => ?_,fun _=>fin w (Fm.refl _ _)⟩
 obtain ⟨hx0,hP0⟩:=hb hr0 hbt
 have hpn:pre = []:=hpre.elim id (fun h=>absurd hr0 h.1)
 subst hpn
 have hr2:s.reuse≠2:=by rw [hr0];decide
 obtain ⟨qb,pc,e0,_⟩:=hP0.tb
 obtain ⟨tb,pc1,e1,_⟩:=hP.tb
 have hLL:L≤L0:=by
  have h1:=hN.last
  have h3:=hx0 (L-1) (List.count_pos_iff.mp h1)
  have:=hN.l2
  omega
 have hl1:=Q.sc.l1
 have hl256:=Q.sc.l256
 have hsyat:s.at 265=some (.int .u16 ((L:Nat):Int)):=by show some (Value.int .u16 s.symL)=_;rw [Q.sc.sym]
 refine ⟨_,rfl,?_⟩
 simp only [add_mk,Nat.zero_add]
 refine ld_b (t := .S) (x:=s.out) Q.blk rfl ?_
 have Fd:Fm w w.drew []:=(Fm.refl w []).drew
 unfold drw
 refine ⟨_,rfl,?_⟩
 simp only [add_mk,Nat.zero_add]
 refine ld_b (t := .S) (x:=s.pt) Q.blk.drew rfl ?_
 rw [e0]
 refine ⟨_,rfl,⟨_,rfl,?_⟩⟩
 simp only [add_mk,Nat.zero_add]
 refine ld_b (t := .I .u16) (x:=((L:Nat):Int)) Q.blk.drew hsyat ?_
 refine slcA_hi rfl (by omega) (by omega) ?_
 refine c119q (Q.em Fd) (hP0.mv Fd (by simp)) e0 hLL ?_
 intro w1 r1 F1
 have F1d:Fm w w1.drew []:=(Fd.trans F1 (by simp)).drew
 have Q1:=Q.em F1d
 refine ⟨_,rfl,?_⟩
 simp only [add_mk,Nat.zero_add]
 refine ld_b (t := .S) (x:=s.ct) Q1.blk rfl ?_
 rw [e1]
 refine ⟨_,rfl,⟨_,rfl,?_⟩⟩
 simp only [add_mk,Nat.zero_add]
 refine ld_b (t := .I .u16) (x:=((L:Nat):Int)) Q1.blk hsyat ?_
 refine slcA_hi rfl (by omega) (by omega) ?_
 refine c119q Q1 (hP.mv F1d (by simp)) e1 (Nat.le_refl _) ?_
 intro w2 r2 F2
 have F02:Fm w w2 []:=F1d.trans F2 (by simp)
 have Q2:=Q.em F02
 have G2:=Q.goE F02
 have k2:=k.go (s':=s) G2 (SK.refl s)
 have take:=rs_end0 hT (T.go G2) Q2 k2 hr2 hx0 (hP0.mv F02 (by simp)) h2
 refine cnd_d (fun _=>take) (fun _=>cnd_d (fun _=>take) (fun _=>fin w2 F02))
theorem j88_J8 {x19:Int×Bool} (hcn:CntOK xs) (hp2:s.reuse=2→pre = []) (hr3:s.reuse≠3) (hT:s.outT=⟨none,0,0⟩) (T:TX w col s1 xs fc Enc) (Q:HQ w g s col xs.length (fun i=>xs.count i) L pre) (k:KE w g s col xs Enc M0 ln0 L0 K3) (hl:2≤L∧(∀i,L≤i→xs.count i=0)∧0<xs.count (L-1)∧∃a,a<L-1∧0<xs.count a) (h2:2≤xs.length) (hpre:pre = []∨(s.reuse≠0∧xs.length≤pre.length∧pre.length≤2^19))
  (hb:s.reuse=0→x19.2=true→(∀x∈xs,x<L0∧0<ln0 x)∧PTc w s.pt M0 ln0 L0) :
  q88_J8 s1 (some ⟨g,0,none⟩) (.func (.func fc) #[.pointer (some ⟨g,0,none⟩)] #[]) K3 x19 (xs.length:Nat) () w:=by
 obtain ⟨hL2,hout,hlast,a,ha,ha2⟩:=hl
 have hle:=T.le
 have hsum:=sF_count L xs
 unfold q88_J8
 refine c91q Q (by omega) ⟨a,L-1,by omega,by omega,by omega,ha2,hlast⟩ hsum (by omega) ?_
 intro w' s' col' M ln HTc hLR Q' hP hat hpt hpts hK ho hr hoT G
 refine ⟨rfl,nil_cnd ?_⟩
 refine joinP_id ?_
 refine j88_J7 (M:=M) (ln:=ln) hcn (fun h=>hp2 (hr.symm.trans h)) (hoT.trans hT) (T.go G) Q' (k.go G hK) (by rw [hr];exact hr3) (fun t ht=>hLR t (hK.tl.symm.trans ht)) ⟨HTc,hL2,Q.sc.l256,hout,hlast,a,ha,ha2⟩ hP hat h2 (hpre.imp id (fun h=>⟨by rw [hr];exact h.1,h.2⟩)) ?_
 intro h1 h3
 obtain ⟨h4,h5⟩:=hb (hr▸h1) h3
 exact ⟨h4,hpts _ _ _ h5⟩
end
section
variable {w:World} {g n L M0 L0:Nat} {s:HU} {s1:Sl} {xs pre:List Nat} {col:Nat→Nat} {cnt ln0:Nat→Nat} {fc:FuncId} {Enc:(Nat→Nat)→(Nat→Nat)→List Nat→List Nat→Prop} {K3:Sl×Bool×Value→PT}
theorem HQ.pt0 {w':World} (Q:HQ w g s col n cnt L pre) (F:Fm w w' [g]) (B:Blk w' g ({ s with pt:=⟨s.pt.a,0,s.pt.c⟩ } : HU).at):HQ w' g { s with pt:=⟨s.pt.a,0,s.pt.c⟩ } col n cnt L pre:=by
 have n9:∀v ∈ [g],9≤v:=by intro v hv;simp at hv;subst hv;exact Q.g9
 have pb:=Q.pt.mv F (Q.keepG (by decide))
 refine ⟨⟨B,Q.cg,Q.low,Q.out.mv F (Q.keepG (by decide)),.inr (Q.nodP.mv F (Q.keepG (by decide))),Q.ct.mv F (Q.keepG (by decide)),⟨?_,pb.co⟩,.inl rfl,.inr (Q.fseP.mv F (Q.keepG (by decide))),Q.gl.fm F n9,fun i hi=>(Q.er i hi).fm F (fun h=>by have:=n9 i h;omega),Q.mx,.inl Q.ccT⟩,Q.oP.fr F (fun b hb=>(Q.keepG (r:=2) (by decide)).out (Q.out2 b hb) (Q.oP.lt b hb)),Q.nodP.mv F (Q.keepG (by decide)),Q.fseP.mv F (Q.keepG (by decide)),Q.srcN,Q.tlP,⟨Q.sc.sym,Q.sc.l1,Q.sc.l256,Q.sc.cn,Q.sc.lt⟩,Q.ccT,Q.wl⟩
 obtain ⟨h1,h2,h3⟩:=pb.own
 exact ⟨Nat.zero_le _,h2,h3⟩
theorem HW.pt0 {w':World} (Q:HW w g s col) (F:Fm w w' [g]) (B:Blk w' g ({ s with pt:=⟨s.pt.a,0,s.pt.c⟩ } : HU).at):HW w' g { s with pt:=⟨s.pt.a,0,s.pt.c⟩ } col:=by
 have n9:∀v ∈ [g],9≤v:=by intro v hv;simp at hv;subst hv;exact Q.g9
 have pb:=Q.pt.mv F (Q.keepG (by decide))
 refine ⟨B,Q.cg,Q.low,Q.out.mv F (Q.keepG (by decide)),Q.nod.imp id (fun h=>h.mv F (Q.keepG (by decide))),Q.ct.mv F (Q.keepG (by decide)),⟨?_,pb.co⟩,.inl rfl,Q.fse.imp id (fun h=>h.mv F (Q.keepG (by decide))),Q.gl.fm F n9,fun i hi=>(Q.er i hi).fm F (fun h=>by have:=n9 i h;omega),Q.mx,Q.cz⟩
 obtain ⟨h1,h2,h3⟩:=pb.own
 exact ⟨Nat.zero_le _,h2,h3⟩
theorem rs_fall {R:Unit→PT} (hT:s.outT=⟨none,0,0⟩) (Q:HQ w g s col n cnt L pre) (k:KE w g s col xs Enc M0 ln0 L0 K3) (hk:s.reuse≠3→∀w' s' col',s'.outT=⟨none,0,0⟩→HQ w' g s' col' n cnt L pre→SK s s'→GoW w w' col col'→R () w') :
  (nz (some ⟨g,0,none⟩) fun (p272:Addr)=>ld (.I .u8) (Addr.add p272 263) fun (n273:Int)=>cnd (decide (n273=(3:Int))) (drw<|ld .V ⟨0,0,none⟩ fun (v274:Value)=>K3 (⟨none,0,0⟩,false,v274)) (nz (some ⟨g,0,none⟩) fun (p275:Addr)=>ld .S (Addr.add p275 270) fun (s276:Sl)=>slc 2 s276 none (some (0:Int)) none fun (s277:Sl)=>nz (some ⟨g,0,none⟩) fun (p278:Addr)=>st (Addr.add p278 270) (.slice s277.a s277.l s277.c)<|R ())) w:=by
 refine ⟨_,rfl,?_⟩
 simp only [add_mk,Nat.zero_add]
 refine ld_b (t := .I .u8) (x:=s.reuse) Q.blk rfl (cnd_d (fun h3 => ?_) (fun h3=>⟨_,rfl,?_⟩))
 ·exact err_hw (by decide) Q.hw (fun w2 v hv W2 G2=>k.e w2 _ col v hv (fun h=>absurd (h3.symm.trans h) (by decide)) W2 hT (SK.refl s) G2)
 ·simp only [add_mk,Nat.zero_add]
  refine ld_b (t := .S) (x:=s.pt) Q.blk rfl ?_
  refine slc_hi (m:=0) rfl (Nat.zero_le _) ⟨_,rfl,?_⟩
  simp only [add_mk,Nat.zero_add]
  refine st_u Q.blk rfl rfl ?_
  intro w1 B1 F1
  have B1':=B1.congr (HU.setT (s' := { s with pt:=⟨s.pt.a,0,s.pt.c⟩ }) 14 rfl rfl rfl (by decide))
  exact hk h3 w1 { s with pt:=⟨s.pt.a,0,s.pt.c⟩ } col hT (Q.pt0 F1 B1') ⟨rfl,rfl,rfl⟩ (Q.mvG F1).go
theorem rs_end1 {R:Unit→PT} (hT:s.outT=⟨none,0,0⟩) (T:TX w col s1 xs fc Enc) (Q:HQ w g s col n cnt L []) (k:KE w g s col xs Enc M0 ln0 L0 K3) (hr:s.reuse≠2) (hx:∀x∈xs,x<L0∧0<ln0 x) (hP:PTc w s.pt M0 ln0 L0) (h2:2≤xs.length)
  (hk:s.reuse≠3→∀w' s' col' pre,s'.outT=⟨none,0,0⟩→(pre = []∨(xs.length≤pre.length∧pre.length≤2^19))→HQ w' g s' col' n cnt L pre→SK s s'→GoW w w' col col'→R () w') :
  (nz (some ⟨g,0,none⟩) fun (p214:Addr)=>ld .S (Addr.add p214 271) fun (s215:Sl)=>nz (some ⟨g,0,none⟩) fun (p216:Addr)=>ld (.I .u8) (Addr.add p216 268) fun (n217:Int)=>nz (some ⟨g,0,none⟩) fun (p218:Addr)=>ld .S (Addr.add p218 270) fun (s219:Sl)=>nz (some ⟨g,0,none⟩) fun (p220:Addr)=>st (Addr.add p220 271) (.slice s219.a s219.l s219.c)<|nz (some ⟨g,0,none⟩) fun (p221:Addr)=>ld (.I .u8) (Addr.add p221 269) fun (n222:Int)=>nz (some ⟨g,0,none⟩) fun (p223:Addr)=>st (Addr.add p223 268) (.int .u8 n222)<|callV Tryd.prog (.func (.func fc) #[.pointer (some ⟨g,0,none⟩)] #[]) #[(.slice s1.a s1.l s1.c)] [.c .S,.c .V] fun (r224:Sl×Value)=>nz (some ⟨g,0,none⟩) fun (p225:Addr)=>st (Addr.add p225 256) (.slice r224.1.a r224.1.l r224.1.c)<|nz (some ⟨g,0,none⟩) fun (p226:Addr)=>st (Addr.add p226 271) (.slice s215.a s215.l s215.c)<|nz (some ⟨g,0,none⟩) fun (p227:Addr)=>st (Addr.add p227 268) (.int .u8 n217)<|req (isIf r224.2=true)<|cnd (isNil r224.2) (nz (some ⟨g,0,none⟩) fun (p228:Addr)=>ld .S (Addr.add p228 256) fun (s229:Sl)=>cnd (decide ((s229.l:Int)<((xs.length:Nat):Int))) (nz (some ⟨g,0,none⟩) fun (p230:Addr)=>ld .S (Addr.add p230 256) fun (s231:Sl)=>nz (some ⟨g,0,none⟩) fun (p232:Addr)=>st (Addr.add p232 258) (.slice s231.a s231.l s231.c)<|nz (some ⟨g,0,none⟩) fun (p233:Addr)=>ld .S (Addr.add p233 256) fun (s234:Sl)=>K3 (s234,true,.nilIface)) (nz (some ⟨g,0,none⟩) fun (p235:Addr)=>ld (.I .u8) (Addr.add p235 263) fun (n236:Int)=>cnd (decide (n236=(3:Int))) (drw<|ld .V ⟨0,0,none⟩ fun (v237:Value)=>K3 (⟨none,0,0⟩,false,v237)) (nz (some ⟨g,0,none⟩) fun (p238:Addr)=>ld .S (Addr.add p238 270) fun (s239:Sl)=>slc 2 s239 none (some (0:Int)) none fun (s240:Sl)=>nz (some ⟨g,0,none⟩) fun (p241:Addr)=>st (Addr.add p241 270) (.slice s240.a s240.l s240.c)<|R ()))) (nz (some ⟨g,0,none⟩) fun (p242:Addr)=>ld (.I .u8) (Addr.add p242 263) fun (n243:Int)=>cnd (decide (n243=(3:Int))) (drw<|ld .V ⟨0,0,none⟩ fun (v244:Value)=>K3 (⟨none,0,0⟩,false,v244)) (nz (some ⟨g,0,none⟩) fun (p245:Addr)=>ld .S (Addr.add p245 270) fun (s246:Sl)=>slc 2 s246 none (some (0:Int)) none fun (s247:Sl)=>nz (some ⟨g,0,none⟩) fun (p248:Addr)=>st (Addr.add p248 270) (.slice s247.a s247.l s247.c)<|R ()))) w:=by
 refine rs_step (K:=fun r224=>req (isIf r224.2=true)<|cnd (isNil r224.2) (nz (some ⟨g,0,none⟩) fun (p228:Addr)=>ld .S (Addr.add p228 256) fun (s229:Sl)=>cnd (decide ((s229.l:Int)<((xs.length:Nat):Int))) (nz (some ⟨g,0,none⟩) fun (p230:Addr)=>ld .S (Addr.add p230 256) fun (s231:Sl)=>nz (some ⟨g,0,none⟩) fun (p232:Addr)=>st (Addr.add p232 258) (.slice s231.a s231.l s231.c)<|nz (some ⟨g,0,none⟩) fun (p233:Addr)=>ld .S (Addr.add p233 256) fun (s234:Sl)=>K3 (s234,true,.nilIface)) (nz (some ⟨g,0,none⟩) fun (p235:Addr)=>ld (.I .u8) (Addr.add p235 263) fun (n236:Int)=>cnd (decide (n236=(3:Int))) (drw<|ld .V ⟨0,0,none⟩ fun (v237:Value)=>K3 (⟨none,0,0⟩,false,v237)) (nz (some ⟨g,0,none⟩) fun (p238:Addr)=>ld .S (Addr.add p238 270) fun (s239:Sl)=>slc 2 s239 none (some (0:Int)) none fun (s240:Sl)=>nz (some ⟨g,0,none⟩) fun (p241:Addr)=>st (Addr.add p241 270) (.slice s240.a s240.l s240.c)<|R ()))) (nz (some ⟨g,0,none⟩) fun (p242:Addr)=>ld (.I .u8) (Addr.add p242 263) fun (n243:Int)=>cnd (decide (n243=(3:Int))) (drw<|ld .V ⟨0,0,none⟩ fun (v244:Value)=>K3 (⟨none,0,0⟩,false,v244)) (nz (some ⟨g,0,none⟩) fun (p245:Addr)=>ld .S (Addr.add p245 270) fun (s246:Sl)=>slc 2 s246 none (some (0:Int)) none fun (s247:Sl)=>nz (some ⟨g,0,none⟩) fun (p248:Addr)=>st (Addr.add p248 270) (.slice s247.a s247.l s247.c)<|R ()))) T.hC T.hfn Q hP hx T.src T.far h2 T.le (by simp) ?_ ?_
 ·intro _ w' s' col' v hv es Q' G' _ _
  subst es
  refine ⟨isPE.ifc hv.2,⟨fun h=>(by rw [isPE.nil hv.2] at h;cases h),fun _ => ?_⟩⟩
  refine rs_fall (s := { s with out:=⟨none,0,0⟩ }) hT Q' (k.go G' ⟨rfl,rfl,rfl⟩) ?_
  intro h3 w2 s2 col2 hT2 Q2 S2 G2
  exact hk h3 w2 s2 col2 [] hT2 (.inl rfl) Q2 ⟨S2.reuse,S2.wll,S2.tl⟩ (G'.trans G2)
 ·intro w' s' col' so ol hEn es Q' G' hP' _
  subst es
  have hol:so.l=ol.length:=Q'.oP.len
  have k':=k.go (s' := { s with out:=so }) G' ⟨rfl,rfl,rfl⟩
  refine ⟨rfl,⟨fun _=>⟨_,rfl,?_⟩,fun h=>by cases h⟩⟩
  simp only [add_mk,Nat.zero_add]
  refine ld_b (t := .S) (x:=so) Q'.blk rfl (cnd_d (fun hlt => ?_) (fun hge => ?_))
  ·exact rs_take (s := { s with out:=so }) (so:=so) (x25:=0) (ol:=ol) hT Q' k' hr hEn hx hP' rfl (by omega)
  ·refine rs_fall (s := { s with out:=so }) hT Q' k' ?_
   intro h3 w2 s2 col2 hT2 Q2 S2 G2
   refine hk h3 w2 s2 col2 ol hT2 (.inr ⟨by omega,?_⟩) Q2 ⟨S2.reuse,S2.wll,S2.tl⟩ (G'.trans G2)
   refine T.hE _ _ _ _ hEn ?_ T.le
   intro x hx'
   obtain ⟨_,_,_,cnt',_,_,_,_,HTc,_⟩:=hP
   have h1:=HTc.le x (hx x hx').1
   have h2:=HTc.m11
   omega
theorem j88_X9 {x19:Int×Bool} (hcn:CntOK xs) (hX3:s.reuse=3→x19.2=true) (hT:s.outT=⟨none,0,0⟩) (T:TX w col s1 xs fc Enc) (Q:HQ w g s col xs.length (fun i=>xs.count i) L []) (k:KE w g s col xs Enc M0 ln0 L0 K3) (hl:2≤L∧(∀i,L≤i→xs.count i=0)∧0<xs.count (L-1)∧∃a,a<L-1∧0<xs.count a) (h2:2≤xs.length)
  (hb:x19.2=true→s.reuse≠2∧(∀x∈xs,x<L0∧0<ln0 x)∧PTc w s.pt M0 ln0 L0) :
  q88_X9 s1 (some ⟨g,0,none⟩) (.func (.func fc) #[.pointer (some ⟨g,0,none⟩)] #[]) K3 x19 (xs.length:Nat) (q88_J8 s1 (some ⟨g,0,none⟩) (.func (.func fc) #[.pointer (some ⟨g,0,none⟩)] #[]) K3 x19 (xs.length:Nat)) w:=by
 have plain:s.reuse≠3→q88_J8 s1 (some ⟨g,0,none⟩) (.func (.func fc) #[.pointer (some ⟨g,0,none⟩)] #[]) K3 x19 (xs.length:Nat) () w:=fun hr3=>j88_J8 hcn (fun _=>rfl) hr3 hT T Q k hl h2 (.inl rfl) (fun _ h=>(hb h).2)
 have again:s.reuse≠0→s.reuse≠2→s.reuse≠3→∀w' s' col' pre,s'.outT=⟨none,0,0⟩→(pre = []∨(xs.length≤pre.length∧pre.length≤2^19))→HQ w' g s' col' xs.length (fun i=>xs.count i) L pre→SK s s'→GoW w w' col col'→q88_J8 s1 (some ⟨g,0,none⟩) (.func (.func fc) #[.pointer (some ⟨g,0,none⟩)] #[]) K3 x19 (xs.length:Nat) () w':=by
  intro h0 h02 hr3 w' s' col' pre hT' hpre Q' S' G'
  exact j88_J8 hcn (fun h=>absurd (S'.reuse.symm.trans h) h02) (by rw [S'.reuse];exact hr3) hT' (T.go G') Q' (k.go G' S') hl h2 (hpre.imp id (fun h=>⟨by rw [S'.reuse];exact h0,h.1,h.2⟩)) (fun h _=>absurd (S'.reuse▸h) h0)
 unfold q88_X9
 refine ⟨_,rfl,?_⟩
 simp only [add_mk,Nat.zero_add]
 refine ld_b (t := .I .u8) (x:=s.reuse) Q.blk rfl (cnd_d (fun h1=>⟨fun hbt => ?_,fun _=>plain (by rw [h1];decide)⟩) (fun _=>⟨_,rfl,?_⟩))
 ·obtain ⟨hr,hx,hP⟩:=hb hbt
  exact rs_end1 hT T Q k hr hx hP h2 (again (by rw [h1];decide) (by rw [h1];decide))
 ·simp only [add_mk,Nat.zero_add]
  refine ld_b (t := .I .u8) (x:=s.reuse) Q.blk rfl (cnd_d (fun h3=>⟨fun hbt => ?_,fun hbf=>absurd (hX3 h3) (by rw [hbf];decide)⟩) (fun h3=>plain h3))
  obtain ⟨hr,hx,hP⟩:=hb hbt
  exact rs_end1 hT T Q k hr hx hP h2 (again (by rw [h3];decide) (by rw [h3];decide))
theorem c88 (T:TX w col s1 xs fc Enc) (W:HP w g s col xs.length) (hp:s.pt.l=0∨PTc w s.pt M0 ln0 L0) (hwl:s.wll=0) (k:KE w g s col xs Enc M0 ln0 L0 K3) :
  callP Tryd.prog 88 #[.slice s1.a s1.l s1.c,.pointer (some ⟨g,0,none⟩),.func (.func fc) #[.pointer (some ⟨g,0,none⟩)] #[]] [.c .S,.c .B,.c .V] K3 w:=by
 apply q88_ok
 unfold q88
 refine joinP_id ?_
 have body:∀(w1:World) (sA:HU),HP w1 g sA col xs.length→SK s sA→GoW w w1 col col→(sA.pt.l=0∨(s.reuse≠2∧PTc w1 sA.pt M0 ln0 L0))→q88_J12 s1 (some ⟨g,0,none⟩) (.func (.func fc) #[.pointer (some ⟨g,0,none⟩)] #[]) K3 () w1:=by
  intro w1 sA W1 S1 G1 hp1
  have T1:=T.go G1
  have k1:=k.go G1 S1
  have hsl:=T1.src.len
  have hle:=T1.le
  unfold q88_J12
  refine ⟨_,rfl,?_⟩
  simp only [add_mk,Nat.zero_add]
  refine ld_b (t := .I .i64) (x:=sA.maxC) W1.blk rfl ?_
  refine joinP_id ?_
  refine cnd_d (fun _ => ?_) (fun h=>absurd W1.mx h)
  have go:∀(w2:World) (sB:HU) (m:Nat) (b:Bool),Fm w1 w2 [g]→Blk w2 g sB.at→sB.wll=0 →
    (∀w3,Fm w1 w3 [g]→Blk w3 g ({ sB with cc:=true,maxC:=0 } : HU).at→(cnd (decide (((s1.l:Nat):Int)≤((m:Nat):Int))) (cnd (decide (((s1.l:Nat):Int)<((m:Nat):Int))) (callP Tryd.prog 62 #[(.string ⟨#[109,97,120,67,111,117,110,116,32,62,32,108,101,110,103,116,104]⟩)] [.c .V] fun (r28:Value)=>K3 (⟨none,0,0⟩,false,r28)) (cnd (decide (((s1.l:Nat):Int)=(1:Int))) (drw<|ld .V ⟨0,0,none⟩ fun (v29:Value)=>K3 (⟨none,0,0⟩,false,v29)) (drw<|ld .V ⟨1,0,none⟩ fun (v30:Value)=>K3 (⟨none,0,0⟩,false,v30)))) (cnd (decide (((m:Nat):Int)=(1:Int))) (drw<|ld .V ⟨0,0,none⟩ fun (v31:Value)=>K3 (⟨none,0,0⟩,false,v31)) (req (0≤(7:Int))<|cnd (decide (((m:Nat):Int)<(shrI .i64 ((s1.l:Nat):Int) (7:Int)))) (drw<|ld .V ⟨0,0,none⟩ fun (v32:Value)=>K3 (⟨none,0,0⟩,false,v32)) (nz (some ⟨g,0,none⟩) fun (p33:Addr)=>ld (.I .u8) (Addr.add p33 263) fun (n34:Int)=>cnd (decide (n34=(3:Int))) (cnd (!b) (drw<|ld .V ⟨0,0,none⟩ fun (v35:Value)=>K3 (⟨none,0,0⟩,false,v35)) (joinP (q88_X4 s1 (some ⟨g,0,none⟩) (.func (.func fc) #[.pointer (some ⟨g,0,none⟩)] #[]) K3 (((m:Nat):Int),b) ((s1.l:Nat):Int)) (q88_J3 s1 (some ⟨g,0,none⟩) (.func (.func fc) #[.pointer (some ⟨g,0,none⟩)] #[]) K3 (((m:Nat):Int),b) ((s1.l:Nat):Int)))) (joinP (q88_X9 s1 (some ⟨g,0,none⟩) (.func (.func fc) #[.pointer (some ⟨g,0,none⟩)] #[]) K3 (((m:Nat):Int),b) ((s1.l:Nat):Int)) (q88_J8 s1 (some ⟨g,0,none⟩) (.func (.func fc) #[.pointer (some ⟨g,0,none⟩)] #[]) K3 (((m:Nat):Int),b) ((s1.l:Nat):Int))))))) w3) →
    q88_J11 s1 (some ⟨g,0,none⟩) (.func (.func fc) #[.pointer (some ⟨g,0,none⟩)] #[]) K3 (((m:Nat):Int),b) w2:=by
   intro w2 sB m b F2 B2 hwlB h
   unfold q88_J11
   refine joinP_id ⟨_,rfl,?_⟩
   simp only [add_mk,Nat.zero_add]
   refine ld_b (t := .I .u8) (x:=sB.wll) B2 rfl (cnd_d (fun h0=>absurd h0 (by rw [hwlB];decide)) (fun _ => ?_))
   unfold q88_J10
   refine ⟨_,rfl,?_⟩
   simp only [add_mk,Nat.zero_add]
   refine st_u B2 rfl rfl ?_
   intro w3 B3 F3
   have B3':=B3.congr (HU.setT (s' := { sB with cc:=true }) 11 rfl rfl rfl (by decide))
   refine ⟨_,rfl,?_⟩
   simp only [add_mk,Nat.zero_add]
   refine st_u B3' rfl rfl ?_
   intro w4 B4 F4
   have B4':=B4.congr (HU.setT (s' := { sB with cc:=true,maxC:=0 }) 10 rfl rfl rfl (by decide))
   exact h w4 ((F2.trans F3 (fun x hx => .inl hx)).trans F4 (fun x hx => .inl hx)) B4'
  have hown:∀v ∈ [g],v<w1.heap.size→own (col v):=by intro v hv _;simp at hv;subst hv;rw [W1.cg];exact ⟨by decide,by decide⟩
  refine c117p W1.toHW W1.cnt0 T1.src T1.by_ (by omega) T1.far ?_ ?_
  ·-- no bytes
   intro hxe w2 c' b B2 F2
   refine go w2 _ 0 b F2 B2 (S1.wll.trans hwl) ?_
   intro w3 F3 B3
   have h0:s1.l=0:=by rw [hsl,hxe];rfl
   rw [h0]
   have W3:=W1.toHW.same (s' := { sA with count:=c',cc:=true,maxC:=0 }) B3 F3 rfl rfl rfl rfl rfl rfl (.inl rfl)
   have k3:=k1.go (s' := { sA with count:=c',cc:=true,maxC:=0 }) (GoW.of F3 hown (fun _ _=>rfl)) ⟨rfl,rfl,rfl⟩
   refine cnd_d (fun _=>cnd_d (fun h=>absurd h (by decide)) (fun _=>cnd_d (fun h=>absurd h (by decide)) (fun _ => ?_))) (fun h=>absurd h (by decide))
   exact err_hw (by decide) W3 (fun w4 v hv W4 G4=>k3.e w4 _ col v hv (fun _ _ _ => .inl (fun h=>h.ne hxe)) W4 W1.oT0 (SK.refl _) G4)
  ·intro w2 c' b m Lx hxe hM hbt hbf hc B2 F2
   refine go w2 _ m b F2 B2 (S1.wll.trans hwl) ?_
   intro w3 F3 B3
   have W3:=W1.toHW.same (s' := { sA with count:=c',symL:=(Lx:Nat),cc:=true,maxC:=0 }) B3 F3 rfl rfl rfl rfl rfl rfl (.inl rfl)
   have G3:GoW w1 w3 col col:=GoW.of F3 hown (fun _ _=>rfl)
   have T3:=T1.go G3
   have k3:=k1.go (s' := { sA with count:=c',symL:=(Lx:Nat),cc:=true,maxC:=0 }) G3 ⟨rfl,rfl,rfl⟩
   have er:∀i,i<3→(sA.reuse=2→¬CntOK xs)→(drw<|ld .V ⟨i,0,none⟩ fun (v31:Value)=>K3 (⟨none,0,0⟩,false,v31)) w3:=fun i hi hno=>err_hw hi W3 (fun w4 v hv W4 G4=>k3.e w4 _ col v hv (fun h _ _ => .inl (hno h)) W4 W1.oT0 (SK.refl _) G4)
   have eshr:shrI .i64 ((xs.length:Nat):Int) (7:Int)=((xs.length/128:Nat):Int):=by
    rw [show (7:Int)=((7:Nat):Int) from rfl,shrI_nat _ _ _ (by simp only [IntKind.bits];omega)]
   rw [hsl,eshr]
   obtain ⟨ix,_,hix⟩:=hM.ex
   have hix:xs.count ix=m:=hix
   have hmle:xs.count ix≤xs.length:=List.count_le_length
   refine cnd_d (fun hge=>cnd_d (fun h=>by omega) (fun _=>cnd_d (fun _=>er 0 (by decide) (fun _ h=>by have:=(h.at hM).1;omega)) (fun _=>er 1 (by decide) (fun _ h=>by have:=(h.at hM).1;omega)))) (fun hlt => ?_)
   have hm:m<xs.length:=by omega
   have hmp:=hM.pos
   refine cnd_d (fun hm1=>er 0 (by decide) (fun _ h=>by have:=(h.at hM).2.1;omega)) (fun hm1=>⟨by decide,cnd_d (fun hm7=>er 0 (by decide) (fun _ h=>by have:=(h.at hM).2.2;omega)) (fun hm7=>⟨_,rfl,?_⟩)⟩)
   have hcn:CntOK xs:=⟨m,Lx,hM,hm,by omega,by omega⟩
   have hl:=mx_two hM T1.by_ hm
   have h2:2≤xs.length:=by omega
   have Q3:HQ w3 g ({ sA with count:=c',symL:=(Lx:Nat),cc:=true,maxC:=0 } : HU) col xs.length (fun i=>xs.count i) Lx []:=by
    refine ⟨W3,W1.o0.fr F3 (fun b hb=>(W1.toHW.keepG (r:=2) (by decide)).out (W1.out.co b hb) (W1.o0.lt b hb)),W1.nodP.mv F3 (W1.toHW.keepG (by decide)),W1.fseP.mv F3 (W1.toHW.keepG (by decide)),W1.srcN,W1.tlP,⟨rfl,hM.l1,hM.l256,fun i hi=>hc i (by have:=hM.l256;omega),fun i hi => ?_⟩,rfl,S1.wll.trans hwl⟩
    have h1:xs.count i≤m:=hM.le i (by have:=hM.l256;omega)
    show xs.count i<2^18
    omega
   have hP3:∀M1 ln1 L1,PTc w1 sA.pt M1 ln1 L1→PTc w3 sA.pt M1 ln1 L1:=fun M1 ln1 L1 h=>h.mv F3 (fun v hv=>(W1.toHW.keepG (r:=5) (by decide)).out (W1.pt.co v hv) (W1.pt.own.lt v hv))
   have hb3:b=true→s.reuse≠2∧(∀x∈xs,x<L0∧0<ln0 x)∧PTc w3 sA.pt M0 ln0 L0:=by
    intro hb
    obtain ⟨h1,h3⟩:=hbt hb
    rcases hp1 with h4|⟨h4,h5⟩
    ·omega
    ·exact ⟨h4,h3 _ _ _ h5,hP3 _ _ _ h5⟩
   have hX:=fun (hX3:sA.reuse=3→b=true)=>j88_X9 (s := { sA with count:=c',symL:=((Lx:Nat):Int),cc:=true,maxC:=0 }) (x19:=(((m:Nat):Int),b)) hcn hX3 W1.oT0 T3 Q3 k3 hl h2 (fun hb=>by
    obtain ⟨h1,h3,h4⟩:=hb3 hb
    exact ⟨fun e=>h1 (S1.reuse▸e),h3,h4⟩)
   simp only [add_mk,Nat.zero_add]
   refine ld_b (t := .I .u8) (x:=sA.reuse) Q3.blk rfl (cnd_d (fun h33=>⟨fun _=>er 0 (by decide) (fun h=>absurd (h33.symm.trans h) (by decide)),fun hbt => ?_⟩) (fun h3=>joinP_id (hX (fun e=>absurd e h3))))
   exact joinP_id (hX (fun _=>by simpa using hbt))
 refine ⟨_,rfl,?_⟩
 simp only [add_mk,Nat.zero_add]
 refine ld_b (t := .I .u8) (x:=s.reuse) W.blk rfl (cnd_d (fun h2=>⟨_,rfl,?_⟩) (fun h2 => ?_))
 ·simp only [add_mk,Nat.zero_add]
  refine ld_b (t := .S) (x:=s.pt) W.blk rfl ?_
  refine slc_hi (m:=0) rfl (Nat.zero_le _) ⟨_,rfl,?_⟩
  simp only [add_mk,Nat.zero_add]
  refine st_u W.blk rfl rfl ?_
  intro w1 B1 F1
  have B1':=B1.congr (HU.setT (s' := { s with pt:=⟨s.pt.a,0,s.pt.c⟩ }) 14 rfl rfl rfl (by decide))
  have W1:=W.toHW.pt0 F1 B1'
  have kg:=fun r (hr:r≠1)=>W.toHW.keepG (r:=r) hr
  refine body w1 _ ⟨W1,W.o0.fr F1 (fun b hb=>(kg 2 (by decide)).out (W.out.co b hb) (W.o0.lt b hb)),W.oT0,W.nodP.mv F1 (kg 3 (by decide)),W.fseP.mv F1 (kg 6 (by decide)),W.cnt0,W.cc0,W.srcN,W.tlP⟩ ⟨rfl,rfl,rfl⟩ ?_ (.inl rfl)
  exact GoW.of F1 (by intro v hv _;simp at hv;subst hv;rw [W.cg];exact ⟨by decide,by decide⟩) (fun _ _=>rfl)
 ·exact body w s W (SK.refl s) (GoW.refl w col) (hp.imp id (fun h=>⟨h2,h⟩))
end
theorem c47 {w:World} {s0:Sl} {xs:List Nat} {K:Sl→PT} (A:Arr .u8 w s0 xs) (hxs:xs.length≤2^40) (hk:∀w' s',VecU w' s' xs→Fm w w' []→(∀b∈s'.bs,w.heap.size≤b)→K s' w') :
  callP Tryd.prog 47 #[.slice s0.a s0.l s0.c] [.c .S] K w:=by
 apply q47_ok
 unfold q47 nw
 have F1:Fm w (w.alloc (.cells ⟨[]⟩ 5)) []:=(Fm.refl w []).alloc
 have B1:Blk (w.alloc (.cells ⟨[]⟩ 5)) w.heap.size fun i=>(⟨[]⟩:Array Value)[i]? := Blk.new
 have V1:VecU (w.alloc (.cells ⟨[]⟩ 5)) ⟨some ⟨w.heap.size,0,none⟩,0,0⟩ []:=by
  refine ⟨⟨rfl,Nat.le_refl _,fun _=>rfl,?_⟩,?_,show (0:Nat)<2^63 by decide⟩
  ·intro a ha
   injection ha with ha
   subst ha
   exact ⟨rfl,rfl,_,B1,by simp [bytes],by simp⟩
  ·intro a ha i hi
   exact absurd hi (Nat.not_lt_zero _)
 have A1:=A.fr F1 (by simp)
 refine app_vu (xs:=xs) V1 A1.has (by rw [A.len];simp only;omega) ?_
 intro s' w' h1 h2 h3
 rw [List.nil_append] at h1
 have F2:Fm w w' []:=F1.trans h2 (by intro b hb;right;simp [Sl.bs] at hb;omega)
 refine hk w' s' h1 F2 ?_
 intro b hb
 rcases h3 b hb with h|h
 ·simp [Sl.bs] at h;omega
 ·rw [World.size_alloc] at h;omega
structure GE (w:World):Prop where
 gl:GL w
 ob:∀i,i<3→∃a c T,w.cell? ⟨i,0,none⟩=some (.iface 160 (.pointer (some a)))∧w.heap[a.block]? = some (.cells c T (0,0))
theorem GE.er {w:World} (G:GE w) {i:Nat} (hi:i<3):errAt w i:=by
 obtain ⟨a,c,T,h1,_⟩:=G.ob i hi
 exact ⟨_,h1,rfl,rfl⟩
theorem GE.fm {w w':World} (G:GE w) (F:Fm w w' []):GE w':=by
 refine ⟨G.gl.fm F (by simp),?_⟩
 intro i hi
 obtain ⟨a,c,T,h1,h2⟩:=G.ob i hi
 have hl:a.block<w.heap.size:=Classical.byContradiction fun h=>by rw [Array.getElem?_eq_none (by omega)] at h2;cases h2
 refine ⟨a,c,T,?_,by rw [F.old _ hl (by simp)];exact h2⟩
 rw [←h1]
 exact cell?_of_heap (F.old _ (World.block_lt_of_cell? _ _ h1) (by simp)) _ _
theorem und68:(match Tryd.prog.underlying 68 with|some (.interface _)=>true|_=>false)=true:=by kernel_rfl
theorem und160:(match Tryd.prog.underlying 160,Tryd.prog.info? 160 with|some (.pointer te),some i=>i.comparable&&(match Tryd.prog.info? te with|some j=>j.size != 0|none=>false)|_,_=>false)=true:=by kernel_rfl
theorem eq_pe {w:World} {a b:Addr} {ca cb:Array Value} {ta tb:TypeId} {κ:Bool→PT} (ha:w.heap[a.block]? = some (.cells ca ta (0,0))) (hb:w.heap[b.block]? = some (.cells cb tb (0,0))) (hk:∀r:Bool,(a=b→r=true)→κ r w) :
  eqE Cx 68 (.iface 160 (.pointer (some a))) (.iface 160 (.pointer (some b))) κ w:=by
 obtain ⟨ms,hi⟩:∃ms,Tryd.prog.underlying 68=some (.interface ms):=by
  have h:=und68
  split at h
  ·rename_i ms e;exact ⟨ms,e⟩
  ·cases h
 obtain ⟨te,i,j,hp,hinfo,hcomp,hte,hsz⟩:∃te i j,Tryd.prog.underlying 160=some (.pointer te)∧Tryd.prog.info? 160=some i∧i.comparable=true∧Tryd.prog.info? te=some j∧j.size≠0:=by
  have h:=und160
  split at h
  ·rename_i te i e1 e2
   rw [Bool.and_eq_true] at h
   obtain ⟨h1,h2⟩:=h
   split at h2
   ·rename_i j e3
    exact ⟨te,i,j,e1,e2,h1,e3,by simpa using h2⟩
   ·cases h2
  ·cases h
 unfold eqE
 by_cases e:a=b
 ·subst e
  refine ⟨true,?_,hk _ (fun _=>rfl)⟩
  have:=run_eql_iface_ptr_same (P:=Tryd.prog) w a hi hp hinfo hcomp hte
  simpa [eqGuard,show Cx.P=Tryd.prog from rfl] using this
 ·refine ⟨false,?_,hk _ (fun h=>absurd h e)⟩
  have:=run_eql_iface_ptr_other (P:=Tryd.prog) w hi hp hinfo hcomp hte hsz e ha hb
  simpa [eqGuard,show Cx.P=Tryd.prog from rfl] using this
theorem c51 {w:World} {v:Value} {K:Int→PT} (G:GE w) (h:ER w v) (hk:∀k:Int,1≤k→k≤4→(w.cell? ⟨0,0,none⟩=some v→k=1)→K k w):callP Tryd.prog 51 #[v] [.c (.I .i64)] K w:=by
 obtain ⟨a,c,T,rfl,ha⟩:∃a c T,v = .iface 160 (.pointer (some a))∧w.heap[a.block]? = some (.cells c T (0,0)):=by
  rcases h with ⟨⟨i,hi,h1⟩,_⟩|h
  ·obtain ⟨a,c,T,h2,h3⟩:=G.ob i hi
   rw [h2] at h1
   injection h1 with h1
   exact ⟨a,c,T,h1.symm,h3⟩
  ·exact h
 obtain ⟨a0,c0,T0,h00,h01⟩:=G.ob 0 (by decide)
 obtain ⟨a1,c1,T1,h10,h11⟩:=G.ob 1 (by decide)
 obtain ⟨a2,c2,T2,h20,h21⟩:=G.ob 2 (by decide)
 have key:∀ {r:Bool},(a=a0→r=true)→r=false→w.cell? ⟨0,0,none⟩=some (.iface 160 (.pointer (some a)))→∀k:Int,k=1:=by
  intro r h1 h2 h3 k
  rw [h00] at h3
  injection h3 with h3
  injection h3 with _ h3
  injection h3 with h3
  injection h3 with h3
  rw [h1 h3.symm] at h2
  cases h2
 apply q51_ok
 unfold q51
 refine ⟨rfl,fun h=>by simp [isNil] at h,fun _ => ?_⟩
 refine ld_c (t := .V) (x := .iface 160 (.pointer (some a0))) h00 ?_
 refine eq_pe ha h01 (fun r hr=>⟨fun _=>hk 1 (by decide) (by decide) (fun _=>rfl),fun hr0 => ?_⟩)
 refine ld_c (t := .V) (x := .iface 160 (.pointer (some a1))) h10 ?_
 refine eq_pe ha h11 (fun r _=>⟨fun _=>hk 2 (by decide) (by decide) (fun h=>key hr hr0 h 2),fun _ => ?_⟩)
 refine ld_c (t := .V) (x := .iface 160 (.pointer (some a2))) h20 ?_
 exact eq_pe ha h21 (fun r _=>⟨fun _=>hk 3 (by decide) (by decide) (fun h=>key hr hr0 h 3),fun _=>hk 4 (by decide) (by decide) (fun h=>key hr hr0 h 4)⟩)
def EncB (b:Bool):(Nat→Nat)→(Nat→Nat)→List Nat→List Nat→Prop:=fun cd ln xs ol=>if b then Enc4 cd ln xs ol else EncT cd ln xs ol
theorem encB_t:EncB true=Enc4:=by unfold EncB;funext a b c d;simp
theorem encB_f:EncB false=EncT:=by unfold EncB;funext a b c d;simp
theorem hf89:hasFn Tryd.prog 89=true:=by kernel_rfl
theorem hf90:hasFn Tryd.prog 90=true:=by kernel_rfl
structure SX (s s':HU):Prop where
 reuse:s'.reuse=s.reuse
 wll:s'.wll=s.wll
 tl:s'.tl=s.tl∨(s.tl=0∧s'.tl=11)
section
variable {w:World} {g M0 L0 t:Nat} {s:HU} {s1:Sl} {xs:List Nat} {col:Nat→Nat} {ln0:Nat→Nat} {K3:Sl×Bool×Value→PT}
def tlE (t:Nat):Nat:=if t=0 then 11 else t
structure KP (w:World) (g:Nat) (s:HU) (col:Nat→Nat) (xs:List Nat) (b:Bool) (M0:Nat) (ln0:Nat→Nat) (L0:Nat) (K3:Sl×Bool×Value→PT):Prop where
 e:∀w' s' col' v,ER w' v→(s.tl=0∨(5≤s.tl∧s.tl≤11)→EG w' v)→(s.reuse=2→xs.length≤262143→∀t9:Nat,s.tl=(t9:Nat)→(t9=0∨(5≤t9∧t9≤11))→Bad xs (tlE t9) (EncB b))→HW w' g s' col'→(s'.outT=⟨none,0,0⟩∨(s'.outT=s.outT∧Fm w w' [g]∧col'=col))→SX s s'→GoW w w' col col'→K3 (⟨none,0,0⟩,false,v) w'
 r:∀w' s' col' so ol,s.reuse≠2→EncB b (vC ln0 L0 M0) ln0 xs ol→(∀x∈xs,x<L0∧0<ln0 x)→ol.length<xs.length→s'.out=so→VecU w' so ol→HW w' g s' col'→PTc w' s'.pt M0 ln0 L0→s'.outT=⟨none,0,0⟩→SX s s'→GoW w w' col col'→K3 (so,true,.nilIface) w'
 t:∀w' s' col' so M ln L tbl ol,s.reuse≠3→CntOK xs→TL (wtL M ln L) L tbl.length→(∀t9:Nat,s.tl=(t9:Nat)→LenR (fun i=>xs.count i) L xs.length (tlE t9) M ln)→NT xs M ln L→By tbl→weightsZ tbl=some (wtL M ln L,tbl.length)→EncB b (vC ln L M) ln xs ol→tbl.length+ol.length<xs.length→s'.out=so→VecU w' so (tbl++ol)→Arr .u8 w' s'.outT tbl→Arr .u8 w' s'.outD ol→(∀a,s'.outT.a=some a→col' a.block=2)→HW w' g s' col'→PTc w' s'.pt M ln L→SX s s'→GoW w w' col col'→K3 (so,false,.nilIface) w'
theorem c61w {K:Option Addr×Value→PT} (W:HW w g s col) (ht:s.tl=(t:Nat)) (ht2:t<256) (hsrc:Arr .u8 w s1 xs)
  (hk0:(262143<xs.length∨¬(s.tl=0∨(5≤s.tl∧s.tl≤11)))→∀w' s' v,ER w' v→(s.tl=0∨(5≤s.tl∧s.tl≤11)→EG w' v)→HW w' g s' col→s'.outT=s.outT→Fm w w' [g]→SX s s'→GoW w w' col col→K (none,v) w')
  (hk:xs.length≤262143→∀w' s' col',HP w' g s' col' xs.length→SR s s'→GoW w w' col col'→Fm w w' [g]→K (some ⟨g,0,none⟩,.nilIface) w') :
  callP Tryd.prog 61 #[.pointer (some ⟨g,0,none⟩),.slice s1.a s1.l s1.c] [.c .P,.c .V] K w:=by
 have hown:∀v ∈ [g],v<w.heap.size→own (col v):=by intro v hv _;simp at hv;subst hv;rw [W.cg];exact ⟨by decide,by decide⟩
 refine c61 W ht ht2 ?_ ?_
 ·intro hno w' s' v hv hv2 W' R eT F
  rw [hsrc.len] at hno
  exact hk0 hno w' s' v hv hv2 W' eT F ⟨R.reuse,R.wll,R.tl⟩ (GoW.of F hown (fun _ _=>rfl))
 ·intro hl w' s' col' P R hc F
  rw [hsrc.len] at hl P
  exact hk hl w' s' col' P R (GoW.of F hown hc) F
theorem comp_run {fc:FuncId} {b:Bool} (hC:CompOK fc (EncB b) (EncB b≠EncT)) (hfn:hasFn Tryd.prog fc=true) (hE:EncLe (EncB b)) (W:HW w g s col) (hwl:s.wll=0) (hsrc:Arr .u8 w s1 xs) (hby:By xs) (hle:xs.length≤2^18) (far:∀a,s1.a=some a→xs ≠ []→¬own (col a.block)) (hp:s.pt.l=0∨PTc w s.pt M0 ln0 L0) (k:KP w g s col xs b M0 ln0 L0 K3)
  {w':World} {s':HU} {col':Nat→Nat} (P:HP w' g s' col' xs.length) (R:SR s s') (G:GoW w w' col col') (F:Fm w w' [g]) :
  callP Tryd.prog 88 #[.slice s1.a s1.l s1.c,.pointer (some ⟨g,0,none⟩),.func (.func fc) #[.pointer (some ⟨g,0,none⟩)] #[]] [.c .S,.c .B,.c .V] K3 w':=by
 have tr:∀ {s2:HU},SK s' s2→SX s s2:=fun h=>⟨h.reuse.trans R.reuse,h.wll.trans R.wll,by rw [h.tl];exact R.tl⟩
 have htl:∀t9:Nat,s.tl=(t9:Nat)→s'.tl=((tlE t9:Nat):Int):=by
  intro t9 ht9
  obtain ⟨t8,h81,h82,h83⟩:=P.tlP
  unfold tlE
  rcases R.tl with h|⟨h,h'⟩
  ·rw [if_neg (by omega)];omega
  ·rw [if_pos (by omega)];exact h'
 have kg:=W.keepG (r:=5) (by decide)
 refine c88 (M0:=M0) (ln0:=ln0) (L0:=L0) (Enc:=EncB b) ⟨hC,hfn,hE,G.arr hsrc far,hby,G.far hsrc far,hle⟩ P ?_ (R.wll.trans hwl) ⟨?_,?_,?_⟩
 ·rw [R.pt]
  exact hp.imp id (fun h=>h.mv F (fun v hv=>kg.out (W.pt.co v hv) (W.pt.own.lt v hv)))
 ·intro w2 s2 col2 v h1 hB h2 hT h3 h4
  exact k.e w2 s2 col2 v (.inl h1) (fun _=>h1) (fun hr _ t9 ht9 _=>hB (R.reuse.trans hr) (tlE t9) (htl t9 ht9)) h2 (.inl hT) (tr h3) (G.trans h4)
 ·intro w2 s2 col2 so ol h1 h2 h3 h4 h5 h6 h7 h8 hT h9 h10
  exact k.r w2 s2 col2 so ol (by rw [←R.reuse];exact h1) h2 h3 h4 h5 h6 h7 h8 hT (tr h9) (G.trans h10)
 ·intro w2 s2 col2 so M ln L tbl ol hr3 hcn hTL hl h1 h2 h3 h4 h5 h6 h7 h8 h9 hc h10 h11 h12 h13
  have hl':∀t9:Nat,s.tl=(t9:Nat)→LenR (fun i=>xs.count i) L xs.length (tlE t9) M ln:=by
   intro t9 ht9
   exact hl (tlE t9) (htl t9 ht9)
  exact k.t w2 s2 col2 so M ln L tbl ol (by rw [←R.reuse];exact hr3) hcn hTL hl' h1 h2 h3 h4 h5 h6 h7 h8 h9 hc h10 h11 (tr h12) (G.trans h13)
theorem c50 {b:Bool} (W:HW w g s col) (ht:s.tl=(t:Nat)) (ht2:t<256) (hwl:s.wll=0) (hsrc:Arr .u8 w s1 xs) (hby:By xs) (hle:xs.length≤2^18) (far:∀a,s1.a=some a→xs ≠ []→¬own (col a.block)) (hp:s.pt.l=0∨PTc w s.pt M0 ln0 L0) (k:KP w g s col xs b M0 ln0 L0 K3) :
  callP Tryd.prog 50 #[.slice s1.a s1.l s1.c,.pointer (some ⟨g,0,none⟩),.bool b] [.c .S,.c .B,.c .V] K3 w:=by
 apply q50_ok
 unfold q50
 cases b with
 | true =>
  refine ⟨fun _ => ?_,fun h=>by cases h⟩
  apply q70_ok
  unfold q70
  refine c61w W ht ht2 hsrc ?_ ?_
  ·intro hno w' s' v hv hv2 W' eT FT S' G'
   exact ⟨isPE.ifc hv.pe,err_cnd (isPE.nil hv.pe) (k.e w' s' col v hv hv2 (fun _ hl9 t9 ht9 htt=>by
    rcases hno with h|h
    ·omega
    ·exact absurd (by omega) h) W' (.inr ⟨eT,FT,rfl⟩) S' G')⟩
  ·intro hl w' s' col' P R G F
   refine ⟨rfl,nil_cnd ?_⟩
   refine comp_run (b:=true) (by rw [encB_t];exact comp89.of enc4_ne) hf89 (by rw [encB_t];exact encLe89) W hwl hsrc hby hle far hp ⟨k.e,k.r,k.t⟩ P R G F
 | false =>
  refine ⟨(fun h=>by cases h),fun _ => ?_⟩
  apply q71_ok
  unfold q71
  refine c61w W ht ht2 hsrc ?_ ?_
  ·intro hno w' s' v hv hv2 W' eT FT S' G'
   exact ⟨isPE.ifc hv.pe,err_cnd (isPE.nil hv.pe) (k.e w' s' col v hv hv2 (fun _ hl9 t9 ht9 htt=>by
    rcases hno with h|h
    ·omega
    ·exact absurd (by omega) h) W' (.inr ⟨eT,FT,rfl⟩) S' G')⟩
  ·intro hl w' s' col' P R G F
   refine ⟨rfl,nil_cnd ?_⟩
   refine comp_run (b:=false) (by rw [encB_f];exact comp90) hf90 (by rw [encB_f];exact encLe90) W hwl hsrc hby hle far hp ⟨k.e,k.r,k.t⟩ P R G F
end
def colF (g:Nat):Nat→Nat:=fun v=>if v<9 then 0 else if v=g then 1 else 7
theorem HW.fresh {w w1:World} {s:HU} (G:GE w) (F:Fm w w1 []) (B:Blk w1 w.heap.size s.at) (h1:s.out=⟨none,0,0⟩) (h2:s.nodes=⟨none,0,0⟩) (h3:s.ct=⟨none,0,0⟩) (h4:s.pt=⟨none,0,0⟩) (h5:s.fse=none) (h6:s.maxC=0) (h7:∀i,i<256→s.count i=0):HW w1 w.heap.size s (colF w.heap.size):=by
 have h9:=G.gl.size
 have G1:=G.fm F
 refine ⟨B,?_,?_,?_,.inl ?_,?_,?_,.inl ?_,.inl h5,G1.gl,fun i hi=>G1.er hi,h6,.inr h7⟩
 ·unfold colF;rw [if_neg (by omega),if_pos rfl]
 ·intro v hv;unfold colF;rw [if_pos hv]
 ·rw [h1];exact ⟨⟨[],VecU.nil⟩,by simp [Sl.bs]⟩
 ·rw [h2];decide
 ·rw [h3];exact ⟨Own.none,by simp [Sl.bs]⟩
 ·rw [h4];exact ⟨Own.none,by simp [Sl.bs]⟩
 ·rw [h4]
theorem colF_far {g v:Nat} (h:v≠g):¬own (colF g v):=by
 unfold colF own
 by_cases hv:v<9
 ·rw [if_pos hv];omega
 ·rw [if_neg hv,if_neg h];omega
theorem colF_own {g v:Nat} (h:own (colF g v)):v=g:=Classical.byContradiction fun h1=>colF_far h1 h
theorem set_cells (l:List Value) (k:Nat) (v:Value) (h:k<l.length):(fun i=>(⟨List.set l k v⟩:Array Value)[i]?)=updC (fun i=>(⟨l⟩:Array Value)[i]?) k v:=by
 funext i
 simp only [List.getElem?_toArray]
 unfold updC
 by_cases e:i=k
 ·subst e;rw [if_pos rfl,List.getElem?_set_self h]
 ·rw [if_neg e,List.getElem?_set_ne (fun h=>e h.symm)]
theorem z94_len:z94.length=535:=by kernel_rfl
def HU.start (r t l:Int):HU := { HU.zero with reuse:=r,tl:=t,wll:=l }
theorem start_cells (r t l:Int):(fun i=>(⟨(List.set (List.set (List.set z94 263 (.int .u8 r)) 262 (.int .u8 t)) 264 (.int .u8 l))⟩:Array Value)[i]?)=(HU.start r t l).at:=by
 rw [set_cells _ _ _ (by rw [List.length_set,List.length_set,z94_len];decide),set_cells _ _ _ (by rw [List.length_set,z94_len];decide),set_cells _ _ _ (by rw [z94_len];decide),HU.atZ]
 have e1:=HU.setT (s:=HU.zero) (s' := { HU.zero with reuse:=r }) (v := .int .u8 r) 7 rfl rfl rfl (by decide)
 have e2:=HU.setT (s := { HU.zero with reuse:=r }) (s' := { HU.zero with reuse:=r,tl:=t }) (v := .int .u8 t) 6 rfl rfl rfl (by decide)
 have e3:=HU.setT (s := { HU.zero with reuse:=r,tl:=t }) (s':=HU.start r t l) (v := .int .u8 l) 8 rfl rfl rfl (by decide)
 rw [←e3, ←e2, ←e1]
theorem c24 {w:World} {s0:Sl} {xs:List Nat} {b:Bool} {t:Nat} {K4:Sl×Sl×Sl×Int→PT} (G:GE w) (hsrc:Arr .u8 w s0 xs) (hby:By xs) (hle:xs.length≤2^18) (ht:t<256)
  (hk0:∀w' k,1≤k→k≤4→Fm w w' []→K4 (⟨none,0,0⟩,⟨none,0,0⟩,⟨none,0,0⟩,k) w')
  (hk1:∀w' o T D M ln L tbl ol,CntOK xs→TL (wtL M ln L) L tbl.length→NT xs M ln L→LenR (fun i=>xs.count i) L xs.length (tlE t) M ln→By tbl→weightsZ tbl=some (wtL M ln L,tbl.length)→EncB b (vC ln L M) ln xs ol→tbl.length+ol.length<xs.length→VecU w' o (tbl++ol)→VecU w' T tbl→VecU w' D ol→Fm w w' []→K4 (o,T,D,0) w') :
  callP Tryd.prog 24 #[.slice s0.a s0.l s0.c,.bool b,.int .u8 (t:Nat),.int .u8 0] [.c .S,.c .S,.c .S,.c (.I .i64)] K4 w:=by
 apply q24_ok
 unfold q24 nwA
 have F1:Fm w (w.alloc (.cells ⟨(List.set (List.set (List.set z94 263 (.int .u8 (2:Int))) 262 (.int .u8 ((t:Nat):Int))) 264 (.int .u8 (0:Int)))⟩ 94)) []:=(Fm.refl w []).alloc
 have B1:=(Blk.new (w:=w) (cs:=⟨(List.set (List.set (List.set z94 263 (.int .u8 (2:Int))) 262 (.int .u8 ((t:Nat):Int))) 264 (.int .u8 (0:Int)))⟩) (T:=94)).congr (start_cells 2 ((t:Nat):Int) 0)
 have hs1:(w.alloc (.cells ⟨(List.set (List.set (List.set z94 263 (.int .u8 (2:Int))) 262 (.int .u8 ((t:Nat):Int))) 264 (.int .u8 (0:Int)))⟩ 94)).heap.size=w.heap.size+1:=World.size_alloc _ _
 generalize w.alloc (.cells ⟨(List.set (List.set (List.set z94 263 (.int .u8 (2:Int))) 262 (.int .u8 ((t:Nat):Int))) 264 (.int .u8 (0:Int)))⟩ 94)=w1 at *
 have W1:HW w1 w.heap.size (HU.start 2 ((t:Nat):Int) 0) (colF w.heap.size):=HW.fresh G F1 B1 rfl rfl rfl rfl rfl rfl (fun _ _=>rfl)
 have far:∀a,s0.a=some a→xs ≠ []→¬own (colF w.heap.size a.block):=by
  intro a ha hx
  have:=hsrc.old hx a ha
  exact colF_far (by omega)
 have toFm:∀ {w2:World} {col2:Nat→Nat},GoW w1 w2 (colF w.heap.size) col2→Fm w w2 []:=by
  intro w2 col2 h
  obtain ⟨⟨S,F,hS⟩,_⟩:=h
  refine F1.trans F ?_
  intro v hv
  right
  rcases Nat.lt_or_ge v w1.heap.size with h|h
  ·have:=colF_own (hS v hv h);omega
  ·omega
 refine c50 (t:=t) (M0:=0) (ln0:=fun _=>0) (L0:=0) W1 rfl ht rfl (hsrc.fr F1 (by simp)) hby hle far (.inl rfl) ⟨?_,?_,?_⟩
 ·intro w2 s2 col2 v hv _ _ W2 hT2 S2 G2
  have F2:=toFm G2
  refine ⟨isPE.ifc hv.pe,err_cnd (isPE.nil hv.pe) ?_⟩
  exact c51 (G.fm F2) hv (fun k h1 h2 _=>hk0 w2 k h1 h2 F2)
 ·intro w2 s2 col2 so ol hr
  exact absurd rfl hr
 ·intro w2 s2 col2 so M ln L tbl ol _ hcn hTL hLR hN hbt hwt hEn hlt hso V2 AT AD hoc W2 P2 S2 G2
  have F2:=toFm G2
  refine ⟨rfl,nil_cnd ?_⟩
  unfold drw
  simp only [add_mk,Nat.zero_add]
  have Bd:=W2.blk.drew
  have Fd:Fm w2 w2.drew []:=(Fm.refl w2 []).drew
  refine ld_b (t := .S) (x:=s2.outT) Bd rfl ?_
  refine ld_b (t := .S) (x:=s2.outD) Bd rfl ?_
  have hpl:(tbl++ol).length=tbl.length+ol.length:=List.length_append
  refine c47 (V2.vec.arr.fr Fd (by simp)) (by omega) ?_
  intro w3 r10 V3 F3 n3
  have B3:=Bd.fr F3 (by simp)
  have F23:Fm w2 w3 []:=Fd.trans F3 (by simp)
  refine ⟨?_,?_⟩
  ·intro f hf
   simp only [List.mem_cons,List.not_mem_nil,or_false] at hf
   rcases hf with rfl|rfl
   ·exact B3.cell 258
   ·exact B3.cell 257
  refine c47 (AT.fr F23 (by simp)) (by omega) ?_
  intro w4 r11 V4 F4 n4
  have B4:=B3.fr F4 (by simp)
  have F24:Fm w2 w4 []:=F23.trans F4 (by simp)
  refine ⟨?_,?_⟩
  ·intro f hf
   simp only [List.mem_cons,List.not_mem_nil,or_false] at hf
   subst hf
   exact B4.cell 258
  refine c47 (AD.fr F24 (by simp)) (by omega) ?_
  intro w5 r12 V5 F5 n5
  exact hk1 w5 r10 r11 r12 M ln L tbl ol hcn hTL hN (hLR t rfl) hbt hwt hEn hlt ((V3.fr F4 (by simp)).fr F5 (by simp)) (V4.fr F5 (by simp)) V5 ((F2.trans F24 (by simp)).trans F5 (by simp))
section
variable {w:World}
theorem c25 {k:Int} {K:Bool→PT} (h1:0≤k) (h2:k≤4) (hk:K true w):callP Tryd.prog 25 #[.int .i64 k] [.c .B] K w:=by
 apply q25_ok
 unfold q25
 refine joinP_id ?_
 refine cnd_d (fun _ => ?_) (fun h=>absurd h1 h)
 unfold q25_J0
 rw [decide_eq_true h2]
 exact hk
theorem shl1 {e:Nat} (h:e≤11):shlI .i64 1 ((e:Nat):Int)=((2^e:Nat):Int):=by
 have:e=0∨e=1∨e=2∨e=3∨e=4∨e=5∨e=6∨e=7∨e=8∨e=9∨e=10∨e=11:=by omega
 rcases this with rfl|rfl|rfl|rfl|rfl|rfl|rfl|rfl|rfl|rfl|rfl|rfl<;>rfl
theorem c27 {s0 s1:Sl} {xs:List Nat} {K:Bool→PT} (A:Arr .u8 w s0 xs) (C:Arr .u8 w s1 xs) (hl:xs.length≤2^40) (hk:∀w',Fm w w' []→K true w') :
  callP Tryd.prog 27 #[.slice s0.a s0.l s0.c,.slice s1.a s1.l s1.c] [.c .B] K w:=by
 have h0:=A.len
 have h1:=C.len
 apply q27_ok
 unfold q27
 refine cnd_nd (fun h=>absurd (by omega) h) (fun _ => ?_)
 refine joinP_id ?_
 refine ⟨fun x w'=>∃i:Nat,x=(i:Int)∧i≤xs.length∧Fm w w' [],fun x _=>xs.length-x.toNat,⟨0,rfl,Nat.zero_le _,Fm.refl _ _⟩,?_⟩
 rintro x w1 ⟨i,rfl,hi,F1⟩
 unfold q27_L0
 refine cnd_d ?_ ?_
 ·intro hc
  have hi2:i<xs.length:=by omega
  have Ad:=A.fr F1.drew (by simp)
  have Cd:=C.fr F1.drew (by simp)
  unfold drw
  refine Ad.ldk i rfl hi2 ?_
  intro p hp
  refine ld_c (t := .I .u8) (x:=((xs[i]:Nat):Int)) hp ?_
  refine Cd.ldk i rfl hi2 ?_
  intro q hq
  refine ld_c (t := .I .u8) (x:=((xs[i]:Nat):Int)) hq ?_
  refine cnd_nd (fun h=>absurd rfl h) (fun _ => ?_)
  rw [wI64 (by omega) (by omega)]
  exact ⟨⟨i+1,by simp,hi2,F1.drew⟩,by first|omega|(dsimp only;omega)⟩
 ·intro hc
  unfold q27_J1
  exact hk w1 F1
end
def lnx (L:Nat) (ln:Nat→Nat) (i:Nat):Nat:=if i<L then ln i else 0
theorem lnx_lt {L i:Nat} {ln:Nat→Nat} (h:i<L):lnx L ln i=ln i:=if_pos h
theorem lnx_ge {L i:Nat} {ln:Nat→Nat} (h:L≤i):lnx L ln i=0:=if_neg (by omega)
theorem sF_z {g:Nat→Nat} {a:Nat} : ∀ {n:Nat},(∀i,a≤i→i<a+n→g i=0)→sF g a n=0
 | 0,_=>rfl
 | n+1,h=>by rw [sF,sF_z (fun i h1 h2=>h i h1 (by omega)),h (a+n) (by omega) (by omega)]
section
variable {xs tbl:List Nat} {M L:Nat} {ln:Nat→Nat}
theorem NT.hl (hN:NT xs M ln L) (hw:weightsZ tbl=some (wtL M ln L,tbl.length)):∃f,hlZ tbl=some (f,tbl.length)∧∀i,f i=(lnx L ln i:Nat):=by
 obtain ⟨f,h1,h2,h3⟩:=hl_ok hN.h hN.l2 hN.l256 hN.last hN.two hw
 refine ⟨f,h1,?_⟩
 intro i
 rcases Nat.lt_or_ge i L with h|h
 ·rw [lnx_lt h];exact h2 i h
 ·rw [lnx_ge h];exact h3 i h
theorem NT.mem (hN:NT xs M ln L) {x:Nat} (hx:x∈xs):x<L∧0<ln x∧ln x≤11:=by
 have h1:0<xs.count x:=List.count_pos_iff.mpr hx
 have h3:x<L:=Classical.byContradiction fun h=>by have:=hN.out x (by omega);omega
 have h4:=hN.h.le x h3
 have h5:=hN.h.m11
 exact ⟨h3,(hN.h.pos x h3).mpr h1,by first|omega|(dsimp only;omega)⟩
theorem NT.pos (hN:NT xs M ln L) (i:Nat):0<lnx L ln i↔0<xs.count i:=by
 rcases Nat.lt_or_ge i L with h|h
 ·rw [lnx_lt h];exact hN.h.pos i h
 ·rw [lnx_ge h,hN.out i h]
theorem NT.le11 (hN:NT xs M ln L) (i:Nat):lnx L ln i≤11:=by
 rcases Nat.lt_or_ge i L with h|h
 ·rw [lnx_lt h]
  have h4:=hN.h.le i h
  have h5:=hN.h.m11
  omega
 ·rw [lnx_ge h];omega
theorem NT.kr256 (hN:NT xs M ln L):sF (fun i=>if 0<lnx L ln i then 2^(11-lnx L ln i) else 0) 0 256=2^11:=by
 have h256:=hN.l256
 have h11:=hN.h.m11
 have e:sF (fun i=>if 0<lnx L ln i then 2^(11-lnx L ln i) else 0) 0 256=sF (fun i=>2^(11-M)*(if i<L then (if 0<ln i then 2^(M-ln i) else 0) else 0)) 0 256:=by
  refine sF_congr (fun i _ _ => ?_)
  by_cases h:i<L
  ·rw [lnx_lt h,if_pos h]
   have hle:=hN.h.le i h
   by_cases h0:0<ln i
   ·rw [if_pos h0,if_pos h0, ←Nat.pow_add]
    congr 1;omega
   ·rw [if_neg h0,if_neg h0,Nat.mul_zero]
  ·rw [lnx_ge (by omega),if_neg h,if_neg (by omega),Nat.mul_zero]
 rw [e,sF_mul]
 have h2:=sF_split (fun i=>if i<L then (if 0<ln i then 2^(M-ln i) else 0) else 0) L (256-L)
 rw [show L+(256-L)=256 by omega] at h2
 rw [h2,sF_z (a:=L) (n:=256-L) (fun i h1 _=>if_neg (by omega)),Nat.add_zero]
 have h3:sF (fun i=>if i<L then (if 0<ln i then 2^(M-ln i) else 0) else 0) 0 L=sF (fun i=>if 0<ln i then 2^(M-ln i) else 0) 0 L:=sF_congr (fun i _ h=>if_pos (by omega))
 rw [h3,hN.h.kr, ←Nat.pow_add]
 congr 1;omega
end
end Go.Sx
namespace Go.Sx
open Go Go.Proofs Go.ChangeShapes Go.WideShapes Go.ChangeAt Go.RowKit Go.Proofs.YtlnhldlhmplphaaDoor
set_option maxRecDepth 100000
def mask32:List Int := [0,1,3,7,15,31,63,127,255,511,1023,2047,4095,8191,16383,32767,65535,65535,65535,65535,65535,65535,65535,65535,65535,65535,0,0,0,0,0,0]
def laid0:List (String×DataW Unit) := [("pub-pemmican/pub/compress/fse.bitMask16",Rows.laid_pub_pemmican_pub_compress_fse_bitMask16),("pub-pemmican/pub/compress/fse.rtbTable",Rows.laid_pub_pemmican_pub_compress_fse_rtbTable),("pub-pemmican/pub/compress/fse.ErrIncompressible",Rows.laid_pub_pemmican_pub_compress_fse_ErrIncompressible),("pub-pemmican/pub/compress/fse.ErrUseRLE",Rows.laid_pub_pemmican_pub_compress_fse_ErrUseRLE),("pub-pemmican/pub/compress/huff0.ErrIncompressible",Rows.laid_pub_pemmican_pub_compress_huff0_ErrIncompressible),("pub-pemmican/pub/compress/huff0.ErrUseRLE",Rows.laid_pub_pemmican_pub_compress_huff0_ErrUseRLE),("pub-pemmican/pub/compress/huff0.ErrTooBig",Rows.laid_pub_pemmican_pub_compress_huff0_ErrTooBig)]
theorem ge_of_laid {W:World} (h:laidMetH Tryd.prog laid0 W):GE W:=by
 rw [MakeChecks.laidMetH_plain _ _ _ (by kernel_rfl)] at h
 have e0:=err_of_laid h (.tail _ (.tail _ (.tail _ (.tail _ (.head _))))) (g:=0) (by kernel_rfl) (by kernel_rfl)
 have e1:=err_of_laid h (.tail _ (.tail _ (.tail _ (.tail _ (.tail _ (.head _)))))) (g:=1) (by kernel_rfl) (by kernel_rfl)
 have e2:=err_of_laid h (.tail _ (.tail _ (.tail _ (.tail _ (.tail _ (.tail _ (.head _))))))) (g:=2) (by kernel_rfl) (by kernel_rfl)
 have e3:=err_of_laid h (.tail _ (.tail _ (.head _))) (g:=3) (by kernel_rfl) (by kernel_rfl)
 have e4:=err_of_laid h (.tail _ (.tail _ (.tail _ (.head _)))) (g:=4) (by kernel_rfl) (by kernel_rfl)
 have em:=nums_of_laid (zs:=mask32) (k := .u16) (t:=240) (e:=81) (m:=32) h (.head _) (g:=8) (by kernel_rfl) (by kernel_rfl) (by kernel_rfl) (by kernel_rfl) (by kernel_rfl) rfl
 have er:=nums_of_laid (zs:=rtbZ) (k := .u32) (t:=207) (e:=79) (m:=8) h (.tail _ (.head _)) (g:=6) (by kernel_rfl) (by kernel_rfl) (by kernel_rfl) (by kernel_rfl) (by kernel_rfl) rfl
 have ee:∀ {g:Nat},(∃a c T,W.cell? ⟨g,0,none⟩=some (.iface 160 (.pointer (some a)))∧W.heap[a.block]? = some (.cells c T (0,0)))→errAt W g:=fun ⟨a,c,T,h1,_⟩=>⟨_,h1,rfl,rfl⟩
 refine ⟨⟨ee e3,ee e4,?_,?_⟩,?_⟩
 ·intro k hk
  exact er k hk
 ·intro n hn
  rw [em n (by omega)]
  have:∀m:Fin 17,mask32.getD (m:Nat) 0=((2^(m:Nat)-1:Nat):Int):=by decide
  rw [this ⟨n,by omega⟩]
 ·intro i hi
  have:i=0∨i=1∨i=2:=by omega
  rcases this with rfl|rfl|rfl
  ·exact e0
  ·exact e1
  ·exact e2
theorem bytes_in {H:Type} {enc:TypeId×Value→H} {W:World} {v:Value} {d:DataW H} {p:List MemPlace} (h:DataW.Trod enc Tryd.prog W 0 (fun _=>true) true 22 v d p) (hv:∃a l c,v = .slice a l c) :
  ∃(s:Sl) (xs:List Nat),v = .slice s.a s.l s.c∧Arr .u8 W s xs∧By xs:=by
 obtain ⟨n,hn⟩:=h
 obtain ⟨a0,l0,c0,rfl⟩:=hv
 rcases open_ints Tryd.underlying22 Tryd.underlying5 (by kernel_rfl) hn with ⟨e,_⟩|⟨a,len,cap,zs,e,_,hl,_,hzl,_,hcell,hwf⟩
 ·have e:Value.slice a0 l0 c0 = .slice none 0 0:=by simpa [Value.cells] using e
  injection e with e1 e2 e3
  subst e1 e2 e3
  exact ⟨⟨none,0,0⟩,[],rfl,⟨rfl,Nat.le_refl _,fun _=>rfl,(by intro b hb;cases hb)⟩,by intro x hx;cases hx⟩
 ·have e:Value.slice a0 l0 c0 = .slice (some a) len cap:=by simpa [Value.cells] using e
  injection e with e1 e2 e3
  subst e1 e2 e3
  simp only [if_true] at hzl
  have hz:∀i (hi:i<zs.length),0≤zs[i]∧zs[i]<256:=by
   intro i hi
   have:=bounds_u8 (hwf _ (List.getElem_mem hi))
   omega
  refine ⟨⟨some a,l0,c0⟩,(zs.take l0).map Int.toNat,rfl,⟨?_,hl,(fun h=>by cases h),?_⟩,?_⟩
  ·rw [List.length_map,List.length_take];simp only;omega
  ·intro b hb i hi
   injection hb with hb
   subst hb
   rw [List.length_map,List.length_take] at hi
   have hi2:i<zs.length:=by omega
   rw [hcell i hi2]
   have h1:=hz i hi2
   have h2:zs.getD i 0=zs[i]:=by rw [List.getD_eq_getElem?_getD,List.getElem?_eq_getElem hi2];rfl
   rw [h2,List.getElem_map,List.getElem_take,Int.toNat_of_nonneg h1.1]
  ·intro x hx
   obtain ⟨z,hz1,rfl⟩:=List.mem_map.mp hx
   obtain ⟨i,hi,e⟩:=List.mem_iff_getElem.mp (List.mem_of_mem_take hz1)
   have:=hz i hi
   rw [e] at this
   omega
theorem slice_in {H:Type} {enc:TypeId×Value→H} {W:World} {t e:TypeId} {v:Value} {d:DataW H} {p:List MemPlace} {base:Nat} (ht:Tryd.prog.underlying t=some (.slice e)) (ok:Value.okWide Tryd.prog W .any base t v) (h:DataW.Trod enc Tryd.prog W 0 (fun _=>true) true t v d p):∃a l c,v = .slice a l c:=by
 unfold Value.okWide at ok
 simp only [ht] at ok
 unfold Cell.okWide at ok
 cases v<;>simp [Value.cells,Cell.ok,ht] at ok ⊢
theorem door_met (os:Os) (args:Array Value):laidMetH Tryd.prog laid0 ((World.doorLaid Tryd.prog 4000 os).forCall (fun _ _=>0) ⟨#[],args,[]⟩).memory :=
 laidMetH_of_parts3 (fuel:=8) (laidMet_of_run' 8 (by kernel_rfl) (by kernel_rfl)) (by kernel_rfl) (by kernel_rfl)
end Go.Sx
namespace Go.Sx
open Go Go.Proofs
set_option maxRecDepth 4000
def levU (L M:Nat) (ln:Nat→Nat) (n s:Nat):List Cell3:=((List.range s).filter fun i=>lnx L ln i=n).map fun i=>(i,vC ln L M i,((n:Nat):Int))
def clZ (L M:Nat) (ln:Nat→Nat):Nat→List Cell3
 | 0 => []
 | k+1=>clZ L M ln k++levU L M ln (11-k) 256
theorem levU_succ (L M:Nat) (ln:Nat→Nat) (n s:Nat):levU L M ln n (s+1)=levU L M ln n s++(if lnx L ln s=n then [(s,vC ln L M s,((n:Nat):Int))] else []):=by
 unfold levU
 rw [List.range_succ,List.filter_append,List.map_append]
 congr 1
 by_cases h:lnx L ln s=n
 ·rw [if_pos h];simp [h]
 ·rw [if_neg h];simp [h]
theorem levU_len (L M:Nat) (ln:Nat→Nat) (n s:Nat):(levU L M ln n s).length≤s:=by
 unfold levU
 rw [List.length_map]
 exact Nat.le_trans (List.length_filter_le _ _) (by rw [List.length_range];omega)
theorem clZ_len (L M:Nat) (ln:Nat→Nat):∀k,(clZ L M ln k).length≤256*k
 | 0=>by simp [clZ]
 | k+1=>by
  have:=clZ_len L M ln k
  have:=levU_len L M ln (11-k) 256
  rw [clZ,List.length_append];omega
theorem flat3_app (a b:List Cell3):flat3 (a++b)=flat3 a++flat3 b:=by unfold flat3;rw [List.flatMap_append]
theorem cN_lnx {L n:Nat} {ln:Nat→Nat} (hn:0<n):∀s,s≤L→cN (lnx L ln) n s=cN ln n s
 | 0,_=>rfl
 | s+1,h=>by rw [cN,cN,cN_lnx hn s (by omega),lnx_lt (by omega)]
theorem cN_lnx_ge {L n:Nat} {ln:Nat→Nat} (hn:0<n):∀k,cN (lnx L ln) n (L+k)=cN ln n L
 | 0=>cN_lnx hn L (Nat.le_refl _)
 | k+1=>by rw [←Nat.add_assoc,cN,cN_lnx_ge hn k,lnx_ge (by omega),if_neg (by omega)];omega
theorem cN_none {f:Nat→Nat} {n:Nat} : ∀ {s},(∀i,i<s→f i≠n)→cN f n s=0
 | 0,_=>rfl
 | s+1,h=>by rw [cN,cN_none (fun i hi=>h i (by omega)),if_neg (h s (by omega))]
def nxV (L M:Nat) (ln:Nat→Nat) (n:Nat):Nat:=vJ (fun r=>cN ln r L) M (M-n)
section
variable {cnt ln:Nat→Nat} {L M n s:Nat}
theorem nxV_num (H:HT cnt L M ln) (hs:lnx L ln s=n) (hn:0<n):nxV L M ln n+cN (lnx L ln) n s=vC ln L M s:=by
 have hsL:s<L:=Classical.byContradiction fun h=>by rw [lnx_ge (by omega)] at hs;omega
 rw [lnx_lt hsL] at hs
 have hle:=H.le s hsL
 unfold vC vR nxV
 rw [cN_lnx hn s (by omega),hs,if_neg (by omega)]
theorem nxV_next (H:HT cnt L M ln) (hL:L≤256) (hn:0<n):nxV L M ln n+cN (lnx L ln) n 256=2*nxV L M ln (n-1):=by
 have e:=cN_lnx_ge (L:=L) (ln:=ln) hn (256-L)
 rw [show L+(256-L)=256 by omega] at e
 rw [e]
 unfold nxV
 rcases Nat.lt_or_ge M n with h|h
 ·rw [cN_none (fun i hi=>by have:=H.le i hi;omega),show M-n=0 by omega,show M-(n-1)=0 by omega]
  rfl
 ·have hk:=(kraft_ranks (M:=M) L H.le).symm.trans H.kr
  have h1:=(vJ_even (nb:=fun r=>cN ln r L) (j:=M-n) hk (by omega)).1
  rw [show M-(M-n)=n by omega,show M-n+1=M-(n-1) by omega] at h1
  exact h1
theorem nxV_le (H:HT cnt L M ln) (hL:L≤256):nxV L M ln n≤256:=vJ_le (fun r=>Nat.le_trans (cN_le ln r L) hL) _
end
section
variable {w:World}
theorem nw_3i {x y z:Int} {T:TypeId} {κ:Addr→PT} (hk:∀w',Fm w w' []→w'.heap.size=w.heap.size+1→Blk w' w.heap.size (c3C x y z)→κ ⟨w.heap.size,0,none⟩ w'):nw [.int .i64 x,.int .i64 y,.int .i64 z] T κ w :=
 hk _ (Fm.refl w []).alloc (World.size_alloc _ _) (Blk.new.congr (by funext i;rcases i with _|_|_|i<;>simp [c3C]))
theorem app_3 {T T':TypeId} {s:Sl} {κ:Sl→PT} {tab:List Cell3} {x:Cell3} {a b c:Int} (h:Vec 3 w s (flat3 tab)) (ha:a=(x.1:Nat)) (hb:b=(x.2.1:Nat)) (hc:c=x.2.2) (hl:tab.length<2^30)
  (hk:∀s' w',Vec 3 w' s' (flat3 (tab ++ [x]))→Fm w w' s.bs→(∀b∈s'.bs,b∈s.bs∨w.heap.size≤b)→κ s' w'):nw [.int .i64 a,.int .i64 b,.int .i64 c] T' (fun p=>app z155 T 24 s ⟨some p,1,1⟩ κ) w:=by
 subst ha hb hc
 have h1:=h.len
 rw [flat3_len] at h1
 refine nw_3i ?_
 intro w1 F1 hs1 B1
 refine app_v (zs:=z155) (xs:=cell3 x) (h.fr F1 (by simp)) ⟨rfl,?_,(fun h=>by cases h),by simp [cell3,one]⟩ (by decide) (by first|omega|(dsimp only;omega)|(simp only [];omega)) ?_
 ·intro b hb i hi
  injection hb with hb
  subst hb
  rw [add_mk,Nat.zero_add,B1.cell]
  have hi:i<3:=hi
  have:i=0∨i=1∨i=2:=by omega
  rcases this with rfl|rfl|rfl<;>rfl
 ·intro s' w' h2 h3 h4
  refine hk s' w' ?_ ((F1.mono (S':=s.bs) (by simp)).trans h3 (fun b hb => .inl hb)) ?_
  ·rw [flat3_app]
   have:flat3 [x]=cell3 x:=by simp [flat3]
   rw [this]
   exact h2
  ·intro b hb
   rcases h4 b hb with h5|h5
   ·exact .inl h5
   ·right;omega
theorem c73 {b:Nat} {cnt ln:Nat→Nat} {L M:Nat} {f:Nat→Int} {K:Sl→PT} (H:HT cnt L M ln) (hL:L≤256) (B:Blk w b (arrC .i64 256 f)) (hf:∀i,f i=(lnx L ln i:Nat)) (hk:∀w' s',Vec 3 w' s' (flat3 (clZ L M ln 11))→Fm w w' []→(∀v∈s'.bs,w.heap.size≤v)→K s' w') :
  callP Tryd.prog 73 #[.slice (some ⟨b,0,none⟩) 256 256] [.c .S] K w:=by
 have hbl:=B.lt
 apply q73_ok (s0:=⟨some ⟨b,0,none⟩,256,256⟩)
 unfold q73
 refine joinP_id ?_
 refine ⟨fun x w'=>∃k:Nat,k≤11∧x.2=(((nxV L M ln (11-k):Nat):Int),((11-k:Nat):Int))∧Vec 3 w' x.1 (flat3 (clZ L M ln k))∧Fm w w' []∧(∀v∈x.1.bs,w.heap.size≤v),fun x _=>x.2.2.toNat,⟨0,by omega,?_,Vec.nil,Fm.refl _ _,by simp [Sl.bs]⟩,?_⟩
 ·rw [Prod.mk.injEq]
  refine ⟨?_,rfl⟩
  unfold nxV
  rw [show M-(11-0)=0 by have:=H.m11;omega]
  rfl
 rintro ⟨x,y⟩ w1 ⟨k,hk11,hy,V1,F1,n1⟩
 simp only at hy V1 n1
 subst hy
 unfold q73_L4
 simp only
 refine cnd_d ?_ ?_
 ·intro hc
  have hn:0<11-k:=by omega
  have hcl:=clZ_len L M ln k
  refine joinP_id ?_
  refine joinP_id ?_
  refine ⟨fun x w'=>∃i:Nat,i≤256∧x.2=(((nxV L M ln (11-k)+cN (lnx L ln) (11-k) i:Nat):Int),(i:Int))∧Vec 3 w' x.1 (flat3 (clZ L M ln k++levU L M ln (11-k) i))∧Fm w w' []∧(∀v∈x.1.bs,w.heap.size≤v),fun x _=>256-x.2.2.toNat,⟨0,by omega,by rw [cN];rfl,by simpa [levU] using V1,F1,n1⟩,?_⟩
  rintro ⟨x,y⟩ w2 ⟨i,hi,hy,V2,F2,n2⟩
  simp only at hy V2 n2
  subst hy
  have hnx:=nxV_le (n:=11-k) H hL
  have hcN:=cN_le (lnx L ln) (11-k) i
  unfold q73_L1
  simp only
  refine cnd_d ?_ ?_
  ·intro hci
   have hi2:i<256:=by omega
   refine joinP_id ?_
   refine ixS_o rfl hi2 ?_
   rw [Nat.zero_add]
   refine ld_b (t := .I .i64) (x:=((lnx L ln i:Nat):Int)) (B.fr F2 (by simp)) (by rw [arrC_get hi2,hf i];rfl) ?_
   unfold q73_J0
   simp only
   refine cnd_d (fun he => ?_) (fun hne => ?_)
   ·have he':lnx L ln i=11-k:=by omega
    have hv:=nxV_num H he' hn
    have hll:=levU_len L M ln (11-k) i
    refine app_3 (x:=(i,vC ln L M i,((11-k:Nat):Int))) V2 rfl (by simp only;rw [←hv]) rfl (by rw [List.length_append];omega) ?_
    intro s' w3 V3 F3 n3
    rw [wI64 (by omega) (by omega),wI64 (by omega) (by omega)]
    refine ⟨⟨i+1,hi2,?_,?_,F2.trans F3 (fun v hv => .inr (n2 v hv)),?_⟩,by first|omega|(dsimp only;omega)|(simp only [];omega)⟩
    ·rw [cN,if_pos he',Prod.mk.injEq]
     exact ⟨by omega,by first|omega|(dsimp only;omega)⟩
    ·rw [levU_succ,if_pos he', ←List.append_assoc]
     exact V3
    ·intro v hv
     have hsz:=F2.size
     rcases n3 v hv with h|h
     ·exact n2 v h
     ·omega
   ·have hne':lnx L ln i≠11-k:=by omega
    rw [wI64 (by omega) (by omega)]
    refine ⟨⟨i+1,hi2,?_,?_,F2,n2⟩,by first|omega|(dsimp only;omega)|(simp only [];omega)⟩
    ·rw [cN,if_neg hne',Prod.mk.injEq]
     exact ⟨by omega,by first|omega|(dsimp only;omega)⟩
    ·rw [levU_succ,if_neg hne',List.append_nil]
     exact V2
  ·intro hci
   have hi2:i=256:=by omega
   subst hi2
   have hnext:=nxV_next H hL hn
   unfold q73_J2
   simp only
   refine ⟨by decide,cnd_nd (fun h => ?_) (fun _=>⟨by decide,?_⟩)⟩
   ·refine absurd ?_ h
    rw [hnext,show Int.tmod ((2*nxV L M ln (11-k-1):Nat):Int) (2:Int)=((2*nxV L M ln (11-k-1)%2:Nat):Int) from rfl]
    omega
   ·unfold q73_J3
    simp only
    rw [show (2:Int)=((2:Nat):Int) from rfl,quoI_nat _ _ _ (by simp only [IntKind.bits];omega),wI64 (by omega) (by omega)]
    refine ⟨⟨k+1,by omega,?_,?_,F2,n2⟩,by first|omega|(dsimp only;omega)|(simp only [];omega)⟩
    ·rw [Prod.mk.injEq]
     refine ⟨?_,by first|omega|(dsimp only;omega)⟩
     rw [hnext,Nat.mul_div_cancel_left _ (by omega)]
     rfl
    ·rw [clZ];exact V2
 ·intro hc
  have hk2:k=11:=by omega
  subst hk2
  unfold q73_J5
  exact hk w1 x V1 F1 n1
end
def mt (v n:Nat) (tab:List Cell3):List Nat:=(tab.filter fun c=>c.2.2=((n:Nat):Int)∧c.2.1=v).map fun c=>c.1
theorem mt_app (v n:Nat) (a b:List Cell3):mt v n (a++b)=mt v n a++mt v n b:=by unfold mt;rw [List.filter_append,List.map_append]
theorem mt_one (v n:Nat) (c:Cell3):mt v n [c]=if c.2.2=((n:Nat):Int)∧c.2.1=v then [c.1] else []:=by
 unfold mt
 by_cases h:c.2.2=((n:Nat):Int)∧c.2.1=v
 ·rw [if_pos h];simp [h]
 ·rw [if_neg h,List.filter_cons_of_neg (by simpa using h)];rfl
section
variable {cnt ln:Nat→Nat} {L M x:Nat}
theorem levU_mem {n s:Nat} {c:Cell3} (h:c∈levU L M ln n s):∃i,i<s∧lnx L ln i=n∧c=(i,vC ln L M i,((n:Nat):Int)):=by
 unfold levU at h
 obtain ⟨i,hi,e⟩:=List.mem_map.mp h
 obtain ⟨h1,h2⟩:=List.mem_filter.mp hi
 exact ⟨i,List.mem_range.mp h1,by simpa using h2,e.symm⟩
theorem clZ_mem {c:Cell3} : ∀ {k},c∈clZ L M ln k→∃i n,i<256∧lnx L ln i=n∧c=(i,vC ln L M i,((n:Nat):Int))
 | 0,h=>by simp [clZ] at h
 | k+1,h=>by
  rw [clZ] at h
  rcases List.mem_append.mp h with h|h
  ·exact clZ_mem h
  ·obtain ⟨i,h1,h2,h3⟩:=levU_mem h
   exact ⟨i,_,h1,h2,h3⟩
theorem vC_eq (H:HT cnt L M ln) {i j:Nat} (hi:i<L) (hj:j<L) (he:ln i=ln j) (hv:vC ln L M i=vC ln L M j):i=j:=by
 rcases Nat.lt_trichotomy i j with h|h|h
 ·have:=vC_inj (L:=L) (M:=M) h he;omega
 ·exact h
 ·have:=vC_inj (L:=L) (M:=M) h he.symm;omega
theorem mt_levU (H:HT cnt L M ln) (hx:x<L) (h0:0<ln x) (n:Nat):∀s,mt (vC ln L M x) (ln x) (levU L M ln n s)=if n=ln x∧x<s then [x] else []
 | 0=>by simp [levU,mt]
 | s+1=>by
  rw [levU_succ,mt_app,mt_levU H hx h0 n s]
  by_cases hn:n=ln x
  ·subst hn
   by_cases hs:lnx L ln s=ln x
   ·have hsL:s<L:=Classical.byContradiction fun h=>by rw [lnx_ge (by omega)] at hs;omega
    have hs':=hs
    rw [lnx_lt hsL] at hs'
    rw [if_pos hs,mt_one]
    by_cases e:s=x
    ·subst e
     rw [if_neg (by omega),if_pos ⟨rfl,rfl⟩,if_pos ⟨rfl,by omega⟩];rfl
    ·rw [if_neg (c:=_∧_) (fun h=>e (vC_eq H hsL hx hs' h.2)),List.append_nil]
     by_cases h:x<s
     ·rw [if_pos ⟨rfl,h⟩,if_pos ⟨rfl,by omega⟩]
     ·rw [if_neg (fun h'=>h h'.2),if_neg (fun h'=>by omega)]
   ·rw [if_neg hs]
    have hne:s≠x:=fun e=>hs (by rw [e];exact lnx_lt hx)
    show _ ++ []=_
    rw [List.append_nil]
    by_cases h:x<s
    ·rw [if_pos ⟨rfl,h⟩,if_pos ⟨rfl,by omega⟩]
    ·rw [if_neg (fun h'=>h h'.2),if_neg (fun h'=>by omega)]
  ·have e1:∀s',(if n=ln x∧x<s' then [x] else [])=([]:List Nat):=fun s'=>if_neg (fun h=>hn h.1)
   rw [e1,e1,List.nil_append]
   by_cases hs:lnx L ln s=n
   ·rw [if_pos hs,mt_one,if_neg]
    rintro ⟨h1,_⟩
    exact hn (by have h1:((n:Nat):Int)=((ln x:Nat):Int):=h1;omega)
   ·rw [if_neg hs];rfl
theorem mt_clZ (H:HT cnt L M ln) (hx:x<L) (hL:L≤256) (h0:0<ln x):∀k,k≤11→mt (vC ln L M x) (ln x) (clZ L M ln k)=if 11<ln x+k then [x] else []
 | 0,_=>by
  have h1:=H.le x hx
  have h2:=H.m11
  rw [if_neg (by omega)];rfl
 | k+1,hk=>by
  rw [clZ,mt_app,mt_clZ H hx hL h0 k (by omega),mt_levU H hx h0]
  by_cases h1:11<ln x+k
  ·rw [if_pos h1,if_neg (by omega),if_pos (by omega)];rfl
  ·rw [if_neg h1]
   by_cases h2:11-k=ln x
   ·rw [if_pos ⟨h2,by omega⟩,if_pos (by omega)];rfl
   ·rw [if_neg (fun h=>h2 h.1),if_neg (by omega)];rfl
theorem mt_some (H:HT cnt L M ln) (hx:x<L) (hL:L≤256) (h0:0<ln x):mt (vC ln L M x) (ln x) (clZ L M ln 11) = [x]:=by
 rw [mt_clZ H hx hL h0 11 (by omega),if_pos (by omega)]
theorem hE_lt (H:HT cnt L M ln):∀ {xs:List Nat},(∀x∈xs,x<L∧0<ln x)→(hE (vC ln L M) ln xs).1<2^(hE (vC ln L M) ln xs).2
 | [],_=>by simp [hE]
 | x::r,h=>by
  have h1:=hE_lt H (xs:=r) (fun y hy=>h y (List.mem_cons_of_mem _ hy))
  obtain ⟨h2,h3⟩:=h x (List.mem_cons_self ..)
  exact add_lt h1 (vC_lt H h2 h3)
end
def codeB (v k:Nat):List Nat:=(List.range k).map fun i=>v/2^(k-1-i)%2
theorem codeB_len (v k:Nat):(codeB v k).length=k:=by simp [codeB]
def bN:List Nat→Nat
 | []=>0
 | b::r=>b*2^r.length+bN r
theorem bN_app (a b:List Nat):bN (a++b)=bN a*2^b.length+bN b:=by
 induction a with
 | nil=>simp [bN]
 | cons x r ih =>
  rw [List.cons_append,bN,ih,bN,List.length_append,Nat.pow_add,Nat.add_mul,Nat.mul_assoc];omega
theorem bN_snoc (a:List Nat) (x:Nat):bN (a ++ [x])=2*bN a+x:=by rw [bN_app];simp [bN];omega
theorem codeB_take (v k:Nat):∀i,i≤k→bN ((codeB v k).take i)=v/2^(k-i)%2^i
 | 0,_=>by simp [bN,Nat.mod_one]
 | i+1,h=>by
  have hl:i<(codeB v k).length:=by rw [codeB_len];omega
  rw [List.take_succ_eq_append_getElem hl,bN_snoc,codeB_take v k i (by omega)]
  have e:(codeB v k)[i]=v/2^(k-(i+1))%2:=by
   have h0:(codeB v k)[i]=v/2^(k-1-i)%2:=by simp [codeB]
   rw [h0,show k-1-i=k-(i+1) by omega]
  rw [e]
  have e2:v/2^(k-i)=v/2^(k-(i+1))/2:=by
   rw [Nat.div_div_eq_div_mul, ←Nat.pow_succ];congr 2;omega
  rw [e2,Nat.pow_succ,Nat.mul_comm (2^i) 2,Nat.mod_mul]
  omega
theorem codeB_val {v k:Nat} (h:v<2^k):bN (codeB v k)=v:=by
 have h1:=codeB_take v k k (Nat.le_refl _)
 rw [List.take_of_length_le (by rw [codeB_len];omega),Nat.sub_self,Nat.pow_zero,Nat.div_one,Nat.mod_eq_of_lt h] at h1
 exact h1
theorem codeB_bit {v k:Nat} : ∀b∈codeB v k,b<2:=by
 intro b hb
 unfold codeB at hb
 obtain ⟨i,_,rfl⟩:=List.mem_map.mp hb
 omega
def bitsT (cd ln:Nat→Nat) (xs:List Nat):List Nat:=xs.flatMap fun x=>codeB (cd x) (ln x)
theorem bitsT_len (cd ln:Nat→Nat):∀xs,(bitsT cd ln xs).length=(hE cd ln xs).2
 | []=>rfl
 | x::r=>by
  show (codeB (cd x) (ln x)++bitsT cd ln r).length=(hE cd ln r).2+ln x
  rw [List.length_append,codeB_len,bitsT_len cd ln r];omega
theorem bitsT_val {cd ln:Nat→Nat} : ∀ {xs:List Nat},(∀x∈xs,cd x<2^ln x)→bN (bitsT cd ln xs)=(hE cd ln xs).1
 | [],_=>rfl
 | x::r,h=>by
  show bN (codeB (cd x) (ln x)++bitsT cd ln r)=(hE cd ln r).1+cd x*2^(hE cd ln r).2
  rw [bN_app,codeB_val (h x (List.mem_cons_self ..)),bitsT_len,bitsT_val (fun y hy=>h y (List.mem_cons_of_mem _ hy))];omega
theorem bitsT_bit {cd ln:Nat→Nat} {xs:List Nat} : ∀b∈bitsT cd ln xs,b<2:=by
 intro b hb
 unfold bitsT at hb
 obtain ⟨x,_,hx⟩:=List.mem_flatMap.mp hb
 exact codeB_bit b hx
theorem bitsT_snoc (cd ln:Nat→Nat) {xs:List Nat} {i:Nat} (h:i<xs.length):bitsT cd ln (xs.take (i+1))=bitsT cd ln (xs.take i)++codeB (cd xs[i]) (ln xs[i]):=by
 unfold bitsT
 rw [List.take_succ_eq_append_getElem h,List.flatMap_append]
 simp
theorem EncT.uniq {cd ln:Nat→Nat} {xs a b:List Nat} (ha:EncT cd ln xs a) (hb:EncT cd ln xs b):a=b:=leN_inj ha.1 hb.1 (ha.2.2.trans hb.2.2.symm) (ha.2.1.trans hb.2.1.symm)
def byF (N:Nat):Nat→Int:=fun k=>((N/2^(8*k)%256:Nat):Int)
theorem byF_set {N p:Nat} (h:2^(p+1)∣N):byF (N+2^p)=updF (byF N) (p/8) ((N/2^(8*(p/8))%256+2^(p%8):Nat):Int)∧(N/2^(8*(p/8))%256)%2^(p%8+1)=0∧N/2^(8*(p/8))%256+2^(p%8)<256:=by
 obtain ⟨a,rfl⟩:=h
 have hp:8*(p/8)+p%8=p:=by omega
 have hr:p%8<8:=Nat.mod_lt _ (by omega)
 have e1:∀c,(2^(p+1)*a+c*2^p)/2^(8*(p/8))=2^(p%8+1)*a+c*2^(p%8):=by
  intro c
  have:2^(p+1)*a+c*2^p=(2^(p%8+1)*a+c*2^(p%8))*2^(8*(p/8)):=by
   rw [Nat.add_mul,Nat.mul_right_comm, ←Nat.pow_add,Nat.mul_assoc c, ←Nat.pow_add,show p%8+1+8*(p/8)=p+1 by omega,show p%8+8*(p/8)=p by omega]
  rw [this,Nat.mul_div_cancel _ (Nat.two_pow_pos _)]
 have e0:=e1 0
 simp only [Nat.zero_mul,Nat.add_zero] at e0
 have eo:=e1 1
 rw [Nat.one_mul,Nat.one_mul] at eo
 have key:∀r,r<8→(2^(r+1)*a%256)%2^(r+1)=0∧2^(r+1)*a%256+2^r<256∧(2^(r+1)*a+2^r)%256=2^(r+1)*a%256+2^r:=by
  intro r hr
  have:r=0∨r=1∨r=2∨r=3∨r=4∨r=5∨r=6∨r=7:=by omega
  rcases this with rfl|rfl|rfl|rfl|rfl|rfl|rfl|rfl<;>simp only [Nat.reduceAdd,Nat.reducePow]<;>omega
 obtain ⟨k1,k2,k3⟩:=key (p%8) hr
 refine ⟨?_,by rw [e0];exact k1,by rw [e0];exact k2⟩
 funext k
 unfold byF updF
 by_cases hk:k=p/8
 ·subst hk
  rw [if_pos rfl,e0,eo,k3]
 ·rw [if_neg hk]
  congr 1
  rcases Nat.lt_or_ge k (p/8) with h|h
  ·have h2:(2^(p+1)*a+2^p)/2^(8*k)=2^(p+1)*a/2^(8*k)+256*2^(p-8*k-8):=by
    have e:2^p=(256*2^(p-8*k-8))*2^(8*k):=by
     rw [show (256:Nat)=2^8 from rfl, ←Nat.pow_add, ←Nat.pow_add];congr 1;omega
    rw [e,Nat.add_mul_div_right _ _ (Nat.two_pow_pos _)]
   rw [h2,Nat.add_mul_mod_self_left]
  ·have e:2^(8*k)=2^(p+1)*2^(8*k-(p+1)):=by rw [←Nat.pow_add];congr 1;omega
   rw [e, ←Nat.div_div_eq_div_mul, ←Nat.div_div_eq_div_mul]
   congr 2
   have hlt:2^p<2^(p+1):=Nat.pow_lt_pow_right (by omega) (by omega)
   rw [Nat.mul_add_div (Nat.two_pow_pos _),Nat.div_eq_of_lt hlt,Nat.mul_div_cancel_left _ (Nat.two_pow_pos _),Nat.add_zero]
theorem or_bit {x r:Nat} (hr:r<8) (hx:x%2^(r+1)=0) (hl:x+2^r<256):orI .u8 ((x:Nat):Int) ((2^r:Nat):Int)=((x+2^r:Nat):Int):=by
 have hlt:2^r<2^(r+1):=Nat.pow_lt_pow_right (by omega) (by omega)
 have e:x=2^(r+1)*(x/2^(r+1)):=by have:=Nat.div_add_mod x (2^(r+1));omega
 have h:=Nat.two_pow_add_eq_or_of_lt (i:=r+1) (b:=2^r) hlt (x/2^(r+1))
 rw [orI_nat rfl _ _ (by simp only [IntKind.bits];omega) (by simp only [IntKind.bits];omega)]
 rw [←e] at h
 rw [←h]
theorem or_zero8 {x:Nat} (h:x<256):orI .u8 ((x:Nat):Int) 0=((x:Nat):Int):=by
 have h1:=orI_nat (k := .u8) rfl x 0 (by simp only [IntKind.bits];omega) (by decide)
 rw [show ((0:Nat):Int)=0 from rfl,Nat.or_zero] at h1
 exact h1
section
variable {w:World}
theorem VecU.of_byF {b K N:Nat} (B:Blk w b (arrC .u8 K (byF N))) (hK:K<2^63):VecU w ⟨some ⟨b,0,none⟩,K,K⟩ (leB N K):=by
 refine ⟨⟨?_,Nat.le_refl _,(fun h=>by cases h),?_⟩,?_,hK⟩
 ·rw [bytes_len,leB_len];simp
 ·intro a ha
  injection ha with ha
  subst ha
  refine ⟨rfl,rfl,_,B,?_,fun i hi=>by rw [arrC_get (by simpa using hi)];rfl⟩
  intro i hi
  rw [bytes_len,leB_len] at hi
  rw [arrC_get hi]
  unfold bytes
  rw [List.getElem?_map,leB_get hi];rfl
 ·intro a ha i hi
  injection ha with ha
  subst ha
  exact ⟨_,(B.cell i).trans (arrC_get hi)⟩
theorem c54 {s0:Sl} {bl:List Nat} {K:Sl→PT} (V:Vec 1 w s0 (nints bl)) (hb:∀b∈bl,b<2) (hl:bl.length≤2^30) (hk:∀w' s',VecU w' s' (leB (bN bl+2^bl.length) (bl.length/8+1))→Fm w w' []→(∀v∈s'.bs,w.heap.size≤v)→K s' w') :
  callP Tryd.prog 54 #[.slice s0.a s0.l s0.c] [.c .S] K w:=by
 have hsl:=V.len
 rw [nints_len,Nat.mul_one] at hsl
 apply q54_ok
 unfold q54
 have eq8:quoI .i64 (s0.l:Int) 8=((bl.length/8:Nat):Int):=by
  rw [←hsl,show (8:Int)=((8:Nat):Int) from rfl,quoI_nat _ _ _ (by simp only [IntKind.bits];omega)]
 have em8:Int.tmod (s0.l:Int) 8=((bl.length%8:Nat):Int):=by rw [←hsl];rfl
 rw [eq8,em8,wI64 (by omega) (by omega)]
 refine ⟨by decide,?_⟩
 refine mks1 (k := .u8) (v:=0) (n:=bl.length/8+1) (by omega) (by omega) (by omega) ?_
 intro w1 F1 hs1 B1
 have hvb:∀b∈s0.bs,b≠w.heap.size:=fun b hb=>by have:=V.lt b hb;omega
 have hpn:w.heap.size≤w.heap.size:=Nat.le_refl _
 have V1:=V.fr F1 (by simp)
 generalize hpe:w.heap.size=p at *
 have B1':Blk w1 p (arrC .u8 (bl.length/8+1) (byF 0)):=B1.congr (by congr 1;funext k;unfold byF;simp)
 unfold drw
 refine ⟨by decide,?_⟩
 have hq:bl.length/8<bl.length/8+1:=by omega
 refine ixS_o rfl hq ?_
 rw [Nat.zero_add]
 refine ld_b (t := .I .u8) (x:=byF 0 (bl.length/8)) B1'.drew (arrC_get hq) ?_
 refine ⟨by decide,⟨by omega,?_⟩⟩
 refine ixS_o rfl hq ?_
 rw [Nat.zero_add]
 refine st_u B1'.drew (by rw [arrC_get hq];rfl) rfl ?_
 intro w2 B2 F2
 rw [arrC_upd hq] at B2
 have hm8:bl.length%8<8:=Nat.mod_lt _ (by omega)
 obtain ⟨g1,g2,g3⟩:=byF_set (N:=0) (p:=bl.length) ⟨0,by first|omega|(dsimp only;omega)⟩
 have eor:orI .u8 (byF 0 (bl.length/8)) (shlI .u8 1 ((bl.length%8:Nat):Int))=((0/2^(8*(bl.length/8))%256+2^(bl.length%8):Nat):Int):=by
  have e1:shlI .u8 1 ((bl.length%8:Nat):Int)=((2^(bl.length%8):Nat):Int):=by
   have:∀r:Fin 8,shlI .u8 1 (((r:Nat):Nat):Int)=((2^(r:Nat):Nat):Int):=by decide +kernel
   exact this ⟨_,hm8⟩
  rw [e1]
  exact or_bit hm8 g2 g3
 rw [eor, ←g1,Nat.zero_add] at B2
 have F02:Fm w1 w2 [p]:=(Fm.refl w1 [p]).drew.trans F2 (fun x hx => .inl hx)
 refine joinP_id ?_
 refine ⟨fun x w'=>∃i:Nat,x=(i:Int)∧i≤bl.length∧Blk w' p (arrC .u8 (bl.length/8+1) (byF (2^bl.length+bN (bl.take i)*2^(bl.length-i))))∧Fm w1 w' [p],fun x _=>bl.length-x.toNat,⟨0,rfl,Nat.zero_le _,by simpa [bN] using B2,F02⟩,?_⟩
 rintro x w3 ⟨i,rfl,hi,B3,F3⟩
 unfold q54_L0
 refine cnd_d ?_ ?_
 ·intro hc
  have hi2:i<bl.length:=by omega
  have hbi:=hb _ (List.getElem_mem hi2)
  have V3:=V1.fr F3 (by intro b hb';simp;exact hvb b hb')
  refine Vec.ldN i V3 rfl hi2 ?_
  intro q hq'
  refine ld_c (t := .I .i64) (x:=((bl[i]:Nat):Int)) hq' ?_
  unfold drw
  have eP:IntKind.i64.wrap (IntKind.i64.wrap ((s0.l:Int)-1)-((i:Nat):Int))=((bl.length-1-i:Nat):Int):=by
   rw [wI64 (x:=(s0.l:Int)-1) (by omega) (by omega),wI64 (by omega) (by omega)];omega
  rw [eP,show (8:Int)=((8:Nat):Int) from rfl,quoI_nat _ _ _ (by simp only [IntKind.bits];omega),show Int.tmod ((bl.length-1-i:Nat):Int) ((8:Nat):Int)=(((bl.length-1-i)%8:Nat):Int) from rfl]
  generalize hpp:bl.length-1-i=pp at *
  have hq2:pp/8<bl.length/8+1:=by omega
  have hr:pp%8<8:=Nat.mod_lt _ (by omega)
  refine ⟨by decide,?_⟩
  refine ixS_o rfl hq2 ?_
  rw [Nat.zero_add]
  refine ld_b (t := .I .u8) (x:=byF (2^bl.length+bN (bl.take i)*2^(bl.length-i)) (pp/8)) B3.drew (arrC_get hq2) ?_
  refine ⟨by decide,⟨by omega,?_⟩⟩
  refine ixS_o rfl hq2 ?_
  rw [Nat.zero_add]
  refine st_u B3.drew (by rw [arrC_get hq2];rfl) rfl ?_
  intro w4 B4 F4
  rw [arrC_upd hq2] at B4
  rw [wI64 (by omega) (by omega)]
  have hdv:2^(pp+1)∣2^bl.length+bN (bl.take i)*2^(bl.length-i):=by
   rw [show bl.length-i=pp+1 by omega]
   exact Nat.dvd_add (Nat.pow_dvd_pow 2 (by omega)) (Nat.dvd_mul_left _ _)
  obtain ⟨g1,g2,g3⟩:=byF_set hdv
  have enext:2^bl.length+bN (bl.take (i+1))*2^(bl.length-(i+1))=2^bl.length+bN (bl.take i)*2^(bl.length-i)+bl[i]*2^pp:=by
   rw [List.take_succ_eq_append_getElem hi2,bN_snoc,show bl.length-(i+1)=pp by omega,show bl.length-i=pp+1 by omega,Nat.add_mul,Nat.pow_succ,Nat.mul_comm 2 (bN _),Nat.mul_assoc,Nat.mul_comm 2 (2^pp)]
   omega
  have hbits:bl[i]=0∨bl[i]=1:=by omega
  refine ⟨⟨i+1,by simp,hi2,B4.congr ?_,F3.trans ((Fm.refl w3 [p]).drew.trans F4 (fun x hx => .inl hx)) (fun x hx => .inl hx)⟩,by first|omega|(dsimp only;omega)⟩
  rw [enext]
  congr 1
  rcases hbits with h0|h1
  ·rw [h0,Nat.zero_mul,Nat.add_zero]
   have ez:IntKind.u8.wrap (shlI .i64 ((0:Nat):Int) ((pp%8:Nat):Int))=0:=by
    unfold shlI
    simp
    rfl
   rw [ez]
   funext k
   unfold updF
   split
   ·rename_i hk
    subst hk
    exact or_zero8 (Nat.mod_lt _ (by omega))
   ·rfl
  ·rw [h1,Nat.one_mul,g1]
   have e1:IntKind.u8.wrap (shlI .i64 ((1:Nat):Int) ((pp%8:Nat):Int))=((2^(pp%8):Nat):Int):=by
    have:∀r:Fin 8,IntKind.u8.wrap (shlI .i64 ((1:Nat):Int) (((r:Nat):Nat):Int))=((2^(r:Nat):Nat):Int):=by decide +kernel
    exact this ⟨_,hr⟩
   rw [e1]
   congr 1
   exact or_bit hr g2 g3
 ·intro hc
  have hi2:i=bl.length:=by omega
  subst hi2
  unfold q54_J1
  rw [List.take_length,Nat.sub_self,Nat.pow_zero,Nat.mul_one] at B3
  have B3':Blk w3 p (arrC .u8 (bl.length/8+1) (byF (bN bl+2^bl.length))):=by rw [Nat.add_comm (bN bl)];exact B3
  refine hk w3 _ (VecU.of_byF B3' (by omega)) (F1.trans F3 (by intro v hv;right;simp at hv;omega)) ?_
  intro v hv
  simp [Sl.bs] at hv
  omega
end
section
variable {w:World}
theorem c21 {b:Nat} {ln:Nat→Nat} {f:Nat→Int} {K:Bool→PT} (B:Blk w b (arrC .i64 256 f)) (hf:∀i,f i=(ln i:Nat)) (h11:∀i,ln i≤11) (hs:sF (fun i=>if 0<ln i then 2^(11-ln i) else 0) 0 256=2^11) (two:∃x y,x<y∧y<256∧0<ln x∧0<ln y) (hk:K true w) :
  callP Tryd.prog 21 #[.slice (some ⟨b,0,none⟩) 256 256] [.c .B] K w:=by
 apply q21_ok (s0:=⟨some ⟨b,0,none⟩,256,256⟩)
 unfold q21
 refine cnd_d (fun h=>absurd h (show ¬((256:Int)<((256:Nat):Int)) by decide)) (fun _ => ?_)
 refine joinP_id ?_
 refine ⟨fun x w'=>∃i:Nat,x=(((sF (fun i=>if 0<ln i then 2^(11-ln i) else 0) 0 i:Nat):Int),((sF (fun i=>if 0<ln i then 1 else 0) 0 i:Nat):Int),(i:Int))∧i≤256∧w'=w,fun x _=>256-x.2.2.toNat,⟨0,rfl,Nat.zero_le _,rfl⟩,?_⟩
 rintro x w1 ⟨i,rfl,hi,rfl⟩
 unfold q21_L2
 simp only
 refine cnd_d ?_ ?_
 ·intro hc
  have hi2:i<256:=by omega
  have h1:=h11 i
  refine joinP_id ?_
  unfold q21_X1
  refine ixS_o rfl hi2 ?_
  rw [Nat.zero_add]
  refine ld_b (t := .I .i64) (x:=((ln i:Nat):Int)) B (by rw [arrC_get hi2,hf i];rfl) ?_
  refine cnd_d (fun h=>absurd h (by omega)) (fun _=>cnd_d (fun h=>absurd h (by omega)) (fun _ => ?_))
  have hsum:sF (fun i=>if 0<ln i then 2^(11-ln i) else 0) 0 (i+1)=sF (fun i=>if 0<ln i then 2^(11-ln i) else 0) 0 i+(if 0<ln i then 2^(11-ln i) else 0):=by rw [sF,Nat.zero_add]
  have hcnt:sF (fun i=>if 0<ln i then 1 else 0) 0 (i+1)=sF (fun i=>if 0<ln i then 1 else 0) 0 i+(if 0<ln i then 1 else 0):=by rw [sF,Nat.zero_add]
  have hle:sF (fun i=>if 0<ln i then 2^(11-ln i) else 0) 0 i≤2^11:=by
   rw [←hs];exact sF_mono_n _ (by omega)
  have hle2:sF (fun i=>if 0<ln i then 1 else 0) 0 i≤i*1:=sF_le_mul (fun j _=>by split<;>omega)
  have hp:2^(11-ln i)≤2^11:=Nat.pow_le_pow_right (by omega) (by omega)
  have e11:IntKind.i64.wrap ((11:Int)-((ln i:Nat):Int))=((11-ln i:Nat):Int):=by rw [wI64 (by omega) (by omega)];omega
  unfold q21_J0
  simp only
  refine cnd_d (fun hpos => ?_) (fun hn => ?_)
  ·rw [e11]
   refine ⟨by omega,?_⟩
   rw [shl1 (by omega)]
   generalize 2^(11-ln i)=pw at *
   rw [wI64 (x:=_+((pw:Nat):Int)) (by omega) (by omega),wI64 (x:=((sF (fun i=>if 0<ln i then 1 else 0) 0 i:Nat):Int)+1) (by omega) (by omega),wI64 (by omega) (by omega)]
   refine ⟨⟨i+1,?_,hi2,rfl⟩,by first|omega|(dsimp only;omega)|(simp only [];omega)⟩
   rw [hsum,hcnt,if_pos (by omega),if_pos (by omega),Prod.mk.injEq,Prod.mk.injEq]
   exact ⟨by omega,by omega,by first|omega|(dsimp only;omega)⟩
  ·rw [wI64 (by omega) (by omega)]
   refine ⟨⟨i+1,?_,hi2,rfl⟩,by first|omega|(dsimp only;omega)|(simp only [];omega)⟩
   rw [hsum,hcnt,if_neg (by omega),if_neg (by omega),Prod.mk.injEq,Prod.mk.injEq]
   exact ⟨by omega,by omega,by first|omega|(dsimp only;omega)⟩
 ·intro hc
  have hi2:i=256:=by omega
  subst hi2
  obtain ⟨x,y,hxy,hy,hx0,hy0⟩:=two
  have h2:2≤sF (fun i=>if 0<ln i then 1 else 0) 0 256:=by
   have e:=sF_split (fun i=>if 0<ln i then 1 else 0) y (256-y)
   rw [show y+(256-y)=256 by omega] at e
   have m1:=sF_mem (fun i=>if 0<ln i then 1 else 0) 0 (n:=y) (i:=x) (by omega) (by omega)
   have m2:=sF_mem (fun i=>if 0<ln i then 1 else 0) y (n:=256-y) (i:=y) (by omega) (by omega)
   rw [if_pos hx0] at m1
   rw [if_pos hy0] at m2
   omega
  unfold q21_J4
  simp only
  refine joinP_id (cnd_d (fun _ => ?_) (fun h=>absurd h (by omega)))
  unfold q21_J3
  rw [hs]
  exact hk
theorem mt_ex {v n x:Nat} {tab:List Cell3} (h:x∈mt v n tab):∃j,∃hj:j<tab.length,tab[j].1=x:=by
 unfold mt at h
 obtain ⟨c,hc,e⟩:=List.mem_map.mp h
 obtain ⟨j,hj,e2⟩:=List.mem_iff_getElem.mp (List.mem_filter.mp hc).1
 exact ⟨j,hj,by rw [e2];exact e⟩
theorem c53 {b x:Nat} {cnt ln:Nat→Nat} {L M:Nat} {f:Nat→Int} {K:Sl→PT} (H:HT cnt L M ln) (hL:L≤256) (B:Blk w b (arrC .i64 256 f)) (hf:∀i,f i=(lnx L ln i:Nat)) (hx:x<L) (h0:0<ln x) (hk:∀w' s',Vec 1 w' s' (nints (codeB (vC ln L M x) (ln x)))→Fm w w' []→(∀v∈s'.bs,w.heap.size≤v)→K s' w') :
  callP Tryd.prog 53 #[.slice (some ⟨b,0,none⟩) 256 256,.int .i64 (x:Nat)] [.c .S] K w:=by
 have h11:ln x≤11:=by have:=H.le x hx;have:=H.m11;omega
 have hc:=vC_lt H hx h0
 have hpl:vC ln L M x<2048:=Nat.lt_of_lt_of_le hc (Nat.pow_le_pow_right (by omega) h11:2^_≤2^11)
 apply q53_ok (s0:=⟨some ⟨b,0,none⟩,256,256⟩)
 unfold q53
 refine joinP_id ?_
 refine c73 H hL B hf ?_
 intro w1 r4 V4 F1 n4
 have h4l:=V4.len
 rw [flat3_len] at h4l
 have h4b:=V4.lt
 have hcl:=clZ_len L M ln 11
 obtain ⟨j0,hj0,ej0⟩:=mt_ex (v:=vC ln L M x) (n:=ln x) (x:=x) (tab:=clZ L M ln 11) (by rw [mt_some H hx hL h0];simp)
 refine ⟨fun y w'=>∃j:Nat,y=(j:Int)∧j≤j0∧Fm w1 w' [],fun y _=>3000-y.toNat,⟨0,rfl,Nat.zero_le _,Fm.refl _ _⟩,?_⟩
 rintro y w2 ⟨j,rfl,hj,F2⟩
 unfold q53_L4
 refine cnd_d (fun hcj => ?_) (fun hcj=>absurd (by omega) hcj)
 have hj2:j<(clZ L M ln 11).length:=by omega
 refine joinP_id ?_
 unfold q53_X3
 refine tab_ld j (V4.fr F2 (by simp)) rfl hj2 ?_
 rintro tb o ⟨F,HB,f0,f1,f2⟩
 refine ld3_b HB f0 f1 f2 ?_
 refine nw_3i ?_
 intro w3 F3 hs3 B3
 have hsz2:=F2.size
 have hsz1:=F1.size
 have hpn:w.heap.size≤w2.heap.size:=by omega
 have hpn1:w1.heap.size≤w2.heap.size:=hsz2
 generalize w2.heap.size=p at *
 show st _ _ (st _ _ (st _ _ _)) _
 simp only [add_mk,Nat.add_zero,Nat.zero_add]
 refine st_u B3 rfl rfl ?_
 intro w4 B4 F4
 refine st_u B4 rfl rfl ?_
 intro w5 B5 F5
 refine st_u B5 rfl rfl ?_
 intro w6 B6 F6
 have F16:Fm w1 w6 []:=F2.trans ((((F3.mono (S' := [p]) (by simp)).trans F4 (fun x hx => .inl hx)).trans F5 (fun x hx => .inl hx)).trans F6 (fun x hx => .inl hx)) (by intro v hv;right;simp at hv;omega)
 refine ld_b (t := .I .i64) (x:=(((clZ L M ln 11)[j].1:Nat):Int)) B6 rfl ?_
 refine cnd_nd (fun hne => ?_) (fun heq => ?_)
 ·unfold q53_J2
  have hjne:j≠j0:=by
   intro e
   subst e
   exact hne (by rw [ej0])
  rw [wI64 (by omega) (by omega)]
  exact ⟨⟨j+1,by omega,by omega,F16⟩,by first|omega|(dsimp only;omega)⟩
 ·have heq':(clZ L M ln 11)[j].1=x:=by omega
  obtain ⟨i,n,hi256,hin,hcell⟩:=clZ_mem (List.getElem_mem hj2)
  rw [hcell] at heq'
  simp only at heq'
  subst heq'
  rw [lnx_lt hx] at hin
  subst hin
  rw [hcell] at B6
  refine joinP_id ?_
  refine ld_b (t := .I .i64) (x:=((ln i:Nat):Int)) B6 rfl ?_
  rw [wI64 (x:=((ln i:Nat):Int)-1) (by omega) (by omega)]
  refine ⟨fun z w'=>∃m:Nat,m≤ln i∧z.2=((ln i:Nat):Int)-1-(m:Int)∧Vec 1 w' z.1 (nints ((codeB (vC ln L M i) (ln i)).take m))∧Blk w' p (updC (updC (updC (c3C 0 0 0) 0 (.int .i64 (i:Nat))) 1 (.int .i64 (vC ln L M i:Nat))) 2 (.int .i64 (ln i:Nat)))∧Fm w6 w' []∧(∀v∈z.1.bs,w6.heap.size≤v),fun z _=>(z.2+1).toNat,⟨0,Nat.zero_le _,by omega,Vec.nil,B6,Fm.refl _ _,by simp [Sl.bs]⟩,?_⟩
  rintro ⟨zs,zi⟩ w7 ⟨m,hm,hzi,V7,B7,F7,n7⟩
  simp only at hzi V7 n7
  subst hzi
  unfold q53_L0
  simp only
  refine cnd_d (fun hge => ?_) (fun hlt => ?_)
  ·have hm2:m<ln i:=by omega
   simp only [add_mk,Nat.zero_add]
   refine ld_b (t := .I .i64) (x:=((vC ln L M i:Nat):Int)) B7 rfl ?_
   refine ⟨hge,?_⟩
   have ebit:andI .i64 (shrI .i64 ((vC ln L M i:Nat):Int) (((ln i:Nat):Int)-1-(m:Int))) 1=((vC ln L M i/2^(ln i-1-m)%2:Nat):Int):=by
    rw [show ((ln i:Nat):Int)-1-(m:Int)=((ln i-1-m:Nat):Int) by omega,shrI_nat _ _ _ (by simp only [IntKind.bits];omega)]
    have h1:=andI_i64 (vC ln L M i/2^(ln i-1-m)) 1 (by have:=Nat.div_le_self (vC ln L M i) (2^(ln i-1-m));omega) (by decide)
    rw [show (1:Int)=((1:Nat):Int) from rfl,h1,Nat.and_one_is_mod]
   rw [ebit]
   have hzl:=V7.len
   rw [nints_len,List.length_take,codeB_len,Nat.min_eq_left hm,Nat.mul_one] at hzl
   refine app_1 V7 rfl (by omega) ?_
   intro s8 w8 V8 F8 n8
   rw [wI64 (by omega) (by omega)]
   have hs7:=F7.size
   refine ⟨⟨m+1,hm2,by first|omega|(dsimp only;omega)|(simp only [];omega),?_,B7.fr F8 (fun h=>by have:=n7 p h;have:=B6.lt;omega),F7.trans F8 (fun v hv => .inr (n7 v hv)),?_⟩,by first|omega|(dsimp only;omega)|(simp only [];omega)⟩
   ·have hl:m<(codeB (vC ln L M i) (ln i)).length:=by rw [codeB_len];exact hm2
    rw [List.take_succ_eq_append_getElem hl,nints_app]
    have e:(codeB (vC ln L M i) (ln i))[m]=vC ln L M i/2^(ln i-1-m)%2:=by
     simp [codeB]
    rw [e]
    exact V8
   ·intro v hv
    rcases n8 v hv with h|h
    ·exact n7 v h
    ·omega
  ·have hm2:m=ln i:=by omega
   subst hm2
   rw [List.take_of_length_le (by rw [codeB_len];exact Nat.le_refl _)] at V7
   unfold q53_J1
   have hs16:=F16.size
   refine hk w7 zs V7 ((F1.trans F16 (by simp)).trans F7 (by simp)) ?_
   intro v hv
   have:=n7 v hv
   omega
end
theorem Vec.has1 {w:World} {s:Sl} {l:List Value} (h:Vec 1 w s l) (ho:∀v∈l,one v=true):Has 1 w s l:=by
 have hl:=h.len
 refine ⟨hl,?_,?_,ho⟩
 ·intro b hb i hi
  obtain ⟨h1,h2,f,h3,h4,h5⟩:=h.blk b hb
  obtain ⟨ab,ao,asp⟩:=b
  simp only at h1 h2 h3
  subst h1 h2
  rw [add_mk,Nat.zero_add,h3.cell,h4 i hi]
 ·intro e
  have h1:=h.non e
  have h2:=h.cap
  exact List.length_eq_zero_iff.mp (by omega)
theorem nints_one (l:List Nat):∀v∈nints l,one v=true:=by
 intro v hv
 unfold nints ints at hv
 simp only [List.map_map,List.mem_map] at hv
 obtain ⟨x,_,rfl⟩:=hv
 rfl
theorem nints_append (a b:List Nat):nints (a++b)=nints a++nints b:=by simp [nints,ints]
def slC (n:Nat) (G:Nat→Sl):Cells:=fun i=>if i<n then some (G i).val else none
theorem slC_get {n i:Nat} {G:Nat→Sl} (h:i<n):slC n G i=some (G i).val:=if_pos h
def updS (G:Nat→Sl) (o:Nat) (s:Sl):Nat→Sl:=fun i=>if i=o then s else G i
theorem slC_upd {n i:Nat} {G:Nat→Sl} {s:Sl} (h:i<n):updC (slC n G) i s.val=slC n (updS G i s):=by
 funext j
 unfold updC slC updS
 by_cases e:j=i
 ·subst e;rw [if_pos rfl,if_pos h,if_pos rfl]
 ·rw [if_neg e,if_neg e]
theorem mks24 {w:World} {κ:Sl→PT} (hk:∀w',Fm w w' []→w'.heap.size=w.heap.size+1→Blk w' w.heap.size (slC 256 fun _=>⟨none,0,0⟩)→κ ⟨some ⟨w.heap.size,0,none⟩,256,256⟩ w'):mks z24 24 24 256 256 κ w:=by
 refine ⟨256,256,rfl,rfl,Nat.le_refl _,by omega,hk _ (Fm.refl w []).alloc (World.size_alloc _ _) (Blk.new.congr ?_)⟩
 funext i
 exact zrep1 _ _ _
section
variable {w:World} {b:Nat} {s1:Sl} {ys:List Nat} {cnt ln:Nat→Nat} {L M:Nat} {f:Nat→Int}
structure LB (w:World) (b:Nat) (cnt:Nat→Nat) (L M:Nat) (ln:Nat→Nat) (f:Nat→Int):Prop where
 h:HT cnt L M ln
 l256:L≤256
 blk:Blk w b (arrC .i64 256 f)
 hf:∀i,f i=(lnx L ln i:Nat)
 h11:∀i,lnx L ln i≤11
 kr:sF (fun i=>if 0<lnx L ln i then 2^(11-lnx L ln i) else 0) 0 256=2^11
 two:∃x y,x<y∧y<256∧0<lnx L ln x∧0<lnx L ln y
theorem LB.fr {w':World} (h:LB w b cnt L M ln f) (F:Fm w w' []):LB w' b cnt L M ln f:=⟨h.h,h.l256,h.blk.fr F (by simp),h.hf,h.h11,h.kr,h.two⟩
theorem c31f {K3:Sl×Bool→PT} (T:LB w b cnt L M ln f) (A:Arr .u8 w s1 ys) (hby:By ys) (hy:∀x∈ys,x<L∧0<ln x) (hne:ys ≠ []) (hyl:ys.length≤2^18) (hk:∀w' s' ol,EncT (vC ln L M) ln ys ol→VecU w' s' ol→Fm w w' []→(∀v∈s'.bs,w.heap.size≤v)→K3 (s',true) w') :
  callP Tryd.prog 31 #[.slice (some ⟨b,0,none⟩) 256 256,.slice s1.a s1.l s1.c,.bool false] [.c .S,.c .B] K3 w:=by
 have hsl:=A.len
 have hlp:=List.length_pos_iff.mpr hne
 apply q31_ok (s0:=⟨some ⟨b,0,none⟩,256,256⟩)
 unfold q31
 refine c21 T.blk T.hf T.h11 T.kr T.two ?_
 refine ⟨(fun h=>by cases h),fun _=>cnd_d (fun h=>absurd h (by omega)) (fun _ => ?_)⟩
 refine joinP_id ⟨fun _ => ?_,fun h=>by cases h⟩
 refine mks24 ?_
 intro w1 F1 hs1 B1
 have hpn:w.heap.size≤w.heap.size:=Nat.le_refl _
 have hne1:∀a,s1.a=some a→ys ≠ []→a.block≠w.heap.size:=fun a ha hx=>by have:=A.old hx a ha;omega
 have hbp:b≠w.heap.size:=by have:=T.blk.lt;omega
 have T1:=T.fr F1
 have A1:=A.fr F1 (by simp)
 have hp1:=B1.lt
 generalize hpe:w.heap.size=p at *
 refine joinP_id ?_
 have hln11:∀x∈ys,ln x≤11:=fun x hx=>by have:=T.h.le x (hy x hx).1;have:=T.h.m11;omega
 have hbitl:∀i,i≤ys.length→(bitsT (vC ln L M) ln (ys.take i)).length≤11*ys.length:=by
  intro i hi
  rw [bitsT_len]
  have:=hE_le (cd:=vC ln L M) (ln:=ln) (xs:=ys.take i) (fun x hx=>hln11 x (List.mem_of_mem_take hx))
  rw [List.length_take] at this
  omega
 refine ⟨fun x w'=>∃(i:Nat) (G:Nat→Sl),x.2=(i:Int)∧i≤ys.length∧Vec 1 w' x.1 (nints (bitsT (vC ln L M) ln (ys.take i)))∧Blk w' p (slC 256 G)∧(∀c,c<256→(G c).a=none∨Vec 1 w' (G c) (nints (codeB (vC ln L M c) (ln c))))∧(∀c,c<256→∀v∈(G c).bs,w1.heap.size≤v∧v∉x.1.bs)∧(∀v∈x.1.bs,w1.heap.size≤v)∧Fm w1 w' [p],fun x _=>ys.length-x.2.toNat,
  ⟨0,fun _=>⟨none,0,0⟩,rfl,Nat.zero_le _,Vec.nil,B1,fun _ _ => .inl rfl,(by intro c _ v hv;simp [Sl.bs] at hv),by simp [Sl.bs],Fm.refl _ _⟩,?_⟩
 rintro ⟨x,xi⟩ w2 ⟨i,G,hxi,hi,V2,B2,hG,hGb,n2,F2⟩
 simp only at hxi V2 hGb n2
 subst hxi
 have hpx:p∉x.bs:=fun h=>by have:=n2 p h;omega
 unfold q31_L1
 simp only
 refine cnd_d ?_ ?_
 ·intro hc
  have hi2:i<ys.length:=by omega
  have hym:=List.getElem_mem hi2
  obtain ⟨hyL,hy0⟩:=hy _ hym
  have hy256:=hby _ hym
  have A2:=A1.fr F2 (by intro a ha hx;simp;exact hne1 a ha hx)
  refine A2.ldk i rfl hi2 ?_
  intro q hq
  refine ld_c (t := .I .u8) (x:=((ys[i]:Nat):Int)) hq ?_
  have hcl:=bitsT_snoc (vC ln L M) ln hi2
  have hb1:=hbitl i hi
  have fin:∀(w3:World) (G':Nat→Sl),Vec 1 w3 x (nints (bitsT (vC ln L M) ln (ys.take i)))→Blk w3 p (slC 256 G')→Vec 1 w3 (G' ys[i]) (nints (codeB (vC ln L M ys[i]) (ln ys[i])))→(∀c,c<256→(G' c).a=none∨Vec 1 w3 (G' c) (nints (codeB (vC ln L M c) (ln c))))→(∀c,c<256→∀v∈(G' c).bs,w1.heap.size≤v∧v∉x.bs)→Fm w1 w3 [p] →
    q31_J0 K3 ⟨some ⟨p,0,none⟩,256,256⟩ (x,(i:Int)) (fun s' w'=>(∃(i:Nat) (G:Nat→Sl),s'.2=(i:Int)∧i≤ys.length∧Vec 1 w' s'.1 (nints (bitsT (vC ln L M) ln (ys.take i)))∧Blk w' p (slC 256 G)∧(∀c,c<256→(G c).a=none∨Vec 1 w' (G c) (nints (codeB (vC ln L M c) (ln c))))∧(∀c,c<256→∀v∈(G c).bs,w1.heap.size≤v∧v∉s'.1.bs)∧(∀v∈s'.1.bs,w1.heap.size≤v)∧Fm w1 w' [p])∧ys.length-s'.2.toNat<ys.length-((i:Nat):Int).toNat) ((ys[i]:Nat):Int) () w3:=by
   intro w3 G' V3 B3 VG hG3 hGb3 F3
   have hgl:=VG.len
   rw [nints_len,codeB_len,Nat.mul_one] at hgl
   have hga:(G' ys[i]).a.isNone=false:=by
    cases ha:(G' ys[i]).a with
    | none=>have h1:=VG.non ha;have h2:=VG.cap;omega
    | some a=>rfl
   unfold q31_J0
   simp only
   refine ixS_o rfl hy256 ?_
   rw [Nat.zero_add]
   refine ld_b (t := .S) (x:=G' ys[i]) B3 (slC_get hy256) ?_
   refine ⟨(fun h=>by rw [hga] at h;cases h),fun _ => ?_⟩
   refine ixS_o rfl hy256 ?_
   rw [Nat.zero_add]
   refine ld_b (t := .S) (x:=G' ys[i]) B3 (slC_get hy256) ?_
   have hxl:=V3.len
   rw [nints_len,Nat.mul_one] at hxl
   have hln:=hln11 _ hym
   refine app_v (zs:=z3) V3 (VG.has1 (nints_one _)) (by decide) (by first|omega|(dsimp only;omega)|(simp only [];omega)) ?_
   intro s4 w4 V4 F4 n4
   rw [wI64 (by omega) (by omega)]
   have hs3:=F3.size
   have V4:Vec 1 w4 s4 (nints (bitsT (vC ln L M) ln (ys.take i))++nints (codeB (vC ln L M ys[i]) (ln ys[i]))):=V4
   rw [←nints_append, ←hcl] at V4
   have n4':∀v∈s4.bs,w1.heap.size≤v:=by
    intro v hv
    rcases n4 v hv with h|h
    ·exact n2 v h
    ·omega
   refine ⟨⟨i+1,G',by simp,hi2,V4,B3.fr F4 hpx,?_,?_,n4',F3.trans F4 (fun v hv => .inr (n2 v hv))⟩,by first|omega|(dsimp only;omega)|(simp only [];omega)⟩
   ·intro c hc'
    exact (hG3 c hc').imp id (fun h=>h.fr F4 (fun v hv=>(hGb3 c hc' v hv).2))
   ·intro c hc' v hv
    refine ⟨(hGb3 c hc' v hv).1,?_⟩
    intro hm
    rcases n4 v hm with h|h
    ·exact (hGb3 c hc' v hv).2 h
    ·rcases hG3 c hc' with hn|hv3
     ·unfold Sl.bs at hv;rw [hn] at hv;simp at hv
     ·have:=hv3.lt v hv;omega
  refine joinP_id ?_
  refine ixS_o rfl hy256 ?_
  rw [Nat.zero_add]
  refine ld_b (t := .S) (x:=G ys[i]) B2 (slC_get hy256) ?_
  refine ⟨fun hn => ?_,fun hs => ?_⟩
  ·rw [wI64 (by omega) (by omega)]
   have hbp2:b ∉ [p]:=nm1 hbp
   refine c53 T.h T.l256 (T1.blk.fr F2 hbp2) T.hf hyL hy0 ?_
   intro w3 r15 V15 F3 n15
   refine ixS_o rfl hy256 ?_
   rw [Nat.zero_add]
   have B3:=B2.fr F3 (by simp)
   refine st_u B3 (by rw [slC_get hy256];rfl) rfl ?_
   intro w4 B4 F4
   have B4':Blk w4 p (slC 256 (updS G ys[i] r15)):=B4.congr (slC_upd hy256)
   have hs2:=F2.size
   have hp2:=B2.lt
   have hx4:∀v∈x.bs,v ∉ [p]:=fun v hv=>by simp;exact fun e=>hpx (e▸hv)
   have h15:∀v∈r15.bs,v ∉ [p]:=fun v hv=>by have:=n15 v hv;simp;omega
   have hVx:=V2.lt
   refine fin w4 (updS G ys[i] r15) ((V2.fr F3 (by simp)).fr F4 hx4) B4' ?_ ?_ ?_ ((F2.trans F3 (by simp)).trans F4 (fun x hx => .inl hx))
   ·unfold updS;rw [if_pos rfl];exact V15.fr F4 h15
   ·intro c hc'
    unfold updS
    by_cases e:c=ys[i]
    ·rw [if_pos e,e];exact .inr (V15.fr F4 h15)
    ·rw [if_neg e]
     refine (hG c hc').imp id (fun h=>(h.fr F3 (by simp)).fr F4 ?_)
     intro v hv
     have:=(hGb c hc' v hv).1
     simp;omega
   ·intro c hc' v hv
    unfold updS at hv
    by_cases e:c=ys[i]
    ·rw [if_pos e] at hv
     have:=n15 v hv
     exact ⟨by omega,fun hm=>by have:=hVx v hm;omega⟩
    ·rw [if_neg e] at hv
     exact hGb c hc' v hv
  ·refine fin w2 G V2 B2 ?_ hG hGb F2
   rcases hG _ hy256 with h|h
   ·rw [h] at hs;cases hs
   ·exact h
 ·intro hc
  have hi2:i=ys.length:=by omega
  subst hi2
  rw [List.take_length] at V2
  have hbl:=hbitl ys.length (Nat.le_refl _)
  rw [List.take_length] at hbl
  unfold q31_J2
  refine c54 V2 bitsT_bit (by omega) ?_
  intro w3 s3 V3 F3 n3
  have hs1':=F1.size
  have hs2:=F2.size
  refine hk w3 s3 _ ⟨leB_by _ _,?_,?_⟩ V3 ((F1.trans F2 (by intro v hv;right;simp at hv;omega)).trans F3 (by simp)) ?_
  ·rw [leB_val,bitsT_val (fun x hx=>vC_lt T.h (hy x hx).1 (hy x hx).2),bitsT_len]
   refine Nat.mod_eq_of_lt ?_
   have hlt:=hE_lt T.h hy
   have h1:(hE (vC ln L M) ln ys).1+2^(hE (vC ln L M) ln ys).2<2^((hE (vC ln L M) ln ys).2+1):=by rw [Nat.pow_succ];omega
   have h2:2^((hE (vC ln L M) ln ys).2+1)≤2^(8*((hE (vC ln L M) ln ys).2/8+1)):=Nat.pow_le_pow_right (by omega) (by omega)
   rw [Nat.pow_mul] at h2
   exact Nat.lt_of_lt_of_le h1 h2
  ·rw [leB_len,bitsT_len]
  ·intro v hv
   have:=n3 v hv
   omega
end
theorem app_2u {T T':TypeId} {s:Sl} {κ:Sl→PT} {w:World} {l:List Nat} {u v:Nat} (h:VecU w s l) (hb:s.l+2≤2^46)
  (hk:∀s' w',VecU w' s' (l ++ [u,v])→Fm w w' s.bs→(∀b∈s'.bs,b∈s.bs∨w.heap.size≤b)→κ s' w'):nw [.int .u8 (u:Nat),.int .u8 (v:Nat)] T' (fun p=>app z5 T 1 s ⟨some p,2,2⟩ κ) w:=by
 refine nw_2 ?_
 intro w1 F1 hs1 B1
 refine app_vu (xs := [u,v]) (h.fr F1 (by simp)) ⟨rfl,?_,(fun h=>by cases h),by simp [bytes,one]⟩ hb ?_
 ·intro b hb' i hi
  injection hb' with hb'
  subst hb'
  rw [add_mk,Nat.zero_add,B1.cell]
  have hi:i<2:=by simpa [bytes] using hi
  have:i=0∨i=1:=by omega
  rcases this with rfl|rfl<;>rfl
 ·intro s' w' h1 h2 h3
  refine hk s' w' h1 ((F1.mono (S':=s.bs) (by simp)).trans h2 (fun b hb => .inl hb)) ?_
  intro b hb'
  rcases h3 b hb' with h4|h4
  ·exact .inl h4
  ·right;omega
theorem VecU.fresh {w:World} {p:Nat} {f:Cells} (B:Blk w p f):VecU w ⟨some ⟨p,0,none⟩,0,0⟩ []:=by
 refine ⟨⟨rfl,Nat.le_refl _,fun _=>rfl,?_⟩,?_,show (0:Nat)<2^63 by decide⟩
 ·intro a ha
  injection ha with ha
  subst ha
  exact ⟨rfl,rfl,_,B,by simp [bytes],by simp⟩
 ·intro a ha i hi
  exact absurd hi (Nat.not_lt_zero _)
theorem nw_0 {w:World} {T:TypeId} {κ:Addr→PT} (hk:∀w',Fm w w' []→w'.heap.size=w.heap.size+1→Blk w' w.heap.size (fun _=>none)→κ ⟨w.heap.size,0,none⟩ w'):nw [] T κ w :=
 hk _ (Fm.refl w []).alloc (World.size_alloc _ _) (Blk.new.congr (by funext i;simp))
def hdP (ols:List (List Nat)) (i:Nat):List Nat:=(List.range (min i 3)).flatMap fun k => [lenP ols k%256,lenP ols k/256%256]
theorem hdP_succ {ols:List (List Nat)} {i:Nat} (h:i<3):hdP ols (i+1)=hdP ols i ++ [lenP ols i%256,lenP ols i/256%256]:=by
 unfold hdP
 rw [Nat.min_eq_left (by omega),Nat.min_eq_left (by omega),List.range_succ,List.flatMap_append]
 simp
theorem hdP_three {ols:List (List Nat)} : hdP ols 4=hdP ols 3:=rfl
theorem hdP_end {ols:List (List Nat)} : hdP ols 3=hdr6 (lenP ols 0) (lenP ols 1) (lenP ols 2):=by
 unfold hdP hdr6;simp [List.range_succ]
theorem hdP_len {ols:List (List Nat)} (i:Nat):(hdP ols i).length≤6:=by
 unfold hdP
 have:i=0∨i=1∨i=2∨3≤i:=by omega
 rcases this with rfl|rfl|rfl|h
 ·simp
 ·simp
 ·simp [List.range_succ]
 ·rw [Nat.min_eq_right h];simp [List.range_succ]
theorem flat_take {ols:List (List Nat)} {i:Nat} (h:i<ols.length):(ols.take (i+1)).flatten=(ols.take i).flatten++ols.getD i []:=by
 rw [List.take_succ_eq_append_getElem h,List.flatten_append,List.getD_eq_getElem?_getD,List.getElem?_eq_getElem h]
 simp
section
variable {w:World} {b:Nat} {s1:Sl} {xs:List Nat} {cnt ln:Nat→Nat} {L M:Nat} {f:Nat→Int}
theorem c31t {K3:Sl×Bool→PT} {ols:List (List Nat)} (T:LB w b cnt L M ln f) (A:Arr .u8 w s1 xs) (hby:By xs) (hy:∀x∈xs,x<L∧0<ln x) (h12:12≤xs.length) (hyl:xs.length≤2^18) (h4:ols.length=4) (hp:∀k,k<4→EncT (vC ln L M) ln (segP xs k) (ols.getD k [])∧lenP ols k≤65535) (hk:∀w' s',VecU w' s' (Out4 ols)→Fm w w' []→K3 (s',true) w') :
  callP Tryd.prog 31 #[.slice (some ⟨b,0,none⟩) 256 256,.slice s1.a s1.l s1.c,.bool true] [.c .S,.c .B] K3 w:=by
 have hsl:=A.len
 apply q31_ok (s0:=⟨some ⟨b,0,none⟩,256,256⟩)
 unfold q31
 refine c21 T.blk T.hf T.h11 T.kr T.two ?_
 refine ⟨(fun h=>by cases h),fun _=>cnd_d (fun h=>absurd h (by omega)) (fun _ => ?_)⟩
 refine joinP_id ⟨(fun h=>by cases h),fun _ => ?_⟩
 unfold q31_J6
 have eq4:quoI .i64 (IntKind.i64.wrap ((s1.l:Int)+3)) 4=((segN xs.length:Nat):Int):=by
  rw [hsl,wI64 (by omega) (by omega),show (xs.length:Int)+3=((xs.length+3:Nat):Int) by omega,show (4:Int)=((4:Nat):Int) from rfl,quoI_nat _ _ _ (by simp only [IntKind.bits];omega)]
  rfl
 have hsg:segN xs.length=(xs.length+3)/4:=rfl
 rw [eq4]
 refine ⟨by decide,cnd_d (fun h=>absurd h (by rw [wI64 (by omega) (by omega)];omega)) (fun _ => ?_)⟩
 refine nw_0 ?_
 intro w1 F1 hs1 B1
 refine nw_0 ?_
 intro w2 F2 hs2 B2
 have F02:Fm w w2 []:=F1.trans F2 (by simp)
 have VH:VecU w2 ⟨some ⟨w.heap.size,0,none⟩,0,0⟩ []:=VecU.fresh (B1.fr F2 (by simp))
 have VB:VecU w2 ⟨some ⟨w1.heap.size,0,none⟩,0,0⟩ []:=VecU.fresh B2
 refine joinP_id ?_
 have hflat:∀i,i≤4→(ols.take i).flatten.length≤i*65535:=by
  intro i
  induction i with
  | zero=>intro _;simp
  | succ i ih =>
   intro h
   have ih:=ih (by omega)
   have:=(hp i (by omega)).2
   rw [flat_take (by omega),List.length_append]
   unfold lenP at this
   omega
 refine ⟨fun x w'=>∃i:Nat,x.2.2=(i:Int)∧i≤4∧VecU w' x.1 (hdP ols i)∧VecU w' x.2.1 (ols.take i).flatten∧Fm w w' []∧(∀v∈x.1.bs,w.heap.size≤v∧v∉x.2.1.bs)∧(∀v∈x.2.1.bs,w.heap.size≤v),fun x _=>5-x.2.2.toNat,⟨0,rfl,by omega,VH,VB,F02,?_,?_⟩,?_⟩
 ·intro v hv
  simp [Sl.bs] at hv ⊢
  omega
 ·intro v hv
  simp [Sl.bs] at hv
  omega
 rintro ⟨xh,xb,xi⟩ w3 ⟨i,hxi,hi,V3h,V3b,F3,nh,nb⟩
 simp only at hxi V3h V3b nh nb
 subst hxi
 unfold q31_L4
 simp only
 rw [eq4]
 refine cnd_d ?_ ?_
 ·intro hc
  have hi4:i<4:=by omega
  obtain ⟨hEi,hl65⟩:=hp i hi4
  have hmul:i*segN xs.length≤3*segN xs.length:=Nat.mul_le_mul_right _ (by omega)
  have elo:IntKind.i64.wrap (((i:Nat):Int)*((segN xs.length:Nat):Int))=((i*segN xs.length:Nat):Int):=by
   rw [show ((i:Nat):Int)*((segN xs.length:Nat):Int)=((i*segN xs.length:Nat):Int) by norm_cast,wI64 (by omega) (by omega)]
  have ehi:minI (IntKind.i64.wrap (IntKind.i64.wrap (((i:Nat):Int)+1)*((segN xs.length:Nat):Int))) (s1.l:Int)=((min ((i+1)*segN xs.length) xs.length:Nat):Int):=by
   have hm4:(i+1)*segN xs.length≤4*segN xs.length:=Nat.mul_le_mul_right _ (by omega)
   rw [wI64 (x:=((i:Nat):Int)+1) (by omega) (by omega),show (((i:Nat):Int)+1)*((segN xs.length:Nat):Int)=(((i+1)*segN xs.length:Nat):Int) by norm_cast,wI64 (by omega) (by omega),hsl]
   unfold minI
   split<;>omega
  rw [elo,ehi]
  have hlo:i*segN xs.length≤min ((i+1)*segN xs.length) xs.length:=by rw [Nat.succ_mul];omega
  have A3:=A.fr F3 (by simp)
  have hsub:=A3.sub (i*segN xs.length) (min ((i+1)*segN xs.length) xs.length) hlo (Nat.min_le_right _ _)
  have epart:(xs.drop (i*segN xs.length)).take (min ((i+1)*segN xs.length) xs.length-i*segN xs.length)=segP xs i:=by
   unfold segP
   rw [Nat.succ_mul] at *
   by_cases h:i*segN xs.length+segN xs.length≤xs.length
   ·rw [Nat.min_eq_left h,Nat.add_sub_cancel_left]
   ·rw [Nat.min_eq_right (by omega),List.take_of_length_le (by rw [List.length_drop];omega),List.take_of_length_le (by rw [List.length_drop];omega)]
  rw [epart] at hsub
  refine slc_lh (n:=i*segN xs.length) (m:=min ((i+1)*segN xs.length) xs.length) rfl rfl hlo (by have:=A.cap;have:=Nat.min_le_right ((i+1)*segN xs.length) xs.length;omega) ?_
  have hpl:(segP xs i).length≤xs.length:=by unfold segP;rw [List.length_take,List.length_drop];omega
  have hpne:=segP_len h12 hi4
  refine c31f (s1:=⟨slA s1.a (i*segN xs.length) s1.c 1,min ((i+1)*segN xs.length) xs.length-i*segN xs.length,s1.c-i*segN xs.length⟩) (T.fr F3) hsub (fun x hx=>hby x (List.mem_of_mem_drop (List.mem_of_mem_take hx))) (fun z hz=>hy z (List.mem_of_mem_drop (List.mem_of_mem_take hz))) hpne (by omega) ?_
  intro w4 s4 ol' hE' V4 F4 n4
  have eol:ol'=ols.getD i []:=hE'.uniq hEi
  subst eol
  have h4l:=V4.len
  have hlen:s4.l=lenP ols i:=h4l
  have V4h:=V3h.fr F4 (by simp)
  have V4b:=V3b.fr F4 (by simp)
  have hfl:=hflat i hi
  have hs3:=F3.size
  have hs4:=F4.size
  refine ⟨(fun h=>by cases h),fun _=>cnd_d (fun h=>absurd h (by first|omega|(dsimp only;omega)|(simp only [];omega))) (fun _ => ?_)⟩
  have fin:∀(w5:World) (h5:Sl),VecU w5 h5 (hdP ols (i+1))→VecU w5 xb (ols.take i).flatten→VecU w5 s4 (ols.getD i [])→Fm w w5 []→(∀v∈h5.bs,w.heap.size≤v∧v∉xb.bs) →
    q31_J3 (xh,xb,((i:Nat):Int)) (fun s' w'=>(∃i:Nat,s'.2.2=(i:Int)∧i≤4∧VecU w' s'.1 (hdP ols i)∧VecU w' s'.2.1 (ols.take i).flatten∧Fm w w' []∧(∀v∈s'.1.bs,w.heap.size≤v∧v∉s'.2.1.bs)∧(∀v∈s'.2.1.bs,w.heap.size≤v))∧5-s'.2.2.toNat<5-((i:Nat):Int).toNat) (s4,true) h5 w5:=by
   intro w5 h5 V5h V5b V5 F5 n5
   unfold q31_J3
   simp only
   have hbl:=V5b.len
   refine app_vu (xs:=ols.getD i []) V5b V5.vec.arr.has (by omega) ?_
   intro s6 w6 V6 F6 n6
   rw [wI64 (by omega) (by omega)]
   have hs5:=F5.size
   refine ⟨⟨i+1,by simp,by omega,V5h.fr F6 (fun v hv=>(n5 v hv).2),?_,F5.trans F6 (fun v hv => .inr (nb v hv)),?_,?_⟩,by first|omega|(dsimp only;omega)|(simp only [];omega)⟩
   ·rw [flat_take (by omega)];exact V6
   ·intro v hv
    refine ⟨(n5 v hv).1,?_⟩
    intro hm
    rcases n6 v hm with h|h
    ·exact (n5 v hv).2 h
    ·have:=V5h.lt v hv;omega
   ·intro v hv
    rcases n6 v hv with h|h
    ·exact nb v h
    ·omega
  refine joinP_id ?_
  refine cnd_d (fun h3=>⟨by decide,?_⟩) (fun h3 => ?_)
  ·have hi3:i<3:=by omega
   have hhl:=V4h.len
   have hh6:=hdP_len (ols:=ols) i
   simp only
   rw [hlen,show IntKind.u8.wrap ((lenP ols i:Nat):Int)=((lenP ols i%256:Nat):Int) from wrap_u (k := .u8) rfl _,show IntKind.u8.wrap (shrI .i64 ((lenP ols i:Nat):Int) 8)=((lenP ols i/256%256:Nat):Int) by
     rw [show (8:Int)=((8:Nat):Int) from rfl,shrI_nat _ _ _ (by simp only [IntKind.bits];omega),wrap_u (k := .u8) rfl];rfl]
   refine app_2u V4h (by omega) ?_
   intro s5 w5 V5 F5 n5
   have hbx:∀v∈xb.bs,v∉xh.bs:=fun v hv hm=>(nh v hm).2 hv
   have h4x:∀v∈s4.bs,v∉xh.bs:=fun v hv hm=>by have:=n4 v hv;have:=V3h.lt v hm;omega
   refine fin w5 s5 (by rw [hdP_succ hi3];exact V5) (V4b.fr F5 hbx) (V4.fr F5 h4x) ((F3.trans F4 (by simp)).trans F5 (fun v hv => .inr (nh v hv).1)) ?_
   intro v hv
   rcases n5 v hv with h|h
   ·exact nh v h
   ·refine ⟨by omega,fun hm => ?_⟩
    have:=V4b.lt v hm;omega
  ·have hi3:i=3:=by omega
   subst hi3
   exact fin w4 xh (by rw [hdP_three];exact V4h) V4b V4 (F3.trans F4 (by simp)) nh
 ·intro hc
  have hi4:i=4:=by omega
  subst hi4
  rw [hdP_three,hdP_end] at V3h
  rw [List.take_of_length_le (by omega)] at V3b
  have hfl:=hflat 4 (by omega)
  rw [List.take_of_length_le (by omega)] at hfl
  have l1:=V3h.len
  have l2:=V3b.len
  have e6:(hdr6 (lenP ols 0) (lenP ols 1) (lenP ols 2)).length=6:=rfl
  unfold q31_J5
  simp only
  refine app_vu (xs:=ols.flatten) V3h V3b.vec.arr.has (by omega) ?_
  intro s6 w6 V6 F6 n6
  exact hk w6 s6 V6 (F3.trans F6 (fun v hv => .inr (nh v hv).1))
end
theorem law8 {w:World} {s0:Sl} {xs:List Nat} {K:Bool→PT} {b:Bool} (G:GE w) (A:Arr .u8 w s0 xs) (hby:By xs) (hk:∀w',Fm w w' []→K true w'):callP Tryd.prog 8 #[.slice s0.a s0.l s0.c,.bool b] [.c .B] K w:=by
 have hsl:=A.len
 apply q8_ok
 unfold q8
 refine cnd_d (fun _=>hk _ (Fm.refl _ _)) (fun _=>cnd_d (fun _=>hk _ (Fm.refl _ _)) (fun hle => ?_))
 have hxl:xs.length≤2^18:=by omega
 refine c24 (b:=b) (t:=0) G A hby hxl (by decide) ?_ ?_
 ·intro w1 k h1 h2 F1
  refine cnd_nd (fun _=>c25 (k:=k) (by omega) h2 (hk _ F1)) (fun h=>absurd h (by first|omega|(dsimp only;omega)|(simp only [];omega)))
 ·intro w1 o T D M ln L tbl ol _ _ hN _ hbt hwt hEn hlt VO VT VD F1
  refine cnd_nd (fun h=>absurd rfl h) (fun _ => ?_)
  obtain ⟨f,hf,hfx⟩:=hN.hl hwt
  refine c15 VT.vec.arr hbt (by omega) (fun h=>by rw [hf] at h;cases h) ?_
  intro f' used hf' w2 b2 F2 hbs B2
  rw [hf] at hf'
  injection hf' with hf'
  injection hf' with e1 e2
  subst e1 e2
  have A2:=A.fr (F1.trans F2 (by simp)) (by simp)
  obtain ⟨a,ha,ha2⟩:=hN.two
  have hl2:=hN.l2
  have hl256:=hN.l256
  have LB2:LB w2 b2 (fun i=>xs.count i) L M ln f:=⟨hN.h,hN.l256,B2,hfx,hN.le11,hN.kr256,a,L-1,ha,by omega,(hN.pos a).mpr ha2,(hN.pos (L-1)).mpr hN.last⟩
  have hy:∀x∈xs,x<L∧0<ln x:=fun x hx=>⟨(hN.mem hx).1,(hN.mem hx).2.1⟩
  have hne:xs ≠ []:=by intro e;subst e;have:=hN.last;simp at this
  have fin:∀w3 s3,VecU w3 s3 ol→Fm w2 w3 []→joinP (fun R7=>cnd true (cnd true (callP Tryd.prog 27 #[(.slice D.a D.l D.c),(.slice s3.a s3.l s3.c)] [.c .B] fun (r8:Bool)=>R7 r8) (R7 false)) (R7 false)) (q8_J0 K) w3:=by
   intro w3 s3 V3 F3
   refine joinP_id ⟨fun _=>⟨fun _ => ?_,fun h=>by cases h⟩,fun h=>by cases h⟩
   refine c27 (s0:=D) (s1:=s3) (xs:=ol) ((VD.fr (F2.trans F3 (by simp)) (by simp)).vec.arr) V3.vec.arr (by omega) ?_
   intro w4 F4
   unfold q8_J0
   exact hk _ (((F1.trans F2 (by simp)).trans F3 (by simp)).trans F4 (by simp))
  cases b with
  | false =>
   have hEn:EncT (vC ln L M) ln xs ol:=hEn
   refine c31f LB2 A2 hby hy hne hxl ?_
   intro w3 s3 ol' hE' V3 F3 n3
   have:=hE'.uniq hEn
   subst this
   exact fin w3 s3 V3 F3
  | true =>
   obtain ⟨h12,ols,h4,hparts,rfl⟩:Enc4 (vC ln L M) ln xs ol:=hEn
   refine c31t LB2 A2 hby hy h12 hxl h4 hparts ?_
   intro w3 s3 V3 F3
   exact fin w3 s3 V3 F3
end Go.Sx
