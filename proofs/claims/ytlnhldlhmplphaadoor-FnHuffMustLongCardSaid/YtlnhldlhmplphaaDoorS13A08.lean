/- Lemmas for the proof: H13 H14 H15 H16 H17 H18 H19 H20 U1 H21 H22 H23 P09 H24. No conditions. -/
import Derived.Test.YtlnhldlhmplphaaDoorS13A07
set_option linter.unusedVariables false
set_option linter.unusedSimpArgs false
namespace Go.Sx
open Go Go.Proofs
set_option maxRecDepth 4000
def cutG (Lg H:Nat) (D:Nat→Nat) (i:Nat):Nat:=if H<D i then 2^(Lg-H)-2^(Lg-D i) else 0
def cutD (H:Nat) (D:Nat→Nat) (i:Nat):Nat:=if H<D i then H else D i
def cutP (H:Nat) (D:Nat→Nat) (p i:Nat):Nat:=if p<i∧H<D i then H else D i
theorem sF_zero {g:Nat→Nat} : ∀ {n:Nat},(∀i,i<n→g i=0)→sF g 0 n=0
 | 0,_=>rfl
 | n+1,h=>by rw [sF,Nat.zero_add,h n (by omega),sF_zero (fun i hi=>h i (by omega))]
theorem sF_le_mul {g:Nat→Nat} {M:Nat} : ∀ {n:Nat},(∀i,i<n→g i≤M)→sF g 0 n≤n*M
 | 0,_=>by simp [sF]
 | n+1,h=>by
  rw [sF,Nat.zero_add,Nat.succ_mul]
  have:=sF_le_mul (n:=n) (fun i hi=>h i (by omega))
  have:=h n (by omega)
  omega
theorem sF_le_sF {g h:Nat→Nat} : ∀ {n:Nat},(∀i,i<n→g i≤h i)→sF g 0 n≤sF h 0 n
 | 0,_=>Nat.le_refl _
 | n+1,hh=>by
  rw [sF,sF,Nat.zero_add]
  have:=sF_le_sF (n:=n) (fun i hi=>hh i (by omega))
  have:=hh n (by omega)
  omega
theorem sF_mul (g:Nat→Nat) (M:Nat):∀n,sF (fun i=>M*g i) 0 n=M*sF g 0 n
 | 0=>rfl
 | n+1=>by rw [sF,sF,Nat.mul_add,sF_mul g M n]
theorem cutG_le {Lg H N:Nat} {D:Nat→Nat} (i:Nat):cutG Lg H D i≤2^(Lg-H):=by
 unfold cutG
 split
 ·exact Nat.sub_le _ _
 ·exact Nat.zero_le _
section
variable {Lg H N:Nat} {D:Nat→Nat}
structure DepH (Lg H N:Nat) (D:Nat→Nat):Prop where
 n1:1≤N
 n2:N≤256
 n3:N≤2^H
 h5:5≤H
 h11:H≤11
 one:∀i,i<N→1≤D i
 le:∀i,i<N→D i≤29
 mono:∀i j,i≤j→j<N→D i≤D j
 kr:sF (fun i=>2^(32-D i)) 0 N=2^32
 lg:D (N-1)=Lg
theorem DepH.leL (h:DepH Lg H N D) {i:Nat} (hi:i<N):D i≤Lg:=by
 have:=h.mono i (N-1) (by omega) (by have:=h.n1;omega)
 rw [h.lg] at this;exact this
theorem DepH.l29 (h:DepH Lg H N D):Lg≤29:=by
 have:=h.le (N-1) (by have:=h.n1;omega)
 rw [h.lg] at this;exact this
theorem DepH.krL (h:DepH Lg H N D):sF (fun i=>2^(Lg-D i)) 0 N=2^Lg:=by
 have h29:=h.l29
 have e:sF (fun i=>2^(32-D i)) 0 N=2^(32-Lg)*sF (fun i=>2^(Lg-D i)) 0 N:=by
  rw [←sF_mul]
  refine sF_congr (fun i _ hi => ?_)
  have:=h.leL (show i<N by omega)
  rw [←Nat.pow_add,show 32-Lg+(Lg-D i)=32-D i by omega]
 have e2:(2:Nat)^32=2^(32-Lg)*2^Lg:=by rw [←Nat.pow_add,show 32-Lg+Lg=32 by omega]
 rw [h.kr,e2] at e
 exact (Nat.eq_of_mul_eq_mul_left (Nat.two_pow_pos _) e).symm
theorem DepH.d0 (h:DepH Lg H N D):D 0≤H:=by
 by_cases hh:D 0≤H
 ·exact hh
 ·exfalso
  have h1:sF (fun i=>2^(32-D i)) 0 N≤N*2^(31-H):=sF_le_mul (fun i hi=>by
   have:=h.mono 0 i (by omega) hi
   exact Nat.pow_le_pow_right (by omega) (by omega))
  have h2:N*2^(31-H)≤2^H*2^(31-H):=Nat.mul_le_mul_right _ h.n3
  rw [←Nat.pow_add,show H+(31-H)=31 by have:=h.h11;omega] at h2
  have:=h.kr
  have h3:(2:Nat)^31<2^32:=by decide
  omega
theorem DepH.cut (h:DepH Lg H N D) (hl:H<Lg):∃tc:Nat,sF (cutG Lg H D) 0 N=2^(Lg-H)*tc∧krS H (cutD H D) N=2^H+tc∧tc<m0S H (cutD H D) N:=by
 have hn1:=h.n1
 have hk:=cut_kr (N:=N) (D:=D) (H:=H) (Lg:=Lg) (by omega) (fun i hi=>h.leL hi)
 rw [h.krL] at hk
 change 2^(Lg-H)*krS H (cutD H D) N=2^Lg+sF (cutG Lg H D) 0 N at hk
 have e2:(2:Nat)^Lg=2^(Lg-H)*2^H:=by rw [←Nat.pow_add,show Lg-H+H=Lg by omega]
 have hp:=Nat.two_pow_pos (Lg-H)
 have hle:2^H≤krS H (cutD H D) N:=by
  rw [e2] at hk
  exact (Nat.mul_le_mul_left_iff hp).1 (Nat.le.intro hk.symm)
 obtain ⟨tc,htc⟩:∃tc,krS H (cutD H D) N=2^H+tc:=⟨_,(Nat.add_sub_cancel' hle).symm⟩
 have hs:sF (cutG Lg H D) 0 N=2^(Lg-H)*tc:=by
  rw [htc,Nat.mul_add,e2] at hk;exact (Nat.add_left_cancel hk).symm
 refine ⟨tc,hs,htc,?_⟩
 have hlt:sF (cutG Lg H D) 0 N<2^(Lg-H)*m0S H (cutD H D) N:=by
  obtain ⟨n,rfl⟩:∃n,N=n+1:=⟨N-1,by omega⟩
  have hDn:D n=Lg:=by have:=h.lg;simpa using this
  unfold m0S
  rw [sF,sF,Nat.zero_add,Nat.mul_add]
  have h1:sF (cutG Lg H D) 0 n≤2^(Lg-H)*sF (fun i=>if cutD H D i=H then 1 else 0) 0 n:=by
   rw [←sF_mul]
   refine sF_le_sF (fun i hi => ?_)
   unfold cutG cutD
   split
   ·rw [if_pos rfl,Nat.mul_one];exact Nat.sub_le _ _
   ·exact Nat.zero_le _
  have h2:cutG Lg H D n<2^(Lg-H):=by
   unfold cutG
   rw [if_pos (by omega)]
   have:=Nat.two_pow_pos (Lg-D n)
   omega
  have h3:cutD H D n=H:=by unfold cutD;rw [if_pos (by omega)]
  rw [if_pos h3]
  omega
 exact Nat.lt_of_mul_lt_mul_left (Nat.lt_of_le_of_lt (Nat.le_of_eq hs.symm) hlt)
theorem DepH.dls (h:DepH Lg H N D):DLs H N (cutD H D):=by
 have h5:=h.h5
 refine ⟨?_,?_,?_⟩
 ·intro i hi;unfold cutD;split
  ·omega
  ·exact h.one i hi
 ·intro i hi;unfold cutD;split<;>omega
 ·intro i j hij hj
  have:=h.mono i j hij hj
  unfold cutD;split<;>split<;>omega
theorem DepH.ex (h:DepH Lg H N D) (hl:H<Lg):∃i,i<N∧cutD H D i<H:=by
 apply Classical.byContradiction
 intro hno
 obtain ⟨tc,h1,h2,h3⟩:=h.cut hl
 have hall:∀i,i<N→cutD H D i=H:=by
  intro i hi
  have:=h.dls.le i hi
  by_cases e:cutD H D i=H
  ·exact e
  ·exact absurd ⟨i,hi,by omega⟩ hno
 have h4:=krS_all hall
 have h5:=h.n3
 have h6:sF (cutG Lg H D) 0 N=0:=by
  have:tc=0:=by omega
  rw [h1,this,Nat.mul_zero]
 have hn1:=h.n1
 have h7:=sF_mem (cutG Lg H D) 0 (n:=N) (i:=N-1) (by omega) (by omega)
 have h8:0<cutG Lg H D (N-1):=by
  unfold cutG
  rw [h.lg,if_pos hl,Nat.sub_self]
  have:2^1≤2^(Lg-H):=Nat.pow_le_pow_right (by omega) (by omega)
  omega
 omega
end
theorem slcA_all {w:World} {b o m:Nat} {κ:Sl→PT} (hm:0<m) (h:κ ⟨some ⟨b,o,none⟩,m,m⟩ w):slcA 1 m ⟨b,o,none⟩ none none none κ w:=by
 refine ⟨0,m,m,rfl,rfl,rfl,?_⟩
 rw [if_neg (by omega),Nat.zero_mul,add_mk,Nat.add_zero,Nat.sub_zero]
 exact h
theorem nw_r13 {w:World} {κ:Addr→PT} (hk:∀w',Fm w w' []→w'.heap.size=w.heap.size+1→Blk w' w.heap.size (arrC .u32 13 fun _=>0)→κ ⟨w.heap.size,0,none⟩ w'):nw z233 233 κ w:=by
 refine hk _ (Fm.refl w []).alloc (World.size_alloc _ _) (Blk.new.congr ?_)
 funext i
 unfold z233 arrC
 rw [List.getElem?_toArray,List.getElem?_replicate]
def MaxR (H N:Nat) (cn D:Nat→Nat) (M:Nat) (b:Nat→Nat):Prop :=
 (D (N-1)≤H∧M=D (N-1)∧b=D)∨(H<D (N-1)∧M=H∧∃(tc:Nat) (b7:Nat→Nat) (tc7:Int),krS H (cutD H D) N=2^H+tc∧PayR H N cn (cutD H D) (tc:Int) b7 tc7∧BackR H N b7 tc7 b)
section
variable {w:World} {g nb pb cap H N m Lg:Nat} {nd:Nat→Nd} {D:Nat→Nat} {F:Cells} {s:HU}
theorem c129 {K:Int→PT} {l0:Nat} (B:Blk w g s.at) (hat:s.at 268=some (.int .u8 (H:Nat))) (hnod:s.at 273=some (Sl.val ⟨some ⟨nb,0,none⟩,l0,cap⟩)) (hcap:513≤cap)
  (HN:Blk w nb F) (hF:NF F (NB nd D N)) (hS:SomZ cap F) (P:DepH Lg H N D) (dgn:g≠nb)
  (hk:∀w' H' b' F',H'≤H→MaxR H N (fun i=>(nd i).c) D H' b'→DLs H' N b'→krS H' b' N=2^H'→NF F' (NB nd b' N)→SomZ cap F'→Blk w' nb F'→Fm w w' [nb]→K ((H':Nat):Int) w') :
  callP Tryd.prog 129 #[.pointer (some ⟨g,0,none⟩),.int .i64 ((N-1:Nat):Int)] [.c (.I .u8)] K w:=by
 apply q129_ok
 unfold q129
 have hn1:=P.n1
 have hn2:=P.n2
 have hn3:=P.n3
 have h5:=P.h5
 have h11:=P.h11
 have h29:=P.l29
 simp only [add_mk,Nat.zero_add]
 refine ld_b (t := .I .u8) (x:=((H:Nat):Int)) B hat ?_
 refine ld_b (t := .S) (x:=⟨some ⟨nb,0,none⟩,l0,cap⟩) B (by rw [hnod];rfl) ?_
 refine slc_lh (n:=1) (m:=513) rfl rfl (by omega) hcap ?_
 have e4:(⟨slA (some ⟨nb,0,none⟩) 1 cap 1,513-1,cap-1⟩:Sl)=⟨some ⟨nb,1,none⟩,512,cap-1⟩:=by
  unfold slA
  rw [if_neg (by omega)]
  simp [add_mk]
 simp only [e4]
 refine ixS_o (k:=N-1) rfl (by omega) ?_
 obtain ⟨f1,f2⟩:=hF (N-1) (by omega)
 refine c128 HN f1 f2 ?_
 have eb:(NB nd D N (N-1)).b=Lg:=by rw [NB_in (by omega)];exact P.lg
 rw [eb]
 refine cnd_d ?_ ?_
 ·intro hc
  have hl:Lg≤H:=by omega
  refine hk w Lg D F hl (.inl ⟨by rw [P.lg];exact hl,P.lg.symm,rfl⟩) ⟨P.one,fun i hi=>P.leL hi,P.mono⟩ P.krL hF hS HN (Fm.refl _ _)
 intro hc
 have hl:H<Lg:=by omega
 have eLH:IntKind.u8.wrap ((Lg:Int)-(H:Int))=((Lg-H:Nat):Int):=by rw [wU8 (by omega) (by omega)];omega
 have esh:∀a,a≤29→shlI .i64 1 ((a:Nat):Int)=((2^a:Nat):Int):=by
  intro a ha
  have:=shlI_nat .i64 1 a (by simp only [IntKind.bits];omega) (by rw [Nat.one_mul];exact Nat.lt_of_le_of_lt (Nat.pow_le_pow_right (by omega) ha) (by decide))
  rw [Nat.one_mul] at this
  exact this
 have hp24:2^(Lg-H)≤2^24:=Nat.pow_le_pow_right (by omega) (by omega)
 have hp24':(2:Nat)^24=16777216:=by decide
 have htot:sF (cutG Lg H D) 0 N≤N*2^(Lg-H):=sF_le_mul (fun i hi=>cutG_le (N:=N) i)
 have htot2:N*2^(Lg-H)≤256*2^(Lg-H):=Nat.mul_le_mul_right _ hn2
 rw [eLH]
 refine ⟨by omega,?_⟩
 rw [wU32 (x:=((N-1:Nat):Int)) (by omega) (by omega)]
 obtain ⟨tc,ht1,ht2,ht3⟩:=P.cut hl
 refine joinP_id ?_
 refine ⟨fun x w'=>∃(p a:Nat) (F':Cells),x=((a:Int),(p:Int))∧p<N∧a+sF (cutG Lg H D) 0 (p+1)=sF (cutG Lg H D) 0 N∧(∀i,p<i→i<N→H<D i)∧NF F' (NB nd (cutP H D p) N)∧SomZ cap F'∧Blk w' nb F'∧Fm w w' [nb],fun x _=>x.2.toNat,
  ⟨N-1,0,F,rfl,by omega,by rw [Nat.sub_add_cancel hn1,Nat.zero_add],fun i h1 h2=>by omega,hF.congr (fun i hi=>by
   unfold NB cutP
   split
   ·rw [if_neg (by omega)]
   ·rfl),hS,HN,Fm.refl _ _⟩,?_⟩
 rintro x w2 ⟨p,a,F2,rfl,hp,ha,hab,hF2,hS2,HN2,Fr2⟩
 unfold q129_L0
 simp only
 refine ixS_o rfl (by omega) ?_
 obtain ⟨g1,g2⟩:=hF2 p (by omega)
 refine c128 HN2 g1 g2 ?_
 have ebp:(NB nd (cutP H D p) N p).b=D p:=by rw [NB_in hp];show cutP H D p p=_;unfold cutP;rw [if_neg (by omega)]
 rw [ebp]
 have hpl:=P.leL hp
 refine cnd_d ?_ ?_
 ·intro hc2
  have hcp:H<D p:=by omega
  have hp0:p≠0:=by intro e;subst e;have:=P.d0;omega
  refine ixS_o rfl (by omega) ?_
  refine c128 HN2 g1 g2 ?_
  rw [ebp]
  have eLD:IntKind.u8.wrap ((Lg:Int)-((D p:Nat):Int))=((Lg-D p:Nat):Int):=by rw [wU8 (by omega) (by omega)];omega
  rw [eLD,eLH,esh _ (by omega),esh _ (by omega)]
  refine ⟨by omega,?_⟩
  refine ixS_o rfl (by omega) ?_
  refine c126 HN2 g1 g2 (by omega) ?_
  intro w3 HN3 F3
  rw [sF,Nat.zero_add] at ha
  have hg:cutG Lg H D p=2^(Lg-H)-2^(Lg-D p):=by unfold cutG;rw [if_pos hcp]
  have hle:2^(Lg-D p)≤2^(Lg-H):=Nat.pow_le_pow_right (by omega) (by omega)
  generalize 2^(Lg-H)=A at *
  generalize 2^(Lg-D p)=A2 at *
  rw [wI64 (x:=((A:Nat):Int)-((A2:Nat):Int)) (by omega) (by omega),wI64 (by omega) (by omega),wU32 (by omega) (by omega)]
  refine ⟨⟨p-1,a+cutG Lg H D p,_,?_,by omega,?_,?_,(hF2.setB hp (by omega) (by omega)).congr ?_,hS2.upd,HN3,Fr2.trans F3 (fun x hx => .inl hx)⟩,by omega⟩
  ·rw [hg]
   congr 1
   ·omega
   ·omega
  ·rw [show p-1+1=p by omega];omega
  ·intro i h1 h2
   by_cases e:i=p
   ·subst e;omega
   ·exact hab i (by omega) h2
  ·intro i hi
   unfold NB
   split
   ·unfold updN cutP
    by_cases e:i=p
    ·subst e;rw [if_pos rfl,if_pos ⟨by omega,hcp⟩]
    ·rw [if_neg e]
     by_cases e2:p<i
     ·by_cases e3:H<D i
      ·rw [if_pos ⟨e2,e3⟩,if_pos ⟨by omega,e3⟩]
      ·rw [if_neg (fun h=>e3 h.2),if_neg (fun h=>e3 h.2)]
     ·rw [if_neg (fun h=>e2 h.1),if_neg (fun h=>e2 (by omega))]
   ·rfl
 ·intro hc2
  have hcp:D p≤H:=by omega
  have hz:sF (cutG Lg H D) 0 (p+1)=0:=sF_zero (fun i hi=>by
   have:=P.mono i p (by omega) hp
   unfold cutG
   rw [if_neg (by omega)])
  have hat:a=2^(Lg-H)*tc:=by omega
  have eF2:NF F2 (NB nd (cutD H D) N):=hF2.congr (fun i hi=>by
   unfold NB
   split
   ·have h1:cutP H D p i=cutD H D i:=by
     unfold cutP cutD
     by_cases e:p<i
     ·by_cases e3:H<D i
      ·rw [if_pos ⟨e,e3⟩,if_pos e3]
      ·rw [if_neg (fun h=>e3 h.2),if_neg e3]
     ·have:=P.mono i p (by omega) hp
      rw [if_neg (fun h=>e h.1),if_neg (by omega)]
    rw [h1]
   ·rfl)
  have hd:=P.dls
  obtain ⟨i0,hi0,hi0b⟩:=P.ex hl
  unfold q129_J23
  refine ⟨fun y w'=>w'=w2∧∃m:Nat,y=(m:Int)∧m<N∧cutD H D m<H∧∀i,m<i→i<N→cutD H D i=H,?_,?_⟩
  ·rintro y w3 ⟨rfl,m,rfl,hm,hmb,htop⟩
   unfold q129_J22
   rw [eLH]
   refine ⟨by omega,?_⟩
   refine ⟨fun _ w'=>∃b' F',MaxR H N (fun i=>(nd i).c) D H b'∧DLs H N b'∧krS H b' N=2^H∧NF F' (NB nd b' N)∧SomZ cap F'∧Blk w' nb F'∧Fm w3 w' [nb],?_,?_⟩
   ·rintro _ w4 ⟨b4,F4,k0,k1,k2,k3,k4,k5,k6⟩
    unfold q129_J21
    exact hk w4 H b4 F4 (Nat.le_refl _) k0 k1 k2 k3 k4 k5 (Fr2.trans k6 (fun x hx => .inl hx))
   refine nw_r13 ?_
   intro w4 F4 hs4 HR4
   have hnl:=HN2.lt
   have dnr:nb≠w3.heap.size:=by omega
   have hrb:w3.heap.size≤w3.heap.size:=Nat.le_refl _
   generalize hrbe:w3.heap.size=rb at *
   have HN4:=HN2.fr F4 (by simp)
   refine joinP_id ?_
   refine slcA_all (by omega) ?_
   refine ⟨fun x w'=>∃(k:Nat) (f:Nat→Int),x=(k:Int)∧k≤13∧(∀i,i<k→f i=((noS:Nat):Int))∧Blk w' rb (arrC .u32 13 f)∧Fm w4 w' [rb],fun x _=>13-x.toNat,⟨0,_,rfl,by omega,fun i hi=>absurd hi (Nat.not_lt_zero _),HR4,Fm.refl _ _⟩,?_⟩
   rintro x w5 ⟨k,f,rfl,hk13,hf,HR5,Fr5⟩
   unfold q129_L2
   refine cnd_d ?_ ?_
   ·intro hc3
    have hk2:k<13:=by simp only at hc3;omega
    refine ixA_o rfl hk2 ?_
    rw [Nat.zero_add]
    refine st_u HR5 (by rw [arrC_get (by omega)];rfl) rfl ?_
    intro w6 HR6 F6
    rw [arrC_upd (by omega)] at HR6
    rw [wI64 (by omega) (by omega)]
    refine ⟨⟨k+1,_,by simp,by omega,?_,HR6,Fr5.trans F6 (fun x hx => .inl hx)⟩,by dsimp only;omega⟩
    intro i hi
    unfold updF
    by_cases e:i=k
    ·subst e;rw [if_pos rfl];rfl
    ·rw [if_neg e];exact hf i (by omega)
   ·intro hc3
    have hk2:k=13:=by simp only at hc3;omega
    subst hk2
    have HN5:=HN4.fr Fr5 (nm1 dnr)
    have HR5':Blk w5 rb (arrC .u32 13 fun i=>(((fun _=>noS) i:Nat):Int)):=HR5.congr (by
     funext i
     unfold arrC
     split
     ·rw [hf i (by omega)]
     ·rfl)
    unfold q129_J20
    refine joinP_id ?_
    rw [wI64 (x:=((m:Nat):Int)) (by omega) (by omega)]
    refine ph_rank HN5 eF2 HR5' dnr hn2 h11 hd (fun _ _ _=>rfl) hm htop ?_
    intro w6 rk6 hrl HN6 HR6 Fr6
    unfold q129_J19
    refine joinP_id ?_
    have hshr:shrI .i64 ((a:Nat):Int) (IntKind.u8.wrap ((Lg:Int)-(H:Int)))=((tc:Nat):Int):=by
     rw [eLH,shrI_nat _ _ _ (by simp only [IntKind.bits];omega),hat,Nat.mul_div_cancel_left _ (Nat.two_pow_pos _)]
    rw [hshr]
    have W6:PayW w5 w6 nb rb cap N nd (cutD H D) rk6 F2:=⟨HN6,eF2,hS2,HR6,Fr6.mono (by intro v hv;simp at hv;simp [hv])⟩
    have I6:PayI H N m (cutD H D) (tc:Int):=⟨hd,by rw [ht2];push_cast;rfl,by omega,by omega,htop,fun _=>⟨m,hm,hmb⟩⟩
    refine ph_pay hcap dnr hn2 hn3 h11 W6 hrl I6 (by omega) ?_
    intro w7 b7 rk7 F7 tc7 h7 W7 hrl7 I7 hR7
    have B7:BackI H N m b7 rk7 tc7:=⟨I7.dl,I7.kr,h7,I7.ge,I7.ex,hrl7 1 (Nat.le_refl _) (by omega),fun _=>⟨hm,I7.top⟩⟩
    refine ph_back hcap dnr hn2 h5 h11 W7 B7 hm ?_
    intro w8 b8 rk8 F8 W8 hd8 hk8 hR8
    refine ⟨b8,F8,.inr ⟨by rw [P.lg];exact hl,rfl,tc,b7,tc7,ht2,hR7,hR8⟩,hd8,hk8,W8.nf,W8.som,W8.n,?_⟩
    refine Fm.trans ((F4.mono (S' := [nb]) ?_).trans Fr5 ?_) W8.fr ?_
    ·intro v hv;simp at hv
    ·intro v hv;simp only [List.mem_cons,List.not_mem_nil,or_false] at hv;subst hv;right;omega
    ·intro v hv
     simp only [List.mem_cons,List.not_mem_nil,or_false] at hv
     rcases hv with rfl|rfl
     ·left;simp
     ·right;omega
  ·refine ⟨fun y w'=>w'=w2∧∃m:Nat,y=(m:Int)∧m<N∧(∀i,m<i→i<N→cutD H D i=H),fun y _=>y.toNat,⟨rfl,p,rfl,hp,?_⟩,?_⟩
   ·intro i h1 h2
    unfold cutD;rw [if_pos (hab i h1 h2)]
   rintro y w3 ⟨rfl,m,rfl,hm,htop⟩
   unfold q129_L1
   refine ixS_o rfl (by omega) ?_
   obtain ⟨k1,k2⟩:=eF2 m (by omega)
   refine c128 HN2 k1 k2 ?_
   have ebm:(NB nd (cutD H D) N m).b=cutD H D m:=by rw [NB_in hm]
   rw [ebm]
   have hmle:=hd.le m hm
   refine cnd_d ?_ ?_
   ·intro hc3
    have hmH:cutD H D m=H:=by omega
    have hm0:i0<m:=by
     by_cases e:i0<m
     ·exact e
     ·have:=hd.mono m i0 (by omega) hi0;omega
    rw [wU32 (by omega) (by omega)]
    refine ⟨⟨rfl,m-1,by omega,by omega,?_⟩,by dsimp only;omega⟩
    intro i h1 h2
    by_cases e:i=m
    ·subst e;exact hmH
    ·exact htop i (by omega) h2
   ·intro hc3
    exact ⟨rfl,m,rfl,hm,by omega,htop⟩
end
def NW (w:World) (nb cap:Nat) (z:Nd) (nd:Nat→Nd):Prop:=∃F,Blk w nb F∧Som cap F∧F 0=some z.v∧z.ok∧NF F nd
def setC (nd:Nat→Nd) (i v:Nat):Nat→Nd:=updD nd i { nd i with c:=v }
def setP (nd:Nat→Nd) (i v:Nat):Nat→Nd:=updD nd i { nd i with p:=v }
def setB (nd:Nat→Nd) (i v:Nat):Nat→Nd:=updD nd i { nd i with b:=v }
section
variable {nd:Nat→Nd} {i v j:Nat}
theorem setC_c:(setC nd i v j).c=if j=i then v else (nd j).c:=by unfold setC updD;split<;>rfl
theorem setC_p:(setC nd i v j).p=(nd j).p:=by
 unfold setC updD;split
 ·subst_vars;rfl
 ·rfl
theorem setC_s:(setC nd i v j).s=(nd j).s:=by
 unfold setC updD;split
 ·subst_vars;rfl
 ·rfl
theorem setP_p:(setP nd i v j).p=if j=i then v else (nd j).p:=by unfold setP updD;split<;>rfl
theorem setP_c:(setP nd i v j).c=(nd j).c:=by
 unfold setP updD;split
 ·subst_vars;rfl
 ·rfl
theorem setP_s:(setP nd i v j).s=(nd j).s:=by
 unfold setP updD;split
 ·subst_vars;rfl
 ·rfl
theorem setB_b:(setB nd i v j).b=if j=i then v else (nd j).b:=by unfold setB updD;split<;>rfl
theorem setB_p:(setB nd i v j).p=(nd j).p:=by
 unfold setB updD;split
 ·subst_vars;rfl
 ·rfl
theorem setB_s:(setB nd i v j).s=(nd j).s:=by
 unfold setB updD;split
 ·subst_vars;rfl
 ·rfl
end
section
variable {w:World} {nb cap i:Nat} {z:Nd} {nd:Nat→Nd}
theorem NW.fr {w':World} {S:List Nat} (h:NW w nb cap z nd) (f:Fm w w' S) (hs:nb∉S):NW w' nb cap z nd:=by
 obtain ⟨F,h1,h2⟩:=h
 exact ⟨F,h1.fr f hs,h2⟩
theorem NW.drew (h:NW w nb cap z nd):NW w.drew nb cap z nd:=by
 obtain ⟨F,h1,h2⟩:=h
 exact ⟨F,h1.drew,h2⟩
theorem NW.ok (h:NW w nb cap z nd) (hi:i<512):(nd i).ok:=by
 obtain ⟨F,h1,h2,h3,h4,h5⟩:=h
 exact (h5 i hi).2
theorem n123 {K:Int→PT} {o:Nat} (h:NW w nb cap z nd) (hi:i<512) (ho:o=i+1) (hk:K ((nd i).c:Nat) w):callP Tryd.prog 123 #[.pointer (some ⟨nb,o,none⟩)] [.c (.I .u32)] K w:=by
 obtain ⟨F,h1,h2,h3,h4,h5⟩:=h
 subst ho
 rw [Nat.add_comm]
 exact c123 h1 (h5 i hi).1 (h5 i hi).2 hk
theorem n127 {K:Int→PT} {o:Nat} (h:NW w nb cap z nd) (hi:i<512) (ho:o=i+1) (hk:K ((nd i).p:Nat) w):callP Tryd.prog 127 #[.pointer (some ⟨nb,o,none⟩)] [.c (.I .u16)] K w:=by
 obtain ⟨F,h1,h2,h3,h4,h5⟩:=h
 subst ho
 rw [Nat.add_comm]
 exact c127 h1 (h5 i hi).1 (h5 i hi).2 hk
theorem n128 {K:Int→PT} {o:Nat} (h:NW w nb cap z nd) (hi:i<512) (ho:o=i+1) (hk:K ((nd i).b:Nat) w):callP Tryd.prog 128 #[.pointer (some ⟨nb,o,none⟩)] [.c (.I .u8)] K w:=by
 obtain ⟨F,h1,h2,h3,h4,h5⟩:=h
 subst ho
 rw [Nat.add_comm]
 exact c128 h1 (h5 i hi).1 (h5 i hi).2 hk
theorem n124 {K:Unit→PT} {o n:Nat} (h:NW w nb cap z nd) (hi:i<512) (ho:o=i+1) (hn:n<2^32) (hk:∀w',NW w' nb cap z (setC nd i n)→Fm w w' [nb]→K () w'):callP Tryd.prog 124 #[.pointer (some ⟨nb,o,none⟩),.int .u32 (n:Nat)] [] K w:=by
 obtain ⟨F,h1,h2,h3,h4,h5⟩:=h
 subst ho
 rw [Nat.add_comm]
 obtain ⟨k1,k2⟩:=h5 i hi
 refine c124 h1 k1 k2 hn ?_
 intro w' HB hf
 exact hk w' ⟨_,HB,h2.upd,by unfold updC;rw [if_neg (by omega)];exact h3,h4,h5.upd ⟨hn,k2.2.1,k2.2.2.1,k2.2.2.2⟩⟩ hf
theorem n125 {K:Unit→PT} {o n:Nat} (h:NW w nb cap z nd) (hi:i<512) (ho:o=i+1) (hn:n<2^15) (hk:∀w',NW w' nb cap z (setP nd i n)→Fm w w' [nb]→K () w'):callP Tryd.prog 125 #[.pointer (some ⟨nb,o,none⟩),.int .i16 (n:Nat)] [] K w:=by
 obtain ⟨F,h1,h2,h3,h4,h5⟩:=h
 subst ho
 rw [Nat.add_comm]
 obtain ⟨k1,k2⟩:=h5 i hi
 refine c125 h1 k1 k2 hn ?_
 intro w' HB hf
 exact hk w' ⟨_,HB,h2.upd,by unfold updC;rw [if_neg (by omega)];exact h3,h4,h5.upd ⟨k2.1,(by show n<2^16;omega),k2.2.2.1,k2.2.2.2⟩⟩ hf
theorem n126 {K:Unit→PT} {o n:Nat} (h:NW w nb cap z nd) (hi:i<512) (ho:o=i+1) (hn:n<2^8) (hk:∀w',NW w' nb cap z (setB nd i n)→Fm w w' [nb]→K () w'):callP Tryd.prog 126 #[.pointer (some ⟨nb,o,none⟩),.int .u8 (n:Nat)] [] K w:=by
 obtain ⟨F,h1,h2,h3,h4,h5⟩:=h
 subst ho
 rw [Nat.add_comm]
 obtain ⟨k1,k2⟩:=h5 i hi
 refine c126 h1 k1 k2 hn ?_
 intro w' HB hf
 exact hk w' ⟨_,HB,h2.upd,by unfold updC;rw [if_neg (by omega)];exact h3,h4,h5.upd ⟨k2.1,k2.2.1,k2.2.2.1,hn⟩⟩ hf
theorem z123 {K:Int→PT} (h:NW w nb cap z nd) (hk:K (z.c:Nat) w):callP Tryd.prog 123 #[.pointer (some ⟨nb,0,none⟩)] [.c (.I .u32)] K w:=by
 obtain ⟨F,h1,h2,h3,h4,h5⟩:=h
 exact c123 h1 h3 h4 hk
theorem z124 {K:Unit→PT} {n:Nat} (h:NW w nb cap z nd) (hn:n<2^32) (hk:∀w',NW w' nb cap { z with c:=n } nd→Fm w w' [nb]→K () w'):callP Tryd.prog 124 #[.pointer (some ⟨nb,0,none⟩),.int .u32 (n:Nat)] [] K w:=by
 obtain ⟨F,h1,h2,h3,h4,h5⟩:=h
 refine c124 h1 h3 h4 hn ?_
 intro w' HB hf
 refine hk w' ⟨_,HB,h2.upd,by unfold updC;rw [if_pos rfl],⟨hn,h4.2.1,h4.2.2.1,h4.2.2.2⟩,?_⟩ hf
 intro i hi
 unfold updC
 rw [if_neg (by omega)]
 exact h5 i hi
end
structure CN (N L k:Nat) (c:Nat→Nat) (nd:Nat→Nd):Prop where
 cl:∀i,i<N→(nd i).c=c i
 ci:∀v,L≤v→v<k→(nd v).c=c v
 un:∀v,k≤v→v≤L+N-2→(nd v).c=1073741824
section
variable {w:World} {nb cap N L tot k lo hi:Nat} {z:Nd} {nd:Nat→Nd} {c p:Nat→Nat} {P:List Nat}
theorem PK.first (H:PK N L tot c p P k lo hi) (h:0<P.length):∃i,i<N∧p i=L:=by
 have h1:=H.par 0 h
 have hnl:=H.nl
 rcases (H.mem P[0]).mp (List.getElem_mem h) with ⟨_,h2⟩|⟨h2,_⟩
 ·exact ⟨P[0],h2,by rw [h1];omega⟩
 ·have:=H.late 0 h h2;omega
theorem PK.fin (H:PK N L tot c p P k lo hi) (hk:k=L+N-1) (hm:P.length=2*(k-L)):lo=0∧hi=L+N-2:=by
 have hn2:=H.n2
 have hnl:=H.nl
 have hll:=H.ll
 have hh1:=H.h1
 have hh2:=H.h2
 have hlen:=H.len
 have hlo:lo=0:=by
  by_cases h:lo=0
  ·exact h
  ·exfalso
   have hR:L+N-2∈P:=(H.mem _).mpr (.inr (by omega))
   obtain ⟨t,ht,he⟩:=List.mem_iff_getElem.mp hR
   have:=H.late t ht (by rw [he];omega)
   rw [he] at this
   omega
 exact ⟨hlo,by omega⟩
theorem pickW {X Y:PT} {x y:Int} (W:NW w nb cap z nd) (hz:z.c=2147483648) (H:PK N L tot c p P k lo hi) (C:CN N L k c nd) (hL:L≤256) (htot:tot<832040) (hm1:2*(k-L)≤P.length) (hm:P.length≤2*(k-L)+1) (hkr:k≤L+N-2) (hx:x=(lo:Int)-1) (hy:y=hi)
  (hA:0<lo→(hi<k→c (lo-1)<c hi)→X w) (hB:hi<k→(0<lo→c hi≤c (lo-1))→Y w) :
  (ixS 1 ⟨some ⟨nb,0,none⟩,513,cap⟩ (IntKind.wrap .i16 (x+(1:Int))) fun (p51:Addr)=>ixS 1 ⟨some ⟨nb,0,none⟩,513,cap⟩ (IntKind.wrap .i16 (y+(1:Int))) fun (p52:Addr)=>callP Tryd.prog 123 #[(.pointer (some p51))] [.c (.I .u32)] fun (r53:Int)=>callP Tryd.prog 123 #[(.pointer (some p52))] [.c (.I .u32)] fun (r54:Int)=>cnd (decide (r53<r54)) X Y) w:=by
 have hn2:=H.n2
 have hnl:=H.nl
 have hll:=H.ll
 have hh1:=H.h1
 have hh2:=H.h2
 have hlen:=H.len
 subst hx hy
 rw [show (lo:Int)-1+1=(lo:Int) by omega,wI16 (x:=(lo:Int)) (by omega) (by omega),wI16 (x:=(hi:Int)+1) (by omega) (by omega),show (hi:Int)+1=((hi+1:Nat):Int) by omega]
 refine ixS_o rfl (by omega) ?_
 refine ixS_o rfl (by omega) ?_
 rw [Nat.zero_add,Nat.zero_add]
 have hhc:hi<k→(nd hi).c=c hi:=fun h=>C.ci hi hh1 h
 have hhu:¬hi<k→(nd hi).c=1073741824:=fun h=>C.un hi (by omega) (by omega)
 by_cases h0:lo=0
 ·subst h0
  refine z123 W ?_
  refine n123 (i:=hi) W (by omega) rfl ?_
  rw [hz]
  have hhk:hi<k:=by
   by_cases h:hi<k
   ·exact h
   ·omega
  have hle:=H.le (y:=hi) (.inr ⟨Nat.le_refl _,hhk⟩)
  refine cnd_d ?_ ?_
  ·intro hc;rw [hhc hhk] at hc;omega
  ·intro _;exact hB hhk (fun h=>absurd h (Nat.lt_irrefl _))
 ·refine n123 (i:=lo-1) W (by omega) (by omega) ?_
  refine n123 (i:=hi) W (by omega) rfl ?_
  rw [C.cl (lo-1) (by omega)]
  have hle:=H.le (y:=lo-1) (.inl (by omega))
  refine cnd_d ?_ ?_
  ·intro hc
   refine hA (by omega) (fun h => ?_)
   rw [hhc h] at hc
   omega
  ·intro hc
   have hhk:hi<k:=by
    by_cases h:hi<k
    ·exact h
    ·rw [hhu h] at hc;omega
   rw [hhc hhk] at hc
   exact hB hhk (fun _=>by omega)
def Pick (c:Nat→Nat) (k lo hi x lo' hi':Nat):Prop:=(x=lo-1∧0<lo∧lo'=lo-1∧hi'=hi∧(hi<k→c (lo-1)<c hi))∨(x=hi∧hi<k∧lo'=lo∧hi'=hi+1∧(0<lo→c hi≤c (lo-1)))
inductive TrR (N L:Nat) (c0:Nat→Nat):(Nat→Nat)→(Nat→Nat)→Nat→Nat→Nat→Prop
 | start:TrR N L c0 (updN c0 L (c0 (N-1)+c0 (N-2))) (updN (updN (fun _=>0) (N-1) L) (N-2) L) (L+1) (N-2) L
 | step {c p:Nat→Nat} {k lo hi x1 lo1 hi1 x2 lo2 hi2:Nat} : TrR N L c0 c p k lo hi→Pick c k lo hi x1 lo1 hi1→Pick c k lo1 hi1 x2 lo2 hi2→TrR N L c0 (updN c k (c x1+c x2)) (updN (updN p x1 k) x2 k) (k+1) lo2 hi2
structure TI (N L tot k lo hi:Nat) (c0 σ:Nat→Nat) (nd:Nat→Nd):Prop where
 ex:∃(c p:Nat→Nat) (P:List Nat),PK N L tot c p P k lo hi∧CN N L k c nd∧(∀x∈P,(nd x).p=p x)∧P.length=2*(k-L)∧(∀i,i<N→c i=c0 i)∧TrR N L c0 c p k lo hi
 sy:∀i,i<N→(nd i).s=σ i
 k1:L<k
 k2:k≤L+N-1
theorem mkW {A:PT} {x1 x2:Nat} {i1 i2:Int} (W:NW w nb cap z nd) (h1:x1<512) (h2:x2<512) (hk:k<512) (e1:i1=x1) (e2:i2=x2) (hs:(nd x1).c+(nd x2).c<4294967296)
  (hA:∀w',NW w' nb cap z (setP (setP (setC nd k ((nd x1).c+(nd x2).c)) x1 k) x2 k)→Fm w w' [nb]→A w') :
  (ixS 1 ⟨some ⟨nb,1,none⟩,512,cap-1⟩ (k:Int) fun (p62:Addr)=>ixS 1 ⟨some ⟨nb,0,none⟩,513,cap⟩ (IntKind.wrap .i16 (i1+(1:Int))) fun (p63:Addr)=>ixS 1 ⟨some ⟨nb,0,none⟩,513,cap⟩ (IntKind.wrap .i16 (i2+(1:Int))) fun (p64:Addr)=>callP Tryd.prog 123 #[(.pointer (some p63))] [.c (.I .u32)] fun (r65:Int)=>callP Tryd.prog 123 #[(.pointer (some p64))] [.c (.I .u32)] fun (r66:Int)=>callP Tryd.prog 124 #[(.pointer (some p62)),(.int .u32 (IntKind.wrap .u32 (r65+r66)))] [] fun (r67:Unit)=>ixS 1 ⟨some ⟨nb,0,none⟩,513,cap⟩ (IntKind.wrap .i16 (i1+(1:Int))) fun (p68:Addr)=>callP Tryd.prog 125 #[(.pointer (some p68)),(.int .i16 (k:Int))] [] fun (r69:Unit)=>ixS 1 ⟨some ⟨nb,0,none⟩,513,cap⟩ (IntKind.wrap .i16 (i2+(1:Int))) fun (p70:Addr)=>callP Tryd.prog 125 #[(.pointer (some p70)),(.int .i16 (k:Int))] [] fun (r71:Unit)=>A) w:=by
 subst e1 e2
 rw [wI16 (x:=(x1:Int)+1) (by omega) (by omega),wI16 (x:=(x2:Int)+1) (by omega) (by omega),show (x1:Int)+1=((x1+1:Nat):Int) by omega,show (x2:Int)+1=((x2+1:Nat):Int) by omega]
 refine ixS_o rfl (by omega) ?_
 refine ixS_o rfl (by omega) ?_
 refine ixS_o rfl (by omega) ?_
 refine n123 (i:=x1) W h1 (by omega) ?_
 refine n123 (i:=x2) W h2 (by omega) ?_
 rw [wU32 (by omega) (by omega), ←Int.natCast_add]
 refine n124 (i:=k) W hk (by omega) hs ?_
 intro w1 W1 F1
 refine ixS_o rfl (by omega) ?_
 refine n125 (i:=x1) W1 h1 (by omega) (by omega) ?_
 intro w2 W2 F2
 refine ixS_o rfl (by omega) ?_
 refine n125 (i:=x2) W2 h2 (by omega) (by omega) ?_
 intro w3 W3 F3
 exact hA w3 W3 ((F1.trans F2 (fun x hx => .inl hx)).trans F3 (fun x hx => .inl hx))
theorem CN.make {x1 x2 v:Nat} (C:CN N L k c nd) (hn:N≤L) (h:L≤k):CN N L (k+1) (updN c k v) (setP (setP (setC nd k v) x1 k) x2 k):=by
 refine ⟨?_,?_,?_⟩
 ·intro i hi
  rw [setP_c,setP_c,setC_c,if_neg (by omega),updN_ne (by omega)]
  exact C.cl i hi
 ·intro u h1 h2
  rw [setP_c,setP_c,setC_c]
  by_cases e:u=k
  ·subst e;rw [if_pos rfl,updN_eq]
  ·rw [if_neg e,updN_ne e];exact C.ci u h1 (by omega)
 ·intro u h1 h2
  rw [setP_c,setP_c,setC_c,if_neg (by omega)]
  exact C.un u (by omega) h2
theorem par_make {x1 x2 v q1 q2:Nat} (hpa:∀x∈P,(nd x).p=p x) (n1:x1∉P) (n2:x2∉P) (n12:x1≠x2) (e1:q1=k) (e2:q2=k):∀x∈P ++ [x1] ++ [x2],(setP (setP (setC nd k v) x1 k) x2 k x).p=updN (updN p x1 q1) x2 q2 x:=by
 intro x hx
 subst e1 e2
 rw [setP_p,setP_p,setC_p]
 unfold updN
 simp only [List.mem_append,List.mem_singleton] at hx
 by_cases e:x=x2
 ·rw [if_pos e,if_pos e]
 ·rw [if_neg e,if_neg e]
  by_cases e3:x=x1
  ·rw [if_pos e3,if_pos e3]
  ·rw [if_neg e3,if_neg e3]
   rcases hx with (hx|hx)|hx
   ·exact hpa x hx
   ·exact absurd hx e3
   ·exact absurd hx e
end
section
variable {N L tot k lo hi x lo' hi':Nat} {c p:Nat→Nat} {P:List Nat} {nd:Nat→Nd} {c0 σ:Nat→Nat}
theorem PK.pick (H:PK N L tot c p P k lo hi) (hm:P.length≤2*(k-L)+1) (hp:Pick c k lo hi x lo' hi'):PK N L tot c (updN p x (L+P.length/2)) (P ++ [x]) k lo' hi':=by
 rcases hp with ⟨rfl,h1,rfl,rfl,h2⟩|⟨rfl,h1,rfl,rfl,h2⟩
 ·exact H.pickL h1 hm (fun h=>Nat.le_of_lt (h2 h))
 ·exact H.pickI h1 hm h2
theorem PK.fresh (H:PK N L tot c p P k lo hi) (hp:Pick c k lo hi x lo' hi'):x∉P:=by
 have hll:=H.ll
 have hnl:=H.nl
 have hh1:=H.h1
 intro h
 have:=(H.mem x).mp h
 rcases hp with ⟨h1,h2,_⟩|⟨h1,h2,_⟩<;>omega
theorem PK.inb (H:PK N L tot c p P k lo hi) (hp:Pick c k lo hi x lo' hi'):x<k∧(x<N∨L≤x)∧c x≤tot:=by
 have hll:=H.ll
 have hnl:=H.nl
 have hh1:=H.h1
 have hh2:=H.h2
 rcases hp with ⟨h1,h2,_⟩|⟨h1,h2,_⟩
 ·exact ⟨by omega,.inl (by omega),H.le (.inl (by omega))⟩
 ·exact ⟨by omega,.inr (by omega),H.le (.inr (by omega))⟩
theorem PK.start1 (h2:2≤N) (hl:N≤L) (hs:∀i j,i≤j→j<N→c j≤c i):PK N L (sF c 0 N) (updN c L (c (N-1)+c (N-2))) (updN (updN p (N-1) L) (N-2) L) [N-1,N-2] (L+1) (N-2) L:=by
 have K0:=PK.start (p:=p) h2 hl hs
 have K1:=K0.pick (by simp) (.inl ⟨rfl,by omega,rfl,rfl,fun h=>absurd h (Nat.lt_irrefl _)⟩)
 have K2:=K1.pick (by simp) (.inl ⟨rfl,by omega,rfl,rfl,fun h=>absurd h (Nat.lt_irrefl _)⟩)
 have K3:=K2.make (by simp)
 simp only [Nat.sub_self,Nat.mul_zero,List.nil_append,List.length_nil,Nat.zero_div,Nat.add_zero,List.length_singleton,List.cons_append,List.getElem_cons_zero,Nat.zero_add,List.getElem_cons_succ,show (1:Nat)/2=0 from rfl,show N-1-1=N-2 by omega] at K3
 exact K3
theorem TI.start (h2:2≤N) (hl:N≤L) (hs:∀i j,i≤j→j<N→c0 j≤c0 i) (h3:∀i,i<N→(nd i).c=c0 i) (h4:(nd L).c=c0 (N-1)+c0 (N-2)) (h5:(nd (N-1)).p=L) (h6:(nd (N-2)).p=L)
  (h7:∀v,L+1≤v→v≤L+N-2→(nd v).c=1073741824) (h8:∀i,i<N→(nd i).s=σ i):TI N L (sF c0 0 N) (L+1) (N-2) L c0 σ nd:=by
 refine ⟨⟨_,_,_,PK.start1 (p:=fun _=>0) h2 hl hs,⟨?_,?_,h7⟩,?_,?_,?_⟩,h8,by omega,by omega⟩
 ·intro i hi;rw [updN_ne (by omega)];exact h3 i hi
 ·intro v h9 h10
  have:v=L:=by omega
  subst this
  rw [updN_eq];exact h4
 ·intro x hx
  simp only [List.mem_cons,List.not_mem_nil,or_false] at hx
  rcases hx with rfl|rfl
  ·rw [updN_ne (by omega),updN_eq];exact h5
  ·rw [updN_eq];exact h6
 ·simp only [List.length_cons,List.length_nil];omega
 ·exact ⟨fun i hi=>by rw [updN_ne (by omega)],.start⟩
def TrM (N L tot:Nat) (c0 σ:Nat→Nat) (nd:Nat→Nd):Prop:=∃c p,(∃lo hi,TrR N L c0 c p (L+N-1) lo hi)∧(∀i,i<N→(nd i).c=c0 i)∧TreeP N L tot c p∧(∀i,i<N→c i=c0 i)∧(∀i,i<N→(nd i).p=p i)∧(∀v,L≤v→v<L+N-2→(nd v).p=p v)∧(∃i,i<N∧p i=L)∧(∀i,i<N→(nd i).s=σ i)
theorem TI.fin (H:TI N L tot (L+N-1) lo hi c0 σ nd):TrM N L tot c0 σ nd:=by
 obtain ⟨c,p,P,h1,h2,h3,h4,h5,h6⟩:=H.ex
 have hn:=h1.n2
 have hl:=h1.nl
 obtain ⟨e1,e2⟩:=h1.fin rfl h4
 subst e1 e2
 refine ⟨c,p,⟨_,_,h6⟩,fun i hi=>(h2.cl i hi).trans (h5 i hi),h1.tree rfl h4,h5,fun i hi=>h3 i ((h1.mem i).mpr (.inl (by omega))),fun v h6 h7=>h3 v ((h1.mem v).mpr (.inr (by omega))),h1.first (by omega),H.sy⟩
end
section
variable {w:World} {nb cap N L tot:Nat} {z:Nd} {nd:Nat→Nd} {c0 σ:Nat→Nat}
theorem tb_loop {R47:Unit→PT} (W:NW w nb cap z nd) (hz:z.c=2147483648) (hL:L≤256) (htot:tot<832040) (hn2:2≤N) (hnl:N≤L) (I:TI N L tot (L+1) (N-2) L c0 σ nd)
  (hk:∀w' nd',NW w' nb cap z nd'→TrM N L tot c0 σ nd'→Fm w w' [nb]→R47 () w') :
  loopP (((L+1:Nat):Int),((N-2:Nat):Int)-1,((L:Nat):Int)) (q91_L7 (L:Int) ⟨some ⟨nb,1,none⟩,512,cap-1⟩ ⟨some ⟨nb,0,none⟩,513,cap⟩ ((N-1:Nat):Int) R47) w:=by
 refine ⟨fun x w'=>∃(k lo hi:Nat) (nd':Nat→Nd),x=((k:Int),(lo:Int)-1,(hi:Int))∧NW w' nb cap z nd'∧TI N L tot k lo hi c0 σ nd'∧Fm w w' [nb],fun x _=>600-x.1.toNat,⟨L+1,N-2,L,nd,rfl,W,I,Fm.refl _ _⟩,?_⟩
 rintro x w2 ⟨k,lo,hi,nd2,rfl,W2,I2,Fr⟩
 have hk1:=I2.k1
 have hk2:=I2.k2
 unfold q91_L7
 simp only
 rw [wI16 (x:=(L:Int)) (by omega) (by omega),wI16 (x:=((N-1:Nat):Int)) (by omega) (by omega),wI16 (x:=(L:Int)+((N-1:Nat):Int)) (by omega) (by omega),wI16 (by omega) (by omega)]
 refine cnd_d ?_ ?_
 ·intro hc
  obtain ⟨c,p,P,h1,h2,h3,h4,h5,hTr⟩:=I2.ex
  have hll:=h1.ll
  have hh2:=h1.h2
  have hh1:=h1.h1
  have step:∀x1 lo1 hi1,Pick c k lo hi x1 lo1 hi1→q91_J5 ⟨some ⟨nb,1,none⟩,512,cap-1⟩ ⟨some ⟨nb,0,none⟩,513,cap⟩ ((k:Int),(lo:Int)-1,(hi:Int)) (fun s' w'=>(∃(k lo hi:Nat) (nd':Nat→Nd),s'=((k:Int),(lo:Int)-1,(hi:Int))∧NW w' nb cap z nd'∧TI N L tot k lo hi c0 σ nd'∧Fm w w' [nb])∧600-s'.1.toNat<600-k) ((lo1:Int)-1,(hi1:Int),(x1:Int)) w2.drew:=by
   intro x1 lo1 hi1 p1
   have K1:=h1.pick (by omega) p1
   have f1:=h1.fresh p1
   have b1:=h1.inb p1
   have hP1:(P ++ [x1]).length=P.length+1:=by rw [List.length_append,List.length_singleton]
   have hl1:=K1.ll
   have hlen1:=K1.len
   have step2:∀x2 lo2 hi2,Pick c k lo1 hi1 x2 lo2 hi2→q91_J3 ⟨some ⟨nb,1,none⟩,512,cap-1⟩ ⟨some ⟨nb,0,none⟩,513,cap⟩ ((k:Int),(lo:Int)-1,(hi:Int)) (fun s' w'=>(∃(k lo hi:Nat) (nd':Nat→Nd),s'=((k:Int),(lo:Int)-1,(hi:Int))∧NW w' nb cap z nd'∧TI N L tot k lo hi c0 σ nd'∧Fm w w' [nb])∧600-s'.1.toNat<600-k) ((lo1:Int)-1,(hi1:Int),(x1:Int)) ((lo2:Int)-1,(hi2:Int),(x2:Int)) w2.drew.drew:=by
    intro x2 lo2 hi2 p2
    have K2:=K1.pick (by rw [hP1];omega) p2
    have f2:=K1.fresh p2
    have b2:=K1.inb p2
    have hP2:(P ++ [x1] ++ [x2]).length=P.length+2:=by rw [List.length_append,List.length_singleton,hP1]
    have hne:x1≠x2:=by intro e;subst e;exact f2 (by simp)
    have f2':x2∉P:=fun h=>f2 (by simp [h])
    have hcx:∀x,x<k→(x<N∨L≤x)→(nd2 x).c=c x:=by
     intro x hx h
     rcases h with h|h
     ·exact h2.cl x h
     ·exact h2.ci x h hx
    have hc1:=hcx x1 b1.1 b1.2.1
    have hc2:=hcx x2 b2.1 b2.2.1
    unfold q91_J3 drw
    simp only
    refine mkW (k:=k) W2.drew.drew.drew (by omega) (by omega) (by omega) rfl rfl (by omega) ?_
    intro w3 W3 F3
    rw [wI16 (by omega) (by omega)]
    refine ⟨⟨k+1,lo2,hi2,_,by simp,W3,⟨⟨_,_,P ++ [x1] ++ [x2],K2.make (by rw [hP2];omega),?_,par_make h3 f1 f2' hne (by omega) (by rw [hP1];omega),by rw [hP2];omega,?_,?_⟩,?_,by omega,by omega⟩,Fr.drew.drew.drew.trans F3 (fun x hx => .inl hx)⟩,by omega⟩
    ·have e1:(P ++ [x1] ++ [x2])[2*(k-L)]'(by rw [hP2];omega)=x1:=by
      rw [List.getElem_append_left (by rw [hP1];omega)]
      simp only [←h4]
      exact List.getElem_concat_length rfl _
     have e2:(P ++ [x1] ++ [x2])[2*(k-L)+1]'(by rw [hP2];omega)=x2:=by
      have:2*(k-L)+1=(P ++ [x1]).length:=by rw [hP1];omega
      simp only [this]
      exact List.getElem_concat_length rfl _
     rw [e1,e2,hc1,hc2]
     exact h2.make hnl (by omega)
    ·intro i hi
     rw [updN_ne (by omega)]
     exact h5 i hi
    ·have e1:(P ++ [x1] ++ [x2])[2*(k-L)]'(by rw [hP2];omega)=x1:=by
      rw [List.getElem_append_left (by rw [hP1];omega)]
      simp only [←h4]
      exact List.getElem_concat_length rfl _
     have e2:(P ++ [x1] ++ [x2])[2*(k-L)+1]'(by rw [hP2];omega)=x2:=by
      have:2*(k-L)+1=(P ++ [x1]).length:=by rw [hP1];omega
      simp only [this]
      exact List.getElem_concat_length rfl _
     have q1:L+P.length/2=k:=by omega
     have q2:L+(P ++ [x1]).length/2=k:=by rw [hP1];omega
     rw [e1,e2,q1,q2]
     exact hTr.step p1 p2
    ·intro i hi
     rw [setP_s,setP_s,setC_s]
     exact I2.sy i hi
   unfold q91_J5
   refine joinP_id ?_
   unfold q91_X4 drw
   simp only
   refine pickW W2.drew.drew hz K1 ⟨h2.cl,h2.ci,h2.un⟩ hL htot (by rw [hP1];omega) (by rw [hP1];omega) (by omega) rfl rfl ?_ ?_
   ·intro h6 h7
    have hs:=step2 (lo1-1) (lo1-1) hi1 (.inl ⟨rfl,h6,rfl,rfl,h7⟩)
    rw [wI16 (x:=(lo1:Int)-1-1) (by omega) (by omega),show (lo1:Int)-1=((lo1-1:Nat):Int) by omega]
    rw [show (lo1:Int)-1=((lo1-1:Nat):Int) by omega] at hs
    exact hs
   ·intro h6 h7
    have hs:=step2 hi1 lo1 (hi1+1) (.inr ⟨rfl,h6,rfl,rfl,h7⟩)
    have:=K1.h2
    rw [wI16 (x:=(hi1:Int)+1) (by omega) (by omega)]
    exact hs
  refine joinP_id ?_
  unfold q91_X6 drw
  simp only
  refine pickW W2.drew hz h1 h2 hL htot (by omega) (by omega) (by omega) rfl rfl ?_ ?_
  ·intro h6 h7
   have hs:=step (lo-1) (lo-1) hi (.inl ⟨rfl,h6,rfl,rfl,h7⟩)
   rw [wI16 (x:=(lo:Int)-1-1) (by omega) (by omega),show (lo:Int)-1=((lo-1:Nat):Int) by omega]
   rw [show (lo:Int)-1=((lo-1:Nat):Int) by omega] at hs
   exact hs
  ·intro h6 h7
   have hs:=step hi lo (hi+1) (.inr ⟨rfl,h6,rfl,rfl,h7⟩)
   rw [wI16 (x:=(hi:Int)+1) (by omega) (by omega)]
   exact hs
 ·intro hc
  have hke:k=L+N-1:=by omega
  subst hke
  exact hk w2 nd2 W2 I2.fin Fr
end
section
variable {w:World} {nb cap N L:Nat} {z:Nd} {nd:Nat→Nd} {c0 σ:Nat→Nat} {p0:Addr} {K1:Value→PT}
theorem tree_start (W:NW w nb cap z nd) (hL:L≤256) (htot:sF c0 0 N<832040) (hn2:2≤N) (hnl:N≤L) (hc:∀i,i<N→(nd i).c=c0 i) (hsy:∀i,i<N→(nd i).s=σ i) (hs:∀i j,i≤j→j<N→c0 j≤c0 i)
  (hk:∀w' z' nd',NW w' nb cap z' nd'→TrM N L (sF c0 0 N) c0 σ nd'→Fm w w' [nb]→q91_J20 p0 K1 (L:Int) ⟨some ⟨nb,1,none⟩,512,cap-1⟩ ((N-1:Nat):Int) () w') :
  q91_J22 p0 K1 (L:Int) ⟨some ⟨nb,1,none⟩,512,cap-1⟩ ⟨some ⟨nb,0,none⟩,513,cap⟩ ((N-1:Nat):Int) w:=by
 have hm:∀i,i<N→c0 i≤sF c0 0 N:=fun i hi=>sF_mem c0 0 (by omega) (by omega)
 have m1:=hm (N-1) (by omega)
 have m2:=hm (N-2) (by omega)
 unfold q91_J22 drw
 rw [wI16 (x:=(L:Int)) (by omega) (by omega),wI16 (x:=((N-1:Nat):Int)) (by omega) (by omega),wI16 (x:=((N-1:Nat):Int)-1) (by omega) (by omega),show ((N-1:Nat):Int)-1=((N-2:Nat):Int) by omega]
 refine ixS_o rfl (by omega) ?_
 refine ixS_o rfl (by omega) ?_
 refine ixS_o rfl (by omega) ?_
 refine n123 (i:=N-1) W.drew (by omega) (by omega) ?_
 refine n123 (i:=N-2) W.drew (by omega) (by omega) ?_
 rw [hc _ (by omega),hc _ (by omega),wU32 (by omega) (by omega), ←Int.natCast_add]
 refine n124 (i:=L) W.drew (by omega) (by omega) (by omega) ?_
 intro w1 W1 F1
 refine ixS_o rfl (by omega) ?_
 refine n125 (i:=N-1) W1 (by omega) (by omega) (by omega) ?_
 intro w2 W2 F2
 refine ixS_o rfl (by omega) ?_
 refine n125 (i:=N-2) W2 (by omega) (by omega) (by omega) ?_
 intro w3 W3 F3
 have Fr3:Fm w w3 [nb]:=(((Fm.refl w [nb]).drew.trans F1 (fun x hx => .inl hx)).trans F2 (fun x hx => .inl hx)).trans F3 (fun x hx => .inl hx)
 generalize hnd1:setP (setP (setC nd L (c0 (N-1)+c0 (N-2))) (N-1) L) (N-2) L=nd1 at *
 have a1:∀i,i<N→(nd1 i).c=c0 i:=by
  intro i hi
  rw [←hnd1,setP_c,setP_c,setC_c,if_neg (by omega)]
  exact hc i hi
 have a2:(nd1 L).c=c0 (N-1)+c0 (N-2):=by rw [←hnd1,setP_c,setP_c,setC_c,if_pos rfl]
 have a3:(nd1 (N-1)).p=L:=by rw [←hnd1,setP_p,if_neg (by omega),setP_p,if_pos rfl]
 have a4:(nd1 (N-2)).p=L:=by rw [←hnd1,setP_p,if_pos rfl]
 have a5:∀i,i<N→(nd1 i).s=σ i:=by
  intro i hi
  rw [←hnd1,setP_s,setP_s,setC_s]
  exact hsy i hi
 refine joinP_id ?_
 refine ⟨fun x w'=>∃(j:Nat) (nd':Nat→Nd),x=(j:Int)∧L+1≤j∧j≤L+N-1∧NW w' nb cap z nd'∧(∀v,L+1≤v→v<j→(nd' v).c=1073741824)∧(∀i,i≤L→nd' i=nd1 i)∧Fm w w' [nb],fun x _=>600-x.toNat,
  ⟨L+1,nd1,by rw [wI16 (by omega) (by omega)];omega,Nat.le_refl _,by omega,W3,fun v h1 h2=>by omega,fun i hi=>rfl,Fr3⟩,?_⟩
 rintro x w4 ⟨j,nd4,rfl,hj1,hj2,W4,hun,hold,Fr4⟩
 unfold q91_L2
 rw [wI16 (x:=(L:Int)) (by omega) (by omega),wI16 (x:=((N-1:Nat):Int)) (by omega) (by omega),wI16 (x:=(L:Int)+((N-1:Nat):Int)) (by omega) (by omega),wI16 (x:=(L:Int)+((N-1:Nat):Int)-1) (by omega) (by omega)]
 refine cnd_d ?_ ?_
 ·intro hcj
  refine ixS_o rfl (by omega) ?_
  rw [show (1073741824:Int)=((1073741824:Nat):Int) from rfl]
  refine n124 (i:=j) W4 (by omega) (by omega) (by omega) ?_
  intro w5 W5 F5
  rw [wI16 (by omega) (by omega)]
  refine ⟨⟨j+1,_,by simp,by omega,by omega,W5,?_,?_,Fr4.trans F5 (fun x hx => .inl hx)⟩,by dsimp only;omega⟩
  ·intro v h1 h2
   rw [setC_c]
   by_cases e:v=j
   ·rw [if_pos e]
   ·rw [if_neg e];exact hun v h1 (by omega)
  ·intro i hi
   unfold setC updD
   rw [if_neg (by omega)]
   exact hold i hi
 ·intro hcj
  have hje:j=L+N-1:=by omega
  subst hje
  unfold q91_J21
  refine ixS_o (k:=0) rfl (by omega) ?_
  rw [Nat.add_zero,show (2147483648:Int)=((2147483648:Nat):Int) from rfl]
  refine z124 W4 (by omega) ?_
  intro w5 W5 F5
  refine joinP_id ?_
  rw [wI16 (x:=(L:Int)) (by omega) (by omega),wI16 (x:=((N-1:Nat):Int)) (by omega) (by omega),wI16 (x:=(L:Int)+1) (by omega) (by omega),wI16 (x:=((N-1:Nat):Int)-2) (by omega) (by omega),show (L:Int)+1=((L+1:Nat):Int) by omega,show ((N-1:Nat):Int)-2=((N-2:Nat):Int)-1 by omega]
  refine tb_loop (σ:=σ) W5 rfl hL htot hn2 hnl (TI.start hn2 hnl hs ?_ ?_ ?_ ?_ ?_ ?_) ?_
  ·intro i hi;rw [hold i (by omega)];exact a1 i hi
  ·rw [hold L (Nat.le_refl _)];exact a2
  ·rw [hold _ (by omega)];exact a3
  ·rw [hold _ (by omega)];exact a4
  ·intro v h1 h2;exact hun v h1 (by omega)
  ·intro i hi;rw [hold i (by omega)];exact a5 i hi
  ·intro w6 nd6 W6 T6 F6
   exact hk w6 _ nd6 W6 T6 ((Fr4.trans F5 (fun x hx => .inl hx)).trans F6 (fun x hx => .inl hx))
theorem setB_c {nd:Nat→Nd} {i v j:Nat} : (setB nd i v j).c=(nd j).c:=by
 unfold setB updD;split
 ·subst_vars;rfl
 ·rfl
structure TD (N L tot:Nat) (c0 σ:Nat→Nat) (nd:Nat→Nd):Prop where
 ex:∃c p,(∃lo hi,TrR N L c0 c p (L+N-1) lo hi)∧TreeP N L tot c p∧DepP N L p (fun i=>(nd i).b)∧(∀i,i<N→c i=c0 i)∧∃i,i<N∧p i=L
 sy:∀i,i<N→(nd i).s=σ i
 cn:∀i,i<N→(nd i).c=c0 i
theorem tree_depth {tot:Nat} (W:NW w nb cap z nd) (hL:L≤256) (T:TrM N L tot c0 σ nd)
  (hk:∀w' nd',NW w' nb cap z nd'→TD N L tot c0 σ nd'→Fm w w' [nb]→q91_J18 p0 K1 ⟨some ⟨nb,1,none⟩,512,cap-1⟩ ((N-1:Nat):Int) () w') :
  q91_J20 p0 K1 (L:Int) ⟨some ⟨nb,1,none⟩,512,cap-1⟩ ((N-1:Nat):Int) () w:=by
 obtain ⟨c,p,hTr,hcn,T,hcc,hpl,hpi,hfi,hsy⟩:=T
 have hn2:=T.n2
 have hnl:=T.nl
 unfold q91_J20
 rw [wI16 (x:=(L:Int)) (by omega) (by omega),wI16 (x:=((N-1:Nat):Int)) (by omega) (by omega),wI16 (x:=(L:Int)+((N-1:Nat):Int)) (by omega) (by omega),wI16 (x:=(L:Int)+((N-1:Nat):Int)-1) (by omega) (by omega),show (L:Int)+((N-1:Nat):Int)-1=((L+N-2:Nat):Int) by omega]
 refine ixS_o rfl (by omega) ?_
 rw [show (0:Int)=((0:Nat):Int) from rfl]
 refine n126 (i:=L+N-2) W (by omega) (by omega) (by omega) ?_
 intro w1 W1 F1
 refine joinP_id ?_
 refine ⟨fun x w'=>∃(v:Nat) (nd':Nat→Nd),x=(v:Int)-1∧L≤v∧v≤L+N-2∧NW w' nb cap z nd'∧(nd' (L+N-2)).b=0∧(∀u,v≤u→u<L+N-2→(nd' u).b+u≤L+N-2∧(nd' u).b=(nd' (p u)).b+1)∧(∀i,(nd' i).p=(nd i).p∧(nd' i).s=(nd i).s∧(nd' i).c=(nd i).c)∧Fm w w' [nb],fun x _=>(x+1).toNat,
  ⟨L+N-2,_,by rw [wI16 (by omega) (by omega)],by omega,Nat.le_refl _,W1,by rw [setB_b,if_pos rfl],fun u h1 h2=>by omega,fun i=>⟨setB_p,setB_s,setB_c⟩,F1⟩,?_⟩
 rintro x w2 ⟨v,nd2,rfl,hv1,hv2,W2,hr2,hd2,ho2,Fr2⟩
 unfold q91_L8
 rw [wI16 (x:=(L:Int)) (by omega) (by omega)]
 have hble:∀u,v≤u→u≤L+N-2→(nd2 u).b+u≤L+N-2:=by
  intro u h1 h2
  by_cases e:u=L+N-2
  ·subst e;omega
  ·exact (hd2 u h1 (by omega)).1
 refine cnd_d ?_ ?_
 ·intro hc
  have hq:L≤v-1:=by omega
  have hpq:=T.pin (v-1) hq (by omega)
  have epq:(nd2 (v-1)).p=p (v-1):=by rw [(ho2 _).1];exact hpi (v-1) hq (by omega)
  rw [show (v:Int)-1=((v-1:Nat):Int) by omega]
  unfold drw
  refine ixS_o rfl (by omega) ?_
  refine ixS_o rfl (by omega) ?_
  refine n127 (i:=v-1) W2.drew (by omega) (by omega) ?_
  rw [epq]
  refine ixS_o rfl (by omega) ?_
  refine n128 (i:=p (v-1)) W2.drew (by omega) (by omega) ?_
  have hb:=hble (p (v-1)) (by omega) hpq.2
  rw [wU8 (by omega) (by omega),show (((nd2 (p (v-1))).b:Nat):Int)+1=(((nd2 (p (v-1))).b+1:Nat):Int) by omega]
  refine n126 (i:=v-1) W2.drew (by omega) (by omega) (by omega) ?_
  intro w3 W3 F3
  rw [wI16 (by omega) (by omega)]
  refine ⟨⟨v-1,_,rfl,hq,by omega,W3,?_,?_,?_,Fr2.drew.trans F3 (fun x hx => .inl hx)⟩,by dsimp only;omega⟩
  ·rw [setB_b,if_neg (by omega)];exact hr2
  ·intro u h1 h2
   by_cases e:u=v-1
   ·subst e
    rw [setB_b,if_pos rfl,setB_b,if_neg (by omega)]
    exact ⟨by omega,rfl⟩
   ·have hpu:=T.pin u (by omega) h2
    rw [setB_b,if_neg e,setB_b,if_neg (by omega)]
    exact hd2 u (by omega) h2
  ·intro i
   rw [setB_p,setB_s,setB_c]
   exact ho2 i
 ·intro hc
  have hve:v=L:=by omega
  subst hve
  unfold q91_J19
  refine joinP_id ?_
  refine ⟨fun x w'=>∃(i:Nat) (nd':Nat→Nd),x=(i:Int)∧i≤N∧NW w' nb cap z nd'∧(∀u,v≤u→(nd' u).b=(nd2 u).b)∧(∀j,j<i→(nd' j).b=(nd2 (p j)).b+1)∧(∀i,(nd' i).p=(nd i).p∧(nd' i).s=(nd i).s∧(nd' i).c=(nd i).c)∧Fm w w' [nb],fun x _=>300-x.toNat,
   ⟨0,nd2,rfl,by omega,W2,fun u _=>rfl,fun j hj=>absurd hj (Nat.not_lt_zero _),ho2,Fr2⟩,?_⟩
  rintro x w3 ⟨i,nd3,rfl,hi,W3,hb3,hd3,ho3,Fr3⟩
  unfold q91_L9
  refine cnd_d ?_ ?_
  ·intro hc2
   have hi2:i<N:=by omega
   have hpq:=T.pl i hi2
   have epq:(nd3 i).p=p i:=by rw [(ho3 _).1];exact hpl i hi2
   unfold drw
   refine ixS_o rfl (by omega) ?_
   refine ixS_o rfl (by omega) ?_
   refine n127 (i:=i) W3.drew (by omega) (by omega) ?_
   rw [epq]
   refine ixS_o rfl (by omega) ?_
   refine n128 (i:=p i) W3.drew (by omega) (by omega) ?_
   have hb:=hble (p i) hpq.1 hpq.2
   rw [hb3 _ hpq.1]
   rw [wU8 (by omega) (by omega),show (((nd2 (p i)).b:Nat):Int)+1=(((nd2 (p i)).b+1:Nat):Int) by omega]
   refine n126 (i:=i) W3.drew (by omega) (by omega) (by omega) ?_
   intro w4 W4 F4
   rw [wU16 (by omega) (by omega)]
   refine ⟨⟨i+1,_,by simp,by omega,W4,?_,?_,?_,Fr3.drew.trans F4 (fun x hx => .inl hx)⟩,by dsimp only;omega⟩
   ·intro u hu
    rw [setB_b,if_neg (by omega)];exact hb3 u hu
   ·intro j hj
    rw [setB_b]
    by_cases e:j=i
    ·subst e;rw [if_pos rfl]
    ·rw [if_neg e];exact hd3 j (by omega)
   ·intro j
    rw [setB_p,setB_s,setB_c]
    exact ho3 j
  ·intro hc2
   have hie:i=N:=by omega
   subst hie
   refine hk w3 nd3 W3 ⟨⟨c,p,hTr,T,⟨?_,?_,?_⟩,hcc,hfi⟩,fun j hj=>by rw [(ho3 j).2.1];exact hsy j hj,fun j hj=>by rw [(ho3 j).2.2];exact hcn j hj⟩ Fr3
   ·show (nd3 _).b=0
    rw [hb3 _ (by omega)];exact hr2
   ·intro u h1 h2
    have hpu:=T.pin u h1 h2
    show (nd3 _).b=(nd3 _).b+1
    rw [hb3 _ h1,hb3 _ (by omega)]
    exact (hd2 u h1 h2).2
   ·intro j hj
    show (nd3 _).b=(nd3 _).b+1
    rw [hb3 _ (T.pl j hj).1]
    exact hd3 j hj
end
theorem TD.depH {N L H tot:Nat} {c0 σ:Nat→Nat} {nd:Nat→Nd} (T:TD N L tot c0 σ nd) (hL:L≤256) (hNH:N≤2^H) (h5:5≤H) (h11:H≤11) (hpos:∀i,i<N→0<c0 i) (htot:tot<832040) :
  DepH (nd (N-1)).b H N (fun i=>(nd i).b):=by
 obtain ⟨⟨c,p,_,T,E,hcc,⟨i1,hi1,hp1⟩⟩,hsy,_⟩:=T
 have hn2:=T.n2
 have hnl:=T.nl
 have hdeep:∀i,i<N→(nd i).b≤29:=fun i hi=>T.deep E hi (by rw [hcc i hi];exact hpos i hi) htot
 have hint:∀v,L≤v→v≤L+N-2→(nd v).b<32:=by
  intro v h1 h2
  have h3:(nd v).b≤(nd L).b:=T.antiI E (L+N) L v (Nat.le_refl _) h1 h2 (by omega)
  have h4:(nd i1).b=(nd (p i1)).b+1:=E.leaf i1 hi1
  have h6:=hdeep i1 hi1
  rw [hp1] at h4
  omega
 refine ⟨by omega,by omega,hNH,h5,h11,?_,hdeep,fun i j h1 h2=>T.mono E h1 h2,T.kraft E hint,rfl⟩
 intro i hi
 have:(nd i).b=(nd (p i)).b+1:=E.leaf i hi
 show 1≤(nd i).b
 omega
def cN (f:Nat→Nat) (s:Nat):Nat→Nat
 | 0=>0
 | i+1=>cN f s i+if f i=s then 1 else 0
theorem cN_le (f:Nat→Nat) (s:Nat):∀i,cN f s i≤i
 | 0=>Nat.le_refl _
 | i+1=>by
  have:=cN_le f s i
  rw [cN];split<;>omega
theorem cN_mono (f:Nat→Nat) (s:Nat) {a b:Nat} (h:a≤b):cN f s a≤cN f s b:=by
 induction b with
 | zero=>have:a=0:=(by omega);subst this;exact Nat.le_refl _
 | succ b ih =>
  by_cases e:a=b+1
  ·subst e;exact Nat.le_refl _
  ·have:=ih (by omega)
   rw [cN];omega
theorem cN_sF (f:Nat→Nat) (s:Nat):∀n,cN f s n=sF (fun i=>if f i=s then 1 else 0) 0 n
 | 0=>rfl
 | n+1=>by rw [cN,sF,cN_sF f s n,Nat.zero_add]
theorem cN_congr {f g:Nat→Nat} {s:Nat} : ∀ {n:Nat},(∀i,i<n→f i=g i)→cN f s n=cN g s n
 | 0,_=>rfl
 | n+1,h=>by rw [cN,cN,cN_congr (n:=n) (fun i hi=>h i (by omega)),h n (by omega)]
def lnS (σ b:Nat→Nat):Nat→Nat→Nat
 | 0=>fun _=>0
 | j+1=>updN (lnS σ b j) (σ j) (b j)
theorem lnS_out {σ b:Nat→Nat} {i:Nat} : ∀ {n:Nat},(∀j,j<n→σ j≠i)→lnS σ b n i=0
 | 0,_=>rfl
 | n+1,h=>by
  rw [lnS,updN_ne (fun e=>h n (by omega) e.symm)]
  exact lnS_out (fun j hj=>h j (by omega))
theorem lnS_at {σ b:Nat→Nat} {j:Nat} : ∀ {n:Nat},(∀i j,i<n→j<n→σ i=σ j→i=j)→j<n→lnS σ b n (σ j)=b j
 | 0,_,h=>by omega
 | n+1,hi,h=>by
  rw [lnS]
  by_cases e:j=n
  ·subst e;rw [updN_eq]
  ·rw [updN_ne (fun he=>e (hi j n (by omega) (by omega) he))]
   exact lnS_at (fun i j h1 h2 he=>hi i j (by omega) (by omega) he) (by omega)
theorem lnS_sum {σ b φ:Nat→Nat} {L:Nat} (h0:φ 0=0):∀ {n:Nat},(∀i j,i<n→j<n→σ i=σ j→i=j)→(∀j,j<n→σ j<L)→sF (fun i=>φ (lnS σ b n i)) 0 L=sF (fun j=>φ (b j)) 0 n
 | 0,_,_=>by
  rw [sF]
  exact sF_zero (fun i hi=>h0)
 | n+1,hi,hl=>by
  have h1:=sF_upd φ (lnS σ b n) (σ n) (b n) L (hl n (by omega))
  rw [lnS_out (fun j hj he=>by have:=hi j n (by omega) (by omega) he;omega),h0,Nat.add_zero,lnS_sum h0 (fun i j h1 h2 he=>hi i j (by omega) (by omega) he) (fun j hj=>hl j (by omega))] at h1
  rw [sF,Nat.zero_add]
  exact h1
def vJ (nb:Nat→Nat) (M:Nat):Nat→Nat
 | 0=>0
 | j+1=>(vJ nb M j+nb (M-j))/2
def vR (nb:Nat→Nat) (M r:Nat):Nat:=if r=0∨M<r then 0 else vJ nb M (M-r)
theorem vJ_le {nb:Nat→Nat} {M:Nat} (h:∀r,nb r≤256):∀j,vJ nb M j≤256
 | 0=>by simp [vJ]
 | j+1=>by
  have:=vJ_le (M:=M) h j
  have:=h (M-j)
  rw [vJ];omega
theorem vR_le {nb:Nat→Nat} {M:Nat} (h:∀r,nb r≤256) (r:Nat):vR nb M r≤256:=by
 unfold vR;split
 ·omega
 ·exact vJ_le h _
theorem vJ_congr {nb nb':Nat→Nat} {M:Nat} (h:∀r,1≤r→r≤M→nb r=nb' r):∀j,j≤M→vJ nb M j=vJ nb' M j
 | 0,_=>rfl
 | j+1,hj=>by rw [vJ,vJ,vJ_congr h j (by omega),h (M-j) (by omega) (by omega)]
theorem vR_congr {nb nb':Nat→Nat} {M:Nat} (h:∀r,1≤r→r≤M→nb r=nb' r) (r:Nat):vR nb M r=vR nb' M r:=by
 unfold vR
 split
 ·rfl
 ·exact vJ_congr h _ (by omega)
def vC (ln:Nat→Nat) (L M i:Nat):Nat:=vR (fun r=>cN ln r L) M (ln i)+cN ln (ln i) i
structure HT (cnt:Nat→Nat) (L M:Nat) (ln:Nat→Nat):Prop where
 pos:∀i,i<L→(0<ln i↔0<cnt i)
 le:∀i,i<L→ln i≤M
 m1:1≤M
 m11:M≤11
 kr:sF (fun i=>if 0<ln i then 2^(M-ln i) else 0) 0 L=2^M
 mono:∀i j,i<L→j<L→0<cnt j→cnt j<cnt i→ln i≤ln j
structure Ord (cnt:Nat→Nat) (L N:Nat) (σ:Nat→Nat):Prop where
 nl:N≤L
 lt:∀j,j<N→σ j<L
 inj:∀i j,i<N→j<N→σ i=σ j→i=j
 onto:∀i,i<L→0<cnt i→∃j,j<N∧σ j=i
 pos:∀j,j<N→0<cnt (σ j)
 dec:∀i j,i≤j→j<N→cnt (σ j)≤cnt (σ i)
theorem HT.of {cnt σ b:Nat→Nat} {L N M:Nat} (O:Ord cnt L N σ) (hm1:1≤M) (hm:M≤11) (D:DLs M N b) (hk:krS M b N=2^M):HT cnt L M (lnS σ b N):=by
 have hat:∀j,j<N→lnS σ b N (σ j)=b j:=fun j hj=>lnS_at O.inj hj
 have hz:∀i,i<L→cnt i=0→lnS σ b N i=0:=fun i hi h0=>lnS_out (fun j hj e=>by have:=O.pos j hj;rw [e] at this;omega)
 refine ⟨?_,?_,hm1,hm,?_,?_⟩
 ·intro i hi
  constructor
  ·intro h
   apply Classical.byContradiction
   intro h0
   have:=hz i hi (by omega)
   omega
  ·intro h
   obtain ⟨j,hj,rfl⟩:=O.onto i hi h
   rw [hat j hj]
   exact D.one j hj
 ·intro i hi
  by_cases h:0<cnt i
  ·obtain ⟨j,hj,rfl⟩:=O.onto i hi h
   rw [hat j hj];exact D.le j hj
  ·rw [hz i hi (by omega)];exact Nat.zero_le _
 ·have h1:=lnS_sum (φ:=fun x=>if 0<x then 2^(M-x) else 0) (σ:=σ) (b:=b) (L:=L) (by simp) O.inj O.lt
  rw [h1, ←hk]
  unfold krS
  refine sF_congr (fun i _ hi => ?_)
  exact if_pos (D.one i (by omega))
 ·intro i j hi hj h1 h2
  obtain ⟨a,ha,rfl⟩:=O.onto i hi (by omega)
  obtain ⟨c,hc,rfl⟩:=O.onto j hj h1
  rw [hat a ha,hat c hc]
  by_cases h:a≤c
  ·exact D.mono a c h hc
  ·have:=O.dec c a (by omega) ha;omega
theorem nb_of {cnt σ b:Nat→Nat} {L N M r:Nat} (O:Ord cnt L N σ) (hr:1≤r):cN b r N=cN (lnS σ b N) r L:=by
 have h1:=lnS_sum (φ:=fun x=>if x=r then 1 else 0) (σ:=σ) (b:=b) (L:=L) (by rw [if_neg (by omega)]) O.inj O.lt
 rw [cN_sF,cN_sF]
 exact h1.symm
theorem Ord.of {cnt:Nat→Nat} {L N:Nat} {l:List Nat} (S:Srt cnt L l) (hN:N≤L) (hp:∀j (h:j<l.length),j<N→0<cnt l[j]) (hz:∀j (h:j<l.length),N≤j→cnt l[j]=0):Ord cnt L N (fun j=>l.getD j 0):=by
 have hg:∀j (h:j<l.length),l.getD j 0=l[j]:=fun j h=>by rw [List.getD_eq_getElem?_getD,List.getElem?_eq_getElem h];rfl
 have hl:=S.len
 refine ⟨hN,?_,?_,?_,?_,?_⟩
 ·intro j hj
  show l.getD j 0<L
  rw [hg j (by omega)]
  exact (S.mem _).mp (List.getElem_mem _)
 ·intro i j hi hj e
  have e:l.getD i 0=l.getD j 0:=e
  rw [hg i (by omega),hg j (by omega)] at e
  exact (List.getElem_inj S.nd).mp e
 ·intro i hi hc
  obtain ⟨j,hj,e⟩:=List.mem_iff_getElem.mp ((S.mem i).mpr hi)
  refine ⟨j,?_,by show l.getD j 0=i;rw [hg j hj];exact e⟩
  by_cases h:j<N
  ·exact h
  ·have:=hz j hj (by omega)
   rw [e] at this;omega
 ·intro j hj
  show 0<cnt (l.getD j 0)
  rw [hg j (by omega)]
  exact hp j (by omega) hj
 ·intro i j hij hj
  show cnt (l.getD j 0)≤cnt (l.getD i 0)
  rw [hg i (by omega),hg j (by omega)]
  by_cases e:i=j
  ·subst e;exact Nat.le_refl _
  ·have:=List.pairwise_iff_getElem.mp S.dec i j (by omega) (by omega) (by omega)
   omega
theorem nw_n {w:World} {k:IntKind} {n:Nat} {T:TypeId} {κ:Addr→PT} (hk:∀w',Fm w w' []→w'.heap.size=w.heap.size+1→Blk w' w.heap.size (arrC k n fun _=>0)→κ ⟨w.heap.size,0,none⟩ w'):nw (List.replicate n (.int k 0)) T κ w:=by
 refine hk _ (Fm.refl w []).alloc (World.size_alloc _ _) (Blk.new.congr ?_)
 funext i
 unfold arrC
 rw [List.getElem?_toArray,List.getElem?_replicate]
theorem ixS_2 {w:World} {b l c k:Nat} {i:Int} {κ:Addr→PT} (hi:i=k) (hk:k<l) (h:κ ⟨b,k*2,none⟩ w):ixS 2 ⟨some ⟨b,0,none⟩,l,c⟩ i κ w:=by
 refine ixS_b rfl hi hk ?_
 rw [Nat.zero_add]
 exact h
section
variable {w:World} {nb cap N L M:Nat} {z:Nd} {nd:Nat→Nd}
theorem NW.lt (h:NW w nb cap z nd):nb<w.heap.size:=by
 obtain ⟨F,h1,_⟩:=h
 exact h1.lt
theorem copyW {κ:Addr→PT} {i l c:Nat} (W:NW w nb cap z nd) (hi:i<512) (hil:i<l) (hk:∀w' r,w.heap.size≤r→r<w'.heap.size→Blk w' r (oneC (nd i).v)→Fm w w' []→κ ⟨r,0,none⟩ w') :
  (ixS 1 ⟨some ⟨nb,1,none⟩,l,c⟩ (i:Int) fun (p104:Addr)=>ld (.I .u64) p104 fun (n105:Int)=>nw z196 196 fun (p106:Addr)=>st p106 (.int .u64 n105) (κ p106)) w:=by
 obtain ⟨F,h1,h2,h3,h4,h5⟩:=W
 refine ixS_o rfl hil ?_
 refine ld_b (t := .I .u64) (x:=(((nd i).n:Nat):Int)) h1 (h5 i hi).1 ?_
 refine nw_1 ?_
 intro w1 F1 hs1 HB1
 refine st_u HB1 (by rfl) rfl ?_
 intro w2 HB2 F2
 rw [oneC_upd] at HB2
 refine hk w2 _ (Nat.le_refl _) HB2.lt HB2 (F1.trans F2 ?_)
 intro v hv
 right
 simp at hv
 omega
theorem ct_rank {R100:Unit→PT} {pb:Nat} (W:NW w nb cap z nd) (HP:Blk w pb (arrC .u16 12 fun _=>0)) (hN:N≤256) (hb:∀i,i<N→(nd i).b<12)
  (d:nb≠pb) (hk:∀w',Blk w' pb (arrC .u16 12 fun r=>((cN (fun i=>(nd i).b) r N:Nat):Int))→Fm w w' [pb]→R100 () w') :
  loopP (0:Int) (q91_L10 ⟨pb,0,none⟩ R100 ⟨some ⟨nb,1,none⟩,N,cap-1⟩) w:=by
 have hpl:=HP.lt
 refine ⟨fun x w'=>∃(i:Nat),x=(i:Int)∧i≤N∧Blk w' pb (arrC .u16 12 fun r=>((cN (fun i=>(nd i).b) r i:Nat):Int))∧Fm w w' [pb],fun x _=>300-x.toNat,⟨0,rfl,Nat.zero_le _,HP,Fm.refl _ _⟩,?_⟩
 rintro x w2 ⟨i,rfl,hi,HP2,Fr2⟩
 unfold q91_L10
 refine cnd_d ?_ ?_
 ·intro hc
  have hi2:i<N:=by simp only at hc;omega
  have W2:=W.fr Fr2 (nm1 d)
  have hbi:=hb i hi2
  have hcn:=cN_le (fun i=>(nd i).b) (nd i).b i
  refine copyW W2 (by omega) hi2 ?_
  intro w3 r hr hr3 HB3 F3
  have hsz:=Fr2.size
  have HP3:=HP2.fr F3 (by simp)
  refine c128 HB3 rfl (W.ok (by omega)) ?_
  refine ixA_o rfl hbi ?_
  rw [Nat.zero_add]
  refine ld_b (t := .I .u16) (x:=((cN (fun i=>(nd i).b) (nd i).b i:Nat):Int)) HP3 (arrC_get hbi) ?_
  refine ixA_o rfl hbi ?_
  rw [Nat.zero_add]
  refine st_u HP3 (by rw [arrC_get hbi];rfl) rfl ?_
  intro w4 HP4 F4
  rw [wU16 (by omega) (by omega),arrC_upd hbi] at HP4
  rw [wI64 (by omega) (by omega)]
  refine ⟨⟨i+1,by simp,hi2,HP4.congr ?_,(Fr2.trans F3 (by simp)).trans F4 (fun x hx => .inl hx)⟩,by dsimp only;omega⟩
  congr 1
  funext r'
  unfold updF
  simp only [cN]
  by_cases e:r'=(nd i).b
  ·rw [if_pos e,if_pos e.symm,e];omega
  ·rw [if_neg e,if_neg (fun h=>e h.symm)];omega
 ·intro hc
  have hie:i=N:=by simp only at hc;omega
  subst hie
  exact hk w2 HP2 Fr2
theorem ct_vals {R112:Unit→PT} {pb vb:Nat} {nbr:Nat→Nat} (HP:Blk w pb (arrC .u16 12 fun r=>((nbr r:Nat):Int))) (HV:Blk w vb (arrC .u16 16 fun _=>0)) (d:pb≠vb) (hM:M≤11) (hn:∀r,nbr r≤256)
  (hk:∀w',Blk w' vb (arrC .u16 16 fun r=>((vR nbr M r:Nat):Int))→Fm w w' [vb]→R112 () w') :
  loopP ((0:Int),(M:Int)) (q91_L11 ⟨pb,0,none⟩ ⟨vb,0,none⟩ R112) w:=by
 refine ⟨fun x w'=>∃(j:Nat),x=((vJ nbr M j:Int),((M-j:Nat):Int))∧j≤M∧Blk w' vb (arrC .u16 16 fun r=>((if M-j<r then vR nbr M r else 0:Nat):Int))∧Fm w w' [vb],fun x _=>x.2.toNat,
  ⟨0,rfl,Nat.zero_le _,HV.congr ?_,Fm.refl _ _⟩,?_⟩
 ·congr 1
  funext r
  split
  ·unfold vR;rw [if_pos (.inr (by omega))];rfl
  ·rfl
 rintro x w2 ⟨j,rfl,hj,HV2,Fr2⟩
 unfold q91_L11
 simp only
 have hvj:=vJ_le (M:=M) hn j
 refine cnd_d ?_ ?_
 ·intro hc
  have hnr:=hn (M-j)
  refine ixA_o rfl (by omega) ?_
  rw [Nat.zero_add]
  refine st_u HV2 (by rw [arrC_get (by omega)];rfl) rfl ?_
  intro w3 HV3 F3
  rw [arrC_upd (by omega)] at HV3
  have HP3:=(HP.fr Fr2 (nm1 d)).fr F3 (nm1 d)
  refine ixA_o rfl (by omega) ?_
  rw [Nat.zero_add]
  refine ld_b (t := .I .u16) (x:=((nbr (M-j):Nat):Int)) HP3 (arrC_get (by omega)) ?_
  refine ⟨by decide,?_⟩
  have es:shrI .u16 (IntKind.u16.wrap (((vJ nbr M j:Nat):Int)+((nbr (M-j):Nat):Int))) 1=((vJ nbr M (j+1):Nat):Int):=by
   rw [wU16 (by omega) (by omega), ←Int.natCast_add,show (1:Int)=((1:Nat):Int) from rfl,shrI_nat _ _ _ (by simp only [IntKind.bits];omega),Nat.pow_one,vJ]
  rw [es,wU8 (by omega) (by omega)]
  refine ⟨⟨j+1,by rw [show ((M-j:Nat):Int)-1=((M-(j+1):Nat):Int) by omega],by omega,HV3.congr ?_,Fr2.trans F3 (fun x hx => .inl hx)⟩,by omega⟩
  congr 1
  funext r
  unfold updF
  by_cases e:r=M-j
  ·rw [if_pos e,if_pos (by omega)]
   unfold vR
   rw [if_neg (by omega),e,show M-(M-j)=j by omega]
  ·rw [if_neg e]
   show (((if M-j<r then vR nbr M r else 0):Nat):Int)=_
   by_cases e2:M-j<r
   ·rw [if_pos e2,if_pos (by omega)]
   ·rw [if_neg e2,if_neg (by omega)]
 ·intro hc
  have hje:j=M:=by omega
  subst hje
  refine hk w2 (HV2.congr ?_) Fr2
  congr 1
  funext r
  rw [Nat.sub_self]
  split
  ·rfl
  ·unfold vR;rw [if_pos (.inl (by omega))]
def LnC (L:Nat) (ln:Nat→Nat) (F:Cells):Prop:=∀i,i<L→F (i*2+1)=some (.int .u8 (ln i:Nat))
theorem ct_lens {R119:Unit→PT} {g tb capt:Nat} {s:HU} {σ:Nat→Nat} {F:Cells} (B:Blk w g s.at) (W:NW w nb cap z nd) (hct:s.ct=⟨some ⟨tb,0,none⟩,L,capt⟩) (HT:Blk w tb F) (hF:Som (capt*2) F) (hLc:L≤capt) (hN:N≤256) (hL:L≤256)
  (hsy:∀i,i<N→(nd i).s=σ i) (hσ:∀i,i<N→σ i<L) (h0:LnC L (fun _=>0) F) (dg:g≠tb) (dn:nb≠tb)
  (hk:∀w' F',Blk w' tb F'→Som (capt*2) F'→LnC L (lnS σ (fun i=>(nd i).b) N) F'→(∀k,F' (k*2)=F (k*2))→Fm w w' [tb]→R119 () w') :
  loopP (0:Int) (q91_L12 ⟨g,0,none⟩ R119 ⟨some ⟨nb,1,none⟩,N,cap-1⟩) w:=by
 refine ⟨fun x w'=>∃(i:Nat) (F':Cells),x=(i:Int)∧i≤N∧Blk w' tb F'∧Som (capt*2) F'∧LnC L (lnS σ (fun i=>(nd i).b) i) F'∧(∀k,F' (k*2)=F (k*2))∧Fm w w' [tb],fun x _=>300-x.toNat,⟨0,F,rfl,Nat.zero_le _,HT,hF,h0,fun k=>rfl,Fm.refl _ _⟩,?_⟩
 rintro x w2 ⟨i,F2,rfl,hi,HT2,hS2,hl2,he2,Fr2⟩
 unfold q91_L12
 refine cnd_d ?_ ?_
 ·intro hc
  have hi2:i<N:=by simp only at hc;omega
  have W2:=W.fr Fr2 (nm1 dn)
  have B2:=B.fr Fr2 (nm1 dg)
  have hσi:=hσ i hi2
  have hok:=W.ok (i:=i) (by omega)
  refine copyW W2 (by omega) hi2 ?_
  intro w3 r hr hr3 HB3 F3
  have hsz:=Fr2.size
  have HT3:=HT2.fr F3 (by simp)
  have B3:=B2.fr F3 (by simp)
  unfold drw
  simp only [add_mk,Nat.zero_add]
  have hat:s.at 271=some (Sl.val ⟨some ⟨tb,0,none⟩,L,capt⟩):=by show some s.ct.val=_;rw [hct]
  have hkp:∀f ∈ [((⟨g,271,none⟩:Addr),(Value.slice (some ⟨tb,0,none⟩) L capt))],w3.drew.cell? f.1=some f.2:=by
   intro f hf
   simp only [List.mem_cons,List.not_mem_nil,or_false] at hf
   subst hf
   show w3.drew.cell? ⟨g,271,none⟩=_
   rw [B3.drew.cell,hat];rfl
  refine ld_b (t := .S) (x:=⟨some ⟨tb,0,none⟩,L,capt⟩) B3.drew hat ?_
  refine c130 HB3.drew rfl hok ?_
  refine ⟨hkp,?_⟩
  refine c128 HB3.drew rfl hok ?_
  refine ⟨hkp,?_⟩
  rw [hsy i hi2]
  refine ixS_2 rfl hσi ?_
  simp only [add_mk]
  refine st_u HT3.drew (hS2 _ (by omega)) rfl ?_
  intro w4 HT4 F4
  rw [wI64 (by omega) (by omega)]
  refine ⟨⟨i+1,_,by simp,hi2,HT4,hS2.upd,?_,(fun k=>by unfold updC;rw [if_neg (by omega)];exact he2 k),(Fr2.trans F3 (by simp)).drew.trans F4 (fun x hx => .inl hx)⟩,by omega⟩
  intro k hk2
  unfold updC
  rw [lnS]
  by_cases e:k=σ i
  ·subst e;rw [if_pos rfl,updN_eq]
  ·rw [if_neg (by omega),updN_ne e];exact hl2 k hk2
 ·intro hc
  have hie:i=N:=by simp only at hc;omega
  subst hie
  exact hk w2 F2 HT2 hS2 hl2 he2 Fr2
theorem ct_codes {R134:Unit→PT} {tb vb capt:Nat} {ln V:Nat→Nat} {F:Cells} (HT:Blk w tb F) (hF:Som (capt*2) F) (hLc:L≤capt) (hL:L≤256) (hl:LnC L ln F) (h0:∀i,i<L→∃v,F (i*2)=some (.int .u16 v)) (HV:Blk w vb (arrC .u16 16 fun r=>((V r:Nat):Int))) (hV:∀r,V r≤256) (hln:∀i,i<L→ln i≤11) (d:tb≠vb)
  (hk:∀w' F',Blk w' tb F'→Som (capt*2) F'→(∀i,i<L→F' (i*2)=some (.int .u16 (V (ln i)+cN ln (ln i) i:Nat))∧F' (i*2+1)=some (.int .u8 (ln i:Nat)))→Fm w w' [tb,vb]→R134 () w') :
  loopP (0:Int) (q91_L13 ⟨vb,0,none⟩ ⟨some ⟨tb,0,none⟩,L,capt⟩ R134) w:=by
 refine ⟨fun x w'=>∃(i:Nat) (F':Cells),x=(i:Int)∧i≤L∧Blk w' tb F'∧Som (capt*2) F'∧LnC L ln F'∧(∀i,i<L→∃v,F' (i*2)=some (.int .u16 v))∧(∀k,k<i→F' (k*2)=some (.int .u16 (V (ln k)+cN ln (ln k) k:Nat)))∧Blk w' vb (arrC .u16 16 fun r=>((V r+cN ln r i:Nat):Int))∧Fm w w' [tb,vb],fun x _=>300-x.toNat,
  ⟨0,F,rfl,Nat.zero_le _,HT,hF,hl,h0,fun k hk=>absurd hk (Nat.not_lt_zero _),HV,Fm.refl _ _⟩,?_⟩
 rintro x w2 ⟨i,F2,rfl,hi,HT2,hS2,hl2,h02,hv2,HV2,Fr2⟩
 unfold q91_L13
 refine cnd_d ?_ ?_
 ·intro hc
  have hi2:i<L:=by simp only at hc;omega
  obtain ⟨v0,hv0⟩:=h02 i hi2
  have hl11:=hln i hi2
  have hVi:=hV (ln i)
  have hcn:=cN_le ln (ln i) i
  refine ixS_2 rfl hi2 ?_
  show ld (.I .u16) _ _ _
  simp only [add_mk,Nat.add_zero]
  refine ld_b (t := .I .u16) (x:=v0) HT2 (by rw [hv0];rfl) ?_
  show ld (.I .u8) _ _ _
  simp only [add_mk,Nat.zero_add]
  refine ld_b (t := .I .u8) (x:=((ln i:Nat):Int)) HT2 (by rw [hl2 i hi2];rfl) ?_
  unfold nw
  have B3:Blk (w2.alloc (.cells ⟨z140⟩ 140)) w2.heap.size fun i=>(⟨z140⟩:Array Value)[i]? := Blk.new
  have F3:Fm w2 (w2.alloc (.cells ⟨z140⟩ 140)) []:=(Fm.refl w2 []).alloc
  generalize hw3:w2.alloc (.cells ⟨z140⟩ 140)=w3 at *
  have hrl:=B3.lt
  have htl:=HT2.lt
  have hvl:=HV2.lt
  have dt:tb≠w2.heap.size:=by omega
  have dv:vb≠w2.heap.size:=by omega
  have hsz:=Fr2.size
  generalize hr:w2.heap.size=r at *
  show st _ _ (st _ _ _) _
  simp only [add_mk,Nat.add_zero,Nat.zero_add]
  refine st_u B3 (by rfl) rfl ?_
  intro w4 B4 F4
  refine st_u B4 (by rfl) rfl ?_
  intro w5 B5 F5
  refine ld_b (t := .I .u8) (x:=((ln i:Nat):Int)) B5 (by unfold updC;rw [if_pos rfl];rfl) ?_
  have F25:Fm w2 w5 [r]:=((F3.mono (S' := [r]) (by simp)).trans F4 (fun x hx => .inl hx)).trans F5 (fun x hx => .inl hx)
  have HT5:=HT2.fr F25 (nm1 dt)
  have HV5:=HV2.fr F25 (nm1 dv)
  have ea:andI .u8 ((ln i:Nat):Int) 15=((ln i:Nat):Int):=by
   have:=andI_nat (k := .u8) rfl (ln i) 15 (by simp only [IntKind.bits];omega) (by decide)
   rw [show (15:Int)=((15:Nat):Int) from rfl,this]
   congr 1
   have:=Nat.and_two_pow_sub_one_eq_mod (ln i) 4
   rw [show 2^4-1=15 from rfl] at this
   rw [this,Nat.mod_eq_of_lt (by omega)]
  rw [ea]
  refine ixA_o rfl (by omega) ?_
  rw [Nat.zero_add]
  refine ld_b (t := .I .u16) (x:=((V (ln i)+cN ln (ln i) i:Nat):Int)) HV5 (arrC_get (by omega)) ?_
  refine ixS_2 rfl hi2 ?_
  refine st_u HT5 (hS2 _ (by omega)) rfl ?_
  intro w6 HT6 F6
  refine ixA_o rfl (by omega) ?_
  rw [Nat.zero_add]
  refine st_u (HV5.fr F6 (nm1 d.symm)) (by rw [arrC_get (by omega)];rfl) rfl ?_
  intro w7 HV7 F7
  rw [wU16 (by omega) (by omega),arrC_upd (by omega)] at HV7
  rw [wI64 (by omega) (by omega)]
  refine ⟨⟨i+1,_,by simp,hi2,HT6.fr F7 (nm1 d),hS2.upd,?_,?_,?_,HV7.congr ?_,((Fr2.trans F25 (by intro v hv;right;simp at hv;omega)).trans F6 (by intro v hv;simp at hv;simp [hv])).trans F7 (by intro v hv;simp at hv;simp [hv])⟩,by omega⟩
  ·intro k hk2
   unfold updC
   rw [if_neg (by omega)];exact hl2 k hk2
  ·intro k hk2
   unfold updC
   by_cases e:k=i
   ·subst e;rw [if_pos rfl];exact ⟨_,rfl⟩
   ·rw [if_neg (by omega)];exact h02 k hk2
  ·intro k hk2
   unfold updC
   by_cases e:k=i
   ·subst e;rw [if_pos rfl]
   ·rw [if_neg (by omega)];exact hv2 k (by omega)
  ·congr 1
   funext r'
   unfold updF
   simp only [cN]
   by_cases e:r'=ln i
   ·rw [if_pos e,if_pos e.symm,e];omega
   ·rw [if_neg e,if_neg (fun h=>e h.symm)];omega
 ·intro hc
  have hie:i=L:=by simp only at hc;omega
  subst hie
  exact hk w2 F2 HT2 hS2 (fun k hk=>⟨hv2 k hk,hl2 k hk⟩) Fr2
end
theorem zrep2 (a b:Value) (n i:Nat) (h:i<n):(zrep [a,b] n)[i*2]? = some a∧(zrep [a,b] n)[i*2+1]? = some b:=by
 constructor
 ·rw [Array.getElem?_eq_getElem (by rw [zrep_size];show i*2<n*2;omega)]
  simp [zrep]
 ·rw [Array.getElem?_eq_getElem (by rw [zrep_size];show i*2+1<n*2;omega)]
  simp [zrep,Nat.mul_add_mod]
section
variable {w:World} {g L:Nat} {s:HU}
def Ze (L:Nat) (F:Cells):Prop:=∀i,i<L→F (i*2)=some (.int .u16 0)∧F (i*2+1)=some (.int .u8 0)
theorem ct_table {R4:Unit→PT} (B:Blk w g s.at) (hsy:s.symL=(L:Nat)) (hL:L≤256) (hO:Own 2 w s.ct) (hg:g∉s.ct.bs)
  (hk:∀w' tb capt F',256≤capt→Blk w' g ({ s with ct:=⟨some ⟨tb,0,none⟩,L,capt⟩ } : HU).at→Blk w' tb F'→Som (capt*2) F'→Ze L F'→(tb∈s.ct.bs∨w.heap.size≤tb)→g≠tb→Fm w w' (g::s.ct.bs)→R4 () w') :
  q91_X24 ⟨g,0,none⟩ R4 w:=by
 have hsyAt:s.at 265=some (.int .u16 (L:Nat)):=by show some (Value.int .u16 s.symL)=_;rw [hsy]
 unfold q91_X24
 simp only [add_mk,Nat.zero_add]
 refine ld_b (t := .S) (x:=s.ct) B rfl (cnd_d ?_ ?_)
 ·intro hc
  refine ld_b (t := .I .u16) (x:=((L:Nat):Int)) B hsyAt ?_
  refine ⟨L,256,rfl,rfl,hL,by omega,?_⟩
  have F1:Fm w (w.alloc (.cells (zrep z140 256) 140)) []:=(Fm.refl w []).alloc
  have B1:Blk (w.alloc (.cells (zrep z140 256) 140)) w.heap.size fun i=>(zrep z140 256)[i]? := Blk.new
  generalize w.alloc (.cells (zrep z140 256) 140)=w1 at *
  have hgl:=B.lt
  have dg:g≠w.heap.size:=by omega
  refine st_u (B.fr F1 (by simp)) rfl rfl ?_
  intro w2 B2 F2
  refine hk w2 w.heap.size 256 _ (Nat.le_refl _) (B2.congr (HU.setT 15 rfl rfl rfl (by decide))) (B1.fr F2 (nm1 dg.symm)) (fun i hi=>zrep_some z140 256 i hi) ?_ (.inr (Nat.le_refl _)) dg ((F1.mono (by simp)).trans F2 (by intro v hv;simp at hv;simp [hv]))
  intro i hi
  exact zrep2 _ _ 256 i (by omega)
 ·intro hc
  unfold drw
  refine ld_b (t := .S) (x:=s.ct) B.drew rfl ?_
  refine ld_b (t := .I .u16) (x:=((L:Nat):Int)) B.drew hsyAt ?_
  refine slc_hi (m:=L) rfl (by omega) ?_
  refine st_u B.drew rfl rfl ?_
  intro w2 B2 F2
  have ha:s.ct.a.isSome:=by
   cases h:s.ct.a with
   | none=>have:=hO.2.1 h;omega
   | some a=>rfl
  obtain ⟨tb,F,hct,HT,hS,hlc⟩:=hO.out ha rfl
  have hbs:s.ct.bs = [tb]:=by rw [hct];rfl
  have htb:tb∈s.ct.bs:=by rw [hbs];simp
  have dg:g≠tb:=fun e=>hg (e▸htb)
  have hca:s.ct.a=some ⟨tb,0,none⟩:=by rw [hct]
  rw [hca] at B2
  have B2':=B2.congr (HU.setT (s' := { s with ct:=⟨some ⟨tb,0,none⟩,L,s.ct.c⟩ }) 15 rfl rfl rfl (by decide))
  generalize hs':({ s with ct:=⟨some ⟨tb,0,none⟩,L,s.ct.c⟩ } : HU)=s' at *
  have hs'ct:s'.at 271=some (Sl.val ⟨some ⟨tb,0,none⟩,L,s.ct.c⟩):=by rw [←hs'];rfl
  refine ld_b (t := .S) (x:=⟨some ⟨tb,0,none⟩,L,s.ct.c⟩) B2' hs'ct ?_
  have hcap:256≤s.ct.c:=by omega
  have Fr0:Fm w w2 (g::s.ct.bs):=(Fm.refl w (g::s.ct.bs)).drew.trans F2 (by intro v hv;simp at hv;simp [hv])
  refine ⟨fun x w'=>∃(i:Nat) (F':Cells),x=(i:Int)∧i≤L∧Blk w' tb F'∧Som (s.ct.c*2) F'∧Ze i F'∧Fm w2 w' [tb],fun x _=>300-x.toNat,⟨0,F,rfl,Nat.zero_le _,(HT.drew).fr F2 (nm1 dg.symm),hS,fun i hi=>absurd hi (Nat.not_lt_zero _),Fm.refl _ _⟩,?_⟩
  rintro x w3 ⟨i,F3,rfl,hi,HT3,hS3,hz3,Fr3⟩
  have B3:=B2'.fr Fr3 (nm1 dg)
  unfold q91_L0
  refine cnd_d ?_ ?_
  ·intro hc2
   have hi2:i<L:=by simp only at hc2;omega
   simp only [add_mk,Nat.zero_add]
   refine ld_b (t := .S) (x:=⟨some ⟨tb,0,none⟩,L,s.ct.c⟩) B3 hs'ct ?_
   refine ixS_2 rfl hi2 ?_
   show st _ _ (st _ _ _) _
   simp only [add_mk,Nat.add_zero,Nat.zero_add]
   refine st_u HT3 (hS3 _ (by omega)) rfl ?_
   intro w4 HT4 F4
   refine st_u HT4 (hS3.upd _ (by omega)) rfl ?_
   intro w5 HT5 F5
   rw [wI64 (by omega) (by omega)]
   refine ⟨⟨i+1,_,by simp,hi2,HT5,hS3.upd.upd,?_,(Fr3.trans F4 (fun x hx => .inl hx)).trans F5 (fun x hx => .inl hx)⟩,by omega⟩
   intro k hk2
   unfold updC
   by_cases e:k=i
   ·subst e
    refine ⟨?_,if_pos rfl⟩
    rw [if_neg (by omega),if_pos rfl]
   ·rw [if_neg (by omega),if_neg (by omega),if_neg (by omega),if_neg (by omega)]
    exact hz3 k (by omega)
  ·intro hc2
   have hie:i=L:=by simp only at hc2;omega
   subst hie
   refine hk w3 tb s.ct.c F3 hcap (hs'▸B3) HT3 hS3 hz3 (.inl htb) dg (Fr0.trans Fr3 ?_)
   intro v hv
   simp at hv
   subst hv
   exact .inl (by simp [htb])
end
theorem NW.of {w:World} {nb cap L:Nat} {F:Cells} {cnt:Nat→Nat} {l:List Nat} (HB:Blk w nb F) (hS:Som cap F) (hF:Nds F) (hl:∀i (h:i<l.length),F (1+i)=some (sn cnt l[i]).v) (hok:∀i (h:i<l.length),(sn cnt l[i]).ok) (hlen:l.length≤512) :
  ∃z nd,NW w nb cap z nd∧∀i (h:i<l.length),nd i=sn cnt l[i]:=by
 have h1:∀i:Nat,∃x:Nd,(i<512→F (1+i)=some x.v∧x.ok)∧∀h:i<l.length,x=sn cnt l[i]:=by
  intro i
  by_cases h:i<l.length
  ·exact ⟨sn cnt l[i],fun _=>⟨hl i h,hok i h⟩,fun _=>rfl⟩
  ·by_cases h2:i<512
   ·obtain ⟨x,h3,h4⟩:=hF (1+i) (by omega)
    exact ⟨x,fun _=>⟨h4,h3⟩,fun h'=>absurd h' h⟩
   ·exact ⟨⟨0,0,0,0⟩,fun h'=>absurd h' h2,fun h'=>absurd h' h⟩
 obtain ⟨nd,hnd⟩:=Classical.axiomOfChoice h1
 obtain ⟨z,hz1,hz2⟩:=hF 0 (by omega)
 exact ⟨z,nd,⟨F,HB,hS,hz2,hz1,fun i hi=>(hnd i).1 hi⟩,fun i h=>(hnd i).2 h⟩
theorem NW.nds {w:World} {nb cap:Nat} {z:Nd} {nd:Nat→Nd} (W:NW w nb cap z nd):∃F,Blk w nb F∧Som cap F∧Nds F:=by
 obtain ⟨F,h1,h2,h3,h4,h5⟩:=W
 refine ⟨F,h1,h2,?_⟩
 intro i hi
 by_cases e:i=0
 ·subst e;exact ⟨z,h4,h3⟩
 ·have:=h5 (i-1) (by omega)
  rw [show 1+(i-1)=i by omega] at this
  exact ⟨_,this.2,this.1⟩
theorem Ord.sum {cnt σ:Nat→Nat} {L N:Nat} (O:Ord cnt L N σ):sF (fun j=>cnt (σ j)) 0 N=sF cnt 0 L:=by
 have h:=lnS_sum (φ:=fun x=>x) (σ:=σ) (b:=fun j=>cnt (σ j)) (L:=L) rfl O.inj O.lt
 rw [←h]
 refine sF_congr (fun i _ hi => ?_)
 by_cases h0:0<cnt i
 ·obtain ⟨j,hj,rfl⟩:=O.onto i (by omega) h0
  exact lnS_at O.inj hj
 ·rw [lnS_out (fun j hj e=>by have:=O.pos j hj;rw [e] at this;omega)];omega
theorem Ord.len {cnt σ:Nat→Nat} {L N:Nat} (O:Ord cnt L N σ):N≤sF cnt 0 L:=by
 rw [←O.sum]
 have h:∀n,n≤N→n≤sF (fun j=>cnt (σ j)) 0 n:=by
  intro n
  induction n with
  | zero=>intro _;exact Nat.zero_le _
  | succ n ih =>
   intro hn
   have h1:=ih (by omega)
   have h2:=O.pos n (by omega)
   rw [sF,Nat.zero_add];omega
 exact h N (Nat.le_refl _)
section
variable {w:World} {g nb cap L N H:Nat} {s:HU} {z:Nd} {nd:Nat→Nd} {K1:Value→PT}
theorem ct_end {tb capt:Nat} {cnt σ:Nat→Nat} {F:Cells} (B:Blk w g s.at) (hsy:s.symL=(L:Nat)) (hL:L≤256) (hat:s.atl=(H:Nat)) (hnod:s.nodes=⟨some ⟨nb,0,none⟩,513,cap⟩) (hcap:513≤cap) (hct:s.ct=⟨some ⟨tb,0,none⟩,L,capt⟩)
  (W:NW w nb cap z nd) (P:DepH (nd (N-1)).b H N (fun i=>(nd i).b)) (O:Ord cnt L N σ) (hσ:∀i,i<N→(nd i).s=σ i) (HTb:Blk w tb F) (hF:Som (capt*2) F) (hLc:L≤capt) (hz:Ze L F) (dgn:g≠nb) (dgt:g≠tb) (dnt:nb≠tb)
  (hk:∀w' M ln F' z' nd',HT cnt L M ln→(∃b,MaxR H N (fun i=>(nd i).c) (fun i=>(nd i).b) M b∧ln=lnS σ b N)→Blk w' g ({ s with atl:=(M:Nat) } : HU).at→Blk w' tb F'→Som (capt*2) F'→(∀i,i<L→F' (i*2)=some (.int .u16 (vC ln L M i:Nat))∧F' (i*2+1)=some (.int .u8 (ln i:Nat)))→NW w' nb cap z' nd'→Fm w w' [g,nb,tb]→K1 .nilIface w') :
  q91_J18 ⟨g,0,none⟩ K1 ⟨some ⟨nb,1,none⟩,512,cap-1⟩ ((N-1:Nat):Int) () w:=by
 have hn1:=P.n1
 have hn2:=P.n2
 have h11:=P.h11
 unfold q91_J18
 rw [wI64 (x:=((N-1:Nat):Int)) (by omega) (by omega)]
 obtain ⟨F0,k1,k2,k3,k4,k5⟩:=W
 have hNF:NF F0 (NB nd (fun i=>(nd i).b) N):=k5.congr (fun i hi=>by unfold NB;split<;>rfl)
 refine c129 B (by show some (Value.int .u8 s.atl)=_;rw [hat]) (by show some s.nodes.val=_;rw [hnod]) hcap k1 hNF ⟨k2,z,k4,k3⟩ P dgn ?_
 intro w1 M b F1 hM hMR hD hkr hNF1 hS1 HN1 Fr1
 obtain ⟨hS1,z1,hz1,hz2⟩:=hS1
 have W1:NW w1 nb cap z1 (NB nd b N):=⟨F1,HN1,hS1,hz2,hz1,hNF1⟩
 have hb1:∀i,i<N→(NB nd b N i).b=b i:=fun i hi=>by rw [NB_in hi]
 have hs1:∀i,i<N→(NB nd b N i).s=σ i:=fun i hi=>by rw [NB_in hi];exact hσ i hi
 have hM1:1≤M:=Nat.le_trans (hD.one 0 hn1) (hD.le 0 hn1)
 have hHT:=HT.of O hM1 (by omega) hD hkr
 have B1:=B.fr Fr1 (nm1 dgn)
 have HT1:=HTb.fr Fr1 (nm1 dnt.symm)
 generalize NB nd b N=nd1 at *
 simp only [add_mk,Nat.zero_add]
 refine st_u B1 rfl rfl ?_
 intro w2 B2 F2
 have B2':=B2.congr (HU.setT (s' := { s with atl:=(M:Nat) }) 12 rfl rfl rfl (by decide))
 have W2:=W1.fr F2 (nm1 dgn.symm)
 have HT2:=HT1.fr F2 (nm1 dgt.symm)
 have Fr2:Fm w w2 [g,nb,tb]:=(Fr1.mono (by intro v hv;simp at hv;simp [hv])).trans F2 (by intro v hv;simp at hv;simp [hv])
 refine ld_b (t := .I .u8) (x:=((M:Nat):Int)) B2' rfl ?_
 refine cnd_d (fun hc=>absurd hc (by omega)) ?_
 intro _
 refine nw_n ?_
 intro w3 F3 hs3 HP3
 have hpr:=HP3.lt
 have gl:=B2'.lt
 have nl:=W2.lt
 have tl:=HT2.lt
 have e2:=Fr2.size
 have dgp:g≠w2.heap.size:=by omega
 have dnp:nb≠w2.heap.size:=by omega
 have dtp:tb≠w2.heap.size:=by omega
 have hwp:w.heap.size≤w2.heap.size:=e2
 generalize w2.heap.size=pb at *
 refine nw_n ?_
 intro w4 F4 hs4 HV4
 have dgv:g≠w3.heap.size:=by omega
 have dnv:nb≠w3.heap.size:=by omega
 have dtv:tb≠w3.heap.size:=by omega
 have dpv:pb≠w3.heap.size:=by omega
 have hwv:w.heap.size≤w3.heap.size:=by omega
 generalize w3.heap.size=vb at *
 have F24:Fm w2 w4 []:=F3.trans F4 (by simp)
 have B4:=B2'.fr F24 (by simp)
 have W4:=W2.fr F24 (by simp)
 have HT4:=HT2.fr F24 (by simp)
 have HP4:=HP3.fr F4 (by simp)
 have Fr4:Fm w w4 [g,nb,tb]:=Fr2.trans F24 (by simp)
 have eN:IntKind.u16.wrap (((N-1:Nat):Int)+1)=((N:Nat):Int):=by rw [wU16 (by omega) (by omega)];omega
 refine joinP_id ?_
 rw [eN]
 refine slc_hi (m:=N) rfl (by show N≤cap-1;omega) ?_
 refine ct_rank W4 HP4 hn2 (fun i hi=>by have:=hD.le i hi;rw [hb1 i hi];omega) dnp ?_
 intro w5 HP5 F5
 unfold q91_J17
 refine joinP_id ?_
 refine ct_vals HP5 (HV4.fr F5 (nm1 dpv.symm)) dpv (by omega) (fun r=>Nat.le_trans (cN_le _ r N) hn2) ?_
 intro w6 HV6 F6
 have F46:Fm w4 w6 [pb,vb]:=(F5.mono (by intro v hv;simp at hv;simp [hv])).trans F6 (by intro v hv;simp at hv;simp [hv])
 have B6:=B4.fr F46 (by simp;exact ⟨dgp,dgv⟩)
 have W6:=W4.fr F46 (by simp;exact ⟨dnp,dnv⟩)
 have HT6:=HT4.fr F46 (by simp;exact ⟨dtp,dtv⟩)
 have Fr6:Fm w w6 [g,nb,tb]:=Fr4.trans F46 (by intro v hv;simp only [List.mem_cons,List.not_mem_nil,or_false] at hv;rcases hv with rfl|rfl<;>exact .inr (by assumption))
 unfold q91_J16
 refine joinP_id ?_
 rw [eN]
 refine slc_hi (m:=N) rfl (by show N≤cap-1;omega) ?_
 refine ct_lens B6 W6 hct HT6 hF hLc hn2 hL hs1 O.lt (fun i hi=>(hz i hi).2) dgt dnt ?_
 intro w7 F7c HT7 hS7 hl7 he7 F7
 have eln:lnS σ (fun i=>(nd1 i).b) N=lnS σ b N:=by
  have:∀n,n≤N→lnS σ (fun i=>(nd1 i).b) n=lnS σ b n:=by
   intro n
   induction n with
   | zero=>intro _;rfl
   | succ n ih=>intro hn;rw [lnS,lnS,ih (by omega),hb1 n (by omega)]
  exact this N (Nat.le_refl _)
 rw [eln] at hl7
 have B7:=B6.fr F7 (nm1 dgt)
 have HV7:=HV6.fr F7 (nm1 dtv.symm)
 have Fr7:Fm w w7 [g,nb,tb]:=Fr6.trans F7 (by intro v hv;simp at hv;simp [hv])
 unfold q91_J15 drw
 simp only [add_mk,Nat.zero_add]
 refine ld_b (t := .S) (x:=⟨some ⟨tb,0,none⟩,L,capt⟩) B7.drew (by show some s.ct.val=_;rw [hct];rfl) ?_
 refine ld_b (t := .I .u16) (x:=((L:Nat):Int)) B7.drew (by show some (Value.int .u16 s.symL)=_;rw [hsy];rfl) ?_
 refine slc_hi (m:=L) rfl hLc ?_
 refine joinP_id ?_
 have hVe:∀r,vR (fun r=>cN (fun i=>(nd1 i).b) r N) M r=vR (fun r=>cN (lnS σ b N) r L) M r:=fun r=>vR_congr (fun r' h1 _=>by rw [cN_congr (g:=b) (fun i hi=>hb1 i hi)];exact nb_of (M:=M) O h1) r
 refine ct_codes (ln:=lnS σ b N) (V:=fun r=>vR (fun r=>cN (fun i=>(nd1 i).b) r N) M r) HT7.drew hS7 hLc hL hl7 (fun i hi=>⟨0,by rw [he7];exact (hz i hi).1⟩) HV7.drew (fun r=>vR_le (fun r'=>Nat.le_trans (cN_le _ _ _) hn2) r) (fun i hi=>Nat.le_trans (hHT.le i hi) (by omega)) dtv ?_
 intro w8 F8c HT8 hS8 hc8 F8
 unfold q91_J14
 have F78:Fm w7 w8 [tb,vb]:=(Fm.refl w7 _).drew.trans F8 (fun x hx => .inl hx)
 have W8:=(W6.fr F7 (nm1 dnt)).fr F78 (by simp;exact ⟨dnt,dnv⟩)
 refine hk w8 M (lnS σ b N) F8c z1 nd1 hHT ⟨b,hMR,rfl⟩ (B7.fr F78 (by simp;exact ⟨dgt,dgv⟩)) HT8 hS8 ?_ W8 (Fr7.trans F78 ?_)
 ·intro i hi
  refine ⟨?_,(hc8 i hi).2⟩
  rw [(hc8 i hi).1]
  unfold vC
  rw [←hVe]
 ·intro v hv
  simp only [List.mem_cons,List.not_mem_nil,or_false] at hv
  rcases hv with rfl|rfl
  ·left;simp
  ·right;assumption
theorem ct_rank0 {R23:Int→PT} {cnt:Nat→Nat} {l:List Nat} (W:NW w nb cap z nd) (S:Srt cnt L l) (hL:L≤256) (hnd:∀i (h:i<l.length),nd i=sn cnt l[i]) (two:∃a b,a≠b∧a<L∧b<L∧0<cnt a∧0<cnt b)
  (hk:∀N,2≤N→Ord cnt L N (fun j=>l.getD j 0)→R23 ((N-1:Nat):Int) w) :
  loopP (((L-1:Nat):Nat):Int) (q91_L1 ⟨some ⟨nb,1,none⟩,512,cap-1⟩ R23) w:=by
 have hlen:=S.len
 obtain ⟨a,b,hab,ha,hb,hca,hcb⟩:=two
 obtain ⟨i1,hi1,e1⟩:=List.mem_iff_getElem.mp ((S.mem a).mpr ha)
 obtain ⟨i2,hi2,e2⟩:=List.mem_iff_getElem.mp ((S.mem b).mpr hb)
 have hi12:i1≠i2:=by intro e;subst e;exact hab (e1.symm.trans e2)
 refine ⟨fun x w'=>w'=w∧∃N:Nat,x=((N-1:Nat):Int)∧1≤N∧N≤L∧∀j (h:j<l.length),N≤j→cnt l[j]=0,fun x _=>x.toNat,⟨rfl,L,rfl,by omega,Nat.le_refl _,fun j h1 h2=>by omega⟩,?_⟩
 rintro x w2 ⟨rfl,N,rfl,hN1,hNL,hz⟩
 unfold q91_L1
 refine ixS_o rfl (by omega) ?_
 refine n123 (i:=N-1) W (by omega) (by omega) ?_
 rw [hnd (N-1) (by omega)]
 have g1:i1<N:=by
  by_cases h:i1<N
  ·exact h
  ·have:=hz i1 hi1 (by omega);rw [e1] at this;omega
 have g2:i2<N:=by
  by_cases h:i2<N
  ·exact h
  ·have:=hz i2 hi2 (by omega);rw [e2] at this;omega
 have hN2:2≤N:=by omega
 refine cnd_d ?_ ?_
 ·intro hc
  have hc0:cnt (l[N-1]'(by omega))=0:=by
   have:(((sn cnt (l[N-1]'(by omega))).c:Nat):Int)=0:=hc
   exact Int.ofNat.inj this
  rw [wU16 (by omega) (by omega)]
  refine ⟨⟨rfl,N-1,by omega,by omega,by omega,?_⟩,by dsimp only;omega⟩
  intro j hj h1
  by_cases e:j=N-1
  ·subst e;exact hc0
  ·exact hz j hj (by omega)
 ·intro hc
  have hc0:0<cnt (l[N-1]'(by omega)):=by
   apply Nat.pos_of_ne_zero
   intro h
   apply hc
   show ((cnt (l[N-1]'(by omega)):Nat):Int)=0
   rw [h];rfl
  refine hk N hN2 (Ord.of S hNL ?_ hz)
  intro j hj h1
  by_cases e:j=N-1
  ·subst e;exact hc0
  ·have:=List.pairwise_iff_getElem.mp S.dec j (N-1) hj (by omega) (by omega)
   omega
end
def LenR (cnt:Nat→Nat) (L n t M:Nat) (ln:Nat→Nat):Prop :=
 ∃(l:List Nat) (N:Nat) (c p D b cn:Nat→Nat) (lo hi tot:Nat),Srt cnt L l∧Ord cnt L N (fun j=>l.getD j 0)∧TrR N L (fun j=>cnt (l.getD j 0)) c p (L+N-1) lo hi∧TreeP N L tot c p∧DepP N L p D∧(∀i,i<N→cn i=cnt (l.getD i 0))∧DepH (D (N-1)) (otl t n L) N D∧MaxR (otl t n L) N cn D M b∧ln=lnS (fun j=>l.getD j 0) b N
section
variable {w:World} {g nb cap L n t l0:Nat} {s:HU} {cnt:Nat→Nat} {Fn:Cells} {K:Value→PT}
theorem c91 (B:Blk w g s.at) (C:SC s cnt L) (hn:s.srcLen=(n:Nat)) (htl:s.tl=(t:Nat)) (ht:t≤11) (hn2:n<4294967296) (two:∃a b,a≠b∧a<L∧b<L∧0<cnt a∧0<cnt b) (hsum:sF cnt 0 L≤n) (h8:sF cnt 0 L<832040)
  (hnod:s.nodes=⟨some ⟨nb,0,none⟩,l0,cap⟩) (hcap:513≤cap) (HN:Blk w nb Fn) (hS:Som cap Fn) (hF:Nds Fn) (dgn:g≠nb) (hO:Own 2 w s.ct) (hg:g∉s.ct.bs) (hnb:nb∉s.ct.bs)
  (hk:∀w' M ln tb capt F' Fn',HT cnt L M ln→LenR cnt L n t M ln→256≤capt→Blk w' g ({ s with atl:=(M:Nat),ct:=⟨some ⟨tb,0,none⟩,L,capt⟩,nodes:=⟨some ⟨nb,0,none⟩,513,cap⟩ } : HU).at→Blk w' tb F'→Som (capt*2) F'→(∀i,i<L→F' (i*2)=some (.int .u16 (vC ln L M i:Nat))∧F' (i*2+1)=some (.int .u8 (ln i:Nat))) →
   Blk w' nb Fn'→Som cap Fn'→Nds Fn'→(tb∈s.ct.bs∨w.heap.size≤tb)→g≠tb→nb≠tb→Fm w w' (g::nb::s.ct.bs)→K .nilIface w') :
  callP Tryd.prog 91 #[.pointer (some ⟨g,0,none⟩)] [.c .V] K w:=by
 have hL:=C.l256
 apply q91_ok
 unfold q91
 have hL2:2≤L:=by
  obtain ⟨a,b,h1,h2,h3,_⟩:=two
  omega
 have hsumge:2≤sF cnt 0 L:=by
  obtain ⟨a,b,h1,h2,h3,h4,h5⟩:=two
  have h6:sF (updN cnt a 0) 0 L+cnt a=sF cnt 0 L+0:=sF_upd (fun x=>x) cnt a 0 L h2
  have h7:=sF_mem (updN cnt a 0) 0 (n:=L) (i:=b) (Nat.zero_le _) (by omega)
  rw [updN_ne (fun e=>h1 e.symm)] at h7
  omega
 refine c121 B hn C.sym htl ht (by omega) hn2 hL2 hL ?_
 intro w1 H h5 h11 hNH hot B1 F1
 have C1:SC ({ s with atl:=(H:Nat) } : HU) cnt L:=⟨C.sym,C.l1,C.l256,C.cn,C.lt⟩
 refine c122 C1 B1 hnod hcap (HN.fr F1 (nm1 dgn.symm)) hS hF dgn ?_
 intro w2 l Fn2 S hF2 hS2 hl2 HN2 B2 F2
 have Fr2:Fm w w2 [g,nb]:=(F1.mono (by intro v hv;simp at hv;simp [hv])).trans F2 (fun x hx => .inl hx)
 have hO2:Own 2 w2 s.ct:=hO.fm Fr2 (by intro x hx;simp;exact ⟨fun e=>hg (e▸hx),fun e=>hnb (e▸hx)⟩)
 have hlen:=S.len
 have hok:∀i (h:i<l.length),(sn cnt l[i]).ok:=by
  intro i h
  have h1:=(S.mem _).mp (List.getElem_mem h)
  have h2:=C.lt _ h1
  exact ⟨by show cnt _<2^32;omega,by show 0<2^16;omega,by show l[i]<2^8;omega,by show 0<2^8;omega⟩
 refine joinP_id ?_
 refine ct_table B2 C.sym hL hO2 hg ?_
 intro w3 tb capt F3 hc3 B3 HT3 hS3 hz3 htb dgt Fr3
 have hnl:=HN2.lt
 have dnt:nb≠tb:=by
  rcases htb with h|h
  ·exact fun e=>hnb (e▸h)
  ·omega
 have HN3:=HN2.fr Fr3 (by
  intro h
  rcases List.mem_cons.mp h with h|h
  ·exact dgn h.symm
  ·exact hnb h)
 have Fr03:Fm w w3 (g::nb::s.ct.bs):=(Fr2.mono (S':=g::nb::s.ct.bs) (by intro v hv;simp at hv;rcases hv with rfl|rfl<;>simp)).trans Fr3 (by
  intro v hv
  rcases List.mem_cons.mp hv with h|h
  ·left;simp [h]
  ·left;simp [h])
 have hsz:=Fr2.size
 have htb0:tb∈s.ct.bs∨w.heap.size≤tb:=by
  rcases htb with h|h
  ·exact .inl h
  ·exact .inr (by omega)
 obtain ⟨z,nd,W3,hnd⟩:=NW.of (L:=L) HN3 hS2 hF2 hl2 hok (by omega)
 unfold q91_J23
 simp only [add_mk,Nat.zero_add]
 refine ld_b (t := .I .u16) (x:=((L:Nat):Int)) B3 (by show some (Value.int .u16 s.symL)=_;rw [C.sym];rfl) ?_
 refine ld_b (t := .I .u16) (x:=((L:Nat):Int)) B3 (by show some (Value.int .u16 s.symL)=_;rw [C.sym];rfl) ?_
 refine ld_b (t := .S) (x:=⟨some ⟨nb,0,none⟩,513,cap⟩) B3 rfl ?_
 refine slc_lh (n:=1) (m:=513) rfl rfl (by omega) hcap ?_
 have e4:(⟨slA (some ⟨nb,0,none⟩) 1 cap 1,513-1,cap-1⟩:Sl)=⟨some ⟨nb,1,none⟩,512,cap-1⟩:=by
  unfold slA
  rw [if_neg (by omega)]
  simp [add_mk]
 simp only [e4]
 refine ld_b (t := .S) (x:=⟨some ⟨nb,0,none⟩,513,cap⟩) B3 rfl ?_
 refine slc_lh (n:=0) (m:=513) rfl rfl (by omega) hcap ?_
 have e5:(⟨slA (some ⟨nb,0,none⟩) 0 cap 1,513-0,cap-0⟩:Sl)=⟨some ⟨nb,0,none⟩,513,cap⟩:=by
  unfold slA
  rw [if_neg (by omega)]
  simp [add_mk]
 simp only [e5]
 refine joinP_id ?_
 rw [wU16 (x:=((L:Nat):Int)-1) (by omega) (by omega),show ((L:Nat):Int)-1=((L-1:Nat):Int) by omega]
 refine ct_rank0 W3 S hL hnd two ?_
 intro N hN2 O
 have hNL:=O.nl
 have hg0:∀j (h:j<l.length),l.getD j 0=l[j]:=fun j h=>by rw [List.getD_eq_getElem?_getD,List.getElem?_eq_getElem h];rfl
 have hos:=O.sum
 refine tree_start (c0:=fun j=>cnt (l.getD j 0)) (σ:=fun j=>l.getD j 0) W3 hL (by rw [hos];exact h8) hN2 hNL ?_ ?_ (fun i j h1 h2=>O.dec i j h1 h2) ?_
 ·intro i hi;rw [hnd i (by omega),hg0 i (by omega)];rfl
 ·intro i hi;rw [hnd i (by omega),hg0 i (by omega)];rfl
 intro w4 z4 nd4 W4 T4 F4
 refine tree_depth W4 hL T4 ?_
 intro w5 nd5 W5 T5 F5
 have Fr35:Fm w3 w5 [nb]:=F4.trans F5 (fun x hx => .inl hx)
 have hNn:=O.len
 have hN2H:N≤2^H:=by rcases hNH with h|h<;>omega
 have P:=T5.depH hL hN2H h5 h11 O.pos (by rw [hos];exact h8)
 refine ct_end (σ:=fun j=>l.getD j 0) (B3.fr Fr35 (nm1 dgn)) C.sym hL rfl rfl hcap rfl W5 P O T5.sy (HT3.fr Fr35 (nm1 dnt.symm)) hS3 (by omega) hz3 dgn dgt dnt ?_
 intro w6 M ln F6 z6 nd6 hHT ⟨b6,hMR,hln⟩ B6 HT6 hS6 hc6 W6 Fr6
 obtain ⟨Fn6,HN6,hSn6,hF6⟩:=W6.nds
 obtain ⟨c6,p6,⟨lo6,hi6,hTr6⟩,hT6,hE6,_,_⟩:=T5.ex
 refine hk w6 M ln tb capt F6 Fn6 hHT ⟨l,N,c6,p6,fun i=>(nd5 i).b,b6,fun i=>(nd5 i).c,lo6,hi6,_,S,O,hTr6,hT6,hE6,T5.cn,by rw [←hot];exact P,by rw [←hot];exact hMR,hln⟩ hc3 (B6.congr rfl) HT6 hS6 hc6 HN6 hSn6 hF6 htb0 dgt dnt ((Fr03.trans Fr35 (by intro v hv;simp at hv;simp [hv])).trans Fr6 ?_)
 intro v hv
 simp only [List.mem_cons,List.not_mem_nil,or_false] at hv
 rcases hv with rfl|rfl|rfl
 ·left;simp
 ·left;simp
 ·rcases htb0 with h|h
  ·left;simp [h]
  ·exact .inr h
end
def U8A (w:World) (s:Sl):Prop:=∀a,s.a=some a→∀i,i<s.c→∃x:Int,w.cell? ⟨a.block,i,none⟩=some (.int .u8 x)
structure VecU (w:World) (s:Sl) (l:List Nat):Prop where
 vec:Vec 1 w s (bytes .u8 l)
 u8:U8A w s
 c63:s.c<2^63
theorem bytes_len (k:IntKind) (l:List Nat):(bytes k l).length=l.length:=by unfold bytes;rw [List.length_map]
theorem VecU.len {w:World} {s:Sl} {l:List Nat} (h:VecU w s l):s.l=l.length:=by
 have:=h.vec.len
 rw [bytes_len] at this;omega
theorem VecU.lt {w:World} {s:Sl} {l:List Nat} (h:VecU w s l):∀b∈s.bs,b<w.heap.size:=h.vec.lt
theorem U8A.fr {w w':World} {s:Sl} {S:List Nat} (h:U8A w s) (F:Fm w w' S) (hS:∀b∈s.bs,b∉S):U8A w' s:=by
 intro a ha i hi
 obtain ⟨x,hx⟩:=h a ha i hi
 have hl:=World.block_lt_of_cell? _ _ hx
 exact ⟨x,by rw [←hx];exact cell?_of_heap (F.old a.block hl (hS _ (by unfold Sl.bs;rw [ha];simp))) _ _⟩
theorem VecU.fr {w w':World} {s:Sl} {l:List Nat} {S:List Nat} (h:VecU w s l) (F:Fm w w' S) (hS:∀b∈s.bs,b∉S):VecU w' s l:=⟨h.vec.fr F hS,h.u8.fr F hS,h.c63⟩
def Held (w:World) (a0:Option Addr) (pre:List Nat):Prop:=∀a,a0=some a→∀i (h:i<pre.length),w.cell? ⟨a.block,i,none⟩=some (.int .u8 (pre[i]:Nat))
theorem VecU.held {w:World} {s:Sl} {l:List Nat} (h:VecU w s l):Held w s.a l:=by
 intro a ha i hi
 obtain ⟨h1,h2,f,h3,h4,h5⟩:=h.vec.blk a ha
 rw [h3.cell,h4 i (by rw [bytes_len];exact hi)]
 unfold bytes
 rw [List.getElem?_map,List.getElem?_eq_getElem hi];rfl
theorem Held.pre {w:World} {a0:Option Addr} {l m:List Nat} (h:Held w a0 (l++m)):Held w a0 l:=by
 intro a ha i hi
 rw [h a ha i (by rw [List.length_append];omega),List.getElem_append_left hi]
theorem Held.fr {w w':World} {a0:Option Addr} {pre:List Nat} {S:List Nat} (h:Held w a0 pre) (F:Fm w w' S) (hS:∀a,a0=some a→a.block∉S):Held w' a0 pre:=by
 intro a ha i hi
 have h1:=h a ha i hi
 have h2:=World.block_lt_of_cell? _ _ h1
 rw [←h1]
 exact cell?_of_heap (F.old a.block h2 (hS a ha)) _ _
theorem Held.vec {w w':World} {a0:Option Addr} {pre l':List Nat} {S:List Nat} {s':Sl} (h:Held w a0 pre) (H':VecU w' s' (pre++l')) (F:Fm w w' S) (hS:∀a,a0=some a→a.block∈S→a.block∈s'.bs):Held w' a0 pre:=by
 intro a ha i hi
 have h1:=h a ha i hi
 have h2:=World.block_lt_of_cell? _ _ h1
 by_cases hm:a.block∈S
 ·have h3:=hS a ha hm
  unfold Sl.bs at h3
  split at h3
  ·rename_i b hb
   simp at h3
   rw [h3]
   exact H'.held.pre b hb i hi
  ·simp at h3
 ·rw [←h1]
  exact cell?_of_heap (F.old a.block h2 hm) _ _
theorem app_vuF {T:TypeId} {s x:Sl} {κ:Sl→PT} {w:World} {l xs:List Nat} (h:VecU w s l) (hx:Has 1 w x (bytes .u8 xs)) (hb:s.l+x.l≤2^46)
  (hk:∀s' w',VecU w' s' (l++xs)→Fm w w' s'.bs→Fm w w' s.bs→(∀b∈s'.bs,b∈s.bs∨w.heap.size≤b)→κ s' w'):app z5 T 1 s x κ w:=by
 have hxl:xs.length=x.l:=by have:=hx.len;rw [bytes_len] at this;omega
 have hll:=h.len
 refine ⟨by rw [Nat.mul_one];exact hb,?_,?_⟩
 ·intro hc
  refine ⟨bytes .u8 xs,hx.len,hx.get,hx.non,hx.one,?_⟩
  cases ha:s.a with
  | some a =>
   obtain ⟨h1,h2,f,h3,h4,h5⟩:=h.vec.blk a ha
   have hu:=h.u8 a ha
   obtain ⟨ab,ao,asp⟩:=a
   simp only at h1 h2 h3 hu
   subst h1 h2
   simp only [add_mk,Nat.zero_add]
   have e1:s.l*z5.length=s.l:=by show s.l*1=s.l;omega
   rw [e1]
   have hbl:=bytes_len .u8 xs
   refine ⟨?_,?_⟩
   ·intro i hi
    exact canSt_b h3 (h5 _ (by omega))
   ·have h6:=h3.setL (o:=s.l) (xs:=bytes .u8 xs) (fun i hi=>h5 _ (by omega))
    refine hk _ _ ⟨⟨?_,?_,?_,?_⟩,?_,h.c63⟩ ?_ ?_ ?_
    ·rw [bytes_len,List.length_append];simp only;omega
    ·exact hc
    ·intro h;cases h
    ·intro a ha'
     injection ha' with ha'
     subst ha'
     refine ⟨rfl,rfl,_,h6,?_,?_⟩
     ·intro i hi
      rw [bytes_len,List.length_append] at hi
      have e:bytes .u8 (l++xs)=bytes .u8 l++bytes .u8 xs:=by simp [bytes]
      have hl1:=bytes_len .u8 l
      unfold updL
      rw [e]
      by_cases hi2:s.l≤i
      ·rw [if_pos (by omega),List.getElem?_append_right (by omega),hl1,hll]
      ·rw [if_neg (by omega),h4 i (by omega),List.getElem?_append_left (by omega)]
     ·intro i hi
      unfold updL
      split
      ·rename_i hh
       rw [List.getElem?_eq_getElem (by omega)];rfl
      ·exact h5 i hi
    ·intro a ha' i hi
     injection ha' with ha'
     subst ha'
     show ∃x:Int,_
     rw [h6.cell]
     unfold updL
     split
     ·rename_i hh
      refine ⟨(xs[i-s.l]'(by omega):Nat),?_⟩
      unfold bytes
      rw [List.getElem?_map,List.getElem?_eq_getElem (by omega)]
      rfl
     ·obtain ⟨y,hy⟩:=hu i hi
      rw [h3.cell] at hy
      exact ⟨y,hy⟩
    ·exact (Fm.refl w _).setL (.inl (by simp [Sl.bs]))
    ·exact (Fm.refl w _).setL (.inl (by unfold Sl.bs;rw [ha];simp))
    ·intro b hb'
     left
     unfold Sl.bs at hb' ⊢
     rw [ha]
     exact hb'
  | none =>
   have h0:=h.vec.non ha
   have h01:=h.vec.cap
   have hx0:x.l=0:=by omega
   have hs0:s.l=0:=by omega
   have hxs:xs = []:=List.length_eq_zero_iff.mp (by omega)
   have hl:l = []:=List.length_eq_zero_iff.mp (by omega)
   subst hxs hl
   refine hk _ _ ⟨⟨?_,?_,?_,?_⟩,?_,h.c63⟩ (Fm.refl w _) (Fm.refl w _) ?_
   ·simp [hx0,hs0,bytes]
   ·exact hc
   ·intro _;exact h0
   ·intro a ha';cases ha'
   ·intro a ha';cases ha'
   ·intro b hb';unfold Sl.bs at hb';simp at hb'
 ·intro hc
  have e0:∀n:Nat,n*z5.length=n:=fun n=>by show n*1=n;omega
  refine ⟨bytes .u8 l,bytes .u8 xs,h.vec.len,?_,?_,hx.len,hx.get,hx.non,?_⟩
  ·intro b hb' i hi
   obtain ⟨h1,h2,f,h3,h4,h5⟩:=h.vec.blk b hb'
   obtain ⟨ab,ao,asp⟩:=b
   simp only at h1 h2 h3
   subst h1 h2
   rw [add_mk,Nat.zero_add,h3.cell,h4 i hi]
  ·intro ha
   have h0:=h.vec.non ha
   have h01:=h.vec.cap
   have:l = []:=List.length_eq_zero_iff.mp (by omega)
   subst this;rfl
  ·intro c hc1 hc2
   have hl1:=bytes_len .u8 l
   have hl2:=bytes_len .u8 xs
   have B:Blk (w.drew.alloc (.cells ((bytes .u8 l).toArray++(bytes .u8 xs).toArray++zrep z5 (c-(s.l+x.l))) T)) w.drew.heap.size fun i=>((bytes .u8 l).toArray++(bytes .u8 xs).toArray++zrep z5 (c-(s.l+x.l)))[i]? := Blk.new
   have hcell:∀i,i<c→∃y:Int,((bytes .u8 l).toArray++(bytes .u8 xs).toArray++zrep z5 (c-(s.l+x.l)))[i]? = some (.int .u8 y):=by
    intro i hi
    by_cases h1:i<s.l
    ·rw [Array.getElem?_append_left (by simp only [Array.size_append,List.size_toArray];omega),Array.getElem?_append_left (by simp only [List.size_toArray];omega)]
     refine ⟨(l[i]'(by omega):Nat),?_⟩
     unfold bytes
     rw [List.getElem?_toArray,List.getElem?_map,List.getElem?_eq_getElem (by omega)];rfl
    ·by_cases h2:i<s.l+x.l
     ·rw [Array.getElem?_append_left (by simp only [Array.size_append,List.size_toArray];omega),Array.getElem?_append_right (by simp only [List.size_toArray];omega)]
      refine ⟨(xs[i-s.l]'(by omega):Nat),?_⟩
      rw [List.getElem?_toArray,List.size_toArray,hl1]
      unfold bytes
      rw [List.getElem?_map, ←hll,List.getElem?_eq_getElem (by omega)];rfl
     ·rw [Array.getElem?_append_right (by simp only [Array.size_append,List.size_toArray];omega)]
      refine ⟨0,?_⟩
      show (zrep [.int .u8 0] (c-(s.l+x.l)))[_]? = _
      rw [zrep1,if_pos (by simp only [Array.size_append,List.size_toArray];omega)]
   refine hk _ _ ⟨⟨?_,hc1,?_,?_⟩,?_,hc2⟩ (Fm.refl w _).drew.alloc ?_ ?_
   ·rw [bytes_len,List.length_append];simp only;omega
   ·intro h;cases h
   ·intro a ha'
    injection ha' with ha'
    subst ha'
    refine ⟨rfl,rfl,_,B,?_,?_⟩
    ·intro i hi
     rw [bytes_len,List.length_append] at hi
     have e:bytes .u8 (l++xs)=bytes .u8 l++bytes .u8 xs:=by simp [bytes]
     rw [Array.getElem?_append_left (by simp only [Array.size_append,List.size_toArray];omega),e]
     rw [←Array.getElem?_toList];simp
    ·intro i hi
     simp only at hi
     obtain ⟨y,hy⟩:=hcell i (by omega)
     rw [hy];rfl
   ·intro a ha' i hi
    injection ha' with ha'
    subst ha'
    obtain ⟨y,hy⟩:=hcell i hi
    exact ⟨y,by rw [←hy];exact B.cell i⟩
   ·exact (Fm.refl w _).drew.alloc
   ·intro b hb'
    right
    unfold Sl.bs at hb'
    simp at hb'
    subst hb'
    exact Nat.le_refl _
theorem app_vu {T:TypeId} {s x:Sl} {κ:Sl→PT} {w:World} {l xs:List Nat} (h:VecU w s l) (hx:Has 1 w x (bytes .u8 xs)) (hb:s.l+x.l≤2^46)
  (hk:∀s' w',VecU w' s' (l++xs)→Fm w w' s.bs→(∀b∈s'.bs,b∈s.bs∨w.heap.size≤b)→κ s' w'):app z5 T 1 s x κ w :=
 app_vuF h hx hb (fun s' w' h1 _ h2 h3=>hk s' w' h1 h2 h3)
theorem app_1uF {T T':TypeId} {s:Sl} {κ:Sl→PT} {w:World} {l:List Nat} {v:Nat} (h:VecU w s l) (hb:s.l+1≤2^46)
  (hk:∀s' w',VecU w' s' (l ++ [v])→Fm w w' s'.bs→Fm w w' s.bs→(∀b∈s'.bs,b∈s.bs∨w.heap.size≤b)→κ s' w'):nw [.int .u8 (v:Nat)] T' (fun p=>app z5 T 1 s ⟨some p,1,1⟩ κ) w:=by
 have h0:Fm w (w.alloc (.cells ⟨[.int .u8 (v:Nat)]⟩ T')) []:=(Fm.refl w []).alloc
 refine app_vuF (xs := [v]) (h.fr h0 (by simp)) ⟨rfl,?_,(fun h=>by cases h),by simp [bytes,one]⟩ hb ?_
 ·intro b hb' i hi
  injection hb' with hb'
  subst hb'
  have hi:i=0:=by simpa [bytes] using hi
  subst hi
  simp [add_mk,bytes]
 ·intro s' w' h1 h1' h2 h3
  refine hk s' w' h1 ((h0.mono (S':=s'.bs) (by simp)).trans h1' (fun b hb => .inl hb)) ((h0.mono (S':=s.bs) (by simp)).trans h2 (fun b hb => .inl hb)) ?_
  intro b hb'
  rcases h3 b hb' with h4|h4
  ·exact .inl h4
  ·right;rw [World.size_alloc] at h4;omega
theorem app_1u {T T':TypeId} {s:Sl} {κ:Sl→PT} {w:World} {l:List Nat} {v:Nat} (h:VecU w s l) (hb:s.l+1≤2^46)
  (hk:∀s' w',VecU w' s' (l ++ [v])→Fm w w' s.bs→(∀b∈s'.bs,b∈s.bs∨w.heap.size≤b)→κ s' w'):nw [.int .u8 (v:Nat)] T' (fun p=>app z5 T 1 s ⟨some p,1,1⟩ κ) w:=by
 have h0:Fm w (w.alloc (.cells ⟨[.int .u8 (v:Nat)]⟩ T')) []:=(Fm.refl w []).alloc
 refine app_vu (xs := [v]) (h.fr h0 (by simp)) ⟨rfl,?_,(fun h=>by cases h),by simp [bytes,one]⟩ hb ?_
 ·intro b hb' i hi
  injection hb' with hb'
  subst hb'
  have hi:i=0:=by simpa [bytes] using hi
  subst hi
  simp [add_mk,bytes]
 ·intro s' w' h1 h2 h3
  refine hk s' w' h1 ((h0.mono (S':=s.bs) (by simp)).trans h2 (fun b hb => .inl hb)) ?_
  intro b hb'
  rcases h3 b hb' with h4|h4
  ·exact .inl h4
  ·right;rw [World.size_alloc] at h4;omega
def b2w (M r:Nat):Nat:=if r=0∨M<r then 0 else M+1-r
theorem b2w_le (M r:Nat):b2w M r≤M:=by unfold b2w;split<;>omega
def wtF (M:Nat) (ln:Nat→Nat) (n:Nat):Nat:=b2w M (ln n)
def wtL (M:Nat) (ln:Nat→Nat) (L:Nat):List Nat:=(List.range (L-1)).map (wtF M ln)
theorem cN_count (f:Nat→Nat) (s:Nat):∀n,cN f s n=((List.range n).map f).count s
 | 0=>rfl
 | n+1=>by
  rw [cN,cN_count f s n,List.range_succ,List.map_append,List.count_append]
  simp [List.count_cons,List.count_nil]
section
variable {w:World} {g fb pb tb L M:Nat} {s:HU} {fs:FS} {ln:Nat→Nat}
theorem wr_b2w {R11:Unit→PT} (HP:Blk w pb (arrC .u8 12 fun _=>0)) (hM:M≤11) (hk:∀w',Blk w' pb (arrC .u8 12 fun r=>((b2w M r:Nat):Int))→Fm w w' [pb]→R11 () w') :
  loopP (1:Int) (q65_L0 ⟨pb,0,none⟩ (M:Int) R11) w:=by
 refine ⟨fun x w'=>∃n:Nat,x=(n:Int)∧1≤n∧n≤M+1∧Blk w' pb (arrC .u8 12 fun r=>((if r<n then b2w M r else 0:Nat):Int))∧Fm w w' [pb],fun x _=>20-x.toNat,⟨1,rfl,by omega,by omega,HP.congr ?_,Fm.refl _ _⟩,?_⟩
 ·congr 1
  funext r
  split
  ·have:r=0:=by omega
   subst this;rfl
  ·rfl
 rintro x w2 ⟨n,rfl,h1,h2,HP2,Fr2⟩
 unfold q65_L0
 rw [wU8 (x:=(M:Int)+1) (by omega) (by omega)]
 refine cnd_d ?_ ?_
 ·intro hc
  refine ixA_o rfl (by omega) ?_
  rw [Nat.zero_add]
  refine st_u HP2 (by rw [arrC_get (by omega)];rfl) rfl ?_
  intro w3 HP3 F3
  rw [wU8 (by omega) (by omega),arrC_upd (by omega)] at HP3
  rw [wU8 (by omega) (by omega)]
  refine ⟨⟨n+1,by simp,by omega,by omega,HP3.congr ?_,Fr2.trans F3 (fun x hx => .inl hx)⟩,by dsimp only;omega⟩
  congr 1
  funext r
  unfold updF
  by_cases e:r=n
  ·subst e
   rw [if_pos rfl,if_pos (by omega)]
   unfold b2w
   rw [if_neg (by omega)];omega
  ·rw [if_neg e]
   show (((if r<n then b2w M r else 0):Nat):Int)=_
   by_cases e2:r<n
   ·rw [if_pos e2,if_pos (by omega)]
   ·rw [if_neg e2,if_neg (by omega)]
 ·intro hc
  have hn:n=M+1:=by omega
  subst hn
  refine hk w2 (HP2.congr ?_) Fr2
  congr 1
  funext r
  split
  ·rfl
  ·unfold b2w;rw [if_pos (.inr (by omega))]
theorem wr_clear {R20:Unit→PT} (HB:Blk w fb fs.at) (hk:∀w' c',(∀i,i<16→c' i=0)→Blk w' fb ({ fs with count:=c' } : FS).at→Fm w w' [fb]→R20 () w') :
  loopP (0:Int) (q65_L1 ⟨some ⟨fb,0,none⟩,256,256⟩ R20 ⟨some ⟨fb,0,none⟩,16,256⟩) w:=by
 refine ⟨fun x w'=>∃(n:Nat) (c':Nat→Int),x=(n:Int)∧n≤16∧(∀i,i<n→c' i=0)∧Blk w' fb ({ fs with count:=c' } : FS).at∧Fm w w' [fb],fun x _=>20-x.toNat,⟨0,fs.count,rfl,by omega,fun i hi=>absurd hi (Nat.not_lt_zero _),HB,Fm.refl _ _⟩,?_⟩
 rintro x w2 ⟨n,c2,rfl,h1,hc2,HB2,Fr2⟩
 unfold q65_L1
 refine cnd_d ?_ ?_
 ·intro hc
  have hn:n<16:=by simp only at hc;omega
  refine ixS_o rfl (by omega) ?_
  rw [Nat.zero_add]
  refine st_u HB2 (by rw [FS.count_at _ (by omega)];rfl) rfl ?_
  intro w3 HB3 F3
  rw [FS.setC (by omega)] at HB3
  rw [wI64 (by omega) (by omega)]
  refine ⟨⟨n+1,_,by simp,hn,?_,HB3,Fr2.trans F3 (fun x hx => .inl hx)⟩,by dsimp only;omega⟩
  intro i hi
  show updF c2 n 0 i=0
  unfold updF
  split
  ·rfl
  ·exact hc2 i (by omega)
 ·intro hc
  have hn:n=16:=by simp only at hc;omega
  subst hn
  exact hk w2 c2 hc2 HB2 Fr2
theorem wr_wts {R26:Unit→PT} {capt:Nat} {F:Cells} (HP:Blk w pb (arrC .u8 12 fun r=>((b2w M r:Nat):Int))) (B:Blk w g s.at) (HB:Blk w fb fs.at) (hz:∀i,i<16→fs.count i=0) (HT:Blk w tb F) (hF:∀i,i<L→F (i*2+1)=some (.int .u8 (ln i:Nat))) (hL2:2≤L) (hL:L≤256) (hM:M≤11) (hln:∀i,i<L→ln i≤M)
  (d1:g≠pb) (d2:g≠fb) (d3:g≠tb) (d4:pb≠fb) (d5:tb≠fb)
  (hk:∀(w':World) (c' hw':Nat→Int),(∀i,i<16→c' i=(cN (wtF M ln) i (L-1):Nat))→(∀n,n<L-1→hw' n=(wtF M ln n:Nat))→Blk w' fb ({ fs with count:=c' } : FS).at→Blk w' g ({ s with hw:=hw' } : HU).at→Fm w w' [g,fb]→R26 () w') :
  loopP (0:Int) (q65_L2 ⟨some ⟨tb,0,none⟩,L,capt⟩ ⟨pb,0,none⟩ (L:Int) ⟨some ⟨g,279,none⟩,256,256⟩ ⟨some ⟨fb,0,none⟩,256,256⟩ R26) w:=by
 refine ⟨fun x w'=>∃(n:Nat) (c' hw':Nat→Int),x=(n:Int)∧n≤L-1∧(∀i,i<16→c' i=(cN (wtF M ln) i n:Nat))∧(∀k,k<n→hw' k=(wtF M ln k:Nat))∧Blk w' fb ({ fs with count:=c' } : FS).at∧Blk w' g ({ s with hw:=hw' } : HU).at∧Fm w w' [g,fb],fun x _=>300-x.toNat,
  ⟨0,fs.count,s.hw,rfl,by omega,fun i hi=>by rw [hz i hi];rfl,fun k hk=>absurd hk (Nat.not_lt_zero _),HB,B,Fm.refl _ _⟩,?_⟩
 rintro x w2 ⟨n,c2,hw2,rfl,h1,hc2,hh2,HB2,B2,Fr2⟩
 unfold q65_L2
 rw [wU16 (x:=(L:Int)-1) (by omega) (by omega),wU8 (x:=(L:Int)-1) (by omega) (by omega)]
 refine cnd_d ?_ ?_
 ·intro hc
  have hn:n<L-1:=by omega
  have hl:=hln n (by omega)
  have hwle:wtF M ln n≤11:=Nat.le_trans (b2w_le _ _) hM
  have HT2:=HT.fr Fr2 (by simp;exact ⟨d3.symm,d5⟩)
  have HP2:=HP.fr Fr2 (by simp;exact ⟨d1.symm,d4⟩)
  have ea:andI .u8 ((wtF M ln n:Nat):Int) 15=((wtF M ln n:Nat):Int):=by
   have:=andI_nat (k := .u8) rfl (wtF M ln n) 15 (by simp only [IntKind.bits];omega) (by decide)
   rw [show (15:Int)=((15:Nat):Int) from rfl,this]
   congr 1
   have:=Nat.and_two_pow_sub_one_eq_mod (wtF M ln n) 4
   rw [show 2^4-1=15 from rfl] at this
   rw [this,Nat.mod_eq_of_lt (by omega)]
  refine ixS_2 rfl (by omega) ?_
  simp only [add_mk]
  refine ld_b (t := .I .u8) (x:=((ln n:Nat):Int)) HT2 (hF n (by omega)) ?_
  refine ixA_o rfl (by omega) ?_
  rw [Nat.zero_add]
  refine ld_b (t := .I .u8) (x:=((wtF M ln n:Nat):Int)) HP2 (arrC_get (by omega)) ?_
  rw [ea]
  refine ixS_o rfl (by omega) ?_
  refine st_u B2 (by rw [HU.hw_at _ (by omega)];rfl) rfl ?_
  intro w3 B3 F3
  rw [HU.setW (by omega)] at B3
  have HB3:=HB2.fr F3 (nm1 d2.symm)
  have hcn:=cN_le (wtF M ln) (wtF M ln n) n
  refine ixS_o rfl (by omega) ?_
  rw [Nat.zero_add]
  refine ld_b (t := .I .u32) (x:=((cN (wtF M ln) (wtF M ln n) n:Nat):Int)) HB3 (by rw [FS.count_at _ (by omega)];show some (Value.int .u32 (c2 _))=_;rw [hc2 _ (by omega)];rfl) ?_
  refine ixS_o rfl (by omega) ?_
  rw [Nat.zero_add]
  refine st_u HB3 (by rw [FS.count_at _ (by omega)];rfl) rfl ?_
  intro w4 HB4 F4
  rw [wU32 (by omega) (by omega),FS.setC (by omega)] at HB4
  rw [wU8 (by omega) (by omega)]
  refine ⟨⟨n+1,_,_,by simp,hn,?_,?_,HB4,B3.fr F4 (nm1 d2),(Fr2.trans F3 (by intro v hv;simp at hv;simp [hv])).trans F4 (by intro v hv;simp at hv;simp [hv])⟩,by omega⟩
  ·intro i hi
   show updF c2 (wtF M ln n) _ i=_
   unfold updF
   rw [cN]
   by_cases e:i=wtF M ln n
   ·subst e;rw [if_pos rfl,if_pos rfl];omega
   ·rw [if_neg e,if_neg (fun h=>e h.symm),hc2 i hi];omega
  ·intro k hk2
   show updF hw2 n _ k=_
   unfold updF
   by_cases e:k=n
   ·subst e;rw [if_pos rfl]
   ·rw [if_neg e];exact hh2 k (by omega)
 ·intro hc
  have hn:n=L-1:=by omega
  subst hn
  exact hk w2 c2 hw2 hc2 hh2 HB2 B2 Fr2
theorem wr_max {R39:Int×Int→PT} {c:Nat→Nat} (HB:Blk w fb fs.at) (hc:∀i,i<16→fs.count i=(c i:Nat)) (hlt:∀i,c i<4294967296) (hex:∃i,i<16∧c i≠0)
  (hk:∀m h,h<16→c h≠0→(∀i,i<16→h<i→c i=0)→(∀i,i<16→c i≤m)→(∃i,i<16∧c i=m)→R39 (((m:Nat):Int),((h:Nat):Int)) w) :
  loopP ((0:Int),(0:Int),(0:Int)) (q65_L4 R39 ⟨some ⟨fb,0,none⟩,16,256⟩) w:=by
 refine ⟨fun x w'=>w'=w∧∃(m h n:Nat),x=((m:Int),(h:Int),(n:Int))∧n≤16∧(∀i,i<n→c i≤m)∧(((∀i,i<n→c i=0)∧m=0)∨(h<n∧c h≠0∧(∀i,i<n→h<i→c i=0)∧∃i,i<n∧c i=m)),fun x _=>20-x.2.2.toNat,⟨rfl,0,0,0,rfl,by omega,fun i hi=>absurd hi (Nat.not_lt_zero _),.inl ⟨fun i hi=>absurd hi (Nat.not_lt_zero _),rfl⟩⟩,?_⟩
 rintro x w2 ⟨rfl,m,h,n,rfl,hn,hm,hh⟩
 unfold q65_L4
 simp only
 refine cnd_d ?_ ?_
 ·intro hcn
  have hn2:n<16:=by omega
  have hl:=hlt n
  unfold q65_J3
  refine joinP_id ?_
  simp only
  rw [wI64 (by omega) (by omega)]
  refine ixS_o rfl hn2 ?_
  rw [Nat.zero_add]
  refine ld_b (t := .I .u32) (x:=((c n:Nat):Int)) HB (by rw [FS.count_at _ (by omega),hc n hn2];rfl) ?_
  refine cnd_d ?_ ?_
  ·intro h0
   have h0':c n=0:=by omega
   refine ⟨⟨rfl,m,h,n+1,by simp,hn2,?_,?_⟩,by omega⟩
   ·intro i hi
    by_cases e:i=n
    ·subst e;omega
    ·exact hm i (by omega)
   ·rcases hh with ⟨h1,h2⟩|⟨h1,h2,h3,i,h4,h5⟩
    ·left
     refine ⟨fun i hi => ?_,h2⟩
     by_cases e:i=n
     ·subst e;exact h0'
     ·exact h1 i (by omega)
    ·right
     refine ⟨by omega,h2,fun i hi hi2 => ?_,i,by omega,h5⟩
     by_cases e:i=n
     ·subst e;exact h0'
     ·exact h3 i (by omega) hi2
  ·intro h0
   have h0':c n≠0:=by omega
   rw [wU8 (x:=(n:Int)) (by omega) (by omega)]
   refine cnd_d ?_ ?_
   ·intro h1
    refine ⟨⟨rfl,c n,n,n+1,by simp,hn2,?_,.inr ⟨by omega,h0',fun i hi hi2=>by omega,n,by omega,rfl⟩⟩,by omega⟩
    intro i hi
    by_cases e:i=n
    ·subst e;omega
    ·have:=hm i (by omega);omega
   ·intro h1
    refine ⟨⟨rfl,m,n,n+1,by simp,hn2,?_,.inr ⟨by omega,h0',fun i hi hi2=>by omega,?_⟩⟩,by omega⟩
    ·intro i hi
     by_cases e:i=n
     ·subst e;omega
     ·exact hm i (by omega)
    ·rcases hh with ⟨h2,h3⟩|⟨_,_,_,i,h4,h5⟩
     ·omega
     ·exact ⟨i,by omega,h5⟩
 ·intro hcn
  have hn2:n=16:=by omega
  subst hn2
  rcases hh with ⟨h1,h2⟩|⟨h1,h2,h3,h4⟩
  ·obtain ⟨i,hi,hi2⟩:=hex
   exact absurd (h1 i hi) hi2
  ·exact hk m h h1 h2 h3 hm h4
end
def padW (W:Nat→Nat) (L n:Nat):Nat:=if n<L-1 then W n else 0
def rawB (W:Nat→Nat) (L j:Nat):Nat:=16*padW W L (2*j)+padW W L (2*j+1)
def rawT (W:Nat→Nat) (L:Nat):List Nat:=(126+L)::(List.range (L/2)).map (rawB W L)
theorem rawT_ok {W:Nat→Nat} {L:Nat} (h2:2≤L) (hW:∀n,W n≤15):weightsZ (rawT W L)=some ((List.range (L-1)).map W,(rawT W L).length):=by
 have hlen:(rawT W L).length=1+L/2:=by unfold rawT;simp;omega
 unfold weightsZ
 show (if 128≤126+L then if (rawT W L).length<1+(126+L-127+1)/2 then none else some ((List.range (126+L-127)).map (rawZ (rawT W L)),1+(126+L-127+1)/2) else _)=_
 rw [if_pos (by omega),hlen,if_neg (by omega),show 126+L-127=L-1 by omega,show (L-1+1)/2=L/2 by congr 1;omega]
 congr 2
 apply List.map_congr_left
 intro i hi
 have hi2:=List.mem_range.mp hi
 have hg:(rawT W L).getD (1+i/2) 0=rawB W L (i/2):=by
  unfold rawT
  rw [show 1+i/2=i/2+1 by omega,List.getD_cons_succ,List.getD_eq_getElem?_getD,List.getElem?_eq_getElem (by simp;omega)]
  simp
 unfold rawZ
 rw [hg]
 unfold rawB padW
 have h1:=hW (2*(i/2))
 have h3:=hW (2*(i/2)+1)
 split
 ·have e:2*(i/2)=i:=by omega
  rw [e,if_pos hi2]
  rw [e] at h1 h3
  split<;>omega
 ·have e:2*(i/2)+1=i:=by omega
  rw [e,if_pos hi2]
  rw [e] at h3
  split<;>omega
theorem rawB_lt {W:Nat→Nat} {L j:Nat} (hW:∀n,W n≤15):rawB W L j<256:=by
 have h1:=hW (2*j)
 have h2:=hW (2*j+1)
 unfold rawB padW
 split<;>split<;>omega
theorem rawT_by {W:Nat→Nat} {L:Nat} (hW:∀n,W n≤15) (hL:L≤129):By (rawT W L):=by
 intro x hx
 unfold rawT at hx
 rcases List.mem_cons.mp hx with h|h
 ·omega
 ·obtain ⟨j,_,rfl⟩:=List.mem_map.mp h
  exact rawB_lt hW
theorem or_nib {a b:Nat} (ha:a≤15) (hb:b≤15):orI .u8 (shlI .u8 ((a:Nat):Int) 4) ((b:Nat):Int)=((16*a+b:Nat):Int):=by
 rw [show (4:Int)=((4:Nat):Int) from rfl,shlI_u rfl a 4 (by decide),orI_nat rfl _ _ (by simp only [IntKind.bits];omega) (by simp only [IntKind.bits];omega)]
 have e:a*2^4%2^IntKind.bits .u8=2^4*a:=by simp only [IntKind.bits];omega
 have:=Nat.two_pow_add_eq_or_of_lt (i:=4) (b:=b) (by omega) a
 rw [e, ←this]
theorem or_128 {b:Nat} (hb:b<128):orI .u8 128 ((b:Nat):Int)=((128+b:Nat):Int):=by
 have h:=orI_nat (k := .u8) rfl 128 b (by decide) (by simp only [IntKind.bits];omega)
 have:=Nat.two_pow_add_eq_or_of_lt (i:=7) (b:=b) (by omega) 1
 rw [show (128:Int)=((128:Nat):Int) from rfl,h,show (128:Nat)=2^7*1 from rfl, ←this]
section
variable {w:World} {g L:Nat} {s:HU} {W:Nat→Nat} {pre:List Nat} {K:Value→PT}
theorem wr_raw (B:Blk w g s.at) (HO:VecU w s.out pre) (hpre:pre.length≤1000000000) (hg:g∉s.out.bs) (h2:2≤L) (hL:L≤256) (hh:∀n,n<L-1→s.hw n=(W n:Nat)) (hW:∀n,W n≤15) (E:errAt w 0)
  (hk0:129<L→∀v,EG w v→w.cell? ⟨0,0,none⟩=some v→K v w)
  (hk1:∀w' o hw',L≤129→VecU w' o (pre++rawT W L)→Blk w' g ({ s with out:=o,hw:=hw' } : HU).at→(∀v∈o.bs,v∈s.out.bs∨w.heap.size≤v)→g∉o.bs→Fm w w' (g::s.out.bs)→K .nilIface w') :
  q65_J8 (some ⟨g,0,none⟩) K (L:Int) ⟨some ⟨g,279,none⟩,256,256⟩ () w:=by
 have hgl:=B.lt
 have hol:s.out.l=pre.length:=HO.len
 unfold q65_J8
 rw [wU16 (x:=(L:Int)-1) (by omega) (by omega),wU8 (x:=(L:Int)-1) (by omega) (by omega)]
 refine cnd_d ?_ ?_
 ·intro hc
  obtain ⟨v,e1,e2,e3⟩:=E
  exact ⟨v,e1,hk0 (by omega) v ⟨⟨0,by decide,e1⟩,e2⟩ e1⟩
 ·intro hc
  refine ⟨_,rfl,?_⟩
  simp only [add_mk,Nat.zero_add]
  refine ld_b (t := .S) (x:=s.out) B rfl ?_
  rw [wU8 (by omega) (by omega),show (L:Int)-1-1=((L-2:Nat):Int) by omega,or_128 (by omega),show 128+(L-2)=126+L by omega]
  refine app_1u HO (by omega) ?_
  intro s1 w1 HO1 F1 hb1
  have B1:=B.fr F1 hg
  have hg1:g∉s1.bs:=fun h=>by
   rcases hb1 g h with h|h
   ·exact hg h
   ·omega
  rw [show (L:Int)-1=((L-1:Nat):Int) by omega]
  refine ixS_o rfl (by omega) ?_
  refine st_u B1 (by rw [HU.hw_at _ (by omega)];rfl) rfl ?_
  intro w2 B2 F2
  rw [HU.setW (by omega)] at B2
  have HO2:=HO1.fr F2 (by intro b hb;simp;exact fun e=>hg1 (e▸hb))
  have Fr2:Fm w w2 (g::s.out.bs):=(F1.mono (by intro v hv;left;simp [hv])).trans F2 (by intro v hv;simp at hv;simp [hv])
  have hhw:∀n,n<256→n<L→updF s.hw (L-1) 0 n=(padW W L n:Nat):=by
   intro n hn hn2
   unfold updF padW
   by_cases e:n=L-1
   ·rw [if_pos e,if_neg (by omega)];rfl
   ·rw [if_neg e,if_pos (by omega)];exact hh n (by omega)
  have hpw:∀n,padW W L n≤15:=by
   intro n
   unfold padW
   split
   ·exact hW n
   ·omega
  have hpz:padW W L L=0:=by unfold padW;rw [if_neg (by omega)]
  generalize updF s.hw (L-1) 0=hw2 at *
  refine joinP_id ?_
  refine ⟨fun x w'=>∃j:Nat,x.2=((2*j:Nat):Int)∧j≤L/2∧VecU w' x.1 (pre ++ [126+L]++(List.range j).map (rawB W L))∧Blk w' g ({ s with hw:=hw2 } : HU).at∧(∀v∈x.1.bs,v∈s.out.bs∨w.heap.size≤v)∧Fm w w' (g::s.out.bs),fun x _=>300-x.2.toNat,
   ⟨0,rfl,Nat.zero_le _,by simpa using HO2,B2,hb1,Fr2⟩,?_⟩
  rintro ⟨xs,xn⟩ w3 ⟨j,hxn,hj,HO3,B3,hb3,Fr3⟩
  simp only at hxn HO3 hb3
  subst hxn
  have hg3:g∉xs.bs:=fun h=>by
   rcases hb3 g h with h|h
   ·exact hg h
   ·omega
  have hxl:xs.l=pre.length+1+j:=by
   have:=HO3.len
   simp at this;omega
  unfold q65_L6
  simp only
  rw [wU16 (x:=(L:Int)-1) (by omega) (by omega),wU8 (x:=(L:Int)-1) (by omega) (by omega),wU16 (x:=(L:Int)-1) (by omega) (by omega)]
  refine cnd_d ?_ ?_
  ·intro hc2
   unfold drw
   refine ixS_o rfl (by omega) ?_
   refine ld_b (t := .I .u8) (x:=((padW W L (2*j):Nat):Int)) B3.drew (by rw [HU.hw_at _ (by omega)];show some (Value.int .u8 (hw2 _))=_;rw [hhw _ (by omega) (by omega)];rfl) ?_
   refine ⟨by decide,?_⟩
   rw [wU16 (x:=((2*j:Nat):Int)+1) (by omega) (by omega),wU16 (x:=((2*j:Nat):Int)+2) (by omega) (by omega),show ((2*j:Nat):Int)+1=((2*j+1:Nat):Int) by omega]
   refine ixS_o rfl (by omega) ?_
   refine ld_b (t := .I .u8) (x:=((padW W L (2*j+1):Nat):Int)) B3.drew (by rw [HU.hw_at _ (by omega)];show some (Value.int .u8 (hw2 _))=_;rw [hhw _ (by omega) (by omega)];rfl) ?_
   rw [or_nib (hpw _) (hpw _)]
   refine app_1u (HO3.fr (Fm.refl w3 []).drew (by simp)) (by omega) ?_
   intro s4 w4 HO4 F4 hb4
   have F34:Fm w3 w4 xs.bs:=(Fm.refl w3 xs.bs).drew.trans F4 (fun x hx => .inl hx)
   have hsz:=Fr3.size
   refine ⟨⟨j+1,by omega,by omega,?_,B3.fr F34 hg3,?_,Fr3.trans F34 ?_⟩,by omega⟩
   ·rw [show (16*padW W L (2*j)+padW W L (2*j+1):Nat)=rawB W L j from rfl,List.append_assoc (pre ++ [126+L])] at HO4
    rw [List.range_succ,List.map_append]
    exact HO4
   ·intro v hv
    rcases hb4 v hv with h|h
    ·exact hb3 v h
    ·have:w3.drew.heap.size=w3.heap.size:=rfl
     right;omega
   ·intro v hv
    rcases hb3 v hv with h|h
    ·left;simp [h]
    ·exact .inr h
  ·intro hc2
   have hje:j=L/2:=by omega
   subst hje
   unfold q65_J7
   refine ⟨_,rfl,?_⟩
   simp only [add_mk,Nat.zero_add]
   refine st_u B3 rfl rfl ?_
   intro w4 B4 F4
   have B4':=B4.congr (HU.setT (s' := { s with hw:=hw2,out:=xs }) 0 rfl rfl rfl (by decide))
   refine hk1 w4 xs hw2 (by omega) ?_ B4' hb3 hg3 (Fr3.trans F4 (by intro v hv;simp at hv;simp [hv]))
   have:=HO3.fr F4 (by intro b hb;simp;exact fun e=>hg3 (e▸hb))
   rw [List.append_assoc] at this
   exact this
end
theorem SW.fr {w w':World} {b:Nat} {s:FS} {S:List Nat} (W:SW w b s) (F:Fm w w' S) (hS:∀v∈SB b s,v∉S):SW w' b s :=
 ⟨W.blk.fr F (hS b (mem_SB.mpr (.inl rfl))),W.o.fm F (fun v hv=>hS v (mem_SB.mpr (.inr (.inl hv)))),W.x.fm F (fun v hv=>hS v (mem_SB.mpr (.inr (.inr (.inl hv))))),W.y.fm F (fun v hv=>hS v (mem_SB.mpr (.inr (.inr (.inr (.inl hv)))))),W.z.fm F (fun v hv=>hS v (mem_SB.mpr (.inr (.inr (.inr (.inr hv)))))),W.bo,W.bx,W.bY,W.bz,W.ox,W.oy,W.oz,W.xy,W.xz,W.yz⟩
theorem fseT_ok {ol ws:List Nat} (h:FseOK ol ws) (hl:ol.length<128):weightsZ (ol.length::ol)=some (ws,(ol.length::ol).length):=by
 obtain ⟨cs,t,rest,tab,h1,h2,h3,h4⟩:=h
 unfold weightsZ
 simp only
 rw [if_neg (by omega),if_neg (by simp;omega),List.take_length,h1]
 simp only
 rw [if_neg (by omega),h3]
 simp only
 rw [h4]
 simp only [List.length_cons]
 rw [Nat.add_comm]
section
variable {w:World} {g fb tb capt L M:Nat} {s:HU} {fs:FS} {ln:Nat→Nat} {pre:List Nat} {F:Cells} {K:Value→PT}
structure WT (w w':World) (g fb:Nat) (s:HU) (fs fs':FS) (o:Sl):Prop where
 sw:SW w' fb fs'
 ext:∀v∈SB fb fs',v∈SB fb fs∨w.heap.size≤v
 fr:Fm w w' (g::(s.out.bs++SB fb fs))
 new:∀v∈o.bs,v∈s.out.bs∨w.heap.size≤v
 go:g∉o.bs
 dis:∀v∈o.bs,v∉SB fb fs'
theorem c82 {K:Sl→PT} (hk:K ⟨some ⟨fb,0,none⟩,256,256⟩ w):callP Tryd.prog 82 #[.pointer (some ⟨fb,0,none⟩)] [.c .S] K w:=by
 apply q82_ok
 unfold q82
 exact slcA_all (by omega) hk
theorem c83 {K:Unit→PT} {h m:Nat} (HB:Blk w fb fs.at) (hh:h<256) (hk:∀w',Blk w' fb ({ fs with maxC:=(m:Nat),symL:=(h+1:Nat),cc := !decide (((m:Nat):Int)=0) } : FS).at→Fm w w' [fb]→K () w') :
  callP Tryd.prog 83 #[.pointer (some ⟨fb,0,none⟩),.int .u8 (h:Nat),.int .i64 (m:Nat)] [] K w:=by
 apply q83_ok
 unfold q83
 simp only [add_mk,Nat.zero_add]
 refine st_u HB rfl rfl ?_
 intro w1 HB1 F1
 have HB1':=HB1.congr (FS.setT (s' := { fs with maxC:=(m:Nat) }) 13 rfl rfl rfl (by decide))
 refine st_u HB1' rfl rfl ?_
 intro w2 HB2 F2
 rw [wU16 (x:=(h:Int)) (by omega) (by omega),wU16 (x:=(h:Int)+1) (by omega) (by omega)] at HB2
 have HB2':=HB2.congr (FS.setT (s' := { fs with maxC:=(m:Nat),symL:=(h+1:Nat) }) 16 rfl rfl (by
  have:((h:Nat):Int)+1=((h+1:Nat):Int):=by omega
  rw [this];rfl) (by decide))
 refine st_u HB2' rfl rfl ?_
 intro w3 HB3 F3
 exact hk w3 (HB3.congr (FS.setT (s' := { fs with maxC:=(m:Nat),symL:=(h+1:Nat),cc := !decide (((m:Nat):Int)=0) }) 19 rfl rfl rfl (by decide))) ((F1.trans F2 (fun x hx => .inl hx)).trans F3 (fun x hx => .inl hx))
def WMx (ws:List Nat) (m h:Nat):Prop:=h<16∧ws.count h≠0∧(∀i,i<16→h<i→ws.count i=0)∧(∀i,i<16→ws.count i≤m)∧∃i,i<16∧ws.count i=m
def FsOut (ws:List Nat) (k:Nat):Prop:=∃m h,WMx ws m h∧FGood m (h+1) ws k
def FsBad (ws:List Nat):Prop:=∃m h,WMx ws m h∧FBad m (h+1) ws
def TPl (ws:List Nat) (L:Nat):Prop:=L<3∨FsBad ws∨∃k,FsOut ws k∧L/2≤k
def TL (ws:List Nat) (L n:Nat):Prop:=(∃k,3≤L∧FsOut ws k∧k<L/2∧n=k+1)∨(TPl ws L∧L≤129∧n=1+L/2)
def TBad (ws:List Nat) (L:Nat):Prop:=TPl ws L∧129<L
theorem c65 (B:Blk w g s.at) (hsy:s.symL=(L:Nat)) (h2:2≤L) (hL:L≤256) (hat:s.atl=(M:Nat)) (hM1:1≤M) (hM:M≤11) (hfse:s.fse=some ⟨fb,0,none⟩) (SWf:SW w fb fs) (G:GL w) (E:errAt w 0) (h9:∀v∈SB fb fs,9≤v) (g9:9≤g)
  (HO:VecU w s.out pre) (o9:∀v∈s.out.bs,9≤v) (hpre:pre.length≤1000000) (HT:Blk w tb F) (hF:∀i,i<L→F (i*2+1)=some (.int .u8 (ln i:Nat))) (hln:∀i,i<L→ln i≤M)
  (dgo:g∉s.out.bs) (dgf:g∉SB fb fs) (dof:∀v∈s.out.bs,v∉SB fb fs) (dgt:g≠tb) (dto:tb∉s.out.bs) (dtf:tb∉SB fb fs)
  (hk0:TBad (wtL M ln L) L→∀w' fs' hw' v,EG w' v→w'.cell? ⟨0,0,none⟩=some v→Blk w' g ({ s with hw:=hw' } : HU).at→VecU w' s.out pre→WT w w' g fb s fs fs' s.out→K v w')
  (hk1:∀w' fs' hw' o tbl,TL (wtL M ln L) L tbl.length→By tbl→tbl.length≤129→weightsZ tbl=some (wtL M ln L,tbl.length)→VecU w' o (pre++tbl)→Blk w' g ({ s with hw:=hw',out:=o } : HU).at→WT w w' g fb s fs fs' o→K .nilIface w') :
  callP Tryd.prog 65 #[.slice (some ⟨tb,0,none⟩) L capt,.pointer (some ⟨g,0,none⟩)] [.c .V] K w:=by
 have hgl:=B.lt
 have htl:=HT.lt
 have fbm:fb∈SB fb fs:=mem_SB.mpr (.inl rfl)
 have dgfb:g≠fb:=fun e=>dgf (e▸fbm)
 have dtfb:tb≠fb:=fun e=>dtf (e▸fbm)
 have hfl:=SWf.lt fb fbm
 have hol:s.out.l=pre.length:=HO.len
 have hatc:s.at 268=some (.int .u8 (M:Nat)):=by show some (Value.int .u8 s.atl)=_;rw [hat]
 have hsyc:s.at 265=some (.int .u16 (L:Nat)):=by show some (Value.int .u16 s.symL)=_;rw [hsy]
 have hW11:∀n,wtF M ln n≤11:=fun n=>Nat.le_trans (b2w_le _ _) hM
 apply q65_ok (s0:=⟨some ⟨tb,0,none⟩,L,capt⟩)
 unfold q65
 refine nw_n ?_
 intro w1 F1 hs1 HP1
 have dgp:g≠w.heap.size:=by omega
 have dfp:w.heap.size≠fb:=by omega
 have hwp:w.heap.size≤w.heap.size:=Nat.le_refl _
 generalize hpb:w.heap.size=pb at *
 have B1:=B.fr F1 (by simp)
 refine ⟨_,rfl,?_⟩
 simp only [add_mk,Nat.zero_add]
 refine ld_b (t := .I .u8) (x:=((M:Nat):Int)) B1 hatc ?_
 refine ⟨_,rfl,?_⟩
 simp only [add_mk,Nat.zero_add]
 refine ld_b (t := .I .u16) (x:=((L:Nat):Int)) B1 hsyc ?_
 refine ⟨_,rfl,?_⟩
 simp only [add_mk,Nat.zero_add]
 refine slcA_hi (n:=256) rfl (Nat.le_refl _) (by omega) ?_
 refine ixA_o (k:=0) rfl (by omega) ?_
 refine st_u HP1 (by rw [arrC_get (by omega)];rfl) rfl ?_
 intro w2 HP2 F2
 rw [arrC_upd (by omega)] at HP2
 have HP2':Blk w2 pb (arrC .u8 12 fun _=>0):=HP2.congr (by
  congr 1
  funext i
  unfold updF
  split<;>rfl)
 refine joinP_id ?_
 refine wr_b2w HP2' hM ?_
 intro w3 HP3 F3
 have F13:Fm w w3 []:=by
  refine Fm.trans (F1.trans F2 ?_) F3 ?_
  ·intro v hv;right;simp at hv;omega
  ·intro v hv;right;simp at hv;omega
 have B3:=B.fr F13 (by simp)
 have SW3:=SWf.fm F13
 have HT3:=HT.fr F13 (by simp)
 unfold q65_J11
 refine ⟨_,rfl,?_⟩
 simp only [add_mk,Nat.zero_add]
 refine ld_b (t := .P) (x:=some ⟨fb,0,none⟩) B3 (by show some (Value.pointer s.fse)=_;rw [hfse];rfl) ?_
 refine c82 ?_
 refine slc_hi (m:=256) rfl (Nat.le_refl _) ?_
 refine joinP_id ?_
 refine slc_hi (m:=16) rfl (by show 16≤256;omega) ?_
 refine wr_clear SW3.sw.blk ?_
 intro w4 c4 hz4 HB4 F4
 unfold q65_J10
 refine joinP_id ?_
 refine wr_wts (fs := { fs with count:=c4 }) (s:=s) (HP3.fr F4 (nm1 dfp)) (B3.fr F4 (nm1 dgfb)) HB4 hz4 (HT3.fr F4 (nm1 dtfb)) hF h2 hL hM hln dgp dgfb dgt dfp dtfb ?_
 intro w5 c5 hw5 hc5 hh5 HB5 B5 F5
 have Fr5:Fm w3 w5 [g,fb]:=(F4.mono (by intro v hv;simp at hv;simp [hv])).trans F5 (fun x hx => .inl hx)
 have F05:Fm w w5 [g,fb]:=(F13.mono (by simp)).trans Fr5 (fun x hx => .inl hx)
 have HB5':Blk w5 fb ({ fs with count:=c5 } : FS).at:=HB5
 have dsb:∀v∈SB fb fs,v≠g:=fun v hv e=>dgf (e▸hv)
 have SW4:SW w5 fb { fs with count:=c5 } := by
  have d:∀ {l:List Nat},fb∉l→(∀v∈l,v∈SB fb fs)→∀v∈l,v ∉ [g,fb]:=by
   intro l hb hs v hv
   simp
   exact ⟨dsb v (hs v hv),fun e=>hb (e▸hv)⟩
  exact ⟨HB5',SWf.o.fm F05 (d SWf.bo (fun v hv=>mem_SB.mpr (.inr (.inl hv)))),SWf.x.fm F05 (d SWf.bx (fun v hv=>mem_SB.mpr (.inr (.inr (.inl hv))))),SWf.y.fm F05 (d SWf.bY (fun v hv=>mem_SB.mpr (.inr (.inr (.inr (.inl hv)))))),SWf.z.fm F05 (d SWf.bz (fun v hv=>mem_SB.mpr (.inr (.inr (.inr (.inr hv)))))),SWf.bo,SWf.bx,SWf.bY,SWf.bz,SWf.ox,SWf.oy,SWf.oz,SWf.xy,SWf.xz,SWf.yz⟩
 have HO5:VecU w5 s.out pre:=HO.fr F05 (by intro v hv;simp;exact ⟨fun e=>dgo (e▸hv),fun e=>dof v hv (e▸fbm)⟩)
 have G5:GL w5:=G.fm F05 (by intro v hv;simp at hv;rcases hv with rfl|rfl;exact g9;exact h9 _ fbm)
 have E5:errAt w5 0:=E.fm F05 (by simp;exact ⟨by omega,by have:=h9 _ fbm;omega⟩)
 have sz5:=F05.size
 have raw:TPl (wtL M ln L) L→∀(w6:World) (fs6:FS),Blk w6 g ({ s with hw:=hw5 } : HU).at→VecU w6 s.out pre→errAt w6 0→SW w6 fb fs6→(∀v∈SB fb fs6,v∈SB fb fs∨w.heap.size≤v)→Fm w w6 (g::(s.out.bs++SB fb fs))→q65_J8 (some ⟨g,0,none⟩) K (L:Int) ⟨some ⟨g,279,none⟩,256,256⟩ () w6:=by
  intro hTP w6 fs6 B6 HO6 E6 SW6 hx6 Fr6
  have dof6:∀v∈s.out.bs,v∉SB fb fs6:=by
   intro v hv h
   rcases hx6 v h with h1|h1
   ·exact dof v hv h1
   ·have:=HO.lt v hv;omega
  have sz6:=Fr6.size
  refine wr_raw (s := { s with hw:=hw5 }) (W:=wtF M ln) B6 HO6 (by omega) dgo h2 hL hh5 (fun n=>Nat.le_trans (hW11 n) (by omega)) E6 ?_ ?_
  ·intro h129 v h3 h30
   exact hk0 ⟨hTP,h129⟩ w6 fs6 hw5 v h3 h30 B6 HO6 ⟨SW6,hx6,Fr6,fun v hv => .inl hv,dgo,dof6⟩
  ·intro w7 o hw7 h129 HO7 B7 hn7 hg7 F7
   have hlen:(rawT (wtF M ln) L).length=1+L/2:=by unfold rawT;simp;omega
   have hd7:∀v∈SB fb fs6,v∉g::s.out.bs:=by
    intro v hv h
    rcases List.mem_cons.mp h with h1|h1
    ·subst h1
     rcases hx6 v hv with h3|h3
     ·exact dgf h3
     ·omega
    ·exact dof6 v h1 hv
   refine hk1 w7 fs6 hw7 o _ (.inr ⟨hTP,h129,hlen⟩) (rawT_by (fun n=>Nat.le_trans (hW11 n) (by omega)) h129) (by rw [hlen];omega) (rawT_ok h2 (fun n=>Nat.le_trans (hW11 n) (by omega))) HO7 B7 ⟨SW6.fr F7 hd7,hx6,Fr6.trans F7 ?_,?_,hg7,?_⟩
   ·intro v hv
    left
    rcases List.mem_cons.mp hv with h1|h1
    ·simp [h1]
    ·simp [h1]
   ·intro v hv
    rcases hn7 v hv with h1|h1
    ·exact .inl h1
    ·right;omega
   ·intro v hv h
    rcases hn7 v hv with h1|h1
    ·exact dof6 v h1 h
    ·have:=SW6.lt v h;omega
 have x5:∀v∈SB fb ({ fs with count:=c5 } : FS),v∈SB fb fs∨w.heap.size≤v:=fun v hv => .inl hv
 have Fr05:Fm w w5 (g::(s.out.bs++SB fb fs)):=F05.mono (by intro v hv;simp at hv;left;rcases hv with rfl|rfl<;>simp [fbm])
 unfold q65_J9
 rw [wU16 (x:=(L:Int)-1) (by omega) (by omega),wU8 (x:=(L:Int)-1) (by omega) (by omega),show (L:Int)-1=((L-1:Nat):Int) by omega]
 refine joinP_id (cnd_d ?_ (fun hc2=>raw (.inl (by omega)) w5 _ B5 HO5 E5 SW4 x5 Fr05))
 intro hc2
 have hL3:3≤L:=by omega
 have hcl:∀i,cN (wtF M ln) i (L-1)<4294967296:=fun i=>by have:=cN_le (wtF M ln) i (L-1);omega
 refine joinP_id ?_
 refine slc_hi (m:=16) rfl (by show 16≤256;omega) ?_
 refine wr_max (fs := { fs with count:=c5 }) (c:=fun i=>cN (wtF M ln) i (L-1)) HB5 hc5 hcl ?_ ?_
 ·refine ⟨wtF M ln 0,by have:=hW11 0;omega,?_⟩
  have h1:=cN_mono (wtF M ln) (wtF M ln 0) (show 1≤L-1 by omega)
  have h3:cN (wtF M ln) (wtF M ln 0) 1=1:=by rw [cN,cN,if_pos rfl]
  show cN (wtF M ln) (wtF M ln 0) (L-1)≠0
  omega
 intro m h hh16 hch htop hmax hmex
 have hcnt:∀i,cN (wtF M ln) i (L-1)=(wtL M ln L).count i:=fun i=>cN_count _ _ _
 have hwl:(wtL M ln L).length=L-1:=by simp [wtL]
 have hwm:WMx (wtL M ln L) m h:=⟨hh16,by rw [←hcnt];exact hch,fun i h1 h2=>by rw [←hcnt];exact htop i h1 h2,fun i h1=>by rw [←hcnt];exact hmax i h1,by
  obtain ⟨i,h1,h2⟩:=hmex
  exact ⟨i,h1,by rw [←hcnt];exact h2⟩⟩
 have hmem:∀x∈wtL M ln L,x≤11:=by
  intro x hx
  obtain ⟨k,_,rfl⟩:=List.mem_map.mp hx
  exact hW11 k
 have hh11:h≤11:=by
  have:(wtL M ln L).count h≠0:=by rw [←hcnt];exact hch
  exact hmem h (List.count_pos_iff.mp (by omega))
 have hmle:m≤L-1:=by
  obtain ⟨i,_,e⟩:=hmex
  rw [←e]
  exact cN_le _ _ _
 have hm0:0<m:=by have:=hmax h hh16;omega
 unfold q65_J5
 refine ⟨_,rfl,?_⟩
 simp only [add_mk,Nat.zero_add]
 refine ld_b (t := .P) (x:=some ⟨fb,0,none⟩) B5 (by show some (Value.pointer s.fse)=_;rw [hfse];rfl) ?_
 rw [wI64 (x:=(m:Int)) (by omega) (by omega)]
 refine c83 (h:=h) (m:=m) HB5 (by omega) ?_
 intro w6 HB6 F6
 have B6:=B5.fr F6 (nm1 dgfb)
 refine ⟨_,rfl,?_⟩
 simp only [add_mk,Nat.zero_add]
 refine ld_b (t := .P) (x:=some ⟨fb,0,none⟩) B6 (by show some (Value.pointer s.fse)=_;rw [hfse];rfl) ?_
 refine ⟨_,rfl,?_⟩
 simp only [add_mk,Nat.zero_add]
 refine st_u HB6 rfl rfl ?_
 intro w7 HB7 F7
 have HB7':=HB7.congr (FS.setT (s' := { fs with count:=c5,maxC:=(m:Nat),symL:=(h+1:Nat),cc := !decide (((m:Nat):Int)=0),tl:=6 }) 21 rfl rfl rfl (by decide))
 have F57:Fm w5 w7 [fb]:=F6.trans F7 (fun x hx => .inl hx)
 have ST7:=SW4.same (s' := { fs with count:=c5,maxC:=(m:Nat),symL:=(h+1:Nat),cc := !decide (((m:Nat):Int)=0),tl:=6 }) HB7' F57 rfl rfl rfl rfl
 obtain ⟨fs7,e7t,e7m,e7s,e7c,e7b,ST7⟩:∃fs7:FS,fs7.tl=6∧fs7.maxC=(m:Nat)∧fs7.symL=((h+1:Nat):Int)∧fs7.count=c5∧SB fb fs7=SB fb fs∧ST w5 w7 fb { fs with count:=c5 } fs7:=⟨({ fs with count:=c5,maxC:=(m:Nat),symL:=(h+1:Nat),cc := !decide (((m:Nat):Int)=0),tl:=6 } : FS),rfl,rfl,rfl,rfl,rfl,ST7⟩
 have B7:=B5.fr F57 (nm1 dgfb)
 have HO7:VecU w7 s.out pre:=HO5.fr F57 (by intro v hv;simp;exact fun e=>dof v hv (e▸fbm))
 have G7:GL w7:=G5.fm F57 (by intro v hv;simp at hv;subst hv;exact h9 _ fbm)
 have E7:errAt w7 0:=E5.fm F57 (by simp;have:=h9 _ fbm;omega)
 have Fr07:Fm w w7 (g::(s.out.bs++SB fb fs)):=Fr05.trans F57 (by intro v hv;simp at hv;subst hv;left;simp [fbm])
 have sz7:=Fr07.size
 unfold drw
 refine slc_hi (m:=L-1) (by rw [wU16 (x:=(L:Int)-1) (by omega) (by omega),wU8 (x:=(L:Int)-1) (by omega) (by omega)];omega) (by show L-1≤256;omega) ?_
 refine ⟨_,rfl,?_⟩
 simp only [add_mk,Nat.zero_add]
 refine ld_b (t := .P) (x:=some ⟨fb,0,none⟩) B7.drew (by show some (Value.pointer s.fse)=_;rw [hfse];rfl) ?_
 have SW7:=ST7.drew.sw
 have hsrc:Arr .u8 w7.drew ⟨some ⟨g,279,none⟩,L-1,256⟩ (wtL M ln L):=by
  refine ⟨hwl.symm,by show L-1≤256;omega,(fun h=>by cases h),?_⟩
  intro b hb i hi
  injection hb with hb
  subst hb
  rw [add_mk,B7.drew.cell,HU.hw_at _ (by omega)]
  show some (Value.int .u8 (hw5 i))=_
  rw [hh5 i (by omega)]
  simp [wtL]
 have G7d:GL w7.drew:=G7.fm (Fm.refl w7 []).drew (by simp)
 have dofx:∀ {fs':FS} {w':World},ST w7.drew w' fb fs7 fs'→∀v∈SB fb fs',v∈SB fb fs∨w.heap.size≤v:=by
  intro fs' w' T v hv
  rcases T.ext v hv with h1|h1
  ·rw [e7b] at h1;exact .inl h1
  ·have:w7.drew.heap.size=w7.heap.size:=rfl
   right;omega
 have outd:∀v∈s.out.bs,v∉SB fb fs:=dof
 refine c84 (s:=fs7) (src:=⟨some ⟨g,279,none⟩,L-1,256⟩) (ws:=wtL M ln L) (L:=h+1) (m:=m) SW7 G7d (by rw [e7b];exact h9) hsrc (by intro a ha _;injection ha with ha;subst ha;rw [e7b];exact dgf) (by omega) (by omega) e7t e7m hm0 (by omega) e7s (by omega) (by omega) (fun i hi=>by rw [e7c, ←hcnt];exact hc5 i (by omega)) ?_ (fun i hi=>by rw [←hcnt];exact hmax i (by omega)) (by rw [Nat.add_sub_cancel, ←hcnt];exact hch) ?_ ?_
 ·intro x hx
  have h11:=hmem x hx
  by_cases hlt:x<h+1
  ·exact hlt
  ·have h0:=htop x (by omega) (by omega)
   have:0<(wtL M ln L).count x:=List.count_pos_iff.mpr hx
   rw [←hcnt] at this
   have h0:cN (wtF M ln) x (L-1)=0:=h0
   omega
 ·-- not pressed
  intro w8 fs8 v hBd T8 hv1 hv2
  refine ⟨isPE.ifc hv1,?_⟩
  refine ⟨fun e=>absurd (show isNil v=true from e) (by rw [hv2];simp),fun _ => ?_⟩
  have F8:Fm w7 w8 (SB fb fs):=(Fm.refl w7 _).drew.trans (e7b▸T8.fr) (fun x hx => .inl hx)
  exact raw (.inr (.inl ⟨m,h,hwm,hBd⟩)) w8 fs8 (B7.fr F8 dgf) (HO7.fr F8 dof) (E7.fm F8 (fun h=>by have:=h9 _ h;omega)) T8.sw (dofx T8) (Fr07.trans F8 (by intro v hv;left;simp [hv]))
 ·intro w8 fs8 o ol hGd T8 ha hby hll hok hob
  have F8:Fm w7 w8 (SB fb fs):=(Fm.refl w7 _).drew.trans (e7b▸T8.fr) (fun x hx => .inl hx)
  have B8:=B7.fr F8 dgf
  have HO8:=HO7.fr F8 dof
  have E8:=E7.fm F8 (fun h=>by have:=h9 _ h;omega)
  have Fr08:Fm w w8 (g::(s.out.bs++SB fb fs)):=Fr07.trans F8 (by intro v hv;left;simp [hv])
  have x8:=dofx T8
  have sz8:=Fr08.size
  refine ⟨rfl,?_⟩
  refine ⟨fun _ => ?_,fun e=>by simp [isNil] at e⟩
  refine ⟨_,rfl,?_⟩
  simp only [add_mk,Nat.zero_add]
  refine ld_b (t := .I .u16) (x:=((L:Nat):Int)) B8 (by show some (Value.int .u16 s.symL)=_;rw [hsy];rfl) ?_
  refine ⟨by decide,?_⟩
  have esh:IntKind.i64.wrap (shrI .u16 ((L:Nat):Int) 1)=((L/2:Nat):Int):=by
   rw [show (1:Int)=((1:Nat):Int) from rfl,shrI_nat _ _ _ (by simp only [IntKind.bits];omega),Nat.pow_one,wI64 (by omega) (by omega)]
  rw [esh]
  have hoL:o.l=ol.length:=ha.len
  refine cnd_d ?_ (fun hc3=>raw (.inr (.inr ⟨_,⟨m,h,hwm,hGd⟩,by omega⟩)) w8 fs8 B8 HO8 E8 T8.sw x8 Fr08)
  intro hc3
  have dof8:∀v∈s.out.bs,v∉SB fb fs8:=by
   intro v hv h
   rcases x8 v h with h1|h1
   ·exact dof v hv h1
   ·have:=HO.lt v hv;omega
  have dg8:g∉SB fb fs8:=by
   intro h
   rcases x8 g h with h1|h1
   ·exact dgf h1
   ·omega
  refine ⟨_,rfl,?_⟩
  simp only [add_mk,Nat.zero_add]
  refine ld_b (t := .S) (x:=s.out) B8 rfl ?_
  rw [hoL,wU8 (x:=((ol.length:Nat):Int)) (by omega) (by omega)]
  refine app_1u HO8 (by omega) ?_
  intro s9 w9 HO9 F9 hb9
  have B9:=B8.fr F9 dgo
  have hg9:g∉s9.bs:=fun h=>by
   rcases hb9 g h with h|h
   ·exact dgo h
   ·have:=B8.lt;omega
  have d9f:∀v∈s9.bs,v∉SB fb fs8:=by
   intro v hv h
   rcases hb9 v hv with h1|h1
   ·exact dof8 v h1 h
   ·have:=T8.sw.lt v h;omega
  refine ⟨_,rfl,?_⟩
  simp only [add_mk,Nat.zero_add]
  refine st_u B9 rfl rfl ?_
  intro w10 B10 F10
  have B10':=B10.congr (HU.setT (s' := { s with hw:=hw5,out:=s9 }) 0 rfl rfl rfl (by decide))
  have HO10:=HO9.fr F10 (by intro v hv;simp;exact fun e=>hg9 (e▸hv))
  have F810:Fm w8 w10 (g::s.out.bs):=(F9.mono (by intro v hv;left;simp [hv])).trans F10 (by intro v hv;simp at hv;simp [hv])
  have dSB8:∀v∈SB fb fs8,v∉g::s.out.bs:=by
   intro v hv h
   rcases List.mem_cons.mp h with h1|h1
   ·exact dg8 (h1▸hv)
   ·exact dof8 v h1 hv
  have ha10:Arr .u8 w10 o ol:=ha.fr F810 (by
   intro a h1 _
   exact dSB8 _ (hob _ (by unfold Sl.bs;rw [h1];simp)))
  have SW10:=T8.sw.fr F810 dSB8
  refine ⟨_,rfl,?_⟩
  simp only [add_mk,Nat.zero_add]
  refine ld_b (t := .S) (x:=s9) B10' rfl ?_
  have h9l:s9.l=pre.length+1:=by have:=HO10.len;simp at this;omega
  refine app_vu (xs:=ol) HO10 ha10.has (by omega) ?_
  intro s11 w11 HO11 F11 hb11
  have B11:=B10'.fr F11 hg9
  have sz811:=F810.size
  have hg11:g∉s11.bs:=fun h=>by
   rcases hb11 g h with h|h
   ·exact hg9 h
   ·have:=B10'.lt;omega
  refine ⟨_,rfl,?_⟩
  simp only [add_mk,Nat.zero_add]
  refine st_u B11 rfl rfl ?_
  intro w12 B12 F12
  have B12':=B12.congr (HU.setT (s' := { s with hw:=hw5,out:=s11 }) 0 rfl rfl rfl (by decide))
  have HO12:=HO11.fr F12 (by intro v hv;simp;exact fun e=>hg11 (e▸hv))
  have F1012:Fm w10 w12 (g::s9.bs):=(F11.mono (by intro v hv;left;simp [hv])).trans F12 (by intro v hv;simp at hv;simp [hv])
  have n9:∀v∈s9.bs,v∈s.out.bs∨w.heap.size≤v:=by
   intro v hv
   rcases hb9 v hv with h1|h1
   ·exact .inl h1
   ·right;omega
  refine hk1 w12 fs8 hw5 s11 (ol.length::ol) (.inl ⟨ol.length,hL3,⟨m,h,hwm,hGd⟩,by omega,rfl⟩) ?_ ?_ (fseT_ok hok (by omega)) ?_ B12' ⟨SW10.fr F1012 ?_,x8,(Fr08.trans F810 ?_).trans F1012 ?_,?_,hg11,?_⟩
  ·intro x hx
   rcases List.mem_cons.mp hx with h1|h1
   ·omega
   ·exact hby x h1
  ·simp only [List.length_cons];omega
  ·have e:pre ++ [ol.length]++ol=pre++ol.length::ol:=by simp
   rw [e] at HO12
   exact HO12
  ·intro v hv h
   rcases List.mem_cons.mp h with h1|h1
   ·exact dg8 (h1▸hv)
   ·exact d9f v h1 hv
  ·intro v hv
   left
   rcases List.mem_cons.mp hv with h1|h1
   ·simp [h1]
   ·simp [h1]
  ·intro v hv
   rcases List.mem_cons.mp hv with h1|h1
   ·left;simp [h1]
   ·rcases n9 v h1 with h3|h3
    ·left;simp [h3]
    ·exact .inr (by omega)
  ·intro v hv
   rcases hb11 v hv with h1|h1
   ·rcases n9 v h1 with h3|h3
    ·exact .inl h3
    ·exact .inr (by omega)
   ·right;omega
  ·intro v hv h
   rcases hb11 v hv with h1|h1
   ·exact d9f v h1 h
   ·have:=SW10.lt v h;omega
end
end Go.Sx
namespace Go.Sx
open Go Go.Proofs
set_option maxRecDepth 100000
def q148_J0 (K2:Sl→PT) (x9:Sl):PT :=
 K2 x9
def q148_J1 (s0:Sl) (n1:Int) (K2:Sl→PT) (x4:Unit):PT :=
 joinP (fun R5=>cnd (decide ((0:Int)<(IntKind.wrap .i64 (n1-(IntKind.wrap .i64 ((s0.c:Int)-(s0.l:Int))))))) (slc 1 s0 none (some (s0.c:Int)) none fun (s6:Sl)=>appZ z5 5 1 s6 (IntKind.wrap .i64 (n1-(IntKind.wrap .i64 ((s0.c:Int)-(s0.l:Int))))) fun (s7:Sl)=>slc 1 s7 none (some (s0.l:Int)) none fun (s8:Sl)=>R5 s8) (R5 s0)) (q148_J0 K2)
def q148 (s0:Sl) (n1:Int) (K2:Sl→PT):PT :=
 joinP (fun R3=>cnd (decide (n1<(0:Int))) (F) (R3 ())) (q148_J1 s0 n1 K2)
def h148:Hint:=⟨(.n (.n .e 3 ([],[1,0]) .e) 7 ([(0,.c .S)],[]) .e),.e⟩
theorem q148_eq (s0:Sl) (n1:Int) (K2:Sl→PT):fnE Cx h148 [.c .S] Tryd.f148 [.v (.slice s0.a s0.l s0.c),.v (.int .i64 n1)] K2=q148 s0 n1 K2:=by kernel_rfl
theorem q148_fnok:fnOk Tryd.f148 2=true:=by kernel_rfl
theorem q148_ok (s0:Sl) (n1:Int) (K2:Sl→PT) {w:World} (h:q148 s0 n1 K2 w):Calls Tryd.prog 148 #[(.slice s0.a s0.l s0.c),(.int .i64 n1)] w fun e w'=>∃r,e = .returned (resMk [.c .S] r)∧K2 r w' :=
 of_eq Tryd.func148 q148_fnok (by kernel_rfl) (by kernel_rfl) (q148_eq s0 n1 K2) h
end Go.Sx
namespace Go.Sx
open Go Go.Proofs
set_option maxRecDepth 4000
theorem shr_b {n j:Nat} (hn:n<2^64):IntKind.u8.wrap (shrI .u64 ((n:Nat):Int) ((j:Nat):Int))=((n/2^j%256:Nat):Int):=by
 rw [shrI_nat _ _ _ (by simp only [IntKind.bits];exact hn),wrap_u (k := .u8) rfl];rfl
theorem leB_get {n k j:Nat} (h:j<k):(leB n k)[j]? = some (n/2^(8*j)%256):=by
 induction k with
 | zero=>omega
 | succ k ih =>
  rw [leB_snoc]
  by_cases e:j<k
  ·rw [List.getElem?_append_left (by rw [leB_len];exact e)]
   exact ih e
  ·have:j=k:=by omega
   subst this
   rw [List.getElem?_append_right (by rw [leB_len];omega),leB_len,Nat.sub_self,Nat.pow_mul]
   rfl
theorem andNot7 {n:Nat} (h:n<64):andNotI .u64 ((n:Nat):Int) 7=((8*(n/8):Nat):Int):=by
 have:∀m:Fin 64,andNotI .u64 (((m:Nat):Nat):Int) 7=((8*((m:Nat)/8):Nat):Int):=by decide +kernel
 exact this ⟨n,h⟩
theorem and7 {n:Nat} (h:n<2^64):andI .u64 ((n:Nat):Int) 7=((n%8:Nat):Int):=by
 have:=andI_nat (k := .u64) rfl n (2^3-1) (by simp only [IntKind.bits];omega) (by decide)
 rw [Nat.and_two_pow_sub_one_eq_mod] at this
 exact this
theorem and63w {n:Nat} (h:n<64):andI .u64 ((n:Nat):Int) 63=((n:Nat):Int):=by
 have:=andI_nat (k := .u64) rfl n (2^6-1) (by simp only [IntKind.bits];omega) (by decide)
 rw [Nat.and_two_pow_sub_one_eq_mod,Nat.mod_eq_of_lt (by omega)] at this
 exact this
theorem and63b {n:Nat} (h:n<64):andI .u8 ((n:Nat):Int) 63=((n:Nat):Int):=by
 have:=andI_nat (k := .u8) rfl n (2^6-1) (by simp only [IntKind.bits];omega) (by decide)
 rw [Nat.and_two_pow_sub_one_eq_mod,Nat.mod_eq_of_lt (by omega)] at this
 exact this
section
variable {w:World} {ob p l c n:Nat} {F:Cells}
theorem c164 {K:Unit→PT} (B:Blk w ob F) (hl:8≤l) (h7:∃x:Int,F (p+7)=some (.int .u8 x)) (hs:∀j,j<8→(F (p+j)).isSome) (hn:n<2^64)
  (hk:∀w' F',Blk w' ob F'→(∀j,j<8→F' (p+j)=some (.int .u8 (n/2^(8*j)%256:Nat)))→(∀i,i<p∨p+8≤i→F' i=F i)→Fm w w' [ob]→K () w') :
  callP Tryd.prog 164 #[.agg ⟨[]⟩,.slice (some ⟨ob,p,none⟩) l c,.int .u64 (n:Nat)] [] K w:=by
 apply q164_ok (r0:=()) (s1:=⟨some ⟨ob,p,none⟩,l,c⟩)
 unfold q164 nw
 have F0:Fm w (w.alloc (.cells ⟨[]⟩ 234)) []:=(Fm.refl w []).alloc
 have B0:=B.fr F0 (by simp)
 generalize w.alloc (.cells ⟨[]⟩ 234)=w0 at *
 obtain ⟨x7,hx7⟩:=h7
 have e0:IntKind.u8.wrap ((n:Nat):Int)=((n/2^0%256:Nat):Int):=by rw [wrap_u (k := .u8) rfl,Nat.pow_zero,Nat.div_one];rfl
 have e1:∀j:Nat,IntKind.u8.wrap (shrI .u64 ((n:Nat):Int) ((j:Nat):Int))=((n/2^j%256:Nat):Int):=fun j=>shr_b hn
 rw [e0,show (8:Int)=((8:Nat):Int) from rfl,show (16:Int)=((16:Nat):Int) from rfl,show (24:Int)=((24:Nat):Int) from rfl,show (32:Int)=((32:Nat):Int) from rfl,show (40:Int)=((40:Nat):Int) from rfl,show (48:Int)=((48:Nat):Int) from rfl,show (56:Int)=((56:Nat):Int) from rfl,e1,e1,e1,e1,e1,e1,e1]
 have sU:∀ {G:Cells} {o:Nat} {v:Value} {i:Nat},(G i).isSome→(updC G o v i).isSome:=by
  intro G o v i h
  unfold updC
  split
  ·rfl
  ·exact h
 refine ixS_o (k:=7) rfl (by omega) ?_
 refine ld_b (t := .I .u8) (x:=x7) B0 hx7 ?_
 refine ixS_o (k:=0) rfl (by omega) ?_
 refine st_u B0 (hs 0 (by omega)) rfl ?_
 intro w1 B1 F1
 refine ⟨by decide,ixS_o (k:=1) rfl (by omega) ?_⟩
 refine st_u B1 (sU (hs 1 (by omega))) rfl ?_
 intro w2 B2 F2
 refine ⟨by decide,ixS_o (k:=2) rfl (by omega) ?_⟩
 refine st_u B2 (sU (sU (hs 2 (by omega)))) rfl ?_
 intro w3 B3 F3
 refine ⟨by decide,ixS_o (k:=3) rfl (by omega) ?_⟩
 refine st_u B3 (sU (sU (sU (hs 3 (by omega))))) rfl ?_
 intro w4 B4 F4
 refine ⟨by decide,ixS_o (k:=4) rfl (by omega) ?_⟩
 refine st_u B4 (sU (sU (sU (sU (hs 4 (by omega)))))) rfl ?_
 intro w5 B5 F5
 refine ⟨by decide,ixS_o (k:=5) rfl (by omega) ?_⟩
 refine st_u B5 (sU (sU (sU (sU (sU (hs 5 (by omega))))))) rfl ?_
 intro w6 B6 F6
 refine ⟨by decide,ixS_o (k:=6) rfl (by omega) ?_⟩
 refine st_u B6 (sU (sU (sU (sU (sU (sU (hs 6 (by omega)))))))) rfl ?_
 intro w7 B7 F7
 refine ⟨by decide,ixS_o (k:=7) rfl (by omega) ?_⟩
 refine st_u B7 (sU (sU (sU (sU (sU (sU (sU (hs 7 (by omega))))))))) rfl ?_
 intro w8 B8 F8
 have tr:∀ {a b d:World},Fm a b [ob]→Fm b d [ob]→Fm a d [ob]:=fun h h'=>h.trans h' (fun x hx => .inl hx)
 refine hk w8 _ B8 ?_ ?_ (tr (tr (tr (tr (tr (tr (tr (tr (F0.mono (by simp)) F1) F2) F3) F4) F5) F6) F7) F8)
 ·intro j hj
  unfold updC
  have:j=0∨j=1∨j=2∨j=3∨j=4∨j=5∨j=6∨j=7:=by omega
  rcases this with rfl|rfl|rfl|rfl|rfl|rfl|rfl|rfl
  ·rw [if_neg (by omega),if_neg (by omega),if_neg (by omega),if_neg (by omega),if_neg (by omega),if_neg (by omega),if_neg (by omega),if_pos rfl]
  ·rw [if_neg (by omega),if_neg (by omega),if_neg (by omega),if_neg (by omega),if_neg (by omega),if_neg (by omega),if_pos rfl]
  ·rw [if_neg (by omega),if_neg (by omega),if_neg (by omega),if_neg (by omega),if_neg (by omega),if_pos rfl]
  ·rw [if_neg (by omega),if_neg (by omega),if_neg (by omega),if_neg (by omega),if_pos rfl]
  ·rw [if_neg (by omega),if_neg (by omega),if_neg (by omega),if_pos rfl]
  ·rw [if_neg (by omega),if_neg (by omega),if_pos rfl]
  ·rw [if_neg (by omega),if_pos rfl]
  ·rw [if_pos rfl]
 ·intro i hi
  unfold updC
  rw [if_neg (by omega),if_neg (by omega),if_neg (by omega),if_neg (by omega),if_neg (by omega),if_neg (by omega),if_neg (by omega),if_neg (by omega)]
end
section
variable {w:World} {ob cap n:Nat} {pl:List Nat}
theorem c161 {K:Unit→PT} (H:VecU w ⟨some ⟨ob,0,none⟩,pl.length,cap⟩ pl) (h8:pl.length+8≤cap) (hn:n<2^64) {k:Nat} (hk8:k≤8)
  (hk:∀w',VecU w' ⟨some ⟨ob,0,none⟩,pl.length+k,cap⟩ (pl++leB n k)→Fm w w' [ob]→K () w') :
  callP Tryd.prog 161 #[.slice (some ⟨ob,0,none⟩) cap cap,.int .i64 ((pl.length:Nat):Int),.int .u64 (n:Nat)] [] K w:=by
 apply q161_ok (s0:=⟨some ⟨ob,0,none⟩,cap,cap⟩)
 unfold q161 drw
 obtain ⟨h1,h2,f,h3,h4,h5⟩:=H.vec.blk _ rfl
 have hu:=H.u8 _ rfl
 simp only at hu h3
 simp only [ldL]
 refine slc_lo (n:=pl.length) rfl (by show pl.length≤cap;omega) ?_
 have ea:slA (some ⟨ob,0,none⟩) pl.length cap 1=some ⟨ob,pl.length,none⟩:=by
  unfold slA
  rw [if_neg (by omega)]
  simp [add_mk]
 simp only [ea]
 have huf:∀i,i<cap→∃x:Int,f i=some (.int .u8 x):=by
  intro i hi
  obtain ⟨x,hx⟩:=hu i hi
  rw [h3.cell] at hx
  exact ⟨x,hx⟩
 refine c164 h3.drew (by omega) (huf _ (by omega)) (fun j hj=>h5 _ (by simp only;omega)) hn ?_
 intro w1 F' B1 hF1 hF2 F1
 have F01:Fm w w1 [ob]:=(Fm.refl w [ob]).drew.trans F1 (fun x hx => .inl hx)
 refine hk w1 ⟨⟨?_,?_,?_,?_⟩,?_,H.c63⟩ F01
 ·rw [bytes_len,List.length_append,leB_len];simp only;omega
 ·show pl.length+k≤cap;omega
 ·intro h;cases h
 ·intro a ha
  injection ha with ha
  subst ha
  refine ⟨rfl,rfl,F',B1,?_,?_⟩
  ·intro i hi
   rw [bytes_len,List.length_append,leB_len] at hi
   unfold bytes
   rw [List.getElem?_map]
   by_cases h:i<pl.length
   ·rw [hF2 i (.inl h),h4 i (by rw [bytes_len];exact h),List.getElem?_append_left h]
    unfold bytes
    rw [List.getElem?_map]
   ·have e:i=pl.length+(i-pl.length):=by omega
    rw [List.getElem?_append_right (by omega),leB_get (by omega)]
    conv=>lhs;rw [e]
    rw [hF1 _ (by omega)]
    rfl
  ·intro i hi
   simp only [Nat.mul_one] at hi
   by_cases h:i<pl.length∨pl.length+8≤i
   ·rw [hF2 i h];exact h5 i (by simp only;omega)
   ·have:=hF1 (i-pl.length) (by omega)
    rw [show pl.length+(i-pl.length)=i by omega] at this
    rw [this];rfl
 ·intro a ha i hi
  injection ha with ha
  subst ha
  show ∃x:Int,_
  rw [B1.cell]
  by_cases h:i<pl.length∨pl.length+8≤i
  ·rw [hF2 i h];exact huf i hi
  ·have:=hF1 (i-pl.length) (by omega)
   rw [show pl.length+(i-pl.length)=i by omega] at this
   exact ⟨_,this⟩
end
def q3C (a b c:Value):Cells:=fun i=>match i with
 | 0=>some a
 | 1=>some b
 | 2=>some c
 | _=>none
theorem q3_0 (a b c x:Value):updC (q3C a b c) 0 x=q3C x b c:=by funext i;rcases i with _|_|_|i<;>simp [updC,q3C]
theorem q3_1 (a b c x:Value):updC (q3C a b c) 1 x=q3C a x c:=by funext i;rcases i with _|_|_|i<;>simp [updC,q3C]
theorem q3_2 (a b c x:Value):updC (q3C a b c) 2 x=q3C a b x:=by funext i;rcases i with _|_|_|i<;>simp [updC,q3C]
theorem nw_3 {w:World} {a b c:Value} {T:TypeId} {κ:Addr→PT} (hk:∀w',Fm w w' []→w'.heap.size=w.heap.size+1→Blk w' w.heap.size (q3C a b c)→κ ⟨w.heap.size,0,none⟩ w'):nw [a,b,c] T κ w :=
 hk _ (Fm.refl w []).alloc (World.size_alloc _ _) (Blk.new.congr (by funext i;rcases i with _|_|_|i<;>simp [q3C]))
section
variable {w:World} {ob cap c nb:Nat} {pl:List Nat}
theorem c149 {K:(Int×Int×Int)→PT} (H:VecU w ⟨some ⟨ob,0,none⟩,pl.length,cap⟩ pl) (h8:pl.length+8≤cap) (hcap:cap<2^63) (hn:nb<64) (hc:c<2^nb)
  (hk:∀w',VecU w' ⟨some ⟨ob,0,none⟩,pl.length+nb/8,cap⟩ (pl++leB c (nb/8))→Fm w w' [ob]→K (((c/2^(8*(nb/8)):Nat):Int),((nb%8:Nat):Int),((pl.length+nb/8:Nat):Int)) w') :
  callP Tryd.prog 149 #[.agg ⟨[.int .u64 (c:Nat),.int .u64 (nb:Nat),.int .i64 ((pl.length:Nat):Int)]⟩,.slice (some ⟨ob,0,none⟩) cap cap] [.m [(.I .u64),(.I .u64),(.I .i64)]] K w:=by
 have hc64:c<2^64:=Nat.lt_of_lt_of_le hc (Nat.pow_le_pow_right (by omega) (by omega))
 apply q149_ok (r0:=(((c:Nat):Int),((nb:Nat):Int),((pl.length:Nat):Int))) (s1:=⟨some ⟨ob,0,none⟩,cap,cap⟩)
 unfold q149
 have hol:=H.lt ob (by simp [Sl.bs])
 refine nw_3 ?_
 intro w1 F1 hs1 B1
 refine nw_3 ?_
 intro w2 F2 hs2 B2
 have d1:w.heap.size≠w1.heap.size:=by omega
 have d2:ob≠w.heap.size:=by omega
 have d3:ob≠w1.heap.size:=by omega
 have hb1:w.heap.size≤w.heap.size:=Nat.le_refl _
 have hb2:w.heap.size≤w1.heap.size:=by omega
 generalize hb:w.heap.size=b at *
 generalize w1.heap.size=b' at *
 have B1':=B1.fr F2 (by simp)
 have H2:=(H.fr F1 (by simp)).fr F2 (by simp)
 simp only [add_mk,Nat.zero_add]
 refine ld_b (t := .I .i64) (x:=((pl.length:Nat):Int)) B1' rfl ?_
 refine ld_b (t := .I .u64) (x:=((c:Nat):Int)) B1' rfl ?_
 refine c161 H2 h8 hc64 (k:=nb/8) (by omega) ?_
 intro w3 H3 F3
 have B3:=B1'.fr F3 (nm1 d2.symm)
 refine ld_b (t := .I .i64) (x:=((pl.length:Nat):Int)) B3 rfl ?_
 refine ld_b (t := .I .u64) (x:=((nb:Nat):Int)) B3 rfl ?_
 refine ⟨by decide,?_⟩
 have e1:IntKind.i64.wrap (((pl.length:Nat):Int)+IntKind.i64.wrap (shrI .u64 ((nb:Nat):Int) 3))=((pl.length+nb/8:Nat):Int):=by
  rw [show (3:Int)=((3:Nat):Int) from rfl,shrI_nat _ _ _ (by simp only [IntKind.bits];omega),show (2:Nat)^3=8 from rfl,wI64 (x:=((nb/8:Nat):Int)) (by omega) (by omega),wI64 (by omega) (by omega)]
  omega
 rw [e1]
 refine st_u B3 rfl rfl ?_
 intro w4 B4 F4
 rw [q3_2] at B4
 refine ld_b (t := .I .u64) (x:=((c:Nat):Int)) B4 rfl ?_
 refine ld_b (t := .I .u64) (x:=((nb:Nat):Int)) B4 rfl ?_
 rw [andNot7 hn,and63w (n:=8*(nb/8)) (by omega),shrI_nat _ _ _ (by simp only [IntKind.bits];exact hc64)]
 refine ⟨by omega,?_⟩
 refine st_u B4 rfl rfl ?_
 intro w5 B5 F5
 rw [q3_0] at B5
 refine ld_b (t := .I .u64) (x:=((nb:Nat):Int)) B5 rfl ?_
 rw [and7 (by omega)]
 refine st_u B5 rfl rfl ?_
 intro w6 B6 F6
 rw [q3_1] at B6
 show ld _ _ _ _
 simp only [add_mk,Nat.add_zero]
 refine ld_b (t := .I .u64) (x:=((c/2^(8*(nb/8)):Nat):Int)) B6 rfl ?_
 show ld _ _ _ _
 simp only [add_mk,Nat.zero_add]
 refine ld_b (t := .I .u64) (x:=((nb%8:Nat):Int)) B6 rfl ?_
 show ld _ _ _ _
 simp only [add_mk,Nat.zero_add]
 refine ld_b (t := .I .i64) (x:=((pl.length+nb/8:Nat):Int)) B6 rfl ?_
 have F36:Fm w3 w6 [b]:=(F4.trans F5 (fun x hx => .inl hx)).trans F6 (fun x hx => .inl hx)
 have B2':=((B2.fr F3 (nm1 d3.symm)).fr F36 (nm1 d1.symm))
 show st _ _ (st _ _ (st _ _ _)) _
 simp only [add_mk,Nat.add_zero,Nat.zero_add]
 refine st_u B2' rfl rfl ?_
 intro w7 B7 F7
 rw [q3_0] at B7
 refine st_u B7 rfl rfl ?_
 intro w8 B8 F8
 rw [q3_1] at B8
 refine st_u B8 rfl rfl ?_
 intro w9 B9 F9
 rw [q3_2] at B9
 have F69:Fm w6 w9 [b']:=(F7.trans F8 (fun x hx => .inl hx)).trans F9 (fun x hx => .inl hx)
 show ld _ _ _ _
 simp only [add_mk,Nat.add_zero]
 refine ld_b (t := .I .u64) (x:=((c/2^(8*(nb/8)):Nat):Int)) B9 rfl ?_
 show ld _ _ _ _
 simp only [add_mk,Nat.zero_add]
 refine ld_b (t := .I .u64) (x:=((nb%8:Nat):Int)) B9 rfl ?_
 show ld _ _ _ _
 simp only [add_mk,Nat.zero_add]
 refine ld_b (t := .I .i64) (x:=((pl.length+nb/8:Nat):Int)) B9 rfl ?_
 refine hk w9 ((H3.fr F36 (by simp [Sl.bs];exact d2)).fr F69 (by simp [Sl.bs];exact d3)) ((((F1.trans F2 (by simp)).mono (S' := [ob]) (by simp)).trans F3 (fun x hx => .inl hx)).trans F36 ?_ |>.trans F69 ?_)
 ·intro v hv;simp at hv;right;omega
 ·intro v hv;simp at hv;right;omega
end
end Go.Sx
