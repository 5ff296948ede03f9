/- Lemmas for the proof: H65 H66 H67 H68 H69 H70 H71 Z5. No conditions. -/
import Derived.Test.YtlnhldlhmplphaaDoorS12A09
set_option linter.unusedVariables false
set_option linter.unusedSimpArgs false
namespace Go.Sx
open Go Go.Proofs
set_option maxRecDepth 4000
theorem ldA_b {w:World} {b n:Nat} {F:Cells} {κ:Array Value→PT} (B:Blk w b F) (hF:∀i,i<n→(F i).isSome) (hk:∀cs:Array Value,cs.size=n→(∀i,i<n→cs[i]? = F i)→κ cs w):ldA n ⟨b,0,none⟩ κ w:=by
 have hg:∀i,i<n→((List.range n).map fun i=>(F i).getD default)[i]? = F i:=by
  intro i hi
  have h:=hF i hi
  rw [List.getElem?_map,List.getElem?_range hi]
  cases hf:F i with
  | none=>rw [hf] at h;cases h
  | some v=>simp [hf]
 refine ⟨⟨(List.range n).map fun i=>(F i).getD default⟩,by simp,?_,hk _ (by simp) ?_⟩
 ·intro i hi
  rw [add_mk,Nat.zero_add,B.cell,List.getElem?_toArray,hg i hi]
 ·intro i hi
  rw [List.getElem?_toArray,hg i hi]
theorem stA_b {w:World} {b n:Nat} {F:Cells} {cs:Array Value} {κ:PT} (B:Blk w b F) (hF:∀i,i<n→(F i).isSome) (hs:cs.size=n) (h1:∀i v,i<n→cs[i]? = some v→one v=true) (hk:∀w',Blk w' b (fun i=>if i<n then cs[i]? else F i)→Fm w w' [b]→κ w'):stA n ⟨b,0,none⟩ cs κ w:=by
 have hl:cs.toList.length=n:=by simpa using hs
 refine ⟨hs,?_,?_⟩
 ·intro i v hv
  have hi:i<n:=by
   have:=Array.getElem?_eq_some_iff.mp hv
   obtain ⟨h,_⟩:=this
   omega
  rw [add_mk,Nat.zero_add]
  exact ⟨h1 i v hi hv,canSt_b B (hF i hi)⟩
 ·refine hk _ ((B.setL (fun i hi=>by rw [Nat.zero_add];exact hF i (by rw [hl] at hi;exact hi))).congr ?_) ((Fm.refl w _).setL (.inl (by simp)))
  funext i
  unfold updL
  rw [hl,Nat.sub_zero,Nat.zero_add]
  by_cases hi:i<n
  ·rw [if_pos ⟨Nat.zero_le _,hi⟩,if_pos hi];simp
  ·rw [if_neg (fun h=>hi h.2),if_neg hi]
structure CMx (cnt:Nat→Nat) (i m L:Nat):Prop where
 le:∀j,j<i→cnt j≤m
 ex:m=0∨∃j,j<i∧cnt j=m
 li:L≤i
 out:∀j,L≤j→j<i→cnt j=0
 last:L=0∨0<cnt (L-1)
theorem CMx.step {cnt:Nat→Nat} {i m L:Nat} (h:CMx cnt i m L):CMx cnt (i+1) (if m<cnt i then cnt i else m) (if cnt i≠0 then i+1 else L):=by
 refine ⟨?_,?_,?_,?_,?_⟩
 ·intro j hj
  by_cases e:j=i
  ·subst e;split<;>omega
  ·have:=h.le j (by omega);split<;>omega
 ·by_cases e:m<cnt i
  ·rw [if_pos e];exact .inr ⟨i,by omega,rfl⟩
  ·rw [if_neg e];exact h.ex.imp id (fun ⟨j,h1,h2⟩=>⟨j,by omega,h2⟩)
 ·have:=h.li;split<;>omega
 ·intro j h1 h2
  by_cases e:cnt i≠0
  ·rw [if_pos e] at h1;omega
  ·rw [if_neg e] at h1
   by_cases e2:j=i
   ·subst e2;omega
   ·exact h.out j h1 (by omega)
 ·by_cases e:cnt i≠0
  ·rw [if_pos e];right;rw [Nat.add_sub_cancel];omega
  ·rw [if_neg e];exact h.last
theorem CMx.two {cnt:Nat→Nat} {m L:Nat} (h:CMx cnt 256 m L) {a b:Nat} (hab:a≠b) (ha:a<256) (hb:b<256) (ha0:0<cnt a) (hb0:0<cnt b):2≤L∧m<sF cnt 0 256:=by
 have hl:∀j,j<256→0<cnt j→j<L:=fun j hj h0=>Classical.byContradiction fun hn=>by have:=h.out j (by omega) hj;omega
 have h1:=hl a ha ha0
 have h2:=hl b hb hb0
 refine ⟨by omega,?_⟩
 have h3:=sF_two (g:=cnt) hab ha hb
 rcases h.ex with h4|⟨j,hj,h4⟩
 ·omega
 ·by_cases e:j=a
  ·subst e;omega
  ·have:=sF_two (g:=cnt) e hj ha;omega
theorem CMx.ab {cnt:Nat→Nat} {m L:Nat} (h:CMx cnt 256 m L) (hL:2≤L) (hm:m≠sF cnt 0 256):∃a,a<L-1∧0<cnt a:=by
 refine Classical.byContradiction fun hn=>hm ?_
 have hL0:0<cnt (L-1):=h.last.resolve_left (by omega)
 have hli:=h.li
 have hz:∀j,j<256→j≠L-1→cnt j=0:=by
  intro j hj hne
  by_cases h1:j<L-1
  ·have:¬0<cnt j:=fun h0=>hn ⟨j,h1,h0⟩
   omega
  ·exact h.out j (by omega) hj
 have hs:sF cnt 0 256=cnt (L-1):=sF_single (by omega) (fun j hj hne=>hz j hj hne)
 rw [hs]
 have h1:=h.le (L-1) (by omega)
 rcases h.ex with h4|⟨j,hj,h4⟩
 ·omega
 ·by_cases e:j=L-1
  ·rw [←h4,e]
  ·have:=hz j hj e;omega
section
variable {w:World} {g t:Nat} {s:HU} {col:Nat→Nat} {cnt:Nat→Nat} {K2:Value→PT}
theorem t74_cnt {c11:Array Value} {R9:Int×Int×Int→PT} (hcnt:∀i,i<256→cnt i≤2^18) (hc:∀i,i<256→c11[i]? = some (.int .u32 (cnt i:Nat)))
  (hk:∀m L,CMx cnt 256 m L→R9 (((sF cnt 0 256:Nat):Int),(m:Int),(L:Int)) w):loopP ((0:Int),(0:Int),(0:Int),(0:Int)) (q74_L2 R9 c11) w:=by
 refine ⟨fun x w'=>w'=w∧∃i m L:Nat,x=(((sF cnt 0 i:Nat):Int),(m:Int),(L:Int),(i:Int))∧i≤256∧CMx cnt i m L,fun x _=>256-x.2.2.2.toNat,⟨rfl,0,0,0,rfl,by decide,⟨fun j hj=>absurd hj (Nat.not_lt_zero _),.inl rfl,Nat.le_refl _,fun j _ hj=>absurd hj (Nat.not_lt_zero _),.inl rfl⟩⟩,?_⟩
 rintro x w1 ⟨rfl,i,m,L,rfl,hi,H⟩
 unfold q74_L2
 simp only
 refine cnd_d ?_ ?_
 ·intro hc0
  have hi2:i<256:=by omega
  have hci:=hcnt i hi2
  have hsm:sF cnt 0 i≤i*2^18:=sF_le_mul (fun j hj=>hcnt j (by omega))
  have hm:m≤2^18:=by
   rcases H.ex with h|⟨j,hj,h⟩
   ·omega
   ·have:=hcnt j (by omega);omega
  refine joinP_id ⟨i,rfl,hi2,((cnt i:Nat):Int),hc i hi2,?_⟩
  have ew:IntKind.i64.wrap ((cnt i:Nat):Int)=((cnt i:Nat):Int):=wI64 (by omega) (by omega)
  have fin:∀m':Nat,m'=(if m<cnt i then cnt i else m)→q74_J0 (((sF cnt 0 i:Nat):Int),(m:Int),(L:Int),(i:Int)) (q74_J1 (((sF cnt 0 i:Nat):Int),(m:Int),(L:Int),(i:Int)) (fun s' w'=>(w'=w1∧∃i m L:Nat,s'=(((sF cnt 0 i:Nat):Int),(m:Int),(L:Int),(i:Int))∧i≤256∧CMx cnt i m L)∧256-s'.2.2.2.toNat<256-((i:Nat):Int).toNat)) ((cnt i:Nat):Int) (m':Int) w1:=by
   intro m' hm'
   unfold q74_J0
   simp only
   rw [ew,wI64 (x:=((sF cnt 0 i:Nat):Int)+((cnt i:Nat):Int)) (by omega) (by omega),wU16 (x:=(i:Int)) (by omega) (by omega),wU16 (x:=(i:Int)+1) (by omega) (by omega)]
   have es:((sF cnt 0 i:Nat):Int)+((cnt i:Nat):Int)=((sF cnt 0 (i+1):Nat):Int):=by rw [sF,Nat.zero_add];omega
   have hst:=H.step
   rw [←hm'] at hst
   refine cnd_nd (fun h => ?_) (fun h => ?_)
   ·have h':cnt i≠0:=by omega
    rw [if_pos h'] at hst
    unfold q74_J1
    simp only
    rw [wI64 (x:=(i:Int)+1) (by omega) (by omega),es]
    exact ⟨⟨trivial,i+1,m',i+1,by simp,hi2,hst⟩,by first|omega|(dsimp only;omega)⟩
   ·have h':¬cnt i≠0:=by omega
    rw [if_neg h'] at hst
    unfold q74_J1
    simp only
    rw [wI64 (x:=(i:Int)+1) (by omega) (by omega),es]
    exact ⟨⟨trivial,i+1,m',L,by simp,hi2,hst⟩,by first|omega|(dsimp only;omega)⟩
  refine joinP_id ?_
  rw [ew]
  refine cnd_d (fun h => ?_) (fun h => ?_)
  ·exact fin (cnt i) (by rw [if_pos (by omega)])
  ·exact fin m (by rw [if_neg (by omega)])
 ·intro hc0
  have hi2:i=256:=by omega
  subst hi2
  exact hk m L H
theorem t74_sh {S:Nat} {xb xc:Int} {R24:Int→PT} (hS:S≤2^26) (hk:∀k:Nat,k≤9→SHk S k→R24 (k:Int) w):loopP (0:Int) (q74_L3 (((S:Nat):Int),xb,xc) R24) w:=by
 refine ⟨fun x w'=>w'=w∧∃k:Nat,x=(k:Int)∧k≤9∧∀j,j<k→262143<S/2^j,fun x _=>10-x.toNat,⟨rfl,0,rfl,by decide,fun j hj=>absurd hj (Nat.not_lt_zero _)⟩,?_⟩
 rintro x w1 ⟨rfl,k,rfl,hk9,hj⟩
 unfold q74_L3
 refine ⟨by omega,?_⟩
 simp only
 rw [shrI_nat _ _ _ (by simp only [IntKind.bits];omega)]
 refine cnd_d ?_ ?_
 ·intro hc
  have h2:262143<S/2^k:=by omega
  have hk8:k≠9:=by
   intro e
   subst e
   have:S/2^9≤2^26/2^9:=Nat.div_le_div_right hS
   have e2:(2:Nat)^26/2^9=131072:=by decide
   omega
  rw [wU64 (by omega) (by omega)]
  refine ⟨⟨rfl,k+1,by simp,by omega,?_⟩,by first|omega|(dsimp only;omega)⟩
  intro j hj2
  by_cases e:j=k
  ·subst e;exact h2
  ·exact hj j (by omega)
 ·intro hc
  exact hk k hk9 ⟨by omega,hj⟩
def scF (k i:Nat) (cnt:Nat→Nat):Nat→Int:=fun j=>if j<i then ((scN k (cnt j):Nat):Int) else ((cnt j:Nat):Int)
theorem t74_sc {c30:Array Value} {k:Nat} {rv:Value} {R28:Int×Int→PT} (hk9:k≤9) (hcnt:∀i,i<256→cnt i≤2^18) (hc:∀i,i<256→c30[i]? = some (.int .u32 (cnt i:Nat))) (B:Blk w g ({ s with count:=scF k 0 cnt } : HU).at)
  (hk:∀w' m L,Blk w' g ({ s with count:=scF k 256 cnt } : HU).at→Fm w w' [g]→CMx (fun i=>scN k (cnt i)) 256 m L→R28 (((sF (fun i=>scN k (cnt i)) 0 256:Nat):Int),(m:Int)) w') :
  loopP ((0:Int),(0:Int),(0:Int)) (q74_L7 (some ⟨g,0,none⟩,rv) (k:Int) R28 c30) w:=by
 refine ⟨fun x w'=>∃i m L:Nat,x=(((sF (fun i=>scN k (cnt i)) 0 i:Nat):Int),(m:Int),(i:Int))∧i≤256∧CMx (fun i=>scN k (cnt i)) i m L∧Blk w' g ({ s with count:=scF k i cnt } : HU).at∧Fm w w' [g],fun x _=>256-x.2.2.toNat,⟨0,0,0,rfl,by decide,⟨fun j hj=>absurd hj (Nat.not_lt_zero _),.inl rfl,Nat.le_refl _,fun j _ hj=>absurd hj (Nat.not_lt_zero _),.inl rfl⟩,B,Fm.refl _ _⟩,?_⟩
 rintro x w1 ⟨i,m,L,rfl,hi,H,B1,F1⟩
 have hsc:∀i,i<256→scN k (cnt i)≤2^18+1:=by
  intro i hi
  have h1:=scN_le k (cnt i)
  have h2:=hcnt i hi
  have h3:=Nat.div_le_self (cnt i) (2^k)
  omega
 unfold q74_L7
 simp only
 refine cnd_d ?_ ?_
 ·intro hc0
  have hi2:i<256:=by omega
  have hci:=hcnt i hi2
  have hsi:=hsc i hi2
  have hsm:sF (fun i=>scN k (cnt i)) 0 i≤i*(2^18+1):=sF_le_mul (fun j hj=>hsc j (by omega))
  have hm:m≤2^18+1:=by
   rcases H.ex with h|⟨j,hj,h⟩
   ·omega
   ·have:=hsc j (by omega);omega
  have hst:=H.step
  have es:((sF (fun i=>scN k (cnt i)) 0 i:Nat):Int)+((scN k (cnt i):Nat):Int)=((sF (fun i=>scN k (cnt i)) 0 (i+1):Nat):Int):=by rw [sF,Nat.zero_add];omega
  refine joinP_id ?_
  unfold q74_X6
  refine ⟨i,rfl,hi2,((cnt i:Nat):Int),hc i hi2,?_⟩
  refine cnd_d ?_ ?_
  ·intro h0
   have h0':cnt i=0:=by omega
   have hs0:scN k (cnt i)=0:=by
    have h5:=scN_pos (k:=k) (v:=cnt i)
    have:¬0<scN k (cnt i):=fun h=>by have:=h5.mp h;omega
    omega
   rw [hs0,if_neg (by omega),if_neg (by omega)] at hst
   unfold q74_J5
   simp only
   rw [wI64 (by omega) (by omega)]
   rw [hs0] at es
   refine ⟨⟨i+1,m,L,?_,hi2,hst,B1.congr ?_,F1⟩,by first|omega|(dsimp only;omega)⟩
   ·rw [Prod.mk.injEq,Prod.mk.injEq];exact ⟨by omega,rfl,by omega⟩
   ·have:scF k i cnt=scF k (i+1) cnt:=by
     funext j
     unfold scF
     by_cases e:j=i
     ·subst e;rw [if_neg (by omega),if_pos (by omega),hs0,h0']
     ·by_cases e2:j<i
      ·rw [if_pos e2,if_pos (by omega)]
      ·rw [if_neg e2,if_neg (by omega)]
    rw [this]
  ·intro h0
   have h0':0<cnt i:=by omega
   have hs0:0<scN k (cnt i):=scN_pos.mpr h0'
   refine ⟨by omega,?_⟩
   have hp:2^k≤2^9:=Nat.pow_le_pow_right (by omega) hk9
   have hp1:=Nat.two_pow_pos k
   have e1:shlI .u32 (1:Int) (k:Int)=((2^k:Nat):Int):=by
    have:=shlI_nat .u32 1 k (by simp only [IntKind.bits];omega) (by rw [Nat.one_mul];simp only [IntKind.bits];omega)
    rw [Nat.one_mul] at this
    exact this
   have e2:shrI .u32 (IntKind.wrap .u32 (((cnt i:Nat):Int)+(IntKind.wrap .u32 ((shlI .u32 (1:Int) (k:Int))-(1:Int))))) (k:Int)=((scN k (cnt i):Nat):Int):=by
    rw [e1,show ((2^k:Nat):Int)-1=((2^k-1:Nat):Int) by omega,wU32 (x:=((2^k-1:Nat):Int)) (by omega) (by omega), ←Int.natCast_add,wU32 (by omega) (by omega),shrI_nat _ _ _ (by simp only [IntKind.bits];omega)]
    rfl
   rw [e2]
   have fin:q74_J4 (some ⟨g,0,none⟩,rv) (((sF (fun i=>scN k (cnt i)) 0 i:Nat):Int),(m:Int),(i:Int)) (q74_J5 (((sF (fun i=>scN k (cnt i)) 0 i:Nat):Int),(m:Int),(i:Int)) (fun s' w'=>(∃i m L:Nat,s'=(((sF (fun i=>scN k (cnt i)) 0 i:Nat):Int),(m:Int),(i:Int))∧i≤256∧CMx (fun i=>scN k (cnt i)) i m L∧Blk w' g ({ s with count:=scF k i cnt } : HU).at∧Fm w w' [g])∧256-s'.2.2.toNat<256-((i:Nat):Int).toNat)) ((scN k (cnt i):Nat):Int) w1:=by
    unfold q74_J4
    simp only
    refine ⟨_,rfl,?_⟩
    refine ixA_o rfl hi2 ?_
    rw [Nat.zero_add]
    refine st_u B1 (by rw [HU.count_at _ hi2];rfl) rfl ?_
    intro w2 B2 F2
    have B2':Blk w2 g ({ s with count:=scF k (i+1) cnt } : HU).at:=by
     refine B2.congr ((HU.setC (s := { s with count:=scF k i cnt }) hi2).trans ?_)
     have:updF (scF k i cnt) i ((scN k (cnt i):Nat):Int)=scF k (i+1) cnt:=by
      funext j
      unfold updF scF
      by_cases e:j=i
      ·subst e;rw [if_pos rfl,if_pos (by omega)]
      ·rw [if_neg e]
       by_cases e2:j<i
       ·rw [if_pos e2,if_pos (by omega)]
       ·rw [if_neg e2,if_neg (by omega)]
     show ({ s with count:=updF (scF k i cnt) i ((scN k (cnt i):Nat):Int) } : HU).at=_
     rw [this]
    have F12:Fm w w2 [g]:=F1.trans F2 (fun x hx => .inl hx)
    rw [wI64 (x:=((scN k (cnt i):Nat):Int)) (by omega) (by omega),wI64 (x:=((sF (fun i=>scN k (cnt i)) 0 i:Nat):Int)+((scN k (cnt i):Nat):Int)) (by omega) (by omega),es]
    rw [if_pos (c:=scN k (cnt i)≠0) (by omega)] at hst
    refine cnd_d (fun h => ?_) (fun h => ?_)
    ·rw [if_pos (by omega)] at hst
     unfold q74_J5
     simp only
     rw [wI64 (by omega) (by omega)]
     exact ⟨⟨i+1,_,_,by simp,hi2,hst,B2',F12⟩,by first|omega|(dsimp only;omega)⟩
    ·rw [if_neg (by omega)] at hst
     unfold q74_J5
     simp only
     rw [wI64 (by omega) (by omega)]
     exact ⟨⟨i+1,_,_,by simp,hi2,hst,B2',F12⟩,by first|omega|(dsimp only;omega)⟩
   refine joinP_id ?_
   refine cnd_d (fun h=>absurd h (by omega)) (fun _=>fin)
 ·intro hc0
  have hi2:i=256:=by omega
  subst hi2
  exact hk w1 m L B1 F1 H
structure BR (cnt:Nat→Nat) (L k M:Nat) (ln:Nat→Nat):Prop where
 l2:2≤L
 l256:L≤256
 last:0<cnt (L-1)
 out:∀i,L≤i→i<256→cnt i=0
 two:∃a,a<L-1∧0<cnt a
 sh:SHk (sF cnt 0 256) k
 ht:HT (fun i=>scN k (cnt i)) L M ln
 lr:LenR (fun i=>scN k (cnt i)) L (sF (fun i=>scN k (cnt i)) 0 256) 11 M ln
theorem BR.uniq {cnt ln ln':Nat→Nat} {L L' k k' M M':Nat} (h:BR cnt L k M ln) (h':BR cnt L' k' M' ln'):L=L'∧M=M'∧ln=ln':=by
 have key:∀ {A B kA kB MA MB:Nat} {la lb:Nat→Nat},BR cnt A kA MA la→BR cnt B kB MB lb→B≤A:=by
  intro A B kA kB MA MB la lb hA hB
  refine Classical.byContradiction fun hn => ?_
  have h1:=hA.out (B-1) (by omega) (by have:=hB.l256;have:=hB.l2;omega)
  have:=hB.last
  omega
 have e1:L=L':=by have:=key h h';have:=key h' h;omega
 subst e1
 have e2:=h.sh.uniq h'.sh
 subst e2
 exact ⟨rfl,h.lr.uniq h'.lr⟩
theorem c74 {cb:Nat} (W:HW w g s col) (htl0:s.tl=0) (hpt:s.pt=⟨none,0,0⟩) (C:Blk w cb (arrC .u32 256 fun i=>((cnt i:Nat):Int))) (hcol:¬own (col cb)) (hcnt:∀i,i<256→cnt i≤2^18)
  (hk0:∀w' v,ER w' v→(∀a b,a≠b→a<256→b<256→0<cnt a→0<cnt b→False)→Fm w w' [g]→K2 v w')
  (hk1:∀w' s' col' M ln L k,BR cnt L k M ln→HW w' g s' col'→PTc w' s'.pt M ln L→s'.tl=11→s'.reuse=s.reuse→s'.wll=s.wll→s'.ptl=(M:Nat)→VecU w' s'.out []→GoW w w' col col'→FseC w' s'.fse col'→K2 .nilIface w') :
  callP Tryd.prog 74 #[.pointer (some ⟨g,0,none⟩),.pointer (some ⟨cb,0,none⟩)] [.c .V] K2 w:=by
 have hcg:cb≠g:=fun e=>hcol (by rw [e,W.cg];exact ⟨by decide,by decide⟩)
 have hsum:sF cnt 0 256≤256*2^18:=sF_le_mul (fun j hj=>hcnt j hj)
 apply q74_ok
 unfold q74
 refine ⟨(fun h=>by cases h),fun _=>⟨(fun h=>by cases h),fun _ => ?_⟩⟩
 refine c61 (s1:=⟨none,0,0⟩) (t:=0) W htl0 (by decide) (fun h=>absurd h ?_) ?_
 ·intro h
  rcases h with h|h
  ·exact absurd h (show ¬(262143<0) by decide)
  ·exact h (.inl htl0)
 intro _ w1 s1 col1 P R hc1 F1
 refine ⟨rfl,nil_cnd ?_⟩
 have htl1:s1.tl=((11:Nat):Int):=by
  rcases R.tl with h|h
  ·obtain ⟨t',h1,h2,_⟩:=P.tlP;omega
  ·exact h.2
 have C1:=C.fr F1 (nm1 hcg)
 refine ⟨_,rfl,?_⟩
 refine ldA_b C1 (fun i hi=>by rw [arrC_get hi];rfl) ?_
 intro c7 hs7 h7
 have h7':∀i,i<256→c7[i]? = some (.int .u32 ((cnt i:Nat):Int)):=fun i hi=>by rw [h7 i hi,arrC_get hi]
 refine ⟨_,rfl,?_⟩
 refine stA_b P.blk (fun i hi=>by rw [HU.count_at _ hi];rfl) hs7 (fun i v hi hv=>by rw [h7' i hi] at hv;injection hv with hv;rw [←hv];rfl) ?_
 intro w2 B2 F2
 have B2':Blk w2 g ({ s1 with count:=fun i=>((cnt i:Nat):Int) } : HU).at:=by
  refine B2.congr ?_
  funext i
  unfold HU.at
  by_cases hi:i<256
  ·rw [if_pos hi,if_pos hi,h7' i hi]
  ·rw [if_neg hi,if_neg hi,if_neg hi];rfl
 refine joinP_id ⟨_,rfl,?_⟩
 refine ldA_b B2' (fun i hi=>by rw [HU.count_at _ hi];rfl) ?_
 intro c11 hs11 h11
 refine t74_cnt hcnt (fun i hi=>by rw [h11 i hi,HU.count_at _ hi]) ?_
 intro m L H
 have hown:∀v ∈ [g],v<w.heap.size→own (col v):=by intro v hv _;simp at hv;subst hv;rw [W.cg];exact ⟨by decide,by decide⟩
 have G1:GoW w w1 col col1:=GoW.of F1 hown hc1
 have hcg1:col1 g=1:=P.cg
 have hown1:∀v ∈ [g],v<w1.heap.size→own (col1 v):=by intro v hv _;simp at hv;subst hv;rw [hcg1];exact ⟨by decide,by decide⟩
 have F02:Fm w w2 [g]:=F1.trans F2 (fun x hx => .inl hx)
 unfold q74_J12
 simp only
 have n9:∀v ∈ [g],9≤v:=by intro v hv;simp at hv;rw [hv];exact W.g9
 have er1:∀ {w3:World} (F3:Fm w w3 [g]) (hn:∀a b,a≠b→a<256→b<256→0<cnt a→0<cnt b→False),(ld .V ⟨1,0,none⟩ fun (v22:Value)=>K2 v22) w3:=by
  intro w3 F3 hn
  obtain ⟨v,h1,h2,h3⟩:=(W.er 1 (by decide)).fm F3 (fun h=>by have:=n9 1 h;omega)
  exact ⟨v,h1,hk0 w3 v (.inl ⟨⟨1,by decide,h1⟩,h2⟩) hn F3⟩
 refine cnd_d (fun h0 => ?_) (fun h0=>cnd_d (fun hL => ?_) (fun hL=>cnd_d (fun hmS => ?_) (fun hmS => ?_)))
 ·refine c62e ?_
  intro w3 v F3 hv _
  refine hk0 w3 v hv ?_ (F02.trans F3 (by simp))
  intro a b hab ha hb ha0 hb0
  have:=(H.two hab ha hb ha0 hb0).2
  omega
 ·exact er1 F02 (fun a b hab ha hb ha0 hb0=>by have:=(H.two hab ha hb ha0 hb0).1;omega)
 ·exact er1 F02 (fun a b hab ha hb ha0 hb0=>by have:=(H.two hab ha hb ha0 hb0).2;omega)
 have hL2:2≤L:=by omega
 have hL256:L≤256:=H.li
 have hmS':m≠sF cnt 0 256:=by omega
 obtain ⟨a0,ha0,ha0p⟩:=H.ab hL2 hmS'
 have hlast:0<cnt (L-1):=H.last.resolve_left (by omega)
 have fin:∀(k m2:Nat) (w3:World) (c':Nat→Int),SHk (sF cnt 0 256) k→k≤9→(∀i,i<256→c' i=((scN k (cnt i):Nat):Int))→Fm w1 w3 [g]→Blk w3 g ({ s1 with count:=c' } : HU).at→q74_J11 K2 (some ⟨g,0,none⟩,.nilIface) (((sF cnt 0 256:Nat):Int),(m:Int),(L:Int)) (((sF (fun i=>scN k (cnt i)) 0 256:Nat):Int),(m2:Int)) w3:=by
  intro k m2 w3 c' hS hk9 hc' F3 B3
  have hs1:=scN_sum cnt k 256
  have hS1:=hS.1
  have hle:=sF_mono_n (fun i=>scN k (cnt i)) hL256
  have hltc:∀i,i<256→scN k (cnt i)<2^18:=by
   intro i hi
   by_cases e:k=0
   ·subst e
    rw [scN_zero]
    have h1:=sF_mem cnt 0 (n:=256) (i:=i) (Nat.zero_le _) (by omega)
    rw [Nat.pow_zero,Nat.div_one] at hS1
    omega
   ·have h1:=scN_le k (cnt i)
    have h2:=hcnt i hi
    have h3:2^1≤2^k:=Nat.pow_le_pow_right (by omega) (by omega)
    have h4:cnt i/2^k≤cnt i/2^1:=Nat.div_le_div_left h3 (by decide)
    omega
  refine t74 (cnt:=fun i=>scN k (cnt i)) (t:=11) P (by rw [R.pt];exact hpt) F3 B3 hc' hL2 hL256 (fun i hi=>hltc i (by omega)) ⟨a0,L-1,by omega,by omega,by omega,scN_pos.mpr ha0p,scN_pos.mpr hlast⟩ hle (by omega) (by omega) htl1 (Nat.le_refl _) ?_
  intro w4 s4 col4 M ln hHT hLR W4 P4 t4 r4 l4 p4 o4 G4 f4
  have G13:GoW w1 w3 col1 col1:=GoW.of F3 hown1 (fun _ _=>rfl)
  refine hk1 w4 s4 col4 M ln L k ⟨hL2,hL256,hlast,fun i h1 h2=>H.out i h1 h2,⟨a0,ha0,ha0p⟩,hS,hHT,hLR⟩ W4 P4 (t4.trans htl1) (r4.trans R.reuse) (l4.trans R.wll) p4 o4 ((G1.trans G13).trans G4) f4
 refine joinP_id ?_
 refine cnd_d (fun hbig => ?_) (fun hsm => ?_)
 ·refine joinP_id ?_
  refine t74_sh (by omega) ?_
  intro k hk9 hS
  unfold q74_J9
  refine ⟨by omega,joinP_id ⟨_,rfl,?_⟩⟩
  have B2s:Blk w2 g ({ s1 with count:=scF k 0 cnt } : HU).at:=by
   refine B2'.congr ?_
   have:scF k 0 cnt=fun i=>((cnt i:Nat):Int):=by funext i;unfold scF;rw [if_neg (by omega)]
   rw [this]
  refine ldA_b B2' (fun i hi=>by rw [HU.count_at _ hi];rfl) ?_
  intro c30 hs30 h30
  refine t74_sc hk9 hcnt (fun i hi=>by rw [h30 i hi,HU.count_at _ hi]) B2s ?_
  intro w3 m3 L3 B3 F3 H3
  unfold q74_J8
  simp only
  refine cnd_d (fun he => ?_) (fun he => ?_)
  ·exact er1 (F02.trans F3 (fun x hx => .inl hx)) (fun a b hab ha hb ha0 hb0=>by have:=(H3.two hab ha hb (scN_pos.mpr ha0) (scN_pos.mpr hb0)).2;omega)
  ·exact fin k m3 w3 _ hS hk9 (fun i hi=>by unfold scF;rw [if_pos hi]) (F2.trans F3 (fun x hx => .inl hx)) B3
 ·have hS0:SHk (sF cnt 0 256) 0:=⟨by rw [Nat.pow_zero,Nat.div_one];omega,fun j hj=>absurd hj (Nat.not_lt_zero _)⟩
  have e0:(fun i=>scN 0 (cnt i))=cnt:=by funext i;exact scN_zero _
  have:=fin 0 m w2 _ hS0 (by decide) (fun i hi=>by rw [scN_zero]) F2 B2'
  rw [e0] at this
  exact this
end
theorem fm_new {w w1 w2:World} {col:Nat→Nat} (F1:Fm w w1 []) (hold:∀v,v<w.heap.size→¬own (col v)) (h:∃S,Fm w1 w2 S∧∀v∈S,v<w1.heap.size→own (col v)):Fm w w2 []:=by
 obtain ⟨S,F,hS⟩:=h
 refine F1.trans F ?_
 intro v hv
 right
 have hs:=F1.size
 rcases Nat.lt_or_ge v w.heap.size with h1|h1
 ·exact absurd (hS v hv (by omega)) (hold v h1)
 ·exact h1
section
variable {w:World} {g L M:Nat} {s:HU} {col:Nat→Nat} {cnt ln:Nat→Nat}
theorem c46 {K2:Sl×Value→PT} (W:HW w g s col) (hP:PTc w s.pt M ln L) (hptl:s.ptl=(M:Nat)) (h2:2≤L) (hO:VecU w s.out []) (hF:FseC w s.fse col)
  (hk0:129<L→∀w' v,EG w' v→w'.cell? ⟨0,0,none⟩=some v→(∃S,Fm w w' S∧∀v∈S,v<w.heap.size→own (col v))→K2 (⟨none,0,0⟩,v) w')
  (hk1:∀w' o tbl,By tbl→tbl.length≤129→weightsZ tbl=some (wtL M ln L,tbl.length)→VecU w' o tbl→(∃S,Fm w w' S∧∀v∈S,v<w.heap.size→own (col v))→K2 (o,.nilIface) w') :
  callP Tryd.prog 46 #[.pointer (some ⟨g,0,none⟩),.slice none 0 0] [.c .S,.c .V] K2 w:=by
 obtain ⟨qb,pc,Q,cnt',e1,h256,HQ',hQ,HTc,hL256,hL0⟩:=hP
 obtain ⟨fb,fs,hfse,SWf,hfc⟩:=hF
 have hol:=hO.len
 have hout:(⟨s.out.a,0,s.out.c⟩:Sl)=s.out:=by
  have:s.out.l=0:=hol
  cases h:s.out with
  | mk a l c=>rw [h] at this;simp only at this;rw [this]
 have o2:=W.out.co
 have cqb:col qb=5:=W.pt.co qb (by rw [e1];simp [Sl.bs])
 apply q46_ok (p0:=⟨g,0,none⟩) (s1:=⟨none,0,0⟩)
 unfold q46
 simp only [add_mk,Nat.zero_add]
 refine ⟨(fun h=>by cases h),fun _ => ?_⟩
 refine ld_b (t := .S) (x:=⟨some ⟨qb,0,none⟩,L,pc⟩) W.blk (by show some s.pt.val=_;rw [e1];rfl) (cnd_d (fun h=>absurd h (by simp only;omega)) (fun _ => ?_))
 refine ld_b (t := .S) (x:=s.out) W.blk rfl ?_
 refine ld_b (t := .I .u8) (x:=s.atl) W.blk rfl ?_
 refine ld_b (t := .I .u16) (x:=s.symL) W.blk rfl ?_
 refine joinP_id ?_
 refine ld_b (t := .P) (x:=some ⟨fb,0,none⟩) W.blk (by show some (Value.pointer s.fse)=_;rw [hfse];rfl) ⟨(fun h=>by cases h),fun _ => ?_⟩
 unfold q46_J0
 simp only [add_mk,Nat.zero_add]
 refine ld_b (t := .S) (x:=s.out) W.blk rfl ?_
 refine slc_hi (m:=0) rfl (Nat.zero_le _) ?_
 refine st_u W.blk rfl rfl ?_
 intro w1 B1 F1
 have B1':Blk w1 g s.at:=by
  refine B1.congr ?_
  rw [hout]
  exact HU.setT (s:=s) (s':=s) 0 rfl rfl rfl (by decide)
 refine ld_b (t := .I .u8) (x:=((M:Nat):Int)) B1' (by show some (Value.int .u8 s.ptl)=_;rw [hptl];rfl) ?_
 refine st_u B1' rfl rfl ?_
 intro w2 B2 F2
 have B2':=B2.congr (HU.setT (s' := { s with atl:=((M:Nat):Int) }) 12 rfl rfl rfl (by decide))
 refine ld_b (t := .S) (x:=⟨some ⟨qb,0,none⟩,L,pc⟩) B2' (by show some s.pt.val=_;rw [e1];rfl) ?_
 have eL:IntKind.u16.wrap ((L:Nat):Int)=((L:Nat):Int):=wU16 (by omega) (by omega)
 dsimp only
 rw [eL]
 refine st_u B2' rfl rfl ?_
 intro w3 B3 F3
 have B3':=B3.congr (HU.setT (s' := { s with atl:=((M:Nat):Int),symL:=((L:Nat):Int) }) 9 rfl rfl rfl (by decide))
 refine ld_b (t := .S) (x:=⟨some ⟨qb,0,none⟩,L,pc⟩) B3' (by show some s.pt.val=_;rw [e1];rfl) ?_
 have F03:Fm w w3 [g]:=(F1.trans F2 (fun x hx => .inl hx)).trans F3 (fun x hx => .inl hx)
 have dgo:g∉s.out.bs:=fun h=>by have:=o2 g h;rw [W.cg] at this;cases this
 have dgf:g∉SB fb fs:=fun h=>by have:=hfc g h;rw [W.cg] at this;cases this
 have dof:∀v∈s.out.bs,v∉SB fb fs:=fun v hv h=>by have:=hfc v h;rw [o2 v hv] at this;cases this
 have dgq:g≠qb:=fun e=>by rw [←e,W.cg] at cqb;cases cqb
 have n9:∀v ∈ [g],9≤v:=by intro v hv;simp at hv;rw [hv];exact W.g9
 have ng:∀v,v≠g→v ∉ [g]:=fun v h=>nm1 h
 have hown:∀v∈g::(s.out.bs++SB fb fs),v<w.heap.size→own (col v):=by
  intro v hv _
  rcases List.mem_cons.mp hv with h|h
  ·rw [h,W.cg];exact ⟨by decide,by decide⟩
  ·rcases List.mem_append.mp h with h|h
   ·rw [o2 v h];exact ⟨by decide,by decide⟩
   ·rw [hfc v h];exact ⟨by decide,by decide⟩
 refine c65 (M:=M) (L:=L) (ln:=ln) (pre := []) (tb:=qb) B3' rfl h2 hL256 rfl HTc.m1 HTc.m11 hfse (SWf.mv F03 (fun v hv=>nm1 (fun e=>dgf (e▸hv)))) (W.gl.fm F03 n9) ((W.er 0 (by decide)).fm F03 (fun h=>by have:=n9 0 h;omega)) (fun v hv=>W.nine (by rw [hfc v hv];decide)) W.g9
  (hO.fr F03 (fun v hv=>nm1 (fun e=>dgo (e▸hv)))) (fun v hv=>W.nine (by rw [o2 v hv];decide)) (by simp) (HQ'.fr F03 (nm1 dgq.symm)) (fun i hi=>(hQ i hi).2) HTc.le dgo dgf dof dgq (fun h=>by have:=o2 qb h;rw [cqb] at this;cases this) (fun h=>by have:=hfc qb h;rw [cqb] at this;cases this) ?_ ?_
 ·intro h129 w4 fs4 hw4 v hv hv0 B4 HO4 T4
  refine ⟨isPE.ifc hv.2,err_cnd (isPE.nil hv.2) ?_⟩
  refine st_u B4 rfl rfl ?_
  intro w5 B5 F5
  have B5':=B5.congr (HU.setT (s' := { s with atl:=((M:Nat):Int),symL:=((L:Nat):Int),hw:=hw4 }) 0 rfl rfl rfl (by decide))
  refine st_u B5' rfl rfl ?_
  intro w6 B6 F6
  have B6':=B6.congr (HU.setT (s' := { s with symL:=((L:Nat):Int),hw:=hw4 }) 12 rfl rfl rfl (by decide))
  refine st_u B6' rfl rfl ?_
  intro w7 B7 F7
  have F47:Fm w4 w7 [g]:=(F5.trans F6 (fun x hx => .inl hx)).trans F7 (fun x hx => .inl hx)
  have h0l:=World.block_lt_of_cell? _ _ hv0
  refine hk0 h129.2 w7 v (hv.fm F47 n9) ?_ ⟨g::(s.out.bs++SB fb fs),?_,hown⟩
  ·rw [←hv0];exact cell?_of_heap (F47.old 0 h0l (fun h=>by have:=n9 0 h;omega)) _ _
  ·exact ((F03.mono (S':=g::(s.out.bs++SB fb fs)) (by intro v hv;left;simp at hv;simp [hv])).trans T4.fr (fun x hx => .inl hx)).trans F47 (by intro v hv;left;simp at hv;simp [hv])
 ·intro w4 fs4 hw4 o tbl _ hby hl129 hwt HO4 B4 T4
  refine ⟨rfl,nil_cnd ?_⟩
  have HO4:VecU w4 o tbl:=HO4
  have hol4:=HO4.len
  refine ld_b (t := .S) (x:=o) B4 rfl ?_
  refine app_vu (xs:=tbl) VecU.nil HO4.vec.arr.has (by simp only;omega) ?_
  intro s5 w5 V5 F5 n5
  have V5:VecU w5 s5 tbl:=V5
  have hgl:=B4.lt
  have B5:=B4.fr F5 (by simp [Sl.bs])
  have hs5:g∉s5.bs:=fun h=>by
   rcases n5 g h with h1|h1
   ·simp [Sl.bs] at h1
   ·omega
  refine st_u B5 rfl rfl ?_
  intro w6 B6 F6
  have B6':=B6.congr (HU.setT (s' := { s with atl:=((M:Nat):Int),symL:=((L:Nat):Int),hw:=hw4 }) 0 rfl rfl rfl (by decide))
  refine st_u B6' rfl rfl ?_
  intro w7 B7 F7
  have B7':=B7.congr (HU.setT (s' := { s with symL:=((L:Nat):Int),hw:=hw4 }) 12 rfl rfl rfl (by decide))
  refine st_u B7' rfl rfl ?_
  intro w8 B8 F8
  have F58:Fm w5 w8 [g]:=(F6.trans F7 (fun x hx => .inl hx)).trans F8 (fun x hx => .inl hx)
  refine hk1 w8 s5 tbl hby hl129 hwt (V5.fr F58 (fun v hv=>nm1 (fun e=>hs5 (e▸hv)))) ⟨g::(s.out.bs++SB fb fs),?_,hown⟩
  exact (((F03.mono (S':=g::(s.out.bs++SB fb fs)) (by intro v hv;left;simp at hv;simp [hv])).trans T4.fr (fun x hx => .inl hx)).trans F5 (by simp [Sl.bs])).trans F58 (by intro v hv;left;simp at hv;simp [hv])
end
section
variable {w:World} {b:Nat} {cnt:Nat→Nat}
theorem c56 {K1:Option Addr×Value→PT} (G:GE w) (C:Blk w b (arrC .u32 256 fun i=>((cnt i:Nat):Int))) (hcnt:∀i,i<256→cnt i≤2^18)
  (hk0:∀w' p v,ER w' v→(∀a b,a≠b→a<256→b<256→0<cnt a→0<cnt b→False)→Fm w w' []→K1 (p,v) w')
  (hk1:∀w' g s' col' M ln L k,BR cnt L k M ln→HW w' g s' col'→PTc w' s'.pt M ln L→s'.tl=11→s'.reuse=0→s'.wll=0→s'.ptl=(M:Nat)→VecU w' s'.out []→FseC w' s'.fse col'→(∀v,v<w.heap.size→¬own (col' v))→Fm w w' []→K1 (some ⟨g,0,none⟩,.nilIface) w') :
  callP Tryd.prog 56 #[.slice (some ⟨b,0,none⟩) 256 256] [.c .P,.c .V] K1 w:=by
 have hbl:=C.lt
 apply q56_ok (s0:=⟨some ⟨b,0,none⟩,256,256⟩)
 unfold q56
 refine nw_n ?_
 intro w1 F1 hs1 B1
 have hb1:b≠w.heap.size:=by omega
 have C1:=C.fr F1 (by simp)
 refine slcA_all (by decide) ?_
 refine cpy_b (n:=256) B1 C1 rfl (fun i hi=>⟨_,arrC_get (by omega),rfl⟩) (fun i hi=>by rw [arrC_get (by omega)];rfl) ?_
 intro w2 B2 F2
 have B2':Blk w2 w.heap.size (arrC .u32 256 fun i=>((cnt i:Nat):Int)):=by
  refine B2.congr ?_
  funext i
  by_cases hi:i<256*1
  ·rw [if_pos hi]
  ·rw [if_neg hi];unfold arrC;rw [if_neg (by omega),if_neg (by omega)]
 have F02:Fm w w2 []:=F1.trans F2 (by intro v hv;right;simp at hv;omega)
 unfold nwA
 have F3:Fm w2 (w2.alloc (.cells ⟨z94⟩ 94)) []:=(Fm.refl w2 []).alloc
 have B3:=(Blk.new (w:=w2) (cs:=⟨z94⟩) (T:=94)).congr HU.atZ
 have hs3:(w2.alloc (.cells ⟨z94⟩ 94)).heap.size=w2.heap.size+1:=World.size_alloc _ _
 have hsz2:=F02.size
 have hcl:=B2'.lt
 generalize w2.alloc (.cells ⟨z94⟩ 94)=w3 at *
 have W3:HW w3 w2.heap.size HU.zero (colF w2.heap.size):=HW.fresh (G.fm F02) F3 B3 rfl rfl rfl rfl rfl rfl (fun _ _=>rfl)
 have F03:Fm w w3 []:=F02.trans F3 (by simp)
 refine c74 (cb:=w.heap.size) W3 rfl rfl (B2'.fr F3 (by simp)) (colF_far (by omega)) hcnt ?_ ?_
 ·intro w4 v hv hn F4
  exact hk0 w4 _ v hv hn (F03.trans F4 (by intro v hv;right;simp at hv;omega))
 ·intro w4 s4 col4 M ln L k hB W4 P4 t4 r4 l4 p4 o4 G4 f4
  refine hk1 w4 _ s4 col4 M ln L k hB W4 P4 t4 r4 l4 p4 o4 f4 ?_ (fm_new F03 (col:=colF w2.heap.size) (fun v hv h=>by have:=colF_own h;omega) G4.fr)
  intro v hv
  rw [G4.old v (by omega) (colF_far (by omega))]
  exact colF_far (by omega)
theorem c39 {K1:Sl×Int→PT} (G:GE w) (C:Blk w b (arrC .u32 256 fun i=>((cnt i:Nat):Int))) (hcnt:∀i,i<256→cnt i≤2^18)
  (hk0:∀w' k,1≤k→k≤4→((∃a b,a≠b∧a<256∧b<256∧0<cnt a∧0<cnt b)→k=1∧∃i,128<i∧i<256∧0<cnt i)→Fm w w' []→K1 (⟨none,0,0⟩,k) w')
  (hk1:∀w' T M ln L k tbl,BR cnt L k M ln→By tbl→tbl.length≤129→weightsZ tbl=some (wtL M ln L,tbl.length)→VecU w' T tbl→Fm w w' []→K1 (T,0) w') :
  callP Tryd.prog 39 #[.slice (some ⟨b,0,none⟩) 256 256] [.c .S,.c (.I .i64)] K1 w:=by
 apply q39_ok (s0:=⟨some ⟨b,0,none⟩,256,256⟩)
 unfold q39
 refine c56 G C hcnt ?_ ?_
 ·intro w1 p v hv hn F1
  refine ⟨isPE.ifc hv.pe,err_cnd (isPE.nil hv.pe) ?_⟩
  refine c51 (G.fm F1) hv (fun k h1 h2 _=>hk0 w1 k h1 h2 ?_ F1)
  rintro ⟨x,y,hxy,hx,hy,hx0,hy0⟩
  exact absurd (hn x y hxy hx hy hx0 hy0) id
 ·intro w1 g s1 col1 M ln L k hB W1 P1 t1 r1 l1 p1 o1 f1 hold F1
  refine ⟨rfl,nil_cnd ?_⟩
  refine c46 W1 P1 p1 hB.l2 o1 f1 ?_ ?_
  ·intro h129 w2 v hv hv0 hF
   have F2:=fm_new F1 hold hF
   refine ⟨isPE.ifc hv.2,err_cnd (isPE.nil hv.2) ?_⟩
   refine c51 (G.fm F2) (.inl hv) (fun k h1 h2 h3=>hk0 w2 k h1 h2 (fun _=>⟨h3 hv0,L-1,by omega,by have:=hB.l256;omega,hB.last⟩) F2)
  ·intro w2 o tbl hby hl hwt V2 hF
   have F2:=fm_new F1 hold hF
   refine ⟨rfl,nil_cnd ?_⟩
   refine c47 V2.vec.arr (by omega) ?_
   intro w3 r3 V3 F3 n3
   exact hk1 w3 r3 M ln L k tbl hB hby hl hwt V3 (F2.trans F3 (by simp))
end
theorem sF_countE:∀ {xs:List Nat} {n:Nat},(∀x∈xs,x<n)→sF (fun i=>xs.count i) 0 n=xs.length
 | [],n,_=>sF_zero (fun i _=>by simp)
 | x::r,n,h=>by
  have e:sF (fun i=>(x::r).count i) 0 n=sF (fun i=>r.count i) 0 n+sF (fun i=>if x=i then 1 else 0) 0 n:=by
   rw [←sF_add]
   refine sF_congr (fun i _ _ => ?_)
   rw [List.count_cons]
   by_cases h:x=i
   ·subst h;simp
   ·rw [if_neg (by simpa using h),if_neg h]
  rw [e,sF_countE (fun y hy=>h y (List.mem_cons_of_mem _ hy)),sF_single (h x (List.mem_cons_self ..)) (fun i _ hi=>if_neg (fun e=>hi e.symm)),if_pos rfl,List.length_cons]
theorem encT_len {xs ol:List Nat} {cd ln:Nat→Nat} (h:EncT cd ln xs ol):ol.length=bitsL ln xs/8+1:=by
 have h3:=h.2.2
 rw [hE_bits] at h3
 exact h3
structure Pays (xs:List Nat) (ln:Nat→Nat) (L:Nat):Prop where
 sym:∀x∈xs,x<L∧0<ln x
 two:∃a b,a≠b∧a∈xs∧b∈xs
 big:∃c,1<xs.count c∧xs.length≤128*xs.count c
 len:bitsL ln xs/8+1<xs.length
section
variable {w:World} {g L0 M0:Nat} {s:HU} {s1:Sl} {xs:List Nat} {col:Nat→Nat} {ln0:Nat→Nat} {K3:Sl×Bool×Value→PT}
theorem c88m (A:Arr .u8 w s1 xs) (hby:By xs) (far:∀a,s1.a=some a→xs ≠ []→¬own (col a.block)) (hle:xs.length≤2^18) (P:HP w g s col xs.length) (hr:s.reuse=3) (hp:PTc w s.pt M0 ln0 L0) (hwl:s.wll=0) (hy:Pays xs ln0 L0)
  (hk:∀w' col' so ol,EncT (vC ln0 L0 M0) ln0 xs ol→VecU w' so ol→GoW w w' col col'→K3 (so,true,.nilIface) w') :
  callP Tryd.prog 88 #[.slice s1.a s1.l s1.c,.pointer (some ⟨g,0,none⟩),.func (.func 90) #[.pointer (some ⟨g,0,none⟩)] #[]] [.c .S,.c .B,.c .V] K3 w:=by
 have hsl:=A.len
 have hlen:=hy.len
 have hown:∀v ∈ [g],v<w.heap.size→own (col v):=by intro v hv _;simp at hv;subst hv;rw [P.cg];exact ⟨by decide,by decide⟩
 apply q88_ok
 unfold q88
 refine joinP_id ⟨_,rfl,?_⟩
 simp only [add_mk,Nat.zero_add]
 refine ld_b (t := .I .u8) (x:=s.reuse) P.blk rfl (cnd_d (fun h2=>absurd h2 (by rw [hr];decide)) (fun h2 => ?_))
 unfold q88_J12
 refine ⟨_,rfl,?_⟩
 simp only [add_mk,Nat.zero_add]
 refine ld_b (t := .I .i64) (x:=s.maxC) P.blk rfl ?_
 refine joinP_id ?_
 refine cnd_d (fun _ => ?_) (fun h=>absurd P.mx h)
 refine c117p P.toHW P.cnt0 A hby (by omega) far (fun hxe=>absurd hxe (by intro e;rw [e] at hlen;simp at hlen)) ?_
 intro w2 c' b m Lx hxe hM hbt hbf hc B2 F2
 have hb:b=true:=by
  cases b with
  | true=>rfl
  | false =>
   exfalso
   rcases hbf rfl with h|h
   ·obtain ⟨_,_,e1,_,_,_,_,_,h0⟩:=hp.tb
    rw [e1] at h
    simp only at h
    omega
   ·obtain ⟨x,hx,hnx⟩:=h _ _ _ hp
    exact hnx (hy.sym x hx)
 subst hb
 unfold q88_J11
 refine joinP_id ⟨_,rfl,?_⟩
 simp only [add_mk,Nat.zero_add]
 refine ld_b (t := .I .u8) (x:=s.wll) B2 rfl (cnd_d (fun h0=>absurd h0 (by rw [hwl];decide)) (fun _ => ?_))
 unfold q88_J10
 refine ⟨_,rfl,?_⟩
 simp only [add_mk,Nat.zero_add]
 refine st_u B2 rfl rfl ?_
 intro w3 B3 F3
 have B3':=B3.congr (HU.setT (s' := { s with count:=c',symL:=((Lx:Nat):Int),cc:=true }) 11 rfl rfl rfl (by decide))
 refine ⟨_,rfl,?_⟩
 simp only [add_mk,Nat.zero_add]
 refine st_u B3' rfl rfl ?_
 intro w4 B4 F4
 have B4':=B4.congr (HU.setT (s' := { s with count:=c',symL:=((Lx:Nat):Int),cc:=true,maxC:=0 }) 10 rfl rfl rfl (by decide))
 have F04:Fm w w4 [g]:=(F2.trans F3 (fun x hx => .inl hx)).trans F4 (fun x hx => .inl hx)
 have hcle:∀c,xs.count c≤m:=by
  intro c
  rcases Nat.lt_or_ge c 256 with h|h
  ·exact hM.le c h
  ·have:xs.count c=0:=List.count_eq_zero.mpr (fun hh=>by have:=hby c hh;omega)
   omega
 obtain ⟨ix,hix1,hix2⟩:=hM.ex
 have hix2:xs.count ix=m:=hix2
 have hmlt:m<xs.length:=by
  obtain ⟨a,b',hab,ha,hb'⟩:=hy.two
  have hs:=sF_countE (fun x hx=>hby x hx:∀x∈xs,x<256)
  have h256:=hM.l256
  have oth:∀z,z∈xs→z≠ix→m<xs.length:=by
   intro z hz hne
   have h1:=sF_two (g:=fun i=>xs.count i) (a:=ix) (b:=z) (n:=256) (fun e=>hne e.symm) (by omega) (hby z hz)
   have h2:0<xs.count z:=List.count_pos_iff.mpr hz
   omega
  by_cases e:a=ix
  ·exact oth b' hb' (fun e2=>hab (e.trans e2.symm))
  ·exact oth a ha e
 obtain ⟨c,hc1,hc2⟩:=hy.big
 have hcm:=hcle c
 have eshr:shrI .i64 ((s1.l:Nat):Int) (7:Int)=((xs.length/128:Nat):Int):=by
  rw [hsl,show (7:Int)=((7:Nat):Int) from rfl,shrI_nat _ _ _ (by simp only [IntKind.bits];omega)]
 rw [eshr]
 refine cnd_d (fun h=>absurd h (by omega)) (fun _=>cnd_d (fun h=>absurd h (by omega)) (fun _=>⟨by decide,cnd_d (fun h=>absurd h (by omega)) (fun _=>⟨_,rfl,?_⟩)⟩))
 have hl:=mx_two hM hby hmlt
 have h2l:2≤xs.length:=by omega
 have W4:=P.toHW.same (s' := { s with count:=c',symL:=((Lx:Nat):Int),cc:=true,maxC:=0 }) B4' F04 rfl rfl rfl rfl rfl rfl (.inl rfl)
 have G4:GoW w w4 col col:=GoW.of F04 hown (fun _ _=>rfl)
 have Q4:HQ w4 g ({ s with count:=c',symL:=((Lx:Nat):Int),cc:=true,maxC:=0 } : HU) col xs.length (fun i=>xs.count i) Lx []:=by
  refine ⟨W4,P.o0.fr F04 (fun b hb=>(P.toHW.keepG (r:=2) (by decide)).out (P.out.co b hb) (P.o0.lt b hb)),P.nodP.mv F04 (P.toHW.keepG (by decide)),P.fseP.mv F04 (P.toHW.keepG (by decide)),P.srcN,P.tlP,⟨rfl,hM.l1,hM.l256,fun i hi=>hc i (by have:=hM.l256;omega),fun i hi => ?_⟩,rfl,hwl⟩
  have h1:xs.count i≤m:=hcle i
  show xs.count i<2^18
  omega
 have P4:PTc w4 s.pt M0 ln0 L0:=hp.mv F04 (fun v hv=>(P.toHW.keepG (r:=5) (by decide)).out (P.pt.co v hv) (P.pt.own.lt v hv))
 have A4:=G4.arr A far
 have far4:=G4.far A far
 have h30:(3:Int)≠1:=by decide
 simp only [add_mk,Nat.zero_add]
 refine ld_b (t := .I .u8) (x:=s.reuse) Q4.blk rfl (cnd_d (fun _=>⟨(fun h=>by cases h),fun _=>joinP_id ?_⟩) (fun h=>absurd hr h))
 unfold q88_X4
 refine ⟨_,rfl,?_⟩
 simp only [add_mk,Nat.zero_add]
 refine ld_b (t := .I .u8) (x:=s.reuse) Q4.blk rfl (cnd_d (fun h1=>absurd h1 (by rw [hr];decide)) (fun _=>⟨_,rfl,?_⟩))
 simp only [add_mk,Nat.zero_add]
 refine ld_b (t := .I .u8) (x:=s.reuse) Q4.blk rfl (cnd_d (fun _=>⟨fun _ => ?_,(fun h=>by cases h)⟩) (fun h=>absurd hr h))
 refine rs_step (E:=False) (Enc:=EncT) comp90 hf90 Q4 P4 hy.sym A4 far4 h2l hle (by simp) (fun h=>h.elim) ?_
 intro w5 s5 col5 so ol hEn es Q5 G5 hP5 _
 subst es
 have hol:so.l=ol.length:=Q5.oP.len
 have hel:=encT_len hEn
 refine ⟨rfl,⟨fun _=>⟨_,rfl,?_⟩,(fun h=>by cases h)⟩⟩
 simp only [add_mk,Nat.zero_add]
 refine ld_b (t := .S) (x:=so) Q5.blk rfl (cnd_d (fun _=>⟨_,rfl,?_⟩) (fun hge=>absurd (by omega) hge))
 simp only [add_mk,Nat.zero_add]
 refine ld_b (t := .S) (x:=so) Q5.blk rfl ⟨_,rfl,?_⟩
 simp only [add_mk,Nat.zero_add]
 refine st_u Q5.blk rfl rfl ?_
 intro w6 B6 F6
 have B6':=B6.congr (HU.setT (s' := { s with count:=c',symL:=((Lx:Nat):Int),cc:=true,maxC:=0,out:=so,outD:=so }) 2 rfl rfl rfl (by decide))
 refine ⟨_,rfl,?_⟩
 simp only [add_mk,Nat.zero_add]
 refine ld_b (t := .S) (x:=so) B6' rfl ?_
 have Q6:=Q5.self F6 B6' rfl rfl rfl rfl rfl rfl rfl rfl rfl rfl rfl rfl
 exact hk w6 col5 so ol hEn Q6.oP ((G4.trans G5).trans (Q5.mvG F6).go)
theorem c41m {b:Nat} {cnt:Nat→Nat} {K3:Sl×Int→PT} (G:GE w) (C:Blk w b (arrC .u32 256 fun i=>((cnt i:Nat):Int))) (hcnt:∀i,i<256→cnt i≤2^18) (htwo:∃a b,a≠b∧a<256∧b<256∧0<cnt a∧0<cnt b) (A:Arr .u8 w s1 xs) (hby:By xs) (hle:xs.length≤2^17)
  (hy:∀L k M ln,BR cnt L k M ln→Pays xs ln L)
  (hk1:∀w' o M ln L k ol,BR cnt L k M ln→EncT (vC ln L M) ln xs ol→VecU w' o ol→Fm w w' []→K3 (o,0) w') :
  callP Tryd.prog 41 #[.slice (some ⟨b,0,none⟩) 256 256,.slice s1.a s1.l s1.c,.bool false] [.c .S,.c (.I .i64)] K3 w:=by
 have hsl:=A.len
 apply q41_ok (s0:=⟨some ⟨b,0,none⟩,256,256⟩)
 unfold q41
 refine c56 G C hcnt ?_ ?_
 ·intro w1 p v hv hn F1
  obtain ⟨x,y,hxy,hx,hy',hx0,hy0⟩:=htwo
  exact (hn x y hxy hx hy' hx0 hy0).elim
 ·intro w1 g s2 col1 M ln L k hB W1 P1 t1 r1 l1 p1 o1 f1 hold F1
  refine ⟨rfl,nil_cnd ⟨_,rfl,?_⟩⟩
  simp only [add_mk,Nat.zero_add]
  refine st_u W1.blk rfl rfl ?_
  intro w2 B2 F2
  have B2':=B2.congr (HU.setT (s' := { s2 with reuse:=3 }) 7 rfl rfl rfl (by decide))
  have W2:=W1.same (s' := { s2 with reuse:=3 }) B2' F2 rfl rfl rfl rfl rfl W1.mx W1.cz
  have hown:∀v ∈ [g],v<w1.heap.size→own (col1 v):=by intro v hv _;simp at hv;subst hv;rw [W1.cg];exact ⟨by decide,by decide⟩
  have G2:GoW w1 w2 col1 col1:=GoW.of F2 hown (fun _ _=>rfl)
  have far1:∀a,s1.a=some a→xs ≠ []→¬own (col1 a.block):=fun a ha hx=>hold _ (A.old hx a ha)
  have A1:=A.fr F1 (by simp)
  have A2:=G2.arr A1 far1
  have kg:=W1.keepG (r:=5) (by decide)
  have P2:PTc w2 s2.pt M ln L:=P1.mv F2 (fun v hv=>kg.out (W1.pt.co v hv) (W1.pt.own.lt v hv))
  apply q50_ok
  unfold q50
  refine ⟨(fun h=>by cases h),fun _ => ?_⟩
  apply q71_ok
  unfold q71
  have t2:({ s2 with reuse:=3 } : HU).tl=((11:Nat):Int):=by show s2.tl=_;rw [t1];rfl
  refine c61 (s := { s2 with reuse:=3 }) (t:=11) W2 t2 (by decide) (fun h=>absurd h ?_) ?_
  ·intro h
   rcases h with h|h
   ·omega
   ·exact h (.inr ⟨by rw [t2];decide,by rw [t2];decide⟩)
  intro hl w3 s3 col3 P3 R3 hc3 F3
  have hown2:∀v ∈ [g],v<w2.heap.size→own (col1 v):=by intro v hv _;simp at hv;subst hv;rw [W1.cg];exact ⟨by decide,by decide⟩
  have G3:GoW w2 w3 col1 col3:=GoW.of F3 hown2 hc3
  have far2:=G2.far A1 far1
  have A3:=G3.arr A2 far2
  have far3:=G3.far A2 far2
  have kg2:=W2.keepG (r:=5) (by decide)
  have P3t:PTc w3 s3.pt M ln L:=by
   rw [R3.pt]
   exact P2.mv F3 (fun v hv=>kg2.out (W2.pt.co v hv) (W2.pt.own.lt v hv))
  rw [hsl] at P3
  refine ⟨rfl,nil_cnd ?_⟩
  refine c88m A3 hby far3 (by omega) P3 R3.reuse P3t (R3.wll.trans l1) (hy L k M ln hB) ?_
  intro w4 col4 so ol hEn V4 G4
  have F4:=fm_new F1 hold ((G2.trans G3).trans G4).fr
  have hel:=encT_len hEn
  have hpl:=(hy L k M ln hB).len
  refine ⟨rfl,nil_cnd ?_⟩
  refine c47 V4.vec.arr (by omega) ?_
  intro w5 r5 V5 F5 n5
  exact hk1 w5 r5 M ln L k ol hB hEn V5 (F4.trans F5 (by simp))
end
theorem two_of {c:Nat→Nat} {n:Nat} (h:2≤sF (fun i=>if 0<c i then 1 else 0) 0 n):∃a b,a≠b∧a<n∧b<n∧0<c a∧0<c b:=by
 have h1:∃a,a<n∧0<c a:=by
  refine Classical.byContradiction fun hn => ?_
  rw [sF_zero (fun i hi=>if_neg (fun h0=>hn ⟨i,hi,h0⟩))] at h
  omega
 obtain ⟨a,ha,ha0⟩:=h1
 refine Classical.byContradiction fun hn => ?_
 rw [sF_single ha (fun i hi hne=>if_neg (fun h0=>hn ⟨a,i,fun e=>hne e.symm,ha,hi,ha0,h0⟩)),if_pos ha0] at h
 omega
section
variable {w:World} {b L M:Nat} {s1:Sl} {xs:List Nat} {ln:Nat→Nat} {f:Nat→Int}
theorem c36 {K2:Bool→PT} (B:Blk w b (arrC .i64 256 f)) (hf:∀i,f i=(lnx L ln i:Nat)) (h11:∀i,lnx L ln i≤11) (A:Arr .u8 w s1 xs) (hby:By xs) (hle:xs.length≤2^17) (hk:∀w' r,(r=true→Pays xs ln L)→Fm w w' []→K2 r w') :
  callP Tryd.prog 36 #[.slice (some ⟨b,0,none⟩) 256 256,.slice s1.a s1.l s1.c] [.c .B] K2 w:=by
 have hsl:=A.len
 apply q36_ok (s0:=⟨some ⟨b,0,none⟩,256,256⟩)
 unfold q36
 refine joinP_id ?_
 refine c30 A hby (by omega) ?_
 intro w1 c F1 hc C1
 have B1:=B.fr F1 (by simp)
 have A1:=A.fr F1 (by simp)
 refine ⟨fun x w'=>w'=w1∧∃i m:Nat,x=(((sF (fun j=>if 0<xs.count j then 1 else 0) 0 i:Nat):Int),(m:Int),(i:Int))∧i≤256∧(∀j,j<i→xs.count j≤m)∧(m=0∨∃j,j<i∧xs.count j=m)∧(∀j,j<i→0<xs.count j→lnx L ln j≠0),fun x _=>256-x.2.2.toNat,⟨rfl,0,0,rfl,by decide,fun j hj=>absurd hj (Nat.not_lt_zero _),.inl rfl,fun j hj=>absurd hj (Nat.not_lt_zero _)⟩,?_⟩
 rintro x w2 ⟨rfl,i,m,rfl,hi,hm1,hm2,hz⟩
 unfold q36_L1
 simp only
 have hmle:m≤xs.length:=by
  rcases hm2 with h|⟨j,_,h⟩
  ·omega
  ·have:xs.count j≤xs.length:=List.count_le_length
   omega
 have hkd:sF (fun j=>if 0<xs.count j then 1 else 0) 0 i≤i*1:=sF_le_mul (fun j _=>by split<;>omega)
 refine cnd_d ?_ ?_
 ·intro hc0
  have hi2:i<256:=by omega
  have hci:xs.count i≤xs.length:=List.count_le_length
  have hs:sF (fun j=>if 0<xs.count j then 1 else 0) 0 (i+1)=sF (fun j=>if 0<xs.count j then 1 else 0) 0 i+(if 0<xs.count i then 1 else 0):=by rw [sF,Nat.zero_add]
  refine joinP_id ?_
  refine ixS_o rfl hi2 ?_
  rw [Nat.zero_add]
  refine ld_b (t := .I .u32) (x:=((xs.count i:Nat):Int)) C1 (by rw [arrC_get hi2];rfl) ?_
  refine cnd_d (fun h0 => ?_) (fun h0 => ?_)
  ·have h0':xs.count i=0:=by omega
   unfold q36_J0
   simp only
   rw [wI64 (by omega) (by omega)]
   rw [if_neg (by omega),Nat.add_zero] at hs
   refine ⟨⟨trivial,i+1,m,?_,hi2,?_,?_,?_⟩,by first|omega|(dsimp only;omega)⟩
   ·rw [hs];simp
   ·intro j hj
    by_cases e:j=i
    ·subst e;omega
    ·exact hm1 j (by omega)
   ·exact hm2.imp id (fun ⟨j,h1,h2⟩=>⟨j,by omega,h2⟩)
   ·intro j hj hp
    by_cases e:j=i
    ·subst e;omega
    ·exact hz j (by omega) hp
  ·have h0':0<xs.count i:=by omega
   refine ixS_o rfl hi2 ?_
   rw [Nat.zero_add]
   refine ld_b (t := .I .i64) (x:=((lnx L ln i:Nat):Int)) B1 (by rw [arrC_get hi2,hf i];rfl) ?_
   refine cnd_d (fun h1=>hk _ _ (fun h=>by cases h) F1) (fun h1 => ?_)
   have h1':lnx L ln i≠0:=by omega
   unfold q36_J0
   simp only
   rw [if_pos h0'] at hs
   have emax:maxI (m:Int) (IntKind.wrap .i64 ((xs.count i:Nat):Int))=((max m (xs.count i):Nat):Int):=by
    rw [wI64 (by omega) (by omega)]
    unfold maxI
    split<;>omega
   rw [emax,wI64 (x:=((sF (fun j=>if 0<xs.count j then 1 else 0) 0 i:Nat):Int)+1) (by omega) (by omega),wI64 (by omega) (by omega)]
   refine ⟨⟨trivial,i+1,max m (xs.count i),?_,hi2,?_,?_,?_⟩,by first|omega|(dsimp only;omega)⟩
   ·rw [hs];simp
   ·intro j hj
    by_cases e:j=i
    ·subst e;omega
    ·have:=hm1 j (by omega);omega
   ·right
    by_cases e:m≤xs.count i
    ·exact ⟨i,by omega,by omega⟩
    ·rcases hm2 with h|⟨j,hj,h⟩
     ·omega
     ·exact ⟨j,by omega,by omega⟩
   ·intro j hj hp
    by_cases e:j=i
    ·subst e;exact h1'
    ·exact hz j (by omega) hp
 ·intro hc0
  have hi2:i=256:=by omega
  subst hi2
  unfold q36_J4
  have no:∀ {w'},Fm w w' []→q36_J2 K2 false w':=fun F=>by unfold q36_J2;exact hk _ _ (fun h=>by cases h) F
  refine joinP_id ?_
  unfold q36_X3
  simp only
  refine cnd_d (fun hk1=>cnd_d (fun hk2 => ?_) (fun _=>no F1)) (fun _=>no F1)
  rw [wI64 (x:=(m:Int)*128) (by omega) (by omega)]
  refine cnd_d (fun hk3 => ?_) (fun _=>no F1)
  have hsym:∀x∈xs,x<L∧0<ln x:=by
   intro x hx
   have h1:=hz x (hby x hx) (List.count_pos_iff.mpr hx)
   have h2:x<L:=Classical.byContradiction fun h=>h1 (lnx_ge (by omega))
   rw [lnx_lt h2] at h1
   exact ⟨h2,by omega⟩
  refine c28 (ln:=lnx L ln) B1 A1 hby (by omega) (fun x hx=>⟨hf x,by have:=(hsym x hx);rw [lnx_lt this.1];exact this.2,h11 x⟩) ?_
  have eb:bitsL (lnx L ln) xs=bitsL ln xs:=bitsL_congr (fun x hx=>lnx_lt (hsym x hx).1)
  have hbb:=bitsL_le (ln:=lnx L ln) (xs:=xs) xs.length (fun x hx=>h11 x)
  rw [List.take_length] at hbb
  refine ⟨by decide,?_⟩
  rw [show (8:Int)=((8:Nat):Int) from rfl,quoI_nat _ _ _ (by simp only [IntKind.bits];omega),wI64 (by omega) (by omega)]
  unfold q36_J2
  refine hk _ _ (fun hr => ?_) F1
  have hr':bitsL (lnx L ln) xs/8+1<xs.length:=by
   have:=of_decide_eq_true hr
   omega
  obtain ⟨x,y,hxy,hx,hy,hx0,hy0⟩:=two_of (c:=fun i=>xs.count i) (n:=256) (by omega)
  refine ⟨hsym,⟨x,y,hxy,List.count_pos_iff.mp hx0,List.count_pos_iff.mp hy0⟩,?_,by rw [eb] at hr';exact hr'⟩
  rcases hm2 with h|⟨j,_,h⟩
  ·omega
  ·exact ⟨j,by omega,by omega⟩
end
def cntA (ys:List Nat) (i:Nat):Nat:=ys.getD i 0%262145
theorem cntA_le (ys:List Nat) (i:Nat):cntA ys i≤2^18:=by unfold cntA;omega
theorem cntA_ge {ys:List Nat} {i:Nat} (h:ys.length≤i):cntA ys i=0:=by
 unfold cntA
 rw [List.getD_eq_getElem?_getD,List.getElem?_eq_none h];rfl
theorem cntA_at {ys:List Nat} {i:Nat} (h:i<ys.length):cntA ys i=ys[i]%262145:=by
 unfold cntA
 rw [List.getD_eq_getElem?_getD,List.getElem?_eq_getElem h];rfl
section
variable {w:World} {s0:Sl} {ys:List Nat} {b:Nat} {cnt:Nat→Nat}
theorem c38 {K1:Sl×Int→PT} (A:Arr .u32 w s0 ys) (h32:∀y∈ys,y<2^32) (hk:∀w' b,Fm w w' []→Blk w' b (arrC .u32 256 fun i=>((cntA ys i:Nat):Int))→K1 (⟨some ⟨b,0,none⟩,256,256⟩,((sF (fun i=>if 0<cntA ys i then 1 else 0) 0 256:Nat):Int)) w') :
  callP Tryd.prog 38 #[.slice s0.a s0.l s0.c] [.c .S,.c (.I .i64)] K1 w:=by
 have hsl:=A.len
 apply q38_ok
 unfold q38
 refine mks1 (k := .u32) (v:=0) (n:=256) rfl rfl (by omega) ?_
 intro w1 F1 hs1 B1
 have A1:=A.fr F1 (by simp)
 have hne:∀a,s0.a=some a→ys ≠ []→a.block ∉ [w.heap.size]:=by
  intro a ha hx
  have:=A.old hx a ha
  simp;omega
 have hsz:w.heap.size≤w.heap.size:=Nat.le_refl _
 generalize hpe:w.heap.size=p at *
 refine joinP_id ?_
 have emin:minI (s0.l:Int) (256:Int)=((min ys.length 256:Nat):Int):=by unfold minI;split<;>omega
 refine ⟨fun x w'=>∃i:Nat,x=(((sF (fun i=>if 0<cntA ys i then 1 else 0) 0 i:Nat):Int),(i:Int))∧i≤min ys.length 256∧Blk w' p (arrC .u32 256 fun j=>(((if j<i then cntA ys j else 0):Nat):Int))∧Fm w1 w' [p],fun x _=>256-x.2.toNat,⟨0,rfl,Nat.zero_le _,B1.congr (by simp),Fm.refl _ _⟩,?_⟩
 rintro x w2 ⟨i,rfl,hi,B2,F2⟩
 have A2:=A1.fr F2 hne
 have hkd:sF (fun i=>if 0<cntA ys i then 1 else 0) 0 i≤i*1:=sF_le_mul (fun j _=>by split<;>omega)
 unfold q38_L1
 simp only
 rw [emin]
 refine cnd_d ?_ ?_
 ·intro hc
  have hi2:i<ys.length:=by omega
  have hi3:i<256:=by omega
  have hy:=h32 _ (List.getElem_mem hi2)
  have hs:sF (fun i=>if 0<cntA ys i then 1 else 0) 0 (i+1)=sF (fun i=>if 0<cntA ys i then 1 else 0) 0 i+(if 0<cntA ys i then 1 else 0):=by rw [sF,Nat.zero_add]
  have hcl:=cntA_le ys i
  refine joinP_id ?_
  refine A2.ldk i rfl hi2 ?_
  intro q hq
  refine ld_c (t := .I .u32) (x:=((ys[i]:Nat):Int)) hq ?_
  refine ⟨by decide,?_⟩
  refine ixS_o rfl hi3 ?_
  rw [Nat.zero_add]
  refine st_u B2 (by rw [arrC_get hi3];rfl) rfl ?_
  intro w3 B3 F3
  have et:Int.tmod ((ys[i]:Nat):Int) (262145:Int)=((cntA ys i:Nat):Int):=by rw [cntA_at hi2];rfl
  rw [et,arrC_upd hi3] at B3
  have B3':Blk w3 p (arrC .u32 256 fun j=>(((if j<i+1 then cntA ys j else 0):Nat):Int)):=by
   refine B3.congr ?_
   congr 1
   funext j
   unfold updF
   dsimp only
   by_cases e:j=i
   ·subst e;rw [if_pos rfl,if_pos (by omega)]
   ·rw [if_neg e]
    by_cases e2:j<i
    ·rw [if_pos e2,if_pos (by omega)]
    ·rw [if_neg e2,if_neg (by omega)]
  refine ixS_o rfl hi3 ?_
  rw [Nat.zero_add]
  refine ld_b (t := .I .u32) (x:=((cntA ys i:Nat):Int)) B3' (by rw [arrC_get hi3,if_pos (by omega)];rfl) ?_
  have F23:Fm w1 w3 [p]:=F2.trans F3 (fun x hx => .inl hx)
  refine cnd_d (fun h0 => ?_) (fun h0 => ?_)
  ·rw [if_pos (by omega)] at hs
   unfold q38_J0
   simp only
   rw [wI64 (x:=((sF (fun i=>if 0<cntA ys i then 1 else 0) 0 i:Nat):Int)+1) (by omega) (by omega),wI64 (by omega) (by omega)]
   exact ⟨⟨i+1,by rw [hs];simp,by omega,B3',F23⟩,by first|omega|(dsimp only;omega)⟩
  ·rw [if_neg (by omega),Nat.add_zero] at hs
   unfold q38_J0
   simp only
   rw [wI64 (by omega) (by omega)]
   exact ⟨⟨i+1,by rw [hs];simp,by omega,B3',F23⟩,by first|omega|(dsimp only;omega)⟩
 ·intro hc
  have hi2:i=min ys.length 256:=by omega
  have hz:∀j,i≤j→j<256→cntA ys j=0:=fun j h1 h2=>cntA_ge (by omega)
  unfold q38_J2
  have hB:Blk w2 p (arrC .u32 256 fun j=>((cntA ys j:Nat):Int)):=by
   refine B2.congr ?_
   funext j
   unfold arrC
   by_cases hj:j<256
   ·rw [if_pos hj,if_pos hj]
    dsimp only
    by_cases e:j<i
    ·rw [if_pos e]
    ·rw [if_neg e,hz j (by omega) hj]
   ·rw [if_neg hj,if_neg hj]
  have hS:sF (fun i=>if 0<cntA ys i then 1 else 0) 0 256=sF (fun i=>if 0<cntA ys i then 1 else 0) 0 i:=by
   have e:=sF_split (fun i=>if 0<cntA ys i then 1 else 0) i (256-i)
   rw [show i+(256-i)=256 by omega] at e
   rw [e,sF_z (a:=i) (n:=256-i) (fun j h1 h2=>if_neg (by rw [hz j h1 (by omega)];omega)),Nat.add_zero]
  have:=hk w2 p (F1.trans F2 (by intro v hv;right;simp at hv;omega)) hB
  rw [hS] at this
  exact this
theorem c40 {K1:Int→PT} (C:Blk w b (arrC .u32 256 fun i=>((cnt i:Nat):Int))) (hk:∀r:Int,(∀i:Nat,i<256→0<cnt i→(i:Int)≤r)→K1 r w) :
  callP Tryd.prog 40 #[.slice (some ⟨b,0,none⟩) 256 256] [.c (.I .i64)] K1 w:=by
 apply q40_ok (s0:=⟨some ⟨b,0,none⟩,256,256⟩)
 unfold q40
 refine joinP_id ?_
 refine ⟨fun x w'=>w'=w∧∃i:Nat,x.2=(i:Int)∧i≤256∧∀j:Nat,j<i→0<cnt j→(j:Int)≤x.1,fun x _=>256-x.2.toNat,⟨rfl,0,rfl,by decide,fun j hj=>absurd hj (Nat.not_lt_zero _)⟩,?_⟩
 rintro ⟨r,xi⟩ w1 ⟨rfl,i,hxi,hi,hr⟩
 simp only at hxi hr
 subst hxi
 unfold q40_L1
 simp only
 refine cnd_d ?_ ?_
 ·intro hc
  have hi2:i<256:=by omega
  refine joinP_id ?_
  refine ixS_o rfl hi2 ?_
  rw [Nat.zero_add]
  refine ld_b (t := .I .u32) (x:=((cnt i:Nat):Int)) C (by rw [arrC_get hi2];rfl) ?_
  refine cnd_d (fun h0 => ?_) (fun h0 => ?_)
  ·unfold q40_J0
   simp only
   rw [wI64 (by omega) (by omega)]
   refine ⟨⟨trivial,i+1,by simp,hi2,?_⟩,by first|omega|(dsimp only;omega)⟩
   intro j hj hp
   omega
  ·unfold q40_J0
   simp only
   rw [wI64 (by omega) (by omega)]
   refine ⟨⟨trivial,i+1,by simp,hi2,?_⟩,by first|omega|(dsimp only;omega)⟩
   intro j hj hp
   by_cases e:j=i
   ·subst e;omega
   ·exact hr j (by omega) hp
 ·intro hc
  have hi2:i=256:=by omega
  subst hi2
  unfold q40_J2
  exact hk r (fun j hj hp=>hr j hj hp)
end
theorem law12 {w:World} {s0 s1:Sl} {ys xs:List Nat} {K:Bool→PT} (G:GE w) (A0:Arr .u32 w s0 ys) (h32:∀y∈ys,y<2^32) (A:Arr .u8 w s1 xs) (hby:By xs) (hk:∀w',Fm w w' []→K true w'):callP Tryd.prog 12 #[.slice s0.a s0.l s0.c,.slice s1.a s1.l s1.c] [.c .B] K w:=by
 have hsl:=A.len
 apply q12_ok
 unfold q12
 refine cnd_d (fun _=>hk _ (Fm.refl _ _)) (fun _=>cnd_d (fun _=>hk _ (Fm.refl _ _)) (fun _ => ?_))
 refine c38 A0 h32 ?_
 intro w1 b F1 C1
 refine cnd_d (fun _=>hk _ F1) (fun hle0=>cnd_d (fun _=>hk _ F1) (fun h2 => ?_))
 have hle:xs.length≤2^17:=by omega
 have htwo:=two_of (c:=cntA ys) (n:=256) (by simp only at h2;omega)
 have hcnt:∀i,i<256→cntA ys i≤2^18:=fun i _=>cntA_le ys i
 have G1:=G.fm F1
 have A1:=A.fr F1 (by simp)
 refine c39 (cnt:=cntA ys) G1 C1 hcnt ?_ ?_
 ·intro w2 k h1 h4 hh F2
  have hne:¬k=0:=by omega
  obtain ⟨hk1,i,hi,hi2,hi3⟩:=hh htwo
  have F02:=F1.trans F2 (by simp)
  refine cnd_nd (fun _=>joinP_id (cnd_d (fun _ => ?_) (fun h=>absurd hk1 h))) (fun h=>absurd h hne)
  refine c40 (C1.fr F2 (by simp)) ?_
  intro r hr
  have h3:=hr i hi2 hi3
  have hd:decide ((128:Int)<r)=true:=decide_eq_true (by omega)
  rw [hd]
  unfold q12_J0
  exact hk _ F02
 ·intro w2 T M ln L k tbl hB hbt hbl hwt VT F2
  have C2:=C1.fr F2 (by simp)
  have A2:=A1.fr F2 (by simp)
  have F02:=F1.trans F2 (by simp)
  refine cnd_nd (fun h=>absurd rfl h) (fun _ => ?_)
  obtain ⟨f,hf,hfx,h11⟩:∃f,hlZ tbl=some (f,tbl.length)∧(∀i,f i=(lnx L ln i:Nat))∧∀i,lnx L ln i≤11:=by
   have hL2:=hB.l2
   obtain ⟨a,ha,ha0⟩:=hB.two
   obtain ⟨f,h1,h2,h3⟩:=hl_ok hB.ht hL2 hB.l256 (by show 0<scN k (cntA ys (L-1));exact scN_pos.mpr hB.last) ⟨a,ha,by show 0<scN k (cntA ys a);exact scN_pos.mpr ha0⟩ hwt
   refine ⟨f,h1,?_,?_⟩
   ·intro i
    rcases Nat.lt_or_ge i L with h|h
    ·rw [lnx_lt h];exact h2 i h
    ·rw [lnx_ge h];exact h3 i h
   ·intro i
    rcases Nat.lt_or_ge i L with h|h
    ·rw [lnx_lt h]
     have h4:=hB.ht.le i h
     have h5:=hB.ht.m11
     omega
    ·rw [lnx_ge h];omega
  refine c15 VT.vec.arr hbt (by omega) (fun h=>by rw [hf] at h;cases h) ?_
  intro f' used hf' w3 b3 F3 hbs B3
  rw [hf] at hf'
  injection hf' with hf'
  injection hf' with e1 e2
  subst e1 e2
  have A3:=A2.fr F3 (by simp)
  have C3:=C2.fr F3 (by simp)
  have F03:=F02.trans F3 (by simp)
  refine ⟨(fun h=>by cases h),fun _ => ?_⟩
  refine c36 (L:=L) (ln:=ln) B3 hfx h11 A3 hby hle ?_
  intro w4 r hr F4
  have F04:=F03.trans F4 (by simp)
  cases r with
  | false=>exact ⟨fun _=>hk _ F04,fun h=>by cases h⟩
  | true =>
   refine ⟨(fun h=>by cases h),fun _ => ?_⟩
   have hP:=hr rfl
   have A4:=A3.fr F4 (by simp)
   have C4:=C3.fr F4 (by simp)
   refine c41m (cnt:=cntA ys) (G.fm F04) C4 hcnt htwo A4 hby hle ?_ ?_
   ·intro L' k' M' ln' hB'
    obtain ⟨rfl,rfl,rfl⟩:=hB.uniq hB'
    exact hP
   ·intro w5 o M' ln' L' k' ol hB' hEn VO F5
    obtain ⟨rfl,rfl,rfl⟩:=hB.uniq hB'
    have A5:=A4.fr F5 (by simp)
    have B5:=(B3.fr F4 (by simp)).fr F5 (by simp)
    have F05:=F04.trans F5 (by simp)
    refine joinP_id (cnd_d (fun _ => ?_) (fun h=>absurd rfl h))
    refine c28 (ln:=lnx L ln) B5 A5 hby (by omega) (fun x hx=>⟨hfx x,by have:=hP.sym x hx;rw [lnx_lt this.1];exact this.2,h11 x⟩) ?_
    have eb:bitsL (lnx L ln) xs=bitsL ln xs:=bitsL_congr (fun x hx=>lnx_lt (hP.sym x hx).1)
    have hbb:=bitsL_le (ln:=lnx L ln) (xs:=xs) xs.length (fun x hx=>h11 x)
    rw [List.take_length] at hbb
    have hol:=VO.len
    have hel:=encT_len hEn
    refine ⟨by decide,?_⟩
    rw [show (8:Int)=((8:Nat):Int) from rfl,quoI_nat _ _ _ (by simp only [IntKind.bits];omega),wI64 (by omega) (by omega)]
    have hd:decide ((o.l:Int)=(((bitsL (lnx L ln) xs/8:Nat):Int)+1))=true:=decide_eq_true (by rw [eb];omega)
    simp only
    rw [hd]
    unfold q12_J1
    exact hk _ F05
end Go.Sx
namespace Go.Sx
open Go Go.Proofs Go.ChangeShapes Go.WideShapes Go.ChangeAt Go.RowKit Go.Proofs.YtlnhldlhmplphaaDoor
set_option maxRecDepth 100000
theorem und44:Tryd.prog.underlying 44=some (.slice 79):=by kernel_rfl
theorem und79:Tryd.prog.underlying 79=some (.int .u32):=by kernel_rfl
theorem u32s_in {H:Type} {enc:TypeId×Value→H} {W:World} {v:Value} {d:DataW H} {p:List MemPlace} (h:DataW.Trod enc Tryd.prog W 0 (fun _=>true) true 44 v d p) (hv:∃a l c,v = .slice a l c) :
  ∃(s:Sl) (xs:List Nat),v = .slice s.a s.l s.c∧Arr .u32 W s xs∧∀x∈xs,x<2^32:=by
 obtain ⟨n,hn⟩:=h
 obtain ⟨a0,l0,c0,rfl⟩:=hv
 rcases open_ints und44 und79 (by kernel_rfl) hn with ⟨e,_⟩|⟨a,len,cap,zs,e,_,hl,_,hzl,_,hcell,hwf⟩
 ·have e:Value.slice a0 l0 c0 = .slice none 0 0:=by simpa [Value.cells] using e
  injection e with e1 e2 e3
  subst e1 e2 e3
  exact ⟨⟨none,0,0⟩,[],rfl,⟨rfl,Nat.le_refl _,fun _=>rfl,(by intro b hb;cases hb)⟩,by intro x hx;cases hx⟩
 ·have e:Value.slice a0 l0 c0 = .slice (some a) len cap:=by simpa [Value.cells] using e
  injection e with e1 e2 e3
  subst e1 e2 e3
  simp only [if_true] at hzl
  have hz:∀i (hi:i<zs.length),0≤zs[i]∧zs[i]<4294967296:=by
   intro i hi
   have:=bounds_u32 (hwf _ (List.getElem_mem hi))
   omega
  refine ⟨⟨some a,l0,c0⟩,(zs.take l0).map Int.toNat,rfl,⟨?_,hl,(fun h=>by cases h),?_⟩,?_⟩
  ·rw [List.length_map,List.length_take];simp only;omega
  ·intro b hb i hi
   injection hb with hb
   subst hb
   rw [List.length_map,List.length_take] at hi
   have hi2:i<zs.length:=by omega
   rw [hcell i hi2]
   have h1:=hz i hi2
   have h2:zs.getD i 0=zs[i]:=by rw [List.getD_eq_getElem?_getD,List.getElem?_eq_getElem hi2];rfl
   rw [h2,List.getElem_map,List.getElem_take,Int.toNat_of_nonneg h1.1]
  ·intro x hx
   obtain ⟨z,hz1,rfl⟩:=List.mem_map.mp hx
   obtain ⟨i,hi,e⟩:=List.mem_iff_getElem.mp (List.mem_of_mem_take hz1)
   have:=hz i hi
   rw [e] at this
   omega
end Go.Sx
