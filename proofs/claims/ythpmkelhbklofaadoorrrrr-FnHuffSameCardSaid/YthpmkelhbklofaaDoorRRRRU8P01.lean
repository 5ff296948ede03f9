/- Lemmas for the proof: H54 H55 H56 H57. No conditions. -/
import Derived.Test.YthpmkelhbklofaaDoorRRRRU10
set_option linter.unusedVariables false
set_option linter.unusedSimpArgs false
namespace Go.Sx
open Go Go.Proofs
set_option maxRecDepth 4000
def codeB (v k:Nat):List Nat:=(List.range k).map fun i=>v/2^(k-1-i)%2
theorem codeB_len (v k:Nat):(codeB v k).length=k:=by simp [codeB]
def bN:List Nat→Nat
 | []=>0
 | b::r=>b*2^r.length+bN r
theorem bN_app (a b:List Nat):bN (a++b)=bN a*2^b.length+bN b:=by
 induction a with
 | nil=>simp [bN]
 | cons x r ih =>
  rw [List.cons_append,bN,ih,bN,List.length_append,Nat.pow_add,Nat.add_mul,Nat.mul_assoc];omega
theorem bN_snoc (a:List Nat) (x:Nat):bN (a ++ [x])=2*bN a+x:=by rw [bN_app];simp [bN];omega
theorem codeB_take (v k:Nat):∀i,i≤k→bN ((codeB v k).take i)=v/2^(k-i)%2^i
 | 0,_=>by simp [bN,Nat.mod_one]
 | i+1,h=>by
  have hl:i<(codeB v k).length:=by rw [codeB_len];omega
  rw [List.take_succ_eq_append_getElem hl,bN_snoc,codeB_take v k i (by omega)]
  have e:(codeB v k)[i]=v/2^(k-(i+1))%2:=by
   have h0:(codeB v k)[i]=v/2^(k-1-i)%2:=by simp [codeB]
   rw [h0,show k-1-i=k-(i+1) by omega]
  rw [e]
  have e2:v/2^(k-i)=v/2^(k-(i+1))/2:=by
   rw [Nat.div_div_eq_div_mul, ←Nat.pow_succ];congr 2;omega
  rw [e2,Nat.pow_succ,Nat.mul_comm (2^i) 2,Nat.mod_mul]
  omega
theorem codeB_val {v k:Nat} (h:v<2^k):bN (codeB v k)=v:=by
 have h1:=codeB_take v k k (Nat.le_refl _)
 rw [List.take_of_length_le (by rw [codeB_len];omega),Nat.sub_self,Nat.pow_zero,Nat.div_one,Nat.mod_eq_of_lt h] at h1
 exact h1
theorem codeB_bit {v k:Nat} : ∀b∈codeB v k,b<2:=by
 intro b hb
 unfold codeB at hb
 obtain ⟨i,_,rfl⟩:=List.mem_map.mp hb
 omega
def bitsT (cd ln:Nat→Nat) (xs:List Nat):List Nat:=xs.flatMap fun x=>codeB (cd x) (ln x)
theorem bitsT_len (cd ln:Nat→Nat):∀xs,(bitsT cd ln xs).length=(hE cd ln xs).2
 | []=>rfl
 | x::r=>by
  show (codeB (cd x) (ln x)++bitsT cd ln r).length=(hE cd ln r).2+ln x
  rw [List.length_append,codeB_len,bitsT_len cd ln r];omega
theorem bitsT_val {cd ln:Nat→Nat} : ∀ {xs:List Nat},(∀x∈xs,cd x<2^ln x)→bN (bitsT cd ln xs)=(hE cd ln xs).1
 | [],_=>rfl
 | x::r,h=>by
  show bN (codeB (cd x) (ln x)++bitsT cd ln r)=(hE cd ln r).1+cd x*2^(hE cd ln r).2
  rw [bN_app,codeB_val (h x (List.mem_cons_self ..)),bitsT_len,bitsT_val (fun y hy=>h y (List.mem_cons_of_mem _ hy))];omega
theorem bitsT_bit {cd ln:Nat→Nat} {xs:List Nat} : ∀b∈bitsT cd ln xs,b<2:=by
 intro b hb
 unfold bitsT at hb
 obtain ⟨x,_,hx⟩:=List.mem_flatMap.mp hb
 exact codeB_bit b hx
theorem bitsT_snoc (cd ln:Nat→Nat) {xs:List Nat} {i:Nat} (h:i<xs.length):bitsT cd ln (xs.take (i+1))=bitsT cd ln (xs.take i)++codeB (cd xs[i]) (ln xs[i]):=by
 unfold bitsT
 rw [List.take_succ_eq_append_getElem h,List.flatMap_append]
 simp
theorem EncT.uniq {cd ln:Nat→Nat} {xs a b:List Nat} (ha:EncT cd ln xs a) (hb:EncT cd ln xs b):a=b:=leN_inj ha.1 hb.1 (ha.2.2.trans hb.2.2.symm) (ha.2.1.trans hb.2.1.symm)
def byF (N:Nat):Nat→Int:=fun k=>((N/2^(8*k)%256:Nat):Int)
theorem byF_set {N p:Nat} (h:2^(p+1)∣N):byF (N+2^p)=updF (byF N) (p/8) ((N/2^(8*(p/8))%256+2^(p%8):Nat):Int)∧(N/2^(8*(p/8))%256)%2^(p%8+1)=0∧N/2^(8*(p/8))%256+2^(p%8)<256:=by
 obtain ⟨a,rfl⟩:=h
 have hp:8*(p/8)+p%8=p:=by omega
 have hr:p%8<8:=Nat.mod_lt _ (by omega)
 have e1:∀c,(2^(p+1)*a+c*2^p)/2^(8*(p/8))=2^(p%8+1)*a+c*2^(p%8):=by
  intro c
  have:2^(p+1)*a+c*2^p=(2^(p%8+1)*a+c*2^(p%8))*2^(8*(p/8)):=by
   rw [Nat.add_mul,Nat.mul_right_comm, ←Nat.pow_add,Nat.mul_assoc c, ←Nat.pow_add,show p%8+1+8*(p/8)=p+1 by omega,show p%8+8*(p/8)=p by omega]
  rw [this,Nat.mul_div_cancel _ (Nat.two_pow_pos _)]
 have e0:=e1 0
 simp only [Nat.zero_mul,Nat.add_zero] at e0
 have eo:=e1 1
 rw [Nat.one_mul,Nat.one_mul] at eo
 have key:∀r,r<8→(2^(r+1)*a%256)%2^(r+1)=0∧2^(r+1)*a%256+2^r<256∧(2^(r+1)*a+2^r)%256=2^(r+1)*a%256+2^r:=by
  intro r hr
  have:r=0∨r=1∨r=2∨r=3∨r=4∨r=5∨r=6∨r=7:=by omega
  rcases this with rfl|rfl|rfl|rfl|rfl|rfl|rfl|rfl<;>simp only [Nat.reduceAdd,Nat.reducePow]<;>omega
 obtain ⟨k1,k2,k3⟩:=key (p%8) hr
 refine ⟨?_,by rw [e0];exact k1,by rw [e0];exact k2⟩
 funext k
 unfold byF updF
 by_cases hk:k=p/8
 ·subst hk
  rw [if_pos rfl,e0,eo,k3]
 ·rw [if_neg hk]
  congr 1
  rcases Nat.lt_or_ge k (p/8) with h|h
  ·have h2:(2^(p+1)*a+2^p)/2^(8*k)=2^(p+1)*a/2^(8*k)+256*2^(p-8*k-8):=by
    have e:2^p=(256*2^(p-8*k-8))*2^(8*k):=by
     rw [show (256:Nat)=2^8 from rfl, ←Nat.pow_add, ←Nat.pow_add];congr 1;omega
    rw [e,Nat.add_mul_div_right _ _ (Nat.two_pow_pos _)]
   rw [h2,Nat.add_mul_mod_self_left]
  ·have e:2^(8*k)=2^(p+1)*2^(8*k-(p+1)):=by rw [←Nat.pow_add];congr 1;omega
   rw [e, ←Nat.div_div_eq_div_mul, ←Nat.div_div_eq_div_mul]
   congr 2
   have hlt:2^p<2^(p+1):=Nat.pow_lt_pow_right (by omega) (by omega)
   rw [Nat.mul_add_div (Nat.two_pow_pos _),Nat.div_eq_of_lt hlt,Nat.mul_div_cancel_left _ (Nat.two_pow_pos _),Nat.add_zero]
theorem or_bit {x r:Nat} (hr:r<8) (hx:x%2^(r+1)=0) (hl:x+2^r<256):orI .u8 ((x:Nat):Int) ((2^r:Nat):Int)=((x+2^r:Nat):Int):=by
 have hlt:2^r<2^(r+1):=Nat.pow_lt_pow_right (by omega) (by omega)
 have e:x=2^(r+1)*(x/2^(r+1)):=by have:=Nat.div_add_mod x (2^(r+1));omega
 have h:=Nat.two_pow_add_eq_or_of_lt (i:=r+1) (b:=2^r) hlt (x/2^(r+1))
 rw [orI_nat rfl _ _ (by simp only [IntKind.bits];omega) (by simp only [IntKind.bits];omega)]
 rw [←e] at h
 rw [←h]
theorem or_zero8 {x:Nat} (h:x<256):orI .u8 ((x:Nat):Int) 0=((x:Nat):Int):=by
 have h1:=orI_nat (k := .u8) rfl x 0 (by simp only [IntKind.bits];omega) (by decide)
 rw [show ((0:Nat):Int)=0 from rfl,Nat.or_zero] at h1
 exact h1
section
variable {w:World}
theorem VecU.of_byF {b K N:Nat} (B:Blk w b (arrC .u8 K (byF N))) (hK:K<2^63):VecU w ⟨some ⟨b,0,none⟩,K,K⟩ (leB N K):=by
 refine ⟨⟨?_,Nat.le_refl _,(fun h=>by cases h),?_⟩,?_,hK⟩
 ·rw [bytes_len,leB_len];simp
 ·intro a ha
  injection ha with ha
  subst ha
  refine ⟨rfl,rfl,_,B,?_,fun i hi=>by rw [arrC_get (by simpa using hi)];rfl⟩
  intro i hi
  rw [bytes_len,leB_len] at hi
  rw [arrC_get hi]
  unfold bytes
  rw [List.getElem?_map,leB_get hi];rfl
 ·intro a ha i hi
  injection ha with ha
  subst ha
  exact ⟨_,(B.cell i).trans (arrC_get hi)⟩
theorem c54 {s0:Sl} {bl:List Nat} {K:Sl→PT} (V:Vec 1 w s0 (nints bl)) (hb:∀b∈bl,b<2) (hl:bl.length≤2^30) (hk:∀w' s',VecU w' s' (leB (bN bl+2^bl.length) (bl.length/8+1))→Fm w w' []→(∀v∈s'.bs,w.heap.size≤v)→K s' w') :
  callP Tryd.prog 54 #[.slice s0.a s0.l s0.c] [.c .S] K w:=by
 have hsl:=V.len
 rw [nints_len,Nat.mul_one] at hsl
 apply q54_ok
 unfold q54
 have eq8:quoI .i64 (s0.l:Int) 8=((bl.length/8:Nat):Int):=by
  rw [←hsl,show (8:Int)=((8:Nat):Int) from rfl,quoI_nat _ _ _ (by simp only [IntKind.bits];omega)]
 have em8:Int.tmod (s0.l:Int) 8=((bl.length%8:Nat):Int):=by rw [←hsl];rfl
 rw [eq8,em8,wI64 (by omega) (by omega)]
 refine ⟨by decide,?_⟩
 refine mks1 (k := .u8) (v:=0) (n:=bl.length/8+1) (by omega) (by omega) (by omega) ?_
 intro w1 F1 hs1 B1
 have hvb:∀b∈s0.bs,b≠w.heap.size:=fun b hb=>by have:=V.lt b hb;omega
 have hpn:w.heap.size≤w.heap.size:=Nat.le_refl _
 have V1:=V.fr F1 (by simp)
 generalize hpe:w.heap.size=p at *
 have B1':Blk w1 p (arrC .u8 (bl.length/8+1) (byF 0)):=B1.congr (by congr 1;funext k;unfold byF;simp)
 unfold drw
 refine ⟨by decide,?_⟩
 have hq:bl.length/8<bl.length/8+1:=by omega
 refine ixS_o rfl hq ?_
 rw [Nat.zero_add]
 refine ld_b (t := .I .u8) (x:=byF 0 (bl.length/8)) B1'.drew (arrC_get hq) ?_
 refine ⟨by decide,⟨by omega,?_⟩⟩
 refine ixS_o rfl hq ?_
 rw [Nat.zero_add]
 refine st_u B1'.drew (by rw [arrC_get hq];rfl) rfl ?_
 intro w2 B2 F2
 rw [arrC_upd hq] at B2
 have hm8:bl.length%8<8:=Nat.mod_lt _ (by omega)
 obtain ⟨g1,g2,g3⟩:=byF_set (N:=0) (p:=bl.length) ⟨0,by first|omega|(dsimp only;omega)⟩
 have eor:orI .u8 (byF 0 (bl.length/8)) (shlI .u8 1 ((bl.length%8:Nat):Int))=((0/2^(8*(bl.length/8))%256+2^(bl.length%8):Nat):Int):=by
  have e1:shlI .u8 1 ((bl.length%8:Nat):Int)=((2^(bl.length%8):Nat):Int):=by
   have:∀r:Fin 8,shlI .u8 1 (((r:Nat):Nat):Int)=((2^(r:Nat):Nat):Int):=by decide +kernel
   exact this ⟨_,hm8⟩
  rw [e1]
  exact or_bit hm8 g2 g3
 rw [eor, ←g1,Nat.zero_add] at B2
 have F02:Fm w1 w2 [p]:=(Fm.refl w1 [p]).drew.trans F2 (fun x hx => .inl hx)
 refine joinP_id ?_
 refine ⟨fun x w'=>∃i:Nat,x=(i:Int)∧i≤bl.length∧Blk w' p (arrC .u8 (bl.length/8+1) (byF (2^bl.length+bN (bl.take i)*2^(bl.length-i))))∧Fm w1 w' [p],fun x _=>bl.length-x.toNat,⟨0,rfl,Nat.zero_le _,by simpa [bN] using B2,F02⟩,?_⟩
 rintro x w3 ⟨i,rfl,hi,B3,F3⟩
 unfold q54_L0
 refine cnd_d ?_ ?_
 ·intro hc
  have hi2:i<bl.length:=by omega
  have hbi:=hb _ (List.getElem_mem hi2)
  have V3:=V1.fr F3 (by intro b hb';simp;exact hvb b hb')
  refine Vec.ldN i V3 rfl hi2 ?_
  intro q hq'
  refine ld_c (t := .I .i64) (x:=((bl[i]:Nat):Int)) hq' ?_
  unfold drw
  have eP:IntKind.i64.wrap (IntKind.i64.wrap ((s0.l:Int)-1)-((i:Nat):Int))=((bl.length-1-i:Nat):Int):=by
   rw [wI64 (x:=(s0.l:Int)-1) (by omega) (by omega),wI64 (by omega) (by omega)];omega
  rw [eP,show (8:Int)=((8:Nat):Int) from rfl,quoI_nat _ _ _ (by simp only [IntKind.bits];omega),show Int.tmod ((bl.length-1-i:Nat):Int) ((8:Nat):Int)=(((bl.length-1-i)%8:Nat):Int) from rfl]
  generalize hpp:bl.length-1-i=pp at *
  have hq2:pp/8<bl.length/8+1:=by omega
  have hr:pp%8<8:=Nat.mod_lt _ (by omega)
  refine ⟨by decide,?_⟩
  refine ixS_o rfl hq2 ?_
  rw [Nat.zero_add]
  refine ld_b (t := .I .u8) (x:=byF (2^bl.length+bN (bl.take i)*2^(bl.length-i)) (pp/8)) B3.drew (arrC_get hq2) ?_
  refine ⟨by decide,⟨by omega,?_⟩⟩
  refine ixS_o rfl hq2 ?_
  rw [Nat.zero_add]
  refine st_u B3.drew (by rw [arrC_get hq2];rfl) rfl ?_
  intro w4 B4 F4
  rw [arrC_upd hq2] at B4
  rw [wI64 (by omega) (by omega)]
  have hdv:2^(pp+1)∣2^bl.length+bN (bl.take i)*2^(bl.length-i):=by
   rw [show bl.length-i=pp+1 by omega]
   exact Nat.dvd_add (Nat.pow_dvd_pow 2 (by omega)) (Nat.dvd_mul_left _ _)
  obtain ⟨g1,g2,g3⟩:=byF_set hdv
  have enext:2^bl.length+bN (bl.take (i+1))*2^(bl.length-(i+1))=2^bl.length+bN (bl.take i)*2^(bl.length-i)+bl[i]*2^pp:=by
   rw [List.take_succ_eq_append_getElem hi2,bN_snoc,show bl.length-(i+1)=pp by omega,show bl.length-i=pp+1 by omega,Nat.add_mul,Nat.pow_succ,Nat.mul_comm 2 (bN _),Nat.mul_assoc,Nat.mul_comm 2 (2^pp)]
   omega
  have hbits:bl[i]=0∨bl[i]=1:=by omega
  refine ⟨⟨i+1,by simp,hi2,B4.congr ?_,F3.trans ((Fm.refl w3 [p]).drew.trans F4 (fun x hx => .inl hx)) (fun x hx => .inl hx)⟩,by first|omega|(dsimp only;omega)⟩
  rw [enext]
  congr 1
  rcases hbits with h0|h1
  ·rw [h0,Nat.zero_mul,Nat.add_zero]
   have ez:IntKind.u8.wrap (shlI .i64 ((0:Nat):Int) ((pp%8:Nat):Int))=0:=by
    unfold shlI
    simp
    rfl
   rw [ez]
   funext k
   unfold updF
   split
   ·rename_i hk
    subst hk
    exact or_zero8 (Nat.mod_lt _ (by omega))
   ·rfl
  ·rw [h1,Nat.one_mul,g1]
   have e1:IntKind.u8.wrap (shlI .i64 ((1:Nat):Int) ((pp%8:Nat):Int))=((2^(pp%8):Nat):Int):=by
    have:∀r:Fin 8,IntKind.u8.wrap (shlI .i64 ((1:Nat):Int) (((r:Nat):Nat):Int))=((2^(r:Nat):Nat):Int):=by decide +kernel
    exact this ⟨_,hr⟩
   rw [e1]
   congr 1
   exact or_bit hr g2 g3
 ·intro hc
  have hi2:i=bl.length:=by omega
  subst hi2
  unfold q54_J1
  rw [List.take_length,Nat.sub_self,Nat.pow_zero,Nat.mul_one] at B3
  have B3':Blk w3 p (arrC .u8 (bl.length/8+1) (byF (bN bl+2^bl.length))):=by rw [Nat.add_comm (bN bl)];exact B3
  refine hk w3 _ (VecU.of_byF B3' (by omega)) (F1.trans F3 (by intro v hv;right;simp at hv;omega)) ?_
  intro v hv
  simp [Sl.bs] at hv
  omega
end
section
variable {w:World}
theorem c21 {b:Nat} {ln:Nat→Nat} {f:Nat→Int} {K:Bool→PT} (B:Blk w b (arrC .i64 256 f)) (hf:∀i,f i=(ln i:Nat)) (h11:∀i,ln i≤11) (hs:sF (fun i=>if 0<ln i then 2^(11-ln i) else 0) 0 256=2^11) (two:∃x y,x<y∧y<256∧0<ln x∧0<ln y) (hk:K true w) :
  callP Tryd.prog 21 #[.slice (some ⟨b,0,none⟩) 256 256] [.c .B] K w:=by
 apply q21_ok (s0:=⟨some ⟨b,0,none⟩,256,256⟩)
 unfold q21
 refine cnd_d (fun h=>absurd h (show ¬((256:Int)<((256:Nat):Int)) by decide)) (fun _ => ?_)
 refine joinP_id ?_
 refine ⟨fun x w'=>∃i:Nat,x=(((sF (fun i=>if 0<ln i then 2^(11-ln i) else 0) 0 i:Nat):Int),((sF (fun i=>if 0<ln i then 1 else 0) 0 i:Nat):Int),(i:Int))∧i≤256∧w'=w,fun x _=>256-x.2.2.toNat,⟨0,rfl,Nat.zero_le _,rfl⟩,?_⟩
 rintro x w1 ⟨i,rfl,hi,rfl⟩
 unfold q21_L2
 simp only
 refine cnd_d ?_ ?_
 ·intro hc
  have hi2:i<256:=by omega
  have h1:=h11 i
  refine joinP_id ?_
  unfold q21_X1
  refine ixS_o rfl hi2 ?_
  rw [Nat.zero_add]
  refine ld_b (t := .I .i64) (x:=((ln i:Nat):Int)) B (by rw [arrC_get hi2,hf i];rfl) ?_
  refine cnd_d (fun h=>absurd h (by omega)) (fun _=>cnd_d (fun h=>absurd h (by omega)) (fun _ => ?_))
  have hsum:sF (fun i=>if 0<ln i then 2^(11-ln i) else 0) 0 (i+1)=sF (fun i=>if 0<ln i then 2^(11-ln i) else 0) 0 i+(if 0<ln i then 2^(11-ln i) else 0):=by rw [sF,Nat.zero_add]
  have hcnt:sF (fun i=>if 0<ln i then 1 else 0) 0 (i+1)=sF (fun i=>if 0<ln i then 1 else 0) 0 i+(if 0<ln i then 1 else 0):=by rw [sF,Nat.zero_add]
  have hle:sF (fun i=>if 0<ln i then 2^(11-ln i) else 0) 0 i≤2^11:=by
   rw [←hs];exact sF_mono_n _ (by omega)
  have hle2:sF (fun i=>if 0<ln i then 1 else 0) 0 i≤i*1:=sF_le_mul (fun j _=>by split<;>omega)
  have hp:2^(11-ln i)≤2^11:=Nat.pow_le_pow_right (by omega) (by omega)
  have e11:IntKind.i64.wrap ((11:Int)-((ln i:Nat):Int))=((11-ln i:Nat):Int):=by rw [wI64 (by omega) (by omega)];omega
  unfold q21_J0
  simp only
  refine cnd_d (fun hpos => ?_) (fun hn => ?_)
  ·rw [e11]
   refine ⟨by omega,?_⟩
   rw [shl1 (by omega)]
   generalize 2^(11-ln i)=pw at *
   rw [wI64 (x:=_+((pw:Nat):Int)) (by omega) (by omega),wI64 (x:=((sF (fun i=>if 0<ln i then 1 else 0) 0 i:Nat):Int)+1) (by omega) (by omega),wI64 (by omega) (by omega)]
   refine ⟨⟨i+1,?_,hi2,rfl⟩,by first|omega|(dsimp only;omega)|(simp only [];omega)⟩
   rw [hsum,hcnt,if_pos (by omega),if_pos (by omega),Prod.mk.injEq,Prod.mk.injEq]
   exact ⟨by omega,by omega,by first|omega|(dsimp only;omega)⟩
  ·rw [wI64 (by omega) (by omega)]
   refine ⟨⟨i+1,?_,hi2,rfl⟩,by first|omega|(dsimp only;omega)|(simp only [];omega)⟩
   rw [hsum,hcnt,if_neg (by omega),if_neg (by omega),Prod.mk.injEq,Prod.mk.injEq]
   exact ⟨by omega,by omega,by first|omega|(dsimp only;omega)⟩
 ·intro hc
  have hi2:i=256:=by omega
  subst hi2
  obtain ⟨x,y,hxy,hy,hx0,hy0⟩:=two
  have h2:2≤sF (fun i=>if 0<ln i then 1 else 0) 0 256:=by
   have e:=sF_split (fun i=>if 0<ln i then 1 else 0) y (256-y)
   rw [show y+(256-y)=256 by omega] at e
   have m1:=sF_mem (fun i=>if 0<ln i then 1 else 0) 0 (n:=y) (i:=x) (by omega) (by omega)
   have m2:=sF_mem (fun i=>if 0<ln i then 1 else 0) y (n:=256-y) (i:=y) (by omega) (by omega)
   rw [if_pos hx0] at m1
   rw [if_pos hy0] at m2
   omega
  unfold q21_J4
  simp only
  refine joinP_id (cnd_d (fun _ => ?_) (fun h=>absurd h (by omega)))
  unfold q21_J3
  rw [hs]
  exact hk
theorem mt_ex {v n x:Nat} {tab:List Cell3} (h:x∈mt v n tab):∃j,∃hj:j<tab.length,tab[j].1=x:=by
 unfold mt at h
 obtain ⟨c,hc,e⟩:=List.mem_map.mp h
 obtain ⟨j,hj,e2⟩:=List.mem_iff_getElem.mp (List.mem_filter.mp hc).1
 exact ⟨j,hj,by rw [e2];exact e⟩
theorem c53 {b x:Nat} {cnt ln:Nat→Nat} {L M:Nat} {f:Nat→Int} {K:Sl→PT} (H:HT cnt L M ln) (hL:L≤256) (B:Blk w b (arrC .i64 256 f)) (hf:∀i,f i=(lnx L ln i:Nat)) (hx:x<L) (h0:0<ln x) (hk:∀w' s',Vec 1 w' s' (nints (codeB (vC ln L M x) (ln x)))→Fm w w' []→(∀v∈s'.bs,w.heap.size≤v)→K s' w') :
  callP Tryd.prog 53 #[.slice (some ⟨b,0,none⟩) 256 256,.int .i64 (x:Nat)] [.c .S] K w:=by
 have h11:ln x≤11:=by have:=H.le x hx;have:=H.m11;omega
 have hc:=vC_lt H hx h0
 have hpl:vC ln L M x<2048:=Nat.lt_of_lt_of_le hc (Nat.pow_le_pow_right (by omega) h11:2^_≤2^11)
 apply q53_ok (s0:=⟨some ⟨b,0,none⟩,256,256⟩)
 unfold q53
 refine joinP_id ?_
 refine c73 H hL B hf ?_
 intro w1 r4 V4 F1 n4
 have h4l:=V4.len
 rw [flat3_len] at h4l
 have h4b:=V4.lt
 have hcl:=clZ_len L M ln 11
 obtain ⟨j0,hj0,ej0⟩:=mt_ex (v:=vC ln L M x) (n:=ln x) (x:=x) (tab:=clZ L M ln 11) (by rw [mt_some H hx hL h0];simp)
 refine ⟨fun y w'=>∃j:Nat,y=(j:Int)∧j≤j0∧Fm w1 w' [],fun y _=>3000-y.toNat,⟨0,rfl,Nat.zero_le _,Fm.refl _ _⟩,?_⟩
 rintro y w2 ⟨j,rfl,hj,F2⟩
 unfold q53_L4
 refine cnd_d (fun hcj => ?_) (fun hcj=>absurd (by omega) hcj)
 have hj2:j<(clZ L M ln 11).length:=by omega
 refine joinP_id ?_
 unfold q53_X3
 refine tab_ld j (V4.fr F2 (by simp)) rfl hj2 ?_
 rintro tb o ⟨F,HB,f0,f1,f2⟩
 refine ld3_b HB f0 f1 f2 ?_
 refine nw_3i ?_
 intro w3 F3 hs3 B3
 have hsz2:=F2.size
 have hsz1:=F1.size
 have hpn:w.heap.size≤w2.heap.size:=by omega
 have hpn1:w1.heap.size≤w2.heap.size:=hsz2
 generalize w2.heap.size=p at *
 show st _ _ (st _ _ (st _ _ _)) _
 simp only [add_mk,Nat.add_zero,Nat.zero_add]
 refine st_u B3 rfl rfl ?_
 intro w4 B4 F4
 refine st_u B4 rfl rfl ?_
 intro w5 B5 F5
 refine st_u B5 rfl rfl ?_
 intro w6 B6 F6
 have F16:Fm w1 w6 []:=F2.trans ((((F3.mono (S' := [p]) (by simp)).trans F4 (fun x hx => .inl hx)).trans F5 (fun x hx => .inl hx)).trans F6 (fun x hx => .inl hx)) (by intro v hv;right;simp at hv;omega)
 refine ld_b (t := .I .i64) (x:=(((clZ L M ln 11)[j].1:Nat):Int)) B6 rfl ?_
 refine cnd_nd (fun hne => ?_) (fun heq => ?_)
 ·unfold q53_J2
  have hjne:j≠j0:=by
   intro e
   subst e
   exact hne (by rw [ej0])
  rw [wI64 (by omega) (by omega)]
  exact ⟨⟨j+1,by omega,by omega,F16⟩,by first|omega|(dsimp only;omega)⟩
 ·have heq':(clZ L M ln 11)[j].1=x:=by omega
  obtain ⟨i,n,hi256,hin,hcell⟩:=clZ_mem (List.getElem_mem hj2)
  rw [hcell] at heq'
  simp only at heq'
  subst heq'
  rw [lnx_lt hx] at hin
  subst hin
  rw [hcell] at B6
  refine joinP_id ?_
  refine ld_b (t := .I .i64) (x:=((ln i:Nat):Int)) B6 rfl ?_
  rw [wI64 (x:=((ln i:Nat):Int)-1) (by omega) (by omega)]
  refine ⟨fun z w'=>∃m:Nat,m≤ln i∧z.2=((ln i:Nat):Int)-1-(m:Int)∧Vec 1 w' z.1 (nints ((codeB (vC ln L M i) (ln i)).take m))∧Blk w' p (updC (updC (updC (c3C 0 0 0) 0 (.int .i64 (i:Nat))) 1 (.int .i64 (vC ln L M i:Nat))) 2 (.int .i64 (ln i:Nat)))∧Fm w6 w' []∧(∀v∈z.1.bs,w6.heap.size≤v),fun z _=>(z.2+1).toNat,⟨0,Nat.zero_le _,by omega,Vec.nil,B6,Fm.refl _ _,by simp [Sl.bs]⟩,?_⟩
  rintro ⟨zs,zi⟩ w7 ⟨m,hm,hzi,V7,B7,F7,n7⟩
  simp only at hzi V7 n7
  subst hzi
  unfold q53_L0
  simp only
  refine cnd_d (fun hge => ?_) (fun hlt => ?_)
  ·have hm2:m<ln i:=by omega
   simp only [add_mk,Nat.zero_add]
   refine ld_b (t := .I .i64) (x:=((vC ln L M i:Nat):Int)) B7 rfl ?_
   refine ⟨hge,?_⟩
   have ebit:andI .i64 (shrI .i64 ((vC ln L M i:Nat):Int) (((ln i:Nat):Int)-1-(m:Int))) 1=((vC ln L M i/2^(ln i-1-m)%2:Nat):Int):=by
    rw [show ((ln i:Nat):Int)-1-(m:Int)=((ln i-1-m:Nat):Int) by omega,shrI_nat _ _ _ (by simp only [IntKind.bits];omega)]
    have h1:=andI_i64 (vC ln L M i/2^(ln i-1-m)) 1 (by have:=Nat.div_le_self (vC ln L M i) (2^(ln i-1-m));omega) (by decide)
    rw [show (1:Int)=((1:Nat):Int) from rfl,h1,Nat.and_one_is_mod]
   rw [ebit]
   have hzl:=V7.len
   rw [nints_len,List.length_take,codeB_len,Nat.min_eq_left hm,Nat.mul_one] at hzl
   refine app_1 V7 rfl (by omega) ?_
   intro s8 w8 V8 F8 n8
   rw [wI64 (by omega) (by omega)]
   have hs7:=F7.size
   refine ⟨⟨m+1,hm2,by first|omega|(dsimp only;omega)|(simp only [];omega),?_,B7.fr F8 (fun h=>by have:=n7 p h;have:=B6.lt;omega),F7.trans F8 (fun v hv => .inr (n7 v hv)),?_⟩,by first|omega|(dsimp only;omega)|(simp only [];omega)⟩
   ·have hl:m<(codeB (vC ln L M i) (ln i)).length:=by rw [codeB_len];exact hm2
    rw [List.take_succ_eq_append_getElem hl,nints_app]
    have e:(codeB (vC ln L M i) (ln i))[m]=vC ln L M i/2^(ln i-1-m)%2:=by
     simp [codeB]
    rw [e]
    exact V8
   ·intro v hv
    rcases n8 v hv with h|h
    ·exact n7 v h
    ·omega
  ·have hm2:m=ln i:=by omega
   subst hm2
   rw [List.take_of_length_le (by rw [codeB_len];exact Nat.le_refl _)] at V7
   unfold q53_J1
   have hs16:=F16.size
   refine hk w7 zs V7 ((F1.trans F16 (by simp)).trans F7 (by simp)) ?_
   intro v hv
   have:=n7 v hv
   omega
end
theorem Vec.has1 {w:World} {s:Sl} {l:List Value} (h:Vec 1 w s l) (ho:∀v∈l,one v=true):Has 1 w s l:=by
 have hl:=h.len
 refine ⟨hl,?_,?_,ho⟩
 ·intro b hb i hi
  obtain ⟨h1,h2,f,h3,h4,h5⟩:=h.blk b hb
  obtain ⟨ab,ao,asp⟩:=b
  simp only at h1 h2 h3
  subst h1 h2
  rw [add_mk,Nat.zero_add,h3.cell,h4 i hi]
 ·intro e
  have h1:=h.non e
  have h2:=h.cap
  exact List.length_eq_zero_iff.mp (by omega)
theorem nints_one (l:List Nat):∀v∈nints l,one v=true:=by
 intro v hv
 unfold nints ints at hv
 simp only [List.map_map,List.mem_map] at hv
 obtain ⟨x,_,rfl⟩:=hv
 rfl
theorem nints_append (a b:List Nat):nints (a++b)=nints a++nints b:=by simp [nints,ints]
def slC (n:Nat) (G:Nat→Sl):Cells:=fun i=>if i<n then some (G i).val else none
theorem slC_get {n i:Nat} {G:Nat→Sl} (h:i<n):slC n G i=some (G i).val:=if_pos h
def updS (G:Nat→Sl) (o:Nat) (s:Sl):Nat→Sl:=fun i=>if i=o then s else G i
theorem slC_upd {n i:Nat} {G:Nat→Sl} {s:Sl} (h:i<n):updC (slC n G) i s.val=slC n (updS G i s):=by
 funext j
 unfold updC slC updS
 by_cases e:j=i
 ·subst e;rw [if_pos rfl,if_pos h,if_pos rfl]
 ·rw [if_neg e,if_neg e]
theorem mks24 {w:World} {κ:Sl→PT} (hk:∀w',Fm w w' []→w'.heap.size=w.heap.size+1→Blk w' w.heap.size (slC 256 fun _=>⟨none,0,0⟩)→κ ⟨some ⟨w.heap.size,0,none⟩,256,256⟩ w'):mks z24 24 24 256 256 κ w:=by
 refine ⟨256,256,rfl,rfl,Nat.le_refl _,by omega,hk _ (Fm.refl w []).alloc (World.size_alloc _ _) (Blk.new.congr ?_)⟩
 funext i
 exact zrep1 _ _ _
section
variable {w:World} {b:Nat} {s1:Sl} {ys:List Nat} {cnt ln:Nat→Nat} {L M:Nat} {f:Nat→Int}
structure LB (w:World) (b:Nat) (cnt:Nat→Nat) (L M:Nat) (ln:Nat→Nat) (f:Nat→Int):Prop where
 h:HT cnt L M ln
 l256:L≤256
 blk:Blk w b (arrC .i64 256 f)
 hf:∀i,f i=(lnx L ln i:Nat)
 h11:∀i,lnx L ln i≤11
 kr:sF (fun i=>if 0<lnx L ln i then 2^(11-lnx L ln i) else 0) 0 256=2^11
 two:∃x y,x<y∧y<256∧0<lnx L ln x∧0<lnx L ln y
theorem LB.fr {w':World} (h:LB w b cnt L M ln f) (F:Fm w w' []):LB w' b cnt L M ln f:=⟨h.h,h.l256,h.blk.fr F (by simp),h.hf,h.h11,h.kr,h.two⟩
theorem c31f {K3:Sl×Bool→PT} (T:LB w b cnt L M ln f) (A:Arr .u8 w s1 ys) (hby:By ys) (hy:∀x∈ys,x<L∧0<ln x) (hne:ys ≠ []) (hyl:ys.length≤2^18) (hk:∀w' s' ol,EncT (vC ln L M) ln ys ol→VecU w' s' ol→Fm w w' []→(∀v∈s'.bs,w.heap.size≤v)→K3 (s',true) w') :
  callP Tryd.prog 31 #[.slice (some ⟨b,0,none⟩) 256 256,.slice s1.a s1.l s1.c,.bool false] [.c .S,.c .B] K3 w:=by
 have hsl:=A.len
 have hlp:=List.length_pos_iff.mpr hne
 apply q31_ok (s0:=⟨some ⟨b,0,none⟩,256,256⟩)
 unfold q31
 refine c21 T.blk T.hf T.h11 T.kr T.two ?_
 refine ⟨(fun h=>by cases h),fun _=>cnd_d (fun h=>absurd h (by omega)) (fun _ => ?_)⟩
 refine joinP_id ⟨fun _ => ?_,fun h=>by cases h⟩
 refine mks24 ?_
 intro w1 F1 hs1 B1
 have hpn:w.heap.size≤w.heap.size:=Nat.le_refl _
 have hne1:∀a,s1.a=some a→ys ≠ []→a.block≠w.heap.size:=fun a ha hx=>by have:=A.old hx a ha;omega
 have hbp:b≠w.heap.size:=by have:=T.blk.lt;omega
 have T1:=T.fr F1
 have A1:=A.fr F1 (by simp)
 have hp1:=B1.lt
 generalize hpe:w.heap.size=p at *
 refine joinP_id ?_
 have hln11:∀x∈ys,ln x≤11:=fun x hx=>by have:=T.h.le x (hy x hx).1;have:=T.h.m11;omega
 have hbitl:∀i,i≤ys.length→(bitsT (vC ln L M) ln (ys.take i)).length≤11*ys.length:=by
  intro i hi
  rw [bitsT_len]
  have:=hE_le (cd:=vC ln L M) (ln:=ln) (xs:=ys.take i) (fun x hx=>hln11 x (List.mem_of_mem_take hx))
  rw [List.length_take] at this
  omega
 refine ⟨fun x w'=>∃(i:Nat) (G:Nat→Sl),x.2=(i:Int)∧i≤ys.length∧Vec 1 w' x.1 (nints (bitsT (vC ln L M) ln (ys.take i)))∧Blk w' p (slC 256 G)∧(∀c,c<256→(G c).a=none∨Vec 1 w' (G c) (nints (codeB (vC ln L M c) (ln c))))∧(∀c,c<256→∀v∈(G c).bs,w1.heap.size≤v∧v∉x.1.bs)∧(∀v∈x.1.bs,w1.heap.size≤v)∧Fm w1 w' [p],fun x _=>ys.length-x.2.toNat,
  ⟨0,fun _=>⟨none,0,0⟩,rfl,Nat.zero_le _,Vec.nil,B1,fun _ _ => .inl rfl,(by intro c _ v hv;simp [Sl.bs] at hv),by simp [Sl.bs],Fm.refl _ _⟩,?_⟩
 rintro ⟨x,xi⟩ w2 ⟨i,G,hxi,hi,V2,B2,hG,hGb,n2,F2⟩
 simp only at hxi V2 hGb n2
 subst hxi
 have hpx:p∉x.bs:=fun h=>by have:=n2 p h;omega
 unfold q31_L1
 simp only
 refine cnd_d ?_ ?_
 ·intro hc
  have hi2:i<ys.length:=by omega
  have hym:=List.getElem_mem hi2
  obtain ⟨hyL,hy0⟩:=hy _ hym
  have hy256:=hby _ hym
  have A2:=A1.fr F2 (by intro a ha hx;simp;exact hne1 a ha hx)
  refine A2.ldk i rfl hi2 ?_
  intro q hq
  refine ld_c (t := .I .u8) (x:=((ys[i]:Nat):Int)) hq ?_
  have hcl:=bitsT_snoc (vC ln L M) ln hi2
  have hb1:=hbitl i hi
  have fin:∀(w3:World) (G':Nat→Sl),Vec 1 w3 x (nints (bitsT (vC ln L M) ln (ys.take i)))→Blk w3 p (slC 256 G')→Vec 1 w3 (G' ys[i]) (nints (codeB (vC ln L M ys[i]) (ln ys[i])))→(∀c,c<256→(G' c).a=none∨Vec 1 w3 (G' c) (nints (codeB (vC ln L M c) (ln c))))→(∀c,c<256→∀v∈(G' c).bs,w1.heap.size≤v∧v∉x.bs)→Fm w1 w3 [p] →
    q31_J0 K3 ⟨some ⟨p,0,none⟩,256,256⟩ (x,(i:Int)) (fun s' w'=>(∃(i:Nat) (G:Nat→Sl),s'.2=(i:Int)∧i≤ys.length∧Vec 1 w' s'.1 (nints (bitsT (vC ln L M) ln (ys.take i)))∧Blk w' p (slC 256 G)∧(∀c,c<256→(G c).a=none∨Vec 1 w' (G c) (nints (codeB (vC ln L M c) (ln c))))∧(∀c,c<256→∀v∈(G c).bs,w1.heap.size≤v∧v∉s'.1.bs)∧(∀v∈s'.1.bs,w1.heap.size≤v)∧Fm w1 w' [p])∧ys.length-s'.2.toNat<ys.length-((i:Nat):Int).toNat) ((ys[i]:Nat):Int) () w3:=by
   intro w3 G' V3 B3 VG hG3 hGb3 F3
   have hgl:=VG.len
   rw [nints_len,codeB_len,Nat.mul_one] at hgl
   have hga:(G' ys[i]).a.isNone=false:=by
    cases ha:(G' ys[i]).a with
    | none=>have h1:=VG.non ha;have h2:=VG.cap;omega
    | some a=>rfl
   unfold q31_J0
   simp only
   refine ixS_o rfl hy256 ?_
   rw [Nat.zero_add]
   refine ld_b (t := .S) (x:=G' ys[i]) B3 (slC_get hy256) ?_
   refine ⟨(fun h=>by rw [hga] at h;cases h),fun _ => ?_⟩
   refine ixS_o rfl hy256 ?_
   rw [Nat.zero_add]
   refine ld_b (t := .S) (x:=G' ys[i]) B3 (slC_get hy256) ?_
   have hxl:=V3.len
   rw [nints_len,Nat.mul_one] at hxl
   have hln:=hln11 _ hym
   refine app_v (zs:=z3) V3 (VG.has1 (nints_one _)) (by decide) (by first|omega|(dsimp only;omega)|(simp only [];omega)) ?_
   intro s4 w4 V4 F4 n4
   rw [wI64 (by omega) (by omega)]
   have hs3:=F3.size
   have V4:Vec 1 w4 s4 (nints (bitsT (vC ln L M) ln (ys.take i))++nints (codeB (vC ln L M ys[i]) (ln ys[i]))):=V4
   rw [←nints_append, ←hcl] at V4
   have n4':∀v∈s4.bs,w1.heap.size≤v:=by
    intro v hv
    rcases n4 v hv with h|h
    ·exact n2 v h
    ·omega
   refine ⟨⟨i+1,G',by simp,hi2,V4,B3.fr F4 hpx,?_,?_,n4',F3.trans F4 (fun v hv => .inr (n2 v hv))⟩,by first|omega|(dsimp only;omega)|(simp only [];omega)⟩
   ·intro c hc'
    exact (hG3 c hc').imp id (fun h=>h.fr F4 (fun v hv=>(hGb3 c hc' v hv).2))
   ·intro c hc' v hv
    refine ⟨(hGb3 c hc' v hv).1,?_⟩
    intro hm
    rcases n4 v hm with h|h
    ·exact (hGb3 c hc' v hv).2 h
    ·rcases hG3 c hc' with hn|hv3
     ·unfold Sl.bs at hv;rw [hn] at hv;simp at hv
     ·have:=hv3.lt v hv;omega
  refine joinP_id ?_
  refine ixS_o rfl hy256 ?_
  rw [Nat.zero_add]
  refine ld_b (t := .S) (x:=G ys[i]) B2 (slC_get hy256) ?_
  refine ⟨fun hn => ?_,fun hs => ?_⟩
  ·rw [wI64 (by omega) (by omega)]
   have hbp2:b ∉ [p]:=nm1 hbp
   refine c53 T.h T.l256 (T1.blk.fr F2 hbp2) T.hf hyL hy0 ?_
   intro w3 r15 V15 F3 n15
   refine ixS_o rfl hy256 ?_
   rw [Nat.zero_add]
   have B3:=B2.fr F3 (by simp)
   refine st_u B3 (by rw [slC_get hy256];rfl) rfl ?_
   intro w4 B4 F4
   have B4':Blk w4 p (slC 256 (updS G ys[i] r15)):=B4.congr (slC_upd hy256)
   have hs2:=F2.size
   have hp2:=B2.lt
   have hx4:∀v∈x.bs,v ∉ [p]:=fun v hv=>by simp;exact fun e=>hpx (e▸hv)
   have h15:∀v∈r15.bs,v ∉ [p]:=fun v hv=>by have:=n15 v hv;simp;omega
   have hVx:=V2.lt
   refine fin w4 (updS G ys[i] r15) ((V2.fr F3 (by simp)).fr F4 hx4) B4' ?_ ?_ ?_ ((F2.trans F3 (by simp)).trans F4 (fun x hx => .inl hx))
   ·unfold updS;rw [if_pos rfl];exact V15.fr F4 h15
   ·intro c hc'
    unfold updS
    by_cases e:c=ys[i]
    ·rw [if_pos e,e];exact .inr (V15.fr F4 h15)
    ·rw [if_neg e]
     refine (hG c hc').imp id (fun h=>(h.fr F3 (by simp)).fr F4 ?_)
     intro v hv
     have:=(hGb c hc' v hv).1
     simp;omega
   ·intro c hc' v hv
    unfold updS at hv
    by_cases e:c=ys[i]
    ·rw [if_pos e] at hv
     have:=n15 v hv
     exact ⟨by omega,fun hm=>by have:=hVx v hm;omega⟩
    ·rw [if_neg e] at hv
     exact hGb c hc' v hv
  ·refine fin w2 G V2 B2 ?_ hG hGb F2
   rcases hG _ hy256 with h|h
   ·rw [h] at hs;cases hs
   ·exact h
 ·intro hc
  have hi2:i=ys.length:=by omega
  subst hi2
  rw [List.take_length] at V2
  have hbl:=hbitl ys.length (Nat.le_refl _)
  rw [List.take_length] at hbl
  unfold q31_J2
  refine c54 V2 bitsT_bit (by omega) ?_
  intro w3 s3 V3 F3 n3
  have hs1':=F1.size
  have hs2:=F2.size
  refine hk w3 s3 _ ⟨leB_by _ _,?_,?_⟩ V3 ((F1.trans F2 (by intro v hv;right;simp at hv;omega)).trans F3 (by simp)) ?_
  ·rw [leB_val,bitsT_val (fun x hx=>vC_lt T.h (hy x hx).1 (hy x hx).2),bitsT_len]
   refine Nat.mod_eq_of_lt ?_
   have hlt:=hE_lt T.h hy
   have h1:(hE (vC ln L M) ln ys).1+2^(hE (vC ln L M) ln ys).2<2^((hE (vC ln L M) ln ys).2+1):=by rw [Nat.pow_succ];omega
   have h2:2^((hE (vC ln L M) ln ys).2+1)≤2^(8*((hE (vC ln L M) ln ys).2/8+1)):=Nat.pow_le_pow_right (by omega) (by omega)
   rw [Nat.pow_mul] at h2
   exact Nat.lt_of_lt_of_le h1 h2
  ·rw [leB_len,bitsT_len]
  ·intro v hv
   have:=n3 v hv
   omega
end
theorem app_2u {T T':TypeId} {s:Sl} {κ:Sl→PT} {w:World} {l:List Nat} {u v:Nat} (h:VecU w s l) (hb:s.l+2≤2^46)
  (hk:∀s' w',VecU w' s' (l ++ [u,v])→Fm w w' s.bs→(∀b∈s'.bs,b∈s.bs∨w.heap.size≤b)→κ s' w'):nw [.int .u8 (u:Nat),.int .u8 (v:Nat)] T' (fun p=>app z5 T 1 s ⟨some p,2,2⟩ κ) w:=by
 refine nw_2 ?_
 intro w1 F1 hs1 B1
 refine app_vu (xs := [u,v]) (h.fr F1 (by simp)) ⟨rfl,?_,(fun h=>by cases h),by simp [bytes,one]⟩ hb ?_
 ·intro b hb' i hi
  injection hb' with hb'
  subst hb'
  rw [add_mk,Nat.zero_add,B1.cell]
  have hi:i<2:=by simpa [bytes] using hi
  have:i=0∨i=1:=by omega
  rcases this with rfl|rfl<;>rfl
 ·intro s' w' h1 h2 h3
  refine hk s' w' h1 ((F1.mono (S':=s.bs) (by simp)).trans h2 (fun b hb => .inl hb)) ?_
  intro b hb'
  rcases h3 b hb' with h4|h4
  ·exact .inl h4
  ·right;omega
theorem VecU.fresh {w:World} {p:Nat} {f:Cells} (B:Blk w p f):VecU w ⟨some ⟨p,0,none⟩,0,0⟩ []:=by
 refine ⟨⟨rfl,Nat.le_refl _,fun _=>rfl,?_⟩,?_,show (0:Nat)<2^63 by decide⟩
 ·intro a ha
  injection ha with ha
  subst ha
  exact ⟨rfl,rfl,_,B,by simp [bytes],by simp⟩
 ·intro a ha i hi
  exact absurd hi (Nat.not_lt_zero _)
theorem nw_0 {w:World} {T:TypeId} {κ:Addr→PT} (hk:∀w',Fm w w' []→w'.heap.size=w.heap.size+1→Blk w' w.heap.size (fun _=>none)→κ ⟨w.heap.size,0,none⟩ w'):nw [] T κ w :=
 hk _ (Fm.refl w []).alloc (World.size_alloc _ _) (Blk.new.congr (by funext i;simp))
def hdP (ols:List (List Nat)) (i:Nat):List Nat:=(List.range (min i 3)).flatMap fun k => [lenP ols k%256,lenP ols k/256%256]
theorem hdP_succ {ols:List (List Nat)} {i:Nat} (h:i<3):hdP ols (i+1)=hdP ols i ++ [lenP ols i%256,lenP ols i/256%256]:=by
 unfold hdP
 rw [Nat.min_eq_left (by omega),Nat.min_eq_left (by omega),List.range_succ,List.flatMap_append]
 simp
theorem hdP_three {ols:List (List Nat)} : hdP ols 4=hdP ols 3:=rfl
theorem hdP_end {ols:List (List Nat)} : hdP ols 3=hdr6 (lenP ols 0) (lenP ols 1) (lenP ols 2):=by
 unfold hdP hdr6;simp [List.range_succ]
theorem hdP_len {ols:List (List Nat)} (i:Nat):(hdP ols i).length≤6:=by
 unfold hdP
 have:i=0∨i=1∨i=2∨3≤i:=by omega
 rcases this with rfl|rfl|rfl|h
 ·simp
 ·simp
 ·simp [List.range_succ]
 ·rw [Nat.min_eq_right h];simp [List.range_succ]
theorem flat_take {ols:List (List Nat)} {i:Nat} (h:i<ols.length):(ols.take (i+1)).flatten=(ols.take i).flatten++ols.getD i []:=by
 rw [List.take_succ_eq_append_getElem h,List.flatten_append,List.getD_eq_getElem?_getD,List.getElem?_eq_getElem h]
 simp
section
variable {w:World} {b:Nat} {s1:Sl} {xs:List Nat} {cnt ln:Nat→Nat} {L M:Nat} {f:Nat→Int}
theorem c31t {K3:Sl×Bool→PT} {ols:List (List Nat)} (T:LB w b cnt L M ln f) (A:Arr .u8 w s1 xs) (hby:By xs) (hy:∀x∈xs,x<L∧0<ln x) (h12:12≤xs.length) (hyl:xs.length≤2^18) (h4:ols.length=4) (hp:∀k,k<4→EncT (vC ln L M) ln (segP xs k) (ols.getD k [])∧lenP ols k≤65535) (hk:∀w' s',VecU w' s' (Out4 ols)→Fm w w' []→K3 (s',true) w') :
  callP Tryd.prog 31 #[.slice (some ⟨b,0,none⟩) 256 256,.slice s1.a s1.l s1.c,.bool true] [.c .S,.c .B] K3 w:=by
 have hsl:=A.len
 apply q31_ok (s0:=⟨some ⟨b,0,none⟩,256,256⟩)
 unfold q31
 refine c21 T.blk T.hf T.h11 T.kr T.two ?_
 refine ⟨(fun h=>by cases h),fun _=>cnd_d (fun h=>absurd h (by omega)) (fun _ => ?_)⟩
 refine joinP_id ⟨(fun h=>by cases h),fun _ => ?_⟩
 unfold q31_J6
 have eq4:quoI .i64 (IntKind.i64.wrap ((s1.l:Int)+3)) 4=((segN xs.length:Nat):Int):=by
  rw [hsl,wI64 (by omega) (by omega),show (xs.length:Int)+3=((xs.length+3:Nat):Int) by omega,show (4:Int)=((4:Nat):Int) from rfl,quoI_nat _ _ _ (by simp only [IntKind.bits];omega)]
  rfl
 have hsg:segN xs.length=(xs.length+3)/4:=rfl
 rw [eq4]
 refine ⟨by decide,cnd_d (fun h=>absurd h (by rw [wI64 (by omega) (by omega)];omega)) (fun _ => ?_)⟩
 refine nw_0 ?_
 intro w1 F1 hs1 B1
 refine nw_0 ?_
 intro w2 F2 hs2 B2
 have F02:Fm w w2 []:=F1.trans F2 (by simp)
 have VH:VecU w2 ⟨some ⟨w.heap.size,0,none⟩,0,0⟩ []:=VecU.fresh (B1.fr F2 (by simp))
 have VB:VecU w2 ⟨some ⟨w1.heap.size,0,none⟩,0,0⟩ []:=VecU.fresh B2
 refine joinP_id ?_
 have hflat:∀i,i≤4→(ols.take i).flatten.length≤i*65535:=by
  intro i
  induction i with
  | zero=>intro _;simp
  | succ i ih =>
   intro h
   have ih:=ih (by omega)
   have:=(hp i (by omega)).2
   rw [flat_take (by omega),List.length_append]
   unfold lenP at this
   omega
 refine ⟨fun x w'=>∃i:Nat,x.2.2=(i:Int)∧i≤4∧VecU w' x.1 (hdP ols i)∧VecU w' x.2.1 (ols.take i).flatten∧Fm w w' []∧(∀v∈x.1.bs,w.heap.size≤v∧v∉x.2.1.bs)∧(∀v∈x.2.1.bs,w.heap.size≤v),fun x _=>5-x.2.2.toNat,⟨0,rfl,by omega,VH,VB,F02,?_,?_⟩,?_⟩
 ·intro v hv
  simp [Sl.bs] at hv ⊢
  omega
 ·intro v hv
  simp [Sl.bs] at hv
  omega
 rintro ⟨xh,xb,xi⟩ w3 ⟨i,hxi,hi,V3h,V3b,F3,nh,nb⟩
 simp only at hxi V3h V3b nh nb
 subst hxi
 unfold q31_L4
 simp only
 rw [eq4]
 refine cnd_d ?_ ?_
 ·intro hc
  have hi4:i<4:=by omega
  obtain ⟨hEi,hl65⟩:=hp i hi4
  have hmul:i*segN xs.length≤3*segN xs.length:=Nat.mul_le_mul_right _ (by omega)
  have elo:IntKind.i64.wrap (((i:Nat):Int)*((segN xs.length:Nat):Int))=((i*segN xs.length:Nat):Int):=by
   rw [show ((i:Nat):Int)*((segN xs.length:Nat):Int)=((i*segN xs.length:Nat):Int) by norm_cast,wI64 (by omega) (by omega)]
  have ehi:minI (IntKind.i64.wrap (IntKind.i64.wrap (((i:Nat):Int)+1)*((segN xs.length:Nat):Int))) (s1.l:Int)=((min ((i+1)*segN xs.length) xs.length:Nat):Int):=by
   have hm4:(i+1)*segN xs.length≤4*segN xs.length:=Nat.mul_le_mul_right _ (by omega)
   rw [wI64 (x:=((i:Nat):Int)+1) (by omega) (by omega),show (((i:Nat):Int)+1)*((segN xs.length:Nat):Int)=(((i+1)*segN xs.length:Nat):Int) by norm_cast,wI64 (by omega) (by omega),hsl]
   unfold minI
   split<;>omega
  rw [elo,ehi]
  have hlo:i*segN xs.length≤min ((i+1)*segN xs.length) xs.length:=by rw [Nat.succ_mul];omega
  have A3:=A.fr F3 (by simp)
  have hsub:=A3.sub (i*segN xs.length) (min ((i+1)*segN xs.length) xs.length) hlo (Nat.min_le_right _ _)
  have epart:(xs.drop (i*segN xs.length)).take (min ((i+1)*segN xs.length) xs.length-i*segN xs.length)=segP xs i:=by
   unfold segP
   rw [Nat.succ_mul] at *
   by_cases h:i*segN xs.length+segN xs.length≤xs.length
   ·rw [Nat.min_eq_left h,Nat.add_sub_cancel_left]
   ·rw [Nat.min_eq_right (by omega),List.take_of_length_le (by rw [List.length_drop];omega),List.take_of_length_le (by rw [List.length_drop];omega)]
  rw [epart] at hsub
  refine slc_lh (n:=i*segN xs.length) (m:=min ((i+1)*segN xs.length) xs.length) rfl rfl hlo (by have:=A.cap;have:=Nat.min_le_right ((i+1)*segN xs.length) xs.length;omega) ?_
  have hpl:(segP xs i).length≤xs.length:=by unfold segP;rw [List.length_take,List.length_drop];omega
  have hpne:=segP_len h12 hi4
  refine c31f (s1:=⟨slA s1.a (i*segN xs.length) s1.c 1,min ((i+1)*segN xs.length) xs.length-i*segN xs.length,s1.c-i*segN xs.length⟩) (T.fr F3) hsub (fun x hx=>hby x (List.mem_of_mem_drop (List.mem_of_mem_take hx))) (fun z hz=>hy z (List.mem_of_mem_drop (List.mem_of_mem_take hz))) hpne (by omega) ?_
  intro w4 s4 ol' hE' V4 F4 n4
  have eol:ol'=ols.getD i []:=hE'.uniq hEi
  subst eol
  have h4l:=V4.len
  have hlen:s4.l=lenP ols i:=h4l
  have V4h:=V3h.fr F4 (by simp)
  have V4b:=V3b.fr F4 (by simp)
  have hfl:=hflat i hi
  have hs3:=F3.size
  have hs4:=F4.size
  refine ⟨(fun h=>by cases h),fun _=>cnd_d (fun h=>absurd h (by first|omega|(dsimp only;omega)|(simp only [];omega))) (fun _ => ?_)⟩
  have fin:∀(w5:World) (h5:Sl),VecU w5 h5 (hdP ols (i+1))→VecU w5 xb (ols.take i).flatten→VecU w5 s4 (ols.getD i [])→Fm w w5 []→(∀v∈h5.bs,w.heap.size≤v∧v∉xb.bs) →
    q31_J3 (xh,xb,((i:Nat):Int)) (fun s' w'=>(∃i:Nat,s'.2.2=(i:Int)∧i≤4∧VecU w' s'.1 (hdP ols i)∧VecU w' s'.2.1 (ols.take i).flatten∧Fm w w' []∧(∀v∈s'.1.bs,w.heap.size≤v∧v∉s'.2.1.bs)∧(∀v∈s'.2.1.bs,w.heap.size≤v))∧5-s'.2.2.toNat<5-((i:Nat):Int).toNat) (s4,true) h5 w5:=by
   intro w5 h5 V5h V5b V5 F5 n5
   unfold q31_J3
   simp only
   have hbl:=V5b.len
   refine app_vu (xs:=ols.getD i []) V5b V5.vec.arr.has (by omega) ?_
   intro s6 w6 V6 F6 n6
   rw [wI64 (by omega) (by omega)]
   have hs5:=F5.size
   refine ⟨⟨i+1,by simp,by omega,V5h.fr F6 (fun v hv=>(n5 v hv).2),?_,F5.trans F6 (fun v hv => .inr (nb v hv)),?_,?_⟩,by first|omega|(dsimp only;omega)|(simp only [];omega)⟩
   ·rw [flat_take (by omega)];exact V6
   ·intro v hv
    refine ⟨(n5 v hv).1,?_⟩
    intro hm
    rcases n6 v hm with h|h
    ·exact (n5 v hv).2 h
    ·have:=V5h.lt v hv;omega
   ·intro v hv
    rcases n6 v hv with h|h
    ·exact nb v h
    ·omega
  refine joinP_id ?_
  refine cnd_d (fun h3=>⟨by decide,?_⟩) (fun h3 => ?_)
  ·have hi3:i<3:=by omega
   have hhl:=V4h.len
   have hh6:=hdP_len (ols:=ols) i
   simp only
   rw [hlen,show IntKind.u8.wrap ((lenP ols i:Nat):Int)=((lenP ols i%256:Nat):Int) from wrap_u (k := .u8) rfl _,show IntKind.u8.wrap (shrI .i64 ((lenP ols i:Nat):Int) 8)=((lenP ols i/256%256:Nat):Int) by
     rw [show (8:Int)=((8:Nat):Int) from rfl,shrI_nat _ _ _ (by simp only [IntKind.bits];omega),wrap_u (k := .u8) rfl];rfl]
   refine app_2u V4h (by omega) ?_
   intro s5 w5 V5 F5 n5
   have hbx:∀v∈xb.bs,v∉xh.bs:=fun v hv hm=>(nh v hm).2 hv
   have h4x:∀v∈s4.bs,v∉xh.bs:=fun v hv hm=>by have:=n4 v hv;have:=V3h.lt v hm;omega
   refine fin w5 s5 (by rw [hdP_succ hi3];exact V5) (V4b.fr F5 hbx) (V4.fr F5 h4x) ((F3.trans F4 (by simp)).trans F5 (fun v hv => .inr (nh v hv).1)) ?_
   intro v hv
   rcases n5 v hv with h|h
   ·exact nh v h
   ·refine ⟨by omega,fun hm => ?_⟩
    have:=V4b.lt v hm;omega
  ·have hi3:i=3:=by omega
   subst hi3
   exact fin w4 xh (by rw [hdP_three];exact V4h) V4b V4 (F3.trans F4 (by simp)) nh
 ·intro hc
  have hi4:i=4:=by omega
  subst hi4
  rw [hdP_three,hdP_end] at V3h
  rw [List.take_of_length_le (by omega)] at V3b
  have hfl:=hflat 4 (by omega)
  rw [List.take_of_length_le (by omega)] at hfl
  have l1:=V3h.len
  have l2:=V3b.len
  have e6:(hdr6 (lenP ols 0) (lenP ols 1) (lenP ols 2)).length=6:=rfl
  unfold q31_J5
  simp only
  refine app_vu (xs:=ols.flatten) V3h V3b.vec.arr.has (by omega) ?_
  intro s6 w6 V6 F6 n6
  exact hk w6 s6 V6 (F3.trans F6 (fun v hv => .inr (nh v hv).1))
end
theorem law8 {w:World} {s0:Sl} {xs:List Nat} {K:Bool→PT} {b:Bool} (G:GE w) (A:Arr .u8 w s0 xs) (hby:By xs) (hk:∀w',Fm w w' []→K true w'):callP Tryd.prog 8 #[.slice s0.a s0.l s0.c,.bool b] [.c .B] K w:=by
 have hsl:=A.len
 apply q8_ok
 unfold q8
 refine cnd_d (fun _=>hk _ (Fm.refl _ _)) (fun _=>cnd_d (fun _=>hk _ (Fm.refl _ _)) (fun hle => ?_))
 have hxl:xs.length≤2^18:=by omega
 refine c24 (b:=b) (t:=0) G A hby hxl (by decide) ?_ ?_
 ·intro w1 k h1 h2 F1
  refine cnd_nd (fun _=>c25 (k:=k) (by omega) h2 (hk _ F1)) (fun h=>absurd h (by first|omega|(dsimp only;omega)|(simp only [];omega)))
 ·intro w1 o T D M ln L tbl ol hN hbt hwt hEn hlt VO VT VD F1
  refine cnd_nd (fun h=>absurd rfl h) (fun _ => ?_)
  obtain ⟨f,hf,hfx⟩:=hN.hl hwt
  refine c15 VT.vec.arr hbt (by omega) (fun h=>by rw [hf] at h;cases h) ?_
  intro f' used hf' w2 b2 F2 hbs B2
  rw [hf] at hf'
  injection hf' with hf'
  injection hf' with e1 e2
  subst e1 e2
  have A2:=A.fr (F1.trans F2 (by simp)) (by simp)
  obtain ⟨a,ha,ha2⟩:=hN.two
  have hl2:=hN.l2
  have hl256:=hN.l256
  have LB2:LB w2 b2 (fun i=>xs.count i) L M ln f:=⟨hN.h,hN.l256,B2,hfx,hN.le11,hN.kr256,a,L-1,ha,by omega,(hN.pos a).mpr ha2,(hN.pos (L-1)).mpr hN.last⟩
  have hy:∀x∈xs,x<L∧0<ln x:=fun x hx=>⟨(hN.mem hx).1,(hN.mem hx).2.1⟩
  have hne:xs ≠ []:=by intro e;subst e;have:=hN.last;simp at this
  have fin:∀w3 s3,VecU w3 s3 ol→Fm w2 w3 []→joinP (fun R7=>cnd true (cnd true (callP Tryd.prog 27 #[(.slice D.a D.l D.c),(.slice s3.a s3.l s3.c)] [.c .B] fun (r8:Bool)=>R7 r8) (R7 false)) (R7 false)) (q8_J0 K) w3:=by
   intro w3 s3 V3 F3
   refine joinP_id ⟨fun _=>⟨fun _ => ?_,fun h=>by cases h⟩,fun h=>by cases h⟩
   refine c27 (s0:=D) (s1:=s3) (xs:=ol) ((VD.fr (F2.trans F3 (by simp)) (by simp)).vec.arr) V3.vec.arr (by omega) ?_
   intro w4 F4
   unfold q8_J0
   exact hk _ (((F1.trans F2 (by simp)).trans F3 (by simp)).trans F4 (by simp))
  cases b with
  | false =>
   have hEn:EncT (vC ln L M) ln xs ol:=hEn
   refine c31f LB2 A2 hby hy hne hxl ?_
   intro w3 s3 ol' hE' V3 F3 n3
   have:=hE'.uniq hEn
   subst this
   exact fin w3 s3 V3 F3
  | true =>
   obtain ⟨h12,ols,h4,hparts,rfl⟩:Enc4 (vC ln L M) ln xs ol:=hEn
   refine c31t LB2 A2 hby hy h12 hxl h4 hparts ?_
   intro w3 s3 V3 F3
   exact fin w3 s3 V3 F3
end Go.Sx
