/- Lemmas for the proof: W9 W10 W11 P05 P06 P07. No conditions. -/
import Derived.Test.YtlnhldlhmplphaaDoorS4A03
set_option linter.unusedVariables false
set_option linter.unusedSimpArgs false
namespace Go.Sx
open Go Go.Proofs
def absZ (n:Int):Nat:=if n<0 then 1 else n.toNat
def sumZ (cs:List Int):Nat:=(cs.map absZ).sum
def cntZ (f:Nat→Int) (s:Int):Nat→Nat
 | 0=>0
 | i+1=>cntZ f s i+if f i=s then 1 else 0
theorem cntZ_le (f:Nat→Int) (s:Int) (i:Nat):cntZ f s i≤i:=by
 induction i with
 | zero=>exact Nat.le_refl _
 | succ i ih=>rw [cntZ];split<;>omega
def kZ (cs:List Int) (f:Nat→Int) (i:Nat):Nat:=absZ (cs.getD (f i).toNat 0)+cntZ f (f i) i
def cellZ (cs:List Int) (t:Nat) (f:Nat→Int) (i:Nat):Cell3 :=
 ((f i).toNat,t-(kZ cs f i).log2,((kZ cs f i*2^(t-(kZ cs f i).log2):Nat):Int)-((2^t:Nat):Int))
def statesZ (cs:List Int) (t:Nat):Option (List Cell3) :=
 if sumZ cs=2^t then
  match spreadZ cs (2^t) (fun _ => -1) with
  | none=>none
  | some (f,_)=>if ∀i,i<2^t→0≤f i then some ((List.range (2^t)).map (cellZ cs t f)) else none
 else none
def LaidP (cs:List Int) (f:Nat→Int):Prop:=∀p,f p = -1∨∃i:Nat,i<cs.length∧f p=(i:Int)∧cs.getD i 0≠0
theorem LaidP.upd {cs:List Int} {f:Nat→Int} {o i:Nat} (h:LaidP cs f) (hi:i<cs.length) (hc:cs.getD i 0≠0):LaidP cs (updF f o (i:Nat)):=by
 intro p
 unfold updF
 split
 ·exact .inr ⟨i,hi,rfl,hc⟩
 ·exact h p
theorem getD_Z {cs:List Int} {i:Nat} (h:i<cs.length):cs.getD i 0=cs[i]:=by rw [List.getD_eq_getElem?_getD,List.getElem?_eq_getElem h];rfl
theorem lowZ_laid (cs:List Int):∀(r:List Int) (i e:Nat) (f:Nat→Int),r=cs.drop i→LaidP cs f→LaidP cs (lowZ r i e f).1
 | [],i,e,f,hr,hf=>hf
 | c::r,i,e,f,hr,hf=>by
  have hi:i<cs.length:=by
   by_cases h:i<cs.length
   ·exact h
   ·rw [List.drop_eq_nil_of_le (by omega)] at hr;cases hr
  rw [drop_cons hi] at hr
  injection hr with h1 h2
  rw [lowZ]
  split
  ·rename_i hc
   refine lowZ_laid cs r (i+1) _ _ h2 (hf.upd hi ?_)
   rw [getD_Z hi, ←h1];omega
  ·exact lowZ_laid cs r (i+1) _ _ h2 hf
theorem symsZ_mem (cs:List Int):∀(r:List Int) (i:Nat),r=cs.drop i→∀s∈symsZ r i,s<cs.length∧cs.getD s 0≠0
 | [],i,hr,s,hs=>by cases hs
 | c::r,i,hr,s,hs=>by
  have hi:i<cs.length:=by
   by_cases h:i<cs.length
   ·exact h
   ·rw [List.drop_eq_nil_of_le (by omega)] at hr;cases hr
  rw [drop_cons hi] at hr
  injection hr with h1 h2
  rw [symsZ] at hs
  rcases List.mem_append.mp hs with h|h
  ·have:=List.mem_replicate.mp h
   refine ⟨by omega,?_⟩
   rw [this.2,getD_Z hi, ←h1];omega
  ·exact symsZ_mem cs r (i+1) h2 s h
theorem layZ_laid (cs:List Int) (size e:Nat):∀(l:List Nat) (a:Nat) (f:Nat→Int) (f':Nat→Int) (a':Nat),(∀s∈l,s<cs.length∧cs.getD s 0≠0)→LaidP cs f→layZ size e l a f=some (f',a')→LaidP cs f'
 | [],a,f,f',a',hl,hf,h=>by rw [layZ] at h;injection h with h;injection h with h1 h2;exact h1▸hf
 | s::r,a,f,f',a',hl,hf,h=>by
  rw [layZ] at h
  split at h
  ·cases h
  ·have:=hl s (by simp)
   exact layZ_laid cs size e r _ _ f' a' (fun x hx=>hl x (by simp [hx])) (hf.upd this.1 this.2) h
theorem spreadZ_laid {cs:List Int} {size a:Nat} {f:Nat→Int} (h:spreadZ cs size (fun _ => -1)=some (f,a)):LaidP cs f :=
 layZ_laid cs size _ _ _ _ f a (symsZ_mem cs cs 0 rfl) (lowZ_laid cs cs 0 _ _ rfl fun _ => .inl rfl) h
theorem mem_le_sum:∀ {l:List Nat} {a:Nat},a∈l→a≤l.sum
 | x::r,a,h=>by
  rw [List.sum_cons]
  rcases List.mem_cons.mp h with h|h
  ·omega
  ·have:=mem_le_sum h;omega
theorem absZ_le_sum {cs:List Int} {i:Nat} (h:i<cs.length):absZ cs[i]≤sumZ cs:=by
 unfold sumZ
 have:absZ cs[i]∈cs.map absZ:=List.mem_map_of_mem (List.getElem_mem h)
 exact mem_le_sum this
theorem zrep3 (n i:Nat):(zrep z113 n)[i]? = arrC .i64 (n*3) (fun _=>0) i:=by
 unfold arrC
 split
 ·rename_i h
  rw [Array.getElem?_eq_getElem (by rw [zrep_size];exact h)]
  simp only [zrep,Array.getElem_map,Array.getElem_range]
  have hm:i%z113.length<3:=Nat.mod_lt _ (by decide)
  rcases (show i%z113.length=0∨i%z113.length=1∨i%z113.length=2 by omega) with h|h|h<;>rw [h]<;>rfl
 ·rename_i h
  rw [Array.getElem?_eq_none (by rw [zrep_size];simp [z113];omega)]
theorem sumZ_take {cs:List Int} {i:Nat} (h:i<cs.length):sumZ (cs.take (i+1))=sumZ (cs.take i)+absZ cs[i]:=by
 unfold sumZ
 rw [List.take_succ_eq_append_getElem h,List.map_append,List.sum_append]
 simp only [List.map_cons,List.map_nil,List.sum_cons,List.sum_nil,Nat.add_zero]
theorem sumZ_take_le (cs:List Int) (M i:Nat) (hM:1≤M) (h:∀c∈cs,c≤M):sumZ (cs.take i)≤i*M:=by
 induction i with
 | zero=>simp [sumZ]
 | succ i ih =>
  rw [Nat.succ_mul]
  by_cases hi:i<cs.length
  ·rw [sumZ_take hi]
   have:=h _ (List.getElem_mem hi)
   have:absZ cs[i]≤M:=by unfold absZ;split<;>omega
   omega
  ·rw [List.take_of_length_le (by omega)] at ih ⊢
   omega
theorem c57 {w:World} {s:Sl} {cs:List Int} {t:Nat} {K:Sl×Bool→PT} (hv:Vec 1 w s (ints cs)) (ht:t=5∨t=6) (hn:cs.length≤2^20) (hc:∀c∈cs, -1≤c∧c≤2^20)
  (h0:statesZ cs t=none→∀w',Fm w w' []→K (⟨none,0,0⟩,false) w')
  (h1:∀tab,statesZ cs t=some tab→∀w' b,Fm w w' []→w.heap.size≤b→Vec 3 w' ⟨some ⟨b,0,none⟩,2^t,2^t⟩ (flat3 tab)→K (⟨some ⟨b,0,none⟩,2^t,2^t⟩,true) w') :
  callP Tryd.prog 57 #[.slice s.a s.l s.c,.int .i64 t] [.c .S,.c .B] K w:=by
 apply q57_ok
 unfold q57
 have hsz:2^t=32∨2^t=64:=by rcases ht with rfl|rfl<;>simp
 have e1:shlI .i64 1 ((t:Nat):Int)=((2^t:Nat):Int):=by rcases ht with rfl|rfl<;>rfl
 have hvl:s.l=cs.length:=by have:=hv.len;rw [ints_len] at this;omega
 refine ⟨by omega,fun x w'=>x=((sumZ cs:Nat):Int)∧w'=w,?_,?_⟩
 ·rintro x w' ⟨rfl,hw⟩
  have hw:=hw.symm
  subst hw
  unfold q57_J5
  rw [e1]
  refine cnd_nd ?_ ?_
  ·intro hc2
   refine h0 ?_ w (Fm.refl w _)
   unfold statesZ
   rw [if_neg (by omega)]
  ·intro hc2
   have hsum:sumZ cs=2^t:=by omega
   unfold statesZ at h0 h1
   rw [if_pos hsum] at h0 h1
   refine c75 hv ht hn hc ?_ ?_
   ·intro hsp w1 F1
    rw [hsp] at h0
    exact ⟨fun _=>h0 rfl w1 F1,by simp⟩
   ·intro f af hsp w1 bl F1 hbl BL
    rw [hsp] at h0 h1
    simp only at h0 h1
    refine ⟨by simp,fun _ => ?_⟩
    refine mks1 (n:=cs.length) (by rw [hvl]) (by rw [hvl]) (by omega) ?_
    intro w2 F2 hs2 BS
    have hs1:=F1.size
    refine ⟨2^t,2^t,rfl,rfl,Nat.le_refl _,by omega,?_⟩
    have hlaid:=spreadZ_laid hsp
    generalize hbs:w1.heap.size=bs at *
    have BO:Blk (w2.alloc (.cells (zrep z113 (2^t)) 113)) w2.heap.size (arrC .i64 (2^t*3) fun _=>0):=Blk.new.congr (by funext i;exact zrep3 _ _)
    have F3:Fm w2 (w2.alloc (.cells (zrep z113 (2^t)) 113)) []:=(Fm.refl w2 []).alloc
    have hs3:(w2.alloc (.cells (zrep z113 (2^t)) 113)).heap.size=w2.heap.size+1:=World.size_alloc _ _
    generalize w2.alloc (.cells (zrep z113 (2^t)) 113)=w3 at *
    have BL3:Blk w3 bl (arrC .i64 (2^t) f):=(BL.fr F2 (by simp)).fr F3 (by simp)
    have BS3:Blk w3 bs (arrC .i64 cs.length fun _=>0):=BS.fr F3 (by simp)
    have F03:Fm w w3 []:=(F1.trans F2 (by simp)).trans F3 (by simp)
    have hbll:=BL.lt
    have hbo:w2.heap.size=bs+1:=by omega
    rw [hbo] at BO ⊢
    refine ⟨fun _ w'=>(∀i,i<2^t→0≤f i)∧Fm w w' []∧∃g,Blk w' (bs+1) (arrC .i64 (2^t*3) g)∧∀i,i<2^t→g (i*3)=((cellZ cs t f i).1:Nat)∧g (i*3+1)=((cellZ cs t f i).2.1:Nat)∧g (i*3+2)=(cellZ cs t f i).2.2,?_,?_⟩
    ·rintro _ w4 ⟨hpos,F4,g,BO4,hg⟩
     unfold q57_J4
     rw [if_pos hpos] at h1
     refine h1 _ rfl w4 (bs+1) F4 (by omega) ⟨by rw [flat3_len];simp,Nat.le_refl _,(fun h=>by cases h),?_⟩
     intro a ha
     injection ha with ha
     subst ha
     refine ⟨rfl,rfl,_,BO4,?_,?_⟩
     ·intro j hj
      rw [flat3_len] at hj
      simp only [List.length_map,List.length_range] at hj
      have hq:j/3<2^t:=by omega
      have hj3:j=j/3*3+j%3:=by omega
      have hr:j%3<3:=Nat.mod_lt _ (by omega)
      rw [hj3,flat3_get _ _ _ (by simpa using hq) hr]
      rw [arrC_get (by omega)]
      obtain ⟨g0,g1,g2⟩:=hg _ hq
      simp only [List.getElem_map,List.getElem_range]
      rcases (show j%3=0∨j%3=1∨j%3=2 by omega) with h|h|h<;>rw [h]
      ·rw [Nat.add_zero,g0];rfl
      ·rw [g1];rfl
      ·rw [g2];rfl
     ·intro j hj
      simp only at hj
      rw [arrC_get hj];rfl
    ·refine ⟨fun x w'=>∃(i:Nat) (g h:Nat→Int),x=(i:Int)∧i≤2^t∧Fm w w' []∧Blk w' bl (arrC .i64 (2^t) f)∧Blk w' bs (arrC .i64 cs.length h)∧Blk w' (bs+1) (arrC .i64 (2^t*3) g) ∧
      (∀s:Nat,s<cs.length→h s=((cntZ f s i:Nat):Int))∧(∀j,j<i→0≤f j∧g (j*3)=((cellZ cs t f j).1:Nat)∧g (j*3+1)=((cellZ cs t f j).2.1:Nat)∧g (j*3+2)=(cellZ cs t f j).2.2),
      fun x _=>2^t-x.toNat,⟨0,_,_,rfl,Nat.zero_le _,F03,BL3,BS3,BO,by simp [cntZ],by simp⟩,?_⟩
     rintro x w4 ⟨i,g,h,rfl,hi,F4,BL4,BS4,BO4,hh,hg⟩
     unfold q57_L3
     refine cnd_d ?_ ?_
     ·intro hc3
      have hi2:i<2^t:=by simp only at hc3;omega
      refine ixS1 rfl hi2 ?_
      refine ld_b (t := .I .i64) (x:=f i) BL4 (arrC_get hi2) ?_
      refine cnd_d ?_ ?_
      ·intro hc4
       rw [if_neg (by intro hh;have:=hh i hi2;omega)] at h0
       exact h0 rfl w4 F4
      ·intro hc4
       rcases hlaid i with hm|⟨sy,hsy,hfi,hne⟩
       ·omega
       rw [hfi]
       refine (hv.fr F4 (by simp)).ldI sy rfl hsy ?_
       intro p hp
       refine ld_c (t := .I .i64) hp ?_
       have hcsy:=hc _ (List.getElem_mem hsy)
       have hle:=absZ_le_sum hsy
       have hcnt:=cntZ_le f sy i
       have hkz:kZ cs f i=absZ cs[sy]+cntZ f sy i:=by unfold kZ;rw [hfi,Int.toNat_natCast,getD_Z hsy]
       have hcell:cellZ cs t f i=(sy,t-(kZ cs f i).log2,((kZ cs f i*2^(t-(kZ cs f i).log2):Nat):Int)-((2^t:Nat):Int)):=by unfold cellZ;rw [hfi,Int.toNat_natCast]
       have habs:0<absZ cs[sy]:=by
        rw [getD_Z hsy] at hne
        unfold absZ;split<;>omega
       have hkpos:0<kZ cs f i:=by omega
       have hklt:kZ cs f i<2^(t+1):=by rw [Nat.pow_succ];omega
       have hklog:(kZ cs f i).log2<t+1:=(Nat.log2_lt (by omega)).mpr hklt
       have hkl:=Nat.log2_self_le (n:=kZ cs f i) (by omega)
       have hku:=Nat.lt_log2_self (n:=kZ cs f i)
       have hkb:kZ cs f i*2^(t-(kZ cs f i).log2)<2^(t+1):=by
        rw [show t+1=((kZ cs f i).log2+1)+(t-(kZ cs f i).log2) by omega,Nat.pow_add]
        exact Nat.mul_lt_mul_of_pos_right hku (Nat.two_pow_pos _)
       have hpt:2^(t+1)=2*2^t:=Nat.pow_succ'
       refine joinP_id ?_
       have fin:∀m:Int,m=(absZ cs[sy]:Nat)→q57_J2 t ⟨some ⟨bs,0,none⟩,cs.length,cs.length⟩ ⟨some ⟨bs+1,0,none⟩,2^t,2^t⟩ (i:Nat) (fun s' w'=>(∃(i:Nat) (g h:Nat→Int),s'=(i:Int)∧i≤2^t∧Fm w w' []∧Blk w' bl (arrC .i64 (2^t) f)∧Blk w' bs (arrC .i64 cs.length h)∧Blk w' (bs+1) (arrC .i64 (2^t*3) g) ∧
         (∀s:Nat,s<cs.length→h s=((cntZ f s i:Nat):Int))∧(∀j,j<i→0≤f j∧g (j*3)=((cellZ cs t f j).1:Nat)∧g (j*3+1)=((cellZ cs t f j).2.1:Nat)∧g (j*3+2)=(cellZ cs t f j).2.2))∧2^t-s'.toNat<2^t-(i:Int).toNat) sy m w4:=by
        rintro m rfl
        unfold q57_J2
        refine ixS1 rfl hsy (ld_b (t := .I .i64) (x:=h sy) BS4 (arrC_get hsy) (ixS1 rfl hsy (ld_b (t := .I .i64) (x:=h sy) BS4 (arrC_get hsy) (ixS1 rfl hsy ?_))))
        rw [hh sy hsy]
        refine st_b BS4 (by rw [arrC_get hsy];rfl) rfl ?_
        rw [wI64 (x:=((cntZ f sy i:Nat):Int)+1) (by omega) (by omega)]
        have BS5:=BS4.setW (o:=sy) (v := .int .i64 (((cntZ f sy i:Nat):Int)+1)) (by rw [arrC_get hsy];rfl) (arrC_upd hsy)
        have F45:Fm w4 (w4.setCell ⟨bs,sy,none⟩ (.int .i64 (((cntZ f sy i:Nat):Int)+1))) [bs]:=(Fm.refl _ _).set (.inl (by simp))
        generalize w4.setCell ⟨bs,sy,none⟩ (.int .i64 (((cntZ f sy i:Nat):Int)+1))=w5 at *
        have ek:IntKind.i64.wrap (((absZ cs[sy]:Nat):Int)+((cntZ f sy i:Nat):Int))=((kZ cs f i:Nat):Int):=by rw [wI64 (by omega) (by omega)];omega
        rw [ek]
        refine c44 hkpos (by omega) ?_
        have eb:IntKind.i64.wrap (((t:Nat):Int)-(((kZ cs f i).log2:Nat):Int))=((t-(kZ cs f i).log2:Nat):Int):=by rw [wI64 (by omega) (by omega)];omega
        simp only
        rw [eb,e1]
        have es:shlI .i64 ((kZ cs f i:Nat):Int) ((t-(kZ cs f i).log2:Nat):Int)=((kZ cs f i*2^(t-(kZ cs f i).log2):Nat):Int):=shlI_nat .i64 _ _ (by simp only [IntKind.bits];omega) (by simp only [IntKind.bits];omega)
        rw [es,wI64 (x:=((kZ cs f i*2^(t-(kZ cs f i).log2):Nat):Int)-_) (by omega) (by omega)]
        refine ⟨by omega,?_⟩
        refine ixS_b (k:=i) rfl rfl hi2 ?_
        unfold stL stL stL stL
        simp only [add_mk]
        have BO5:=BO4.fr F45 (by simp)
        have q0:0+i*3+0<2^t*3:=by omega
        have q1:0+i*3+(0+1)<2^t*3:=by omega
        have q2:0+i*3+(0+1+1)<2^t*3:=by omega
        refine st_b BO5 (by rw [arrC_get q0];rfl) rfl ?_
        have BO6:=BO5.setW (o:=0+i*3+0) (v := .int .i64 (sy:Nat)) (by rw [arrC_get q0];rfl) (arrC_upd q0)
        refine st_b BO6 (by rw [arrC_get q1];rfl) rfl ?_
        have BO7:=BO6.setW (o:=0+i*3+(0+1)) (v := .int .i64 ((t-(kZ cs f i).log2:Nat):Int)) (by rw [arrC_get q1];rfl) (arrC_upd q1)
        refine st_b BO7 (by rw [arrC_get q2];rfl) rfl ?_
        have BO8:=BO7.setW (o:=0+i*3+(0+1+1)) (v := .int .i64 (((kZ cs f i*2^(t-(kZ cs f i).log2):Nat):Int)-((2^t:Nat):Int))) (by rw [arrC_get q2];rfl) (arrC_upd q2)
        have F58:=(((Fm.refl w5 [bs+1]).set (a:=⟨bs+1,0+i*3+0,none⟩) (v := .int .i64 (sy:Nat)) (.inl (by simp))).set (a:=⟨bs+1,0+i*3+(0+1),none⟩) (v := .int .i64 ((t-(kZ cs f i).log2:Nat):Int)) (.inl (by simp))).set (a:=⟨bs+1,0+i*3+(0+1+1),none⟩) (v := .int .i64 (((kZ cs f i*2^(t-(kZ cs f i).log2):Nat):Int)-((2^t:Nat):Int))) (.inl (by simp))
        rw [wI64 (x:=((i:Nat):Int)+1) (by omega) (by omega)]
        refine ⟨⟨i+1,_,_,by simp,by omega,(F4.trans F45 ?_).trans F58 ?_,(BL4.fr F45 (by simp;omega)).fr F58 (by simp;omega),BS5.fr F58 (by simp),BO8,?_,?_⟩,by omega⟩
        ·intro x hx;right;simp at hx;omega
        ·intro x hx;right;simp at hx;omega
        ·intro s2 hs2
         unfold updF
         rw [cntZ,hfi]
         by_cases e:s2=sy
         ·subst e;simp
         ·rw [if_neg e,if_neg (by omega),hh s2 hs2];simp
        ·intro j hj
         by_cases e:j=i
         ·subst e
          rw [hcell]
          refine ⟨by omega,?_,?_,?_⟩<;>simp [updF]
         ·have:=hg j (by omega)
          refine ⟨this.1,?_,?_,?_⟩
          ·rw [←this.2.1];unfold updF;rw [if_neg (by omega),if_neg (by omega),if_neg (by omega)]
          ·rw [←this.2.2.1];unfold updF;rw [if_neg (by omega),if_neg (by omega),if_neg (by omega)]
          ·rw [←this.2.2.2];unfold updF;rw [if_neg (by omega),if_neg (by omega),if_neg (by omega)]
       refine cnd_d ?_ ?_
       ·intro hc5
        exact fin 1 (by unfold absZ;rw [if_pos hc5];rfl)
       ·intro hc5
        exact fin cs[sy] (by unfold absZ;rw [if_neg hc5];omega)
     ·intro hc3
      have hi2:i=2^t:=by simp only at hc3;omega
      subst hi2
      exact ⟨fun j hj=>(hg j hj).1,F4,g,BO4,fun j hj=>(hg j hj).2⟩
 ·refine ⟨fun x w'=>w'=w∧∃i:Nat,i≤cs.length∧x=(((sumZ (cs.take i):Nat):Int),(i:Int)),fun x _=>cs.length-x.2.toNat,⟨rfl,0,Nat.zero_le _,by simp [sumZ]⟩,?_⟩
  rintro x w' ⟨rfl,i,hi,rfl⟩
  unfold q57_L1
  simp only
  refine cnd_d ?_ ?_
  ·intro hc2
   have hi2:i<cs.length:=by omega
   refine hv.ldI i rfl hi2 ?_
   intro p hp
   refine ld_c (t := .I .i64) hp ?_
   have hb:=hc _ (List.getElem_mem hi2)
   have hle:=sumZ_take_le cs 1048576 (i+1) (by decide) (fun c hcc=>(hc c hcc).2)
   have hst:=sumZ_take hi2
   refine joinP_id ?_
   have fin:∀m:Int,m=(absZ cs[i]:Nat)→q57_J0 (((sumZ (cs.take i):Nat):Int),(i:Int)) (fun s' w'_1=>(w'_1=w'∧∃i:Nat,i≤cs.length∧s'=(((sumZ (cs.take i):Nat):Int),(i:Int)))∧cs.length-s'.2.toNat<cs.length-(i:Int).toNat) m w':=by
    rintro m rfl
    unfold q57_J0
    simp only
    rw [wI64 (by omega) (by omega),wI64 (by omega) (by omega)]
    exact ⟨⟨trivial,i+1,by omega,by rw [hst];simp⟩,by omega⟩
   refine cnd_d ?_ ?_
   ·intro hc5
    exact fin 1 (by unfold absZ;rw [if_pos hc5];rfl)
   ·intro hc5
    exact fin cs[i] (by unfold absZ;rw [if_neg hc5];omega)
  ·intro hc2
   have hi2:i=cs.length:=by omega
   subst hi2
   rw [List.take_length]
   exact ⟨rfl,rfl⟩
theorem By.drop {l:List Nat} (h:By l) (n:Nat):By (l.drop n):=fun x hx=>h x (List.mem_of_mem_drop hx)
theorem By.take {l:List Nat} (h:By l) (n:Nat):By (l.take n):=fun x hx=>h x (List.mem_of_mem_take hx)
def Cb (s:HS):Prop:=∀c∈s.cs, -1≤c∧c≤32768
theorem zerosZ_cb (l:List Nat) (s:HS) (h:Cb s):Cb (zerosZ l s):=by
 have ap:∀n,Cb ⟨s.pos+2,s.ok&&okZ l s.pos 2,s.cs++List.replicate n 0⟩:=by
  intro n c hc
  rcases List.mem_append.mp hc with h1|h1
  ·exact h c h1
  ·have:=(List.mem_replicate.mp h1).2;omega
 fun_induction zerosZ l s with
 | case1 s h1 h2=>exact ap _
 | case2 s h1 h2 ih=>exact ih (ap _) (by
   intro n c hc
   rcases List.mem_append.mp hc with h1|h1
   ·exact ap _ c h1
   ·have:=(List.mem_replicate.mp h1).2;omega)
 | case3 s h1=>exact h
theorem readZ_cb (l:List Nat) (s:HS) (left:Nat) (s':HS) (left':Nat) (h:Cb s) (hl:left≤32768) (he:readZ l s left=some (s',left')):Cb s':=by
 fun_induction readZ l s left with
 | case1 s left h1 h2=>cases he
 | case2 s left h1 h2 ih =>
  have hv:=valZ_le l s.pos (left+1) (by omega)
  have hst:Cb (stepZ l s left):=by
   intro c hc
   rcases List.mem_append.mp hc with h3|h3
   ·exact h c h3
   ·simp at h3;omega
  refine ih ?_ ?_ he
  ·unfold nextZ
   split
   ·exact zerosZ_cb l _ hst
   ·exact hst
  ·unfold leftZ;split<;>omega
 | case3 s left h1=>injection he with he;injection he with h2 h3;exact h2▸h
theorem fseRead_bnd {l:List Nat} {cs:List Int} {t:Nat} {rest:List Nat} (h:fseRead l=some (cs,t,rest)):(∀c∈cs, -1≤c∧c≤32768)∧cs.length≤256∧5≤t∧t≤15∧∃n,rest=l.drop n:=by
 unfold fseRead at h
 split at h
 ·cases h
 ·split at h
  ·cases h
  ·rename_i s left hr
   split at h
   ·rename_i hc
    injection h with h
    injection h with h1 h2
    injection h2 with h2 h3
    subst h1 h2 h3
    have hp:2^(tkZ l 0 4+5)≤2^15:=Nat.pow_le_pow_right (by omega) (by omega)
    exact ⟨readZ_cb l _ _ _ _ (by intro c hc;cases hc) (by omega) hr,hc.2.2,by omega,by omega,_,rfl⟩
   ·cases h
theorem statesZ_bnd {cs:List Int} {t:Nat} {tab:List Cell3} (hc:∀c∈cs, -1≤c∧c≤32768) (hn:cs.length≤256) (ht:t=5∨t=6) (h:statesZ cs t=some tab) :
  tab.length=2^t∧∀c∈tab,c.1<256∧c.2.1≤6 ∧ -4294967296≤c.2.2∧c.2.2<4294967296:=by
 have hsz:2^t=32∨2^t=64:=by rcases ht with rfl|rfl<;>simp
 unfold statesZ at h
 split at h
 ·split at h
  ·cases h
  ·rename_i f a hsp
   split at h
   ·rename_i hpos
    injection h with h
    subst h
    refine ⟨by simp,?_⟩
    intro c hcm
    obtain ⟨i,hi,rfl⟩:=List.mem_map.mp hcm
    have hi:i<2^t:=List.mem_range.mp hi
    have h1:=hpos i hi
    rcases spreadZ_laid hsp i with h2|⟨sy,hsy,hf,_⟩
    ·omega
    ·unfold cellZ
     simp only
     have hk:kZ cs f i≤32768+64:=by
      unfold kZ
      have h3:=cntZ_le f (f i) i
      have h4:absZ (cs.getD (f i).toNat 0)≤32768:=by
       rw [hf,Int.toNat_natCast,getD_Z hsy]
       have:=hc _ (List.getElem_mem hsy)
       unfold absZ;split<;>omega
      omega
     have h6:2^(t-(kZ cs f i).log2)≤2^6:=Nat.pow_le_pow_right (by omega) (by omega)
     have h7:kZ cs f i*2^(t-(kZ cs f i).log2)≤(32768+64)*2^6:=Nat.mul_le_mul hk h6
     refine ⟨by omega,by omega,by omega,by omega⟩
   ·cases h
 ·cases h
def rawZ (l:List Nat) (i:Nat):Nat:=(if i%2=0 then l.getD (1+i/2) 0/16 else l.getD (1+i/2) 0)%16
def weightsZ (l:List Nat):Option (List Nat×Nat) :=
 match l with
 | []=>none
 | n::r =>
  if 128≤n then
   if l.length<1+(n-127+1)/2 then none else some ((List.range (n-127)).map (rawZ l),1+(n-127+1)/2)
  else if l.length<1+n then none else
   match fseRead (r.take n) with
   | none=>none
   | some (cs,t,rest)=>if 6<t then none else
    match statesZ cs t with
    | none=>none
    | some tab=>match twoStatesZ rest tab t 255 with
     | none=>none
     | some out=>some (out,1+n)
def nints (l:List Nat):List Value:=ints (l.map fun (x:Nat)=>(x:Int))
theorem slc_lh {w:World} {s:Sl} {x y:Int} {n m:Nat} {κ:Sl→PT} (hx:x=n) (hy:y=m) (hn:n≤m) (hm:m≤s.c) (h:κ ⟨slA s.a n s.c 1,m-n,s.c-n⟩ w):slc 1 s (some x) (some y) none κ w :=
 ⟨n,m,s.c,rfl,⟨hy,hm⟩,⟨hx,hn⟩,h⟩
theorem Arr.sub {k:IntKind} {w:World} {s:Sl} {l:List Nat} (h:Arr k w s l) (n m:Nat) (hn:n≤m) (hm:m≤l.length):Arr k w ⟨slA s.a n s.c 1,m-n,s.c-n⟩ ((l.drop n).take (m-n)):=by
 have h1:=h.drop n (by omega)
 have hl:=h.len
 have hc:=h.cap
 refine ⟨by simp;omega,by simp only;omega,?_,?_⟩
 ·intro e;rw [h1.non e];simp
 ·intro b hb i hi
  simp only [List.length_take,List.length_drop] at hi
  rw [h1.get b hb i (by simp;omega)]
  simp
theorem nints_app (l:List Nat) (x:Nat):nints (l ++ [x])=nints l ++ [.int .i64 (x:Nat)]:=by simp [nints,ints]
theorem c43 {w:World} {s:Sl} {l:List Nat} {K:Sl×Int×Bool→PT} (hb:Arr .u8 w s l) (hl:By l) (hn:l.length<2^40)
  (h0:weightsZ l=none→∀w' s' n',Fm w w' []→K (s',n',false) w')
  (h1:∀ws used,weightsZ l=some (ws,used)→∀w' s',Fm w w' []→Vec 1 w' s' (nints ws)→(∀x∈s'.bs,w.heap.size≤x)→K (s',((used:Nat):Int),true) w') :
  callP Tryd.prog 43 #[.slice s.a s.l s.c] [.c .S,.c (.I .i64),.c .B] K w:=by
 apply q43_ok
 unfold q43
 have hlen:=hb.len
 refine cnd_d ?_ ?_
 ·intro hc
  have:l = []:=List.length_eq_zero_iff.mp (by omega)
  subst this
  exact h0 rfl w _ _ (Fm.refl w _)
 ·intro hc
  cases l with
  | nil=>simp at hlen;omega
  | cons n r =>
  have ⟨hn256,hr⟩:=hl.cons
  have hcap:=hb.cap
  refine hb.ldk 0 rfl (by simp) ?_
  intro p hp
  refine ld_c (t := .I .u8) (x:=(n:Int)) hp ?_
  refine joinP_id ?_
  unfold q43_X6
  have en:IntKind.i64.wrap ((n:Nat):Int)=(n:Int):=wI64 (by omega) (by omega)
  simp only [en]
  simp only [weightsZ] at h0 h1
  refine cnd_d ?_ ?_
  ·intro hc2
   have hc2:128≤n:=by omega
   rw [if_pos hc2] at h0 h1
   have e1:IntKind.i64.wrap ((n:Int)-127)=((n-127:Nat):Int):=by rw [wI64 (by omega) (by omega)];omega
   have e2:IntKind.i64.wrap (((n-127:Nat):Int)+1)=((n-127+1:Nat):Int):=by rw [wI64 (by omega) (by omega)];omega
   have e3:quoI .i64 ((n-127+1:Nat):Int) 2=(((n-127+1)/2:Nat):Int):=quoI_nat .i64 _ 2 (by simp only [IntKind.bits];omega)
   have e4:IntKind.i64.wrap (1+(((n-127+1)/2:Nat):Int))=((1+(n-127+1)/2:Nat):Int):=by rw [wI64 (by omega) (by omega)];omega
   simp only [e1,e2,e3,e4]
   refine ⟨by decide,cnd_d ?_ ?_⟩
   ·intro hc3
    rw [if_pos (by omega)] at h0
    exact h0 rfl w _ _ (Fm.refl w _)
   ·intro hc3
    rw [if_neg (by omega)] at h1
    refine ⟨fun x w'=>Fm w w' []∧Vec 1 w' x (nints ((List.range (n-127)).map (rawZ (n::r))))∧∀y∈x.bs,w.heap.size≤y,?_,?_⟩
    ·rintro x w' ⟨F,hv,hx⟩
     unfold q43_J2
     simp only [en,e1,e2,e3,e4]
     exact ⟨by decide,h1 _ _ rfl w' x F hv hx⟩
    ·refine ⟨fun x w'=>∃i:Nat,x.2=(i:Int)∧i≤n-127∧Fm w w' []∧Vec 1 w' x.1 (nints ((List.range i).map (rawZ (n::r))))∧∀y∈x.1.bs,w.heap.size≤y,fun x _=>n-127-x.2.toNat,⟨0,rfl,Nat.zero_le _,Fm.refl w _,Vec.nil,by simp [Sl.bs]⟩,?_⟩
     rintro ⟨xs,xi⟩ w' ⟨i,hxi,hi,F,hv,hx⟩
     simp only at hxi hv hx
     subst hxi
     unfold q43_L1
     simp only [en,e1]
     refine cnd_d ?_ ?_
     ·intro hc4
      have hi2:i<n-127:=by omega
      have e5:quoI .i64 ((i:Nat):Int) 2=((i/2:Nat):Int):=quoI_nat .i64 _ 2 (by simp only [IntKind.bits];omega)
      have e6:IntKind.i64.wrap (1+((i/2:Nat):Int))=((1+i/2:Nat):Int):=by rw [wI64 (by omega) (by omega)];omega
      have e7:Int.tmod ((i:Nat):Int) 2=((i%2:Nat):Int):=rfl
      simp only [e5,e6,e7]
      have hil:1+i/2<(n::r).length:=by omega
      refine ⟨by decide,(hb.fr F (by simp)).ldk (1+i/2) rfl hil ?_⟩
      intro p hp
      have hxb:(n::r)[1+i/2]<256:=hl _ (List.getElem_mem hil)
      have hrw:rawZ (n::r) i=(if i%2=0 then (n::r)[1+i/2]/16 else (n::r)[1+i/2])%16:=by unfold rawZ;rw [getD_in hil]
      generalize (n::r)[1+i/2]=x at *
      refine ld_c (t := .I .u8) (x:=(x:Int)) hp ?_
      have ex:IntKind.i64.wrap ((x:Nat):Int)=(x:Int):=wI64 (by omega) (by omega)
      have e8:quoI .i64 ((x:Nat):Int) 16=((x/16:Nat):Int):=quoI_nat .i64 _ 16 (by simp only [IntKind.bits];omega)
      simp only [ex,e8]
      refine joinP_id ?_
      have hlv:=hv.len
      simp only [nints,ints_len,List.length_map,List.length_range,Nat.mul_one] at hlv
      have fin:∀y:Nat,y=(if i%2=0 then x/16 else x)→q43_J0 (xs,(i:Int)) (fun s' w'_1=>(∃i:Nat,s'.2=(i:Int)∧i≤n-127∧Fm w w'_1 []∧Vec 1 w'_1 s'.1 (nints ((List.range i).map (rawZ (n::r))))∧∀y∈s'.1.bs,w.heap.size≤y)∧n-127-s'.2.toNat<n-127-(i:Int).toNat) (y:Int) w':=by
       intro y hy
       unfold q43_J0
       simp only
       refine ⟨by decide,app_1 hv rfl (by omega) ?_⟩
       intro s2 w2 hv2 F2 hb2
       rw [wI64 (by omega) (by omega)]
       have F02:Fm w w2 []:=F.trans F2 (by intro z hz;right;exact hx z hz)
       refine ⟨⟨i+1,by simp,by omega,F02,?_,?_⟩,by first|omega|(simp only;omega)⟩
       ·rw [List.range_succ,List.map_append,List.map_cons,List.map_nil,nints_app,hrw, ←hy]
        exact hv2
       ·intro z hz
        rcases hb2 z hz with h|h
        ·exact hx z h
        ·have:=F.size;omega
      refine ⟨by decide,cnd_d ?_ ?_⟩
      ·intro hc5
       exact ⟨by decide,fin (x/16) (by rw [if_pos (by omega)])⟩
      ·intro hc5
       exact fin x (by rw [if_neg (by omega)])
     ·intro hc4
      have hi2:i=n-127:=by omega
      rw [hi2] at hv
      exact ⟨F,hv,hx⟩
  ·intro hc2
   have hc2:¬128≤n:=by omega
   rw [if_neg hc2] at h0 h1
   unfold q43_J5
   have e1:IntKind.i64.wrap (1+(n:Int))=((1+n:Nat):Int):=by rw [wI64 (by omega) (by omega)];omega
   simp only [e1]
   refine cnd_d ?_ ?_
   ·intro hc3
    rw [if_pos (by omega)] at h0
    exact h0 rfl w _ _ (Fm.refl w _)
   ·intro hc3
    rw [if_neg (by omega)] at h0 h1
    refine slc_lh (n:=1) (m:=1+n) rfl rfl (by omega) (by omega) ?_
    have hA:=hb.sub 1 (1+n) (by omega) (by omega)
    rw [List.drop_one,List.tail_cons,Nat.add_sub_cancel_left] at hA
    simp only [Nat.add_sub_cancel_left]
    have hnl:(r.take n).length<2^40:=by
     rw [List.length_take]
     rw [List.length_cons] at hn
     omega
    refine c49 (s:=⟨slA s.a 1 s.c 1,n,s.c-1⟩) (l:=r.take n) hA (hr.take n) hnl ?_ ?_
    ·intro hf w1 F1
     rw [hf] at h0
     exact ⟨fun _=>h0 rfl w1 _ _ F1,by simp⟩
    ·intro cs t rest hf w1 c rs F1 hcv hcb hrA hrb
     rw [hf] at h0 h1
     simp only at h0 h1
     obtain ⟨b1,b2,b3,b4,nd,b5⟩:=fseRead_bnd hf
     refine ⟨by simp,fun _=>cnd_d ?_ ?_⟩
     ·intro hc4
      simp only at hc4
      rw [if_pos (by omega)] at h0
      exact h0 rfl w1 _ _ F1
     ·intro hc4
      simp only at hc4
      rw [if_neg (by omega)] at h0 h1
      have ht:t=5∨t=6:=by omega
      refine c57 hcv ht (by omega) (fun c hc=>by have:=b1 c hc;omega) ?_ ?_
      ·intro hst w2 F2
       rw [hst] at h0
       exact ⟨fun _=>h0 rfl w2 _ _ (F1.trans F2 (by simp)),by simp⟩
      ·intro tab hst w2 tb F2 htb hT
       rw [hst] at h0 h1
       simp only at h0 h1
       obtain ⟨hTl,hTb⟩:=statesZ_bnd b1 b2 ht hst
       have F02:Fm w w2 []:=F1.trans F2 (by simp)
       refine ⟨by simp,fun _ => ?_⟩
       have hrl:rest.length<2^40:=by
        rw [b5]
        simp only [List.length_drop,List.length_take]
        simp only [List.length_cons] at hn
        omega
       have hTl2:tab.length≤64:=by rcases ht with rfl|rfl<;>rw [hTl]<;>decide
       have hTl3:2^t≤tab.length:=by rw [hTl];exact Nat.le_refl _
       have ht16:t≤16:=by omega
       have hT20:tab.length≤2^20:=Nat.le_trans hTl2 (by decide)
       have hcb3:∀c∈tab,c.1<2^32∧c.2.1≤16 ∧ -4294967296≤c.2.2∧c.2.2<4294967296:=by
        intro c hc
        have:=hTb c hc
        exact ⟨Nat.lt_trans this.1 (by decide),by omega,this.2.2.1,this.2.2.2⟩
       have h255:255≤2^30:=by decide
       have hrB:By rest:=by rw [b5];exact (hr.take n).drop nd
       have conv:∀(w3:World) (s3:Sl) (l3:List Nat) (ok:Bool),Fm w w3 []→Arr .u8 w3 s3 l3→By l3→l3.length≤300 →
         (∀w' s',Fm w w' []→Vec 1 w' s' (nints l3)→(∀x∈s'.bs,w.heap.size≤x)→K (s',((1+n:Nat):Int),ok) w') →
         joinP (fun R20=>loopP (⟨none,0,0⟩,(0:Int)) (q43_L3 (s3,ok) R20)) (q43_J4 K (n:Int) (s3,ok)) w3:=by
        intro w3 s3 l3 ok F3 hA3 hB3 hl3 hk
        have hlen3:=hA3.len
        refine ⟨fun x w'=>Fm w w' []∧Vec 1 w' x (nints l3)∧∀y∈x.bs,w.heap.size≤y,?_,?_⟩
        ·rintro x w' ⟨F,hv,hx⟩
         unfold q43_J4
         simp only [e1]
         exact hk w' x F hv hx
        ·refine ⟨fun x w'=>∃i:Nat,x.2=(i:Int)∧i≤l3.length∧Fm w3 w' []∧Vec 1 w' x.1 (nints (l3.take i))∧∀y∈x.1.bs,w3.heap.size≤y,fun x _=>l3.length-x.2.toNat,⟨0,rfl,Nat.zero_le _,Fm.refl w3 _,Vec.nil,by simp [Sl.bs]⟩,?_⟩
         rintro ⟨xs,xi⟩ w' ⟨i,hxi,hi,F,hv,hx⟩
         simp only at hxi hv hx
         subst hxi
         unfold q43_L3
         simp only
         refine cnd_d ?_ ?_
         ·intro hc5
          have hi2:i<l3.length:=by omega
          refine (hA3.fr F (by simp)).ldk i rfl hi2 ?_
          intro p hp
          have hxb:l3[i]<256:=hB3 _ (List.getElem_mem hi2)
          refine ld_c (t := .I .u8) (x:=((l3[i]:Nat):Int)) hp ?_
          rw [wI64 (x:=((l3[i]:Nat):Int)) (by omega) (by omega)]
          have hlv:=hv.len
          simp only [nints,ints_len,List.length_map,List.length_take,Nat.mul_one] at hlv
          refine app_1 hv rfl (by omega) ?_
          intro s2 w2 hv2 F2 hb2
          rw [wI64 (by omega) (by omega)]
          refine ⟨⟨i+1,by simp,by omega,F.trans F2 (by intro z hz;right;exact hx z hz),?_,?_⟩,by first|omega|(simp only;omega)⟩
          ·rw [List.take_succ_eq_append_getElem hi2,nints_app]
           exact hv2
          ·intro z hz
           rcases hb2 z hz with h|h
           ·exact hx z h
           ·have:=F.size;omega
         ·intro hc5
          have hi2:i=l3.length:=by omega
          subst hi2
          rw [List.take_length] at hv
          have:=F3.size
          exact ⟨F3.trans F (by simp),hv,fun y hy=>by have:=hx y hy;omega⟩
       refine c60 (limit:=255) (hrA.fr F2 (by simp)) hrB hrl hT ht16 hTl3 hT20 h255 hcb3 ?_ ?_
       ·intro hts w3 s3 l3 F3 hA3 hB3 hl3
        rw [hts] at h0
        refine conv w3 s3 l3 false (F02.trans F3 (by simp)) hA3 hB3 (by omega) ?_
        intro w' s' F _ _
        exact h0 rfl w' s' _ F
       ·intro out hts w3 s3 F3 hA3 hB3 hbs
        rw [hts] at h1
        have hol:out.length≤300:=by
         have:=hA3.len
         have hh:∀(left:Int) (a b:Nat) (o res:List Nat),o.length≤255→twoZ rest tab 255 left a b o=some res→res.length≤255:=by
          intro left a b o res
          fun_induction twoZ rest tab 255 left a b o with
          | case1=>intro _ h;cases h
          | case2=>intro _ h;cases h
          | case3=>intro _ h;cases h
          | case4=>intro _ h;cases h
          | case5=>intro ho h;injection h with h;subst h;simp;omega
          | case6=>intro _ h;cases h
          | case7 left a b o hz c hca hlf hb ih=>intro ho h;exact ih (by simp;omega) h
         unfold twoStatesZ at hts
         split at hts
         ·cases hts
         ·split at hts
          ·have:=hh _ _ _ _ _ (by simp) hts;omega
          ·cases hts
        refine conv w3 s3 out true (F02.trans F3 (by simp)) hA3 hB3 hol ?_
        intro w' s' F hv hx
        exact h1 out (1+n) rfl w' s' F hv hx
def wOf (w:Nat):Nat:=if w=0 then 0 else 2^(w-1)
def wsum (ws:List Nat):Nat:=(ws.map wOf).sum
def lenF (longest:Nat) (ws:List Nat) (i:Nat):Int:=((if 0<ws.getD i 0 then longest+1-ws.getD i 0 else 0:Nat):Int)
def someZ (ws:List Nat):Nat:=(ws.map fun w=>if 0<w then 1 else 0).sum
def lastZ (ws:List Nat):Nat:=2^((wsum ws).log2+1)-wsum ws
def fullZ (ws:List Nat):List Nat:=ws ++ [(lastZ ws).log2+1]
def hlZ (l:List Nat):Option ((Nat→Int)×Nat) :=
 match weightsZ l with
 | none=>none
 | some (ws,used) =>
  if ws.length≤255∧(∀w∈ws,w≤12)∧wsum ws≠0∧(wsum ws).log2+1≤11∧lastZ ws=2^(lastZ ws).log2∧1<someZ (fullZ ws) then
   some (lenF ((wsum ws).log2+1) (fullZ ws),used)
  else none
theorem sum_take {f:Nat→Nat} {l:List Nat} {i:Nat} (h:i<l.length):((l.take (i+1)).map f).sum=((l.take i).map f).sum+f l[i]:=by
 rw [List.take_succ_eq_append_getElem h,List.map_append,List.sum_append]
 simp only [List.map_cons,List.map_nil,List.sum_cons,List.sum_nil,Nat.add_zero]
theorem sum_take_le (f:Nat→Nat) (l:List Nat) (M i:Nat) (h:∀c∈l,f c≤M):((l.take i).map f).sum≤i*M:=by
 induction i with
 | zero=>simp
 | succ i ih =>
  rw [Nat.succ_mul]
  by_cases hi:i<l.length
  ·rw [sum_take hi]
   have:=h _ (List.getElem_mem hi)
   omega
  ·rw [List.take_of_length_le (by omega)] at ih ⊢
   omega
theorem wOf_le {w:Nat} (h:w≤12):wOf w≤2048:=by
 unfold wOf
 split
 ·omega
 ·exact Nat.le_trans (Nat.pow_le_pow_right (by omega) (show w-1≤11 by omega)) (by decide)
theorem nints_len (l:List Nat):(nints l).length=l.length:=by simp [nints,ints]
theorem Vec.ldN {w:World} {s:Sl} {l:List Nat} {i:Int} (n:Nat) {κ:Addr→PT} (h:Vec 1 w s (nints l)) (hi:i=n) (hn:n<l.length) (hk:∀p,w.cell? p=some (.int .i64 (l[n]:Nat))→κ p w):ixS 1 s i κ w:=by
 refine Vec.ldI (l:=l.map fun (x:Nat)=>(x:Int)) n h hi (by simpa using hn) ?_
 intro p hp
 simp only [List.getElem_map] at hp
 exact hk p hp
theorem fullZ_lt {ws:List Nat} {i:Nat} (h:i<(fullZ ws).length) (hi:i<ws.length):(fullZ ws)[i]=ws[i]:=List.getElem_append_left hi
theorem fullZ_last {ws:List Nat} {i:Nat} (h:i<(fullZ ws).length) (hi:i=ws.length):(fullZ ws)[i]=(lastZ ws).log2+1:=by
 subst hi
 exact List.getElem_concat_length rfl _
theorem c15 {w:World} {s:Sl} {l:List Nat} {K:Sl×Int×Bool→PT} (hb:Arr .u8 w s l) (hl:By l) (hn:l.length<2^40)
  (h0:hlZ l=none→∀w' s' n',Fm w w' []→K (s',n',false) w')
  (h1:∀f used,hlZ l=some (f,used)→∀w' b,Fm w w' []→w.heap.size≤b→Blk w' b (arrC .i64 256 f)→K (⟨some ⟨b,0,none⟩,256,256⟩,((used:Nat):Int),true) w') :
  callP Tryd.prog 15 #[.slice s.a s.l s.c] [.c .S,.c (.I .i64),.c .B] K w:=by
 apply q15_ok
 unfold q15
 refine c43 hb hl hn ?_ ?_
 ·intro hw w1 s1 n1 F1
  unfold hlZ at h0
  rw [hw] at h0
  exact ⟨fun _=>h0 rfl w1 _ _ F1,by simp⟩
 ·intro ws used hw w1 s1 F1 hv hx
  unfold hlZ at h0 h1
  rw [hw] at h0 h1
  simp only at h0 h1
  have hlv:=hv.len
  rw [nints_len,Nat.mul_one] at hlv
  refine ⟨by simp,fun _=>cnd_d ?_ ?_⟩
  ·intro hc
   simp only at hc
   rw [if_neg (by omega)] at h0
   exact h0 rfl w1 _ _ F1
  ·intro hc
   simp only at hc
   have hw255:ws.length≤255:=by omega
   refine ⟨fun x w'=>x=(((used:Nat):Int),((wsum ws:Nat):Int))∧w'=w1∧∀w∈ws,w≤12,?_,?_⟩
   ·rintro x w' ⟨rfl,hww,hle12⟩
    have hww:=hww.symm
    subst hww
    have hsum:wsum ws≤255*2048:=by
     have:=sum_take_le wOf ws 2048 ws.length (fun c hc=>wOf_le (hle12 c hc))
     rw [List.take_length] at this
     exact Nat.le_trans this (Nat.mul_le_mul_right _ hw255)
    unfold q15_J5
    simp only
    refine cnd_d ?_ ?_
    ·intro hc2
     rw [if_neg (by intro hh;exact hh.2.2.1 (by omega))] at h0
     exact h0 rfl w1 _ _ F1
    ·intro hc2
     have hs0:wsum ws≠0:=by omega
     have hslog:=Nat.lt_log2_self (n:=wsum ws)
     have hsl2:=Nat.log2_self_le hs0
     have hlg19:(wsum ws).log2<20:=(Nat.log2_lt hs0).mpr (by omega)
     have hp20:2^((wsum ws).log2+1)≤2^20:=Nat.pow_le_pow_right (by omega) (by omega)
     have hlast0:0<lastZ ws:=by unfold lastZ;omega
     have hlast1:lastZ ws≤2^(wsum ws).log2:=by unfold lastZ;rw [Nat.pow_succ];omega
     refine c44 (by omega) (by omega) ?_
     have e1:IntKind.i64.wrap ((((wsum ws).log2:Nat):Int)+1)=(((wsum ws).log2+1:Nat):Int):=by rw [wI64 (by omega) (by omega)];omega
     have e2:shlI .i64 1 (((wsum ws).log2+1:Nat):Int)=((2^((wsum ws).log2+1):Nat):Int):=by
      have:=shlI_nat .i64 1 ((wsum ws).log2+1) (by simp only [IntKind.bits];omega) (by simp only [IntKind.bits];omega)
      rw [Nat.one_mul] at this;exact this
     have e3:IntKind.i64.wrap (((2^((wsum ws).log2+1):Nat):Int)-((wsum ws:Nat):Int))=((lastZ ws:Nat):Int):=by
      rw [wI64 (by omega) (by omega)];unfold lastZ;omega
     simp only [e1,e2,e3]
     refine ⟨by omega,cnd_d ?_ ?_⟩
     ·intro hc3
      rw [if_neg (by intro hh;have:=hh.2.2.2.1;omega)] at h0
      exact h0 rfl w1 _ _ F1
     ·intro hc3
      have hlong:(wsum ws).log2+1≤11:=by omega
      have hp10:2^(wsum ws).log2≤2^10:=Nat.pow_le_pow_right (by omega) (by omega)
      refine c44 hlast0 (by omega) ?_
      have hll:(lastZ ws).log2<11:=(Nat.log2_lt (by omega)).mpr (by omega)
      have e4:shlI .i64 1 (((lastZ ws).log2:Nat):Int)=((2^(lastZ ws).log2:Nat):Int):=by
       have hpl:2^(lastZ ws).log2≤2^11:=Nat.pow_le_pow_right (by omega) (by omega)
       have:=shlI_nat .i64 1 (lastZ ws).log2 (by simp only [IntKind.bits];omega) (by simp only [IntKind.bits];omega)
       rw [Nat.one_mul] at this;exact this
      rw [e4]
      refine ⟨by omega,cnd_nd ?_ ?_⟩
      ·intro hc4
       rw [if_neg (by intro hh;exact hc4 (by exact_mod_cast hh.2.2.2.2.1))] at h0
       exact h0 rfl w1 _ _ F1
      ·intro hc4
       refine c44 hlast0 (by omega) ?_
       have e5:IntKind.i64.wrap ((((lastZ ws).log2:Nat):Int)+1)=(((lastZ ws).log2+1:Nat):Int):=by rw [wI64 (by omega) (by omega)];omega
       simp only [e5]
       refine app_1 hv rfl (by omega) ?_
       intro s2 w2 hv2 F2 hb2
       rw [←nints_app] at hv2
       have hfull:ws ++ [(lastZ ws).log2+1]=fullZ ws:=rfl
       rw [hfull] at hv2
       have hfl:(fullZ ws).length=ws.length+1:=by simp [fullZ]
       have hlv2:=hv2.len
       rw [nints_len,Nat.mul_one,hfl] at hlv2
       have F02:Fm w w2 []:=F1.trans F2 (by intro x hx2;right;exact hx x hx2)
       refine mks1 (n:=256) rfl rfl (by omega) ?_
       intro w3 F3 hs3 B3
       have hv3:=hv2.fr F3 (by simp)
       have hsz2:=F02.size
       have hx3:∀x∈s2.bs,x<w2.heap.size:=hv2.lt
       refine ⟨fun x w'=>x=((someZ (fullZ ws):Nat):Int)∧Fm w w' []∧Blk w' w2.heap.size (arrC .i64 256 (lenF ((wsum ws).log2+1) (fullZ ws))),?_,?_⟩
       ·rintro x w' ⟨rfl,F,B⟩
        unfold q15_J4
        simp only
        by_cases hs:1<someZ (fullZ ws)
        ·rw [if_pos ⟨hw255,hle12,hs0,hlong,by exact_mod_cast hc4,hs⟩] at h1
         rw [show decide ((1:Int)<((someZ (fullZ ws):Nat):Int))=true by simp;omega]
         exact h1 _ _ rfl w' _ F hsz2 B
        ·rw [if_neg (by intro hh;exact hs hh.2.2.2.2.2)] at h0
         rw [show decide ((1:Int)<((someZ (fullZ ws):Nat):Int))=false by simp;omega]
         exact h0 rfl w' _ _ F
       ·have hfb:∀x∈fullZ ws,x≤12:=by
         intro x hx
         rcases List.mem_append.mp hx with h|h
         ·exact hle12 x h
         ·simp at h;omega
        refine ⟨fun x w'=>∃i:Nat,x=((((((fullZ ws).take i).map fun w=>if 0<w then 1 else 0).sum:Nat):Int),(i:Int))∧i≤(fullZ ws).length∧Fm w w' []∧Vec 1 w' s2 (nints (fullZ ws)) ∧
         Blk w' w2.heap.size (arrC .i64 256 fun j=>if j<i then lenF ((wsum ws).log2+1) (fullZ ws) j else 0),fun x _=>(fullZ ws).length-x.2.toNat,⟨0,by simp,Nat.zero_le _,F02.trans F3 (by simp),hv3,B3.congr (by simp)⟩,?_⟩
        rintro x w' ⟨i,rfl,hi,F,hvv,B⟩
        unfold q15_L3
        simp only
        refine cnd_d ?_ ?_
        ·intro hc5
         have hi2:i<(fullZ ws).length:=by omega
         have hst:=sum_take (f:=fun w=>if 0<w then 1 else 0) hi2
         have hsle:=sum_take_le (fun w=>if 0<w then 1 else 0) (fullZ ws) 1 i (by intro c _;split<;>omega)
         have hfi:=hfb _ (List.getElem_mem hi2)
         have hlenF:lenF ((wsum ws).log2+1) (fullZ ws) i=((if 0<(fullZ ws)[i] then (wsum ws).log2+1+1-(fullZ ws)[i] else 0:Nat):Int):=by unfold lenF;rw [getD_in hi2]
         refine joinP_id ?_
         refine hvv.ldN i rfl hi2 ?_
         intro p hp
         refine ld_c (t := .I .i64) (x:=(((fullZ ws)[i]:Nat):Int)) hp ?_
         generalize hsg:(((fullZ ws).take i).map fun w=>if 0<w then 1 else 0).sum=sg at *
         unfold q15_J2
         simp only
         rw [wI64 (x:=(i:Int)+1) (by omega) (by omega)]
         refine cnd_d ?_ ?_
         ·intro hc6
          have hi256:i<256:=by omega
          refine ixS1 rfl hi256 ?_
          refine st_b B (by rw [arrC_get hi256];rfl) rfl ?_
          have hsum2:(fullZ ws)[i]≤(wsum ws).log2+1+1:=by
           by_cases hiw:i<ws.length
           ·have hfe:(fullZ ws)[i]=ws[i]:=fullZ_lt hi2 hiw
            rw [hfe] at hc6 ⊢
            have hmem:wOf ws[i]≤wsum ws:=mem_le_sum (List.mem_map_of_mem (List.getElem_mem hiw))
            unfold wOf at hmem
            rw [if_neg (by omega)] at hmem
            have h5:2^(ws[i]-1)<2^((wsum ws).log2+1):=Nat.lt_of_le_of_lt hmem hslog
            have h6:=(Nat.pow_lt_pow_iff_right (a:=2) (by omega)).mp h5
            omega
           ·have hfe:(fullZ ws)[i]=(lastZ ws).log2+1:=fullZ_last hi2 (by omega)
            rw [hfe]
            have h5:(lastZ ws).log2≤(wsum ws).log2:=by
             have:=Nat.log2_self_le (n:=lastZ ws) (by omega)
             have h7:2^(lastZ ws).log2≤2^(wsum ws).log2:=Nat.le_trans this hlast1
             exact (Nat.pow_le_pow_iff_right (a:=2) (by omega)).mp h7
            omega
          rw [e1,wI64 (x:=(((wsum ws).log2+1:Nat):Int)+1) (by omega) (by omega),wI64 (x:=(((wsum ws).log2+1:Nat):Int)+1-_) (by omega) (by omega)]
          have B4:=B.setW (o:=i) (v := .int .i64 ((((wsum ws).log2+1:Nat):Int)+1-(((fullZ ws)[i]:Nat):Int))) (by rw [arrC_get hi256];rfl) (arrC_upd hi256)
          have F4:Fm w' (w'.setCell ⟨w2.heap.size,i,none⟩ (.int .i64 ((((wsum ws).log2+1:Nat):Int)+1-(((fullZ ws)[i]:Nat):Int)))) [w2.heap.size]:=(Fm.refl _ _).set (.inl (by simp))
          refine ⟨⟨i+1,?_,by omega,F.trans F4 (by intro x hx5;right;simp at hx5;omega),hvv.fr F4 ?_,B4.congr ?_⟩,by omega⟩
          ·rw [hst,if_pos (by omega),wI64 (by omega) (by omega)];simp
          ·intro x hx5
           have:=hx3 x hx5
           simp;omega
          ·congr 1
           funext j
           unfold updF
           simp only
           by_cases e:j=i
           ·subst e
            rw [if_pos rfl,if_pos (by omega),hlenF,if_pos (by omega)];omega
           ·rw [if_neg e]
            by_cases e2:j<i
            ·rw [if_pos e2,if_pos (by omega)]
            ·rw [if_neg e2,if_neg (by omega)]
         ·intro hc6
          refine ⟨⟨i+1,?_,by omega,F,hvv,B.congr ?_⟩,by omega⟩
          ·rw [hst,if_neg (by omega)];simp
          ·congr 1
           funext j
           by_cases e:j=i
           ·subst e
            rw [if_neg (by omega),if_pos (by omega),hlenF,if_neg (by omega)];rfl
           ·by_cases e2:j<i
            ·rw [if_pos e2,if_pos (by omega)]
            ·rw [if_neg e2,if_neg (by omega)]
        ·intro hc5
         have hi2:i=(fullZ ws).length:=by omega
         refine ⟨?_,F,B.congr ?_⟩
         ·rw [hi2,List.take_length];rfl
         ·congr 1
          funext j
          split
          ·rfl
          ·unfold lenF
           rw [getD_out (by omega)];rfl
   ·refine ⟨fun x w'=>w'=w1∧∃i:Nat,i≤ws.length∧x=(((used:Nat):Int),((((ws.take i).map wOf).sum:Nat):Int),(i:Int))∧∀j (h:j<ws.length),j<i→ws[j]≤12,fun x _=>ws.length-x.2.2.toNat,⟨rfl,0,Nat.zero_le _,rfl,by simp⟩,?_⟩
    rintro x w' ⟨rfl,i,hi,rfl,h12⟩
    unfold q15_L1
    simp only
    refine cnd_d ?_ ?_
    ·intro hc2
     have hi2:i<ws.length:=by omega
     refine joinP_id ?_
     refine hv.ldN i rfl hi2 ?_
     intro p hp
     refine ld_c (t := .I .i64) (x:=((ws[i]:Nat):Int)) hp ?_
     refine cnd_d ?_ ?_
     ·intro hc3
      rw [if_neg (by intro hh;have:=hh.2.1 _ (List.getElem_mem hi2);omega)] at h0
      exact h0 rfl w' _ _ F1
     ·intro hc3
      have hst:=sum_take (f:=wOf) hi2
      have hw12:ws[i]≤12:=by omega
      have hwo:=wOf_le hw12
      have hsle:((ws.take i).map wOf).sum≤i*2048:=by
       have:∀c∈ws.take i,wOf c≤2048:=by
        intro c hc
        obtain ⟨j,hj,rfl⟩:=List.mem_iff_getElem.mp hc
        simp only [List.length_take] at hj
        rw [List.getElem_take]
        exact wOf_le (h12 j (by omega) (by omega))
       have:=sum_take_le wOf (ws.take i) 2048 i this
       rw [List.take_take,Nat.min_self] at this
       exact this
      have hi3:i*2048≤255*2048:=Nat.mul_le_mul_right _ (by omega)
      have hnext:∀j (h:j<ws.length),j<i+1→ws[j]≤12:=by
       intro j hj hji
       by_cases e:j=i
       ·subst e;exact hw12
       ·exact h12 j hj (by omega)
      generalize hsg:((ws.take i).map wOf).sum=sg at *
      unfold q15_J0
      simp only
      rw [wI64 (x:=(i:Int)+1) (by omega) (by omega)]
      refine cnd_d ?_ ?_
      ·intro hc4
       have e1:IntKind.i64.wrap (((ws[i]:Nat):Int)-1)=((ws[i]-1:Nat):Int):=by rw [wI64 (by omega) (by omega)];omega
       have hwe:wOf ws[i]=2^(ws[i]-1):=by unfold wOf;rw [if_neg (by omega)]
       have e2:shlI .i64 1 ((ws[i]-1:Nat):Int)=((wOf ws[i]:Nat):Int):=by
        have:=shlI_nat .i64 1 (ws[i]-1) (by simp only [IntKind.bits];omega) (by simp only [IntKind.bits];omega)
        rw [Nat.one_mul] at this;rw [hwe];exact this
       rw [e1,e2,wI64 (by omega) (by omega)]
       exact ⟨by omega,⟨rfl,i+1,by omega,by rw [hst];simp,hnext⟩,by omega⟩
      ·intro hc4
       have hwe:wOf ws[i]=0:=by unfold wOf;rw [if_pos (by omega)]
       exact ⟨⟨rfl,i+1,by omega,by rw [hst,hwe];simp,hnext⟩,by omega⟩
    ·intro hc2
     have hi2:i=ws.length:=by omega
     refine ⟨?_,rfl,?_⟩
     ·rw [hi2,List.take_length];rfl
     ·intro x hx
      obtain ⟨j,hj,rfl⟩:=List.mem_iff_getElem.mp hx
      exact h12 j hj (by omega)
end Go.Sx
namespace Go.Sx
open Go Go.Proofs
set_option maxRecDepth 100000
def q102 (p0:Addr) (K1:Unit→PT):PT :=
 ld (.I .u8) (Addr.add p0 3) fun (n2:Int)=>cnd (decide (n2<(32:Int))) (K1 ()) (drw<|ld .S p0 fun (s3:Sl)=>ld (.I .u64) (Addr.add p0 1) fun (n4:Int)=>slc 1 s3 (some (IntKind.wrap .u64 (n4-(4:Int)))) none none fun (s5:Sl)=>slc 1 s5 none (some (4:Int)) none fun (s6:Sl)=>drw<|ixS 1 s6 (0:Int) fun (p7:Addr)=>ld (.I .u8) p7 fun (n8:Int)=>ixS 1 s6 (1:Int) fun (p9:Addr)=>ld (.I .u8) p9 fun (n10:Int)=>req (0≤(8:Int))<|ixS 1 s6 (2:Int) fun (p11:Addr)=>ld (.I .u8) p11 fun (n12:Int)=>req (0≤(16:Int))<|ixS 1 s6 (3:Int) fun (p13:Addr)=>ld (.I .u8) p13 fun (n14:Int)=>req (0≤(24:Int))<|ld (.I .u64) (Addr.add p0 2) fun (n15:Int)=>req (0≤(32:Int))<|st (Addr.add p0 2) (.int .u64 (orI .u64 (shlI .u64 n15 (32:Int)) (IntKind.wrap .u64 (orI .u32 (orI .u32 (orI .u32 (IntKind.wrap .u32 n8) (shlI .u32 (IntKind.wrap .u32 n10) (8:Int))) (shlI .u32 (IntKind.wrap .u32 n12) (16:Int))) (shlI .u32 (IntKind.wrap .u32 n14) (24:Int))))))<|ld (.I .u8) (Addr.add p0 3) fun (n16:Int)=>st (Addr.add p0 3) (.int .u8 (IntKind.wrap .u8 (n16-(32:Int))))<|ld (.I .u64) (Addr.add p0 1) fun (n17:Int)=>st (Addr.add p0 1) (.int .u64 (IntKind.wrap .u64 (n17-(4:Int))))<|K1 ())
def h102:Hint:=⟨.e,.e⟩
theorem q102_eq (p0:Addr) (K1:Unit→PT):fnE Cx h102 [] Tryd.f102 [.pt p0] K1=q102 p0 K1:=by kernel_rfl
theorem q102_fnok:fnOk Tryd.f102 1=true:=by kernel_rfl
theorem q102_ok (p0:Addr) (K1:Unit→PT) {w:World} (h:q102 p0 K1 w):Calls Tryd.prog 102 #[(.pointer (some p0))] w fun e w'=>∃r,e = .returned (resMk [] r)∧K1 r w' :=
 of_eq Tryd.func102 q102_fnok (by kernel_rfl) (by kernel_rfl) (q102_eq p0 K1) h
def q103 (p0:Addr) (K1:Int→PT):PT :=
 drw<|ld .S (Addr.add p0 2) fun (s2:Sl)=>ld (.I .u16) p0 fun (n3:Int)=>ixS 3 s2 n3 fun (p4:Addr)=>ldL [(.I .u16),(.I .u8),(.I .u8)] p4 0 fun (r5:(Int×Int×Int))=>nw z180 180 fun (p6:Addr)=>kp [(Addr.add p4 0,(.int .u16 r5.1)),(Addr.add p4 1,(.int .u8 r5.2.1)),(Addr.add p4 2,(.int .u8 r5.2.2)),(p0,(.int .u16 n3)),((Addr.add p0 2),(.slice s2.a s2.l s2.c))]<|stL p6 0 [(.int .u16 r5.1),(.int .u8 r5.2.1),(.int .u8 r5.2.2)]<|drw<|ld .P (Addr.add p0 1) fun (o7:Option Addr)=>ld (.I .u8) (Addr.add p6 2) fun (n8:Int)=>callP Tryd.prog 133 #[(.pointer o7),(.int .u8 n8)] [.c (.I .u16)] fun (r9:Int)=>ld (.I .u16) p6 fun (n10:Int)=>st p0 (.int .u16 (IntKind.wrap .u16 (n10+r9)))<|ld (.I .u8) (Addr.add p6 1) fun (n11:Int)=>K1 n11
def h103:Hint:=⟨.e,.e⟩
theorem q103_eq (p0:Addr) (K1:Int→PT):fnE Cx h103 [.c (.I .u8)] Tryd.f103 [.pt p0] K1=q103 p0 K1:=by kernel_rfl
theorem q103_fnok:fnOk Tryd.f103 1=true:=by kernel_rfl
theorem q103_ok (p0:Addr) (K1:Int→PT) {w:World} (h:q103 p0 K1 w):Calls Tryd.prog 103 #[(.pointer (some p0))] w fun e w'=>∃r,e = .returned (resMk [.c (.I .u8)] r)∧K1 r w' :=
 of_eq Tryd.func103 q103_fnok (by kernel_rfl) (by kernel_rfl) (q103_eq p0 K1) h
def q104 (p0:Addr) (K1:Int→PT):PT :=
 drw<|ld .S (Addr.add p0 2) fun (s2:Sl)=>ld (.I .u16) p0 fun (n3:Int)=>ixS 3 s2 n3 fun (p4:Addr)=>drw<|ld .P (Addr.add p0 1) fun (o5:Option Addr)=>ld (.I .u8) (Addr.add p4 2) fun (n6:Int)=>callP Tryd.prog 132 #[(.pointer o5),(.int .u8 n6)] [.c (.I .u16)] fun (r7:Int)=>ld (.I .u16) p4 fun (n8:Int)=>st p0 (.int .u16 (IntKind.wrap .u16 (n8+r7)))<|ld (.I .u8) (Addr.add p4 1) fun (n9:Int)=>K1 n9
def h104:Hint:=⟨.e,.e⟩
theorem q104_eq (p0:Addr) (K1:Int→PT):fnE Cx h104 [.c (.I .u8)] Tryd.f104 [.pt p0] K1=q104 p0 K1:=by kernel_rfl
theorem q104_fnok:fnOk Tryd.f104 1=true:=by kernel_rfl
theorem q104_ok (p0:Addr) (K1:Int→PT) {w:World} (h:q104 p0 K1 w):Calls Tryd.prog 104 #[(.pointer (some p0))] w fun e w'=>∃r,e = .returned (resMk [.c (.I .u8)] r)∧K1 r w' :=
 of_eq Tryd.func104 q104_fnok (by kernel_rfl) (by kernel_rfl) (q104_eq p0 K1) h
def q105_J0 (K1:Bool→PT) (x9:Bool):PT :=
 K1 x9
def q105 (p0:Addr) (K1:Bool→PT):PT :=
 joinP (fun R2=>drw<|ld .P (Addr.add p0 1) fun (o3:Option Addr)=>callP Tryd.prog 134 #[(.pointer o3)] [.c .B] fun (r4:Bool)=>cnd r4 (ld .S (Addr.add p0 2) fun (s5:Sl)=>ld (.I .u16) p0 fun (n6:Int)=>ixS 3 s5 n6 fun (p7:Addr)=>ld (.I .u8) (Addr.add p7 2) fun (n8:Int)=>R2 (decide ((0:Int)<n8))) (R2 false)) (q105_J0 K1)
def h105:Hint:=⟨(.n .e 3 ([(2,.c .B)],[]) .e),.e⟩
theorem q105_eq (p0:Addr) (K1:Bool→PT):fnE Cx h105 [.c .B] Tryd.f105 [.pt p0] K1=q105 p0 K1:=by kernel_rfl
theorem q105_fnok:fnOk Tryd.f105 1=true:=by kernel_rfl
theorem q105_ok (p0:Addr) (K1:Bool→PT) {w:World} (h:q105 p0 K1 w):Calls Tryd.prog 105 #[(.pointer (some p0))] w fun e w'=>∃r,e = .returned (resMk [.c .B] r)∧K1 r w' :=
 of_eq Tryd.func105 q105_fnok (by kernel_rfl) (by kernel_rfl) (q105_eq p0 K1) h
def q106 (p0:Addr) (K1:Int→PT):PT :=
 drw<|ld .S (Addr.add p0 2) fun (s2:Sl)=>ld (.I .u16) p0 fun (n3:Int)=>ixS 3 s2 n3 fun (p4:Addr)=>ld (.I .u8) (Addr.add p4 1) fun (n5:Int)=>K1 n5
def h106:Hint:=⟨.e,.e⟩
theorem q106_eq (p0:Addr) (K1:Int→PT):fnE Cx h106 [.c (.I .u8)] Tryd.f106 [.pt p0] K1=q106 p0 K1:=by kernel_rfl
theorem q106_fnok:fnOk Tryd.f106 1=true:=by kernel_rfl
theorem q106_ok (p0:Addr) (K1:Int→PT) {w:World} (h:q106 p0 K1 w):Calls Tryd.prog 106 #[(.pointer (some p0))] w fun e w'=>∃r,e = .returned (resMk [.c (.I .u8)] r)∧K1 r w' :=
 of_eq Tryd.func106 q106_fnok (by kernel_rfl) (by kernel_rfl) (q106_eq p0 K1) h
def q107_L0 (p0:Addr) (K1:Unit→PT) (x19:Unit) (A20:Unit→PT):PT :=
 ld (.I .u64) (Addr.add p0 1) fun (n21:Int)=>cnd (decide ((0:Int)<n21)) (drw<|ld (.I .u64) (Addr.add p0 2) fun (n22:Int)=>req (0≤(8:Int))<|ld .S p0 fun (s23:Sl)=>ld (.I .u64) (Addr.add p0 1) fun (n24:Int)=>ixS 1 s23 (IntKind.wrap .u64 (n24-(1:Int))) fun (p25:Addr)=>ld (.I .u8) p25 fun (n26:Int)=>st (Addr.add p0 2) (.int .u64 (orI .u64 (shlI .u64 n22 (8:Int)) (IntKind.wrap .u64 n26)))<|ld (.I .u8) (Addr.add p0 3) fun (n27:Int)=>st (Addr.add p0 3) (.int .u8 (IntKind.wrap .u8 (n27-(8:Int))))<|ld (.I .u64) (Addr.add p0 1) fun (n28:Int)=>st (Addr.add p0 1) (.int .u64 (IntKind.wrap .u64 (n28-(1:Int))))<|A20 ()) (K1 ())
def q107 (p0:Addr) (K1:Unit→PT):PT :=
 ld (.I .u8) (Addr.add p0 3) fun (n2:Int)=>cnd (decide (n2<(32:Int))) (K1 ()) (ld (.I .u64) (Addr.add p0 1) fun (n3:Int)=>cnd (decide ((4:Int)<n3)) (drw<|ld .S p0 fun (s4:Sl)=>ld (.I .u64) (Addr.add p0 1) fun (n5:Int)=>slc 1 s4 (some (IntKind.wrap .u64 (n5-(4:Int)))) none none fun (s6:Sl)=>slc 1 s6 none (some (4:Int)) none fun (s7:Sl)=>drw<|ixS 1 s7 (0:Int) fun (p8:Addr)=>ld (.I .u8) p8 fun (n9:Int)=>ixS 1 s7 (1:Int) fun (p10:Addr)=>ld (.I .u8) p10 fun (n11:Int)=>req (0≤(8:Int))<|ixS 1 s7 (2:Int) fun (p12:Addr)=>ld (.I .u8) p12 fun (n13:Int)=>req (0≤(16:Int))<|ixS 1 s7 (3:Int) fun (p14:Addr)=>ld (.I .u8) p14 fun (n15:Int)=>req (0≤(24:Int))<|ld (.I .u64) (Addr.add p0 2) fun (n16:Int)=>req (0≤(32:Int))<|st (Addr.add p0 2) (.int .u64 (orI .u64 (shlI .u64 n16 (32:Int)) (IntKind.wrap .u64 (orI .u32 (orI .u32 (orI .u32 (IntKind.wrap .u32 n9) (shlI .u32 (IntKind.wrap .u32 n11) (8:Int))) (shlI .u32 (IntKind.wrap .u32 n13) (16:Int))) (shlI .u32 (IntKind.wrap .u32 n15) (24:Int))))))<|ld (.I .u8) (Addr.add p0 3) fun (n17:Int)=>st (Addr.add p0 3) (.int .u8 (IntKind.wrap .u8 (n17-(32:Int))))<|ld (.I .u64) (Addr.add p0 1) fun (n18:Int)=>st (Addr.add p0 1) (.int .u64 (IntKind.wrap .u64 (n18-(4:Int))))<|K1 ()) (loopP () (q107_L0 p0 K1)))
def h107:Hint:=⟨(.n .e 14 ([],[0]) .e),.e⟩
theorem q107_eq (p0:Addr) (K1:Unit→PT):fnE Cx h107 [] Tryd.f107 [.pt p0] K1=q107 p0 K1:=by kernel_rfl
theorem q107_fnok:fnOk Tryd.f107 1=true:=by kernel_rfl
theorem q107_ok (p0:Addr) (K1:Unit→PT) {w:World} (h:q107 p0 K1 w):Calls Tryd.prog 107 #[(.pointer (some p0))] w fun e w'=>∃r,e = .returned (resMk [] r)∧K1 r w' :=
 of_eq Tryd.func107 q107_fnok (by kernel_rfl) (by kernel_rfl) (q107_eq p0 K1) h
def q108 (p0:Addr) (K1:(Value)→PT):PT :=
 st p0 (.slice none 0 0)<|ld (.I .u8) (Addr.add p0 3) fun (n2:Int)=>cnd (decide ((64:Int)<n2)) (ld .V ⟨5,0,none⟩ fun (v3:Value)=>K1 v3) (K1 .nilIface)
def h108:Hint:=⟨.e,.e⟩
theorem q108_eq (p0:Addr) (K1:(Value)→PT):fnE Cx h108 [.c .V] Tryd.f108 [.pt p0] K1=q108 p0 K1:=by kernel_rfl
theorem q108_fnok:fnOk Tryd.f108 1=true:=by kernel_rfl
theorem q108_ok (p0:Addr) (K1:(Value)→PT) {w:World} (h:q108 p0 K1 w):Calls Tryd.prog 108 #[(.pointer (some p0))] w fun e w'=>∃r,e = .returned (resMk [.c .V] r)∧K1 r w' :=
 of_eq Tryd.func108 q108_fnok (by kernel_rfl) (by kernel_rfl) (q108_eq p0 K1) h
def q110_J0 (p0:Addr) (K1:Unit→PT) (x14:Int):PT :=
 st (Addr.add p0 529) (.int .u8 x14)<|K1 ()
def q110_J1 (p0:Addr) (K1:Unit→PT) (x12:Int):PT :=
 joinP (fun R13=>cnd (decide ((12:Int)<x12)) (R13 (12:Int)) (R13 x12)) (q110_J0 p0 K1)
def q110_J2 (p0:Addr) (K1:Unit→PT) (x10:Int):PT :=
 joinP (fun R11=>cnd (decide (x10<(5:Int))) (R11 (5:Int)) (R11 x10)) (q110_J1 p0 K1)
def q110_J3 (p0:Addr) (K1:Unit→PT) (r3:Int) (x8:Int):PT :=
 joinP (fun R9=>cnd (decide (x8<r3)) (R9 r3) (R9 x8)) (q110_J2 p0 K1)
def q110 (p0:Addr) (K1:Unit→PT):PT :=
 ld (.I .u8) (Addr.add p0 533) fun (n2:Int)=>callP Tryd.prog 135 #[(.pointer (some p0))] [.c (.I .u8)] fun (r3:Int)=>ldL [.S,(.I .i64)] (Addr.add p0 512) 0 fun (r4:(Sl×Int))=>callP Tryd.prog 93 #[(.agg ⟨[(.slice r4.1.a r4.1.l r4.1.c),(.int .i64 r4.2)]⟩)] [.c (.I .i64)] fun (r5:Int)=>callP Tryd.prog 98 #[(.int .u32 (IntKind.wrap .u32 (IntKind.wrap .i64 (r5-(1:Int)))))] [.c (.I .u32)] fun (r6:Int)=>joinP (fun R7=>cnd (decide ((IntKind.wrap .u8 ((IntKind.wrap .u8 r6)-(2:Int)))<n2)) (R7 (IntKind.wrap .u8 ((IntKind.wrap .u8 r6)-(2:Int)))) (R7 n2)) (q110_J3 p0 K1 r3)
def h110:Hint:=⟨(.n (.n (.n .e 15 ([(2,.c (.I .u8))],[3,0]) .e) 31 ([(2,.c (.I .u8))],[0]) .e) 63 ([(2,.c (.I .u8))],[0]) (.n .e 127 ([(2,.c (.I .u8))],[0]) .e)),.e⟩
theorem q110_eq (p0:Addr) (K1:Unit→PT):fnE Cx h110 [] Tryd.f110 [.pt p0] K1=q110 p0 K1:=by kernel_rfl
theorem q110_fnok:fnOk Tryd.f110 1=true:=by kernel_rfl
theorem q110_ok (p0:Addr) (K1:Unit→PT) {w:World} (h:q110 p0 K1 w):Calls Tryd.prog 110 #[(.pointer (some p0))] w fun e w'=>∃r,e = .returned (resMk [] r)∧K1 r w' :=
 of_eq Tryd.func110 q110_fnok (by kernel_rfl) (by kernel_rfl) (q110_eq p0 K1) h
def q111_J0 (p0:Addr) (x10:(Int×Int×Int×Int)) (R12:Int×Int×Int→PT) (x20:(Int)) (x22:Int×Int):PT :=
 ixA 1 256 (Addr.add p0 256) x10.2.2.2 fun (p23:Addr)=>st p23 (.int .i16 x20)<|R12 ((IntKind.wrap .i16 (x10.1-x20)),x22.1,x22.2)
def q111_J1 (p0:Addr) (x10:(Int×Int×Int×Int)) (R12:Int×Int×Int→PT) (x20:Int):PT :=
 joinP (fun R21=>cnd (decide (x10.2.2.1<x20)) (R21 (x10.2.2.2,x20)) (R21 (x10.2.1,x10.2.2.1))) (q111_J0 p0 x10 R12 x20)
def q111_X2 (n2:Int) (r4:Int) (n14:Int) (R17:Int→PT):PT :=
 cnd (decide ((IntKind.wrap .i16 (shrI .u64 (IntKind.wrap .u64 ((IntKind.wrap .u64 n14)*(quoI .u64 (4611686018427387904:Int) (IntKind.wrap .u64 r4)))) (IntKind.wrap .u64 ((62:Int)-(IntKind.wrap .u64 n2)))))<(8:Int))) (ixA 1 8 ⟨6,0,none⟩ (IntKind.wrap .i16 (shrI .u64 (IntKind.wrap .u64 ((IntKind.wrap .u64 n14)*(quoI .u64 (4611686018427387904:Int) (IntKind.wrap .u64 r4)))) (IntKind.wrap .u64 ((62:Int)-(IntKind.wrap .u64 n2))))) fun (p18:Addr)=>ld (.I .u32) p18 fun (n19:Int)=>req (0≤(IntKind.wrap .u64 ((62:Int)-(IntKind.wrap .u64 n2))))<|cnd (decide ((IntKind.wrap .u64 ((shlI .u64 (1:Int) (IntKind.wrap .u64 ((IntKind.wrap .u64 ((62:Int)-(IntKind.wrap .u64 n2)))-(20:Int))))*(IntKind.wrap .u64 n19)))<(IntKind.wrap .u64 ((IntKind.wrap .u64 ((IntKind.wrap .u64 n14)*(quoI .u64 (4611686018427387904:Int) (IntKind.wrap .u64 r4))))-(shlI .u64 (IntKind.wrap .u64 (IntKind.wrap .i16 (shrI .u64 (IntKind.wrap .u64 ((IntKind.wrap .u64 n14)*(quoI .u64 (4611686018427387904:Int) (IntKind.wrap .u64 r4)))) (IntKind.wrap .u64 ((62:Int)-(IntKind.wrap .u64 n2)))))) (IntKind.wrap .u64 ((62:Int)-(IntKind.wrap .u64 n2)))))))) (R17 (IntKind.wrap .i16 ((IntKind.wrap .i16 (shrI .u64 (IntKind.wrap .u64 ((IntKind.wrap .u64 n14)*(quoI .u64 (4611686018427387904:Int) (IntKind.wrap .u64 r4)))) (IntKind.wrap .u64 ((62:Int)-(IntKind.wrap .u64 n2)))))+(1:Int)))) (R17 (IntKind.wrap .i16 (shrI .u64 (IntKind.wrap .u64 ((IntKind.wrap .u64 n14)*(quoI .u64 (4611686018427387904:Int) (IntKind.wrap .u64 r4)))) (IntKind.wrap .u64 ((62:Int)-(IntKind.wrap .u64 n2))))))) (R17 (IntKind.wrap .i16 (shrI .u64 (IntKind.wrap .u64 ((IntKind.wrap .u64 n14)*(quoI .u64 (4611686018427387904:Int) (IntKind.wrap .u64 r4)))) (IntKind.wrap .u64 ((62:Int)-(IntKind.wrap .u64 n2))))))
def q111_J3 (x10:(Int×Int×Int×Int)) (A11:(Int×Int×Int×Int)→PT) (x24:Int×Int×Int):PT :=
 A11 (x24.1,x24.2.1,x24.2.2,(IntKind.wrap .i64 (x10.2.2.2+(1:Int))))
def q111_X4 (p0:Addr) (n2:Int) (r4:Int) (r6:Int) (s9:Sl) (x10:(Int×Int×Int×Int)) (R12:(Int×Int×Int)→PT):PT :=
 ixS 1 s9 x10.2.2.2 fun (p13:Addr)=>ld (.I .u32) p13 fun (n14:Int)=>cnd (decide (n14=(0:Int))) (ixA 1 256 (Addr.add p0 256) x10.2.2.2 fun (p15:Addr)=>st p15 (.int .i16 (0:Int))<|R12 (x10.1,x10.2.1,x10.2.2.1)) (cnd (decide (n14≤(IntKind.wrap .u32 (shrI .i64 r6 n2)))) (ixA 1 256 (Addr.add p0 256) x10.2.2.2 fun (p16:Addr)=>st p16 (.int .i16 (-1:Int))<|R12 ((IntKind.wrap .i16 (x10.1-(1:Int))),x10.2.1,x10.2.2.1)) (req (0≤(IntKind.wrap .u64 ((62:Int)-(IntKind.wrap .u64 n2))))<|joinP (q111_X2 n2 r4 n14) (q111_J1 p0 x10 R12)))
def q111_L5 (p0:Addr) (n2:Int) (r4:Int) (r6:Int) (R7:Int×Int→PT) (s9:Sl) (x10:Int×Int×Int×Int) (A11:(Int×Int×Int×Int)→PT):PT :=
 cnd (decide (x10.2.2.2<(s9.l:Int))) (joinP (q111_X4 p0 n2 r4 r6 s9 x10) (q111_J3 x10 A11)) (R7 (x10.1,x10.2.1))
def q111_J6 (p0:Addr) (K1:(Value)→PT) (x25:Int×Int):PT :=
 ixA 1 256 (Addr.add p0 256) x25.2 fun (p26:Addr)=>ld (.I .i16) p26 fun (n27:Int)=>req (0≤(1:Int))<|cnd (decide ((shrI .i16 n27 (1:Int))≤(IntKind.wrap .i16 (0-x25.1)))) (callP Tryd.prog 136 #[(.pointer (some p0))] [.c .V] fun (r28:Value)=>K1 r28) (drw<|ixA 1 256 (Addr.add p0 256) x25.2 fun (p29:Addr)=>ld (.I .i16) p29 fun (n30:Int)=>ixA 1 256 (Addr.add p0 256) x25.2 fun (p31:Addr)=>st p31 (.int .i16 (IntKind.wrap .i16 (n30+x25.1)))<|K1 .nilIface)
def q111 (p0:Addr) (K1:(Value)→PT):PT :=
 ld (.I .u8) (Addr.add p0 529) fun (n2:Int)=>ldL [.S,(.I .i64)] (Addr.add p0 512) 0 fun (r3:(Sl×Int))=>callP Tryd.prog 93 #[(.agg ⟨[(.slice r3.1.a r3.1.l r3.1.c),(.int .i64 r3.2)]⟩)] [.c (.I .i64)] fun (r4:Int)=>req ((IntKind.wrap .u64 r4)≠0)<|req (0≤(IntKind.wrap .u64 ((IntKind.wrap .u64 ((62:Int)-(IntKind.wrap .u64 n2)))-(20:Int))))<|req (0≤n2)<|ldL [.S,(.I .i64)] (Addr.add p0 512) 0 fun (r5:(Sl×Int))=>callP Tryd.prog 93 #[(.agg ⟨[(.slice r5.1.a r5.1.l r5.1.c),(.int .i64 r5.2)]⟩)] [.c (.I .i64)] fun (r6:Int)=>req (0≤n2)<|joinP (fun R7=>drw<|ld (.I .u16) (Addr.add p0 528) fun (n8:Int)=>slcA 1 256 p0 none (some n8) none fun (s9:Sl)=>loopP ((shlI .i16 (1:Int) n2),(0:Int),(0:Int),(0:Int)) (q111_L5 p0 n2 r4 r6 R7 s9)) (q111_J6 p0 K1)
def h111:Hint:=⟨(.n (.n (.n .e 1023 ([(7,.c (.I .i16)),(8,.c (.I .i64))],[0]) .e) 8186 ([(7,.c (.I .i16)),(8,.c (.I .i64)),(9,.c (.I .i16)),(52,.c (.I .i64))],[0,10,4,5,6,50,51]) .e) 65491 ([(7,.c (.I .i16)),(8,.c (.I .i64)),(9,.c (.I .i16))],[52,0,10,4,5,6,50,51]) (.n (.n .e 8382879 ([(13,.c (.I .i16))],[8,9,11,7,52,0,10,4,5,6,50,51]) .e) 16765759 ([(8,.c (.I .i64)),(9,.c (.I .i16))],[11,7,13,52,0,10,4,5,6,50,51]) .e)),.e⟩
theorem q111_eq (p0:Addr) (K1:(Value)→PT):fnE Cx h111 [.c .V] Tryd.f111 [.pt p0] K1=q111 p0 K1:=by kernel_rfl
theorem q111_fnok:fnOk Tryd.f111 1=true:=by kernel_rfl
theorem q111_ok (p0:Addr) (K1:(Value)→PT) {w:World} (h:q111 p0 K1 w):Calls Tryd.prog 111 #[(.pointer (some p0))] w fun e w'=>∃r,e = .returned (resMk [.c .V] r)∧K1 r w' :=
 of_eq Tryd.func111 q111_fnok (by kernel_rfl) (by kernel_rfl) (q111_eq p0 K1) h
def q112_L0 (p0:Addr) (R16:Int→PT) (x17:Int) (A18:Int→PT):PT :=
 ixA 1 256 (Addr.add p0 256) x17 fun (p19:Addr)=>ld (.I .i16) p19 fun (n20:Int)=>cnd (decide (n20=(0:Int))) (A18 (IntKind.wrap .u16 (x17+(1:Int)))) (R16 x17)
def q112_L1 (s11:Sl) (x13:(Bool×Int×Int×Int×Int×Int×Int×Int)) (x21:(Int)) (R22:Int×Int×Int→PT) (x23:Int×Int×Int) (A24:(Int×Int×Int)→PT):PT :=
 cnd (decide ((IntKind.wrap .u16 (x23.2.2+(24:Int)))≤x21)) (req (0≤x13.2.2.2.1)<|ixS 1 s11 x23.2.1 fun (p25:Addr)=>st p25 (.int .u8 (IntKind.wrap .u8 (IntKind.wrap .u32 (x23.1+(shlI .u32 (65535:Int) x13.2.2.2.1)))))<|req (0≤(8:Int))<|ixS 1 s11 (IntKind.wrap .u64 (x23.2.1+(1:Int))) fun (p26:Addr)=>st p26 (.int .u8 (IntKind.wrap .u8 (shrI .u32 (IntKind.wrap .u32 (x23.1+(shlI .u32 (65535:Int) x13.2.2.2.1))) (8:Int))))<|req (0≤(16:Int))<|A24 ((shrI .u32 (IntKind.wrap .u32 (x23.1+(shlI .u32 (65535:Int) x13.2.2.2.1))) (16:Int)),(IntKind.wrap .u64 (x23.2.1+(2:Int))),(IntKind.wrap .u16 (x23.2.2+(24:Int))))) (R22 (x23.1,x23.2.1,x23.2.2))
def q112_L2 (x21:(Int)) (R28:Int×Int×Int→PT) (x29:Int×Int×Int) (A30:(Int×Int×Int)→PT):PT :=
 cnd (decide ((IntKind.wrap .u16 (x29.2.2+(3:Int)))≤x21)) (req (0≤x29.2.1)<|A30 ((IntKind.wrap .u32 (x29.1+(shlI .u32 (3:Int) x29.2.1))),(IntKind.wrap .u64 (x29.2.1+(2:Int))),(IntKind.wrap .u16 (x29.2.2+(3:Int))))) (R28 (x29.1,x29.2.1,x29.2.2))
def q112_J3 (s11:Sl) (R15:Int×Int×Int×Int→PT) (x21:(Int)) (x27:(Int×Int×Int)) (x31:Int×Int×Int):PT :=
 req (0≤x31.2.1)<|cnd (decide ((16:Int)<(IntKind.wrap .u64 (x31.2.1+(2:Int))))) (ixS 1 s11 x27.2.1 fun (p32:Addr)=>st p32 (.int .u8 (IntKind.wrap .u8 (IntKind.wrap .u32 (x31.1+(shlI .u32 (IntKind.wrap .u32 (IntKind.wrap .u16 (x21-x31.2.2))) x31.2.1)))))<|req (0≤(8:Int))<|ixS 1 s11 (IntKind.wrap .u64 (x27.2.1+(1:Int))) fun (p33:Addr)=>st p33 (.int .u8 (IntKind.wrap .u8 (shrI .u32 (IntKind.wrap .u32 (x31.1+(shlI .u32 (IntKind.wrap .u32 (IntKind.wrap .u16 (x21-x31.2.2))) x31.2.1))) (8:Int))))<|req (0≤(16:Int))<|R15 (x21,(shrI .u32 (IntKind.wrap .u32 (x31.1+(shlI .u32 (IntKind.wrap .u32 (IntKind.wrap .u16 (x21-x31.2.2))) x31.2.1))) (16:Int)),(IntKind.wrap .u64 ((IntKind.wrap .u64 (x31.2.1+(2:Int)))-(16:Int))),(IntKind.wrap .u64 (x27.2.1+(2:Int))))) (R15 (x21,(IntKind.wrap .u32 (x31.1+(shlI .u32 (IntKind.wrap .u32 (IntKind.wrap .u16 (x21-x31.2.2))) x31.2.1))),(IntKind.wrap .u64 (x31.2.1+(2:Int))),x27.2.1))
def q112_J4 (s11:Sl) (x13:(Bool×Int×Int×Int×Int×Int×Int×Int)) (R15:Int×Int×Int×Int→PT) (x21:(Int)) (x27:Int×Int×Int):PT :=
 joinP (fun R28=>loopP (x27.1,x13.2.2.2.1,x27.2.2) (q112_L2 x21 R28)) (q112_J3 s11 R15 x21 x27)
def q112_J5 (s11:Sl) (x13:(Bool×Int×Int×Int×Int×Int×Int×Int)) (R15:Int×Int×Int×Int→PT) (x21:Int):PT :=
 joinP (fun R22=>loopP (x13.2.2.1,x13.2.2.2.2.2.2.2,x13.2.1) (q112_L1 s11 x13 x21 R22)) (q112_J4 s11 x13 R15 x21)
def q112_L6 (x38:(Int)) (R44:Int×Int→PT) (x45:Int×Int) (A46:(Int×Int)→PT):PT :=
 cnd (decide (x38<x45.1)) (req (0≤(1:Int))<|A46 ((shrI .i16 x45.1 (1:Int)),(IntKind.wrap .u64 (x45.2-(1:Int))))) (R44 (x45.1,x45.2))
def q112_J7 (s11:Sl) (A14:(Bool×Int×Int×Int×Int×Int×Int×Int)→PT) (x34:(Int×Int×Int×Int)) (x38:(Int)) (x40:(Int)) (x42:(Int)) (x47:Int×Int):PT :=
 cnd (decide ((16:Int)<x42)) (ixS 1 s11 x34.2.2.2 fun (p48:Addr)=>st p48 (.int .u8 (IntKind.wrap .u8 (IntKind.wrap .u32 (x34.2.1+(shlI .u32 (IntKind.wrap .u32 x40) x34.2.2.1)))))<|req (0≤(8:Int))<|ixS 1 s11 (IntKind.wrap .u64 (x34.2.2.2+(1:Int))) fun (p49:Addr)=>st p49 (.int .u8 (IntKind.wrap .u8 (shrI .u32 (IntKind.wrap .u32 (x34.2.1+(shlI .u32 (IntKind.wrap .u32 x40) x34.2.2.1))) (8:Int))))<|req (0≤(16:Int))<|A14 ((decide (x40=(1:Int))),(IntKind.wrap .u16 (x34.1+(1:Int))),(shrI .u32 (IntKind.wrap .u32 (x34.2.1+(shlI .u32 (IntKind.wrap .u32 x40) x34.2.2.1))) (16:Int)),(IntKind.wrap .u64 (x42-(16:Int))),x38,x47.1,x47.2,(IntKind.wrap .u64 (x34.2.2.2+(2:Int))))) (A14 ((decide (x40=(1:Int))),(IntKind.wrap .u16 (x34.1+(1:Int))),(IntKind.wrap .u32 (x34.2.1+(shlI .u32 (IntKind.wrap .u32 x40) x34.2.2.1))),x42,x38,x47.1,x47.2,x34.2.2.2))
def q112_J8 (K1:(Value)→PT) (s11:Sl) (x13:(Bool×Int×Int×Int×Int×Int×Int×Int)) (A14:(Bool×Int×Int×Int×Int×Int×Int×Int)→PT) (x34:(Int×Int×Int×Int)) (x38:(Int)) (x40:(Int)) (x42:Int):PT :=
 cnd (decide (x38<(1:Int))) (callP Tryd.prog 62 #[(.string ⟨#[105,110,116,101,114,110,97,108,32,101,114,114,111,114,58,32,114,101,109,97,105,110,105,110,103,60,49]⟩)] [.c .V] fun (r43:Value)=>K1 r43) (joinP (fun R44=>loopP (x13.2.2.2.2.2.1,x13.2.2.2.2.2.2.1) (q112_L6 x38 R44)) (q112_J7 s11 A14 x34 x38 x40 x42))
def q112_J9 (K1:(Value)→PT) (s11:Sl) (x13:(Bool×Int×Int×Int×Int×Int×Int×Int)) (A14:(Bool×Int×Int×Int×Int×Int×Int×Int)→PT) (x34:(Int×Int×Int×Int)) (x38:(Int)) (x40:Int):PT :=
 req (0≤x34.2.2.1)<|joinP (fun R41=>cnd (decide (x40<(IntKind.wrap .i16 ((IntKind.wrap .i16 ((IntKind.wrap .i16 ((2:Int)*x13.2.2.2.2.2.1))-(1:Int)))-x13.2.2.2.2.1)))) (R41 (IntKind.wrap .u64 ((IntKind.wrap .u64 (x34.2.2.1+x13.2.2.2.2.2.2.1))-(1:Int)))) (R41 (IntKind.wrap .u64 (x34.2.2.1+x13.2.2.2.2.2.2.1)))) (q112_J8 K1 s11 x13 A14 x34 x38 x40)
def q112_J10 (K1:(Value)→PT) (s11:Sl) (x13:(Bool×Int×Int×Int×Int×Int×Int×Int)) (A14:(Bool×Int×Int×Int×Int×Int×Int×Int)→PT) (x34:(Int×Int×Int×Int)) (n36:Int) (x38:Int):PT :=
 joinP (fun R39=>cnd (decide (x13.2.2.2.2.2.1≤(IntKind.wrap .i16 (n36+(1:Int))))) (R39 (IntKind.wrap .i16 ((IntKind.wrap .i16 (n36+(1:Int)))+(IntKind.wrap .i16 ((IntKind.wrap .i16 ((IntKind.wrap .i16 ((2:Int)*x13.2.2.2.2.2.1))-(1:Int)))-x13.2.2.2.2.1))))) (R39 (IntKind.wrap .i16 (n36+(1:Int))))) (q112_J9 K1 s11 x13 A14 x34 x38)
def q112_J11 (p0:Addr) (K1:(Value)→PT) (s11:Sl) (x13:(Bool×Int×Int×Int×Int×Int×Int×Int)) (A14:(Bool×Int×Int×Int×Int×Int×Int×Int)→PT) (x34:Int×Int×Int×Int):PT :=
 ixA 1 256 (Addr.add p0 256) x34.1 fun (p35:Addr)=>ld (.I .i16) p35 fun (n36:Int)=>joinP (fun R37=>cnd (decide (n36<(0:Int))) (R37 (IntKind.wrap .i16 (x13.2.2.2.2.1+n36))) (R37 (IntKind.wrap .i16 (x13.2.2.2.2.1-n36)))) (q112_J10 K1 s11 x13 A14 x34 n36)
def q112_L12 (p0:Addr) (K1:(Value)→PT) (s11:Sl) (R12:Int×Int×Int×Int→PT) (x13:Bool×Int×Int×Int×Int×Int×Int×Int) (A14:(Bool×Int×Int×Int×Int×Int×Int×Int)→PT):PT :=
 cnd (decide ((1:Int)<x13.2.2.2.2.1)) (joinP (fun R15=>cnd x13.1 (joinP (fun R16=>loopP x13.2.1 (q112_L0 p0 R16)) (q112_J5 s11 x13 R15)) (R15 (x13.2.1,x13.2.2.1,x13.2.2.2.1,x13.2.2.2.2.2.2.2))) (q112_J11 p0 K1 s11 x13 A14)) (R12 (x13.2.1,x13.2.2.1,x13.2.2.2.1,x13.2.2.2.2.2.2.2))
def q112_J13 (p0:Addr) (K1:(Value)→PT) (s11:Sl) (x50:Int×Int×Int×Int):PT :=
 ixS 1 s11 x50.2.2.2 fun (p51:Addr)=>st p51 (.int .u8 (IntKind.wrap .u8 x50.2.1))<|req (0≤(8:Int))<|ixS 1 s11 (IntKind.wrap .u64 (x50.2.2.2+(1:Int))) fun (p52:Addr)=>st p52 (.int .u8 (IntKind.wrap .u8 (shrI .u32 x50.2.1 (8:Int))))<|req ((8:Int)≠0)<|ld (.I .u16) (Addr.add p0 528) fun (n53:Int)=>cnd (decide (n53<x50.1)) (callP Tryd.prog 62 #[(.string ⟨#[105,110,116,101,114,110,97,108,32,101,114,114,111,114,58,32,99,104,97,114,110,117,109,32,62,32,115,46,115,121,109,98,111,108,76,101,110]⟩)] [.c .V] fun (r54:Value)=>K1 r54) (slc 1 s11 none (some (IntKind.wrap .u64 (x50.2.2.2+(quoI .u64 (IntKind.wrap .u64 (x50.2.2.1+(7:Int))) (8:Int))))) none fun (s55:Sl)=>st (Addr.add p0 526) (.slice s55.a s55.l s55.c)<|K1 .nilIface)
def q112_J14 (p0:Addr) (K1:(Value)→PT) (n2:Int) (n3:Int) (x9:Unit):PT :=
 ld .S (Addr.add p0 526) fun (s10:Sl)=>slc 1 s10 none (some (IntKind.wrap .i64 ((shrI .i64 (IntKind.wrap .i64 ((IntKind.wrap .i64 ((IntKind.wrap .i64 ((IntKind.wrap .i64 n3)*(IntKind.wrap .i64 n2)))+(4:Int)))+(2:Int))) (3:Int))+(3:Int)))) none fun (s11:Sl)=>joinP (fun R12=>loopP (false,(0:Int),(IntKind.wrap .u32 (IntKind.wrap .u8 (n2-(5:Int)))),(4:Int),(IntKind.wrap .i16 (IntKind.wrap .i64 ((shlI .i64 (1:Int) n2)+(1:Int)))),(IntKind.wrap .i16 (shlI .i64 (1:Int) n2)),(IntKind.wrap .u64 (IntKind.wrap .u8 (n2+(1:Int)))),(0:Int)) (q112_L12 p0 K1 s11 R12)) (q112_J13 p0 K1 s11)
def q112_X15 (p0:Addr) (n2:Int) (n3:Int) (R4:Unit→PT):PT :=
 ld .S (Addr.add p0 526) fun (s5:Sl)=>cnd (decide ((s5.c:Int)<(IntKind.wrap .i64 ((shrI .i64 (IntKind.wrap .i64 ((IntKind.wrap .i64 ((IntKind.wrap .i64 ((IntKind.wrap .i64 n3)*(IntKind.wrap .i64 n2)))+(4:Int)))+(2:Int))) (3:Int))+(3:Int))))) (ldL [.S,(.I .i64)] (Addr.add p0 512) 0 fun (r6:(Sl×Int))=>callP Tryd.prog 93 #[(.agg ⟨[(.slice r6.1.a r6.1.l r6.1.c),(.int .i64 r6.2)]⟩)] [.c (.I .i64)] fun (r7:Int)=>mks z5 5 1 (0:Int) (IntKind.wrap .i64 (r7+(IntKind.wrap .i64 ((shrI .i64 (IntKind.wrap .i64 ((IntKind.wrap .i64 ((IntKind.wrap .i64 ((IntKind.wrap .i64 n3)*(IntKind.wrap .i64 n2)))+(4:Int)))+(2:Int))) (3:Int))+(3:Int))))) fun (s8:Sl)=>st (Addr.add p0 526) (.slice s8.a s8.l s8.c)<|R4 ()) (R4 ())
def q112 (p0:Addr) (K1:(Value)→PT):PT :=
 ld (.I .u8) (Addr.add p0 529) fun (n2:Int)=>req (0≤n2)<|ld (.I .u16) (Addr.add p0 528) fun (n3:Int)=>req (0≤(3:Int))<|joinP (q112_X15 p0 n2 n3) (q112_J14 p0 K1 n2 n3)
def h112:Hint:=⟨(.n (.n (.n (.n .e 4095 ([],[7,11,12,10,0,8,9,6,5]) .e) 32767 ([(6,.c (.I .u16)),(8,.c (.I .u32)),(9,.c (.I .u64)),(13,.c (.I .u64))],[14,0]) (.n .e 131068 ([(5,.c .B),(6,.c (.I .u16)),(8,.c (.I .u32)),(9,.c (.I .u64)),(10,.c (.I .i16)),(11,.c (.I .i16)),(12,.c (.I .u64)),(13,.c (.I .u64))],[0,14]) .e)) 1048546 ([(6,.c (.I .u16)),(8,.c (.I .u32)),(9,.c (.I .u64)),(13,.c (.I .u64))],[10,14,0,12,11]) (.n (.n .e 16776741 ([(6,.c (.I .u16))],[13,14,9,8,15,10,0,12,11]) .e) 16776751 ([(10,.c (.I .i16))],[16,8,9,17,6,14,0,13,12,11]) (.n .e 33553483 ([(8,.c (.I .u32)),(13,.c (.I .u64)),(15,.c (.I .u16))],[9,6,10,14,0,12,11]) .e))) 67106964 ([(6,.c (.I .u16))],[13,14,9,8,15,10,0,12,11]) (.n (.n (.n .e 67106967 ([(8,.c (.I .u32)),(9,.c (.I .u64)),(15,.c (.I .u16))],[13,6,10,14,0,12,11]) .e) 67107007 ([(16,.c (.I .i16))],[8,9,17,6,14,0,10,13,12,11]) (.n .e 134213932 ([(8,.c (.I .u32)),(13,.c (.I .u64)),(15,.c (.I .u16))],[14,9,6,10,0,12,11]) .e)) 268427868 ([(8,.c (.I .u32)),(9,.c (.I .u64)),(15,.c (.I .u16))],[13,6,10,14,0,12,11]) (.n (.n .e 536856063 ([(9,.c (.I .u64))],[16,6,14,0,10,8,13,12,11]) .e) 4294848511 ([(11,.c (.I .i16)),(12,.c (.I .u64))],[13,8,9,10,0,14,6,5]) (.n .e 17179394044 ([(11,.c (.I .i16)),(12,.c (.I .u64))],[13,8,9,10,0,14,6,5]) .e)))),.e⟩
theorem q112_eq (p0:Addr) (K1:(Value)→PT):fnE Cx h112 [.c .V] Tryd.f112 [.pt p0] K1=q112 p0 K1:=by kernel_rfl
theorem q112_fnok:fnOk Tryd.f112 1=true:=by kernel_rfl
theorem q112_ok (p0:Addr) (K1:(Value)→PT) {w:World} (h:q112 p0 K1 w):Calls Tryd.prog 112 #[(.pointer (some p0))] w fun e w'=>∃r,e = .returned (resMk [.c .V] r)∧K1 r w' :=
 of_eq Tryd.func112 q112_fnok (by kernel_rfl) (by kernel_rfl) (q112_eq p0 K1) h
def q113_J0 (x12:(Int×Int)) (A13:(Int×Int)→PT) (x24:Int):PT :=
 A13 (x24,(IntKind.wrap .i64 (x12.2+(1:Int))))
def q113_X1 (p3:Addr) (s6:Sl) (s11:Sl) (x12:(Int×Int)) (R14:Int→PT):PT :=
 ixS 1 s11 x12.2 fun (p15:Addr)=>ld (.I .i16) p15 fun (n16:Int)=>cnd (decide (n16=(-1:Int))) (ixA 1 257 p3 (IntKind.wrap .u8 x12.2) fun (p17:Addr)=>ld (.I .i16) p17 fun (n18:Int)=>ixA 1 257 p3 (IntKind.wrap .u8 ((IntKind.wrap .u8 x12.2)+(1:Int))) fun (p19:Addr)=>st p19 (.int .i16 (IntKind.wrap .i16 (n18+(1:Int))))<|ixS 1 s6 x12.1 fun (p20:Addr)=>st p20 (.int .u8 (IntKind.wrap .u8 x12.2))<|R14 (IntKind.wrap .u32 (x12.1-(1:Int)))) (ixA 1 257 p3 (IntKind.wrap .u8 x12.2) fun (p21:Addr)=>ld (.I .i16) p21 fun (n22:Int)=>ixA 1 257 p3 (IntKind.wrap .u8 ((IntKind.wrap .u8 x12.2)+(1:Int))) fun (p23:Addr)=>st p23 (.int .i16 (IntKind.wrap .i16 (n22+n16)))<|R14 x12.1)
def q113_L2 (p3:Addr) (s6:Sl) (R9:Int→PT) (s11:Sl) (x12:Int×Int) (A13:(Int×Int)→PT):PT :=
 cnd (decide (x12.2<(s11.l:Int))) (joinP (q113_X1 p3 s6 s11 x12) (q113_J0 x12 A13)) (R9 x12.1)
def q113_J3 (p0:Addr) (K1:(Value)→PT) (n2:Int) (p3:Addr) (R7:Int→PT) (x38:Int):PT :=
 ld (.I .u16) (Addr.add p0 528) fun (n39:Int)=>ixA 1 257 p3 n39 fun (p40:Addr)=>ld (.I .i16) p40 fun (n41:Int)=>cnd (!decide ((IntKind.wrap .u32 n41)=(shlI .u32 (1:Int) n2))) (callP Tryd.prog 62 #[(.string ⟨#[105,110,116,101,114,110,97,108,32,101,114,114,111,114,58,32,101,120,112,101,99,116,101,100,32,99,117,109,117,108,91,115,46,115,121,109,98,111,108,76,101,110,93,32,61,61,32,116,97,98,108,101,83,105,122,101]⟩)] [.c .V] fun (r42:Value)=>K1 r42) (ld (.I .u16) (Addr.add p0 528) fun (n43:Int)=>ixA 1 257 p3 n43 fun (p44:Addr)=>st p44 (.int .i16 (IntKind.wrap .i16 ((IntKind.wrap .i16 (shlI .u32 (1:Int) n2))+(1:Int))))<|R7 x38)
def q113_X4 (p3:Addr) (s6:Sl) (x25:(Int)) (n26:Int) (n29:Int) (R30:Int→PT):PT :=
 cnd (decide (n29=(-1:Int))) (ixA 1 257 p3 (IntKind.wrap .i64 (IntKind.wrap .u16 (n26-(1:Int)))) fun (p31:Addr)=>ld (.I .i16) p31 fun (n32:Int)=>ixA 1 257 p3 (IntKind.wrap .i64 ((IntKind.wrap .i64 (IntKind.wrap .u16 (n26-(1:Int))))+(1:Int))) fun (p33:Addr)=>st p33 (.int .i16 (IntKind.wrap .i16 (n32+(1:Int))))<|ixS 1 s6 x25 fun (p34:Addr)=>st p34 (.int .u8 (IntKind.wrap .u8 (IntKind.wrap .i64 (IntKind.wrap .u16 (n26-(1:Int))))))<|R30 (IntKind.wrap .u32 (x25-(1:Int)))) (ixA 1 257 p3 (IntKind.wrap .i64 (IntKind.wrap .u16 (n26-(1:Int)))) fun (p35:Addr)=>ld (.I .i16) p35 fun (n36:Int)=>ixA 1 257 p3 (IntKind.wrap .i64 ((IntKind.wrap .i64 (IntKind.wrap .u16 (n26-(1:Int))))+(1:Int))) fun (p37:Addr)=>st p37 (.int .i16 (IntKind.wrap .i16 (n36+n29)))<|R30 x25)
def q113_J5 (p0:Addr) (K1:(Value)→PT) (n2:Int) (p3:Addr) (s6:Sl) (R7:Int→PT) (x25:Int):PT :=
 ld (.I .u16) (Addr.add p0 528) fun (n26:Int)=>drw<|ld (.I .u16) (Addr.add p0 528) fun (n27:Int)=>ixA 1 256 (Addr.add p0 256) (IntKind.wrap .u16 (n27-(1:Int))) fun (p28:Addr)=>ld (.I .i16) p28 fun (n29:Int)=>joinP (q113_X4 p3 s6 x25 n26 n29) (q113_J3 p0 K1 n2 p3 R7)
def q113_L6 (n2:Int) (x45:(Int)) (r47:Int) (R61:Int→PT) (x63:Int) (A64:Int→PT):PT :=
 cnd (decide (x45<x63)) (A64 (andI .u32 (IntKind.wrap .u32 (x63+r47)) (IntKind.wrap .u32 ((shlI .u32 (1:Int) n2)-(1:Int))))) (R61 x63)
def q113_J7 (x59:(Int×Int)) (A60:(Int×Int)→PT) (x65:Int):PT :=
 A60 (x65,(IntKind.wrap .i16 (x59.2+(1:Int))))
def q113_L8 (n2:Int) (s6:Sl) (x45:(Int)) (r47:Int) (x52:(Int×Int)) (R54:Int→PT) (n56:Int) (x59:Int×Int) (A60:(Int×Int)→PT):PT :=
 cnd (decide (x59.2<n56)) (joinP (fun R61=>ixS 1 s6 x59.1 fun (p62:Addr)=>st p62 (.int .u8 (IntKind.wrap .u8 x52.2))<|loopP (andI .u32 (IntKind.wrap .u32 (x59.1+r47)) (IntKind.wrap .u32 ((shlI .u32 (1:Int) n2)-(1:Int)))) (q113_L6 n2 x45 r47 R61)) (q113_J7 x59 A60)) (R54 x59.1)
def q113_J9 (n2:Int) (s6:Sl) (x45:(Int)) (r47:Int) (x52:(Int×Int)) (R54:Int→PT) (n56:Int) (x58:Unit):PT :=
 loopP (x52.1,(0:Int)) (q113_L8 n2 s6 x45 r47 x52 R54 n56)
def q113_J10 (x52:(Int×Int)) (A53:(Int×Int)→PT) (x66:Int):PT :=
 A53 (x66,(IntKind.wrap .i64 (x52.2+(1:Int))))
def q113_L11 (p0:Addr) (n2:Int) (s6:Sl) (x45:(Int)) (r47:Int) (n48:Int) (R49:Int→PT) (s51:Sl) (x52:Int×Int) (A53:(Int×Int)→PT):PT :=
 cnd (decide (x52.2<(s51.l:Int))) (joinP (fun R54=>ixS 1 s51 x52.2 fun (p55:Addr)=>ld (.I .i16) p55 fun (n56:Int)=>joinP (fun R57=>cnd (decide ((shlI .i16 (1:Int) (IntKind.wrap .u8 (n48-(1:Int))))<n56)) (st (Addr.add p0 530) (.bool true)<|R57 ()) (R57 ())) (q113_J9 n2 s6 x45 r47 x52 R54 n56)) (q113_J10 x52 A53)) (R49 x52.1)
def q113_J12 (K1:(Value)→PT) (R46:Unit→PT) (x67:Int):PT :=
 cnd (!decide (x67=(0:Int))) (callP Tryd.prog 62 #[(.string ⟨#[112,111,115,105,116,105,111,110,33,61,48]⟩)] [.c .V] fun (r68:Value)=>K1 r68) (R46 ())
def q113_L13 (n2:Int) (p3:Addr) (s6:Sl) (s70:Sl) (R71:Unit→PT) (x72:Int) (A73:Int→PT):PT :=
 cnd (decide (x72<(s6.l:Int))) (ixS 1 s6 x72 fun (p74:Addr)=>ld (.I .u8) p74 fun (n75:Int)=>ixA 1 257 p3 n75 fun (p76:Addr)=>ld (.I .i16) p76 fun (n77:Int)=>ixS 1 s70 n77 fun (p78:Addr)=>st p78 (.int .u16 (IntKind.wrap .u16 (IntKind.wrap .i64 ((IntKind.wrap .i64 (shlI .u32 (1:Int) n2))+x72))))<|ixA 1 257 p3 n75 fun (p79:Addr)=>ld (.I .i16) p79 fun (n80:Int)=>ixA 1 257 p3 n75 fun (p81:Addr)=>st p81 (.int .i16 (IntKind.wrap .i16 (n80+(1:Int))))<|A73 (IntKind.wrap .i64 (x72+(1:Int)))) (R71 ())
def q113_J14 (s86:Sl) (n87:Int) (x91:(Int×Int)) (R93:Int→PT) (n95:Int) (x97:Bool):PT :=
 cnd x97 (ixS 2 s86 x91.2 fun (p98:Addr)=>st (Addr.add p98 1) (.int .u32 (IntKind.wrap .u32 ((shlI .u32 (IntKind.wrap .u32 n87) (16:Int))-(shlI .u32 (1:Int) n87))))<|ixS 2 s86 x91.2 fun (p99:Addr)=>st p99 (.int .i32 (IntKind.wrap .i32 (IntKind.wrap .i16 (x91.1-(1:Int)))))<|R93 (IntKind.wrap .i16 (x91.1+(1:Int)))) (callP Tryd.prog 98 #[(.int .u32 (IntKind.wrap .u32 (IntKind.wrap .i16 (n95-(1:Int)))))] [.c (.I .u32)] fun (r100:Int)=>req (0≤(IntKind.wrap .u32 ((IntKind.wrap .u32 n87)-r100)))<|req (0≤(16:Int))<|ixS 2 s86 x91.2 fun (p101:Addr)=>st (Addr.add p101 1) (.int .u32 (IntKind.wrap .u32 ((shlI .u32 (IntKind.wrap .u32 ((IntKind.wrap .u32 n87)-r100)) (16:Int))-(shlI .u32 (IntKind.wrap .u32 n95) (IntKind.wrap .u32 ((IntKind.wrap .u32 n87)-r100))))))<|ixS 2 s86 x91.2 fun (p102:Addr)=>st p102 (.int .i32 (IntKind.wrap .i32 (IntKind.wrap .i16 (x91.1-n95))))<|R93 (IntKind.wrap .i16 (x91.1+n95)))
def q113_J15 (x91:(Int×Int)) (A92:(Int×Int)→PT) (x103:Int):PT :=
 A92 (x103,(IntKind.wrap .i64 (x91.2+(1:Int))))
def q113_L16 (s86:Sl) (n87:Int) (R88:Int→PT) (s90:Sl) (x91:Int×Int) (A92:(Int×Int)→PT):PT :=
 cnd (decide (x91.2<(s90.l:Int))) (joinP (fun R93=>ixS 1 s90 x91.2 fun (p94:Addr)=>ld (.I .i16) p94 fun (n95:Int)=>cnd (decide (n95=(0:Int))) (R93 x91.1) (joinP (fun R96=>cnd (decide (n95=(-1:Int))) (R96 (decide (n95=(-1:Int)))) (R96 (decide (n95=(1:Int))))) (q113_J14 s86 n87 x91 R93 n95))) (q113_J15 x91 A92)) (R88 x91.1)
def q113_J17 (K1:(Value)→PT) (n2:Int) (R83:Unit→PT) (x104:Int):PT :=
 cnd (!decide (x104=(IntKind.wrap .i16 (shlI .u32 (1:Int) n2)))) (callP Tryd.prog 62 #[(.string ⟨#[116,111,116,97,108,32,109,105,115,109,97,116,99,104,32,40,103,111,116,41,32,33,61,32,40,119,97,110,116,41]⟩)] [.c .V] fun (r105:Value)=>K1 r105) (R83 ())
def q113_J18 (K1:(Value)→PT) (x106:Unit):PT :=
 K1 .nilIface
def q113_X19 (p0:Addr) (K1:(Value)→PT) (n2:Int) (R83:Unit→PT):PT :=
 drw<|ld .S (Addr.add (Addr.add p0 521) 2) fun (s84:Sl)=>ld (.I .u16) (Addr.add p0 528) fun (n85:Int)=>slc 2 s84 none (some n85) none fun (s86:Sl)=>ld (.I .u8) (Addr.add p0 529) fun (n87:Int)=>req (0≤(16:Int))<|req (0≤n87)<|joinP (fun R88=>drw<|ld (.I .u16) (Addr.add p0 528) fun (n89:Int)=>slcA 1 256 (Addr.add p0 256) none (some n89) none fun (s90:Sl)=>loopP ((0:Int),(0:Int)) (q113_L16 s86 n87 R88 s90)) (q113_J17 K1 n2 R83)
def q113_J20 (p0:Addr) (K1:(Value)→PT) (n2:Int) (x82:Unit):PT :=
 joinP (q113_X19 p0 K1 n2) (q113_J18 K1)
def q113_J21 (p0:Addr) (K1:(Value)→PT) (n2:Int) (p3:Addr) (s6:Sl) (x69:Unit):PT :=
 ld .S (Addr.add (Addr.add p0 521) 1) fun (s70:Sl)=>joinP (fun R71=>loopP (0:Int) (q113_L13 n2 p3 s6 s70 R71)) (q113_J20 p0 K1 n2)
def q113_X22 (p0:Addr) (K1:(Value)→PT) (n2:Int) (s6:Sl) (x45:(Int)) (R46:Unit→PT):PT :=
 callP Tryd.prog 97 #[(.int .u32 (shlI .u32 (1:Int) n2))] [.c (.I .u32)] fun (r47:Int)=>ld (.I .u8) (Addr.add p0 529) fun (n48:Int)=>req (0≤(IntKind.wrap .u8 (n48-(1:Int))))<|joinP (fun R49=>drw<|ld (.I .u16) (Addr.add p0 528) fun (n50:Int)=>slcA 1 256 (Addr.add p0 256) none (some n50) none fun (s51:Sl)=>loopP ((0:Int),(0:Int)) (q113_L11 p0 n2 s6 x45 r47 n48 R49 s51)) (q113_J12 K1 R46)
def q113_J23 (p0:Addr) (K1:(Value)→PT) (n2:Int) (p3:Addr) (s6:Sl) (x45:Int):PT :=
 st (Addr.add p0 530) (.bool false)<|joinP (q113_X22 p0 K1 n2 s6 x45) (q113_J21 p0 K1 n2 p3 s6)
def q113_X24 (p0:Addr) (K1:(Value)→PT) (n2:Int) (p3:Addr) (s6:Sl) (R7:Int→PT):PT :=
 ixA 1 257 p3 (0:Int) fun (p8:Addr)=>st p8 (.int .i16 (0:Int))<|joinP (fun R9=>drw<|ld (.I .u16) (Addr.add p0 528) fun (n10:Int)=>slcA 1 256 (Addr.add p0 256) none (some (IntKind.wrap .u16 (n10-(1:Int)))) none fun (s11:Sl)=>loopP ((IntKind.wrap .u32 ((shlI .u32 (1:Int) n2)-(1:Int))),(0:Int)) (q113_L2 p3 s6 R9 s11)) (q113_J5 p0 K1 n2 p3 s6 R7)
def q113 (p0:Addr) (K1:(Value)→PT):PT :=
 ld (.I .u8) (Addr.add p0 529) fun (n2:Int)=>req (0≤n2)<|nw z208 208 fun (p3:Addr)=>callP Tryd.prog 137 #[(.pointer (some p0))] [] fun (r4:Unit)=>ld .S (Addr.add p0 521) fun (s5:Sl)=>slc 1 s5 none (some (shlI .u32 (1:Int) n2)) none fun (s6:Sl)=>joinP (q113_X24 p0 K1 n2 p3 s6) (q113_J23 p0 K1 n2 p3 s6)
def h113:Hint:=⟨(.n (.n (.n (.n (.n .e 127 ([(4,.c (.I .u32))],[6,0,3,5]) .e) 509 ([(4,.c (.I .u32))],[5,3,0,6]) .e) 511 ([],[6,5,0,3]) (.n (.n .e 2047 ([],[0,3]) .e) 4074 ([(4,.c (.I .u32)),(58,.c (.I .i64))],[6,5,56,3,0,57]) .e)) 4079 ([(4,.c (.I .u32))],[5,3,0,6]) (.n (.n (.n .e 4095 ([],[]) .e) 16367 ([(14,.c (.I .u32))],[3,0,5,6]) .e) 32595 ([(4,.c (.I .u32))],[58,6,5,56,3,0,57]) (.n .e 32758 ([(216,.c (.I .i64))],[5,20,19,214,0,3,215]) .e))) 130938 ([(14,.c (.I .u32)),(169,.c (.I .i64))],[6,13,12,4,0,15,167,3,5,168]) (.n (.n (.n (.n .e 131055 ([(23,.c (.I .i16))],[3]) .e) 1047507 ([(14,.c (.I .u32))],[169,6,13,12,4,0,15,167,3,5,168]) .e) 1048442 ([(23,.c (.I .i16)),(265,.c (.I .i64))],[25,26,24,263,3,264]) (.n .e 8387539 ([(23,.c (.I .i16))],[265,25,26,24,263,3,264]) .e)) 16760115 ([],[17,4,12,13,14,18,6,169,0,15,167,3,5,168]) (.n (.n (.n .e 134080926 ([(14,.c (.I .u32)),(183,.c (.I .i16))],[4,12,13,18,6,169,0,15,167,3,5,168,182]) .e) 1072647411 ([(14,.c (.I .u32))],[183,4,12,13,18,6,169,0,15,167,3,5,168,182]) .e) 1073605019 ([(303,.c .B)],[28,27,23,265,25,26,24,263,3,264]) (.n .e 34324717158 ([(14,.c (.I .u32))],[13,12,183,4,18,6,169,0,15,167,3,5,168,182]) .e)))),.e⟩
theorem q113_eq (p0:Addr) (K1:(Value)→PT):fnE Cx h113 [.c .V] Tryd.f113 [.pt p0] K1=q113 p0 K1:=by kernel_rfl
theorem q113_fnok:fnOk Tryd.f113 1=true:=by kernel_rfl
theorem q113_ok (p0:Addr) (K1:(Value)→PT) {w:World} (h:q113 p0 K1 w):Calls Tryd.prog 113 #[(.pointer (some p0))] w fun e w'=>∃r,e = .returned (resMk [.c .V] r)∧K1 r w' :=
 of_eq Tryd.func113 q113_fnok (by kernel_rfl) (by kernel_rfl) (q113_eq p0 K1) h
def q114_L0 (p0:Addr) (s5:Sl) (p8:Addr) (p9:Addr) (R54:Unit→PT) (x57:Sl) (A58:Sl→PT):PT :=
 cnd (decide ((4:Int)≤(x57.l:Int))) (callP Tryd.prog 141 #[(.pointer (some (Addr.add p0 518)))] [] fun (r59:Unit)=>drw<|ixS 1 x57 (IntKind.wrap .i64 ((x57.l:Int)-(4:Int))) fun (p60:Addr)=>ld (.I .u8) p60 fun (n61:Int)=>ixS 1 x57 (IntKind.wrap .i64 ((x57.l:Int)-(3:Int))) fun (p62:Addr)=>ld (.I .u8) p62 fun (n63:Int)=>ixS 1 x57 (IntKind.wrap .i64 ((x57.l:Int)-(2:Int))) fun (p64:Addr)=>ld (.I .u8) p64 fun (n65:Int)=>ixS 1 x57 (IntKind.wrap .i64 ((x57.l:Int)-(1:Int))) fun (p66:Addr)=>ld (.I .u8) p66 fun (n67:Int)=>ixS 2 s5 n67 fun (p68:Addr)=>ldL [(.I .i32),(.I .u32)] p68 0 fun (r69:(Int×Int))=>callP Tryd.prog 142 #[(.pointer (some p9)),(.agg ⟨[(.int .i32 r69.1),(.int .u32 r69.2)]⟩)] [] fun (r70:Unit)=>ixS 2 s5 n65 fun (p71:Addr)=>ldL [(.I .i32),(.I .u32)] p71 0 fun (r72:(Int×Int))=>callP Tryd.prog 142 #[(.pointer (some p8)),(.agg ⟨[(.int .i32 r72.1),(.int .u32 r72.2)]⟩)] [] fun (r73:Unit)=>ixS 2 s5 n63 fun (p74:Addr)=>ldL [(.I .i32),(.I .u32)] p74 0 fun (r75:(Int×Int))=>callP Tryd.prog 142 #[(.pointer (some p9)),(.agg ⟨[(.int .i32 r75.1),(.int .u32 r75.2)]⟩)] [] fun (r76:Unit)=>ixS 2 s5 n61 fun (p77:Addr)=>ldL [(.I .i32),(.I .u32)] p77 0 fun (r78:(Int×Int))=>callP Tryd.prog 142 #[(.pointer (some p8)),(.agg ⟨[(.int .i32 r78.1),(.int .u32 r78.2)]⟩)] [] fun (r79:Unit)=>slc 1 x57 none (some (IntKind.wrap .i64 ((x57.l:Int)-(4:Int)))) none fun (s80:Sl)=>A58 s80) (R54 ())
def q114_L1 (p0:Addr) (s5:Sl) (p8:Addr) (p9:Addr) (R54:Unit→PT) (x82:Sl) (A83:Sl→PT):PT :=
 cnd (decide ((4:Int)≤(x82.l:Int))) (callP Tryd.prog 141 #[(.pointer (some (Addr.add p0 518)))] [] fun (r84:Unit)=>drw<|ixS 1 x82 (IntKind.wrap .i64 ((x82.l:Int)-(4:Int))) fun (p85:Addr)=>ld (.I .u8) p85 fun (n86:Int)=>ixS 1 x82 (IntKind.wrap .i64 ((x82.l:Int)-(3:Int))) fun (p87:Addr)=>ld (.I .u8) p87 fun (n88:Int)=>ixS 1 x82 (IntKind.wrap .i64 ((x82.l:Int)-(2:Int))) fun (p89:Addr)=>ld (.I .u8) p89 fun (n90:Int)=>ixS 1 x82 (IntKind.wrap .i64 ((x82.l:Int)-(1:Int))) fun (p91:Addr)=>ld (.I .u8) p91 fun (n92:Int)=>ixS 2 s5 n92 fun (p93:Addr)=>ldL [(.I .i32),(.I .u32)] p93 0 fun (r94:(Int×Int))=>callP Tryd.prog 142 #[(.pointer (some p9)),(.agg ⟨[(.int .i32 r94.1),(.int .u32 r94.2)]⟩)] [] fun (r95:Unit)=>ixS 2 s5 n90 fun (p96:Addr)=>ldL [(.I .i32),(.I .u32)] p96 0 fun (r97:(Int×Int))=>callP Tryd.prog 142 #[(.pointer (some p8)),(.agg ⟨[(.int .i32 r97.1),(.int .u32 r97.2)]⟩)] [] fun (r98:Unit)=>callP Tryd.prog 141 #[(.pointer (some (Addr.add p0 518)))] [] fun (r99:Unit)=>ixS 2 s5 n88 fun (p100:Addr)=>ldL [(.I .i32),(.I .u32)] p100 0 fun (r101:(Int×Int))=>callP Tryd.prog 142 #[(.pointer (some p9)),(.agg ⟨[(.int .i32 r101.1),(.int .u32 r101.2)]⟩)] [] fun (r102:Unit)=>ixS 2 s5 n86 fun (p103:Addr)=>ldL [(.I .i32),(.I .u32)] p103 0 fun (r104:(Int×Int))=>callP Tryd.prog 142 #[(.pointer (some p8)),(.agg ⟨[(.int .i32 r104.1),(.int .u32 r104.2)]⟩)] [] fun (r105:Unit)=>slc 1 x82 none (some (IntKind.wrap .i64 ((x82.l:Int)-(4:Int)))) none fun (s106:Sl)=>A83 s106) (R54 ())
def q114_L2 (p0:Addr) (s5:Sl) (p8:Addr) (p9:Addr) (R54:Unit→PT) (x108:Sl) (A109:Sl→PT):PT :=
 cnd (decide ((4:Int)≤(x108.l:Int))) (callP Tryd.prog 141 #[(.pointer (some (Addr.add p0 518)))] [] fun (r110:Unit)=>drw<|ixS 1 x108 (IntKind.wrap .i64 ((x108.l:Int)-(4:Int))) fun (p111:Addr)=>ld (.I .u8) p111 fun (n112:Int)=>ixS 1 x108 (IntKind.wrap .i64 ((x108.l:Int)-(3:Int))) fun (p113:Addr)=>ld (.I .u8) p113 fun (n114:Int)=>ixS 1 x108 (IntKind.wrap .i64 ((x108.l:Int)-(2:Int))) fun (p115:Addr)=>ld (.I .u8) p115 fun (n116:Int)=>ixS 1 x108 (IntKind.wrap .i64 ((x108.l:Int)-(1:Int))) fun (p117:Addr)=>ld (.I .u8) p117 fun (n118:Int)=>ixS 2 s5 n118 fun (p119:Addr)=>ldL [(.I .i32),(.I .u32)] p119 0 fun (r120:(Int×Int))=>callP Tryd.prog 140 #[(.pointer (some p9)),(.agg ⟨[(.int .i32 r120.1),(.int .u32 r120.2)]⟩)] [] fun (r121:Unit)=>ixS 2 s5 n116 fun (p122:Addr)=>ldL [(.I .i32),(.I .u32)] p122 0 fun (r123:(Int×Int))=>callP Tryd.prog 140 #[(.pointer (some p8)),(.agg ⟨[(.int .i32 r123.1),(.int .u32 r123.2)]⟩)] [] fun (r124:Unit)=>ixS 2 s5 n114 fun (p125:Addr)=>ldL [(.I .i32),(.I .u32)] p125 0 fun (r126:(Int×Int))=>callP Tryd.prog 140 #[(.pointer (some p9)),(.agg ⟨[(.int .i32 r126.1),(.int .u32 r126.2)]⟩)] [] fun (r127:Unit)=>ixS 2 s5 n112 fun (p128:Addr)=>ldL [(.I .i32),(.I .u32)] p128 0 fun (r129:(Int×Int))=>callP Tryd.prog 140 #[(.pointer (some p8)),(.agg ⟨[(.int .i32 r129.1),(.int .u32 r129.2)]⟩)] [] fun (r130:Unit)=>slc 1 x108 none (some (IntKind.wrap .i64 ((x108.l:Int)-(4:Int)))) none fun (s131:Sl)=>A109 s131) (R54 ())
def q114_L3 (p0:Addr) (s5:Sl) (p8:Addr) (p9:Addr) (R54:Unit→PT) (x132:Sl) (A133:Sl→PT):PT :=
 cnd (decide ((4:Int)≤(x132.l:Int))) (callP Tryd.prog 141 #[(.pointer (some (Addr.add p0 518)))] [] fun (r134:Unit)=>drw<|ixS 1 x132 (IntKind.wrap .i64 ((x132.l:Int)-(4:Int))) fun (p135:Addr)=>ld (.I .u8) p135 fun (n136:Int)=>ixS 1 x132 (IntKind.wrap .i64 ((x132.l:Int)-(3:Int))) fun (p137:Addr)=>ld (.I .u8) p137 fun (n138:Int)=>ixS 1 x132 (IntKind.wrap .i64 ((x132.l:Int)-(2:Int))) fun (p139:Addr)=>ld (.I .u8) p139 fun (n140:Int)=>ixS 1 x132 (IntKind.wrap .i64 ((x132.l:Int)-(1:Int))) fun (p141:Addr)=>ld (.I .u8) p141 fun (n142:Int)=>ixS 2 s5 n142 fun (p143:Addr)=>ldL [(.I .i32),(.I .u32)] p143 0 fun (r144:(Int×Int))=>callP Tryd.prog 140 #[(.pointer (some p9)),(.agg ⟨[(.int .i32 r144.1),(.int .u32 r144.2)]⟩)] [] fun (r145:Unit)=>ixS 2 s5 n140 fun (p146:Addr)=>ldL [(.I .i32),(.I .u32)] p146 0 fun (r147:(Int×Int))=>callP Tryd.prog 140 #[(.pointer (some p8)),(.agg ⟨[(.int .i32 r147.1),(.int .u32 r147.2)]⟩)] [] fun (r148:Unit)=>callP Tryd.prog 141 #[(.pointer (some (Addr.add p0 518)))] [] fun (r149:Unit)=>ixS 2 s5 n138 fun (p150:Addr)=>ldL [(.I .i32),(.I .u32)] p150 0 fun (r151:(Int×Int))=>callP Tryd.prog 140 #[(.pointer (some p9)),(.agg ⟨[(.int .i32 r151.1),(.int .u32 r151.2)]⟩)] [] fun (r152:Unit)=>ixS 2 s5 n136 fun (p153:Addr)=>ldL [(.I .i32),(.I .u32)] p153 0 fun (r154:(Int×Int))=>callP Tryd.prog 140 #[(.pointer (some p8)),(.agg ⟨[(.int .i32 r154.1),(.int .u32 r154.2)]⟩)] [] fun (r155:Unit)=>slc 1 x132 none (some (IntKind.wrap .i64 ((x132.l:Int)-(4:Int)))) none fun (s156:Sl)=>A133 s156) (R54 ())
def q114_L4 (p0:Addr) (s5:Sl) (p8:Addr) (p9:Addr) (R54:Unit→PT) (x158:Sl) (A159:Sl→PT):PT :=
 cnd (decide ((4:Int)≤(x158.l:Int))) (callP Tryd.prog 141 #[(.pointer (some (Addr.add p0 518)))] [] fun (r160:Unit)=>drw<|ixS 1 x158 (IntKind.wrap .i64 ((x158.l:Int)-(4:Int))) fun (p161:Addr)=>ld (.I .u8) p161 fun (n162:Int)=>ixS 1 x158 (IntKind.wrap .i64 ((x158.l:Int)-(3:Int))) fun (p163:Addr)=>ld (.I .u8) p163 fun (n164:Int)=>ixS 1 x158 (IntKind.wrap .i64 ((x158.l:Int)-(2:Int))) fun (p165:Addr)=>ld (.I .u8) p165 fun (n166:Int)=>ixS 1 x158 (IntKind.wrap .i64 ((x158.l:Int)-(1:Int))) fun (p167:Addr)=>ld (.I .u8) p167 fun (n168:Int)=>ixS 2 s5 n168 fun (p169:Addr)=>ldL [(.I .i32),(.I .u32)] p169 0 fun (r170:(Int×Int))=>callP Tryd.prog 142 #[(.pointer (some p9)),(.agg ⟨[(.int .i32 r170.1),(.int .u32 r170.2)]⟩)] [] fun (r171:Unit)=>ixS 2 s5 n166 fun (p172:Addr)=>ldL [(.I .i32),(.I .u32)] p172 0 fun (r173:(Int×Int))=>callP Tryd.prog 142 #[(.pointer (some p8)),(.agg ⟨[(.int .i32 r173.1),(.int .u32 r173.2)]⟩)] [] fun (r174:Unit)=>callP Tryd.prog 141 #[(.pointer (some (Addr.add p0 518)))] [] fun (r175:Unit)=>ixS 2 s5 n164 fun (p176:Addr)=>ldL [(.I .i32),(.I .u32)] p176 0 fun (r177:(Int×Int))=>callP Tryd.prog 142 #[(.pointer (some p9)),(.agg ⟨[(.int .i32 r177.1),(.int .u32 r177.2)]⟩)] [] fun (r178:Unit)=>ixS 2 s5 n162 fun (p179:Addr)=>ldL [(.I .i32),(.I .u32)] p179 0 fun (r180:(Int×Int))=>callP Tryd.prog 142 #[(.pointer (some p8)),(.agg ⟨[(.int .i32 r180.1),(.int .u32 r180.2)]⟩)] [] fun (r181:Unit)=>slc 1 x158 none (some (IntKind.wrap .i64 ((x158.l:Int)-(4:Int)))) none fun (s182:Sl)=>A159 s182) (R54 ())
def q114_L5 (p0:Addr) (s5:Sl) (p8:Addr) (p9:Addr) (R54:Unit→PT) (x184:Sl) (A185:Sl→PT):PT :=
 cnd (decide ((4:Int)≤(x184.l:Int))) (callP Tryd.prog 141 #[(.pointer (some (Addr.add p0 518)))] [] fun (r186:Unit)=>drw<|ixS 1 x184 (IntKind.wrap .i64 ((x184.l:Int)-(4:Int))) fun (p187:Addr)=>ld (.I .u8) p187 fun (n188:Int)=>ixS 1 x184 (IntKind.wrap .i64 ((x184.l:Int)-(3:Int))) fun (p189:Addr)=>ld (.I .u8) p189 fun (n190:Int)=>ixS 1 x184 (IntKind.wrap .i64 ((x184.l:Int)-(2:Int))) fun (p191:Addr)=>ld (.I .u8) p191 fun (n192:Int)=>ixS 1 x184 (IntKind.wrap .i64 ((x184.l:Int)-(1:Int))) fun (p193:Addr)=>ld (.I .u8) p193 fun (n194:Int)=>ixS 2 s5 n194 fun (p195:Addr)=>ldL [(.I .i32),(.I .u32)] p195 0 fun (r196:(Int×Int))=>callP Tryd.prog 140 #[(.pointer (some p9)),(.agg ⟨[(.int .i32 r196.1),(.int .u32 r196.2)]⟩)] [] fun (r197:Unit)=>ixS 2 s5 n192 fun (p198:Addr)=>ldL [(.I .i32),(.I .u32)] p198 0 fun (r199:(Int×Int))=>callP Tryd.prog 140 #[(.pointer (some p8)),(.agg ⟨[(.int .i32 r199.1),(.int .u32 r199.2)]⟩)] [] fun (r200:Unit)=>ixS 2 s5 n190 fun (p201:Addr)=>ldL [(.I .i32),(.I .u32)] p201 0 fun (r202:(Int×Int))=>callP Tryd.prog 140 #[(.pointer (some p9)),(.agg ⟨[(.int .i32 r202.1),(.int .u32 r202.2)]⟩)] [] fun (r203:Unit)=>ixS 2 s5 n188 fun (p204:Addr)=>ldL [(.I .i32),(.I .u32)] p204 0 fun (r205:(Int×Int))=>callP Tryd.prog 140 #[(.pointer (some p8)),(.agg ⟨[(.int .i32 r205.1),(.int .u32 r205.2)]⟩)] [] fun (r206:Unit)=>slc 1 x184 none (some (IntKind.wrap .i64 ((x184.l:Int)-(4:Int)))) none fun (s207:Sl)=>A185 s207) (R54 ())
def q114_L6 (p0:Addr) (s5:Sl) (p8:Addr) (p9:Addr) (R54:Unit→PT) (x208:Sl) (A209:Sl→PT):PT :=
 cnd (decide ((4:Int)≤(x208.l:Int))) (callP Tryd.prog 141 #[(.pointer (some (Addr.add p0 518)))] [] fun (r210:Unit)=>drw<|ixS 1 x208 (IntKind.wrap .i64 ((x208.l:Int)-(4:Int))) fun (p211:Addr)=>ld (.I .u8) p211 fun (n212:Int)=>ixS 1 x208 (IntKind.wrap .i64 ((x208.l:Int)-(3:Int))) fun (p213:Addr)=>ld (.I .u8) p213 fun (n214:Int)=>ixS 1 x208 (IntKind.wrap .i64 ((x208.l:Int)-(2:Int))) fun (p215:Addr)=>ld (.I .u8) p215 fun (n216:Int)=>ixS 1 x208 (IntKind.wrap .i64 ((x208.l:Int)-(1:Int))) fun (p217:Addr)=>ld (.I .u8) p217 fun (n218:Int)=>ixS 2 s5 n218 fun (p219:Addr)=>ldL [(.I .i32),(.I .u32)] p219 0 fun (r220:(Int×Int))=>callP Tryd.prog 140 #[(.pointer (some p9)),(.agg ⟨[(.int .i32 r220.1),(.int .u32 r220.2)]⟩)] [] fun (r221:Unit)=>ixS 2 s5 n216 fun (p222:Addr)=>ldL [(.I .i32),(.I .u32)] p222 0 fun (r223:(Int×Int))=>callP Tryd.prog 140 #[(.pointer (some p8)),(.agg ⟨[(.int .i32 r223.1),(.int .u32 r223.2)]⟩)] [] fun (r224:Unit)=>callP Tryd.prog 141 #[(.pointer (some (Addr.add p0 518)))] [] fun (r225:Unit)=>ixS 2 s5 n214 fun (p226:Addr)=>ldL [(.I .i32),(.I .u32)] p226 0 fun (r227:(Int×Int))=>callP Tryd.prog 140 #[(.pointer (some p9)),(.agg ⟨[(.int .i32 r227.1),(.int .u32 r227.2)]⟩)] [] fun (r228:Unit)=>ixS 2 s5 n212 fun (p229:Addr)=>ldL [(.I .i32),(.I .u32)] p229 0 fun (r230:(Int×Int))=>callP Tryd.prog 140 #[(.pointer (some p8)),(.agg ⟨[(.int .i32 r230.1),(.int .u32 r230.2)]⟩)] [] fun (r231:Unit)=>slc 1 x208 none (some (IntKind.wrap .i64 ((x208.l:Int)-(4:Int)))) none fun (s232:Sl)=>A209 s232) (R54 ())
def q114_J7 (p0:Addr) (K2:(Value)→PT) (p8:Addr) (p9:Addr) (x233:Unit):PT :=
 ld (.I .u8) (Addr.add p0 529) fun (n234:Int)=>callP Tryd.prog 143 #[(.pointer (some p9)),(.int .u8 n234)] [] fun (r235:Unit)=>ld (.I .u8) (Addr.add p0 529) fun (n236:Int)=>callP Tryd.prog 143 #[(.pointer (some p8)),(.int .u8 n236)] [] fun (r237:Unit)=>callP Tryd.prog 144 #[(.pointer (some (Addr.add p0 518)))] [] fun (r238:Unit)=>K2 .nilIface
def q114_X8 (p0:Addr) (s5:Sl) (p8:Addr) (p9:Addr) (s53:Sl) (R54:Unit→PT):PT :=
 ld .B (Addr.add p0 530) fun (b55:Bool)=>cnd (!b55) (ld (.I .u8) (Addr.add p0 529) fun (n56:Int)=>cnd (decide (n56≤(8:Int))) (loopP s53 (q114_L0 p0 s5 p8 p9 R54)) (ld .B (Addr.add p0 530) fun (b81:Bool)=>cnd (!b81) (loopP s53 (q114_L1 p0 s5 p8 p9 R54)) (ld (.I .u8) (Addr.add p0 529) fun (n107:Int)=>cnd (decide (n107≤(8:Int))) (loopP s53 (q114_L2 p0 s5 p8 p9 R54)) (loopP s53 (q114_L3 p0 s5 p8 p9 R54))))) (ld .B (Addr.add p0 530) fun (b157:Bool)=>cnd (!b157) (loopP s53 (q114_L4 p0 s5 p8 p9 R54)) (ld (.I .u8) (Addr.add p0 529) fun (n183:Int)=>cnd (decide (n183≤(8:Int))) (loopP s53 (q114_L5 p0 s5 p8 p9 R54)) (loopP s53 (q114_L6 p0 s5 p8 p9 R54))))
def q114_J9 (p0:Addr) (s1:Sl) (K2:(Value)→PT) (s5:Sl) (p8:Addr) (p9:Addr) (x52:Int):PT :=
 slc 1 s1 none (some x52) none fun (s53:Sl)=>joinP (q114_X8 p0 s5 p8 p9 s53) (q114_J7 p0 K2 p8 p9)
def q114_X10 (s1:Sl) (s5:Sl) (p8:Addr) (p9:Addr) (x40:(Int)) (R41:Int→PT):PT :=
 cnd (!decide ((andI .i64 x40 (2:Int))=(0:Int))) (ixS 1 s1 (IntKind.wrap .i64 (x40-(1:Int))) fun (p42:Addr)=>ld (.I .u8) p42 fun (n43:Int)=>ixS 2 s5 n43 fun (p44:Addr)=>ldL [(.I .i32),(.I .u32)] p44 0 fun (r45:(Int×Int))=>callP Tryd.prog 140 #[(.pointer (some p9)),(.agg ⟨[(.int .i32 r45.1),(.int .u32 r45.2)]⟩)] [] fun (r46:Unit)=>ixS 1 s1 (IntKind.wrap .i64 (x40-(2:Int))) fun (p47:Addr)=>ld (.I .u8) p47 fun (n48:Int)=>ixS 2 s5 n48 fun (p49:Addr)=>ldL [(.I .i32),(.I .u32)] p49 0 fun (r50:(Int×Int))=>callP Tryd.prog 140 #[(.pointer (some p8)),(.agg ⟨[(.int .i32 r50.1),(.int .u32 r50.2)]⟩)] [] fun (r51:Unit)=>R41 (IntKind.wrap .i64 (x40-(2:Int)))) (R41 x40)
def q114_J11 (p0:Addr) (s1:Sl) (K2:(Value)→PT) (s5:Sl) (p8:Addr) (p9:Addr) (x40:Int):PT :=
 joinP (q114_X10 s1 s5 p8 p9 x40) (q114_J9 p0 s1 K2 s5 p8 p9)
def q114_X12 (p0:Addr) (s1:Sl) (s5:Sl) (p8:Addr) (p9:Addr) (R10:Int→PT):PT :=
 cnd (decide ((andI .i64 (s1.l:Int) (1:Int))=(1:Int))) (drw<|ld (.I .u8) (Addr.add p0 529) fun (n11:Int)=>ixS 1 s1 (IntKind.wrap .i64 ((s1.l:Int)-(1:Int))) fun (p12:Addr)=>ld (.I .u8) p12 fun (n13:Int)=>ixS 2 s5 n13 fun (p14:Addr)=>ldL [(.I .i32),(.I .u32)] p14 0 fun (r15:(Int×Int))=>callP Tryd.prog 139 #[(.pointer (some p8)),(.pointer (some (Addr.add p0 518))),(.pointer (some (Addr.add p0 521))),(.int .u8 n11),(.agg ⟨[(.int .i32 r15.1),(.int .u32 r15.2)]⟩)] [] fun (r16:Unit)=>drw<|ld (.I .u8) (Addr.add p0 529) fun (n17:Int)=>ixS 1 s1 (IntKind.wrap .i64 ((s1.l:Int)-(2:Int))) fun (p18:Addr)=>ld (.I .u8) p18 fun (n19:Int)=>ixS 2 s5 n19 fun (p20:Addr)=>ldL [(.I .i32),(.I .u32)] p20 0 fun (r21:(Int×Int))=>callP Tryd.prog 139 #[(.pointer (some p9)),(.pointer (some (Addr.add p0 518))),(.pointer (some (Addr.add p0 521))),(.int .u8 n17),(.agg ⟨[(.int .i32 r21.1),(.int .u32 r21.2)]⟩)] [] fun (r22:Unit)=>ixS 1 s1 (IntKind.wrap .i64 ((s1.l:Int)-(3:Int))) fun (p23:Addr)=>ld (.I .u8) p23 fun (n24:Int)=>ixS 2 s5 n24 fun (p25:Addr)=>ldL [(.I .i32),(.I .u32)] p25 0 fun (r26:(Int×Int))=>callP Tryd.prog 140 #[(.pointer (some p8)),(.agg ⟨[(.int .i32 r26.1),(.int .u32 r26.2)]⟩)] [] fun (r27:Unit)=>R10 (IntKind.wrap .i64 ((s1.l:Int)-(3:Int)))) (drw<|ld (.I .u8) (Addr.add p0 529) fun (n28:Int)=>ixS 1 s1 (IntKind.wrap .i64 ((s1.l:Int)-(1:Int))) fun (p29:Addr)=>ld (.I .u8) p29 fun (n30:Int)=>ixS 2 s5 n30 fun (p31:Addr)=>ldL [(.I .i32),(.I .u32)] p31 0 fun (r32:(Int×Int))=>callP Tryd.prog 139 #[(.pointer (some p9)),(.pointer (some (Addr.add p0 518))),(.pointer (some (Addr.add p0 521))),(.int .u8 n28),(.agg ⟨[(.int .i32 r32.1),(.int .u32 r32.2)]⟩)] [] fun (r33:Unit)=>drw<|ld (.I .u8) (Addr.add p0 529) fun (n34:Int)=>ixS 1 s1 (IntKind.wrap .i64 ((s1.l:Int)-(2:Int))) fun (p35:Addr)=>ld (.I .u8) p35 fun (n36:Int)=>ixS 2 s5 n36 fun (p37:Addr)=>ldL [(.I .i32),(.I .u32)] p37 0 fun (r38:(Int×Int))=>callP Tryd.prog 139 #[(.pointer (some p8)),(.pointer (some (Addr.add p0 518))),(.pointer (some (Addr.add p0 521))),(.int .u8 n34),(.agg ⟨[(.int .i32 r38.1),(.int .u32 r38.2)]⟩)] [] fun (r39:Unit)=>R10 (IntKind.wrap .i64 ((s1.l:Int)-(2:Int))))
def q114 (p0:Addr) (s1:Sl) (K2:(Value)→PT):PT :=
 cnd (decide ((s1.l:Int)≤(2:Int))) (callP Tryd.prog 62 #[(.string ⟨#[99,111,109,112,114,101,115,115,58,32,115,114,99,32,116,111,111,32,115,109,97,108,108]⟩)] [.c .V] fun (r3:Value)=>K2 r3) (ld .S (Addr.add (Addr.add p0 521) 2) fun (s4:Sl)=>slc 2 s4 none (some (256:Int)) none fun (s5:Sl)=>drw<|ld .S (Addr.add p0 526) fun (s6:Sl)=>callP Tryd.prog 138 #[(.pointer (some (Addr.add p0 518))),(.slice s6.a s6.l s6.c)] [] fun (r7:Unit)=>nw z213 213 fun (p8:Addr)=>nw z213 213 fun (p9:Addr)=>joinP (q114_X12 p0 s1 s5 p8 p9) (q114_J11 p0 s1 K2 s5 p8 p9))
def h114:Hint:=⟨(.n (.n (.n (.n .e 127 ([(8,.c (.I .i64))],[1,6,5,7,0]) .e) 255 ([(8,.c (.I .i64))],[1,6,5,7,0]) .e) 1023 ([],[7,6,0]) (.n (.n .e 32740 ([(1,.c .S)],[6,5,7,0]) .e) 130972 ([(1,.c .S)],[6,5,7,0]) .e)) 130972 ([(1,.c .S)],[6,5,7,0]) (.n (.n (.n .e 523900 ([(1,.c .S)],[6,5,7,0]) .e) 523900 ([(1,.c .S)],[6,5,7,0]) .e) 523902 ([(1,.c .S)],[6,5,7,0]) (.n .e 523902 ([(1,.c .S)],[6,5,7,0]) .e))),.e⟩
theorem q114_eq (p0:Addr) (s1:Sl) (K2:(Value)→PT):fnE Cx h114 [.c .V] Tryd.f114 [.pt p0,.v (.slice s1.a s1.l s1.c)] K2=q114 p0 s1 K2:=by kernel_rfl
theorem q114_fnok:fnOk Tryd.f114 2=true:=by kernel_rfl
theorem q114_ok (p0:Addr) (s1:Sl) (K2:(Value)→PT) {w:World} (h:q114 p0 s1 K2 w):Calls Tryd.prog 114 #[(.pointer (some p0)),(.slice s1.a s1.l s1.c)] w fun e w'=>∃r,e = .returned (resMk [.c .V] r)∧K2 r w' :=
 of_eq Tryd.func114 q114_fnok (by kernel_rfl) (by kernel_rfl) (q114_eq p0 s1 K2) h
def q115_L0 (s0:Sl) (R17:Int×Int→PT) (x18:Int×Int) (A19:(Int×Int)→PT):PT :=
 ixS 1 s0 (IntKind.wrap .i64 (x18.1+(1:Int))) fun (p20:Addr)=>ld (.I .i64) p20 fun (n21:Int)=>cnd (decide (n21=(0:Int))) (A19 ((IntKind.wrap .i64 (x18.1+(1:Int))),(IntKind.wrap .i64 (x18.2+(1:Int))))) (R17 (x18.1,x18.2))
def q115_L1 (R23:Sl×Int→PT) (x24:Sl×Int) (A25:(Sl×Int)→PT):PT :=
 cnd (decide ((3:Int)≤x24.2)) (callP Tryd.prog 146 #[(.slice x24.1.a x24.1.l x24.1.c),(.int .i64 (3:Int)),(.int .i64 (2:Int))] [.c .S] fun (r26:Sl)=>A25 (r26,(IntKind.wrap .i64 (x24.2-(3:Int))))) (R23 (x24.1,x24.2))
def q115_J2 (x6:(Sl×Int×Int)) (R8:Sl×Int×Int→PT) (n10:Int) (x22:(Int×Int)) (x27:Sl×Int):PT :=
 callP Tryd.prog 146 #[(.slice x27.1.a x27.1.l x27.1.c),(.int .i64 x27.2),(.int .i64 (2:Int))] [.c .S] fun (r28:Sl)=>R8 (r28,(IntKind.wrap .i64 (x6.2.1-(maxI n10 (IntKind.wrap .i64 (0-n10))))),x22.1)
def q115_J3 (x6:(Sl×Int×Int)) (R8:Sl×Int×Int→PT) (n10:Int) (x16:(Sl)) (x22:Int×Int):PT :=
 joinP (fun R23=>loopP (x16,x22.2) (q115_L1 R23)) (q115_J2 x6 R8 n10 x22)
def q115_J4 (s0:Sl) (x6:(Sl×Int×Int)) (R8:Sl×Int×Int→PT) (n10:Int) (x16:Sl):PT :=
 cnd (!decide (n10=(0:Int))) (R8 (x16,(IntKind.wrap .i64 (x6.2.1-(maxI n10 (IntKind.wrap .i64 (0-n10))))),x6.2.2)) (joinP (fun R17=>loopP (x6.2.2,(0:Int)) (q115_L0 s0 R17)) (q115_J3 x6 R8 n10 x16))
def q115_X5 (x6:(Sl×Int×Int)) (n10:Int) (r11:Int) (R12:Sl→PT):PT :=
 cnd (decide ((IntKind.wrap .i64 (n10+(1:Int)))<(IntKind.wrap .i64 ((IntKind.wrap .i64 ((shlI .i64 (1:Int) (IntKind.wrap .i64 (r11+(1:Int))))-(1:Int)))-(IntKind.wrap .i64 (x6.2.1+(1:Int))))))) (callP Tryd.prog 146 #[(.slice x6.1.a x6.1.l x6.1.c),(.int .i64 (IntKind.wrap .i64 (n10+(1:Int)))),(.int .i64 (IntKind.wrap .i64 ((IntKind.wrap .i64 (r11+(1:Int)))-(1:Int))))] [.c .S] fun (r13:Sl)=>R12 r13) (req (0≤(IntKind.wrap .i64 ((IntKind.wrap .i64 (r11+(1:Int)))-(1:Int))))<|cnd (decide ((IntKind.wrap .i64 (n10+(1:Int)))<(shlI .i64 (1:Int) (IntKind.wrap .i64 ((IntKind.wrap .i64 (r11+(1:Int)))-(1:Int)))))) (callP Tryd.prog 146 #[(.slice x6.1.a x6.1.l x6.1.c),(.int .i64 (IntKind.wrap .i64 (n10+(1:Int)))),(.int .i64 (IntKind.wrap .i64 (r11+(1:Int))))] [.c .S] fun (r14:Sl)=>R12 r14) (callP Tryd.prog 146 #[(.slice x6.1.a x6.1.l x6.1.c),(.int .i64 (IntKind.wrap .i64 ((IntKind.wrap .i64 (n10+(1:Int)))+(IntKind.wrap .i64 ((IntKind.wrap .i64 ((shlI .i64 (1:Int) (IntKind.wrap .i64 (r11+(1:Int))))-(1:Int)))-(IntKind.wrap .i64 (x6.2.1+(1:Int)))))))),(.int .i64 (IntKind.wrap .i64 (r11+(1:Int))))] [.c .S] fun (r15:Sl)=>R12 r15))
def q115_J6 (A7:(Sl×Int×Int)→PT) (x29:Sl×Int×Int):PT :=
 A7 (x29.1,x29.2.1,(IntKind.wrap .i64 (x29.2.2+(1:Int))))
def q115_L7 (s0:Sl) (R5:Sl→PT) (x6:Sl×Int×Int) (A7:(Sl×Int×Int)→PT):PT :=
 cnd (decide ((0:Int)<x6.2.1)) (joinP (fun R8=>ixS 1 s0 x6.2.2 fun (p9:Addr)=>ld (.I .i64) p9 fun (n10:Int)=>callP Tryd.prog 44 #[(.int .i64 (IntKind.wrap .i64 (x6.2.1+(1:Int))))] [.c (.I .i64)] fun (r11:Int)=>req (0≤(IntKind.wrap .i64 (r11+(1:Int))))<|joinP (q115_X5 x6 n10 r11) (q115_J4 s0 x6 R8 n10)) (q115_J6 A7)) (R5 x6.1)
def q115_J8 (K2:(Sl×Bool)→PT) (x30:Sl):PT :=
 K2 (x30,true)
def q115 (s0:Sl) (n1:Int) (K2:(Sl×Bool)→PT):PT :=
 callP Tryd.prog 145 #[(.slice s0.a s0.l s0.c),(.int .i64 n1)] [.c .B] fun (r3:Bool)=>cnd (!r3) (K2 (⟨none,0,0⟩,false)) (callP Tryd.prog 146 #[(.slice none 0 0),(.int .i64 (IntKind.wrap .i64 (n1-(5:Int)))),(.int .i64 (4:Int))] [.c .S] fun (r4:Sl)=>req (0≤n1)<|joinP (fun R5=>loopP (r4,(shlI .i64 (1:Int) n1),(0:Int)) (q115_L7 s0 R5)) (q115_J8 K2))
def h115:Hint:=⟨(.n (.n (.n (.n .e 31 ([(6,.c .S)],[]) .e) 250 ([(6,.c .S),(7,.c (.I .i64)),(8,.c (.I .i64))],[0]) .e) 1001 ([(6,.c .S),(7,.c (.I .i64)),(8,.c (.I .i64))],[0]) (.n .e 128159 ([(6,.c .S)],[7,9,8,0]) .e)) 2050559 ([(8,.c (.I .i64)),(14,.c (.I .i64))],[6,0,7]) (.n (.n .e 4101119 ([(6,.c .S),(14,.c (.I .i64))],[8,0,7]) .e) 8202236 ([(8,.c (.I .i64)),(14,.c (.I .i64))],[6,0,7]) (.n .e 16404476 ([(6,.c .S),(14,.c (.I .i64))],[8,0,7]) .e))),.e⟩
theorem q115_eq (s0:Sl) (n1:Int) (K2:(Sl×Bool)→PT):fnE Cx h115 [.c .S,.c .B] Tryd.f115 [.v (.slice s0.a s0.l s0.c),.v (.int .i64 n1)] K2=q115 s0 n1 K2:=by kernel_rfl
theorem q115_fnok:fnOk Tryd.f115 2=true:=by kernel_rfl
theorem q115_ok (s0:Sl) (n1:Int) (K2:(Sl×Bool)→PT) {w:World} (h:q115 s0 n1 K2 w):Calls Tryd.prog 115 #[(.slice s0.a s0.l s0.c),(.int .i64 n1)] w fun e w'=>∃r,e = .returned (resMk [.c .S,.c .B] r)∧K2 r w' :=
 of_eq Tryd.func115 q115_fnok (by kernel_rfl) (by kernel_rfl) (q115_eq s0 n1 K2) h
def q116_L0 (n1:Int) (R4:Sl→PT) (x5:Sl×Int) (A6:(Sl×Int)→PT):PT :=
 cnd (decide ((0:Int)≤x5.2)) (req (0≤x5.2)<|nw [(.int .i64 (andI .i64 (shrI .i64 n1 x5.2) (1:Int)))] 3 fun (p7:Addr)=>app z3 3 8 x5.1 ⟨(some p7),1,1⟩ fun (s8:Sl)=>A6 (s8,(IntKind.wrap .i64 (x5.2-(1:Int))))) (R4 x5.1)
def q116_J1 (K3:Sl→PT) (x9:Sl):PT :=
 K3 x9
def q116 (s0:Sl) (n1:Int) (n2:Int) (K3:Sl→PT):PT :=
 joinP (fun R4=>loopP (s0,(IntKind.wrap .i64 (n2-(1:Int)))) (q116_L0 n1 R4)) (q116_J1 K3)
def h116:Hint:=⟨(.n (.n .e 3 ([(0,.c .S)],[]) .e) 26 ([(0,.c .S),(7,.c (.I .i64))],[1]) .e),.e⟩
theorem q116_eq (s0:Sl) (n1:Int) (n2:Int) (K3:Sl→PT):fnE Cx h116 [.c .S] Tryd.f116 [.v (.slice s0.a s0.l s0.c),.v (.int .i64 n1),.v (.int .i64 n2)] K3=q116 s0 n1 n2 K3:=by kernel_rfl
theorem q116_fnok:fnOk Tryd.f116 3=true:=by kernel_rfl
theorem q116_ok (s0:Sl) (n1:Int) (n2:Int) (K3:Sl→PT) {w:World} (h:q116 s0 n1 n2 K3 w):Calls Tryd.prog 116 #[(.slice s0.a s0.l s0.c),(.int .i64 n1),(.int .i64 n2)] w fun e w'=>∃r,e = .returned (resMk [.c .S] r)∧K3 r w' :=
 of_eq Tryd.func116 q116_fnok (by kernel_rfl) (by kernel_rfl) (q116_eq s0 n1 n2 K3) h
def q131 (p0:Addr) (K1:Unit→PT):PT :=
 drw<|ldL [] ⟨7,0,none⟩ 0 fun (r2:(Unit))=>ld .S p0 fun (s3:Sl)=>ld (.I .u64) (Addr.add p0 1) fun (n4:Int)=>slc 1 s3 (some (IntKind.wrap .u64 (n4-(8:Int)))) none none fun (s5:Sl)=>callP Tryd.prog 155 #[(.agg ⟨[]⟩),(.slice s5.a s5.l s5.c)] [.c (.I .u64)] fun (r6:Int)=>st (Addr.add p0 2) (.int .u64 r6)<|st (Addr.add p0 3) (.int .u8 (0:Int))<|ld (.I .u64) (Addr.add p0 1) fun (n7:Int)=>st (Addr.add p0 1) (.int .u64 (IntKind.wrap .u64 (n7-(8:Int))))<|K1 ()
def h131:Hint:=⟨.e,.e⟩
theorem q131_eq (p0:Addr) (K1:Unit→PT):fnE Cx h131 [] Tryd.f131 [.pt p0] K1=q131 p0 K1:=by kernel_rfl
theorem q131_fnok:fnOk Tryd.f131 1=true:=by kernel_rfl
theorem q131_ok (p0:Addr) (K1:Unit→PT) {w:World} (h:q131 p0 K1 w):Calls Tryd.prog 131 #[(.pointer (some p0))] w fun e w'=>∃r,e = .returned (resMk [] r)∧K1 r w' :=
 of_eq Tryd.func131 q131_fnok (by kernel_rfl) (by kernel_rfl) (q131_eq p0 K1) h
def q132 (p0:Addr) (n1:Int) (K2:Int→PT):PT :=
 cnd (decide (n1=(0:Int))) (K2 (0:Int)) (ld (.I .u8) (Addr.add p0 3) fun (n3:Int)=>cnd (decide ((64:Int)≤n3)) (K2 (0:Int)) (callP Tryd.prog 133 #[(.pointer (some p0)),(.int .u8 n1)] [.c (.I .u16)] fun (r4:Int)=>K2 r4))
def h132:Hint:=⟨.e,.e⟩
theorem q132_eq (p0:Addr) (n1:Int) (K2:Int→PT):fnE Cx h132 [.c (.I .u16)] Tryd.f132 [.pt p0,.v (.int .u8 n1)] K2=q132 p0 n1 K2:=by kernel_rfl
theorem q132_fnok:fnOk Tryd.f132 2=true:=by kernel_rfl
theorem q132_ok (p0:Addr) (n1:Int) (K2:Int→PT) {w:World} (h:q132 p0 n1 K2 w):Calls Tryd.prog 132 #[(.pointer (some p0)),(.int .u8 n1)] w fun e w'=>∃r,e = .returned (resMk [.c (.I .u16)] r)∧K2 r w' :=
 of_eq Tryd.func132 q132_fnok (by kernel_rfl) (by kernel_rfl) (q132_eq p0 n1 K2) h
def q133 (p0:Addr) (n1:Int) (K2:Int→PT):PT :=
 drw<|ld (.I .u64) (Addr.add p0 2) fun (n3:Int)=>ld (.I .u8) (Addr.add p0 3) fun (n4:Int)=>req (0≤(andI .u8 n4 (63:Int)))<|req (0≤(andI .u8 (IntKind.wrap .u8 ((64:Int)-n1)) (63:Int)))<|ld (.I .u8) (Addr.add p0 3) fun (n5:Int)=>st (Addr.add p0 3) (.int .u8 (IntKind.wrap .u8 (n5+n1)))<|K2 (IntKind.wrap .u16 (shrI .u64 (shlI .u64 n3 (andI .u8 n4 (63:Int))) (andI .u8 (IntKind.wrap .u8 ((64:Int)-n1)) (63:Int))))
def h133:Hint:=⟨.e,.e⟩
theorem q133_eq (p0:Addr) (n1:Int) (K2:Int→PT):fnE Cx h133 [.c (.I .u16)] Tryd.f133 [.pt p0,.v (.int .u8 n1)] K2=q133 p0 n1 K2:=by kernel_rfl
theorem q133_fnok:fnOk Tryd.f133 2=true:=by kernel_rfl
theorem q133_ok (p0:Addr) (n1:Int) (K2:Int→PT) {w:World} (h:q133 p0 n1 K2 w):Calls Tryd.prog 133 #[(.pointer (some p0)),(.int .u8 n1)] w fun e w'=>∃r,e = .returned (resMk [.c (.I .u16)] r)∧K2 r w' :=
 of_eq Tryd.func133 q133_fnok (by kernel_rfl) (by kernel_rfl) (q133_eq p0 n1 K2) h
def q134_J0 (K1:Bool→PT) (x5:Bool):PT :=
 K1 x5
def q134 (p0:Addr) (K1:Bool→PT):PT :=
 joinP (fun R2=>ld (.I .u8) (Addr.add p0 3) fun (n3:Int)=>cnd (decide ((64:Int)≤n3)) (ld (.I .u64) (Addr.add p0 1) fun (n4:Int)=>R2 (decide (n4=(0:Int)))) (R2 false)) (q134_J0 K1)
def h134:Hint:=⟨(.n .e 3 ([(2,.c .B)],[]) .e),.e⟩
theorem q134_eq (p0:Addr) (K1:Bool→PT):fnE Cx h134 [.c .B] Tryd.f134 [.pt p0] K1=q134 p0 K1:=by kernel_rfl
theorem q134_fnok:fnOk Tryd.f134 1=true:=by kernel_rfl
theorem q134_ok (p0:Addr) (K1:Bool→PT) {w:World} (h:q134 p0 K1 w):Calls Tryd.prog 134 #[(.pointer (some p0))] w fun e w'=>∃r,e = .returned (resMk [.c .B] r)∧K1 r w' :=
 of_eq Tryd.func134 q134_fnok (by kernel_rfl) (by kernel_rfl) (q134_eq p0 K1) h
def q135 (p0:Addr) (K1:Int→PT):PT :=
 ldL [.S,(.I .i64)] (Addr.add p0 512) 0 fun (r2:(Sl×Int))=>callP Tryd.prog 93 #[(.agg ⟨[(.slice r2.1.a r2.1.l r2.1.c),(.int .i64 r2.2)]⟩)] [.c (.I .i64)] fun (r3:Int)=>callP Tryd.prog 98 #[(.int .u32 (IntKind.wrap .u32 (IntKind.wrap .i64 (r3-(1:Int)))))] [.c (.I .u32)] fun (r4:Int)=>ld (.I .u16) (Addr.add p0 528) fun (n5:Int)=>callP Tryd.prog 98 #[(.int .u32 (IntKind.wrap .u32 (IntKind.wrap .u16 (n5-(1:Int)))))] [.c (.I .u32)] fun (r6:Int)=>cnd (decide ((IntKind.wrap .u32 (r4+(1:Int)))<(IntKind.wrap .u32 (r6+(2:Int))))) (K1 (IntKind.wrap .u8 (IntKind.wrap .u32 (r4+(1:Int))))) (K1 (IntKind.wrap .u8 (IntKind.wrap .u32 (r6+(2:Int)))))
def h135:Hint:=⟨.e,.e⟩
theorem q135_eq (p0:Addr) (K1:Int→PT):fnE Cx h135 [.c (.I .u8)] Tryd.f135 [.pt p0] K1=q135 p0 K1:=by kernel_rfl
theorem q135_fnok:fnOk Tryd.f135 1=true:=by kernel_rfl
theorem q135_ok (p0:Addr) (K1:Int→PT) {w:World} (h:q135 p0 K1 w):Calls Tryd.prog 135 #[(.pointer (some p0))] w fun e w'=>∃r,e = .returned (resMk [.c (.I .u8)] r)∧K1 r w' :=
 of_eq Tryd.func135 q135_fnok (by kernel_rfl) (by kernel_rfl) (q135_eq p0 K1) h
def q136_J0 (x8:(Int×Int×Int)) (A9:(Int×Int×Int)→PT) (x17:Int×Int):PT :=
 A9 (x17.1,x17.2,(IntKind.wrap .i64 (x8.2.2+(1:Int))))
def q136_X1 (p0:Addr) (r3:Int) (n4:Int) (s7:Sl) (x8:(Int×Int×Int)) (R10:(Int×Int)→PT):PT :=
 ixS 1 s7 x8.2.2 fun (p11:Addr)=>ld (.I .u32) p11 fun (n12:Int)=>cnd (decide (n12=(0:Int))) (ixA 1 256 (Addr.add p0 256) x8.2.2 fun (p13:Addr)=>st p13 (.int .i16 (0:Int))<|R10 (x8.1,x8.2.1)) (cnd (decide (n12≤(shrI .u32 (IntKind.wrap .u32 r3) n4))) (ixA 1 256 (Addr.add p0 256) x8.2.2 fun (p14:Addr)=>st p14 (.int .i16 (-1:Int))<|R10 ((IntKind.wrap .u32 (x8.1+(1:Int))),(IntKind.wrap .u32 (x8.2.1-n12)))) (cnd (decide (n12≤(shrI .u32 (IntKind.wrap .u32 ((IntKind.wrap .u32 r3)*(3:Int))) (IntKind.wrap .u8 (n4+(1:Int)))))) (ixA 1 256 (Addr.add p0 256) x8.2.2 fun (p15:Addr)=>st p15 (.int .i16 (1:Int))<|R10 ((IntKind.wrap .u32 (x8.1+(1:Int))),(IntKind.wrap .u32 (x8.2.1-n12)))) (ixA 1 256 (Addr.add p0 256) x8.2.2 fun (p16:Addr)=>st p16 (.int .i16 (-2:Int))<|R10 (x8.1,x8.2.1))))
def q136_L2 (p0:Addr) (r3:Int) (n4:Int) (R5:Int×Int→PT) (s7:Sl) (x8:Int×Int×Int) (A9:(Int×Int×Int)→PT):PT :=
 cnd (decide (x8.2.2<(s7.l:Int))) (joinP (q136_X1 p0 r3 n4 s7 x8) (q136_J0 x8 A9)) (R5 (x8.1,x8.2.1))
def q136_J3 (x23:(Int×Int×Int)) (A24:(Int×Int×Int)→PT) (x31:Int×Int):PT :=
 A24 (x31.1,x31.2,(IntKind.wrap .i64 (x23.2.2+(1:Int))))
def q136_X4 (p0:Addr) (n4:Int) (x18:(Int×Int)) (s22:Sl) (x23:(Int×Int×Int)) (R25:(Int×Int)→PT):PT :=
 ixS 1 s22 x23.2.2 fun (p26:Addr)=>ld (.I .u32) p26 fun (n27:Int)=>ixA 1 256 (Addr.add p0 256) x23.2.2 fun (p28:Addr)=>ld (.I .i16) p28 fun (n29:Int)=>cnd (decide (n29=(-2:Int))) (cnd (decide (n27≤(quoI .u32 (IntKind.wrap .u32 (x18.2*(3:Int))) (IntKind.wrap .u32 ((IntKind.wrap .u32 ((shlI .u32 (1:Int) n4)-x18.1))*(2:Int)))))) (ixA 1 256 (Addr.add p0 256) x23.2.2 fun (p30:Addr)=>st p30 (.int .i16 (1:Int))<|R25 ((IntKind.wrap .u32 (x23.1+(1:Int))),(IntKind.wrap .u32 (x23.2.1-n27)))) (R25 (x23.1,x23.2.1))) (R25 (x23.1,x23.2.1))
def q136_L5 (p0:Addr) (n4:Int) (x18:(Int×Int)) (R20:Int×Int→PT) (s22:Sl) (x23:Int×Int×Int) (A24:(Int×Int×Int)→PT):PT :=
 cnd (decide (x23.2.2<(s22.l:Int))) (joinP (q136_X4 p0 n4 x18 s22 x23) (q136_J3 x23 A24)) (R20 (x23.1,x23.2.1))
def q136_J6 (n4:Int) (R19:Int×Int×Int→PT) (x32:Int×Int):PT :=
 req (0≤n4)<|R19 (x32.1,x32.2,(IntKind.wrap .u32 ((shlI .u32 (1:Int) n4)-x32.1)))
def q136_J7 (x39:(Int×Int×Int)) (A40:(Int×Int×Int)→PT) (x44:Int×Int):PT :=
 A40 (x44.1,x44.2,(IntKind.wrap .i64 (x39.2.2+(1:Int))))
def q136_L8 (R36:Int→PT) (s38:Sl) (x39:Int×Int×Int) (A40:(Int×Int×Int)→PT):PT :=
 cnd (decide (x39.2.2<(s38.l:Int))) (joinP (fun R41=>ixS 1 s38 x39.2.2 fun (p42:Addr)=>ld (.I .u32) p42 fun (n43:Int)=>cnd (decide (x39.2.1<n43)) (R41 (x39.2.2,n43)) (R41 (x39.1,x39.2.1))) (q136_J7 x39 A40)) (R36 x39.1)
def q136_J9 (p0:Addr) (K1:(Value)→PT) (x33:(Int×Int×Int)) (x45:Int):PT :=
 drw<|ixA 1 256 (Addr.add p0 256) x45 fun (p46:Addr)=>ld (.I .i16) p46 fun (n47:Int)=>ixA 1 256 (Addr.add p0 256) x45 fun (p48:Addr)=>st p48 (.int .i16 (IntKind.wrap .i16 (n47+(IntKind.wrap .i16 x33.2.2))))<|K1 .nilIface
def q136_J10 (p0:Addr) (x52:(Int×Int)) (A53:(Int×Int)→PT) (x60:Int):PT :=
 ld (.I .u16) (Addr.add p0 528) fun (n61:Int)=>req ((IntKind.wrap .u32 n61)≠0)<|A53 (x60,(Int.tmod (IntKind.wrap .u32 (x52.2+(1:Int))) (IntKind.wrap .u32 n61)))
def q136_X11 (p0:Addr) (x52:(Int×Int)) (R54:Int→PT):PT :=
 ixA 1 256 (Addr.add p0 256) x52.2 fun (p55:Addr)=>ld (.I .i16) p55 fun (n56:Int)=>cnd (decide ((0:Int)<n56)) (drw<|ixA 1 256 (Addr.add p0 256) x52.2 fun (p57:Addr)=>ld (.I .i16) p57 fun (n58:Int)=>ixA 1 256 (Addr.add p0 256) x52.2 fun (p59:Addr)=>st p59 (.int .i16 (IntKind.wrap .i16 (n58+(1:Int))))<|R54 (IntKind.wrap .u32 (x52.1-(1:Int)))) (R54 x52.1)
def q136_L12 (p0:Addr) (R51:Unit→PT) (x52:Int×Int) (A53:(Int×Int)→PT):PT :=
 cnd (decide ((0:Int)<x52.1)) (joinP (q136_X11 p0 x52) (q136_J10 p0 x52 A53)) (R51 ())
def q136_J13 (K1:(Value)→PT) (x62:Unit):PT :=
 K1 .nilIface
def q136_J14 (x67:(Int×Int)) (A68:(Int×Int)→PT) (x76:Int):PT :=
 A68 (x76,(IntKind.wrap .i64 (x67.2+(1:Int))))
def q136_X15 (p0:Addr) (K1:(Value)→PT) (n4:Int) (x33:(Int×Int×Int)) (x63:(Int)) (s66:Sl) (x67:(Int×Int)) (R69:Int→PT):PT :=
 ixS 1 s66 x67.2 fun (p70:Addr)=>ld (.I .u32) p70 fun (n71:Int)=>ixA 1 256 (Addr.add p0 256) x67.2 fun (p72:Addr)=>ld (.I .i16) p72 fun (n73:Int)=>cnd (decide (n73=(-2:Int))) (req (0≤(IntKind.wrap .u64 ((62:Int)-(IntKind.wrap .u64 n4))))<|req (0≤(IntKind.wrap .u64 ((62:Int)-(IntKind.wrap .u64 n4))))<|cnd (decide ((IntKind.wrap .u32 ((IntKind.wrap .u32 (shrI .u64 (IntKind.wrap .u64 (x67.1+(IntKind.wrap .u64 ((IntKind.wrap .u64 n71)*(quoI .u64 (IntKind.wrap .u64 ((IntKind.wrap .u64 ((shlI .u64 (1:Int) (IntKind.wrap .u64 ((62:Int)-(IntKind.wrap .u64 n4))))*(IntKind.wrap .u64 x63)))+(IntKind.wrap .u64 ((shlI .u64 (1:Int) (IntKind.wrap .u64 ((IntKind.wrap .u64 ((62:Int)-(IntKind.wrap .u64 n4)))-(1:Int))))-(1:Int))))) (IntKind.wrap .u64 x33.2.1)))))) (IntKind.wrap .u64 ((62:Int)-(IntKind.wrap .u64 n4)))))-(IntKind.wrap .u32 (shrI .u64 x67.1 (IntKind.wrap .u64 ((62:Int)-(IntKind.wrap .u64 n4)))))))<(1:Int))) (callP Tryd.prog 62 #[(.string ⟨#[119,101,105,103,104,116,32,60,32,49]⟩)] [.c .V] fun (r74:Value)=>K1 r74) (ixA 1 256 (Addr.add p0 256) x67.2 fun (p75:Addr)=>st p75 (.int .i16 (IntKind.wrap .i16 (IntKind.wrap .u32 ((IntKind.wrap .u32 (shrI .u64 (IntKind.wrap .u64 (x67.1+(IntKind.wrap .u64 ((IntKind.wrap .u64 n71)*(quoI .u64 (IntKind.wrap .u64 ((IntKind.wrap .u64 ((shlI .u64 (1:Int) (IntKind.wrap .u64 ((62:Int)-(IntKind.wrap .u64 n4))))*(IntKind.wrap .u64 x63)))+(IntKind.wrap .u64 ((shlI .u64 (1:Int) (IntKind.wrap .u64 ((IntKind.wrap .u64 ((62:Int)-(IntKind.wrap .u64 n4)))-(1:Int))))-(1:Int))))) (IntKind.wrap .u64 x33.2.1)))))) (IntKind.wrap .u64 ((62:Int)-(IntKind.wrap .u64 n4)))))-(IntKind.wrap .u32 (shrI .u64 x67.1 (IntKind.wrap .u64 ((62:Int)-(IntKind.wrap .u64 n4)))))))))<|R69 (IntKind.wrap .u64 (x67.1+(IntKind.wrap .u64 ((IntKind.wrap .u64 n71)*(quoI .u64 (IntKind.wrap .u64 ((IntKind.wrap .u64 ((shlI .u64 (1:Int) (IntKind.wrap .u64 ((62:Int)-(IntKind.wrap .u64 n4))))*(IntKind.wrap .u64 x63)))+(IntKind.wrap .u64 ((shlI .u64 (1:Int) (IntKind.wrap .u64 ((IntKind.wrap .u64 ((62:Int)-(IntKind.wrap .u64 n4)))-(1:Int))))-(1:Int))))) (IntKind.wrap .u64 x33.2.1)))))))) (R69 x67.1)
def q136_L16 (p0:Addr) (K1:(Value)→PT) (n4:Int) (x33:(Int×Int×Int)) (x63:(Int)) (R64:Unit→PT) (s66:Sl) (x67:Int×Int) (A68:(Int×Int)→PT):PT :=
 cnd (decide (x67.2<(s66.l:Int))) (joinP (q136_X15 p0 K1 n4 x33 x63 s66 x67) (q136_J14 x67 A68)) (R64 ())
def q136_J17 (K1:(Value)→PT) (x77:Unit):PT :=
 K1 .nilIface
def q136_J18 (p0:Addr) (K1:(Value)→PT) (n4:Int) (x33:(Int×Int×Int)) (x63:Int):PT :=
 req (0≤(IntKind.wrap .u64 ((IntKind.wrap .u64 ((62:Int)-(IntKind.wrap .u64 n4)))-(1:Int))))<|req (0≤(IntKind.wrap .u64 ((62:Int)-(IntKind.wrap .u64 n4))))<|req ((IntKind.wrap .u64 x33.2.1)≠0)<|joinP (fun R64=>drw<|ld (.I .u16) (Addr.add p0 528) fun (n65:Int)=>slcA 1 256 p0 none (some n65) none fun (s66:Sl)=>loopP ((IntKind.wrap .u64 ((shlI .u64 (1:Int) (IntKind.wrap .u64 ((IntKind.wrap .u64 ((62:Int)-(IntKind.wrap .u64 n4)))-(1:Int))))-(1:Int))),(0:Int)) (q136_L16 p0 K1 n4 x33 x63 R64 s66)) (q136_J17 K1)
def q136_J19 (p0:Addr) (K1:(Value)→PT) (n4:Int) (x33:(Int×Int×Int)) (x49:Unit):PT :=
 joinP (fun R50=>cnd (decide (x33.2.1=(0:Int))) (joinP (fun R51=>loopP (x33.2.2,(0:Int)) (q136_L12 p0 R51)) (q136_J13 K1)) (R50 x33.2.2)) (q136_J18 p0 K1 n4 x33)
def q136_J20 (p0:Addr) (K1:(Value)→PT) (n4:Int) (x33:Int×Int×Int):PT :=
 joinP (fun R34=>ld (.I .u16) (Addr.add p0 528) fun (n35:Int)=>cnd (decide (x33.1=(IntKind.wrap .u32 ((IntKind.wrap .u32 n35)+(1:Int))))) (joinP (fun R36=>drw<|ld (.I .u16) (Addr.add p0 528) fun (n37:Int)=>slcA 1 256 p0 none (some n37) none fun (s38:Sl)=>loopP ((0:Int),(0:Int),(0:Int)) (q136_L8 R36 s38)) (q136_J9 p0 K1 x33)) (R34 ())) (q136_J19 p0 K1 n4 x33)
def q136_X21 (p0:Addr) (r3:Int) (n4:Int) (x18:(Int×Int)) (R19:(Int×Int×Int)→PT):PT :=
 req ((IntKind.wrap .u32 ((shlI .u32 (1:Int) n4)-x18.1))≠0)<|cnd (decide ((shrI .u32 (IntKind.wrap .u32 ((IntKind.wrap .u32 r3)*(3:Int))) (IntKind.wrap .u8 (n4+(1:Int))))<(quoI .u32 x18.2 (IntKind.wrap .u32 ((shlI .u32 (1:Int) n4)-x18.1))))) (req ((IntKind.wrap .u32 ((IntKind.wrap .u32 ((shlI .u32 (1:Int) n4)-x18.1))*(2:Int)))≠0)<|joinP (fun R20=>drw<|ld (.I .u16) (Addr.add p0 528) fun (n21:Int)=>slcA 1 256 p0 none (some n21) none fun (s22:Sl)=>loopP (x18.1,x18.2,(0:Int)) (q136_L5 p0 n4 x18 R20 s22)) (q136_J6 n4 R19)) (R19 (x18.1,x18.2,(IntKind.wrap .u32 ((shlI .u32 (1:Int) n4)-x18.1))))
def q136_J22 (p0:Addr) (K1:(Value)→PT) (r3:Int) (n4:Int) (x18:Int×Int):PT :=
 req (0≤n4)<|joinP (q136_X21 p0 r3 n4 x18) (q136_J20 p0 K1 n4)
def q136 (p0:Addr) (K1:(Value)→PT):PT :=
 ldL [.S,(.I .i64)] (Addr.add p0 512) 0 fun (r2:(Sl×Int))=>callP Tryd.prog 93 #[(.agg ⟨[(.slice r2.1.a r2.1.l r2.1.c),(.int .i64 r2.2)]⟩)] [.c (.I .i64)] fun (r3:Int)=>ld (.I .u8) (Addr.add p0 529) fun (n4:Int)=>req (0≤n4)<|req (0≤(IntKind.wrap .u8 (n4+(1:Int))))<|joinP (fun R5=>drw<|ld (.I .u16) (Addr.add p0 528) fun (n6:Int)=>slcA 1 256 p0 none (some n6) none fun (s7:Sl)=>loopP ((0:Int),(IntKind.wrap .u32 r3),(0:Int)) (q136_L2 p0 r3 n4 R5 s7)) (q136_J22 p0 K1 r3 n4)
def h136:Hint:=⟨(.n (.n (.n (.n (.n .e 127 ([(3,.c (.I .u32)),(4,.c (.I .u32))],[7,0,5]) .e) 511 ([(3,.c (.I .u32)),(4,.c (.I .u32)),(10,.c (.I .u32))],[5,0]) .e) 1018 ([(3,.c (.I .u32)),(4,.c (.I .u32)),(55,.c (.I .i64))],[0,6,7,53,5,54]) (.n .e 1023 ([],[4,5,0,10]) .e)) 2047 ([(10,.c (.I .u32))],[5,4,0]) (.n (.n (.n .e 8147 ([(3,.c (.I .u32)),(4,.c (.I .u32))],[55,0,6,7,53,5,54]) .e) 8181 ([(3,.c (.I .u32)),(4,.c (.I .u32))],[5,0]) .e) 16378 ([],[]) (.n .e 32747 ([(13,.c (.I .i64))],[0,10]) .e))) 65450 ([(3,.c (.I .u32)),(4,.c (.I .u32)),(122,.c (.I .i64))],[0,7,120,5,121]) (.n (.n (.n (.n .e 65535 ([],[]) .e) 131026 ([(10,.c (.I .u32)),(17,.c (.I .u32))],[0]) .e) 261978 ([(13,.c (.I .i64)),(14,.c (.I .u32)),(171,.c (.I .i64))],[169,0,10,170]) (.n .e 523603 ([(3,.c (.I .u32)),(4,.c (.I .u32))],[122,0,7,120,5,121]) .e)) 524105 ([(10,.c (.I .u32))],[17,0]) (.n (.n .e 524282 ([(21,.c (.I .u64)),(252,.c (.I .i64))],[0,18,20,250,251]) .e) 2095827 ([(13,.c (.I .i64)),(14,.c (.I .u32))],[171,169,0,10,170]) (.n .e 4194259 ([(21,.c (.I .u64))],[252,0,18,20,250,251]) .e)))),.e⟩
theorem q136_eq (p0:Addr) (K1:(Value)→PT):fnE Cx h136 [.c .V] Tryd.f136 [.pt p0] K1=q136 p0 K1:=by kernel_rfl
theorem q136_fnok:fnOk Tryd.f136 1=true:=by kernel_rfl
theorem q136_ok (p0:Addr) (K1:(Value)→PT) {w:World} (h:q136 p0 K1 w):Calls Tryd.prog 136 #[(.pointer (some p0))] w fun e w'=>∃r,e = .returned (resMk [.c .V] r)∧K1 r w' :=
 of_eq Tryd.func136 q136_fnok (by kernel_rfl) (by kernel_rfl) (q136_eq p0 K1) h
def q137_J0 (p0:Addr) (K1:Unit→PT) (x18:Unit):PT :=
 ld .S (Addr.add (Addr.add p0 521) 2) fun (s19:Sl)=>slc 2 s19 none (some (256:Int)) none fun (s20:Sl)=>st (Addr.add (Addr.add p0 521) 2) (.slice s20.a s20.l s20.c)<|K1 ()
def q137_J1 (p0:Addr) (K1:Unit→PT) (n2:Int) (x12:Unit):PT :=
 ld .S (Addr.add (Addr.add p0 521) 1) fun (s13:Sl)=>slc 1 s13 none (some (shlI .i64 (1:Int) n2)) none fun (s14:Sl)=>st (Addr.add (Addr.add p0 521) 1) (.slice s14.a s14.l s14.c)<|joinP (fun R15=>ld .S (Addr.add (Addr.add p0 521) 2) fun (s16:Sl)=>cnd (decide ((s16.c:Int)<(256:Int))) (mks z210 210 8 (256:Int) (256:Int) fun (s17:Sl)=>st (Addr.add (Addr.add p0 521) 2) (.slice s17.a s17.l s17.c)<|R15 ()) (R15 ())) (q137_J0 p0 K1)
def q137_J2 (p0:Addr) (K1:Unit→PT) (n2:Int) (x6:Unit):PT :=
 ld .S (Addr.add p0 521) fun (s7:Sl)=>slc 1 s7 none (some (shlI .i64 (1:Int) n2)) none fun (s8:Sl)=>st (Addr.add p0 521) (.slice s8.a s8.l s8.c)<|joinP (fun R9=>ld .S (Addr.add (Addr.add p0 521) 1) fun (s10:Sl)=>cnd (decide ((s10.c:Int)<(shlI .i64 (1:Int) n2))) (mks z81 81 2 (shlI .i64 (1:Int) n2) (shlI .i64 (1:Int) n2) fun (s11:Sl)=>st (Addr.add (Addr.add p0 521) 1) (.slice s11.a s11.l s11.c)<|R9 ()) (R9 ())) (q137_J1 p0 K1 n2)
def q137 (p0:Addr) (K1:Unit→PT):PT :=
 ld (.I .u8) (Addr.add p0 529) fun (n2:Int)=>req (0≤n2)<|joinP (fun R3=>ld .S (Addr.add p0 521) fun (s4:Sl)=>cnd (decide ((s4.c:Int)<(shlI .i64 (1:Int) n2))) (mks z5 5 1 (shlI .i64 (1:Int) n2) (shlI .i64 (1:Int) n2) fun (s5:Sl)=>st (Addr.add p0 521) (.slice s5.a s5.l s5.c)<|R3 ()) (R3 ())) (q137_J2 p0 K1 n2)
def h137:Hint:=⟨(.n (.n .e 3 ([],[2,0]) .e) 31 ([],[3,0]) (.n .e 127 ([],[0]) .e)),.e⟩
theorem q137_eq (p0:Addr) (K1:Unit→PT):fnE Cx h137 [] Tryd.f137 [.pt p0] K1=q137 p0 K1:=by kernel_rfl
theorem q137_fnok:fnOk Tryd.f137 1=true:=by kernel_rfl
theorem q137_ok (p0:Addr) (K1:Unit→PT) {w:World} (h:q137 p0 K1 w):Calls Tryd.prog 137 #[(.pointer (some p0))] w fun e w'=>∃r,e = .returned (resMk [] r)∧K1 r w' :=
 of_eq Tryd.func137 q137_fnok (by kernel_rfl) (by kernel_rfl) (q137_eq p0 K1) h
def q138 (p0:Addr) (s1:Sl) (K2:Unit→PT):PT :=
 st p0 (.int .u64 (0:Int))<|st (Addr.add p0 1) (.int .u8 (0:Int))<|st (Addr.add p0 2) (.slice s1.a s1.l s1.c)<|K2 ()
def h138:Hint:=⟨.e,.e⟩
theorem q138_eq (p0:Addr) (s1:Sl) (K2:Unit→PT):fnE Cx h138 [] Tryd.f138 [.pt p0,.v (.slice s1.a s1.l s1.c)] K2=q138 p0 s1 K2:=by kernel_rfl
theorem q138_fnok:fnOk Tryd.f138 2=true:=by kernel_rfl
theorem q138_ok (p0:Addr) (s1:Sl) (K2:Unit→PT) {w:World} (h:q138 p0 s1 K2 w):Calls Tryd.prog 138 #[(.pointer (some p0)),(.slice s1.a s1.l s1.c)] w fun e w'=>∃r,e = .returned (resMk [] r)∧K2 r w' :=
 of_eq Tryd.func138 q138_fnok (by kernel_rfl) (by kernel_rfl) (q138_eq p0 s1 K2) h
def q139 (p0:Addr) (o1:Option Addr) (o2:Option Addr) (n3:Int) (r4:(Int×Int)) (K5:Unit→PT):PT :=
 nw [(.int .i32 r4.1),(.int .u32 r4.2)] 210 fun (p6:Addr)=>st p0 (.pointer o1)<|nz o2 fun (p7:Addr)=>ld .S (Addr.add p7 1) fun (s8:Sl)=>st (Addr.add p0 1) (.slice s8.a s8.l s8.c)<|ld (.I .u32) (Addr.add p6 1) fun (n9:Int)=>req (0≤(16:Int))<|req (0≤(16:Int))<|ld (.I .u32) (Addr.add p6 1) fun (n10:Int)=>req (0≤(shrI .u32 (IntKind.wrap .u32 (n9+(32768:Int))) (16:Int)))<|ld (.I .i32) p6 fun (n11:Int)=>ld .S (Addr.add p0 1) fun (s12:Sl)=>ixS 1 s12 (IntKind.wrap .i32 ((shrI .i32 (IntKind.wrap .i32 (IntKind.wrap .u32 ((shlI .u32 (shrI .u32 (IntKind.wrap .u32 (n9+(32768:Int))) (16:Int)) (16:Int))-n10))) (shrI .u32 (IntKind.wrap .u32 (n9+(32768:Int))) (16:Int)))+n11)) fun (p13:Addr)=>ld (.I .u16) p13 fun (n14:Int)=>st (Addr.add p0 2) (.int .u16 n14)<|K5 ()
def h139:Hint:=⟨.e,.e⟩
theorem q139_eq (p0:Addr) (o1:Option Addr) (o2:Option Addr) (n3:Int) (r4:(Int×Int)) (K5:Unit→PT):fnE Cx h139 [] Tryd.f139 [.pt p0,.v (.pointer o1),.v (.pointer o2),.v (.int .u8 n3),.v (.agg ⟨[(.int .i32 r4.1),(.int .u32 r4.2)]⟩)] K5=q139 p0 o1 o2 n3 r4 K5:=by kernel_rfl
theorem q139_fnok:fnOk Tryd.f139 5=true:=by kernel_rfl
theorem q139_ok (p0:Addr) (o1:Option Addr) (o2:Option Addr) (n3:Int) (r4:(Int×Int)) (K5:Unit→PT) {w:World} (h:q139 p0 o1 o2 n3 r4 K5 w):Calls Tryd.prog 139 #[(.pointer (some p0)),(.pointer o1),(.pointer o2),(.int .u8 n3),(.agg ⟨[(.int .i32 r4.1),(.int .u32 r4.2)]⟩)] w fun e w'=>∃r,e = .returned (resMk [] r)∧K5 r w' :=
 of_eq Tryd.func139 q139_fnok (by kernel_rfl) (by kernel_rfl) (q139_eq p0 o1 o2 n3 r4 K5) h
def q140 (p0:Addr) (r1:(Int×Int)) (K2:Unit→PT):PT :=
 nw [(.int .i32 r1.1),(.int .u32 r1.2)] 210 fun (p3:Addr)=>drw<|ld (.I .u16) (Addr.add p0 2) fun (n4:Int)=>ld (.I .u32) (Addr.add p3 1) fun (n5:Int)=>req (0≤(16:Int))<|drw<|ld (.I .u16) (Addr.add p0 2) fun (n6:Int)=>req (0≤(andI .u32 (shrI .u32 (IntKind.wrap .u32 ((IntKind.wrap .u32 n4)+n5)) (16:Int)) (15:Int)))<|ld (.I .i32) p3 fun (n7:Int)=>drw<|ld .P p0 fun (o8:Option Addr)=>ld (.I .u16) (Addr.add p0 2) fun (n9:Int)=>callP Tryd.prog 156 #[(.pointer o8),(.int .u16 n9),(.int .u8 (IntKind.wrap .u8 (shrI .u32 (IntKind.wrap .u32 ((IntKind.wrap .u32 n4)+n5)) (16:Int))))] [] fun (r10:Unit)=>ld .S (Addr.add p0 1) fun (s11:Sl)=>ixS 1 s11 (IntKind.wrap .i32 ((IntKind.wrap .i32 (shrI .u16 n6 (andI .u32 (shrI .u32 (IntKind.wrap .u32 ((IntKind.wrap .u32 n4)+n5)) (16:Int)) (15:Int))))+n7)) fun (p12:Addr)=>ld (.I .u16) p12 fun (n13:Int)=>st (Addr.add p0 2) (.int .u16 n13)<|K2 ()
def h140:Hint:=⟨.e,.e⟩
theorem q140_eq (p0:Addr) (r1:(Int×Int)) (K2:Unit→PT):fnE Cx h140 [] Tryd.f140 [.pt p0,.v (.agg ⟨[(.int .i32 r1.1),(.int .u32 r1.2)]⟩)] K2=q140 p0 r1 K2:=by kernel_rfl
theorem q140_fnok:fnOk Tryd.f140 2=true:=by kernel_rfl
theorem q140_ok (p0:Addr) (r1:(Int×Int)) (K2:Unit→PT) {w:World} (h:q140 p0 r1 K2 w):Calls Tryd.prog 140 #[(.pointer (some p0)),(.agg ⟨[(.int .i32 r1.1),(.int .u32 r1.2)]⟩)] w fun e w'=>∃r,e = .returned (resMk [] r)∧K2 r w' :=
 of_eq Tryd.func140 q140_fnok (by kernel_rfl) (by kernel_rfl) (q140_eq p0 r1 K2) h
def q141 (p0:Addr) (K1:Unit→PT):PT :=
 ld (.I .u8) (Addr.add p0 1) fun (n2:Int)=>cnd (decide (n2<(32:Int))) (K1 ()) (drw<|ld .S (Addr.add p0 2) fun (s3:Sl)=>ld (.I .u64) p0 fun (n4:Int)=>ld (.I .u64) p0 fun (n5:Int)=>req (0≤(8:Int))<|ld (.I .u64) p0 fun (n6:Int)=>req (0≤(16:Int))<|ld (.I .u64) p0 fun (n7:Int)=>req (0≤(24:Int))<|nw [(.int .u8 (IntKind.wrap .u8 n4)),(.int .u8 (IntKind.wrap .u8 (shrI .u64 n5 (8:Int)))),(.int .u8 (IntKind.wrap .u8 (shrI .u64 n6 (16:Int)))),(.int .u8 (IntKind.wrap .u8 (shrI .u64 n7 (24:Int))))] 5 fun (p8:Addr)=>kp [((Addr.add p0 2),(.slice s3.a s3.l s3.c))]<|app z5 5 1 s3 ⟨(some p8),4,4⟩ fun (s9:Sl)=>st (Addr.add p0 2) (.slice s9.a s9.l s9.c)<|ld (.I .u8) (Addr.add p0 1) fun (n10:Int)=>st (Addr.add p0 1) (.int .u8 (IntKind.wrap .u8 (n10-(32:Int))))<|ld (.I .u64) p0 fun (n11:Int)=>req (0≤(32:Int))<|st p0 (.int .u64 (shrI .u64 n11 (32:Int)))<|K1 ())
def h141:Hint:=⟨.e,.e⟩
theorem q141_eq (p0:Addr) (K1:Unit→PT):fnE Cx h141 [] Tryd.f141 [.pt p0] K1=q141 p0 K1:=by kernel_rfl
theorem q141_fnok:fnOk Tryd.f141 1=true:=by kernel_rfl
theorem q141_ok (p0:Addr) (K1:Unit→PT) {w:World} (h:q141 p0 K1 w):Calls Tryd.prog 141 #[(.pointer (some p0))] w fun e w'=>∃r,e = .returned (resMk [] r)∧K1 r w' :=
 of_eq Tryd.func141 q141_fnok (by kernel_rfl) (by kernel_rfl) (q141_eq p0 K1) h
def q142 (p0:Addr) (r1:(Int×Int)) (K2:Unit→PT):PT :=
 nw [(.int .i32 r1.1),(.int .u32 r1.2)] 210 fun (p3:Addr)=>drw<|ld (.I .u16) (Addr.add p0 2) fun (n4:Int)=>ld (.I .u32) (Addr.add p3 1) fun (n5:Int)=>req (0≤(16:Int))<|drw<|ld (.I .u16) (Addr.add p0 2) fun (n6:Int)=>req (0≤(andI .u32 (shrI .u32 (IntKind.wrap .u32 ((IntKind.wrap .u32 n4)+n5)) (16:Int)) (15:Int)))<|ld (.I .i32) p3 fun (n7:Int)=>drw<|ld .P p0 fun (o8:Option Addr)=>ld (.I .u16) (Addr.add p0 2) fun (n9:Int)=>callP Tryd.prog 157 #[(.pointer o8),(.int .u16 n9),(.int .u8 (IntKind.wrap .u8 (shrI .u32 (IntKind.wrap .u32 ((IntKind.wrap .u32 n4)+n5)) (16:Int))))] [] fun (r10:Unit)=>ld .S (Addr.add p0 1) fun (s11:Sl)=>ixS 1 s11 (IntKind.wrap .i32 ((IntKind.wrap .i32 (shrI .u16 n6 (andI .u32 (shrI .u32 (IntKind.wrap .u32 ((IntKind.wrap .u32 n4)+n5)) (16:Int)) (15:Int))))+n7)) fun (p12:Addr)=>ld (.I .u16) p12 fun (n13:Int)=>st (Addr.add p0 2) (.int .u16 n13)<|K2 ()
def h142:Hint:=⟨.e,.e⟩
theorem q142_eq (p0:Addr) (r1:(Int×Int)) (K2:Unit→PT):fnE Cx h142 [] Tryd.f142 [.pt p0,.v (.agg ⟨[(.int .i32 r1.1),(.int .u32 r1.2)]⟩)] K2=q142 p0 r1 K2:=by kernel_rfl
theorem q142_fnok:fnOk Tryd.f142 2=true:=by kernel_rfl
theorem q142_ok (p0:Addr) (r1:(Int×Int)) (K2:Unit→PT) {w:World} (h:q142 p0 r1 K2 w):Calls Tryd.prog 142 #[(.pointer (some p0)),(.agg ⟨[(.int .i32 r1.1),(.int .u32 r1.2)]⟩)] w fun e w'=>∃r,e = .returned (resMk [] r)∧K2 r w' :=
 of_eq Tryd.func142 q142_fnok (by kernel_rfl) (by kernel_rfl) (q142_eq p0 r1 K2) h
def q143 (p0:Addr) (n1:Int) (K2:Unit→PT):PT :=
 ld .P p0 fun (o3:Option Addr)=>callP Tryd.prog 141 #[(.pointer o3)] [] fun (r4:Unit)=>drw<|ld .P p0 fun (o5:Option Addr)=>ld (.I .u16) (Addr.add p0 2) fun (n6:Int)=>callP Tryd.prog 157 #[(.pointer o5),(.int .u16 n6),(.int .u8 n1)] [] fun (r7:Unit)=>ld .P p0 fun (o8:Option Addr)=>callP Tryd.prog 158 #[(.pointer o8)] [] fun (r9:Unit)=>K2 ()
def h143:Hint:=⟨.e,.e⟩
theorem q143_eq (p0:Addr) (n1:Int) (K2:Unit→PT):fnE Cx h143 [] Tryd.f143 [.pt p0,.v (.int .u8 n1)] K2=q143 p0 n1 K2:=by kernel_rfl
theorem q143_fnok:fnOk Tryd.f143 2=true:=by kernel_rfl
theorem q143_ok (p0:Addr) (n1:Int) (K2:Unit→PT) {w:World} (h:q143 p0 n1 K2 w):Calls Tryd.prog 143 #[(.pointer (some p0)),(.int .u8 n1)] w fun e w'=>∃r,e = .returned (resMk [] r)∧K2 r w' :=
 of_eq Tryd.func143 q143_fnok (by kernel_rfl) (by kernel_rfl) (q143_eq p0 n1 K2) h
def q144 (p0:Addr) (K1:Unit→PT):PT :=
 callP Tryd.prog 159 #[(.pointer (some p0)),(.int .u16 (1:Int)),(.int .u8 (1:Int))] [] fun (r2:Unit)=>callP Tryd.prog 160 #[(.pointer (some p0))] [] fun (r3:Unit)=>K1 ()
def h144:Hint:=⟨.e,.e⟩
theorem q144_eq (p0:Addr) (K1:Unit→PT):fnE Cx h144 [] Tryd.f144 [.pt p0] K1=q144 p0 K1:=by kernel_rfl
theorem q144_fnok:fnOk Tryd.f144 1=true:=by kernel_rfl
theorem q144_ok (p0:Addr) (K1:Unit→PT) {w:World} (h:q144 p0 K1 w):Calls Tryd.prog 144 #[(.pointer (some p0))] w fun e w'=>∃r,e = .returned (resMk [] r)∧K1 r w' :=
 of_eq Tryd.func144 q144_fnok (by kernel_rfl) (by kernel_rfl) (q144_eq p0 K1) h
def q145_J0 (x4:(Int×Int×Int)) (A5:(Int×Int×Int)→PT) (n7:Int) (x9:Int):PT :=
 A5 ((IntKind.wrap .i64 (x4.1+(maxI n7 (IntKind.wrap .i64 (0-n7))))),x9,(IntKind.wrap .i64 (x4.2.2+(1:Int))))
def q145_L1 (s0:Sl) (K2:Bool→PT) (R3:Int×Int→PT) (x4:Int×Int×Int) (A5:(Int×Int×Int)→PT):PT :=
 cnd (decide (x4.2.2<(s0.l:Int))) (ixS 1 s0 x4.2.2 fun (p6:Addr)=>ld (.I .i64) p6 fun (n7:Int)=>cnd (decide (n7<(-1:Int))) (K2 false) (cnd (decide ((32768:Int)<n7)) (K2 false) (joinP (fun R8=>cnd (!decide (n7=(0:Int))) (R8 (IntKind.wrap .i64 (x4.2.1+(1:Int)))) (R8 x4.2.1)) (q145_J0 x4 A5 n7)))) (R3 (x4.1,x4.2.1))
def q145_J2 (K2:Bool→PT) (x12:Bool):PT :=
 K2 x12
def q145_J3 (n1:Int) (K2:Bool→PT) (x10:Int×Int):PT :=
 joinP (fun R11=>req (0≤n1)<|cnd (decide (x10.1=(shlI .i64 (1:Int) n1))) (R11 (decide ((1:Int)<x10.2))) (R11 false)) (q145_J2 K2)
def q145 (s0:Sl) (n1:Int) (K2:Bool→PT):PT :=
 cnd (decide (n1<(5:Int))) (K2 false) (cnd (decide ((15:Int)<n1)) (K2 false) (cnd (decide ((256:Int)<(s0.l:Int))) (K2 false) (joinP (fun R3=>loopP ((0:Int),(0:Int),(0:Int)) (q145_L1 s0 K2 R3)) (q145_J3 n1 K2))))
def h145:Hint:=⟨(.n (.n (.n .e 15 ([(5,.c (.I .i64)),(6,.c (.I .i64))],[1]) .e) 31 ([(4,.c .B)],[]) .e) 122 ([(5,.c (.I .i64)),(6,.c (.I .i64)),(22,.c (.I .i64))],[20,1,21]) (.n .e 15667 ([(6,.c (.I .i64))],[5,8,22,20,1,21]) .e)),.e⟩
theorem q145_eq (s0:Sl) (n1:Int) (K2:Bool→PT):fnE Cx h145 [.c .B] Tryd.f145 [.v (.slice s0.a s0.l s0.c),.v (.int .i64 n1)] K2=q145 s0 n1 K2:=by kernel_rfl
theorem q145_fnok:fnOk Tryd.f145 2=true:=by kernel_rfl
theorem q145_ok (s0:Sl) (n1:Int) (K2:Bool→PT) {w:World} (h:q145 s0 n1 K2 w):Calls Tryd.prog 145 #[(.slice s0.a s0.l s0.c),(.int .i64 n1)] w fun e w'=>∃r,e = .returned (resMk [.c .B] r)∧K2 r w' :=
 of_eq Tryd.func145 q145_fnok (by kernel_rfl) (by kernel_rfl) (q145_eq s0 n1 K2) h
def q146_L0 (n1:Int) (n2:Int) (R4:Sl→PT) (x5:Sl×Int) (A6:(Sl×Int)→PT):PT :=
 cnd (decide (x5.2<n2)) (req (0≤x5.2)<|nw [(.int .i64 (andI .i64 (shrI .i64 n1 x5.2) (1:Int)))] 3 fun (p7:Addr)=>app z3 3 8 x5.1 ⟨(some p7),1,1⟩ fun (s8:Sl)=>A6 (s8,(IntKind.wrap .i64 (x5.2+(1:Int))))) (R4 x5.1)
def q146_J1 (K3:Sl→PT) (x9:Sl):PT :=
 K3 x9
def q146 (s0:Sl) (n1:Int) (n2:Int) (K3:Sl→PT):PT :=
 joinP (fun R4=>loopP (s0,(0:Int)) (q146_L0 n1 n2 R4)) (q146_J1 K3)
def h146:Hint:=⟨(.n (.n .e 3 ([(0,.c .S)],[]) .e) 26 ([(0,.c .S),(9,.c (.I .i64))],[1,8]) .e),.e⟩
theorem q146_eq (s0:Sl) (n1:Int) (n2:Int) (K3:Sl→PT):fnE Cx h146 [.c .S] Tryd.f146 [.v (.slice s0.a s0.l s0.c),.v (.int .i64 n1),.v (.int .i64 n2)] K3=q146 s0 n1 n2 K3:=by kernel_rfl
theorem q146_fnok:fnOk Tryd.f146 3=true:=by kernel_rfl
theorem q146_ok (s0:Sl) (n1:Int) (n2:Int) (K3:Sl→PT) {w:World} (h:q146 s0 n1 n2 K3 w):Calls Tryd.prog 146 #[(.slice s0.a s0.l s0.c),(.int .i64 n1),(.int .i64 n2)] w fun e w'=>∃r,e = .returned (resMk [.c .S] r)∧K3 r w' :=
 of_eq Tryd.func146 q146_fnok (by kernel_rfl) (by kernel_rfl) (q146_eq s0 n1 n2 K3) h
def q155 (r0:(Unit)) (s1:Sl) (K2:Int→PT):PT :=
 nw [] 234 fun (p3:Addr)=>ixS 1 s1 (7:Int) fun (p4:Addr)=>ld (.I .u8) p4 fun (n5:Int)=>drw<|ixS 1 s1 (0:Int) fun (p6:Addr)=>ld (.I .u8) p6 fun (n7:Int)=>ixS 1 s1 (1:Int) fun (p8:Addr)=>ld (.I .u8) p8 fun (n9:Int)=>req (0≤(8:Int))<|ixS 1 s1 (2:Int) fun (p10:Addr)=>ld (.I .u8) p10 fun (n11:Int)=>req (0≤(16:Int))<|ixS 1 s1 (3:Int) fun (p12:Addr)=>ld (.I .u8) p12 fun (n13:Int)=>req (0≤(24:Int))<|ixS 1 s1 (4:Int) fun (p14:Addr)=>ld (.I .u8) p14 fun (n15:Int)=>req (0≤(32:Int))<|ixS 1 s1 (5:Int) fun (p16:Addr)=>ld (.I .u8) p16 fun (n17:Int)=>req (0≤(40:Int))<|ixS 1 s1 (6:Int) fun (p18:Addr)=>ld (.I .u8) p18 fun (n19:Int)=>req (0≤(48:Int))<|ixS 1 s1 (7:Int) fun (p20:Addr)=>ld (.I .u8) p20 fun (n21:Int)=>req (0≤(56:Int))<|K2 (orI .u64 (orI .u64 (orI .u64 (orI .u64 (orI .u64 (orI .u64 (orI .u64 (IntKind.wrap .u64 n7) (shlI .u64 (IntKind.wrap .u64 n9) (8:Int))) (shlI .u64 (IntKind.wrap .u64 n11) (16:Int))) (shlI .u64 (IntKind.wrap .u64 n13) (24:Int))) (shlI .u64 (IntKind.wrap .u64 n15) (32:Int))) (shlI .u64 (IntKind.wrap .u64 n17) (40:Int))) (shlI .u64 (IntKind.wrap .u64 n19) (48:Int))) (shlI .u64 (IntKind.wrap .u64 n21) (56:Int)))
def h155:Hint:=⟨.e,.e⟩
theorem q155_eq (r0:(Unit)) (s1:Sl) (K2:Int→PT):fnE Cx h155 [.c (.I .u64)] Tryd.f155 [.v (.agg ⟨[]⟩),.v (.slice s1.a s1.l s1.c)] K2=q155 r0 s1 K2:=by kernel_rfl
theorem q155_fnok:fnOk Tryd.f155 2=true:=by kernel_rfl
theorem q155_ok (r0:(Unit)) (s1:Sl) (K2:Int→PT) {w:World} (h:q155 r0 s1 K2 w):Calls Tryd.prog 155 #[(.agg ⟨[]⟩),(.slice s1.a s1.l s1.c)] w fun e w'=>∃r,e = .returned (resMk [.c (.I .u64)] r)∧K2 r w' :=
 of_eq Tryd.func155 q155_fnok (by kernel_rfl) (by kernel_rfl) (q155_eq r0 s1 K2) h
def q156 (p0:Addr) (n1:Int) (n2:Int) (K3:Unit→PT):PT :=
 cnd (decide (n2=(0:Int))) (K3 ()) (req (0≤(andI .u8 (IntKind.wrap .u8 ((16:Int)-n2)) (15:Int)))<|req (0≤(andI .u8 (IntKind.wrap .u8 ((16:Int)-n2)) (15:Int)))<|drw<|ld (.I .u64) p0 fun (n4:Int)=>ld (.I .u8) (Addr.add p0 1) fun (n5:Int)=>req (0≤(andI .u8 n5 (63:Int)))<|st p0 (.int .u64 (orI .u64 n4 (shlI .u64 (IntKind.wrap .u64 (shrI .u16 (shlI .u16 n1 (andI .u8 (IntKind.wrap .u8 ((16:Int)-n2)) (15:Int))) (andI .u8 (IntKind.wrap .u8 ((16:Int)-n2)) (15:Int)))) (andI .u8 n5 (63:Int)))))<|ld (.I .u8) (Addr.add p0 1) fun (n6:Int)=>st (Addr.add p0 1) (.int .u8 (IntKind.wrap .u8 (n6+n2)))<|K3 ())
def h156:Hint:=⟨.e,.e⟩
theorem q156_eq (p0:Addr) (n1:Int) (n2:Int) (K3:Unit→PT):fnE Cx h156 [] Tryd.f156 [.pt p0,.v (.int .u16 n1),.v (.int .u8 n2)] K3=q156 p0 n1 n2 K3:=by kernel_rfl
theorem q156_fnok:fnOk Tryd.f156 3=true:=by kernel_rfl
theorem q156_ok (p0:Addr) (n1:Int) (n2:Int) (K3:Unit→PT) {w:World} (h:q156 p0 n1 n2 K3 w):Calls Tryd.prog 156 #[(.pointer (some p0)),(.int .u16 n1),(.int .u8 n2)] w fun e w'=>∃r,e = .returned (resMk [] r)∧K3 r w' :=
 of_eq Tryd.func156 q156_fnok (by kernel_rfl) (by kernel_rfl) (q156_eq p0 n1 n2 K3) h
def q157 (p0:Addr) (n1:Int) (n2:Int) (K3:Unit→PT):PT :=
 drw<|ld (.I .u64) p0 fun (n4:Int)=>ixA 1 32 ⟨8,0,none⟩ (andI .u8 n2 (31:Int)) fun (p5:Addr)=>ld (.I .u16) p5 fun (n6:Int)=>ld (.I .u8) (Addr.add p0 1) fun (n7:Int)=>req (0≤(andI .u8 n7 (63:Int)))<|st p0 (.int .u64 (orI .u64 n4 (shlI .u64 (IntKind.wrap .u64 (andI .u16 n1 n6)) (andI .u8 n7 (63:Int)))))<|ld (.I .u8) (Addr.add p0 1) fun (n8:Int)=>st (Addr.add p0 1) (.int .u8 (IntKind.wrap .u8 (n8+n2)))<|K3 ()
def h157:Hint:=⟨.e,.e⟩
theorem q157_eq (p0:Addr) (n1:Int) (n2:Int) (K3:Unit→PT):fnE Cx h157 [] Tryd.f157 [.pt p0,.v (.int .u16 n1),.v (.int .u8 n2)] K3=q157 p0 n1 n2 K3:=by kernel_rfl
theorem q157_fnok:fnOk Tryd.f157 3=true:=by kernel_rfl
theorem q157_ok (p0:Addr) (n1:Int) (n2:Int) (K3:Unit→PT) {w:World} (h:q157 p0 n1 n2 K3 w):Calls Tryd.prog 157 #[(.pointer (some p0)),(.int .u16 n1),(.int .u8 n2)] w fun e w'=>∃r,e = .returned (resMk [] r)∧K3 r w' :=
 of_eq Tryd.func157 q157_fnok (by kernel_rfl) (by kernel_rfl) (q157_eq p0 n1 n2 K3) h
def q158_J0 (p0:Addr) (K1:Unit→PT) (n2:Int) (x65:Unit):PT :=
 ld (.I .u64) p0 fun (n66:Int)=>req (0≤(3:Int))<|req (0≤(shlI .u8 (shrI .u8 n2 (3:Int)) (3:Int)))<|st p0 (.int .u64 (shrI .u64 n66 (shlI .u8 (shrI .u8 n2 (3:Int)) (3:Int))))<|ld (.I .u8) (Addr.add p0 1) fun (n67:Int)=>st (Addr.add p0 1) (.int .u8 (andI .u8 n67 (7:Int)))<|K1 ()
def q158_X1 (p0:Addr) (n2:Int) (R3:Unit→PT):PT :=
 cnd (decide ((shrI .u8 n2 (3:Int))=(0:Int))) (R3 ()) (cnd (decide ((shrI .u8 n2 (3:Int))=(1:Int))) (drw<|ld .S (Addr.add p0 2) fun (s4:Sl)=>ld (.I .u64) p0 fun (n5:Int)=>nw [(.int .u8 (IntKind.wrap .u8 n5))] 5 fun (p6:Addr)=>kp [((Addr.add p0 2),(.slice s4.a s4.l s4.c))]<|app z5 5 1 s4 ⟨(some p6),1,1⟩ fun (s7:Sl)=>st (Addr.add p0 2) (.slice s7.a s7.l s7.c)<|R3 ()) (cnd (decide ((shrI .u8 n2 (3:Int))=(2:Int))) (drw<|ld .S (Addr.add p0 2) fun (s8:Sl)=>ld (.I .u64) p0 fun (n9:Int)=>ld (.I .u64) p0 fun (n10:Int)=>req (0≤(8:Int))<|nw [(.int .u8 (IntKind.wrap .u8 n9)),(.int .u8 (IntKind.wrap .u8 (shrI .u64 n10 (8:Int))))] 5 fun (p11:Addr)=>kp [((Addr.add p0 2),(.slice s8.a s8.l s8.c))]<|app z5 5 1 s8 ⟨(some p11),2,2⟩ fun (s12:Sl)=>st (Addr.add p0 2) (.slice s12.a s12.l s12.c)<|R3 ()) (cnd (decide ((shrI .u8 n2 (3:Int))=(3:Int))) (drw<|ld .S (Addr.add p0 2) fun (s13:Sl)=>ld (.I .u64) p0 fun (n14:Int)=>ld (.I .u64) p0 fun (n15:Int)=>req (0≤(8:Int))<|ld (.I .u64) p0 fun (n16:Int)=>req (0≤(16:Int))<|nw [(.int .u8 (IntKind.wrap .u8 n14)),(.int .u8 (IntKind.wrap .u8 (shrI .u64 n15 (8:Int)))),(.int .u8 (IntKind.wrap .u8 (shrI .u64 n16 (16:Int))))] 5 fun (p17:Addr)=>kp [((Addr.add p0 2),(.slice s13.a s13.l s13.c))]<|app z5 5 1 s13 ⟨(some p17),3,3⟩ fun (s18:Sl)=>st (Addr.add p0 2) (.slice s18.a s18.l s18.c)<|R3 ()) (cnd (decide ((shrI .u8 n2 (3:Int))=(4:Int))) (drw<|ld .S (Addr.add p0 2) fun (s19:Sl)=>ld (.I .u64) p0 fun (n20:Int)=>ld (.I .u64) p0 fun (n21:Int)=>req (0≤(8:Int))<|ld (.I .u64) p0 fun (n22:Int)=>req (0≤(16:Int))<|ld (.I .u64) p0 fun (n23:Int)=>req (0≤(24:Int))<|nw [(.int .u8 (IntKind.wrap .u8 n20)),(.int .u8 (IntKind.wrap .u8 (shrI .u64 n21 (8:Int)))),(.int .u8 (IntKind.wrap .u8 (shrI .u64 n22 (16:Int)))),(.int .u8 (IntKind.wrap .u8 (shrI .u64 n23 (24:Int))))] 5 fun (p24:Addr)=>kp [((Addr.add p0 2),(.slice s19.a s19.l s19.c))]<|app z5 5 1 s19 ⟨(some p24),4,4⟩ fun (s25:Sl)=>st (Addr.add p0 2) (.slice s25.a s25.l s25.c)<|R3 ()) (cnd (decide ((shrI .u8 n2 (3:Int))=(5:Int))) (drw<|ld .S (Addr.add p0 2) fun (s26:Sl)=>ld (.I .u64) p0 fun (n27:Int)=>ld (.I .u64) p0 fun (n28:Int)=>req (0≤(8:Int))<|ld (.I .u64) p0 fun (n29:Int)=>req (0≤(16:Int))<|ld (.I .u64) p0 fun (n30:Int)=>req (0≤(24:Int))<|ld (.I .u64) p0 fun (n31:Int)=>req (0≤(32:Int))<|nw [(.int .u8 (IntKind.wrap .u8 n27)),(.int .u8 (IntKind.wrap .u8 (shrI .u64 n28 (8:Int)))),(.int .u8 (IntKind.wrap .u8 (shrI .u64 n29 (16:Int)))),(.int .u8 (IntKind.wrap .u8 (shrI .u64 n30 (24:Int)))),(.int .u8 (IntKind.wrap .u8 (shrI .u64 n31 (32:Int))))] 5 fun (p32:Addr)=>kp [((Addr.add p0 2),(.slice s26.a s26.l s26.c))]<|app z5 5 1 s26 ⟨(some p32),5,5⟩ fun (s33:Sl)=>st (Addr.add p0 2) (.slice s33.a s33.l s33.c)<|R3 ()) (cnd (decide ((shrI .u8 n2 (3:Int))=(6:Int))) (drw<|ld .S (Addr.add p0 2) fun (s34:Sl)=>ld (.I .u64) p0 fun (n35:Int)=>ld (.I .u64) p0 fun (n36:Int)=>req (0≤(8:Int))<|ld (.I .u64) p0 fun (n37:Int)=>req (0≤(16:Int))<|ld (.I .u64) p0 fun (n38:Int)=>req (0≤(24:Int))<|ld (.I .u64) p0 fun (n39:Int)=>req (0≤(32:Int))<|ld (.I .u64) p0 fun (n40:Int)=>req (0≤(40:Int))<|nw [(.int .u8 (IntKind.wrap .u8 n35)),(.int .u8 (IntKind.wrap .u8 (shrI .u64 n36 (8:Int)))),(.int .u8 (IntKind.wrap .u8 (shrI .u64 n37 (16:Int)))),(.int .u8 (IntKind.wrap .u8 (shrI .u64 n38 (24:Int)))),(.int .u8 (IntKind.wrap .u8 (shrI .u64 n39 (32:Int)))),(.int .u8 (IntKind.wrap .u8 (shrI .u64 n40 (40:Int))))] 5 fun (p41:Addr)=>kp [((Addr.add p0 2),(.slice s34.a s34.l s34.c))]<|app z5 5 1 s34 ⟨(some p41),6,6⟩ fun (s42:Sl)=>st (Addr.add p0 2) (.slice s42.a s42.l s42.c)<|R3 ()) (cnd (decide ((shrI .u8 n2 (3:Int))=(7:Int))) (drw<|ld .S (Addr.add p0 2) fun (s43:Sl)=>ld (.I .u64) p0 fun (n44:Int)=>ld (.I .u64) p0 fun (n45:Int)=>req (0≤(8:Int))<|ld (.I .u64) p0 fun (n46:Int)=>req (0≤(16:Int))<|ld (.I .u64) p0 fun (n47:Int)=>req (0≤(24:Int))<|ld (.I .u64) p0 fun (n48:Int)=>req (0≤(32:Int))<|ld (.I .u64) p0 fun (n49:Int)=>req (0≤(40:Int))<|ld (.I .u64) p0 fun (n50:Int)=>req (0≤(48:Int))<|nw [(.int .u8 (IntKind.wrap .u8 n44)),(.int .u8 (IntKind.wrap .u8 (shrI .u64 n45 (8:Int)))),(.int .u8 (IntKind.wrap .u8 (shrI .u64 n46 (16:Int)))),(.int .u8 (IntKind.wrap .u8 (shrI .u64 n47 (24:Int)))),(.int .u8 (IntKind.wrap .u8 (shrI .u64 n48 (32:Int)))),(.int .u8 (IntKind.wrap .u8 (shrI .u64 n49 (40:Int)))),(.int .u8 (IntKind.wrap .u8 (shrI .u64 n50 (48:Int))))] 5 fun (p51:Addr)=>kp [((Addr.add p0 2),(.slice s43.a s43.l s43.c))]<|app z5 5 1 s43 ⟨(some p51),7,7⟩ fun (s52:Sl)=>st (Addr.add p0 2) (.slice s52.a s52.l s52.c)<|R3 ()) (cnd (decide ((shrI .u8 n2 (3:Int))=(8:Int))) (drw<|ld .S (Addr.add p0 2) fun (s53:Sl)=>ld (.I .u64) p0 fun (n54:Int)=>ld (.I .u64) p0 fun (n55:Int)=>req (0≤(8:Int))<|ld (.I .u64) p0 fun (n56:Int)=>req (0≤(16:Int))<|ld (.I .u64) p0 fun (n57:Int)=>req (0≤(24:Int))<|ld (.I .u64) p0 fun (n58:Int)=>req (0≤(32:Int))<|ld (.I .u64) p0 fun (n59:Int)=>req (0≤(40:Int))<|ld (.I .u64) p0 fun (n60:Int)=>req (0≤(48:Int))<|ld (.I .u64) p0 fun (n61:Int)=>req (0≤(56:Int))<|nw [(.int .u8 (IntKind.wrap .u8 n54)),(.int .u8 (IntKind.wrap .u8 (shrI .u64 n55 (8:Int)))),(.int .u8 (IntKind.wrap .u8 (shrI .u64 n56 (16:Int)))),(.int .u8 (IntKind.wrap .u8 (shrI .u64 n57 (24:Int)))),(.int .u8 (IntKind.wrap .u8 (shrI .u64 n58 (32:Int)))),(.int .u8 (IntKind.wrap .u8 (shrI .u64 n59 (40:Int)))),(.int .u8 (IntKind.wrap .u8 (shrI .u64 n60 (48:Int)))),(.int .u8 (IntKind.wrap .u8 (shrI .u64 n61 (56:Int))))] 5 fun (p62:Addr)=>kp [((Addr.add p0 2),(.slice s53.a s53.l s53.c))]<|app z5 5 1 s53 ⟨(some p62),8,8⟩ fun (s63:Sl)=>st (Addr.add p0 2) (.slice s63.a s63.l s63.c)<|R3 ()) (callP Tryd.prog 62 #[(.string ⟨#[98,105,116,115]⟩)] [.c .V] fun (r64:Value)=>F)))))))))
def q158 (p0:Addr) (K1:Unit→PT):PT :=
 ld (.I .u8) (Addr.add p0 1) fun (n2:Int)=>req (0≤(3:Int))<|joinP (q158_X1 p0 n2) (q158_J0 p0 K1 n2)
def h158:Hint:=⟨(.n .e 3 ([],[2,0]) .e),.e⟩
theorem q158_eq (p0:Addr) (K1:Unit→PT):fnE Cx h158 [] Tryd.f158 [.pt p0] K1=q158 p0 K1:=by kernel_rfl
theorem q158_fnok:fnOk Tryd.f158 1=true:=by kernel_rfl
theorem q158_ok (p0:Addr) (K1:Unit→PT) {w:World} (h:q158 p0 K1 w):Calls Tryd.prog 158 #[(.pointer (some p0))] w fun e w'=>∃r,e = .returned (resMk [] r)∧K1 r w' :=
 of_eq Tryd.func158 q158_fnok (by kernel_rfl) (by kernel_rfl) (q158_eq p0 K1) h
def q159 (p0:Addr) (n1:Int) (n2:Int) (K3:Unit→PT):PT :=
 drw<|ld (.I .u64) p0 fun (n4:Int)=>ld (.I .u8) (Addr.add p0 1) fun (n5:Int)=>req (0≤(andI .u8 n5 (63:Int)))<|st p0 (.int .u64 (orI .u64 n4 (shlI .u64 (IntKind.wrap .u64 n1) (andI .u8 n5 (63:Int)))))<|ld (.I .u8) (Addr.add p0 1) fun (n6:Int)=>st (Addr.add p0 1) (.int .u8 (IntKind.wrap .u8 (n6+n2)))<|K3 ()
def h159:Hint:=⟨.e,.e⟩
theorem q159_eq (p0:Addr) (n1:Int) (n2:Int) (K3:Unit→PT):fnE Cx h159 [] Tryd.f159 [.pt p0,.v (.int .u16 n1),.v (.int .u8 n2)] K3=q159 p0 n1 n2 K3:=by kernel_rfl
theorem q159_fnok:fnOk Tryd.f159 3=true:=by kernel_rfl
theorem q159_ok (p0:Addr) (n1:Int) (n2:Int) (K3:Unit→PT) {w:World} (h:q159 p0 n1 n2 K3 w):Calls Tryd.prog 159 #[(.pointer (some p0)),(.int .u16 n1),(.int .u8 n2)] w fun e w'=>∃r,e = .returned (resMk [] r)∧K3 r w' :=
 of_eq Tryd.func159 q159_fnok (by kernel_rfl) (by kernel_rfl) (q159_eq p0 n1 n2 K3) h
def q160_L0 (p0:Addr) (n2:Int) (R3:Unit→PT) (x4:Int) (A5:Int→PT):PT :=
 cnd (decide (x4<(shrI .u8 (IntKind.wrap .u8 (n2+(7:Int))) (3:Int)))) (drw<|ld .S (Addr.add p0 2) fun (s6:Sl)=>ld (.I .u64) p0 fun (n7:Int)=>req (0≤(IntKind.wrap .u8 (x4*(8:Int))))<|nw [(.int .u8 (IntKind.wrap .u8 (shrI .u64 n7 (IntKind.wrap .u8 (x4*(8:Int))))))] 5 fun (p8:Addr)=>kp [((Addr.add p0 2),(.slice s6.a s6.l s6.c))]<|app z5 5 1 s6 ⟨(some p8),1,1⟩ fun (s9:Sl)=>st (Addr.add p0 2) (.slice s9.a s9.l s9.c)<|A5 (IntKind.wrap .u8 (x4+(1:Int)))) (R3 ())
def q160_J1 (p0:Addr) (K1:Unit→PT) (x10:Unit):PT :=
 st (Addr.add p0 1) (.int .u8 (0:Int))<|st p0 (.int .u64 (0:Int))<|K1 ()
def q160 (p0:Addr) (K1:Unit→PT):PT :=
 ld (.I .u8) (Addr.add p0 1) fun (n2:Int)=>req (0≤(3:Int))<|joinP (fun R3=>loopP (0:Int) (q160_L0 p0 n2 R3)) (q160_J1 p0 K1)
def h160:Hint:=⟨(.n (.n .e 3 ([],[0]) .e) 26 ([(11,.c (.I .u8))],[0,10]) .e),.e⟩
theorem q160_eq (p0:Addr) (K1:Unit→PT):fnE Cx h160 [] Tryd.f160 [.pt p0] K1=q160 p0 K1:=by kernel_rfl
theorem q160_fnok:fnOk Tryd.f160 1=true:=by kernel_rfl
theorem q160_ok (p0:Addr) (K1:Unit→PT) {w:World} (h:q160 p0 K1 w):Calls Tryd.prog 160 #[(.pointer (some p0))] w fun e w'=>∃r,e = .returned (resMk [] r)∧K1 r w' :=
 of_eq Tryd.func160 q160_fnok (by kernel_rfl) (by kernel_rfl) (q160_eq p0 K1) h
end Go.Sx
