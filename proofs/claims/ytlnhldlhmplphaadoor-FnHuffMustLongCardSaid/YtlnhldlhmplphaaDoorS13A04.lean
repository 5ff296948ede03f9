/- Lemmas for the proof: W10 W11 P05 P06. No conditions. -/
import Derived.Test.YtlnhldlhmplphaaDoorS13A03
set_option linter.unusedVariables false
set_option linter.unusedSimpArgs false
namespace Go.Sx
open Go Go.Proofs
theorem By.drop {l:List Nat} (h:By l) (n:Nat):By (l.drop n):=fun x hx=>h x (List.mem_of_mem_drop hx)
theorem By.take {l:List Nat} (h:By l) (n:Nat):By (l.take n):=fun x hx=>h x (List.mem_of_mem_take hx)
def Cb (s:HS):Prop:=∀c∈s.cs, -1≤c∧c≤32768
theorem zerosZ_cb (l:List Nat) (s:HS) (h:Cb s):Cb (zerosZ l s):=by
 have ap:∀n,Cb ⟨s.pos+2,s.ok&&okZ l s.pos 2,s.cs++List.replicate n 0⟩:=by
  intro n c hc
  rcases List.mem_append.mp hc with h1|h1
  ·exact h c h1
  ·have:=(List.mem_replicate.mp h1).2;omega
 fun_induction zerosZ l s with
 | case1 s h1 h2=>exact ap _
 | case2 s h1 h2 ih=>exact ih (ap _) (by
   intro n c hc
   rcases List.mem_append.mp hc with h1|h1
   ·exact ap _ c h1
   ·have:=(List.mem_replicate.mp h1).2;omega)
 | case3 s h1=>exact h
theorem readZ_cb (l:List Nat) (s:HS) (left:Nat) (s':HS) (left':Nat) (h:Cb s) (hl:left≤32768) (he:readZ l s left=some (s',left')):Cb s':=by
 fun_induction readZ l s left with
 | case1 s left h1 h2=>cases he
 | case2 s left h1 h2 ih =>
  have hv:=valZ_le l s.pos (left+1) (by omega)
  have hst:Cb (stepZ l s left):=by
   intro c hc
   rcases List.mem_append.mp hc with h3|h3
   ·exact h c h3
   ·simp at h3;omega
  refine ih ?_ ?_ he
  ·unfold nextZ
   split
   ·exact zerosZ_cb l _ hst
   ·exact hst
  ·unfold leftZ;split<;>omega
 | case3 s left h1=>injection he with he;injection he with h2 h3;exact h2▸h
theorem fseRead_bnd {l:List Nat} {cs:List Int} {t:Nat} {rest:List Nat} (h:fseRead l=some (cs,t,rest)):(∀c∈cs, -1≤c∧c≤32768)∧cs.length≤256∧5≤t∧t≤15∧∃n,rest=l.drop n:=by
 unfold fseRead at h
 split at h
 ·cases h
 ·split at h
  ·cases h
  ·rename_i s left hr
   split at h
   ·rename_i hc
    injection h with h
    injection h with h1 h2
    injection h2 with h2 h3
    subst h1 h2 h3
    have hp:2^(tkZ l 0 4+5)≤2^15:=Nat.pow_le_pow_right (by omega) (by omega)
    exact ⟨readZ_cb l _ _ _ _ (by intro c hc;cases hc) (by omega) hr,hc.2.2,by omega,by omega,_,rfl⟩
   ·cases h
theorem statesZ_bnd {cs:List Int} {t:Nat} {tab:List Cell3} (hc:∀c∈cs, -1≤c∧c≤32768) (hn:cs.length≤256) (ht:t=5∨t=6) (h:statesZ cs t=some tab) :
  tab.length=2^t∧∀c∈tab,c.1<256∧c.2.1≤6 ∧ -4294967296≤c.2.2∧c.2.2<4294967296:=by
 have hsz:2^t=32∨2^t=64:=by rcases ht with rfl|rfl<;>simp
 unfold statesZ at h
 split at h
 ·split at h
  ·cases h
  ·rename_i f a hsp
   split at h
   ·rename_i hpos
    injection h with h
    subst h
    refine ⟨by simp,?_⟩
    intro c hcm
    obtain ⟨i,hi,rfl⟩:=List.mem_map.mp hcm
    have hi:i<2^t:=List.mem_range.mp hi
    have h1:=hpos i hi
    rcases spreadZ_laid hsp i with h2|⟨sy,hsy,hf,_⟩
    ·omega
    ·unfold cellZ
     simp only
     have hk:kZ cs f i≤32768+64:=by
      unfold kZ
      have h3:=cntZ_le f (f i) i
      have h4:absZ (cs.getD (f i).toNat 0)≤32768:=by
       rw [hf,Int.toNat_natCast,getD_Z hsy]
       have:=hc _ (List.getElem_mem hsy)
       unfold absZ;split<;>omega
      omega
     have h6:2^(t-(kZ cs f i).log2)≤2^6:=Nat.pow_le_pow_right (by omega) (by omega)
     have h7:kZ cs f i*2^(t-(kZ cs f i).log2)≤(32768+64)*2^6:=Nat.mul_le_mul hk h6
     refine ⟨by omega,by omega,by omega,by omega⟩
   ·cases h
 ·cases h
def rawZ (l:List Nat) (i:Nat):Nat:=(if i%2=0 then l.getD (1+i/2) 0/16 else l.getD (1+i/2) 0)%16
def weightsZ (l:List Nat):Option (List Nat×Nat) :=
 match l with
 | []=>none
 | n::r =>
  if 128≤n then
   if l.length<1+(n-127+1)/2 then none else some ((List.range (n-127)).map (rawZ l),1+(n-127+1)/2)
  else if l.length<1+n then none else
   match fseRead (r.take n) with
   | none=>none
   | some (cs,t,rest)=>if 6<t then none else
    match statesZ cs t with
    | none=>none
    | some tab=>match twoStatesZ rest tab t 255 with
     | none=>none
     | some out=>some (out,1+n)
def nints (l:List Nat):List Value:=ints (l.map fun (x:Nat)=>(x:Int))
theorem slc_lh {w:World} {s:Sl} {x y:Int} {n m:Nat} {κ:Sl→PT} (hx:x=n) (hy:y=m) (hn:n≤m) (hm:m≤s.c) (h:κ ⟨slA s.a n s.c 1,m-n,s.c-n⟩ w):slc 1 s (some x) (some y) none κ w :=
 ⟨n,m,s.c,rfl,⟨hy,hm⟩,⟨hx,hn⟩,h⟩
theorem Arr.sub {k:IntKind} {w:World} {s:Sl} {l:List Nat} (h:Arr k w s l) (n m:Nat) (hn:n≤m) (hm:m≤l.length):Arr k w ⟨slA s.a n s.c 1,m-n,s.c-n⟩ ((l.drop n).take (m-n)):=by
 have h1:=h.drop n (by omega)
 have hl:=h.len
 have hc:=h.cap
 refine ⟨by simp;omega,by simp only;omega,?_,?_⟩
 ·intro e;rw [h1.non e];simp
 ·intro b hb i hi
  simp only [List.length_take,List.length_drop] at hi
  rw [h1.get b hb i (by simp;omega)]
  simp
theorem nints_app (l:List Nat) (x:Nat):nints (l ++ [x])=nints l ++ [.int .i64 (x:Nat)]:=by simp [nints,ints]
theorem c43 {w:World} {s:Sl} {l:List Nat} {K:Sl×Int×Bool→PT} (hb:Arr .u8 w s l) (hl:By l) (hn:l.length<2^40)
  (h0:weightsZ l=none→∀w' s' n',Fm w w' []→K (s',n',false) w')
  (h1:∀ws used,weightsZ l=some (ws,used)→∀w' s',Fm w w' []→Vec 1 w' s' (nints ws)→(∀x∈s'.bs,w.heap.size≤x)→K (s',((used:Nat):Int),true) w') :
  callP Tryd.prog 43 #[.slice s.a s.l s.c] [.c .S,.c (.I .i64),.c .B] K w:=by
 apply q43_ok
 unfold q43
 have hlen:=hb.len
 refine cnd_d ?_ ?_
 ·intro hc
  have:l = []:=List.length_eq_zero_iff.mp (by omega)
  subst this
  exact h0 rfl w _ _ (Fm.refl w _)
 ·intro hc
  cases l with
  | nil=>simp at hlen;omega
  | cons n r =>
  have ⟨hn256,hr⟩:=hl.cons
  have hcap:=hb.cap
  refine hb.ldk 0 rfl (by simp) ?_
  intro p hp
  refine ld_c (t := .I .u8) (x:=(n:Int)) hp ?_
  refine joinP_id ?_
  unfold q43_X6
  have en:IntKind.i64.wrap ((n:Nat):Int)=(n:Int):=wI64 (by omega) (by omega)
  simp only [en]
  simp only [weightsZ] at h0 h1
  refine cnd_d ?_ ?_
  ·intro hc2
   have hc2:128≤n:=by omega
   rw [if_pos hc2] at h0 h1
   have e1:IntKind.i64.wrap ((n:Int)-127)=((n-127:Nat):Int):=by rw [wI64 (by omega) (by omega)];omega
   have e2:IntKind.i64.wrap (((n-127:Nat):Int)+1)=((n-127+1:Nat):Int):=by rw [wI64 (by omega) (by omega)];omega
   have e3:quoI .i64 ((n-127+1:Nat):Int) 2=(((n-127+1)/2:Nat):Int):=quoI_nat .i64 _ 2 (by simp only [IntKind.bits];omega)
   have e4:IntKind.i64.wrap (1+(((n-127+1)/2:Nat):Int))=((1+(n-127+1)/2:Nat):Int):=by rw [wI64 (by omega) (by omega)];omega
   simp only [e1,e2,e3,e4]
   refine ⟨by decide,cnd_d ?_ ?_⟩
   ·intro hc3
    rw [if_pos (by omega)] at h0
    exact h0 rfl w _ _ (Fm.refl w _)
   ·intro hc3
    rw [if_neg (by omega)] at h1
    refine ⟨fun x w'=>Fm w w' []∧Vec 1 w' x (nints ((List.range (n-127)).map (rawZ (n::r))))∧∀y∈x.bs,w.heap.size≤y,?_,?_⟩
    ·rintro x w' ⟨F,hv,hx⟩
     unfold q43_J2
     simp only [en,e1,e2,e3,e4]
     exact ⟨by decide,h1 _ _ rfl w' x F hv hx⟩
    ·refine ⟨fun x w'=>∃i:Nat,x.2=(i:Int)∧i≤n-127∧Fm w w' []∧Vec 1 w' x.1 (nints ((List.range i).map (rawZ (n::r))))∧∀y∈x.1.bs,w.heap.size≤y,fun x _=>n-127-x.2.toNat,⟨0,rfl,Nat.zero_le _,Fm.refl w _,Vec.nil,by simp [Sl.bs]⟩,?_⟩
     rintro ⟨xs,xi⟩ w' ⟨i,hxi,hi,F,hv,hx⟩
     simp only at hxi hv hx
     subst hxi
     unfold q43_L1
     simp only [en,e1]
     refine cnd_d ?_ ?_
     ·intro hc4
      have hi2:i<n-127:=by omega
      have e5:quoI .i64 ((i:Nat):Int) 2=((i/2:Nat):Int):=quoI_nat .i64 _ 2 (by simp only [IntKind.bits];omega)
      have e6:IntKind.i64.wrap (1+((i/2:Nat):Int))=((1+i/2:Nat):Int):=by rw [wI64 (by omega) (by omega)];omega
      have e7:Int.tmod ((i:Nat):Int) 2=((i%2:Nat):Int):=rfl
      simp only [e5,e6,e7]
      have hil:1+i/2<(n::r).length:=by omega
      refine ⟨by decide,(hb.fr F (by simp)).ldk (1+i/2) rfl hil ?_⟩
      intro p hp
      have hxb:(n::r)[1+i/2]<256:=hl _ (List.getElem_mem hil)
      have hrw:rawZ (n::r) i=(if i%2=0 then (n::r)[1+i/2]/16 else (n::r)[1+i/2])%16:=by unfold rawZ;rw [getD_in hil]
      generalize (n::r)[1+i/2]=x at *
      refine ld_c (t := .I .u8) (x:=(x:Int)) hp ?_
      have ex:IntKind.i64.wrap ((x:Nat):Int)=(x:Int):=wI64 (by omega) (by omega)
      have e8:quoI .i64 ((x:Nat):Int) 16=((x/16:Nat):Int):=quoI_nat .i64 _ 16 (by simp only [IntKind.bits];omega)
      simp only [ex,e8]
      refine joinP_id ?_
      have hlv:=hv.len
      simp only [nints,ints_len,List.length_map,List.length_range,Nat.mul_one] at hlv
      have fin:∀y:Nat,y=(if i%2=0 then x/16 else x)→q43_J0 (xs,(i:Int)) (fun s' w'_1=>(∃i:Nat,s'.2=(i:Int)∧i≤n-127∧Fm w w'_1 []∧Vec 1 w'_1 s'.1 (nints ((List.range i).map (rawZ (n::r))))∧∀y∈s'.1.bs,w.heap.size≤y)∧n-127-s'.2.toNat<n-127-(i:Int).toNat) (y:Int) w':=by
       intro y hy
       unfold q43_J0
       simp only
       refine ⟨by decide,app_1 hv rfl (by omega) ?_⟩
       intro s2 w2 hv2 F2 hb2
       rw [wI64 (by omega) (by omega)]
       have F02:Fm w w2 []:=F.trans F2 (by intro z hz;right;exact hx z hz)
       refine ⟨⟨i+1,by simp,by omega,F02,?_,?_⟩,by first|omega|(simp only;omega)⟩
       ·rw [List.range_succ,List.map_append,List.map_cons,List.map_nil,nints_app,hrw, ←hy]
        exact hv2
       ·intro z hz
        rcases hb2 z hz with h|h
        ·exact hx z h
        ·have:=F.size;omega
      refine ⟨by decide,cnd_d ?_ ?_⟩
      ·intro hc5
       exact ⟨by decide,fin (x/16) (by rw [if_pos (by omega)])⟩
      ·intro hc5
       exact fin x (by rw [if_neg (by omega)])
     ·intro hc4
      have hi2:i=n-127:=by omega
      rw [hi2] at hv
      exact ⟨F,hv,hx⟩
  ·intro hc2
   have hc2:¬128≤n:=by omega
   rw [if_neg hc2] at h0 h1
   unfold q43_J5
   have e1:IntKind.i64.wrap (1+(n:Int))=((1+n:Nat):Int):=by rw [wI64 (by omega) (by omega)];omega
   simp only [e1]
   refine cnd_d ?_ ?_
   ·intro hc3
    rw [if_pos (by omega)] at h0
    exact h0 rfl w _ _ (Fm.refl w _)
   ·intro hc3
    rw [if_neg (by omega)] at h0 h1
    refine slc_lh (n:=1) (m:=1+n) rfl rfl (by omega) (by omega) ?_
    have hA:=hb.sub 1 (1+n) (by omega) (by omega)
    rw [List.drop_one,List.tail_cons,Nat.add_sub_cancel_left] at hA
    simp only [Nat.add_sub_cancel_left]
    have hnl:(r.take n).length<2^40:=by
     rw [List.length_take]
     rw [List.length_cons] at hn
     omega
    refine c49 (s:=⟨slA s.a 1 s.c 1,n,s.c-1⟩) (l:=r.take n) hA (hr.take n) hnl ?_ ?_
    ·intro hf w1 F1
     rw [hf] at h0
     exact ⟨fun _=>h0 rfl w1 _ _ F1,by simp⟩
    ·intro cs t rest hf w1 c rs F1 hcv hcb hrA hrb
     rw [hf] at h0 h1
     simp only at h0 h1
     obtain ⟨b1,b2,b3,b4,nd,b5⟩:=fseRead_bnd hf
     refine ⟨by simp,fun _=>cnd_d ?_ ?_⟩
     ·intro hc4
      simp only at hc4
      rw [if_pos (by omega)] at h0
      exact h0 rfl w1 _ _ F1
     ·intro hc4
      simp only at hc4
      rw [if_neg (by omega)] at h0 h1
      have ht:t=5∨t=6:=by omega
      refine c57 hcv ht (by omega) (fun c hc=>by have:=b1 c hc;omega) ?_ ?_
      ·intro hst w2 F2
       rw [hst] at h0
       exact ⟨fun _=>h0 rfl w2 _ _ (F1.trans F2 (by simp)),by simp⟩
      ·intro tab hst w2 tb F2 htb hT
       rw [hst] at h0 h1
       simp only at h0 h1
       obtain ⟨hTl,hTb⟩:=statesZ_bnd b1 b2 ht hst
       have F02:Fm w w2 []:=F1.trans F2 (by simp)
       refine ⟨by simp,fun _ => ?_⟩
       have hrl:rest.length<2^40:=by
        rw [b5]
        simp only [List.length_drop,List.length_take]
        simp only [List.length_cons] at hn
        omega
       have hTl2:tab.length≤64:=by rcases ht with rfl|rfl<;>rw [hTl]<;>decide
       have hTl3:2^t≤tab.length:=by rw [hTl];exact Nat.le_refl _
       have ht16:t≤16:=by omega
       have hT20:tab.length≤2^20:=Nat.le_trans hTl2 (by decide)
       have hcb3:∀c∈tab,c.1<2^32∧c.2.1≤16 ∧ -4294967296≤c.2.2∧c.2.2<4294967296:=by
        intro c hc
        have:=hTb c hc
        exact ⟨Nat.lt_trans this.1 (by decide),by omega,this.2.2.1,this.2.2.2⟩
       have h255:255≤2^30:=by decide
       have hrB:By rest:=by rw [b5];exact (hr.take n).drop nd
       have conv:∀(w3:World) (s3:Sl) (l3:List Nat) (ok:Bool),Fm w w3 []→Arr .u8 w3 s3 l3→By l3→l3.length≤300 →
         (∀w' s',Fm w w' []→Vec 1 w' s' (nints l3)→(∀x∈s'.bs,w.heap.size≤x)→K (s',((1+n:Nat):Int),ok) w') →
         joinP (fun R20=>loopP (⟨none,0,0⟩,(0:Int)) (q43_L3 (s3,ok) R20)) (q43_J4 K (n:Int) (s3,ok)) w3:=by
        intro w3 s3 l3 ok F3 hA3 hB3 hl3 hk
        have hlen3:=hA3.len
        refine ⟨fun x w'=>Fm w w' []∧Vec 1 w' x (nints l3)∧∀y∈x.bs,w.heap.size≤y,?_,?_⟩
        ·rintro x w' ⟨F,hv,hx⟩
         unfold q43_J4
         simp only [e1]
         exact hk w' x F hv hx
        ·refine ⟨fun x w'=>∃i:Nat,x.2=(i:Int)∧i≤l3.length∧Fm w3 w' []∧Vec 1 w' x.1 (nints (l3.take i))∧∀y∈x.1.bs,w3.heap.size≤y,fun x _=>l3.length-x.2.toNat,⟨0,rfl,Nat.zero_le _,Fm.refl w3 _,Vec.nil,by simp [Sl.bs]⟩,?_⟩
         rintro ⟨xs,xi⟩ w' ⟨i,hxi,hi,F,hv,hx⟩
         simp only at hxi hv hx
         subst hxi
         unfold q43_L3
         simp only
         refine cnd_d ?_ ?_
         ·intro hc5
          have hi2:i<l3.length:=by omega
          refine (hA3.fr F (by simp)).ldk i rfl hi2 ?_
          intro p hp
          have hxb:l3[i]<256:=hB3 _ (List.getElem_mem hi2)
          refine ld_c (t := .I .u8) (x:=((l3[i]:Nat):Int)) hp ?_
          rw [wI64 (x:=((l3[i]:Nat):Int)) (by omega) (by omega)]
          have hlv:=hv.len
          simp only [nints,ints_len,List.length_map,List.length_take,Nat.mul_one] at hlv
          refine app_1 hv rfl (by omega) ?_
          intro s2 w2 hv2 F2 hb2
          rw [wI64 (by omega) (by omega)]
          refine ⟨⟨i+1,by simp,by omega,F.trans F2 (by intro z hz;right;exact hx z hz),?_,?_⟩,by first|omega|(simp only;omega)⟩
          ·rw [List.take_succ_eq_append_getElem hi2,nints_app]
           exact hv2
          ·intro z hz
           rcases hb2 z hz with h|h
           ·exact hx z h
           ·have:=F.size;omega
         ·intro hc5
          have hi2:i=l3.length:=by omega
          subst hi2
          rw [List.take_length] at hv
          have:=F3.size
          exact ⟨F3.trans F (by simp),hv,fun y hy=>by have:=hx y hy;omega⟩
       refine c60 (limit:=255) (hrA.fr F2 (by simp)) hrB hrl hT ht16 hTl3 hT20 h255 hcb3 ?_ ?_
       ·intro hts w3 s3 l3 F3 hA3 hB3 hl3
        rw [hts] at h0
        refine conv w3 s3 l3 false (F02.trans F3 (by simp)) hA3 hB3 (by omega) ?_
        intro w' s' F _ _
        exact h0 rfl w' s' _ F
       ·intro out hts w3 s3 F3 hA3 hB3 hbs
        rw [hts] at h1
        have hol:out.length≤300:=by
         have:=hA3.len
         have hh:∀(left:Int) (a b:Nat) (o res:List Nat),o.length≤255→twoZ rest tab 255 left a b o=some res→res.length≤255:=by
          intro left a b o res
          fun_induction twoZ rest tab 255 left a b o with
          | case1=>intro _ h;cases h
          | case2=>intro _ h;cases h
          | case3=>intro _ h;cases h
          | case4=>intro _ h;cases h
          | case5=>intro ho h;injection h with h;subst h;simp;omega
          | case6=>intro _ h;cases h
          | case7 left a b o hz c hca hlf hb ih=>intro ho h;exact ih (by simp;omega) h
         unfold twoStatesZ at hts
         split at hts
         ·cases hts
         ·split at hts
          ·have:=hh _ _ _ _ _ (by simp) hts;omega
          ·cases hts
        refine conv w3 s3 out true (F02.trans F3 (by simp)) hA3 hB3 hol ?_
        intro w' s' F hv hx
        exact h1 out (1+n) rfl w' s' F hv hx
def wOf (w:Nat):Nat:=if w=0 then 0 else 2^(w-1)
def wsum (ws:List Nat):Nat:=(ws.map wOf).sum
def lenF (longest:Nat) (ws:List Nat) (i:Nat):Int:=((if 0<ws.getD i 0 then longest+1-ws.getD i 0 else 0:Nat):Int)
def someZ (ws:List Nat):Nat:=(ws.map fun w=>if 0<w then 1 else 0).sum
def lastZ (ws:List Nat):Nat:=2^((wsum ws).log2+1)-wsum ws
def fullZ (ws:List Nat):List Nat:=ws ++ [(lastZ ws).log2+1]
def hlZ (l:List Nat):Option ((Nat→Int)×Nat) :=
 match weightsZ l with
 | none=>none
 | some (ws,used) =>
  if ws.length≤255∧(∀w∈ws,w≤12)∧wsum ws≠0∧(wsum ws).log2+1≤11∧lastZ ws=2^(lastZ ws).log2∧1<someZ (fullZ ws) then
   some (lenF ((wsum ws).log2+1) (fullZ ws),used)
  else none
theorem sum_take {f:Nat→Nat} {l:List Nat} {i:Nat} (h:i<l.length):((l.take (i+1)).map f).sum=((l.take i).map f).sum+f l[i]:=by
 rw [List.take_succ_eq_append_getElem h,List.map_append,List.sum_append]
 simp only [List.map_cons,List.map_nil,List.sum_cons,List.sum_nil,Nat.add_zero]
theorem sum_take_le (f:Nat→Nat) (l:List Nat) (M i:Nat) (h:∀c∈l,f c≤M):((l.take i).map f).sum≤i*M:=by
 induction i with
 | zero=>simp
 | succ i ih =>
  rw [Nat.succ_mul]
  by_cases hi:i<l.length
  ·rw [sum_take hi]
   have:=h _ (List.getElem_mem hi)
   omega
  ·rw [List.take_of_length_le (by omega)] at ih ⊢
   omega
theorem wOf_le {w:Nat} (h:w≤12):wOf w≤2048:=by
 unfold wOf
 split
 ·omega
 ·exact Nat.le_trans (Nat.pow_le_pow_right (by omega) (show w-1≤11 by omega)) (by decide)
theorem nints_len (l:List Nat):(nints l).length=l.length:=by simp [nints,ints]
theorem Vec.ldN {w:World} {s:Sl} {l:List Nat} {i:Int} (n:Nat) {κ:Addr→PT} (h:Vec 1 w s (nints l)) (hi:i=n) (hn:n<l.length) (hk:∀p,w.cell? p=some (.int .i64 (l[n]:Nat))→κ p w):ixS 1 s i κ w:=by
 refine Vec.ldI (l:=l.map fun (x:Nat)=>(x:Int)) n h hi (by simpa using hn) ?_
 intro p hp
 simp only [List.getElem_map] at hp
 exact hk p hp
theorem fullZ_lt {ws:List Nat} {i:Nat} (h:i<(fullZ ws).length) (hi:i<ws.length):(fullZ ws)[i]=ws[i]:=List.getElem_append_left hi
theorem fullZ_last {ws:List Nat} {i:Nat} (h:i<(fullZ ws).length) (hi:i=ws.length):(fullZ ws)[i]=(lastZ ws).log2+1:=by
 subst hi
 exact List.getElem_concat_length rfl _
theorem c15 {w:World} {s:Sl} {l:List Nat} {K:Sl×Int×Bool→PT} (hb:Arr .u8 w s l) (hl:By l) (hn:l.length<2^40)
  (h0:hlZ l=none→∀w' s' n',Fm w w' []→K (s',n',false) w')
  (h1:∀f used,hlZ l=some (f,used)→∀w' b,Fm w w' []→w.heap.size≤b→Blk w' b (arrC .i64 256 f)→K (⟨some ⟨b,0,none⟩,256,256⟩,((used:Nat):Int),true) w') :
  callP Tryd.prog 15 #[.slice s.a s.l s.c] [.c .S,.c (.I .i64),.c .B] K w:=by
 apply q15_ok
 unfold q15
 refine c43 hb hl hn ?_ ?_
 ·intro hw w1 s1 n1 F1
  unfold hlZ at h0
  rw [hw] at h0
  exact ⟨fun _=>h0 rfl w1 _ _ F1,by simp⟩
 ·intro ws used hw w1 s1 F1 hv hx
  unfold hlZ at h0 h1
  rw [hw] at h0 h1
  simp only at h0 h1
  have hlv:=hv.len
  rw [nints_len,Nat.mul_one] at hlv
  refine ⟨by simp,fun _=>cnd_d ?_ ?_⟩
  ·intro hc
   simp only at hc
   rw [if_neg (by omega)] at h0
   exact h0 rfl w1 _ _ F1
  ·intro hc
   simp only at hc
   have hw255:ws.length≤255:=by omega
   refine ⟨fun x w'=>x=(((used:Nat):Int),((wsum ws:Nat):Int))∧w'=w1∧∀w∈ws,w≤12,?_,?_⟩
   ·rintro x w' ⟨rfl,hww,hle12⟩
    have hww:=hww.symm
    subst hww
    have hsum:wsum ws≤255*2048:=by
     have:=sum_take_le wOf ws 2048 ws.length (fun c hc=>wOf_le (hle12 c hc))
     rw [List.take_length] at this
     exact Nat.le_trans this (Nat.mul_le_mul_right _ hw255)
    unfold q15_J5
    simp only
    refine cnd_d ?_ ?_
    ·intro hc2
     rw [if_neg (by intro hh;exact hh.2.2.1 (by omega))] at h0
     exact h0 rfl w1 _ _ F1
    ·intro hc2
     have hs0:wsum ws≠0:=by omega
     have hslog:=Nat.lt_log2_self (n:=wsum ws)
     have hsl2:=Nat.log2_self_le hs0
     have hlg19:(wsum ws).log2<20:=(Nat.log2_lt hs0).mpr (by omega)
     have hp20:2^((wsum ws).log2+1)≤2^20:=Nat.pow_le_pow_right (by omega) (by omega)
     have hlast0:0<lastZ ws:=by unfold lastZ;omega
     have hlast1:lastZ ws≤2^(wsum ws).log2:=by unfold lastZ;rw [Nat.pow_succ];omega
     refine c44 (by omega) (by omega) ?_
     have e1:IntKind.i64.wrap ((((wsum ws).log2:Nat):Int)+1)=(((wsum ws).log2+1:Nat):Int):=by rw [wI64 (by omega) (by omega)];omega
     have e2:shlI .i64 1 (((wsum ws).log2+1:Nat):Int)=((2^((wsum ws).log2+1):Nat):Int):=by
      have:=shlI_nat .i64 1 ((wsum ws).log2+1) (by simp only [IntKind.bits];omega) (by simp only [IntKind.bits];omega)
      rw [Nat.one_mul] at this;exact this
     have e3:IntKind.i64.wrap (((2^((wsum ws).log2+1):Nat):Int)-((wsum ws:Nat):Int))=((lastZ ws:Nat):Int):=by
      rw [wI64 (by omega) (by omega)];unfold lastZ;omega
     simp only [e1,e2,e3]
     refine ⟨by omega,cnd_d ?_ ?_⟩
     ·intro hc3
      rw [if_neg (by intro hh;have:=hh.2.2.2.1;omega)] at h0
      exact h0 rfl w1 _ _ F1
     ·intro hc3
      have hlong:(wsum ws).log2+1≤11:=by omega
      have hp10:2^(wsum ws).log2≤2^10:=Nat.pow_le_pow_right (by omega) (by omega)
      refine c44 hlast0 (by omega) ?_
      have hll:(lastZ ws).log2<11:=(Nat.log2_lt (by omega)).mpr (by omega)
      have e4:shlI .i64 1 (((lastZ ws).log2:Nat):Int)=((2^(lastZ ws).log2:Nat):Int):=by
       have hpl:2^(lastZ ws).log2≤2^11:=Nat.pow_le_pow_right (by omega) (by omega)
       have:=shlI_nat .i64 1 (lastZ ws).log2 (by simp only [IntKind.bits];omega) (by simp only [IntKind.bits];omega)
       rw [Nat.one_mul] at this;exact this
      rw [e4]
      refine ⟨by omega,cnd_nd ?_ ?_⟩
      ·intro hc4
       rw [if_neg (by intro hh;exact hc4 (by exact_mod_cast hh.2.2.2.2.1))] at h0
       exact h0 rfl w1 _ _ F1
      ·intro hc4
       refine c44 hlast0 (by omega) ?_
       have e5:IntKind.i64.wrap ((((lastZ ws).log2:Nat):Int)+1)=(((lastZ ws).log2+1:Nat):Int):=by rw [wI64 (by omega) (by omega)];omega
       simp only [e5]
       refine app_1 hv rfl (by omega) ?_
       intro s2 w2 hv2 F2 hb2
       rw [←nints_app] at hv2
       have hfull:ws ++ [(lastZ ws).log2+1]=fullZ ws:=rfl
       rw [hfull] at hv2
       have hfl:(fullZ ws).length=ws.length+1:=by simp [fullZ]
       have hlv2:=hv2.len
       rw [nints_len,Nat.mul_one,hfl] at hlv2
       have F02:Fm w w2 []:=F1.trans F2 (by intro x hx2;right;exact hx x hx2)
       refine mks1 (n:=256) rfl rfl (by omega) ?_
       intro w3 F3 hs3 B3
       have hv3:=hv2.fr F3 (by simp)
       have hsz2:=F02.size
       have hx3:∀x∈s2.bs,x<w2.heap.size:=hv2.lt
       refine ⟨fun x w'=>x=((someZ (fullZ ws):Nat):Int)∧Fm w w' []∧Blk w' w2.heap.size (arrC .i64 256 (lenF ((wsum ws).log2+1) (fullZ ws))),?_,?_⟩
       ·rintro x w' ⟨rfl,F,B⟩
        unfold q15_J4
        simp only
        by_cases hs:1<someZ (fullZ ws)
        ·rw [if_pos ⟨hw255,hle12,hs0,hlong,by exact_mod_cast hc4,hs⟩] at h1
         rw [show decide ((1:Int)<((someZ (fullZ ws):Nat):Int))=true by simp;omega]
         exact h1 _ _ rfl w' _ F hsz2 B
        ·rw [if_neg (by intro hh;exact hs hh.2.2.2.2.2)] at h0
         rw [show decide ((1:Int)<((someZ (fullZ ws):Nat):Int))=false by simp;omega]
         exact h0 rfl w' _ _ F
       ·have hfb:∀x∈fullZ ws,x≤12:=by
         intro x hx
         rcases List.mem_append.mp hx with h|h
         ·exact hle12 x h
         ·simp at h;omega
        refine ⟨fun x w'=>∃i:Nat,x=((((((fullZ ws).take i).map fun w=>if 0<w then 1 else 0).sum:Nat):Int),(i:Int))∧i≤(fullZ ws).length∧Fm w w' []∧Vec 1 w' s2 (nints (fullZ ws)) ∧
         Blk w' w2.heap.size (arrC .i64 256 fun j=>if j<i then lenF ((wsum ws).log2+1) (fullZ ws) j else 0),fun x _=>(fullZ ws).length-x.2.toNat,⟨0,by simp,Nat.zero_le _,F02.trans F3 (by simp),hv3,B3.congr (by simp)⟩,?_⟩
        rintro x w' ⟨i,rfl,hi,F,hvv,B⟩
        unfold q15_L3
        simp only
        refine cnd_d ?_ ?_
        ·intro hc5
         have hi2:i<(fullZ ws).length:=by omega
         have hst:=sum_take (f:=fun w=>if 0<w then 1 else 0) hi2
         have hsle:=sum_take_le (fun w=>if 0<w then 1 else 0) (fullZ ws) 1 i (by intro c _;split<;>omega)
         have hfi:=hfb _ (List.getElem_mem hi2)
         have hlenF:lenF ((wsum ws).log2+1) (fullZ ws) i=((if 0<(fullZ ws)[i] then (wsum ws).log2+1+1-(fullZ ws)[i] else 0:Nat):Int):=by unfold lenF;rw [getD_in hi2]
         refine joinP_id ?_
         refine hvv.ldN i rfl hi2 ?_
         intro p hp
         refine ld_c (t := .I .i64) (x:=(((fullZ ws)[i]:Nat):Int)) hp ?_
         generalize hsg:(((fullZ ws).take i).map fun w=>if 0<w then 1 else 0).sum=sg at *
         unfold q15_J2
         simp only
         rw [wI64 (x:=(i:Int)+1) (by omega) (by omega)]
         refine cnd_d ?_ ?_
         ·intro hc6
          have hi256:i<256:=by omega
          refine ixS1 rfl hi256 ?_
          refine st_b B (by rw [arrC_get hi256];rfl) rfl ?_
          have hsum2:(fullZ ws)[i]≤(wsum ws).log2+1+1:=by
           by_cases hiw:i<ws.length
           ·have hfe:(fullZ ws)[i]=ws[i]:=fullZ_lt hi2 hiw
            rw [hfe] at hc6 ⊢
            have hmem:wOf ws[i]≤wsum ws:=mem_le_sum (List.mem_map_of_mem (List.getElem_mem hiw))
            unfold wOf at hmem
            rw [if_neg (by omega)] at hmem
            have h5:2^(ws[i]-1)<2^((wsum ws).log2+1):=Nat.lt_of_le_of_lt hmem hslog
            have h6:=(Nat.pow_lt_pow_iff_right (a:=2) (by omega)).mp h5
            omega
           ·have hfe:(fullZ ws)[i]=(lastZ ws).log2+1:=fullZ_last hi2 (by omega)
            rw [hfe]
            have h5:(lastZ ws).log2≤(wsum ws).log2:=by
             have:=Nat.log2_self_le (n:=lastZ ws) (by omega)
             have h7:2^(lastZ ws).log2≤2^(wsum ws).log2:=Nat.le_trans this hlast1
             exact (Nat.pow_le_pow_iff_right (a:=2) (by omega)).mp h7
            omega
          rw [e1,wI64 (x:=(((wsum ws).log2+1:Nat):Int)+1) (by omega) (by omega),wI64 (x:=(((wsum ws).log2+1:Nat):Int)+1-_) (by omega) (by omega)]
          have B4:=B.setW (o:=i) (v := .int .i64 ((((wsum ws).log2+1:Nat):Int)+1-(((fullZ ws)[i]:Nat):Int))) (by rw [arrC_get hi256];rfl) (arrC_upd hi256)
          have F4:Fm w' (w'.setCell ⟨w2.heap.size,i,none⟩ (.int .i64 ((((wsum ws).log2+1:Nat):Int)+1-(((fullZ ws)[i]:Nat):Int)))) [w2.heap.size]:=(Fm.refl _ _).set (.inl (by simp))
          refine ⟨⟨i+1,?_,by omega,F.trans F4 (by intro x hx5;right;simp at hx5;omega),hvv.fr F4 ?_,B4.congr ?_⟩,by omega⟩
          ·rw [hst,if_pos (by omega),wI64 (by omega) (by omega)];simp
          ·intro x hx5
           have:=hx3 x hx5
           simp;omega
          ·congr 1
           funext j
           unfold updF
           simp only
           by_cases e:j=i
           ·subst e
            rw [if_pos rfl,if_pos (by omega),hlenF,if_pos (by omega)];omega
           ·rw [if_neg e]
            by_cases e2:j<i
            ·rw [if_pos e2,if_pos (by omega)]
            ·rw [if_neg e2,if_neg (by omega)]
         ·intro hc6
          refine ⟨⟨i+1,?_,by omega,F,hvv,B.congr ?_⟩,by omega⟩
          ·rw [hst,if_neg (by omega)];simp
          ·congr 1
           funext j
           by_cases e:j=i
           ·subst e
            rw [if_neg (by omega),if_pos (by omega),hlenF,if_neg (by omega)];rfl
           ·by_cases e2:j<i
            ·rw [if_pos e2,if_pos (by omega)]
            ·rw [if_neg e2,if_neg (by omega)]
        ·intro hc5
         have hi2:i=(fullZ ws).length:=by omega
         refine ⟨?_,F,B.congr ?_⟩
         ·rw [hi2,List.take_length];rfl
         ·congr 1
          funext j
          split
          ·rfl
          ·unfold lenF
           rw [getD_out (by omega)];rfl
   ·refine ⟨fun x w'=>w'=w1∧∃i:Nat,i≤ws.length∧x=(((used:Nat):Int),((((ws.take i).map wOf).sum:Nat):Int),(i:Int))∧∀j (h:j<ws.length),j<i→ws[j]≤12,fun x _=>ws.length-x.2.2.toNat,⟨rfl,0,Nat.zero_le _,rfl,by simp⟩,?_⟩
    rintro x w' ⟨rfl,i,hi,rfl,h12⟩
    unfold q15_L1
    simp only
    refine cnd_d ?_ ?_
    ·intro hc2
     have hi2:i<ws.length:=by omega
     refine joinP_id ?_
     refine hv.ldN i rfl hi2 ?_
     intro p hp
     refine ld_c (t := .I .i64) (x:=((ws[i]:Nat):Int)) hp ?_
     refine cnd_d ?_ ?_
     ·intro hc3
      rw [if_neg (by intro hh;have:=hh.2.1 _ (List.getElem_mem hi2);omega)] at h0
      exact h0 rfl w' _ _ F1
     ·intro hc3
      have hst:=sum_take (f:=wOf) hi2
      have hw12:ws[i]≤12:=by omega
      have hwo:=wOf_le hw12
      have hsle:((ws.take i).map wOf).sum≤i*2048:=by
       have:∀c∈ws.take i,wOf c≤2048:=by
        intro c hc
        obtain ⟨j,hj,rfl⟩:=List.mem_iff_getElem.mp hc
        simp only [List.length_take] at hj
        rw [List.getElem_take]
        exact wOf_le (h12 j (by omega) (by omega))
       have:=sum_take_le wOf (ws.take i) 2048 i this
       rw [List.take_take,Nat.min_self] at this
       exact this
      have hi3:i*2048≤255*2048:=Nat.mul_le_mul_right _ (by omega)
      have hnext:∀j (h:j<ws.length),j<i+1→ws[j]≤12:=by
       intro j hj hji
       by_cases e:j=i
       ·subst e;exact hw12
       ·exact h12 j hj (by omega)
      generalize hsg:((ws.take i).map wOf).sum=sg at *
      unfold q15_J0
      simp only
      rw [wI64 (x:=(i:Int)+1) (by omega) (by omega)]
      refine cnd_d ?_ ?_
      ·intro hc4
       have e1:IntKind.i64.wrap (((ws[i]:Nat):Int)-1)=((ws[i]-1:Nat):Int):=by rw [wI64 (by omega) (by omega)];omega
       have hwe:wOf ws[i]=2^(ws[i]-1):=by unfold wOf;rw [if_neg (by omega)]
       have e2:shlI .i64 1 ((ws[i]-1:Nat):Int)=((wOf ws[i]:Nat):Int):=by
        have:=shlI_nat .i64 1 (ws[i]-1) (by simp only [IntKind.bits];omega) (by simp only [IntKind.bits];omega)
        rw [Nat.one_mul] at this;rw [hwe];exact this
       rw [e1,e2,wI64 (by omega) (by omega)]
       exact ⟨by omega,⟨rfl,i+1,by omega,by rw [hst];simp,hnext⟩,by omega⟩
      ·intro hc4
       have hwe:wOf ws[i]=0:=by unfold wOf;rw [if_pos (by omega)]
       exact ⟨⟨rfl,i+1,by omega,by rw [hst,hwe];simp,hnext⟩,by omega⟩
    ·intro hc2
     have hi2:i=ws.length:=by omega
     refine ⟨?_,rfl,?_⟩
     ·rw [hi2,List.take_length];rfl
     ·intro x hx
      obtain ⟨j,hj,rfl⟩:=List.mem_iff_getElem.mp hx
      exact h12 j hj (by omega)
end Go.Sx
namespace Go.Sx
open Go Go.Proofs
set_option maxRecDepth 100000
def q110_J0 (p0:Addr) (K1:Unit→PT) (x14:Int):PT :=
 st (Addr.add p0 529) (.int .u8 x14)<|K1 ()
def q110_J1 (p0:Addr) (K1:Unit→PT) (x12:Int):PT :=
 joinP (fun R13=>cnd (decide ((12:Int)<x12)) (R13 (12:Int)) (R13 x12)) (q110_J0 p0 K1)
def q110_J2 (p0:Addr) (K1:Unit→PT) (x10:Int):PT :=
 joinP (fun R11=>cnd (decide (x10<(5:Int))) (R11 (5:Int)) (R11 x10)) (q110_J1 p0 K1)
def q110_J3 (p0:Addr) (K1:Unit→PT) (r3:Int) (x8:Int):PT :=
 joinP (fun R9=>cnd (decide (x8<r3)) (R9 r3) (R9 x8)) (q110_J2 p0 K1)
def q110 (p0:Addr) (K1:Unit→PT):PT :=
 ld (.I .u8) (Addr.add p0 533) fun (n2:Int)=>callP Tryd.prog 135 #[(.pointer (some p0))] [.c (.I .u8)] fun (r3:Int)=>ldL [.S,(.I .i64)] (Addr.add p0 512) 0 fun (r4:(Sl×Int))=>callP Tryd.prog 93 #[(.agg ⟨[(.slice r4.1.a r4.1.l r4.1.c),(.int .i64 r4.2)]⟩)] [.c (.I .i64)] fun (r5:Int)=>callP Tryd.prog 98 #[(.int .u32 (IntKind.wrap .u32 (IntKind.wrap .i64 (r5-(1:Int)))))] [.c (.I .u32)] fun (r6:Int)=>joinP (fun R7=>cnd (decide ((IntKind.wrap .u8 ((IntKind.wrap .u8 r6)-(2:Int)))<n2)) (R7 (IntKind.wrap .u8 ((IntKind.wrap .u8 r6)-(2:Int)))) (R7 n2)) (q110_J3 p0 K1 r3)
def h110:Hint:=⟨(.n (.n (.n .e 15 ([(2,.c (.I .u8))],[3,0]) .e) 31 ([(2,.c (.I .u8))],[0]) .e) 63 ([(2,.c (.I .u8))],[0]) (.n .e 127 ([(2,.c (.I .u8))],[0]) .e)),.e⟩
theorem q110_eq (p0:Addr) (K1:Unit→PT):fnE Cx h110 [] Tryd.f110 [.pt p0] K1=q110 p0 K1:=by kernel_rfl
theorem q110_fnok:fnOk Tryd.f110 1=true:=by kernel_rfl
theorem q110_ok (p0:Addr) (K1:Unit→PT) {w:World} (h:q110 p0 K1 w):Calls Tryd.prog 110 #[(.pointer (some p0))] w fun e w'=>∃r,e = .returned (resMk [] r)∧K1 r w' :=
 of_eq Tryd.func110 q110_fnok (by kernel_rfl) (by kernel_rfl) (q110_eq p0 K1) h
def q111_J0 (p0:Addr) (x10:(Int×Int×Int×Int)) (R12:Int×Int×Int→PT) (x20:(Int)) (x22:Int×Int):PT :=
 ixA 1 256 (Addr.add p0 256) x10.2.2.2 fun (p23:Addr)=>st p23 (.int .i16 x20)<|R12 ((IntKind.wrap .i16 (x10.1-x20)),x22.1,x22.2)
def q111_J1 (p0:Addr) (x10:(Int×Int×Int×Int)) (R12:Int×Int×Int→PT) (x20:Int):PT :=
 joinP (fun R21=>cnd (decide (x10.2.2.1<x20)) (R21 (x10.2.2.2,x20)) (R21 (x10.2.1,x10.2.2.1))) (q111_J0 p0 x10 R12 x20)
def q111_X2 (n2:Int) (r4:Int) (n14:Int) (R17:Int→PT):PT :=
 cnd (decide ((IntKind.wrap .i16 (shrI .u64 (IntKind.wrap .u64 ((IntKind.wrap .u64 n14)*(quoI .u64 (4611686018427387904:Int) (IntKind.wrap .u64 r4)))) (IntKind.wrap .u64 ((62:Int)-(IntKind.wrap .u64 n2)))))<(8:Int))) (ixA 1 8 ⟨6,0,none⟩ (IntKind.wrap .i16 (shrI .u64 (IntKind.wrap .u64 ((IntKind.wrap .u64 n14)*(quoI .u64 (4611686018427387904:Int) (IntKind.wrap .u64 r4)))) (IntKind.wrap .u64 ((62:Int)-(IntKind.wrap .u64 n2))))) fun (p18:Addr)=>ld (.I .u32) p18 fun (n19:Int)=>req (0≤(IntKind.wrap .u64 ((62:Int)-(IntKind.wrap .u64 n2))))<|cnd (decide ((IntKind.wrap .u64 ((shlI .u64 (1:Int) (IntKind.wrap .u64 ((IntKind.wrap .u64 ((62:Int)-(IntKind.wrap .u64 n2)))-(20:Int))))*(IntKind.wrap .u64 n19)))<(IntKind.wrap .u64 ((IntKind.wrap .u64 ((IntKind.wrap .u64 n14)*(quoI .u64 (4611686018427387904:Int) (IntKind.wrap .u64 r4))))-(shlI .u64 (IntKind.wrap .u64 (IntKind.wrap .i16 (shrI .u64 (IntKind.wrap .u64 ((IntKind.wrap .u64 n14)*(quoI .u64 (4611686018427387904:Int) (IntKind.wrap .u64 r4)))) (IntKind.wrap .u64 ((62:Int)-(IntKind.wrap .u64 n2)))))) (IntKind.wrap .u64 ((62:Int)-(IntKind.wrap .u64 n2)))))))) (R17 (IntKind.wrap .i16 ((IntKind.wrap .i16 (shrI .u64 (IntKind.wrap .u64 ((IntKind.wrap .u64 n14)*(quoI .u64 (4611686018427387904:Int) (IntKind.wrap .u64 r4)))) (IntKind.wrap .u64 ((62:Int)-(IntKind.wrap .u64 n2)))))+(1:Int)))) (R17 (IntKind.wrap .i16 (shrI .u64 (IntKind.wrap .u64 ((IntKind.wrap .u64 n14)*(quoI .u64 (4611686018427387904:Int) (IntKind.wrap .u64 r4)))) (IntKind.wrap .u64 ((62:Int)-(IntKind.wrap .u64 n2))))))) (R17 (IntKind.wrap .i16 (shrI .u64 (IntKind.wrap .u64 ((IntKind.wrap .u64 n14)*(quoI .u64 (4611686018427387904:Int) (IntKind.wrap .u64 r4)))) (IntKind.wrap .u64 ((62:Int)-(IntKind.wrap .u64 n2))))))
def q111_J3 (x10:(Int×Int×Int×Int)) (A11:(Int×Int×Int×Int)→PT) (x24:Int×Int×Int):PT :=
 A11 (x24.1,x24.2.1,x24.2.2,(IntKind.wrap .i64 (x10.2.2.2+(1:Int))))
def q111_X4 (p0:Addr) (n2:Int) (r4:Int) (r6:Int) (s9:Sl) (x10:(Int×Int×Int×Int)) (R12:(Int×Int×Int)→PT):PT :=
 ixS 1 s9 x10.2.2.2 fun (p13:Addr)=>ld (.I .u32) p13 fun (n14:Int)=>cnd (decide (n14=(0:Int))) (ixA 1 256 (Addr.add p0 256) x10.2.2.2 fun (p15:Addr)=>st p15 (.int .i16 (0:Int))<|R12 (x10.1,x10.2.1,x10.2.2.1)) (cnd (decide (n14≤(IntKind.wrap .u32 (shrI .i64 r6 n2)))) (ixA 1 256 (Addr.add p0 256) x10.2.2.2 fun (p16:Addr)=>st p16 (.int .i16 (-1:Int))<|R12 ((IntKind.wrap .i16 (x10.1-(1:Int))),x10.2.1,x10.2.2.1)) (req (0≤(IntKind.wrap .u64 ((62:Int)-(IntKind.wrap .u64 n2))))<|joinP (q111_X2 n2 r4 n14) (q111_J1 p0 x10 R12)))
def q111_L5 (p0:Addr) (n2:Int) (r4:Int) (r6:Int) (R7:Int×Int→PT) (s9:Sl) (x10:Int×Int×Int×Int) (A11:(Int×Int×Int×Int)→PT):PT :=
 cnd (decide (x10.2.2.2<(s9.l:Int))) (joinP (q111_X4 p0 n2 r4 r6 s9 x10) (q111_J3 x10 A11)) (R7 (x10.1,x10.2.1))
def q111_J6 (p0:Addr) (K1:(Value)→PT) (x25:Int×Int):PT :=
 ixA 1 256 (Addr.add p0 256) x25.2 fun (p26:Addr)=>ld (.I .i16) p26 fun (n27:Int)=>req (0≤(1:Int))<|cnd (decide ((shrI .i16 n27 (1:Int))≤(IntKind.wrap .i16 (0-x25.1)))) (callP Tryd.prog 136 #[(.pointer (some p0))] [.c .V] fun (r28:Value)=>K1 r28) (drw<|ixA 1 256 (Addr.add p0 256) x25.2 fun (p29:Addr)=>ld (.I .i16) p29 fun (n30:Int)=>ixA 1 256 (Addr.add p0 256) x25.2 fun (p31:Addr)=>st p31 (.int .i16 (IntKind.wrap .i16 (n30+x25.1)))<|K1 .nilIface)
def q111 (p0:Addr) (K1:(Value)→PT):PT :=
 ld (.I .u8) (Addr.add p0 529) fun (n2:Int)=>ldL [.S,(.I .i64)] (Addr.add p0 512) 0 fun (r3:(Sl×Int))=>callP Tryd.prog 93 #[(.agg ⟨[(.slice r3.1.a r3.1.l r3.1.c),(.int .i64 r3.2)]⟩)] [.c (.I .i64)] fun (r4:Int)=>req ((IntKind.wrap .u64 r4)≠0)<|req (0≤(IntKind.wrap .u64 ((IntKind.wrap .u64 ((62:Int)-(IntKind.wrap .u64 n2)))-(20:Int))))<|req (0≤n2)<|ldL [.S,(.I .i64)] (Addr.add p0 512) 0 fun (r5:(Sl×Int))=>callP Tryd.prog 93 #[(.agg ⟨[(.slice r5.1.a r5.1.l r5.1.c),(.int .i64 r5.2)]⟩)] [.c (.I .i64)] fun (r6:Int)=>req (0≤n2)<|joinP (fun R7=>drw<|ld (.I .u16) (Addr.add p0 528) fun (n8:Int)=>slcA 1 256 p0 none (some n8) none fun (s9:Sl)=>loopP ((shlI .i16 (1:Int) n2),(0:Int),(0:Int),(0:Int)) (q111_L5 p0 n2 r4 r6 R7 s9)) (q111_J6 p0 K1)
def h111:Hint:=⟨(.n (.n (.n .e 1023 ([(7,.c (.I .i16)),(8,.c (.I .i64))],[0]) .e) 8186 ([(7,.c (.I .i16)),(8,.c (.I .i64)),(9,.c (.I .i16)),(52,.c (.I .i64))],[0,10,4,5,6,50,51]) .e) 65491 ([(7,.c (.I .i16)),(8,.c (.I .i64)),(9,.c (.I .i16))],[52,0,10,4,5,6,50,51]) (.n (.n .e 8382879 ([(13,.c (.I .i16))],[8,9,11,7,52,0,10,4,5,6,50,51]) .e) 16765759 ([(8,.c (.I .i64)),(9,.c (.I .i16))],[11,7,13,52,0,10,4,5,6,50,51]) .e)),.e⟩
theorem q111_eq (p0:Addr) (K1:(Value)→PT):fnE Cx h111 [.c .V] Tryd.f111 [.pt p0] K1=q111 p0 K1:=by kernel_rfl
theorem q111_fnok:fnOk Tryd.f111 1=true:=by kernel_rfl
theorem q111_ok (p0:Addr) (K1:(Value)→PT) {w:World} (h:q111 p0 K1 w):Calls Tryd.prog 111 #[(.pointer (some p0))] w fun e w'=>∃r,e = .returned (resMk [.c .V] r)∧K1 r w' :=
 of_eq Tryd.func111 q111_fnok (by kernel_rfl) (by kernel_rfl) (q111_eq p0 K1) h
def q112_L0 (p0:Addr) (R16:Int→PT) (x17:Int) (A18:Int→PT):PT :=
 ixA 1 256 (Addr.add p0 256) x17 fun (p19:Addr)=>ld (.I .i16) p19 fun (n20:Int)=>cnd (decide (n20=(0:Int))) (A18 (IntKind.wrap .u16 (x17+(1:Int)))) (R16 x17)
def q112_L1 (s11:Sl) (x13:(Bool×Int×Int×Int×Int×Int×Int×Int)) (x21:(Int)) (R22:Int×Int×Int→PT) (x23:Int×Int×Int) (A24:(Int×Int×Int)→PT):PT :=
 cnd (decide ((IntKind.wrap .u16 (x23.2.2+(24:Int)))≤x21)) (req (0≤x13.2.2.2.1)<|ixS 1 s11 x23.2.1 fun (p25:Addr)=>st p25 (.int .u8 (IntKind.wrap .u8 (IntKind.wrap .u32 (x23.1+(shlI .u32 (65535:Int) x13.2.2.2.1)))))<|req (0≤(8:Int))<|ixS 1 s11 (IntKind.wrap .u64 (x23.2.1+(1:Int))) fun (p26:Addr)=>st p26 (.int .u8 (IntKind.wrap .u8 (shrI .u32 (IntKind.wrap .u32 (x23.1+(shlI .u32 (65535:Int) x13.2.2.2.1))) (8:Int))))<|req (0≤(16:Int))<|A24 ((shrI .u32 (IntKind.wrap .u32 (x23.1+(shlI .u32 (65535:Int) x13.2.2.2.1))) (16:Int)),(IntKind.wrap .u64 (x23.2.1+(2:Int))),(IntKind.wrap .u16 (x23.2.2+(24:Int))))) (R22 (x23.1,x23.2.1,x23.2.2))
def q112_L2 (x21:(Int)) (R28:Int×Int×Int→PT) (x29:Int×Int×Int) (A30:(Int×Int×Int)→PT):PT :=
 cnd (decide ((IntKind.wrap .u16 (x29.2.2+(3:Int)))≤x21)) (req (0≤x29.2.1)<|A30 ((IntKind.wrap .u32 (x29.1+(shlI .u32 (3:Int) x29.2.1))),(IntKind.wrap .u64 (x29.2.1+(2:Int))),(IntKind.wrap .u16 (x29.2.2+(3:Int))))) (R28 (x29.1,x29.2.1,x29.2.2))
def q112_J3 (s11:Sl) (R15:Int×Int×Int×Int→PT) (x21:(Int)) (x27:(Int×Int×Int)) (x31:Int×Int×Int):PT :=
 req (0≤x31.2.1)<|cnd (decide ((16:Int)<(IntKind.wrap .u64 (x31.2.1+(2:Int))))) (ixS 1 s11 x27.2.1 fun (p32:Addr)=>st p32 (.int .u8 (IntKind.wrap .u8 (IntKind.wrap .u32 (x31.1+(shlI .u32 (IntKind.wrap .u32 (IntKind.wrap .u16 (x21-x31.2.2))) x31.2.1)))))<|req (0≤(8:Int))<|ixS 1 s11 (IntKind.wrap .u64 (x27.2.1+(1:Int))) fun (p33:Addr)=>st p33 (.int .u8 (IntKind.wrap .u8 (shrI .u32 (IntKind.wrap .u32 (x31.1+(shlI .u32 (IntKind.wrap .u32 (IntKind.wrap .u16 (x21-x31.2.2))) x31.2.1))) (8:Int))))<|req (0≤(16:Int))<|R15 (x21,(shrI .u32 (IntKind.wrap .u32 (x31.1+(shlI .u32 (IntKind.wrap .u32 (IntKind.wrap .u16 (x21-x31.2.2))) x31.2.1))) (16:Int)),(IntKind.wrap .u64 ((IntKind.wrap .u64 (x31.2.1+(2:Int)))-(16:Int))),(IntKind.wrap .u64 (x27.2.1+(2:Int))))) (R15 (x21,(IntKind.wrap .u32 (x31.1+(shlI .u32 (IntKind.wrap .u32 (IntKind.wrap .u16 (x21-x31.2.2))) x31.2.1))),(IntKind.wrap .u64 (x31.2.1+(2:Int))),x27.2.1))
def q112_J4 (s11:Sl) (x13:(Bool×Int×Int×Int×Int×Int×Int×Int)) (R15:Int×Int×Int×Int→PT) (x21:(Int)) (x27:Int×Int×Int):PT :=
 joinP (fun R28=>loopP (x27.1,x13.2.2.2.1,x27.2.2) (q112_L2 x21 R28)) (q112_J3 s11 R15 x21 x27)
def q112_J5 (s11:Sl) (x13:(Bool×Int×Int×Int×Int×Int×Int×Int)) (R15:Int×Int×Int×Int→PT) (x21:Int):PT :=
 joinP (fun R22=>loopP (x13.2.2.1,x13.2.2.2.2.2.2.2,x13.2.1) (q112_L1 s11 x13 x21 R22)) (q112_J4 s11 x13 R15 x21)
def q112_L6 (x38:(Int)) (R44:Int×Int→PT) (x45:Int×Int) (A46:(Int×Int)→PT):PT :=
 cnd (decide (x38<x45.1)) (req (0≤(1:Int))<|A46 ((shrI .i16 x45.1 (1:Int)),(IntKind.wrap .u64 (x45.2-(1:Int))))) (R44 (x45.1,x45.2))
def q112_J7 (s11:Sl) (A14:(Bool×Int×Int×Int×Int×Int×Int×Int)→PT) (x34:(Int×Int×Int×Int)) (x38:(Int)) (x40:(Int)) (x42:(Int)) (x47:Int×Int):PT :=
 cnd (decide ((16:Int)<x42)) (ixS 1 s11 x34.2.2.2 fun (p48:Addr)=>st p48 (.int .u8 (IntKind.wrap .u8 (IntKind.wrap .u32 (x34.2.1+(shlI .u32 (IntKind.wrap .u32 x40) x34.2.2.1)))))<|req (0≤(8:Int))<|ixS 1 s11 (IntKind.wrap .u64 (x34.2.2.2+(1:Int))) fun (p49:Addr)=>st p49 (.int .u8 (IntKind.wrap .u8 (shrI .u32 (IntKind.wrap .u32 (x34.2.1+(shlI .u32 (IntKind.wrap .u32 x40) x34.2.2.1))) (8:Int))))<|req (0≤(16:Int))<|A14 ((decide (x40=(1:Int))),(IntKind.wrap .u16 (x34.1+(1:Int))),(shrI .u32 (IntKind.wrap .u32 (x34.2.1+(shlI .u32 (IntKind.wrap .u32 x40) x34.2.2.1))) (16:Int)),(IntKind.wrap .u64 (x42-(16:Int))),x38,x47.1,x47.2,(IntKind.wrap .u64 (x34.2.2.2+(2:Int))))) (A14 ((decide (x40=(1:Int))),(IntKind.wrap .u16 (x34.1+(1:Int))),(IntKind.wrap .u32 (x34.2.1+(shlI .u32 (IntKind.wrap .u32 x40) x34.2.2.1))),x42,x38,x47.1,x47.2,x34.2.2.2))
def q112_J8 (K1:(Value)→PT) (s11:Sl) (x13:(Bool×Int×Int×Int×Int×Int×Int×Int)) (A14:(Bool×Int×Int×Int×Int×Int×Int×Int)→PT) (x34:(Int×Int×Int×Int)) (x38:(Int)) (x40:(Int)) (x42:Int):PT :=
 cnd (decide (x38<(1:Int))) (callP Tryd.prog 62 #[(.string ⟨#[105,110,116,101,114,110,97,108,32,101,114,114,111,114,58,32,114,101,109,97,105,110,105,110,103,60,49]⟩)] [.c .V] fun (r43:Value)=>K1 r43) (joinP (fun R44=>loopP (x13.2.2.2.2.2.1,x13.2.2.2.2.2.2.1) (q112_L6 x38 R44)) (q112_J7 s11 A14 x34 x38 x40 x42))
def q112_J9 (K1:(Value)→PT) (s11:Sl) (x13:(Bool×Int×Int×Int×Int×Int×Int×Int)) (A14:(Bool×Int×Int×Int×Int×Int×Int×Int)→PT) (x34:(Int×Int×Int×Int)) (x38:(Int)) (x40:Int):PT :=
 req (0≤x34.2.2.1)<|joinP (fun R41=>cnd (decide (x40<(IntKind.wrap .i16 ((IntKind.wrap .i16 ((IntKind.wrap .i16 ((2:Int)*x13.2.2.2.2.2.1))-(1:Int)))-x13.2.2.2.2.1)))) (R41 (IntKind.wrap .u64 ((IntKind.wrap .u64 (x34.2.2.1+x13.2.2.2.2.2.2.1))-(1:Int)))) (R41 (IntKind.wrap .u64 (x34.2.2.1+x13.2.2.2.2.2.2.1)))) (q112_J8 K1 s11 x13 A14 x34 x38 x40)
def q112_J10 (K1:(Value)→PT) (s11:Sl) (x13:(Bool×Int×Int×Int×Int×Int×Int×Int)) (A14:(Bool×Int×Int×Int×Int×Int×Int×Int)→PT) (x34:(Int×Int×Int×Int)) (n36:Int) (x38:Int):PT :=
 joinP (fun R39=>cnd (decide (x13.2.2.2.2.2.1≤(IntKind.wrap .i16 (n36+(1:Int))))) (R39 (IntKind.wrap .i16 ((IntKind.wrap .i16 (n36+(1:Int)))+(IntKind.wrap .i16 ((IntKind.wrap .i16 ((IntKind.wrap .i16 ((2:Int)*x13.2.2.2.2.2.1))-(1:Int)))-x13.2.2.2.2.1))))) (R39 (IntKind.wrap .i16 (n36+(1:Int))))) (q112_J9 K1 s11 x13 A14 x34 x38)
def q112_J11 (p0:Addr) (K1:(Value)→PT) (s11:Sl) (x13:(Bool×Int×Int×Int×Int×Int×Int×Int)) (A14:(Bool×Int×Int×Int×Int×Int×Int×Int)→PT) (x34:Int×Int×Int×Int):PT :=
 ixA 1 256 (Addr.add p0 256) x34.1 fun (p35:Addr)=>ld (.I .i16) p35 fun (n36:Int)=>joinP (fun R37=>cnd (decide (n36<(0:Int))) (R37 (IntKind.wrap .i16 (x13.2.2.2.2.1+n36))) (R37 (IntKind.wrap .i16 (x13.2.2.2.2.1-n36)))) (q112_J10 K1 s11 x13 A14 x34 n36)
def q112_L12 (p0:Addr) (K1:(Value)→PT) (s11:Sl) (R12:Int×Int×Int×Int→PT) (x13:Bool×Int×Int×Int×Int×Int×Int×Int) (A14:(Bool×Int×Int×Int×Int×Int×Int×Int)→PT):PT :=
 cnd (decide ((1:Int)<x13.2.2.2.2.1)) (joinP (fun R15=>cnd x13.1 (joinP (fun R16=>loopP x13.2.1 (q112_L0 p0 R16)) (q112_J5 s11 x13 R15)) (R15 (x13.2.1,x13.2.2.1,x13.2.2.2.1,x13.2.2.2.2.2.2.2))) (q112_J11 p0 K1 s11 x13 A14)) (R12 (x13.2.1,x13.2.2.1,x13.2.2.2.1,x13.2.2.2.2.2.2.2))
def q112_J13 (p0:Addr) (K1:(Value)→PT) (s11:Sl) (x50:Int×Int×Int×Int):PT :=
 ixS 1 s11 x50.2.2.2 fun (p51:Addr)=>st p51 (.int .u8 (IntKind.wrap .u8 x50.2.1))<|req (0≤(8:Int))<|ixS 1 s11 (IntKind.wrap .u64 (x50.2.2.2+(1:Int))) fun (p52:Addr)=>st p52 (.int .u8 (IntKind.wrap .u8 (shrI .u32 x50.2.1 (8:Int))))<|req ((8:Int)≠0)<|ld (.I .u16) (Addr.add p0 528) fun (n53:Int)=>cnd (decide (n53<x50.1)) (callP Tryd.prog 62 #[(.string ⟨#[105,110,116,101,114,110,97,108,32,101,114,114,111,114,58,32,99,104,97,114,110,117,109,32,62,32,115,46,115,121,109,98,111,108,76,101,110]⟩)] [.c .V] fun (r54:Value)=>K1 r54) (slc 1 s11 none (some (IntKind.wrap .u64 (x50.2.2.2+(quoI .u64 (IntKind.wrap .u64 (x50.2.2.1+(7:Int))) (8:Int))))) none fun (s55:Sl)=>st (Addr.add p0 526) (.slice s55.a s55.l s55.c)<|K1 .nilIface)
def q112_J14 (p0:Addr) (K1:(Value)→PT) (n2:Int) (n3:Int) (x9:Unit):PT :=
 ld .S (Addr.add p0 526) fun (s10:Sl)=>slc 1 s10 none (some (IntKind.wrap .i64 ((shrI .i64 (IntKind.wrap .i64 ((IntKind.wrap .i64 ((IntKind.wrap .i64 ((IntKind.wrap .i64 n3)*(IntKind.wrap .i64 n2)))+(4:Int)))+(2:Int))) (3:Int))+(3:Int)))) none fun (s11:Sl)=>joinP (fun R12=>loopP (false,(0:Int),(IntKind.wrap .u32 (IntKind.wrap .u8 (n2-(5:Int)))),(4:Int),(IntKind.wrap .i16 (IntKind.wrap .i64 ((shlI .i64 (1:Int) n2)+(1:Int)))),(IntKind.wrap .i16 (shlI .i64 (1:Int) n2)),(IntKind.wrap .u64 (IntKind.wrap .u8 (n2+(1:Int)))),(0:Int)) (q112_L12 p0 K1 s11 R12)) (q112_J13 p0 K1 s11)
def q112_X15 (p0:Addr) (n2:Int) (n3:Int) (R4:Unit→PT):PT :=
 ld .S (Addr.add p0 526) fun (s5:Sl)=>cnd (decide ((s5.c:Int)<(IntKind.wrap .i64 ((shrI .i64 (IntKind.wrap .i64 ((IntKind.wrap .i64 ((IntKind.wrap .i64 ((IntKind.wrap .i64 n3)*(IntKind.wrap .i64 n2)))+(4:Int)))+(2:Int))) (3:Int))+(3:Int))))) (ldL [.S,(.I .i64)] (Addr.add p0 512) 0 fun (r6:(Sl×Int))=>callP Tryd.prog 93 #[(.agg ⟨[(.slice r6.1.a r6.1.l r6.1.c),(.int .i64 r6.2)]⟩)] [.c (.I .i64)] fun (r7:Int)=>mks z5 5 1 (0:Int) (IntKind.wrap .i64 (r7+(IntKind.wrap .i64 ((shrI .i64 (IntKind.wrap .i64 ((IntKind.wrap .i64 ((IntKind.wrap .i64 ((IntKind.wrap .i64 n3)*(IntKind.wrap .i64 n2)))+(4:Int)))+(2:Int))) (3:Int))+(3:Int))))) fun (s8:Sl)=>st (Addr.add p0 526) (.slice s8.a s8.l s8.c)<|R4 ()) (R4 ())
def q112 (p0:Addr) (K1:(Value)→PT):PT :=
 ld (.I .u8) (Addr.add p0 529) fun (n2:Int)=>req (0≤n2)<|ld (.I .u16) (Addr.add p0 528) fun (n3:Int)=>req (0≤(3:Int))<|joinP (q112_X15 p0 n2 n3) (q112_J14 p0 K1 n2 n3)
def h112:Hint:=⟨(.n (.n (.n (.n .e 4095 ([],[7,11,12,10,0,8,9,6,5]) .e) 32767 ([(6,.c (.I .u16)),(8,.c (.I .u32)),(9,.c (.I .u64)),(13,.c (.I .u64))],[14,0]) (.n .e 131068 ([(5,.c .B),(6,.c (.I .u16)),(8,.c (.I .u32)),(9,.c (.I .u64)),(10,.c (.I .i16)),(11,.c (.I .i16)),(12,.c (.I .u64)),(13,.c (.I .u64))],[0,14]) .e)) 1048546 ([(6,.c (.I .u16)),(8,.c (.I .u32)),(9,.c (.I .u64)),(13,.c (.I .u64))],[10,14,0,12,11]) (.n (.n .e 16776741 ([(6,.c (.I .u16))],[13,14,9,8,15,10,0,12,11]) .e) 16776751 ([(10,.c (.I .i16))],[16,8,9,17,6,14,0,13,12,11]) (.n .e 33553483 ([(8,.c (.I .u32)),(13,.c (.I .u64)),(15,.c (.I .u16))],[9,6,10,14,0,12,11]) .e))) 67106964 ([(6,.c (.I .u16))],[13,14,9,8,15,10,0,12,11]) (.n (.n (.n .e 67106967 ([(8,.c (.I .u32)),(9,.c (.I .u64)),(15,.c (.I .u16))],[13,6,10,14,0,12,11]) .e) 67107007 ([(16,.c (.I .i16))],[8,9,17,6,14,0,10,13,12,11]) (.n .e 134213932 ([(8,.c (.I .u32)),(13,.c (.I .u64)),(15,.c (.I .u16))],[14,9,6,10,0,12,11]) .e)) 268427868 ([(8,.c (.I .u32)),(9,.c (.I .u64)),(15,.c (.I .u16))],[13,6,10,14,0,12,11]) (.n (.n .e 536856063 ([(9,.c (.I .u64))],[16,6,14,0,10,8,13,12,11]) .e) 4294848511 ([(11,.c (.I .i16)),(12,.c (.I .u64))],[13,8,9,10,0,14,6,5]) (.n .e 17179394044 ([(11,.c (.I .i16)),(12,.c (.I .u64))],[13,8,9,10,0,14,6,5]) .e)))),.e⟩
theorem q112_eq (p0:Addr) (K1:(Value)→PT):fnE Cx h112 [.c .V] Tryd.f112 [.pt p0] K1=q112 p0 K1:=by kernel_rfl
theorem q112_fnok:fnOk Tryd.f112 1=true:=by kernel_rfl
theorem q112_ok (p0:Addr) (K1:(Value)→PT) {w:World} (h:q112 p0 K1 w):Calls Tryd.prog 112 #[(.pointer (some p0))] w fun e w'=>∃r,e = .returned (resMk [.c .V] r)∧K1 r w' :=
 of_eq Tryd.func112 q112_fnok (by kernel_rfl) (by kernel_rfl) (q112_eq p0 K1) h
def q113_J0 (x12:(Int×Int)) (A13:(Int×Int)→PT) (x24:Int):PT :=
 A13 (x24,(IntKind.wrap .i64 (x12.2+(1:Int))))
def q113_X1 (p3:Addr) (s6:Sl) (s11:Sl) (x12:(Int×Int)) (R14:Int→PT):PT :=
 ixS 1 s11 x12.2 fun (p15:Addr)=>ld (.I .i16) p15 fun (n16:Int)=>cnd (decide (n16=(-1:Int))) (ixA 1 257 p3 (IntKind.wrap .u8 x12.2) fun (p17:Addr)=>ld (.I .i16) p17 fun (n18:Int)=>ixA 1 257 p3 (IntKind.wrap .u8 ((IntKind.wrap .u8 x12.2)+(1:Int))) fun (p19:Addr)=>st p19 (.int .i16 (IntKind.wrap .i16 (n18+(1:Int))))<|ixS 1 s6 x12.1 fun (p20:Addr)=>st p20 (.int .u8 (IntKind.wrap .u8 x12.2))<|R14 (IntKind.wrap .u32 (x12.1-(1:Int)))) (ixA 1 257 p3 (IntKind.wrap .u8 x12.2) fun (p21:Addr)=>ld (.I .i16) p21 fun (n22:Int)=>ixA 1 257 p3 (IntKind.wrap .u8 ((IntKind.wrap .u8 x12.2)+(1:Int))) fun (p23:Addr)=>st p23 (.int .i16 (IntKind.wrap .i16 (n22+n16)))<|R14 x12.1)
def q113_L2 (p3:Addr) (s6:Sl) (R9:Int→PT) (s11:Sl) (x12:Int×Int) (A13:(Int×Int)→PT):PT :=
 cnd (decide (x12.2<(s11.l:Int))) (joinP (q113_X1 p3 s6 s11 x12) (q113_J0 x12 A13)) (R9 x12.1)
def q113_J3 (p0:Addr) (K1:(Value)→PT) (n2:Int) (p3:Addr) (R7:Int→PT) (x38:Int):PT :=
 ld (.I .u16) (Addr.add p0 528) fun (n39:Int)=>ixA 1 257 p3 n39 fun (p40:Addr)=>ld (.I .i16) p40 fun (n41:Int)=>cnd (!decide ((IntKind.wrap .u32 n41)=(shlI .u32 (1:Int) n2))) (callP Tryd.prog 62 #[(.string ⟨#[105,110,116,101,114,110,97,108,32,101,114,114,111,114,58,32,101,120,112,101,99,116,101,100,32,99,117,109,117,108,91,115,46,115,121,109,98,111,108,76,101,110,93,32,61,61,32,116,97,98,108,101,83,105,122,101]⟩)] [.c .V] fun (r42:Value)=>K1 r42) (ld (.I .u16) (Addr.add p0 528) fun (n43:Int)=>ixA 1 257 p3 n43 fun (p44:Addr)=>st p44 (.int .i16 (IntKind.wrap .i16 ((IntKind.wrap .i16 (shlI .u32 (1:Int) n2))+(1:Int))))<|R7 x38)
def q113_X4 (p3:Addr) (s6:Sl) (x25:(Int)) (n26:Int) (n29:Int) (R30:Int→PT):PT :=
 cnd (decide (n29=(-1:Int))) (ixA 1 257 p3 (IntKind.wrap .i64 (IntKind.wrap .u16 (n26-(1:Int)))) fun (p31:Addr)=>ld (.I .i16) p31 fun (n32:Int)=>ixA 1 257 p3 (IntKind.wrap .i64 ((IntKind.wrap .i64 (IntKind.wrap .u16 (n26-(1:Int))))+(1:Int))) fun (p33:Addr)=>st p33 (.int .i16 (IntKind.wrap .i16 (n32+(1:Int))))<|ixS 1 s6 x25 fun (p34:Addr)=>st p34 (.int .u8 (IntKind.wrap .u8 (IntKind.wrap .i64 (IntKind.wrap .u16 (n26-(1:Int))))))<|R30 (IntKind.wrap .u32 (x25-(1:Int)))) (ixA 1 257 p3 (IntKind.wrap .i64 (IntKind.wrap .u16 (n26-(1:Int)))) fun (p35:Addr)=>ld (.I .i16) p35 fun (n36:Int)=>ixA 1 257 p3 (IntKind.wrap .i64 ((IntKind.wrap .i64 (IntKind.wrap .u16 (n26-(1:Int))))+(1:Int))) fun (p37:Addr)=>st p37 (.int .i16 (IntKind.wrap .i16 (n36+n29)))<|R30 x25)
def q113_J5 (p0:Addr) (K1:(Value)→PT) (n2:Int) (p3:Addr) (s6:Sl) (R7:Int→PT) (x25:Int):PT :=
 ld (.I .u16) (Addr.add p0 528) fun (n26:Int)=>drw<|ld (.I .u16) (Addr.add p0 528) fun (n27:Int)=>ixA 1 256 (Addr.add p0 256) (IntKind.wrap .u16 (n27-(1:Int))) fun (p28:Addr)=>ld (.I .i16) p28 fun (n29:Int)=>joinP (q113_X4 p3 s6 x25 n26 n29) (q113_J3 p0 K1 n2 p3 R7)
def q113_L6 (n2:Int) (x45:(Int)) (r47:Int) (R61:Int→PT) (x63:Int) (A64:Int→PT):PT :=
 cnd (decide (x45<x63)) (A64 (andI .u32 (IntKind.wrap .u32 (x63+r47)) (IntKind.wrap .u32 ((shlI .u32 (1:Int) n2)-(1:Int))))) (R61 x63)
def q113_J7 (x59:(Int×Int)) (A60:(Int×Int)→PT) (x65:Int):PT :=
 A60 (x65,(IntKind.wrap .i16 (x59.2+(1:Int))))
def q113_L8 (n2:Int) (s6:Sl) (x45:(Int)) (r47:Int) (x52:(Int×Int)) (R54:Int→PT) (n56:Int) (x59:Int×Int) (A60:(Int×Int)→PT):PT :=
 cnd (decide (x59.2<n56)) (joinP (fun R61=>ixS 1 s6 x59.1 fun (p62:Addr)=>st p62 (.int .u8 (IntKind.wrap .u8 x52.2))<|loopP (andI .u32 (IntKind.wrap .u32 (x59.1+r47)) (IntKind.wrap .u32 ((shlI .u32 (1:Int) n2)-(1:Int)))) (q113_L6 n2 x45 r47 R61)) (q113_J7 x59 A60)) (R54 x59.1)
def q113_J9 (n2:Int) (s6:Sl) (x45:(Int)) (r47:Int) (x52:(Int×Int)) (R54:Int→PT) (n56:Int) (x58:Unit):PT :=
 loopP (x52.1,(0:Int)) (q113_L8 n2 s6 x45 r47 x52 R54 n56)
def q113_J10 (x52:(Int×Int)) (A53:(Int×Int)→PT) (x66:Int):PT :=
 A53 (x66,(IntKind.wrap .i64 (x52.2+(1:Int))))
def q113_L11 (p0:Addr) (n2:Int) (s6:Sl) (x45:(Int)) (r47:Int) (n48:Int) (R49:Int→PT) (s51:Sl) (x52:Int×Int) (A53:(Int×Int)→PT):PT :=
 cnd (decide (x52.2<(s51.l:Int))) (joinP (fun R54=>ixS 1 s51 x52.2 fun (p55:Addr)=>ld (.I .i16) p55 fun (n56:Int)=>joinP (fun R57=>cnd (decide ((shlI .i16 (1:Int) (IntKind.wrap .u8 (n48-(1:Int))))<n56)) (st (Addr.add p0 530) (.bool true)<|R57 ()) (R57 ())) (q113_J9 n2 s6 x45 r47 x52 R54 n56)) (q113_J10 x52 A53)) (R49 x52.1)
def q113_J12 (K1:(Value)→PT) (R46:Unit→PT) (x67:Int):PT :=
 cnd (!decide (x67=(0:Int))) (callP Tryd.prog 62 #[(.string ⟨#[112,111,115,105,116,105,111,110,33,61,48]⟩)] [.c .V] fun (r68:Value)=>K1 r68) (R46 ())
def q113_L13 (n2:Int) (p3:Addr) (s6:Sl) (s70:Sl) (R71:Unit→PT) (x72:Int) (A73:Int→PT):PT :=
 cnd (decide (x72<(s6.l:Int))) (ixS 1 s6 x72 fun (p74:Addr)=>ld (.I .u8) p74 fun (n75:Int)=>ixA 1 257 p3 n75 fun (p76:Addr)=>ld (.I .i16) p76 fun (n77:Int)=>ixS 1 s70 n77 fun (p78:Addr)=>st p78 (.int .u16 (IntKind.wrap .u16 (IntKind.wrap .i64 ((IntKind.wrap .i64 (shlI .u32 (1:Int) n2))+x72))))<|ixA 1 257 p3 n75 fun (p79:Addr)=>ld (.I .i16) p79 fun (n80:Int)=>ixA 1 257 p3 n75 fun (p81:Addr)=>st p81 (.int .i16 (IntKind.wrap .i16 (n80+(1:Int))))<|A73 (IntKind.wrap .i64 (x72+(1:Int)))) (R71 ())
def q113_J14 (s86:Sl) (n87:Int) (x91:(Int×Int)) (R93:Int→PT) (n95:Int) (x97:Bool):PT :=
 cnd x97 (ixS 2 s86 x91.2 fun (p98:Addr)=>st (Addr.add p98 1) (.int .u32 (IntKind.wrap .u32 ((shlI .u32 (IntKind.wrap .u32 n87) (16:Int))-(shlI .u32 (1:Int) n87))))<|ixS 2 s86 x91.2 fun (p99:Addr)=>st p99 (.int .i32 (IntKind.wrap .i32 (IntKind.wrap .i16 (x91.1-(1:Int)))))<|R93 (IntKind.wrap .i16 (x91.1+(1:Int)))) (callP Tryd.prog 98 #[(.int .u32 (IntKind.wrap .u32 (IntKind.wrap .i16 (n95-(1:Int)))))] [.c (.I .u32)] fun (r100:Int)=>req (0≤(IntKind.wrap .u32 ((IntKind.wrap .u32 n87)-r100)))<|req (0≤(16:Int))<|ixS 2 s86 x91.2 fun (p101:Addr)=>st (Addr.add p101 1) (.int .u32 (IntKind.wrap .u32 ((shlI .u32 (IntKind.wrap .u32 ((IntKind.wrap .u32 n87)-r100)) (16:Int))-(shlI .u32 (IntKind.wrap .u32 n95) (IntKind.wrap .u32 ((IntKind.wrap .u32 n87)-r100))))))<|ixS 2 s86 x91.2 fun (p102:Addr)=>st p102 (.int .i32 (IntKind.wrap .i32 (IntKind.wrap .i16 (x91.1-n95))))<|R93 (IntKind.wrap .i16 (x91.1+n95)))
def q113_J15 (x91:(Int×Int)) (A92:(Int×Int)→PT) (x103:Int):PT :=
 A92 (x103,(IntKind.wrap .i64 (x91.2+(1:Int))))
def q113_L16 (s86:Sl) (n87:Int) (R88:Int→PT) (s90:Sl) (x91:Int×Int) (A92:(Int×Int)→PT):PT :=
 cnd (decide (x91.2<(s90.l:Int))) (joinP (fun R93=>ixS 1 s90 x91.2 fun (p94:Addr)=>ld (.I .i16) p94 fun (n95:Int)=>cnd (decide (n95=(0:Int))) (R93 x91.1) (joinP (fun R96=>cnd (decide (n95=(-1:Int))) (R96 (decide (n95=(-1:Int)))) (R96 (decide (n95=(1:Int))))) (q113_J14 s86 n87 x91 R93 n95))) (q113_J15 x91 A92)) (R88 x91.1)
def q113_J17 (K1:(Value)→PT) (n2:Int) (R83:Unit→PT) (x104:Int):PT :=
 cnd (!decide (x104=(IntKind.wrap .i16 (shlI .u32 (1:Int) n2)))) (callP Tryd.prog 62 #[(.string ⟨#[116,111,116,97,108,32,109,105,115,109,97,116,99,104,32,40,103,111,116,41,32,33,61,32,40,119,97,110,116,41]⟩)] [.c .V] fun (r105:Value)=>K1 r105) (R83 ())
def q113_J18 (K1:(Value)→PT) (x106:Unit):PT :=
 K1 .nilIface
def q113_X19 (p0:Addr) (K1:(Value)→PT) (n2:Int) (R83:Unit→PT):PT :=
 drw<|ld .S (Addr.add (Addr.add p0 521) 2) fun (s84:Sl)=>ld (.I .u16) (Addr.add p0 528) fun (n85:Int)=>slc 2 s84 none (some n85) none fun (s86:Sl)=>ld (.I .u8) (Addr.add p0 529) fun (n87:Int)=>req (0≤(16:Int))<|req (0≤n87)<|joinP (fun R88=>drw<|ld (.I .u16) (Addr.add p0 528) fun (n89:Int)=>slcA 1 256 (Addr.add p0 256) none (some n89) none fun (s90:Sl)=>loopP ((0:Int),(0:Int)) (q113_L16 s86 n87 R88 s90)) (q113_J17 K1 n2 R83)
def q113_J20 (p0:Addr) (K1:(Value)→PT) (n2:Int) (x82:Unit):PT :=
 joinP (q113_X19 p0 K1 n2) (q113_J18 K1)
def q113_J21 (p0:Addr) (K1:(Value)→PT) (n2:Int) (p3:Addr) (s6:Sl) (x69:Unit):PT :=
 ld .S (Addr.add (Addr.add p0 521) 1) fun (s70:Sl)=>joinP (fun R71=>loopP (0:Int) (q113_L13 n2 p3 s6 s70 R71)) (q113_J20 p0 K1 n2)
def q113_X22 (p0:Addr) (K1:(Value)→PT) (n2:Int) (s6:Sl) (x45:(Int)) (R46:Unit→PT):PT :=
 callP Tryd.prog 97 #[(.int .u32 (shlI .u32 (1:Int) n2))] [.c (.I .u32)] fun (r47:Int)=>ld (.I .u8) (Addr.add p0 529) fun (n48:Int)=>req (0≤(IntKind.wrap .u8 (n48-(1:Int))))<|joinP (fun R49=>drw<|ld (.I .u16) (Addr.add p0 528) fun (n50:Int)=>slcA 1 256 (Addr.add p0 256) none (some n50) none fun (s51:Sl)=>loopP ((0:Int),(0:Int)) (q113_L11 p0 n2 s6 x45 r47 n48 R49 s51)) (q113_J12 K1 R46)
def q113_J23 (p0:Addr) (K1:(Value)→PT) (n2:Int) (p3:Addr) (s6:Sl) (x45:Int):PT :=
 st (Addr.add p0 530) (.bool false)<|joinP (q113_X22 p0 K1 n2 s6 x45) (q113_J21 p0 K1 n2 p3 s6)
def q113_X24 (p0:Addr) (K1:(Value)→PT) (n2:Int) (p3:Addr) (s6:Sl) (R7:Int→PT):PT :=
 ixA 1 257 p3 (0:Int) fun (p8:Addr)=>st p8 (.int .i16 (0:Int))<|joinP (fun R9=>drw<|ld (.I .u16) (Addr.add p0 528) fun (n10:Int)=>slcA 1 256 (Addr.add p0 256) none (some (IntKind.wrap .u16 (n10-(1:Int)))) none fun (s11:Sl)=>loopP ((IntKind.wrap .u32 ((shlI .u32 (1:Int) n2)-(1:Int))),(0:Int)) (q113_L2 p3 s6 R9 s11)) (q113_J5 p0 K1 n2 p3 s6 R7)
def q113 (p0:Addr) (K1:(Value)→PT):PT :=
 ld (.I .u8) (Addr.add p0 529) fun (n2:Int)=>req (0≤n2)<|nw z208 208 fun (p3:Addr)=>callP Tryd.prog 137 #[(.pointer (some p0))] [] fun (r4:Unit)=>ld .S (Addr.add p0 521) fun (s5:Sl)=>slc 1 s5 none (some (shlI .u32 (1:Int) n2)) none fun (s6:Sl)=>joinP (q113_X24 p0 K1 n2 p3 s6) (q113_J23 p0 K1 n2 p3 s6)
def h113:Hint:=⟨(.n (.n (.n (.n (.n .e 127 ([(4,.c (.I .u32))],[6,0,3,5]) .e) 509 ([(4,.c (.I .u32))],[5,3,0,6]) .e) 511 ([],[6,5,0,3]) (.n (.n .e 2047 ([],[0,3]) .e) 4074 ([(4,.c (.I .u32)),(58,.c (.I .i64))],[6,5,56,3,0,57]) .e)) 4079 ([(4,.c (.I .u32))],[5,3,0,6]) (.n (.n (.n .e 4095 ([],[]) .e) 16367 ([(14,.c (.I .u32))],[3,0,5,6]) .e) 32595 ([(4,.c (.I .u32))],[58,6,5,56,3,0,57]) (.n .e 32758 ([(216,.c (.I .i64))],[5,20,19,214,0,3,215]) .e))) 130938 ([(14,.c (.I .u32)),(169,.c (.I .i64))],[6,13,12,4,0,15,167,3,5,168]) (.n (.n (.n (.n .e 131055 ([(23,.c (.I .i16))],[3]) .e) 1047507 ([(14,.c (.I .u32))],[169,6,13,12,4,0,15,167,3,5,168]) .e) 1048442 ([(23,.c (.I .i16)),(265,.c (.I .i64))],[25,26,24,263,3,264]) (.n .e 8387539 ([(23,.c (.I .i16))],[265,25,26,24,263,3,264]) .e)) 16760115 ([],[17,4,12,13,14,18,6,169,0,15,167,3,5,168]) (.n (.n (.n .e 134080926 ([(14,.c (.I .u32)),(183,.c (.I .i16))],[4,12,13,18,6,169,0,15,167,3,5,168,182]) .e) 1072647411 ([(14,.c (.I .u32))],[183,4,12,13,18,6,169,0,15,167,3,5,168,182]) .e) 1073605019 ([(303,.c .B)],[28,27,23,265,25,26,24,263,3,264]) (.n .e 34324717158 ([(14,.c (.I .u32))],[13,12,183,4,18,6,169,0,15,167,3,5,168,182]) .e)))),.e⟩
theorem q113_eq (p0:Addr) (K1:(Value)→PT):fnE Cx h113 [.c .V] Tryd.f113 [.pt p0] K1=q113 p0 K1:=by kernel_rfl
theorem q113_fnok:fnOk Tryd.f113 1=true:=by kernel_rfl
theorem q113_ok (p0:Addr) (K1:(Value)→PT) {w:World} (h:q113 p0 K1 w):Calls Tryd.prog 113 #[(.pointer (some p0))] w fun e w'=>∃r,e = .returned (resMk [.c .V] r)∧K1 r w' :=
 of_eq Tryd.func113 q113_fnok (by kernel_rfl) (by kernel_rfl) (q113_eq p0 K1) h
def q114_L0 (p0:Addr) (s5:Sl) (p8:Addr) (p9:Addr) (R54:Unit→PT) (x57:Sl) (A58:Sl→PT):PT :=
 cnd (decide ((4:Int)≤(x57.l:Int))) (callP Tryd.prog 141 #[(.pointer (some (Addr.add p0 518)))] [] fun (r59:Unit)=>drw<|ixS 1 x57 (IntKind.wrap .i64 ((x57.l:Int)-(4:Int))) fun (p60:Addr)=>ld (.I .u8) p60 fun (n61:Int)=>ixS 1 x57 (IntKind.wrap .i64 ((x57.l:Int)-(3:Int))) fun (p62:Addr)=>ld (.I .u8) p62 fun (n63:Int)=>ixS 1 x57 (IntKind.wrap .i64 ((x57.l:Int)-(2:Int))) fun (p64:Addr)=>ld (.I .u8) p64 fun (n65:Int)=>ixS 1 x57 (IntKind.wrap .i64 ((x57.l:Int)-(1:Int))) fun (p66:Addr)=>ld (.I .u8) p66 fun (n67:Int)=>ixS 2 s5 n67 fun (p68:Addr)=>ldL [(.I .i32),(.I .u32)] p68 0 fun (r69:(Int×Int))=>callP Tryd.prog 142 #[(.pointer (some p9)),(.agg ⟨[(.int .i32 r69.1),(.int .u32 r69.2)]⟩)] [] fun (r70:Unit)=>ixS 2 s5 n65 fun (p71:Addr)=>ldL [(.I .i32),(.I .u32)] p71 0 fun (r72:(Int×Int))=>callP Tryd.prog 142 #[(.pointer (some p8)),(.agg ⟨[(.int .i32 r72.1),(.int .u32 r72.2)]⟩)] [] fun (r73:Unit)=>ixS 2 s5 n63 fun (p74:Addr)=>ldL [(.I .i32),(.I .u32)] p74 0 fun (r75:(Int×Int))=>callP Tryd.prog 142 #[(.pointer (some p9)),(.agg ⟨[(.int .i32 r75.1),(.int .u32 r75.2)]⟩)] [] fun (r76:Unit)=>ixS 2 s5 n61 fun (p77:Addr)=>ldL [(.I .i32),(.I .u32)] p77 0 fun (r78:(Int×Int))=>callP Tryd.prog 142 #[(.pointer (some p8)),(.agg ⟨[(.int .i32 r78.1),(.int .u32 r78.2)]⟩)] [] fun (r79:Unit)=>slc 1 x57 none (some (IntKind.wrap .i64 ((x57.l:Int)-(4:Int)))) none fun (s80:Sl)=>A58 s80) (R54 ())
def q114_L1 (p0:Addr) (s5:Sl) (p8:Addr) (p9:Addr) (R54:Unit→PT) (x82:Sl) (A83:Sl→PT):PT :=
 cnd (decide ((4:Int)≤(x82.l:Int))) (callP Tryd.prog 141 #[(.pointer (some (Addr.add p0 518)))] [] fun (r84:Unit)=>drw<|ixS 1 x82 (IntKind.wrap .i64 ((x82.l:Int)-(4:Int))) fun (p85:Addr)=>ld (.I .u8) p85 fun (n86:Int)=>ixS 1 x82 (IntKind.wrap .i64 ((x82.l:Int)-(3:Int))) fun (p87:Addr)=>ld (.I .u8) p87 fun (n88:Int)=>ixS 1 x82 (IntKind.wrap .i64 ((x82.l:Int)-(2:Int))) fun (p89:Addr)=>ld (.I .u8) p89 fun (n90:Int)=>ixS 1 x82 (IntKind.wrap .i64 ((x82.l:Int)-(1:Int))) fun (p91:Addr)=>ld (.I .u8) p91 fun (n92:Int)=>ixS 2 s5 n92 fun (p93:Addr)=>ldL [(.I .i32),(.I .u32)] p93 0 fun (r94:(Int×Int))=>callP Tryd.prog 142 #[(.pointer (some p9)),(.agg ⟨[(.int .i32 r94.1),(.int .u32 r94.2)]⟩)] [] fun (r95:Unit)=>ixS 2 s5 n90 fun (p96:Addr)=>ldL [(.I .i32),(.I .u32)] p96 0 fun (r97:(Int×Int))=>callP Tryd.prog 142 #[(.pointer (some p8)),(.agg ⟨[(.int .i32 r97.1),(.int .u32 r97.2)]⟩)] [] fun (r98:Unit)=>callP Tryd.prog 141 #[(.pointer (some (Addr.add p0 518)))] [] fun (r99:Unit)=>ixS 2 s5 n88 fun (p100:Addr)=>ldL [(.I .i32),(.I .u32)] p100 0 fun (r101:(Int×Int))=>callP Tryd.prog 142 #[(.pointer (some p9)),(.agg ⟨[(.int .i32 r101.1),(.int .u32 r101.2)]⟩)] [] fun (r102:Unit)=>ixS 2 s5 n86 fun (p103:Addr)=>ldL [(.I .i32),(.I .u32)] p103 0 fun (r104:(Int×Int))=>callP Tryd.prog 142 #[(.pointer (some p8)),(.agg ⟨[(.int .i32 r104.1),(.int .u32 r104.2)]⟩)] [] fun (r105:Unit)=>slc 1 x82 none (some (IntKind.wrap .i64 ((x82.l:Int)-(4:Int)))) none fun (s106:Sl)=>A83 s106) (R54 ())
def q114_L2 (p0:Addr) (s5:Sl) (p8:Addr) (p9:Addr) (R54:Unit→PT) (x108:Sl) (A109:Sl→PT):PT :=
 cnd (decide ((4:Int)≤(x108.l:Int))) (callP Tryd.prog 141 #[(.pointer (some (Addr.add p0 518)))] [] fun (r110:Unit)=>drw<|ixS 1 x108 (IntKind.wrap .i64 ((x108.l:Int)-(4:Int))) fun (p111:Addr)=>ld (.I .u8) p111 fun (n112:Int)=>ixS 1 x108 (IntKind.wrap .i64 ((x108.l:Int)-(3:Int))) fun (p113:Addr)=>ld (.I .u8) p113 fun (n114:Int)=>ixS 1 x108 (IntKind.wrap .i64 ((x108.l:Int)-(2:Int))) fun (p115:Addr)=>ld (.I .u8) p115 fun (n116:Int)=>ixS 1 x108 (IntKind.wrap .i64 ((x108.l:Int)-(1:Int))) fun (p117:Addr)=>ld (.I .u8) p117 fun (n118:Int)=>ixS 2 s5 n118 fun (p119:Addr)=>ldL [(.I .i32),(.I .u32)] p119 0 fun (r120:(Int×Int))=>callP Tryd.prog 140 #[(.pointer (some p9)),(.agg ⟨[(.int .i32 r120.1),(.int .u32 r120.2)]⟩)] [] fun (r121:Unit)=>ixS 2 s5 n116 fun (p122:Addr)=>ldL [(.I .i32),(.I .u32)] p122 0 fun (r123:(Int×Int))=>callP Tryd.prog 140 #[(.pointer (some p8)),(.agg ⟨[(.int .i32 r123.1),(.int .u32 r123.2)]⟩)] [] fun (r124:Unit)=>ixS 2 s5 n114 fun (p125:Addr)=>ldL [(.I .i32),(.I .u32)] p125 0 fun (r126:(Int×Int))=>callP Tryd.prog 140 #[(.pointer (some p9)),(.agg ⟨[(.int .i32 r126.1),(.int .u32 r126.2)]⟩)] [] fun (r127:Unit)=>ixS 2 s5 n112 fun (p128:Addr)=>ldL [(.I .i32),(.I .u32)] p128 0 fun (r129:(Int×Int))=>callP Tryd.prog 140 #[(.pointer (some p8)),(.agg ⟨[(.int .i32 r129.1),(.int .u32 r129.2)]⟩)] [] fun (r130:Unit)=>slc 1 x108 none (some (IntKind.wrap .i64 ((x108.l:Int)-(4:Int)))) none fun (s131:Sl)=>A109 s131) (R54 ())
def q114_L3 (p0:Addr) (s5:Sl) (p8:Addr) (p9:Addr) (R54:Unit→PT) (x132:Sl) (A133:Sl→PT):PT :=
 cnd (decide ((4:Int)≤(x132.l:Int))) (callP Tryd.prog 141 #[(.pointer (some (Addr.add p0 518)))] [] fun (r134:Unit)=>drw<|ixS 1 x132 (IntKind.wrap .i64 ((x132.l:Int)-(4:Int))) fun (p135:Addr)=>ld (.I .u8) p135 fun (n136:Int)=>ixS 1 x132 (IntKind.wrap .i64 ((x132.l:Int)-(3:Int))) fun (p137:Addr)=>ld (.I .u8) p137 fun (n138:Int)=>ixS 1 x132 (IntKind.wrap .i64 ((x132.l:Int)-(2:Int))) fun (p139:Addr)=>ld (.I .u8) p139 fun (n140:Int)=>ixS 1 x132 (IntKind.wrap .i64 ((x132.l:Int)-(1:Int))) fun (p141:Addr)=>ld (.I .u8) p141 fun (n142:Int)=>ixS 2 s5 n142 fun (p143:Addr)=>ldL [(.I .i32),(.I .u32)] p143 0 fun (r144:(Int×Int))=>callP Tryd.prog 140 #[(.pointer (some p9)),(.agg ⟨[(.int .i32 r144.1),(.int .u32 r144.2)]⟩)] [] fun (r145:Unit)=>ixS 2 s5 n140 fun (p146:Addr)=>ldL [(.I .i32),(.I .u32)] p146 0 fun (r147:(Int×Int))=>callP Tryd.prog 140 #[(.pointer (some p8)),(.agg ⟨[(.int .i32 r147.1),(.int .u32 r147.2)]⟩)] [] fun (r148:Unit)=>callP Tryd.prog 141 #[(.pointer (some (Addr.add p0 518)))] [] fun (r149:Unit)=>ixS 2 s5 n138 fun (p150:Addr)=>ldL [(.I .i32),(.I .u32)] p150 0 fun (r151:(Int×Int))=>callP Tryd.prog 140 #[(.pointer (some p9)),(.agg ⟨[(.int .i32 r151.1),(.int .u32 r151.2)]⟩)] [] fun (r152:Unit)=>ixS 2 s5 n136 fun (p153:Addr)=>ldL [(.I .i32),(.I .u32)] p153 0 fun (r154:(Int×Int))=>callP Tryd.prog 140 #[(.pointer (some p8)),(.agg ⟨[(.int .i32 r154.1),(.int .u32 r154.2)]⟩)] [] fun (r155:Unit)=>slc 1 x132 none (some (IntKind.wrap .i64 ((x132.l:Int)-(4:Int)))) none fun (s156:Sl)=>A133 s156) (R54 ())
def q114_L4 (p0:Addr) (s5:Sl) (p8:Addr) (p9:Addr) (R54:Unit→PT) (x158:Sl) (A159:Sl→PT):PT :=
 cnd (decide ((4:Int)≤(x158.l:Int))) (callP Tryd.prog 141 #[(.pointer (some (Addr.add p0 518)))] [] fun (r160:Unit)=>drw<|ixS 1 x158 (IntKind.wrap .i64 ((x158.l:Int)-(4:Int))) fun (p161:Addr)=>ld (.I .u8) p161 fun (n162:Int)=>ixS 1 x158 (IntKind.wrap .i64 ((x158.l:Int)-(3:Int))) fun (p163:Addr)=>ld (.I .u8) p163 fun (n164:Int)=>ixS 1 x158 (IntKind.wrap .i64 ((x158.l:Int)-(2:Int))) fun (p165:Addr)=>ld (.I .u8) p165 fun (n166:Int)=>ixS 1 x158 (IntKind.wrap .i64 ((x158.l:Int)-(1:Int))) fun (p167:Addr)=>ld (.I .u8) p167 fun (n168:Int)=>ixS 2 s5 n168 fun (p169:Addr)=>ldL [(.I .i32),(.I .u32)] p169 0 fun (r170:(Int×Int))=>callP Tryd.prog 142 #[(.pointer (some p9)),(.agg ⟨[(.int .i32 r170.1),(.int .u32 r170.2)]⟩)] [] fun (r171:Unit)=>ixS 2 s5 n166 fun (p172:Addr)=>ldL [(.I .i32),(.I .u32)] p172 0 fun (r173:(Int×Int))=>callP Tryd.prog 142 #[(.pointer (some p8)),(.agg ⟨[(.int .i32 r173.1),(.int .u32 r173.2)]⟩)] [] fun (r174:Unit)=>callP Tryd.prog 141 #[(.pointer (some (Addr.add p0 518)))] [] fun (r175:Unit)=>ixS 2 s5 n164 fun (p176:Addr)=>ldL [(.I .i32),(.I .u32)] p176 0 fun (r177:(Int×Int))=>callP Tryd.prog 142 #[(.pointer (some p9)),(.agg ⟨[(.int .i32 r177.1),(.int .u32 r177.2)]⟩)] [] fun (r178:Unit)=>ixS 2 s5 n162 fun (p179:Addr)=>ldL [(.I .i32),(.I .u32)] p179 0 fun (r180:(Int×Int))=>callP Tryd.prog 142 #[(.pointer (some p8)),(.agg ⟨[(.int .i32 r180.1),(.int .u32 r180.2)]⟩)] [] fun (r181:Unit)=>slc 1 x158 none (some (IntKind.wrap .i64 ((x158.l:Int)-(4:Int)))) none fun (s182:Sl)=>A159 s182) (R54 ())
def q114_L5 (p0:Addr) (s5:Sl) (p8:Addr) (p9:Addr) (R54:Unit→PT) (x184:Sl) (A185:Sl→PT):PT :=
 cnd (decide ((4:Int)≤(x184.l:Int))) (callP Tryd.prog 141 #[(.pointer (some (Addr.add p0 518)))] [] fun (r186:Unit)=>drw<|ixS 1 x184 (IntKind.wrap .i64 ((x184.l:Int)-(4:Int))) fun (p187:Addr)=>ld (.I .u8) p187 fun (n188:Int)=>ixS 1 x184 (IntKind.wrap .i64 ((x184.l:Int)-(3:Int))) fun (p189:Addr)=>ld (.I .u8) p189 fun (n190:Int)=>ixS 1 x184 (IntKind.wrap .i64 ((x184.l:Int)-(2:Int))) fun (p191:Addr)=>ld (.I .u8) p191 fun (n192:Int)=>ixS 1 x184 (IntKind.wrap .i64 ((x184.l:Int)-(1:Int))) fun (p193:Addr)=>ld (.I .u8) p193 fun (n194:Int)=>ixS 2 s5 n194 fun (p195:Addr)=>ldL [(.I .i32),(.I .u32)] p195 0 fun (r196:(Int×Int))=>callP Tryd.prog 140 #[(.pointer (some p9)),(.agg ⟨[(.int .i32 r196.1),(.int .u32 r196.2)]⟩)] [] fun (r197:Unit)=>ixS 2 s5 n192 fun (p198:Addr)=>ldL [(.I .i32),(.I .u32)] p198 0 fun (r199:(Int×Int))=>callP Tryd.prog 140 #[(.pointer (some p8)),(.agg ⟨[(.int .i32 r199.1),(.int .u32 r199.2)]⟩)] [] fun (r200:Unit)=>ixS 2 s5 n190 fun (p201:Addr)=>ldL [(.I .i32),(.I .u32)] p201 0 fun (r202:(Int×Int))=>callP Tryd.prog 140 #[(.pointer (some p9)),(.agg ⟨[(.int .i32 r202.1),(.int .u32 r202.2)]⟩)] [] fun (r203:Unit)=>ixS 2 s5 n188 fun (p204:Addr)=>ldL [(.I .i32),(.I .u32)] p204 0 fun (r205:(Int×Int))=>callP Tryd.prog 140 #[(.pointer (some p8)),(.agg ⟨[(.int .i32 r205.1),(.int .u32 r205.2)]⟩)] [] fun (r206:Unit)=>slc 1 x184 none (some (IntKind.wrap .i64 ((x184.l:Int)-(4:Int)))) none fun (s207:Sl)=>A185 s207) (R54 ())
def q114_L6 (p0:Addr) (s5:Sl) (p8:Addr) (p9:Addr) (R54:Unit→PT) (x208:Sl) (A209:Sl→PT):PT :=
 cnd (decide ((4:Int)≤(x208.l:Int))) (callP Tryd.prog 141 #[(.pointer (some (Addr.add p0 518)))] [] fun (r210:Unit)=>drw<|ixS 1 x208 (IntKind.wrap .i64 ((x208.l:Int)-(4:Int))) fun (p211:Addr)=>ld (.I .u8) p211 fun (n212:Int)=>ixS 1 x208 (IntKind.wrap .i64 ((x208.l:Int)-(3:Int))) fun (p213:Addr)=>ld (.I .u8) p213 fun (n214:Int)=>ixS 1 x208 (IntKind.wrap .i64 ((x208.l:Int)-(2:Int))) fun (p215:Addr)=>ld (.I .u8) p215 fun (n216:Int)=>ixS 1 x208 (IntKind.wrap .i64 ((x208.l:Int)-(1:Int))) fun (p217:Addr)=>ld (.I .u8) p217 fun (n218:Int)=>ixS 2 s5 n218 fun (p219:Addr)=>ldL [(.I .i32),(.I .u32)] p219 0 fun (r220:(Int×Int))=>callP Tryd.prog 140 #[(.pointer (some p9)),(.agg ⟨[(.int .i32 r220.1),(.int .u32 r220.2)]⟩)] [] fun (r221:Unit)=>ixS 2 s5 n216 fun (p222:Addr)=>ldL [(.I .i32),(.I .u32)] p222 0 fun (r223:(Int×Int))=>callP Tryd.prog 140 #[(.pointer (some p8)),(.agg ⟨[(.int .i32 r223.1),(.int .u32 r223.2)]⟩)] [] fun (r224:Unit)=>callP Tryd.prog 141 #[(.pointer (some (Addr.add p0 518)))] [] fun (r225:Unit)=>ixS 2 s5 n214 fun (p226:Addr)=>ldL [(.I .i32),(.I .u32)] p226 0 fun (r227:(Int×Int))=>callP Tryd.prog 140 #[(.pointer (some p9)),(.agg ⟨[(.int .i32 r227.1),(.int .u32 r227.2)]⟩)] [] fun (r228:Unit)=>ixS 2 s5 n212 fun (p229:Addr)=>ldL [(.I .i32),(.I .u32)] p229 0 fun (r230:(Int×Int))=>callP Tryd.prog 140 #[(.pointer (some p8)),(.agg ⟨[(.int .i32 r230.1),(.int .u32 r230.2)]⟩)] [] fun (r231:Unit)=>slc 1 x208 none (some (IntKind.wrap .i64 ((x208.l:Int)-(4:Int)))) none fun (s232:Sl)=>A209 s232) (R54 ())
def q114_J7 (p0:Addr) (K2:(Value)→PT) (p8:Addr) (p9:Addr) (x233:Unit):PT :=
 ld (.I .u8) (Addr.add p0 529) fun (n234:Int)=>callP Tryd.prog 143 #[(.pointer (some p9)),(.int .u8 n234)] [] fun (r235:Unit)=>ld (.I .u8) (Addr.add p0 529) fun (n236:Int)=>callP Tryd.prog 143 #[(.pointer (some p8)),(.int .u8 n236)] [] fun (r237:Unit)=>callP Tryd.prog 144 #[(.pointer (some (Addr.add p0 518)))] [] fun (r238:Unit)=>K2 .nilIface
def q114_X8 (p0:Addr) (s5:Sl) (p8:Addr) (p9:Addr) (s53:Sl) (R54:Unit→PT):PT :=
 ld .B (Addr.add p0 530) fun (b55:Bool)=>cnd (!b55) (ld (.I .u8) (Addr.add p0 529) fun (n56:Int)=>cnd (decide (n56≤(8:Int))) (loopP s53 (q114_L0 p0 s5 p8 p9 R54)) (ld .B (Addr.add p0 530) fun (b81:Bool)=>cnd (!b81) (loopP s53 (q114_L1 p0 s5 p8 p9 R54)) (ld (.I .u8) (Addr.add p0 529) fun (n107:Int)=>cnd (decide (n107≤(8:Int))) (loopP s53 (q114_L2 p0 s5 p8 p9 R54)) (loopP s53 (q114_L3 p0 s5 p8 p9 R54))))) (ld .B (Addr.add p0 530) fun (b157:Bool)=>cnd (!b157) (loopP s53 (q114_L4 p0 s5 p8 p9 R54)) (ld (.I .u8) (Addr.add p0 529) fun (n183:Int)=>cnd (decide (n183≤(8:Int))) (loopP s53 (q114_L5 p0 s5 p8 p9 R54)) (loopP s53 (q114_L6 p0 s5 p8 p9 R54))))
def q114_J9 (p0:Addr) (s1:Sl) (K2:(Value)→PT) (s5:Sl) (p8:Addr) (p9:Addr) (x52:Int):PT :=
 slc 1 s1 none (some x52) none fun (s53:Sl)=>joinP (q114_X8 p0 s5 p8 p9 s53) (q114_J7 p0 K2 p8 p9)
def q114_X10 (s1:Sl) (s5:Sl) (p8:Addr) (p9:Addr) (x40:(Int)) (R41:Int→PT):PT :=
 cnd (!decide ((andI .i64 x40 (2:Int))=(0:Int))) (ixS 1 s1 (IntKind.wrap .i64 (x40-(1:Int))) fun (p42:Addr)=>ld (.I .u8) p42 fun (n43:Int)=>ixS 2 s5 n43 fun (p44:Addr)=>ldL [(.I .i32),(.I .u32)] p44 0 fun (r45:(Int×Int))=>callP Tryd.prog 140 #[(.pointer (some p9)),(.agg ⟨[(.int .i32 r45.1),(.int .u32 r45.2)]⟩)] [] fun (r46:Unit)=>ixS 1 s1 (IntKind.wrap .i64 (x40-(2:Int))) fun (p47:Addr)=>ld (.I .u8) p47 fun (n48:Int)=>ixS 2 s5 n48 fun (p49:Addr)=>ldL [(.I .i32),(.I .u32)] p49 0 fun (r50:(Int×Int))=>callP Tryd.prog 140 #[(.pointer (some p8)),(.agg ⟨[(.int .i32 r50.1),(.int .u32 r50.2)]⟩)] [] fun (r51:Unit)=>R41 (IntKind.wrap .i64 (x40-(2:Int)))) (R41 x40)
def q114_J11 (p0:Addr) (s1:Sl) (K2:(Value)→PT) (s5:Sl) (p8:Addr) (p9:Addr) (x40:Int):PT :=
 joinP (q114_X10 s1 s5 p8 p9 x40) (q114_J9 p0 s1 K2 s5 p8 p9)
def q114_X12 (p0:Addr) (s1:Sl) (s5:Sl) (p8:Addr) (p9:Addr) (R10:Int→PT):PT :=
 cnd (decide ((andI .i64 (s1.l:Int) (1:Int))=(1:Int))) (drw<|ld (.I .u8) (Addr.add p0 529) fun (n11:Int)=>ixS 1 s1 (IntKind.wrap .i64 ((s1.l:Int)-(1:Int))) fun (p12:Addr)=>ld (.I .u8) p12 fun (n13:Int)=>ixS 2 s5 n13 fun (p14:Addr)=>ldL [(.I .i32),(.I .u32)] p14 0 fun (r15:(Int×Int))=>callP Tryd.prog 139 #[(.pointer (some p8)),(.pointer (some (Addr.add p0 518))),(.pointer (some (Addr.add p0 521))),(.int .u8 n11),(.agg ⟨[(.int .i32 r15.1),(.int .u32 r15.2)]⟩)] [] fun (r16:Unit)=>drw<|ld (.I .u8) (Addr.add p0 529) fun (n17:Int)=>ixS 1 s1 (IntKind.wrap .i64 ((s1.l:Int)-(2:Int))) fun (p18:Addr)=>ld (.I .u8) p18 fun (n19:Int)=>ixS 2 s5 n19 fun (p20:Addr)=>ldL [(.I .i32),(.I .u32)] p20 0 fun (r21:(Int×Int))=>callP Tryd.prog 139 #[(.pointer (some p9)),(.pointer (some (Addr.add p0 518))),(.pointer (some (Addr.add p0 521))),(.int .u8 n17),(.agg ⟨[(.int .i32 r21.1),(.int .u32 r21.2)]⟩)] [] fun (r22:Unit)=>ixS 1 s1 (IntKind.wrap .i64 ((s1.l:Int)-(3:Int))) fun (p23:Addr)=>ld (.I .u8) p23 fun (n24:Int)=>ixS 2 s5 n24 fun (p25:Addr)=>ldL [(.I .i32),(.I .u32)] p25 0 fun (r26:(Int×Int))=>callP Tryd.prog 140 #[(.pointer (some p8)),(.agg ⟨[(.int .i32 r26.1),(.int .u32 r26.2)]⟩)] [] fun (r27:Unit)=>R10 (IntKind.wrap .i64 ((s1.l:Int)-(3:Int)))) (drw<|ld (.I .u8) (Addr.add p0 529) fun (n28:Int)=>ixS 1 s1 (IntKind.wrap .i64 ((s1.l:Int)-(1:Int))) fun (p29:Addr)=>ld (.I .u8) p29 fun (n30:Int)=>ixS 2 s5 n30 fun (p31:Addr)=>ldL [(.I .i32),(.I .u32)] p31 0 fun (r32:(Int×Int))=>callP Tryd.prog 139 #[(.pointer (some p9)),(.pointer (some (Addr.add p0 518))),(.pointer (some (Addr.add p0 521))),(.int .u8 n28),(.agg ⟨[(.int .i32 r32.1),(.int .u32 r32.2)]⟩)] [] fun (r33:Unit)=>drw<|ld (.I .u8) (Addr.add p0 529) fun (n34:Int)=>ixS 1 s1 (IntKind.wrap .i64 ((s1.l:Int)-(2:Int))) fun (p35:Addr)=>ld (.I .u8) p35 fun (n36:Int)=>ixS 2 s5 n36 fun (p37:Addr)=>ldL [(.I .i32),(.I .u32)] p37 0 fun (r38:(Int×Int))=>callP Tryd.prog 139 #[(.pointer (some p8)),(.pointer (some (Addr.add p0 518))),(.pointer (some (Addr.add p0 521))),(.int .u8 n34),(.agg ⟨[(.int .i32 r38.1),(.int .u32 r38.2)]⟩)] [] fun (r39:Unit)=>R10 (IntKind.wrap .i64 ((s1.l:Int)-(2:Int))))
def q114 (p0:Addr) (s1:Sl) (K2:(Value)→PT):PT :=
 cnd (decide ((s1.l:Int)≤(2:Int))) (callP Tryd.prog 62 #[(.string ⟨#[99,111,109,112,114,101,115,115,58,32,115,114,99,32,116,111,111,32,115,109,97,108,108]⟩)] [.c .V] fun (r3:Value)=>K2 r3) (ld .S (Addr.add (Addr.add p0 521) 2) fun (s4:Sl)=>slc 2 s4 none (some (256:Int)) none fun (s5:Sl)=>drw<|ld .S (Addr.add p0 526) fun (s6:Sl)=>callP Tryd.prog 138 #[(.pointer (some (Addr.add p0 518))),(.slice s6.a s6.l s6.c)] [] fun (r7:Unit)=>nw z213 213 fun (p8:Addr)=>nw z213 213 fun (p9:Addr)=>joinP (q114_X12 p0 s1 s5 p8 p9) (q114_J11 p0 s1 K2 s5 p8 p9))
def h114:Hint:=⟨(.n (.n (.n (.n .e 127 ([(8,.c (.I .i64))],[1,6,5,7,0]) .e) 255 ([(8,.c (.I .i64))],[1,6,5,7,0]) .e) 1023 ([],[7,6,0]) (.n (.n .e 32740 ([(1,.c .S)],[6,5,7,0]) .e) 130972 ([(1,.c .S)],[6,5,7,0]) .e)) 130972 ([(1,.c .S)],[6,5,7,0]) (.n (.n (.n .e 523900 ([(1,.c .S)],[6,5,7,0]) .e) 523900 ([(1,.c .S)],[6,5,7,0]) .e) 523902 ([(1,.c .S)],[6,5,7,0]) (.n .e 523902 ([(1,.c .S)],[6,5,7,0]) .e))),.e⟩
theorem q114_eq (p0:Addr) (s1:Sl) (K2:(Value)→PT):fnE Cx h114 [.c .V] Tryd.f114 [.pt p0,.v (.slice s1.a s1.l s1.c)] K2=q114 p0 s1 K2:=by kernel_rfl
theorem q114_fnok:fnOk Tryd.f114 2=true:=by kernel_rfl
theorem q114_ok (p0:Addr) (s1:Sl) (K2:(Value)→PT) {w:World} (h:q114 p0 s1 K2 w):Calls Tryd.prog 114 #[(.pointer (some p0)),(.slice s1.a s1.l s1.c)] w fun e w'=>∃r,e = .returned (resMk [.c .V] r)∧K2 r w' :=
 of_eq Tryd.func114 q114_fnok (by kernel_rfl) (by kernel_rfl) (q114_eq p0 s1 K2) h
def q117_L0 (p0:Addr) (s1:Sl) (R4:Unit→PT) (x5:Int) (A6:Int→PT):PT :=
 cnd (decide (x5<(s1.l:Int))) (ixS 1 s1 x5 fun (p7:Addr)=>ld (.I .u8) p7 fun (n8:Int)=>drw<|ixA 1 256 p0 n8 fun (p9:Addr)=>ld (.I .u32) p9 fun (n10:Int)=>ixA 1 256 p0 n8 fun (p11:Addr)=>st p11 (.int .u32 (IntKind.wrap .u32 (n10+(1:Int))))<|A6 (IntKind.wrap .i64 (x5+(1:Int)))) (R4 ())
def q117_J1 (p0:Addr) (x17:(Bool×Int×Int)) (R19:Bool×Int→PT) (x23:Int):PT :=
 st (Addr.add p0 265) (.int .u16 (IntKind.wrap .u16 ((IntKind.wrap .u16 x17.2.2)+(1:Int))))<|ld .S (Addr.add p0 270) fun (s24:Sl)=>cnd (decide ((s24.l:Int)≤x17.2.2)) (R19 (false,x23)) (ld .S (Addr.add p0 270) fun (s25:Sl)=>ixS 2 s25 x17.2.2 fun (p26:Addr)=>ld (.I .u8) (Addr.add p26 1) fun (n27:Int)=>cnd (decide (n27=(0:Int))) (R19 (false,x23)) (R19 (x17.1,x23)))
def q117_J2 (x17:(Bool×Int×Int)) (A18:(Bool×Int×Int)→PT) (x28:Bool×Int):PT :=
 A18 (x28.1,x28.2,(IntKind.wrap .i64 (x17.2.2+(1:Int))))
def q117_L3 (p0:Addr) (R15:Bool×Int→PT) (s16:Sl) (x17:Bool×Int×Int) (A18:(Bool×Int×Int)→PT):PT :=
 cnd (decide (x17.2.2<(s16.l:Int))) (joinP (fun R19=>ixS 1 s16 x17.2.2 fun (p20:Addr)=>ld (.I .u32) p20 fun (n21:Int)=>cnd (decide (n21=(0:Int))) (R19 (x17.1,x17.2.1)) (joinP (fun R22=>cnd (decide (x17.2.1<n21)) (R22 n21) (R22 x17.2.1)) (q117_J1 p0 x17 R19))) (q117_J2 x17 A18)) (R15 (x17.1,x17.2.1))
def q117_J4 (K2:(Int×Bool)→PT) (x29:Bool×Int):PT :=
 K2 ((IntKind.wrap .i64 x29.2),x29.1)
def q117_J5 (p0:Addr) (x33:(Int×Int)) (R35:Int→PT) (x39:Int):PT :=
 st (Addr.add p0 265) (.int .u16 (IntKind.wrap .u16 ((IntKind.wrap .u16 x33.2)+(1:Int))))<|R35 x39
def q117_J6 (x33:(Int×Int)) (A34:(Int×Int)→PT) (x40:Int):PT :=
 A34 (x40,(IntKind.wrap .i64 (x33.2+(1:Int))))
def q117_L7 (p0:Addr) (R31:Int→PT) (s32:Sl) (x33:Int×Int) (A34:(Int×Int)→PT):PT :=
 cnd (decide (x33.2<(s32.l:Int))) (joinP (fun R35=>ixS 1 s32 x33.2 fun (p36:Addr)=>ld (.I .u32) p36 fun (n37:Int)=>cnd (decide (n37=(0:Int))) (R35 x33.1) (joinP (fun R38=>cnd (decide (x33.1<n37)) (R38 n37) (R38 x33.1)) (q117_J5 p0 x33 R35))) (q117_J6 x33 A34)) (R31 x33.1)
def q117_J8 (K2:(Int×Bool)→PT) (x41:Int):PT :=
 K2 ((IntKind.wrap .i64 x41),false)
def q117_J9 (p0:Addr) (K2:(Int×Bool)→PT) (x30:Int):PT :=
 joinP (fun R31=>slcA 1 256 p0 none none none fun (s32:Sl)=>loopP (x30,(0:Int)) (q117_L7 p0 R31 s32)) (q117_J8 K2)
def q117_J10 (p0:Addr) (K2:(Int×Bool)→PT) (x12:Unit):PT :=
 joinP (fun R13=>ld .S (Addr.add p0 270) fun (s14:Sl)=>cnd (decide ((0:Int)<(s14.l:Int))) (joinP (fun R15=>slcA 1 256 p0 none none none fun (s16:Sl)=>loopP (true,(0:Int),(0:Int)) (q117_L3 p0 R15 s16)) (q117_J4 K2)) (R13 (0:Int))) (q117_J9 p0 K2)
def q117 (p0:Addr) (s1:Sl) (K2:(Int×Bool)→PT):PT :=
 ldA 256 p0 fun (c3:Array Value)=>joinP (fun R4=>loopP (0:Int) (q117_L0 p0 s1 R4)) (q117_J10 p0 K2)
def h117:Hint:=⟨(.n (.n (.n (.n .e 15 ([],[0,5]) .e) 63 ([(8,.c (.I .u32))],[0]) .e) 122 ([(19,.c (.I .i64))],[0,17,5,18]) (.n (.n .e 127 ([(8,.c (.I .u32))],[]) .e) 506 ([(5,.c .B),(8,.c (.I .u32))],[]) .e)) 1018 ([(8,.c (.I .u32)),(87,.c (.I .i64))],[0,85,86]) (.n (.n (.n .e 4050 ([(5,.c .B),(8,.c (.I .u32)),(45,.c (.I .i64))],[0,43,44]) .e) 8147 ([(8,.c (.I .u32))],[87,0,85,86]) .e) 32403 ([(5,.c .B),(8,.c (.I .u32))],[45,0,43,44]) (.n (.n .e 130355 ([(8,.c (.I .u32))],[11,87,0,85,86]) .e) 518451 ([(8,.c (.I .u32))],[5,9,45,0,43,44]) .e))),.e⟩
theorem q117_eq (p0:Addr) (s1:Sl) (K2:(Int×Bool)→PT):fnE Cx h117 [.c (.I .i64),.c .B] Tryd.f117 [.pt p0,.v (.slice s1.a s1.l s1.c)] K2=q117 p0 s1 K2:=by kernel_rfl
theorem q117_fnok:fnOk Tryd.f117 2=true:=by kernel_rfl
theorem q117_ok (p0:Addr) (s1:Sl) (K2:(Int×Bool)→PT) {w:World} (h:q117 p0 s1 K2 w):Calls Tryd.prog 117 #[(.pointer (some p0)),(.slice s1.a s1.l s1.c)] w fun e w'=>∃r,e = .returned (resMk [.c (.I .i64),.c .B] r)∧K2 r w' :=
 of_eq Tryd.func117 q117_fnok (by kernel_rfl) (by kernel_rfl) (q117_eq p0 s1 K2) h
def q119_L0 (s1:Sl) (R3:Int→PT) (s4:Sl) (x5:Int×Int) (A6:(Int×Int)→PT):PT :=
 cnd (decide (x5.2<(s4.l:Int))) (ixS 2 s4 x5.2 fun (p7:Addr)=>ldL [(.I .u16),(.I .u8)] p7 0 fun (r8:(Int×Int))=>nw z140 140 fun (p9:Addr)=>stL p9 0 [(.int .u16 r8.1),(.int .u8 r8.2)]<|drw<|ld (.I .u8) (Addr.add p9 1) fun (n10:Int)=>ixS 1 s1 x5.2 fun (p11:Addr)=>ld (.I .u32) p11 fun (n12:Int)=>A6 ((IntKind.wrap .u32 (x5.1+(IntKind.wrap .u32 ((IntKind.wrap .u32 n10)*n12)))),(IntKind.wrap .i64 (x5.2+(1:Int))))) (R3 x5.1)
def q119_J1 (K2:Int→PT) (x13:Int):PT :=
 req (0≤(3:Int))<|K2 (IntKind.wrap .i64 (shrI .u32 x13 (3:Int)))
def q119 (s0:Sl) (s1:Sl) (K2:Int→PT):PT :=
 joinP (fun R3=>slc 2 s0 none (some (s1.l:Int)) none fun (s4:Sl)=>loopP ((7:Int),(0:Int)) (q119_L0 s1 R3 s4)) (q119_J1 K2)
def h119:Hint:=⟨(.n (.n .e 7 ([(5,.c (.I .u32))],[]) .e) 58 ([(5,.c (.I .u32)),(13,.c (.I .i64))],[1,11,12]) .e),.e⟩
theorem q119_eq (s0:Sl) (s1:Sl) (K2:Int→PT):fnE Cx h119 [.c (.I .i64)] Tryd.f119 [.v (.slice s0.a s0.l s0.c),.v (.slice s1.a s1.l s1.c)] K2=q119 s0 s1 K2:=by kernel_rfl
theorem q119_fnok:fnOk Tryd.f119 2=true:=by kernel_rfl
theorem q119_ok (s0:Sl) (s1:Sl) (K2:Int→PT) {w:World} (h:q119 s0 s1 K2 w):Calls Tryd.prog 119 #[(.slice s0.a s0.l s0.c),(.slice s1.a s1.l s1.c)] w fun e w'=>∃r,e = .returned (resMk [.c (.I .i64)] r)∧K2 r w' :=
 of_eq Tryd.func119 q119_fnok (by kernel_rfl) (by kernel_rfl) (q119_eq s0 s1 K2) h
def q120_L0 (s2:Sl) (p4:Addr) (s6:Sl) (R7:Unit→PT) (x8:Int) (A9:Int→PT):PT :=
 cnd (decide ((0:Int)<x8)) (ixS 1 s2 (IntKind.wrap .i64 ((IntKind.wrap .i64 ((IntKind.wrap .i64 ((s2.l:Int)-(andI .i64 (s2.l:Int) (3:Int))))+x8))-(1:Int))) fun (p10:Addr)=>ld (.I .u8) p10 fun (n11:Int)=>callP Tryd.prog 147 #[(.pointer (some p4)),(.slice s6.a s6.l s6.c),(.int .u8 n11)] [] fun (r12:Unit)=>A9 (IntKind.wrap .i64 (x8-(1:Int)))) (R7 ())
def q120_L1 (s2:Sl) (s6:Sl) (p17:Addr) (x22:(Int×Sl)) (A23:(Int×Sl)→PT) (n24:Int) (x29:Int) (A30:Int→PT):PT :=
 cnd (decide ((maxI (IntKind.wrap .i64 (x22.1-(IntKind.wrap .i64 ((4:Int)*(quoI .i64 (IntKind.wrap .i64 ((IntKind.wrap .i64 ((x22.2.l:Int)-n24))-(8:Int))) (6:Int)))))) (-4:Int))<x29)) (ldL [(.I .u64),(.I .u64),(.I .i64)] p17 0 fun (r31:(Int×Int×Int))=>callP Tryd.prog 149 #[(.agg ⟨[(.int .u64 r31.1),(.int .u64 r31.2.1),(.int .i64 r31.2.2)]⟩),(.slice x22.2.a x22.2.l x22.2.c)] [.m [(.I .u64),(.I .u64),(.I .i64)]] fun (r32:(Int×Int×Int))=>stL p17 0 [(.int .u64 r32.1),(.int .u64 r32.2.1),(.int .i64 r32.2.2)]<|slc 1 s2 (some x29) (some (IntKind.wrap .i64 (x29+(4:Int)))) none fun (s33:Sl)=>drw<|ldL [(.I .u64),(.I .u64),(.I .i64)] p17 0 fun (r34:(Int×Int×Int))=>ixS 1 s33 (3:Int) fun (p35:Addr)=>ld (.I .u8) p35 fun (n36:Int)=>ixS 2 s6 n36 fun (p37:Addr)=>ldL [(.I .u16),(.I .u8)] p37 0 fun (r38:(Int×Int))=>ixS 1 s33 (2:Int) fun (p39:Addr)=>ld (.I .u8) p39 fun (n40:Int)=>ixS 2 s6 n40 fun (p41:Addr)=>ldL [(.I .u16),(.I .u8)] p41 0 fun (r42:(Int×Int))=>ixS 1 s33 (1:Int) fun (p43:Addr)=>ld (.I .u8) p43 fun (n44:Int)=>ixS 2 s6 n44 fun (p45:Addr)=>ldL [(.I .u16),(.I .u8)] p45 0 fun (r46:(Int×Int))=>ixS 1 s33 (0:Int) fun (p47:Addr)=>ld (.I .u8) p47 fun (n48:Int)=>ixS 2 s6 n48 fun (p49:Addr)=>ldL [(.I .u16),(.I .u8)] p49 0 fun (r50:(Int×Int))=>callP Tryd.prog 151 #[(.agg ⟨[(.int .u16 r38.1),(.int .u8 r38.2)]⟩),(.agg ⟨[(.int .u16 r42.1),(.int .u8 r42.2)]⟩),(.agg ⟨[(.int .u16 r46.1),(.int .u8 r46.2)]⟩),(.agg ⟨[(.int .u16 r50.1),(.int .u8 r50.2)]⟩)] [.c (.I .u64),.c (.I .u64)] fun (r51:Int×Int)=>kp [(Addr.add p17 0,(.int .u64 r34.1)),(Addr.add p17 1,(.int .u64 r34.2.1)),(Addr.add p17 2,(.int .i64 r34.2.2))]<|callP Tryd.prog 150 #[(.agg ⟨[(.int .u64 r34.1),(.int .u64 r34.2.1),(.int .i64 r34.2.2)]⟩),(.int .u64 r51.1),(.int .u64 r51.2)] [.m [(.I .u64),(.I .u64),(.I .i64)]] fun (r52:(Int×Int×Int))=>stL p17 0 [(.int .u64 r52.1),(.int .u64 r52.2.1),(.int .i64 r52.2.2)]<|A30 (IntKind.wrap .i64 (x29-(4:Int)))) (A23 (x29,x22.2))
def q120_L2 (s2:Sl) (s6:Sl) (p17:Addr) (R21:Sl→PT) (x22:Int×Sl) (A23:(Int×Sl)→PT):PT :=
 cnd (decide ((0:Int)≤x22.1)) (ld (.I .i64) (Addr.add p17 2) fun (n24:Int)=>req ((6:Int)≠0)<|cnd (decide ((quoI .i64 (IntKind.wrap .i64 ((IntKind.wrap .i64 ((x22.2.l:Int)-n24))-(8:Int))) (6:Int))≤(0:Int))) (ld (.I .i64) (Addr.add p17 2) fun (n25:Int)=>slc 1 x22.2 none (some n25) none fun (s26:Sl)=>req ((4:Int)≠0)<|callP Tryd.prog 148 #[(.slice s26.a s26.l s26.c),(.int .i64 (IntKind.wrap .i64 ((IntKind.wrap .i64 ((IntKind.wrap .i64 ((quoI .i64 x22.1 (4:Int))+(1:Int)))*(6:Int)))+(8:Int))))] [.c .S] fun (r27:Sl)=>slc 1 r27 none (some (r27.c:Int)) none fun (s28:Sl)=>A23 (x22.1,s28)) (loopP x22.1 (q120_L1 s2 s6 p17 x22 A23 n24))) (R21 x22.2)
def q120_J3 (K3:Sl→PT) (p4:Addr) (p17:Addr) (x53:Sl):PT :=
 drw<|ld (.I .u64) p17 fun (n54:Int)=>ld (.I .u64) (Addr.add p17 1) fun (n55:Int)=>ld (.I .i64) (Addr.add p17 2) fun (n56:Int)=>slc 1 x53 none (some n56) none fun (s57:Sl)=>st p4 (.int .u64 n54)<|kp [((Addr.add p17 2),(.int .i64 n56)),((Addr.add p17 1),(.int .u64 n55))]<|st (Addr.add p4 1) (.int .u8 (IntKind.wrap .u8 n55))<|kp [((Addr.add p17 2),(.int .i64 n56))]<|st (Addr.add p4 2) (.slice s57.a s57.l s57.c)<|callP Tryd.prog 152 #[(.pointer (some p4))] [] fun (r58:Unit)=>ld .S (Addr.add p4 2) fun (s59:Sl)=>K3 s59
def q120_J4 (s2:Sl) (K3:Sl→PT) (p4:Addr) (s6:Sl) (x13:Unit):PT :=
 ld (.I .u64) p4 fun (n14:Int)=>ld (.I .u8) (Addr.add p4 1) fun (n15:Int)=>ld .S (Addr.add p4 2) fun (s16:Sl)=>nw z222 222 fun (p17:Addr)=>stL p17 0 [(.int .u64 n14),(.int .u64 (IntKind.wrap .u64 n15)),(.int .i64 (s16.l:Int))]<|ld .S (Addr.add p4 2) fun (s18:Sl)=>ld .S (Addr.add p4 2) fun (s19:Sl)=>slc 1 s18 none (some (s19.c:Int)) none fun (s20:Sl)=>joinP (fun R21=>loopP ((IntKind.wrap .i64 ((IntKind.wrap .i64 ((s2.l:Int)-(andI .i64 (s2.l:Int) (3:Int))))-(4:Int))),s20) (q120_L2 s2 s6 p17 R21)) (q120_J3 K3 p4 p17)
def q120 (p0:Addr) (s1:Sl) (s2:Sl) (K3:Sl→PT):PT :=
 nw z219 219 fun (p4:Addr)=>stL p4 0 [(.int .u64 (0:Int)),(.int .u8 (0:Int)),(.slice s1.a s1.l s1.c)]<|ld .S (Addr.add p0 271) fun (s5:Sl)=>slc 2 s5 none (some (256:Int)) none fun (s6:Sl)=>joinP (fun R7=>loopP (andI .i64 (s2.l:Int) (3:Int)) (q120_L0 s2 p4 s6 R7)) (q120_J4 s2 K3 p4 s6)
def h120:Hint:=⟨(.n (.n (.n .e 63 ([],[8,9,2,7]) .e) 506 ([(10,.c (.I .i64))],[7,8,2,9]) .e) 1023 ([(12,.c .S)],[11,7]) (.n (.n .e 4092 ([(8,.c (.I .i64)),(12,.c .S)],[11,9,2,7]) .e) 523822 ([(8,.c (.I .i64))],[11,9,2,12,7,14]) .e)),.e⟩
theorem q120_eq (p0:Addr) (s1:Sl) (s2:Sl) (K3:Sl→PT):fnE Cx h120 [.c .S] Tryd.f120 [.pt p0,.v (.slice s1.a s1.l s1.c),.v (.slice s2.a s2.l s2.c)] K3=q120 p0 s1 s2 K3:=by kernel_rfl
theorem q120_fnok:fnOk Tryd.f120 3=true:=by kernel_rfl
theorem q120_ok (p0:Addr) (s1:Sl) (s2:Sl) (K3:Sl→PT) {w:World} (h:q120 p0 s1 s2 K3 w):Calls Tryd.prog 120 #[(.pointer (some p0)),(.slice s1.a s1.l s1.c),(.slice s2.a s2.l s2.c)] w fun e w'=>∃r,e = .returned (resMk [.c .S] r)∧K3 r w' :=
 of_eq Tryd.func120 q120_fnok (by kernel_rfl) (by kernel_rfl) (q120_eq p0 s1 s2 K3) h
def q121_J0 (p0:Addr) (K1:Unit→PT) (x13:Int):PT :=
 st (Addr.add p0 268) (.int .u8 x13)<|K1 ()
def q121_J1 (p0:Addr) (K1:Unit→PT) (x11:Int):PT :=
 joinP (fun R12=>cnd (decide ((11:Int)<x11)) (R12 (11:Int)) (R12 x11)) (q121_J0 p0 K1)
def q121_J2 (p0:Addr) (K1:Unit→PT) (x9:Int):PT :=
 joinP (fun R10=>cnd (decide (x9<(5:Int))) (R10 (5:Int)) (R10 x9)) (q121_J1 p0 K1)
def q121_J3 (p0:Addr) (K1:Unit→PT) (r3:Int) (x7:Int):PT :=
 joinP (fun R8=>cnd (decide (x7<r3)) (R8 r3) (R8 x7)) (q121_J2 p0 K1)
def q121 (p0:Addr) (K1:Unit→PT):PT :=
 ld (.I .u8) (Addr.add p0 262) fun (n2:Int)=>callP Tryd.prog 153 #[(.pointer (some p0))] [.c (.I .u8)] fun (r3:Int)=>ld (.I .i64) (Addr.add p0 260) fun (n4:Int)=>callP Tryd.prog 64 #[(.int .u32 (IntKind.wrap .u32 (IntKind.wrap .i64 (n4-(1:Int)))))] [.c (.I .u32)] fun (r5:Int)=>joinP (fun R6=>cnd (decide ((IntKind.wrap .u8 ((IntKind.wrap .u8 r5)-(1:Int)))<n2)) (R6 (IntKind.wrap .u8 ((IntKind.wrap .u8 r5)-(1:Int)))) (R6 n2)) (q121_J3 p0 K1 r3)
def h121:Hint:=⟨(.n (.n (.n .e 15 ([(2,.c (.I .u8))],[3,0]) .e) 31 ([(2,.c (.I .u8))],[0]) .e) 63 ([(2,.c (.I .u8))],[0]) (.n .e 127 ([(2,.c (.I .u8))],[0]) .e)),.e⟩
theorem q121_eq (p0:Addr) (K1:Unit→PT):fnE Cx h121 [] Tryd.f121 [.pt p0] K1=q121 p0 K1:=by kernel_rfl
theorem q121_fnok:fnOk Tryd.f121 1=true:=by kernel_rfl
theorem q121_ok (p0:Addr) (K1:Unit→PT) {w:World} (h:q121 p0 K1 w):Calls Tryd.prog 121 #[(.pointer (some p0))] w fun e w'=>∃r,e = .returned (resMk [] r)∧K1 r w' :=
 of_eq Tryd.func121 q121_fnok (by kernel_rfl) (by kernel_rfl) (q121_eq p0 K1) h
def q122_L0 (p5:Addr) (R6:Unit→PT) (s8:Sl) (x9:Int) (A10:Int→PT):PT :=
 cnd (decide (x9<(s8.l:Int))) (ixS 1 s8 x9 fun (p11:Addr)=>ld (.I .u32) p11 fun (n12:Int)=>callP Tryd.prog 64 #[(.int .u32 (IntKind.wrap .u32 (n12+(1:Int))))] [.c (.I .u32)] fun (r13:Int)=>ixA 2 32 p5 (andI .u32 r13 (31:Int)) fun (p14:Addr)=>ld (.I .u32) p14 fun (n15:Int)=>ixA 2 32 p5 (andI .u32 r13 (31:Int)) fun (p16:Addr)=>st p16 (.int .u32 (IntKind.wrap .u32 (n15+(1:Int))))<|A10 (IntKind.wrap .i64 (x9+(1:Int)))) (R6 ())
def q122_L1 (p5:Addr) (R18:Unit→PT) (x19:Int) (A20:Int→PT):PT :=
 cnd (decide ((0:Int)<x19)) (drw<|ixA 2 32 p5 (IntKind.wrap .i64 (x19-(1:Int))) fun (p21:Addr)=>ld (.I .u32) p21 fun (n22:Int)=>ixA 2 32 p5 x19 fun (p23:Addr)=>ld (.I .u32) p23 fun (n24:Int)=>ixA 2 32 p5 (IntKind.wrap .i64 (x19-(1:Int))) fun (p25:Addr)=>st p25 (.int .u32 (IntKind.wrap .u32 (n22+n24)))<|A20 (IntKind.wrap .i64 (x19-(1:Int)))) (R18 ())
def q122_L2 (p5:Addr) (R27:Unit→PT) (s28:Sl) (x29:Int) (A30:Int→PT):PT :=
 cnd (decide (x29<(s28.l:Int))) (ixA 2 32 p5 x29 fun (p31:Addr)=>ld (.I .u32) p31 fun (n32:Int)=>ixA 2 32 p5 x29 fun (p33:Addr)=>st (Addr.add p33 1) (.int .u32 n32)<|A30 (IntKind.wrap .i64 (x29+(1:Int)))) (R27 ())
def q122_L3 (s4:Sl) (p5:Addr) (n41:Int) (r42:Int) (p50:Addr) (R51:Int→PT) (x52:Int) (A53:Int→PT):PT :=
 ixA 2 32 p5 (andI .u32 (IntKind.wrap .u32 (r42+(1:Int))) (31:Int)) fun (p54:Addr)=>ld (.I .u32) p54 fun (n55:Int)=>cnd (decide (n55<x52)) (callP Tryd.prog 123 #[(.pointer (some p50))] [.c (.I .u32)] fun (r56:Int)=>cnd (decide (r56<n41)) (ld (.I .u64) p50 fun (n57:Int)=>ixS 1 s4 (andI .u32 x52 (511:Int)) fun (p58:Addr)=>st p58 (.int .u64 n57)<|ixS 1 s4 (andI .u32 (IntKind.wrap .u32 ((IntKind.wrap .u32 (x52-(1:Int)))-(1:Int))) (511:Int)) fun (p59:Addr)=>ld (.I .u64) p59 fun (n60:Int)=>st p50 (.int .u64 n60)<|A53 (IntKind.wrap .u32 (x52-(1:Int)))) (R51 x52)) (R51 x52)
def q122_J4 (s4:Sl) (x37:(Int)) (R39:Unit→PT) (n41:Int) (x61:Int):PT :=
 callP Tryd.prog 154 #[(.int .u32 n41),(.int .u8 (IntKind.wrap .u8 x37))] [.c (.I .u64)] fun (r62:Int)=>ixS 1 s4 (andI .u32 x61 (511:Int)) fun (p63:Addr)=>st p63 (.int .u64 r62)<|R39 ()
def q122_J5 (x37:(Int)) (A38:Int→PT) (x64:Unit):PT :=
 A38 (IntKind.wrap .i64 (x37+(1:Int)))
def q122_X6 (s4:Sl) (p5:Addr) (s36:Sl) (x37:(Int)) (R39:Unit→PT):PT :=
 ixS 1 s36 x37 fun (p40:Addr)=>ld (.I .u32) p40 fun (n41:Int)=>callP Tryd.prog 64 #[(.int .u32 (IntKind.wrap .u32 (n41+(1:Int))))] [.c (.I .u32)] fun (r42:Int)=>ixA 2 32 p5 (andI .u32 (IntKind.wrap .u32 (r42+(1:Int))) (31:Int)) fun (p43:Addr)=>ld (.I .u32) (Addr.add p43 1) fun (n44:Int)=>ixA 2 32 p5 (andI .u32 (IntKind.wrap .u32 (r42+(1:Int))) (31:Int)) fun (p45:Addr)=>ld (.I .u32) (Addr.add p45 1) fun (n46:Int)=>ixA 2 32 p5 (andI .u32 (IntKind.wrap .u32 (r42+(1:Int))) (31:Int)) fun (p47:Addr)=>st (Addr.add p47 1) (.int .u32 (IntKind.wrap .u32 (n46+(1:Int))))<|ixS 1 s4 (andI .u32 (IntKind.wrap .u32 (n44-(1:Int))) (511:Int)) fun (p48:Addr)=>ld (.I .u64) p48 fun (n49:Int)=>nw z196 196 fun (p50:Addr)=>st p50 (.int .u64 n49)<|joinP (fun R51=>loopP n44 (q122_L3 s4 p5 n41 r42 p50 R51)) (q122_J4 s4 x37 R39 n41)
def q122_L7 (K1:Unit→PT) (s4:Sl) (p5:Addr) (s36:Sl) (x37:Int) (A38:Int→PT):PT :=
 cnd (decide (x37<(s36.l:Int))) (joinP (q122_X6 s4 p5 s36 x37) (q122_J5 x37 A38)) (K1 ())
def q122_J8 (p0:Addr) (K1:Unit→PT) (s4:Sl) (p5:Addr) (x34:Unit):PT :=
 drw<|ld (.I .u16) (Addr.add p0 265) fun (n35:Int)=>slcA 1 256 p0 none (some n35) none fun (s36:Sl)=>loopP (0:Int) (q122_L7 K1 s4 p5 s36)
def q122_J9 (p0:Addr) (K1:Unit→PT) (s4:Sl) (p5:Addr) (x26:Unit):PT :=
 joinP (fun R27=>slcA 2 32 p5 none (some (19:Int)) none fun (s28:Sl)=>loopP (0:Int) (q122_L2 p5 R27 s28)) (q122_J8 p0 K1 s4 p5)
def q122_J10 (p0:Addr) (K1:Unit→PT) (s4:Sl) (p5:Addr) (x17:Unit):PT :=
 joinP (fun R18=>loopP (19:Int) (q122_L1 p5 R18)) (q122_J9 p0 K1 s4 p5)
def q122 (p0:Addr) (K1:Unit→PT):PT :=
 ld .S (Addr.add p0 273) fun (s2:Sl)=>slc 1 s2 none (some (513:Int)) none fun (s3:Sl)=>st (Addr.add p0 273) (.slice s3.a s3.l s3.c)<|slc 1 s3 (some (1:Int)) (some (513:Int)) none fun (s4:Sl)=>nw z229 229 fun (p5:Addr)=>joinP (fun R6=>drw<|ld (.I .u16) (Addr.add p0 265) fun (n7:Int)=>slcA 1 256 p0 none (some n7) none fun (s8:Sl)=>loopP (0:Int) (q122_L0 p5 R6 s8)) (q122_J10 p0 K1 s4 p5)
def h122:Hint:=⟨(.n (.n (.n (.n .e 31 ([],[3,0,2]) .e) 63 ([],[3,0,2]) .e) 127 ([],[0,3,2]) (.n (.n .e 250 ([(34,.c (.I .i64))],[3,32,0,2,33]) .e) 506 ([(7,.c (.I .i64))],[3,0,2]) .e)) 1018 ([(68,.c (.I .i64))],[3,0,2,67]) (.n (.n (.n .e 1022 ([(88,.c (.I .i64))],[3,2,86,87]) .e) 8179 ([],[88,3,2,86,87]) .e) 1046943 ([(12,.c (.I .u32))],[10,9,88,3,2,86,87]) (.n .e 4187772 ([(12,.c (.I .u32))],[13,2,10,9,88,3,86,87,11]) .e))),.e⟩
theorem q122_eq (p0:Addr) (K1:Unit→PT):fnE Cx h122 [] Tryd.f122 [.pt p0] K1=q122 p0 K1:=by kernel_rfl
theorem q122_fnok:fnOk Tryd.f122 1=true:=by kernel_rfl
theorem q122_ok (p0:Addr) (K1:Unit→PT) {w:World} (h:q122 p0 K1 w):Calls Tryd.prog 122 #[(.pointer (some p0))] w fun e w'=>∃r,e = .returned (resMk [] r)∧K1 r w' :=
 of_eq Tryd.func122 q122_fnok (by kernel_rfl) (by kernel_rfl) (q122_eq p0 K1) h
def q123 (p0:Addr) (K1:Int→PT):PT :=
 ld (.I .u64) p0 fun (n2:Int)=>K1 (IntKind.wrap .u32 n2)
def h123:Hint:=⟨.e,.e⟩
theorem q123_eq (p0:Addr) (K1:Int→PT):fnE Cx h123 [.c (.I .u32)] Tryd.f123 [.pt p0] K1=q123 p0 K1:=by kernel_rfl
theorem q123_fnok:fnOk Tryd.f123 1=true:=by kernel_rfl
theorem q123_ok (p0:Addr) (K1:Int→PT) {w:World} (h:q123 p0 K1 w):Calls Tryd.prog 123 #[(.pointer (some p0))] w fun e w'=>∃r,e = .returned (resMk [.c (.I .u32)] r)∧K1 r w' :=
 of_eq Tryd.func123 q123_fnok (by kernel_rfl) (by kernel_rfl) (q123_eq p0 K1) h
def q124 (p0:Addr) (n1:Int) (K2:Unit→PT):PT :=
 ld (.I .u64) p0 fun (n3:Int)=>st p0 (.int .u64 (orI .u64 (andI .u64 n3 (18446744069414584320:Int)) (IntKind.wrap .u64 n1)))<|K2 ()
def h124:Hint:=⟨.e,.e⟩
theorem q124_eq (p0:Addr) (n1:Int) (K2:Unit→PT):fnE Cx h124 [] Tryd.f124 [.pt p0,.v (.int .u32 n1)] K2=q124 p0 n1 K2:=by kernel_rfl
theorem q124_fnok:fnOk Tryd.f124 2=true:=by kernel_rfl
theorem q124_ok (p0:Addr) (n1:Int) (K2:Unit→PT) {w:World} (h:q124 p0 n1 K2 w):Calls Tryd.prog 124 #[(.pointer (some p0)),(.int .u32 n1)] w fun e w'=>∃r,e = .returned (resMk [] r)∧K2 r w' :=
 of_eq Tryd.func124 q124_fnok (by kernel_rfl) (by kernel_rfl) (q124_eq p0 n1 K2) h
def q125 (p0:Addr) (n1:Int) (K2:Unit→PT):PT :=
 ld (.I .u64) p0 fun (n3:Int)=>req (0≤(32:Int))<|st p0 (.int .u64 (orI .u64 (andI .u64 n3 (18446462603027808255:Int)) (shlI .u64 (IntKind.wrap .u64 (IntKind.wrap .u16 n1)) (32:Int))))<|K2 ()
def h125:Hint:=⟨.e,.e⟩
theorem q125_eq (p0:Addr) (n1:Int) (K2:Unit→PT):fnE Cx h125 [] Tryd.f125 [.pt p0,.v (.int .i16 n1)] K2=q125 p0 n1 K2:=by kernel_rfl
theorem q125_fnok:fnOk Tryd.f125 2=true:=by kernel_rfl
theorem q125_ok (p0:Addr) (n1:Int) (K2:Unit→PT) {w:World} (h:q125 p0 n1 K2 w):Calls Tryd.prog 125 #[(.pointer (some p0)),(.int .i16 n1)] w fun e w'=>∃r,e = .returned (resMk [] r)∧K2 r w' :=
 of_eq Tryd.func125 q125_fnok (by kernel_rfl) (by kernel_rfl) (q125_eq p0 n1 K2) h
def q126 (p0:Addr) (n1:Int) (K2:Unit→PT):PT :=
 ld (.I .u64) p0 fun (n3:Int)=>req (0≤(56:Int))<|st p0 (.int .u64 (orI .u64 (andI .u64 n3 (72057594037927935:Int)) (shlI .u64 (IntKind.wrap .u64 n1) (56:Int))))<|K2 ()
def h126:Hint:=⟨.e,.e⟩
theorem q126_eq (p0:Addr) (n1:Int) (K2:Unit→PT):fnE Cx h126 [] Tryd.f126 [.pt p0,.v (.int .u8 n1)] K2=q126 p0 n1 K2:=by kernel_rfl
theorem q126_fnok:fnOk Tryd.f126 2=true:=by kernel_rfl
theorem q126_ok (p0:Addr) (n1:Int) (K2:Unit→PT) {w:World} (h:q126 p0 n1 K2 w):Calls Tryd.prog 126 #[(.pointer (some p0)),(.int .u8 n1)] w fun e w'=>∃r,e = .returned (resMk [] r)∧K2 r w' :=
 of_eq Tryd.func126 q126_fnok (by kernel_rfl) (by kernel_rfl) (q126_eq p0 n1 K2) h
def q127 (p0:Addr) (K1:Int→PT):PT :=
 ld (.I .u64) p0 fun (n2:Int)=>req (0≤(32:Int))<|K1 (IntKind.wrap .u16 (shrI .u64 n2 (32:Int)))
def h127:Hint:=⟨.e,.e⟩
theorem q127_eq (p0:Addr) (K1:Int→PT):fnE Cx h127 [.c (.I .u16)] Tryd.f127 [.pt p0] K1=q127 p0 K1:=by kernel_rfl
theorem q127_fnok:fnOk Tryd.f127 1=true:=by kernel_rfl
theorem q127_ok (p0:Addr) (K1:Int→PT) {w:World} (h:q127 p0 K1 w):Calls Tryd.prog 127 #[(.pointer (some p0))] w fun e w'=>∃r,e = .returned (resMk [.c (.I .u16)] r)∧K1 r w' :=
 of_eq Tryd.func127 q127_fnok (by kernel_rfl) (by kernel_rfl) (q127_eq p0 K1) h
def q128 (p0:Addr) (K1:Int→PT):PT :=
 ld (.I .u64) p0 fun (n2:Int)=>req (0≤(56:Int))<|K1 (IntKind.wrap .u8 (shrI .u64 n2 (56:Int)))
def h128:Hint:=⟨.e,.e⟩
theorem q128_eq (p0:Addr) (K1:Int→PT):fnE Cx h128 [.c (.I .u8)] Tryd.f128 [.pt p0] K1=q128 p0 K1:=by kernel_rfl
theorem q128_fnok:fnOk Tryd.f128 1=true:=by kernel_rfl
theorem q128_ok (p0:Addr) (K1:Int→PT) {w:World} (h:q128 p0 K1 w):Calls Tryd.prog 128 #[(.pointer (some p0))] w fun e w'=>∃r,e = .returned (resMk [.c (.I .u8)] r)∧K1 r w' :=
 of_eq Tryd.func128 q128_fnok (by kernel_rfl) (by kernel_rfl) (q128_eq p0 K1) h
def q129_L0 (n3:Int) (s5:Sl) (r7:Int) (R8:Int×Int→PT) (x9:Int×Int) (A10:(Int×Int)→PT):PT :=
 ixS 1 s5 x9.2 fun (p11:Addr)=>callP Tryd.prog 128 #[(.pointer (some p11))] [.c (.I .u8)] fun (r12:Int)=>cnd (decide (n3<r12)) (ixS 1 s5 x9.2 fun (p13:Addr)=>callP Tryd.prog 128 #[(.pointer (some p13))] [.c (.I .u8)] fun (r14:Int)=>req (0≤(IntKind.wrap .u8 (r7-r14)))<|ixS 1 s5 x9.2 fun (p15:Addr)=>callP Tryd.prog 126 #[(.pointer (some p15)),(.int .u8 n3)] [] fun (r16:Unit)=>A10 ((IntKind.wrap .i64 (x9.1+(IntKind.wrap .i64 ((shlI .i64 (1:Int) (IntKind.wrap .u8 (r7-n3)))-(shlI .i64 (1:Int) (IntKind.wrap .u8 (r7-r14))))))),(IntKind.wrap .u32 (x9.2-(1:Int))))) (R8 (x9.1,x9.2))
def q129_L1 (n3:Int) (s5:Sl) (R18:Int→PT) (x19:Int) (A20:Int→PT):PT :=
 ixS 1 s5 x19 fun (p21:Addr)=>callP Tryd.prog 128 #[(.pointer (some p21))] [.c (.I .u8)] fun (r22:Int)=>cnd (decide (r22=n3)) (A20 (IntKind.wrap .u32 (x19-(1:Int)))) (R18 x19)
def q129_L2 (p25:Addr) (R26:Unit→PT) (s27:Sl) (x28:Int) (A29:Int→PT):PT :=
 cnd (decide (x28<(s27.l:Int))) (ixA 1 13 p25 x28 fun (p30:Addr)=>st p30 (.int .u32 (4042322160:Int))<|A29 (IntKind.wrap .i64 (x28+(1:Int)))) (R26 ())
def q129_J3 (x33:(Int×Int)) (A34:(Int×Int)→PT) (x41:Int):PT :=
 A34 (x41,(IntKind.wrap .i64 (x33.2-(1:Int))))
def q129_X4 (n3:Int) (s5:Sl) (p25:Addr) (x33:(Int×Int)) (R35:Int→PT):PT :=
 ixS 1 s5 x33.2 fun (p36:Addr)=>callP Tryd.prog 128 #[(.pointer (some p36))] [.c (.I .u8)] fun (r37:Int)=>cnd (decide (x33.1≤r37)) (R35 x33.1) (ixS 1 s5 x33.2 fun (p38:Addr)=>callP Tryd.prog 128 #[(.pointer (some p38))] [.c (.I .u8)] fun (r39:Int)=>ixA 1 13 p25 (IntKind.wrap .u8 (n3-r39)) fun (p40:Addr)=>st p40 (.int .u32 (IntKind.wrap .u32 x33.2))<|R35 r39)
def q129_L5 (n3:Int) (s5:Sl) (p25:Addr) (R32:Unit→PT) (x33:Int×Int) (A34:(Int×Int)→PT):PT :=
 cnd (decide ((0:Int)≤x33.2)) (joinP (q129_X4 n3 s5 p25 x33) (q129_J3 x33 A34)) (R32 ())
def q129_J6 (x48:(Int)) (A49:Int→PT) (x59:Unit):PT :=
 A49 (IntKind.wrap .u8 (x48-(1:Int)))
def q129_X7 (s5:Sl) (p25:Addr) (R47:Int→PT) (x48:(Int)) (R50:Unit→PT):PT :=
 ixA 1 13 p25 x48 fun (p51:Addr)=>ld (.I .u32) p51 fun (n52:Int)=>ixA 1 13 p25 (IntKind.wrap .u8 (x48-(1:Int))) fun (p53:Addr)=>ld (.I .u32) p53 fun (n54:Int)=>cnd (decide (n52=(4042322160:Int))) (R50 ()) (cnd (decide (n54=(4042322160:Int))) (R47 x48) (ixS 1 s5 n52 fun (p55:Addr)=>callP Tryd.prog 123 #[(.pointer (some p55))] [.c (.I .u32)] fun (r56:Int)=>ixS 1 s5 n54 fun (p57:Addr)=>callP Tryd.prog 123 #[(.pointer (some p57))] [.c (.I .u32)] fun (r58:Int)=>cnd (decide (r56≤(IntKind.wrap .u32 ((2:Int)*r58)))) (R47 x48) (R50 ())))
def q129_L8 (s5:Sl) (p25:Addr) (R47:Int→PT) (x48:Int) (A49:Int→PT):PT :=
 cnd (decide ((1:Int)<x48)) (joinP (q129_X7 s5 p25 R47 x48) (q129_J6 x48 A49)) (R47 x48)
def q129_L9 (p25:Addr) (R61:Int→PT) (x62:Int) (A63:Int→PT):PT :=
 cnd (decide (x62≤(11:Int))) (ixA 1 13 p25 x62 fun (p64:Addr)=>ld (.I .u32) p64 fun (n65:Int)=>cnd (decide (n65=(4042322160:Int))) (A63 (IntKind.wrap .u8 (x62+(1:Int)))) (R61 x62)) (R61 x62)
def q129_J10 (n3:Int) (s5:Sl) (p25:Addr) (x44:(Int)) (A45:Int→PT) (x66:(Int)) (x73:Unit):PT :=
 drw<|ixA 1 13 p25 x66 fun (p74:Addr)=>ld (.I .u32) p74 fun (n75:Int)=>ixS 1 s5 n75 fun (p76:Addr)=>ixA 1 13 p25 x66 fun (p77:Addr)=>ld (.I .u32) p77 fun (n78:Int)=>ixS 1 s5 n78 fun (p79:Addr)=>callP Tryd.prog 128 #[(.pointer (some p79))] [.c (.I .u8)] fun (r80:Int)=>kp [(p74,(.int .u32 n75))]<|callP Tryd.prog 126 #[(.pointer (some p76)),(.int .u8 (IntKind.wrap .u8 ((1:Int)+r80)))] [] fun (r81:Unit)=>ixA 1 13 p25 x66 fun (p82:Addr)=>ld (.I .u32) p82 fun (n83:Int)=>cnd (decide (n83=(0:Int))) (ixA 1 13 p25 x66 fun (p84:Addr)=>st p84 (.int .u32 (4042322160:Int))<|A45 (IntKind.wrap .i64 (x44-(shlI .i64 (1:Int) (IntKind.wrap .u8 (x66-(1:Int))))))) (ixA 1 13 p25 x66 fun (p85:Addr)=>ld (.I .u32) p85 fun (n86:Int)=>ixA 1 13 p25 x66 fun (p87:Addr)=>st p87 (.int .u32 (IntKind.wrap .u32 (n86-(1:Int))))<|ixA 1 13 p25 x66 fun (p88:Addr)=>ld (.I .u32) p88 fun (n89:Int)=>ixS 1 s5 n89 fun (p90:Addr)=>callP Tryd.prog 128 #[(.pointer (some p90))] [.c (.I .u8)] fun (r91:Int)=>cnd (!decide (r91=(IntKind.wrap .u8 (n3-x66)))) (ixA 1 13 p25 x66 fun (p92:Addr)=>st p92 (.int .u32 (4042322160:Int))<|A45 (IntKind.wrap .i64 (x44-(shlI .i64 (1:Int) (IntKind.wrap .u8 (x66-(1:Int))))))) (A45 (IntKind.wrap .i64 (x44-(shlI .i64 (1:Int) (IntKind.wrap .u8 (x66-(1:Int))))))))
def q129_J11 (n3:Int) (s5:Sl) (p25:Addr) (x44:(Int)) (A45:Int→PT) (x66:Int):PT :=
 req (0≤(IntKind.wrap .u8 (x66-(1:Int))))<|joinP (fun R67=>ixA 1 13 p25 (IntKind.wrap .u8 (x66-(1:Int))) fun (p68:Addr)=>ld (.I .u32) p68 fun (n69:Int)=>cnd (decide (n69=(4042322160:Int))) (ixA 1 13 p25 x66 fun (p70:Addr)=>ld (.I .u32) p70 fun (n71:Int)=>ixA 1 13 p25 (IntKind.wrap .u8 (x66-(1:Int))) fun (p72:Addr)=>st p72 (.int .u32 n71)<|R67 ()) (R67 ())) (q129_J10 n3 s5 p25 x44 A45 x66)
def q129_J12 (n3:Int) (s5:Sl) (p25:Addr) (x44:(Int)) (A45:Int→PT) (x60:Int):PT :=
 joinP (fun R61=>loopP x60 (q129_L9 p25 R61)) (q129_J11 n3 s5 p25 x44 A45)
def q129_L13 (n3:Int) (s5:Sl) (p25:Addr) (R43:Int→PT) (x44:Int) (A45:Int→PT):PT :=
 cnd (decide ((0:Int)<x44)) (callP Tryd.prog 64 #[(.int .u32 (IntKind.wrap .u32 x44))] [.c (.I .u32)] fun (r46:Int)=>joinP (fun R47=>loopP (IntKind.wrap .u8 ((IntKind.wrap .u8 r46)+(1:Int))) (q129_L8 s5 p25 R47)) (q129_J12 n3 s5 p25 x44 A45)) (R43 x44)
def q129_L14 (n3:Int) (s5:Sl) (R99:Int→PT) (x100:Int) (A101:Int→PT):PT :=
 ixS 1 s5 x100 fun (p102:Addr)=>callP Tryd.prog 128 #[(.pointer (some p102))] [.c (.I .u8)] fun (r103:Int)=>cnd (decide (r103=n3)) (A101 (IntKind.wrap .u32 (x100-(1:Int)))) (R99 x100)
def q129_J15 (s5:Sl) (p25:Addr) (x94:(Int×Int)) (A95:(Int×Int)→PT) (x104:Int):PT :=
 drw<|ixS 1 s5 (IntKind.wrap .u32 (x104+(1:Int))) fun (p105:Addr)=>ixS 1 s5 (IntKind.wrap .u32 (x104+(1:Int))) fun (p106:Addr)=>callP Tryd.prog 128 #[(.pointer (some p106))] [.c (.I .u8)] fun (r107:Int)=>callP Tryd.prog 126 #[(.pointer (some p105)),(.int .u8 (IntKind.wrap .u8 (r107-(1:Int))))] [] fun (r108:Unit)=>ixA 1 13 p25 (1:Int) fun (p109:Addr)=>st p109 (.int .u32 (IntKind.wrap .u32 (x104+(1:Int))))<|A95 ((IntKind.wrap .i64 (x94.1+(1:Int))),x104)
def q129_J16 (s5:Sl) (p25:Addr) (A95:(Int×Int)→PT) (x110:Int×Int):PT :=
 drw<|ixA 1 13 p25 (1:Int) fun (p111:Addr)=>ld (.I .u32) p111 fun (n112:Int)=>ixS 1 s5 (IntKind.wrap .u32 (n112+(1:Int))) fun (p113:Addr)=>ixA 1 13 p25 (1:Int) fun (p114:Addr)=>ld (.I .u32) p114 fun (n115:Int)=>ixS 1 s5 (IntKind.wrap .u32 (n115+(1:Int))) fun (p116:Addr)=>callP Tryd.prog 128 #[(.pointer (some p116))] [.c (.I .u8)] fun (r117:Int)=>kp [(p111,(.int .u32 n112))]<|callP Tryd.prog 126 #[(.pointer (some p113)),(.int .u8 (IntKind.wrap .u8 (r117-(1:Int))))] [] fun (r118:Unit)=>ixA 1 13 p25 (1:Int) fun (p119:Addr)=>ld (.I .u32) p119 fun (n120:Int)=>ixA 1 13 p25 (1:Int) fun (p121:Addr)=>st p121 (.int .u32 (IntKind.wrap .u32 (n120+(1:Int))))<|A95 ((IntKind.wrap .i64 (x110.1+(1:Int))),x110.2)
def q129_L17 (n3:Int) (s5:Sl) (R24:Unit→PT) (p25:Addr) (x94:Int×Int) (A95:(Int×Int)→PT):PT :=
 cnd (decide (x94.1<(0:Int))) (joinP (fun R96=>ixA 1 13 p25 (1:Int) fun (p97:Addr)=>ld (.I .u32) p97 fun (n98:Int)=>cnd (decide (n98=(4042322160:Int))) (joinP (fun R99=>loopP x94.2 (q129_L14 n3 s5 R99)) (q129_J15 s5 p25 x94 A95)) (R96 (x94.1,x94.2))) (q129_J16 s5 p25 A95)) (R24 ())
def q129_J18 (n3:Int) (s5:Sl) (x23:(Int)) (R24:Unit→PT) (p25:Addr) (x93:Int):PT :=
 loopP (x93,x23) (q129_L17 n3 s5 R24 p25)
def q129_J19 (n3:Int) (s5:Sl) (r7:Int) (x17:(Int×Int)) (x23:(Int)) (R24:Unit→PT) (p25:Addr) (x42:Unit):PT :=
 joinP (fun R43=>loopP (shrI .i64 x17.1 (IntKind.wrap .u8 (r7-n3))) (q129_L13 n3 s5 p25 R43)) (q129_J18 n3 s5 x23 R24 p25)
def q129_J20 (n3:Int) (s5:Sl) (r7:Int) (x17:(Int×Int)) (x23:(Int)) (R24:Unit→PT) (p25:Addr) (x31:Unit):PT :=
 joinP (fun R32=>loopP (n3,(IntKind.wrap .i64 x23)) (q129_L5 n3 s5 p25 R32)) (q129_J19 n3 s5 r7 x17 x23 R24 p25)
def q129_J21 (K2:Int→PT) (n3:Int) (x122:Unit):PT :=
 K2 n3
def q129_J22 (K2:Int→PT) (n3:Int) (s5:Sl) (r7:Int) (x17:(Int×Int)) (x23:Int):PT :=
 req (0≤(IntKind.wrap .u8 (r7-n3)))<|joinP (fun R24=>nw z233 233 fun (p25:Addr)=>joinP (fun R26=>slcA 1 13 p25 none none none fun (s27:Sl)=>loopP (0:Int) (q129_L2 p25 R26 s27)) (q129_J20 n3 s5 r7 x17 x23 R24 p25)) (q129_J21 K2 n3)
def q129_J23 (K2:Int→PT) (n3:Int) (s5:Sl) (r7:Int) (x17:Int×Int):PT :=
 joinP (fun R18=>loopP x17.2 (q129_L1 n3 s5 R18)) (q129_J22 K2 n3 s5 r7 x17)
def q129 (p0:Addr) (n1:Int) (K2:Int→PT):PT :=
 ld (.I .u8) (Addr.add p0 268) fun (n3:Int)=>ld .S (Addr.add p0 273) fun (s4:Sl)=>slc 1 s4 (some (1:Int)) (some (513:Int)) none fun (s5:Sl)=>ixS 1 s5 n1 fun (p6:Addr)=>callP Tryd.prog 128 #[(.pointer (some p6))] [.c (.I .u8)] fun (r7:Int)=>cnd (decide (r7≤n3)) (K2 r7) (req (0≤(IntKind.wrap .u8 (r7-n3)))<|joinP (fun R8=>loopP ((0:Int),(IntKind.wrap .u32 n1)) (q129_L0 n3 s5 r7 R8)) (q129_J23 K2 n3 s5 r7))
def h129:Hint:=⟨(.n (.n (.n (.n (.n .e 511 ([(8,.c (.I .i64)),(10,.c (.I .u32))],[7,6,5]) .e) 1023 ([(10,.c (.I .u32))],[8,7,6,5]) .e) 2044 ([(8,.c (.I .i64)),(10,.c (.I .u32))],[5,6,7,9]) (.n (.n .e 4092 ([(10,.c (.I .u32))],[8,7,6,5]) .e) 4095 ([],[5]) .e)) 16381 ([],[6,5,11,8,10]) (.n (.n (.n .e 32763 ([],[11,6,5,8,10]) .e) 65527 ([(8,.c (.I .i64))],[5,11,6,10]) .e) 131050 ([(82,.c (.I .i64))],[11,6,5,8,10,81]) (.n (.n .e 262108 ([(8,.c (.I .i64))],[11,6,5,10]) .e) 262110 ([(8,.c (.I .i64)),(10,.c (.I .u32))],[5,11,6]) .e))) 524214 ([(13,.c (.I .u8)),(14,.c (.I .i64))],[6,5,11,8,10]) (.n (.n (.n (.n .e 2096857 ([(13,.c (.I .u8))],[14,6,5,11,8,10]) .e) 2096882 ([(8,.c (.I .i64)),(10,.c (.I .u32))],[5,11,6]) .e) 4193733 ([(15,.c (.I .u8))],[8,11,6,5,10]) (.n (.n .e 8387467 ([(15,.c (.I .u8))],[8,11,6,5,10]) .e) 16774932 ([(15,.c (.I .u8))],[8,11,6,5,10]) .e)) 16775058 ([(10,.c (.I .u32))],[8,5,11,6]) (.n (.n (.n .e 33549868 ([(15,.c (.I .u8))],[8,11,6,5,10]) .e) 33549871 ([],[15,11,6,5,8,10]) .e) 67099729 ([],[15,8,11,6,5,10]) (.n .e 67100232 ([(10,.c (.I .u32))],[8,5,11,6]) .e)))),.e⟩
theorem q129_eq (p0:Addr) (n1:Int) (K2:Int→PT):fnE Cx h129 [.c (.I .u8)] Tryd.f129 [.pt p0,.v (.int .i64 n1)] K2=q129 p0 n1 K2:=by kernel_rfl
theorem q129_fnok:fnOk Tryd.f129 2=true:=by kernel_rfl
theorem q129_ok (p0:Addr) (n1:Int) (K2:Int→PT) {w:World} (h:q129 p0 n1 K2 w):Calls Tryd.prog 129 #[(.pointer (some p0)),(.int .i64 n1)] w fun e w'=>∃r,e = .returned (resMk [.c (.I .u8)] r)∧K2 r w' :=
 of_eq Tryd.func129 q129_fnok (by kernel_rfl) (by kernel_rfl) (q129_eq p0 n1 K2) h
def q130 (p0:Addr) (K1:Int→PT):PT :=
 ld (.I .u64) p0 fun (n2:Int)=>req (0≤(48:Int))<|K1 (IntKind.wrap .u8 (shrI .u64 n2 (48:Int)))
def h130:Hint:=⟨.e,.e⟩
theorem q130_eq (p0:Addr) (K1:Int→PT):fnE Cx h130 [.c (.I .u8)] Tryd.f130 [.pt p0] K1=q130 p0 K1:=by kernel_rfl
theorem q130_fnok:fnOk Tryd.f130 1=true:=by kernel_rfl
theorem q130_ok (p0:Addr) (K1:Int→PT) {w:World} (h:q130 p0 K1 w):Calls Tryd.prog 130 #[(.pointer (some p0))] w fun e w'=>∃r,e = .returned (resMk [.c (.I .u8)] r)∧K1 r w' :=
 of_eq Tryd.func130 q130_fnok (by kernel_rfl) (by kernel_rfl) (q130_eq p0 K1) h
def q135 (p0:Addr) (K1:Int→PT):PT :=
 ldL [.S,(.I .i64)] (Addr.add p0 512) 0 fun (r2:(Sl×Int))=>callP Tryd.prog 93 #[(.agg ⟨[(.slice r2.1.a r2.1.l r2.1.c),(.int .i64 r2.2)]⟩)] [.c (.I .i64)] fun (r3:Int)=>callP Tryd.prog 98 #[(.int .u32 (IntKind.wrap .u32 (IntKind.wrap .i64 (r3-(1:Int)))))] [.c (.I .u32)] fun (r4:Int)=>ld (.I .u16) (Addr.add p0 528) fun (n5:Int)=>callP Tryd.prog 98 #[(.int .u32 (IntKind.wrap .u32 (IntKind.wrap .u16 (n5-(1:Int)))))] [.c (.I .u32)] fun (r6:Int)=>cnd (decide ((IntKind.wrap .u32 (r4+(1:Int)))<(IntKind.wrap .u32 (r6+(2:Int))))) (K1 (IntKind.wrap .u8 (IntKind.wrap .u32 (r4+(1:Int))))) (K1 (IntKind.wrap .u8 (IntKind.wrap .u32 (r6+(2:Int)))))
def h135:Hint:=⟨.e,.e⟩
theorem q135_eq (p0:Addr) (K1:Int→PT):fnE Cx h135 [.c (.I .u8)] Tryd.f135 [.pt p0] K1=q135 p0 K1:=by kernel_rfl
theorem q135_fnok:fnOk Tryd.f135 1=true:=by kernel_rfl
theorem q135_ok (p0:Addr) (K1:Int→PT) {w:World} (h:q135 p0 K1 w):Calls Tryd.prog 135 #[(.pointer (some p0))] w fun e w'=>∃r,e = .returned (resMk [.c (.I .u8)] r)∧K1 r w' :=
 of_eq Tryd.func135 q135_fnok (by kernel_rfl) (by kernel_rfl) (q135_eq p0 K1) h
def q136_J0 (x8:(Int×Int×Int)) (A9:(Int×Int×Int)→PT) (x17:Int×Int):PT :=
 A9 (x17.1,x17.2,(IntKind.wrap .i64 (x8.2.2+(1:Int))))
def q136_X1 (p0:Addr) (r3:Int) (n4:Int) (s7:Sl) (x8:(Int×Int×Int)) (R10:(Int×Int)→PT):PT :=
 ixS 1 s7 x8.2.2 fun (p11:Addr)=>ld (.I .u32) p11 fun (n12:Int)=>cnd (decide (n12=(0:Int))) (ixA 1 256 (Addr.add p0 256) x8.2.2 fun (p13:Addr)=>st p13 (.int .i16 (0:Int))<|R10 (x8.1,x8.2.1)) (cnd (decide (n12≤(shrI .u32 (IntKind.wrap .u32 r3) n4))) (ixA 1 256 (Addr.add p0 256) x8.2.2 fun (p14:Addr)=>st p14 (.int .i16 (-1:Int))<|R10 ((IntKind.wrap .u32 (x8.1+(1:Int))),(IntKind.wrap .u32 (x8.2.1-n12)))) (cnd (decide (n12≤(shrI .u32 (IntKind.wrap .u32 ((IntKind.wrap .u32 r3)*(3:Int))) (IntKind.wrap .u8 (n4+(1:Int)))))) (ixA 1 256 (Addr.add p0 256) x8.2.2 fun (p15:Addr)=>st p15 (.int .i16 (1:Int))<|R10 ((IntKind.wrap .u32 (x8.1+(1:Int))),(IntKind.wrap .u32 (x8.2.1-n12)))) (ixA 1 256 (Addr.add p0 256) x8.2.2 fun (p16:Addr)=>st p16 (.int .i16 (-2:Int))<|R10 (x8.1,x8.2.1))))
def q136_L2 (p0:Addr) (r3:Int) (n4:Int) (R5:Int×Int→PT) (s7:Sl) (x8:Int×Int×Int) (A9:(Int×Int×Int)→PT):PT :=
 cnd (decide (x8.2.2<(s7.l:Int))) (joinP (q136_X1 p0 r3 n4 s7 x8) (q136_J0 x8 A9)) (R5 (x8.1,x8.2.1))
def q136_J3 (x23:(Int×Int×Int)) (A24:(Int×Int×Int)→PT) (x31:Int×Int):PT :=
 A24 (x31.1,x31.2,(IntKind.wrap .i64 (x23.2.2+(1:Int))))
def q136_X4 (p0:Addr) (n4:Int) (x18:(Int×Int)) (s22:Sl) (x23:(Int×Int×Int)) (R25:(Int×Int)→PT):PT :=
 ixS 1 s22 x23.2.2 fun (p26:Addr)=>ld (.I .u32) p26 fun (n27:Int)=>ixA 1 256 (Addr.add p0 256) x23.2.2 fun (p28:Addr)=>ld (.I .i16) p28 fun (n29:Int)=>cnd (decide (n29=(-2:Int))) (cnd (decide (n27≤(quoI .u32 (IntKind.wrap .u32 (x18.2*(3:Int))) (IntKind.wrap .u32 ((IntKind.wrap .u32 ((shlI .u32 (1:Int) n4)-x18.1))*(2:Int)))))) (ixA 1 256 (Addr.add p0 256) x23.2.2 fun (p30:Addr)=>st p30 (.int .i16 (1:Int))<|R25 ((IntKind.wrap .u32 (x23.1+(1:Int))),(IntKind.wrap .u32 (x23.2.1-n27)))) (R25 (x23.1,x23.2.1))) (R25 (x23.1,x23.2.1))
def q136_L5 (p0:Addr) (n4:Int) (x18:(Int×Int)) (R20:Int×Int→PT) (s22:Sl) (x23:Int×Int×Int) (A24:(Int×Int×Int)→PT):PT :=
 cnd (decide (x23.2.2<(s22.l:Int))) (joinP (q136_X4 p0 n4 x18 s22 x23) (q136_J3 x23 A24)) (R20 (x23.1,x23.2.1))
def q136_J6 (n4:Int) (R19:Int×Int×Int→PT) (x32:Int×Int):PT :=
 req (0≤n4)<|R19 (x32.1,x32.2,(IntKind.wrap .u32 ((shlI .u32 (1:Int) n4)-x32.1)))
def q136_J7 (x39:(Int×Int×Int)) (A40:(Int×Int×Int)→PT) (x44:Int×Int):PT :=
 A40 (x44.1,x44.2,(IntKind.wrap .i64 (x39.2.2+(1:Int))))
def q136_L8 (R36:Int→PT) (s38:Sl) (x39:Int×Int×Int) (A40:(Int×Int×Int)→PT):PT :=
 cnd (decide (x39.2.2<(s38.l:Int))) (joinP (fun R41=>ixS 1 s38 x39.2.2 fun (p42:Addr)=>ld (.I .u32) p42 fun (n43:Int)=>cnd (decide (x39.2.1<n43)) (R41 (x39.2.2,n43)) (R41 (x39.1,x39.2.1))) (q136_J7 x39 A40)) (R36 x39.1)
def q136_J9 (p0:Addr) (K1:(Value)→PT) (x33:(Int×Int×Int)) (x45:Int):PT :=
 drw<|ixA 1 256 (Addr.add p0 256) x45 fun (p46:Addr)=>ld (.I .i16) p46 fun (n47:Int)=>ixA 1 256 (Addr.add p0 256) x45 fun (p48:Addr)=>st p48 (.int .i16 (IntKind.wrap .i16 (n47+(IntKind.wrap .i16 x33.2.2))))<|K1 .nilIface
def q136_J10 (p0:Addr) (x52:(Int×Int)) (A53:(Int×Int)→PT) (x60:Int):PT :=
 ld (.I .u16) (Addr.add p0 528) fun (n61:Int)=>req ((IntKind.wrap .u32 n61)≠0)<|A53 (x60,(Int.tmod (IntKind.wrap .u32 (x52.2+(1:Int))) (IntKind.wrap .u32 n61)))
def q136_X11 (p0:Addr) (x52:(Int×Int)) (R54:Int→PT):PT :=
 ixA 1 256 (Addr.add p0 256) x52.2 fun (p55:Addr)=>ld (.I .i16) p55 fun (n56:Int)=>cnd (decide ((0:Int)<n56)) (drw<|ixA 1 256 (Addr.add p0 256) x52.2 fun (p57:Addr)=>ld (.I .i16) p57 fun (n58:Int)=>ixA 1 256 (Addr.add p0 256) x52.2 fun (p59:Addr)=>st p59 (.int .i16 (IntKind.wrap .i16 (n58+(1:Int))))<|R54 (IntKind.wrap .u32 (x52.1-(1:Int)))) (R54 x52.1)
def q136_L12 (p0:Addr) (R51:Unit→PT) (x52:Int×Int) (A53:(Int×Int)→PT):PT :=
 cnd (decide ((0:Int)<x52.1)) (joinP (q136_X11 p0 x52) (q136_J10 p0 x52 A53)) (R51 ())
def q136_J13 (K1:(Value)→PT) (x62:Unit):PT :=
 K1 .nilIface
def q136_J14 (x67:(Int×Int)) (A68:(Int×Int)→PT) (x76:Int):PT :=
 A68 (x76,(IntKind.wrap .i64 (x67.2+(1:Int))))
def q136_X15 (p0:Addr) (K1:(Value)→PT) (n4:Int) (x33:(Int×Int×Int)) (x63:(Int)) (s66:Sl) (x67:(Int×Int)) (R69:Int→PT):PT :=
 ixS 1 s66 x67.2 fun (p70:Addr)=>ld (.I .u32) p70 fun (n71:Int)=>ixA 1 256 (Addr.add p0 256) x67.2 fun (p72:Addr)=>ld (.I .i16) p72 fun (n73:Int)=>cnd (decide (n73=(-2:Int))) (req (0≤(IntKind.wrap .u64 ((62:Int)-(IntKind.wrap .u64 n4))))<|req (0≤(IntKind.wrap .u64 ((62:Int)-(IntKind.wrap .u64 n4))))<|cnd (decide ((IntKind.wrap .u32 ((IntKind.wrap .u32 (shrI .u64 (IntKind.wrap .u64 (x67.1+(IntKind.wrap .u64 ((IntKind.wrap .u64 n71)*(quoI .u64 (IntKind.wrap .u64 ((IntKind.wrap .u64 ((shlI .u64 (1:Int) (IntKind.wrap .u64 ((62:Int)-(IntKind.wrap .u64 n4))))*(IntKind.wrap .u64 x63)))+(IntKind.wrap .u64 ((shlI .u64 (1:Int) (IntKind.wrap .u64 ((IntKind.wrap .u64 ((62:Int)-(IntKind.wrap .u64 n4)))-(1:Int))))-(1:Int))))) (IntKind.wrap .u64 x33.2.1)))))) (IntKind.wrap .u64 ((62:Int)-(IntKind.wrap .u64 n4)))))-(IntKind.wrap .u32 (shrI .u64 x67.1 (IntKind.wrap .u64 ((62:Int)-(IntKind.wrap .u64 n4)))))))<(1:Int))) (callP Tryd.prog 62 #[(.string ⟨#[119,101,105,103,104,116,32,60,32,49]⟩)] [.c .V] fun (r74:Value)=>K1 r74) (ixA 1 256 (Addr.add p0 256) x67.2 fun (p75:Addr)=>st p75 (.int .i16 (IntKind.wrap .i16 (IntKind.wrap .u32 ((IntKind.wrap .u32 (shrI .u64 (IntKind.wrap .u64 (x67.1+(IntKind.wrap .u64 ((IntKind.wrap .u64 n71)*(quoI .u64 (IntKind.wrap .u64 ((IntKind.wrap .u64 ((shlI .u64 (1:Int) (IntKind.wrap .u64 ((62:Int)-(IntKind.wrap .u64 n4))))*(IntKind.wrap .u64 x63)))+(IntKind.wrap .u64 ((shlI .u64 (1:Int) (IntKind.wrap .u64 ((IntKind.wrap .u64 ((62:Int)-(IntKind.wrap .u64 n4)))-(1:Int))))-(1:Int))))) (IntKind.wrap .u64 x33.2.1)))))) (IntKind.wrap .u64 ((62:Int)-(IntKind.wrap .u64 n4)))))-(IntKind.wrap .u32 (shrI .u64 x67.1 (IntKind.wrap .u64 ((62:Int)-(IntKind.wrap .u64 n4)))))))))<|R69 (IntKind.wrap .u64 (x67.1+(IntKind.wrap .u64 ((IntKind.wrap .u64 n71)*(quoI .u64 (IntKind.wrap .u64 ((IntKind.wrap .u64 ((shlI .u64 (1:Int) (IntKind.wrap .u64 ((62:Int)-(IntKind.wrap .u64 n4))))*(IntKind.wrap .u64 x63)))+(IntKind.wrap .u64 ((shlI .u64 (1:Int) (IntKind.wrap .u64 ((IntKind.wrap .u64 ((62:Int)-(IntKind.wrap .u64 n4)))-(1:Int))))-(1:Int))))) (IntKind.wrap .u64 x33.2.1)))))))) (R69 x67.1)
def q136_L16 (p0:Addr) (K1:(Value)→PT) (n4:Int) (x33:(Int×Int×Int)) (x63:(Int)) (R64:Unit→PT) (s66:Sl) (x67:Int×Int) (A68:(Int×Int)→PT):PT :=
 cnd (decide (x67.2<(s66.l:Int))) (joinP (q136_X15 p0 K1 n4 x33 x63 s66 x67) (q136_J14 x67 A68)) (R64 ())
def q136_J17 (K1:(Value)→PT) (x77:Unit):PT :=
 K1 .nilIface
def q136_J18 (p0:Addr) (K1:(Value)→PT) (n4:Int) (x33:(Int×Int×Int)) (x63:Int):PT :=
 req (0≤(IntKind.wrap .u64 ((IntKind.wrap .u64 ((62:Int)-(IntKind.wrap .u64 n4)))-(1:Int))))<|req (0≤(IntKind.wrap .u64 ((62:Int)-(IntKind.wrap .u64 n4))))<|req ((IntKind.wrap .u64 x33.2.1)≠0)<|joinP (fun R64=>drw<|ld (.I .u16) (Addr.add p0 528) fun (n65:Int)=>slcA 1 256 p0 none (some n65) none fun (s66:Sl)=>loopP ((IntKind.wrap .u64 ((shlI .u64 (1:Int) (IntKind.wrap .u64 ((IntKind.wrap .u64 ((62:Int)-(IntKind.wrap .u64 n4)))-(1:Int))))-(1:Int))),(0:Int)) (q136_L16 p0 K1 n4 x33 x63 R64 s66)) (q136_J17 K1)
def q136_J19 (p0:Addr) (K1:(Value)→PT) (n4:Int) (x33:(Int×Int×Int)) (x49:Unit):PT :=
 joinP (fun R50=>cnd (decide (x33.2.1=(0:Int))) (joinP (fun R51=>loopP (x33.2.2,(0:Int)) (q136_L12 p0 R51)) (q136_J13 K1)) (R50 x33.2.2)) (q136_J18 p0 K1 n4 x33)
def q136_J20 (p0:Addr) (K1:(Value)→PT) (n4:Int) (x33:Int×Int×Int):PT :=
 joinP (fun R34=>ld (.I .u16) (Addr.add p0 528) fun (n35:Int)=>cnd (decide (x33.1=(IntKind.wrap .u32 ((IntKind.wrap .u32 n35)+(1:Int))))) (joinP (fun R36=>drw<|ld (.I .u16) (Addr.add p0 528) fun (n37:Int)=>slcA 1 256 p0 none (some n37) none fun (s38:Sl)=>loopP ((0:Int),(0:Int),(0:Int)) (q136_L8 R36 s38)) (q136_J9 p0 K1 x33)) (R34 ())) (q136_J19 p0 K1 n4 x33)
def q136_X21 (p0:Addr) (r3:Int) (n4:Int) (x18:(Int×Int)) (R19:(Int×Int×Int)→PT):PT :=
 req ((IntKind.wrap .u32 ((shlI .u32 (1:Int) n4)-x18.1))≠0)<|cnd (decide ((shrI .u32 (IntKind.wrap .u32 ((IntKind.wrap .u32 r3)*(3:Int))) (IntKind.wrap .u8 (n4+(1:Int))))<(quoI .u32 x18.2 (IntKind.wrap .u32 ((shlI .u32 (1:Int) n4)-x18.1))))) (req ((IntKind.wrap .u32 ((IntKind.wrap .u32 ((shlI .u32 (1:Int) n4)-x18.1))*(2:Int)))≠0)<|joinP (fun R20=>drw<|ld (.I .u16) (Addr.add p0 528) fun (n21:Int)=>slcA 1 256 p0 none (some n21) none fun (s22:Sl)=>loopP (x18.1,x18.2,(0:Int)) (q136_L5 p0 n4 x18 R20 s22)) (q136_J6 n4 R19)) (R19 (x18.1,x18.2,(IntKind.wrap .u32 ((shlI .u32 (1:Int) n4)-x18.1))))
def q136_J22 (p0:Addr) (K1:(Value)→PT) (r3:Int) (n4:Int) (x18:Int×Int):PT :=
 req (0≤n4)<|joinP (q136_X21 p0 r3 n4 x18) (q136_J20 p0 K1 n4)
def q136 (p0:Addr) (K1:(Value)→PT):PT :=
 ldL [.S,(.I .i64)] (Addr.add p0 512) 0 fun (r2:(Sl×Int))=>callP Tryd.prog 93 #[(.agg ⟨[(.slice r2.1.a r2.1.l r2.1.c),(.int .i64 r2.2)]⟩)] [.c (.I .i64)] fun (r3:Int)=>ld (.I .u8) (Addr.add p0 529) fun (n4:Int)=>req (0≤n4)<|req (0≤(IntKind.wrap .u8 (n4+(1:Int))))<|joinP (fun R5=>drw<|ld (.I .u16) (Addr.add p0 528) fun (n6:Int)=>slcA 1 256 p0 none (some n6) none fun (s7:Sl)=>loopP ((0:Int),(IntKind.wrap .u32 r3),(0:Int)) (q136_L2 p0 r3 n4 R5 s7)) (q136_J22 p0 K1 r3 n4)
def h136:Hint:=⟨(.n (.n (.n (.n (.n .e 127 ([(3,.c (.I .u32)),(4,.c (.I .u32))],[7,0,5]) .e) 511 ([(3,.c (.I .u32)),(4,.c (.I .u32)),(10,.c (.I .u32))],[5,0]) .e) 1018 ([(3,.c (.I .u32)),(4,.c (.I .u32)),(55,.c (.I .i64))],[0,6,7,53,5,54]) (.n .e 1023 ([],[4,5,0,10]) .e)) 2047 ([(10,.c (.I .u32))],[5,4,0]) (.n (.n (.n .e 8147 ([(3,.c (.I .u32)),(4,.c (.I .u32))],[55,0,6,7,53,5,54]) .e) 8181 ([(3,.c (.I .u32)),(4,.c (.I .u32))],[5,0]) .e) 16378 ([],[]) (.n .e 32747 ([(13,.c (.I .i64))],[0,10]) .e))) 65450 ([(3,.c (.I .u32)),(4,.c (.I .u32)),(122,.c (.I .i64))],[0,7,120,5,121]) (.n (.n (.n (.n .e 65535 ([],[]) .e) 131026 ([(10,.c (.I .u32)),(17,.c (.I .u32))],[0]) .e) 261978 ([(13,.c (.I .i64)),(14,.c (.I .u32)),(171,.c (.I .i64))],[169,0,10,170]) (.n .e 523603 ([(3,.c (.I .u32)),(4,.c (.I .u32))],[122,0,7,120,5,121]) .e)) 524105 ([(10,.c (.I .u32))],[17,0]) (.n (.n .e 524282 ([(21,.c (.I .u64)),(252,.c (.I .i64))],[0,18,20,250,251]) .e) 2095827 ([(13,.c (.I .i64)),(14,.c (.I .u32))],[171,169,0,10,170]) (.n .e 4194259 ([(21,.c (.I .u64))],[252,0,18,20,250,251]) .e)))),.e⟩
theorem q136_eq (p0:Addr) (K1:(Value)→PT):fnE Cx h136 [.c .V] Tryd.f136 [.pt p0] K1=q136 p0 K1:=by kernel_rfl
theorem q136_fnok:fnOk Tryd.f136 1=true:=by kernel_rfl
theorem q136_ok (p0:Addr) (K1:(Value)→PT) {w:World} (h:q136 p0 K1 w):Calls Tryd.prog 136 #[(.pointer (some p0))] w fun e w'=>∃r,e = .returned (resMk [.c .V] r)∧K1 r w' :=
 of_eq Tryd.func136 q136_fnok (by kernel_rfl) (by kernel_rfl) (q136_eq p0 K1) h
def q137_J0 (p0:Addr) (K1:Unit→PT) (x18:Unit):PT :=
 ld .S (Addr.add (Addr.add p0 521) 2) fun (s19:Sl)=>slc 2 s19 none (some (256:Int)) none fun (s20:Sl)=>st (Addr.add (Addr.add p0 521) 2) (.slice s20.a s20.l s20.c)<|K1 ()
def q137_J1 (p0:Addr) (K1:Unit→PT) (n2:Int) (x12:Unit):PT :=
 ld .S (Addr.add (Addr.add p0 521) 1) fun (s13:Sl)=>slc 1 s13 none (some (shlI .i64 (1:Int) n2)) none fun (s14:Sl)=>st (Addr.add (Addr.add p0 521) 1) (.slice s14.a s14.l s14.c)<|joinP (fun R15=>ld .S (Addr.add (Addr.add p0 521) 2) fun (s16:Sl)=>cnd (decide ((s16.c:Int)<(256:Int))) (mks z210 210 8 (256:Int) (256:Int) fun (s17:Sl)=>st (Addr.add (Addr.add p0 521) 2) (.slice s17.a s17.l s17.c)<|R15 ()) (R15 ())) (q137_J0 p0 K1)
def q137_J2 (p0:Addr) (K1:Unit→PT) (n2:Int) (x6:Unit):PT :=
 ld .S (Addr.add p0 521) fun (s7:Sl)=>slc 1 s7 none (some (shlI .i64 (1:Int) n2)) none fun (s8:Sl)=>st (Addr.add p0 521) (.slice s8.a s8.l s8.c)<|joinP (fun R9=>ld .S (Addr.add (Addr.add p0 521) 1) fun (s10:Sl)=>cnd (decide ((s10.c:Int)<(shlI .i64 (1:Int) n2))) (mks z81 81 2 (shlI .i64 (1:Int) n2) (shlI .i64 (1:Int) n2) fun (s11:Sl)=>st (Addr.add (Addr.add p0 521) 1) (.slice s11.a s11.l s11.c)<|R9 ()) (R9 ())) (q137_J1 p0 K1 n2)
def q137 (p0:Addr) (K1:Unit→PT):PT :=
 ld (.I .u8) (Addr.add p0 529) fun (n2:Int)=>req (0≤n2)<|joinP (fun R3=>ld .S (Addr.add p0 521) fun (s4:Sl)=>cnd (decide ((s4.c:Int)<(shlI .i64 (1:Int) n2))) (mks z5 5 1 (shlI .i64 (1:Int) n2) (shlI .i64 (1:Int) n2) fun (s5:Sl)=>st (Addr.add p0 521) (.slice s5.a s5.l s5.c)<|R3 ()) (R3 ())) (q137_J2 p0 K1 n2)
def h137:Hint:=⟨(.n (.n .e 3 ([],[2,0]) .e) 31 ([],[3,0]) (.n .e 127 ([],[0]) .e)),.e⟩
theorem q137_eq (p0:Addr) (K1:Unit→PT):fnE Cx h137 [] Tryd.f137 [.pt p0] K1=q137 p0 K1:=by kernel_rfl
theorem q137_fnok:fnOk Tryd.f137 1=true:=by kernel_rfl
theorem q137_ok (p0:Addr) (K1:Unit→PT) {w:World} (h:q137 p0 K1 w):Calls Tryd.prog 137 #[(.pointer (some p0))] w fun e w'=>∃r,e = .returned (resMk [] r)∧K1 r w' :=
 of_eq Tryd.func137 q137_fnok (by kernel_rfl) (by kernel_rfl) (q137_eq p0 K1) h
def q138 (p0:Addr) (s1:Sl) (K2:Unit→PT):PT :=
 st p0 (.int .u64 (0:Int))<|st (Addr.add p0 1) (.int .u8 (0:Int))<|st (Addr.add p0 2) (.slice s1.a s1.l s1.c)<|K2 ()
def h138:Hint:=⟨.e,.e⟩
theorem q138_eq (p0:Addr) (s1:Sl) (K2:Unit→PT):fnE Cx h138 [] Tryd.f138 [.pt p0,.v (.slice s1.a s1.l s1.c)] K2=q138 p0 s1 K2:=by kernel_rfl
theorem q138_fnok:fnOk Tryd.f138 2=true:=by kernel_rfl
theorem q138_ok (p0:Addr) (s1:Sl) (K2:Unit→PT) {w:World} (h:q138 p0 s1 K2 w):Calls Tryd.prog 138 #[(.pointer (some p0)),(.slice s1.a s1.l s1.c)] w fun e w'=>∃r,e = .returned (resMk [] r)∧K2 r w' :=
 of_eq Tryd.func138 q138_fnok (by kernel_rfl) (by kernel_rfl) (q138_eq p0 s1 K2) h
def q139 (p0:Addr) (o1:Option Addr) (o2:Option Addr) (n3:Int) (r4:(Int×Int)) (K5:Unit→PT):PT :=
 nw [(.int .i32 r4.1),(.int .u32 r4.2)] 210 fun (p6:Addr)=>st p0 (.pointer o1)<|nz o2 fun (p7:Addr)=>ld .S (Addr.add p7 1) fun (s8:Sl)=>st (Addr.add p0 1) (.slice s8.a s8.l s8.c)<|ld (.I .u32) (Addr.add p6 1) fun (n9:Int)=>req (0≤(16:Int))<|req (0≤(16:Int))<|ld (.I .u32) (Addr.add p6 1) fun (n10:Int)=>req (0≤(shrI .u32 (IntKind.wrap .u32 (n9+(32768:Int))) (16:Int)))<|ld (.I .i32) p6 fun (n11:Int)=>ld .S (Addr.add p0 1) fun (s12:Sl)=>ixS 1 s12 (IntKind.wrap .i32 ((shrI .i32 (IntKind.wrap .i32 (IntKind.wrap .u32 ((shlI .u32 (shrI .u32 (IntKind.wrap .u32 (n9+(32768:Int))) (16:Int)) (16:Int))-n10))) (shrI .u32 (IntKind.wrap .u32 (n9+(32768:Int))) (16:Int)))+n11)) fun (p13:Addr)=>ld (.I .u16) p13 fun (n14:Int)=>st (Addr.add p0 2) (.int .u16 n14)<|K5 ()
def h139:Hint:=⟨.e,.e⟩
theorem q139_eq (p0:Addr) (o1:Option Addr) (o2:Option Addr) (n3:Int) (r4:(Int×Int)) (K5:Unit→PT):fnE Cx h139 [] Tryd.f139 [.pt p0,.v (.pointer o1),.v (.pointer o2),.v (.int .u8 n3),.v (.agg ⟨[(.int .i32 r4.1),(.int .u32 r4.2)]⟩)] K5=q139 p0 o1 o2 n3 r4 K5:=by kernel_rfl
theorem q139_fnok:fnOk Tryd.f139 5=true:=by kernel_rfl
theorem q139_ok (p0:Addr) (o1:Option Addr) (o2:Option Addr) (n3:Int) (r4:(Int×Int)) (K5:Unit→PT) {w:World} (h:q139 p0 o1 o2 n3 r4 K5 w):Calls Tryd.prog 139 #[(.pointer (some p0)),(.pointer o1),(.pointer o2),(.int .u8 n3),(.agg ⟨[(.int .i32 r4.1),(.int .u32 r4.2)]⟩)] w fun e w'=>∃r,e = .returned (resMk [] r)∧K5 r w' :=
 of_eq Tryd.func139 q139_fnok (by kernel_rfl) (by kernel_rfl) (q139_eq p0 o1 o2 n3 r4 K5) h
def q140 (p0:Addr) (r1:(Int×Int)) (K2:Unit→PT):PT :=
 nw [(.int .i32 r1.1),(.int .u32 r1.2)] 210 fun (p3:Addr)=>drw<|ld (.I .u16) (Addr.add p0 2) fun (n4:Int)=>ld (.I .u32) (Addr.add p3 1) fun (n5:Int)=>req (0≤(16:Int))<|drw<|ld (.I .u16) (Addr.add p0 2) fun (n6:Int)=>req (0≤(andI .u32 (shrI .u32 (IntKind.wrap .u32 ((IntKind.wrap .u32 n4)+n5)) (16:Int)) (15:Int)))<|ld (.I .i32) p3 fun (n7:Int)=>drw<|ld .P p0 fun (o8:Option Addr)=>ld (.I .u16) (Addr.add p0 2) fun (n9:Int)=>callP Tryd.prog 156 #[(.pointer o8),(.int .u16 n9),(.int .u8 (IntKind.wrap .u8 (shrI .u32 (IntKind.wrap .u32 ((IntKind.wrap .u32 n4)+n5)) (16:Int))))] [] fun (r10:Unit)=>ld .S (Addr.add p0 1) fun (s11:Sl)=>ixS 1 s11 (IntKind.wrap .i32 ((IntKind.wrap .i32 (shrI .u16 n6 (andI .u32 (shrI .u32 (IntKind.wrap .u32 ((IntKind.wrap .u32 n4)+n5)) (16:Int)) (15:Int))))+n7)) fun (p12:Addr)=>ld (.I .u16) p12 fun (n13:Int)=>st (Addr.add p0 2) (.int .u16 n13)<|K2 ()
def h140:Hint:=⟨.e,.e⟩
theorem q140_eq (p0:Addr) (r1:(Int×Int)) (K2:Unit→PT):fnE Cx h140 [] Tryd.f140 [.pt p0,.v (.agg ⟨[(.int .i32 r1.1),(.int .u32 r1.2)]⟩)] K2=q140 p0 r1 K2:=by kernel_rfl
theorem q140_fnok:fnOk Tryd.f140 2=true:=by kernel_rfl
theorem q140_ok (p0:Addr) (r1:(Int×Int)) (K2:Unit→PT) {w:World} (h:q140 p0 r1 K2 w):Calls Tryd.prog 140 #[(.pointer (some p0)),(.agg ⟨[(.int .i32 r1.1),(.int .u32 r1.2)]⟩)] w fun e w'=>∃r,e = .returned (resMk [] r)∧K2 r w' :=
 of_eq Tryd.func140 q140_fnok (by kernel_rfl) (by kernel_rfl) (q140_eq p0 r1 K2) h
def q141 (p0:Addr) (K1:Unit→PT):PT :=
 ld (.I .u8) (Addr.add p0 1) fun (n2:Int)=>cnd (decide (n2<(32:Int))) (K1 ()) (drw<|ld .S (Addr.add p0 2) fun (s3:Sl)=>ld (.I .u64) p0 fun (n4:Int)=>ld (.I .u64) p0 fun (n5:Int)=>req (0≤(8:Int))<|ld (.I .u64) p0 fun (n6:Int)=>req (0≤(16:Int))<|ld (.I .u64) p0 fun (n7:Int)=>req (0≤(24:Int))<|nw [(.int .u8 (IntKind.wrap .u8 n4)),(.int .u8 (IntKind.wrap .u8 (shrI .u64 n5 (8:Int)))),(.int .u8 (IntKind.wrap .u8 (shrI .u64 n6 (16:Int)))),(.int .u8 (IntKind.wrap .u8 (shrI .u64 n7 (24:Int))))] 5 fun (p8:Addr)=>kp [((Addr.add p0 2),(.slice s3.a s3.l s3.c))]<|app z5 5 1 s3 ⟨(some p8),4,4⟩ fun (s9:Sl)=>st (Addr.add p0 2) (.slice s9.a s9.l s9.c)<|ld (.I .u8) (Addr.add p0 1) fun (n10:Int)=>st (Addr.add p0 1) (.int .u8 (IntKind.wrap .u8 (n10-(32:Int))))<|ld (.I .u64) p0 fun (n11:Int)=>req (0≤(32:Int))<|st p0 (.int .u64 (shrI .u64 n11 (32:Int)))<|K1 ())
def h141:Hint:=⟨.e,.e⟩
theorem q141_eq (p0:Addr) (K1:Unit→PT):fnE Cx h141 [] Tryd.f141 [.pt p0] K1=q141 p0 K1:=by kernel_rfl
theorem q141_fnok:fnOk Tryd.f141 1=true:=by kernel_rfl
theorem q141_ok (p0:Addr) (K1:Unit→PT) {w:World} (h:q141 p0 K1 w):Calls Tryd.prog 141 #[(.pointer (some p0))] w fun e w'=>∃r,e = .returned (resMk [] r)∧K1 r w' :=
 of_eq Tryd.func141 q141_fnok (by kernel_rfl) (by kernel_rfl) (q141_eq p0 K1) h
end Go.Sx
