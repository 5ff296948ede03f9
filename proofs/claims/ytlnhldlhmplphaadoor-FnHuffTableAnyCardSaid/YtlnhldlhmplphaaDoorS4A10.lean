/- Lemmas for the proof: Q9 Q10. No conditions. -/
import Derived.Test.YtlnhldlhmplphaaDoorS4A09
set_option linter.unusedVariables false
set_option linter.unusedSimpArgs false
namespace Go.Sx
open Go Go.Proofs
set_option maxRecDepth 4000
def kp2 (ls:List Nat):Nat:=(ls.map fun n=>2^(11-n)).sum
theorem kp2_app (a b:List Nat):kp2 (a++b)=kp2 a+kp2 b:=by unfold kp2;rw [List.map_append,List.sum_append]
theorem kp2_set:∀ {ls:List Nat} {k x:Nat} (h:k<ls.length),kp2 (ls.set k x)+2^(11-ls[k])=kp2 ls+2^(11-x)
 | y::r,0,x,h=>by
  show kp2 (x::r)+2^(11-y)=_
  unfold kp2;simp only [List.map_cons,List.sum_cons];omega
 | y::r,k+1,x,h=>by
  have h':k<r.length:=by simpa using h
  have ih:=kp2_set (ls:=r) (k:=k) (x:=x) h'
  show kp2 (y::r.set k x)+2^(11-r[k])=_
  unfold kp2 at ih ⊢;simp only [List.map_cons,List.sum_cons] at ih ⊢;omega
structure LL (ls:List Nat):Prop where
 two:2≤ls.length
 bnd:∀n∈ls,1≤n∧n≤11
 kr:kp2 ls=2048
theorem kp2_11:∀ {ls:List Nat},(∀n∈ls,n=11)→kp2 ls=ls.length
 | [],_=>rfl
 | y::r,h=>by
  have h1:=h y (by simp)
  have h2:=kp2_11 (ls:=r) (fun n hn=>h n (by simp [hn]))
  unfold kp2 at h2 ⊢
  rw [List.map_cons,List.sum_cons,h2,h1,List.length_cons]
  show 2^0+_=_
  omega
theorem LL.short {ls:List Nat} (H:LL ls) (hl:ls.length<2048):∃j,∃h:j<ls.length,ls[j]≠11:=by
 by_cases e:∀n∈ls,n=11
 ·have:=kp2_11 e;have:=H.kr;omega
 ·simp only [Classical.not_forall] at e
  obtain ⟨n,hn,hne⟩:=e
  obtain ⟨j,hj,rfl⟩:=List.mem_iff_getElem.mp hn
  exact ⟨j,hj,hne⟩
theorem LL.split {ls:List Nat} {k:Nat} (H:LL ls) (hk:k<ls.length) (h11:ls[k]≠11):LL (ls.set k (ls[k]+1) ++ [ls[k]+1]):=by
 have hb:=H.bnd _ (List.getElem_mem hk)
 refine ⟨by simp;have:=H.two;omega,?_,?_⟩
 ·intro n hn
  rcases List.mem_append.mp hn with h|h
  ·rcases List.mem_or_eq_of_mem_set h with h|h
   ·exact H.bnd n h
   ·omega
  ·simp at h;omega
 ·have h1:=kp2_set (x:=ls[k]+1) hk
  rw [H.kr] at h1
  rw [kp2_app]
  have h2:kp2 [ls[k]+1]=2^(11-(ls[k]+1)):=by unfold kp2;simp
  have h3:2^(11-ls[k])=2*2^(11-(ls[k]+1)):=by rw [←Nat.pow_succ'];congr 1;omega
  rw [h2]
  omega
theorem LL.lw {ls v:List Nat} (H:LL ls) (hl:ls.length=v.length) (hv:v.Pairwise (· < ·)) (h256:∀x∈v,x<256):LW (lnS (fun j=>v.getD j 0) (fun j=>ls.getD j 0) v.length)∧∀i,0<lnS (fun j=>v.getD j 0) (fun j=>ls.getD j 0) v.length i→∃j,∃h:j<v.length,v[j]=i:=by
 have hinj:∀i j,i<v.length→j<v.length→v.getD i 0=v.getD j 0→i=j:=by
  intro i j hi hj e
  rw [getD_in hi,getD_in hj] at e
  have hp:=List.pairwise_iff_getElem.mp hv
  by_cases h1:i<j
  ·have:=hp i j hi hj h1;omega
  ·by_cases h2:j<i
   ·have:=hp j i hj hi h2;omega
   ·omega
 have hlt:∀j,j<v.length→v.getD j 0<256:=fun j hj=>by rw [getD_in hj];exact h256 _ (List.getElem_mem hj)
 have hex:∀i,0<lnS (fun j=>v.getD j 0) (fun j=>ls.getD j 0) v.length i→∃j,∃h:j<v.length,v[j]=i:=by
  intro i h
  by_cases e:∀j,j<v.length→v.getD j 0≠i
  ·rw [lnS_out e] at h;omega
  ·simp only [Classical.not_forall] at e
   obtain ⟨j,hj,e⟩:=e
   have e:=Classical.not_not.mp e
   rw [getD_in hj] at e
   exact ⟨j,hj,e⟩
 have hat:∀j,(hj:j<v.length)→lnS (fun j=>v.getD j 0) (fun j=>ls.getD j 0) v.length v[j]=ls.getD j 0:=by
  intro j hj
  have:=lnS_at (σ:=fun j=>v.getD j 0) (b:=fun j=>ls.getD j 0) (j:=j) hinj hj
  rw [getD_in hj] at this
  exact this
 have hb:∀j,j<v.length→1≤ls.getD j 0∧ls.getD j 0≤11:=fun j hj=>by rw [getD_in (by omega)];exact H.bnd _ (List.getElem_mem _)
 refine ⟨⟨?_,?_,?_⟩,hex⟩
 ·intro i
  by_cases e:0<lnS (fun j=>v.getD j 0) (fun j=>ls.getD j 0) v.length i
  ·obtain ⟨j,hj,rfl⟩:=hex i e
   rw [hat j hj];exact (hb j hj).2
  ·omega
 ·rw [lnS_sum (φ:=fun n=>if 0<n then 2^(11-n) else 0) (by simp) hinj hlt]
  have e1:sF (fun j=>if 0<ls.getD j 0 then 2^(11-ls.getD j 0) else 0) 0 v.length=sF (fun j=>2^(11-ls.getD j 0)) 0 v.length:=sF_congr (fun j _ hj=>if_pos (by have:=(hb j (by omega)).1;omega))
  rw [e1, ←sum_range_sF]
  have e2:(List.range v.length).map (fun j=>2^(11-ls.getD j 0))=ls.map fun n=>2^(11-n):=by
   rw [←hl]
   apply List.ext_getElem
   ·simp
   ·intro k h1 h2
    simp only [List.length_map,List.length_range] at h1
    simp only [List.getElem_map,List.getElem_range]
    rw [getD_in h1]
  rw [e2]
  exact H.kr
 ·have h2:=H.two
  have hp:=List.pairwise_iff_getElem.mp hv 0 1 (by omega) (by omega) (by omega)
  refine ⟨v[0],v[1],hp,h256 _ (List.getElem_mem _),?_,?_⟩
  ·rw [hat 0 (by omega)];have:=(hb 0 (by omega)).1;omega
  ·rw [hat 1 (by omega)];have:=(hb 1 (by omega)).1;omega
def cyc (len k j:Nat):Nat:=if k≤j then j-k else j+len-k
theorem cyc_step {len k j:Nat} (hk:k<len) (hj:j<len) (h:k≠j):cyc len ((k+1)%len) j<cyc len k j:=by
 by_cases e:k+1<len
 ·rw [Nat.mod_eq_of_lt e];unfold cyc;split<;>split<;>omega
 ·have:k+1=len:=by omega
  rw [this,Nat.mod_self];unfold cyc;split<;>split<;>omega
section
variable {w:World}
theorem Vec.stN {s:Sl} {l:List Nat} {i v:Nat} {x:Int} {κ:PT} (h:Vec 1 w s (nints l)) (hx:x=(i:Int)) (hi:i<l.length) (hk:∀w',Vec 1 w' s (nints (l.set i v))→Fm w w' s.bs→κ w'):ixS 1 s x (fun p=>st p (.int .i64 ((v:Nat):Int)) κ) w:=by
 obtain ⟨sa,sl,sc⟩:=s
 have hl:=h.len
 have hc:=h.cap
 rw [nints_len,Nat.mul_one] at hl
 cases sa with
 | none=>have h1:=h.non rfl;simp only at hl hc h1;omega
 | some a =>
  obtain ⟨e1,e2,f,h3,h4,h5⟩:=h.blk a rfl
  obtain ⟨ab,ao,asp⟩:=a
  simp only at e1 e2 hl h3 hc
  subst e1 e2
  refine ixS_o hx (by omega) ?_
  rw [Nat.zero_add]
  refine st_u h3 (h5 i (by simp only;omega)) rfl ?_
  intro w' B' F'
  refine hk w' ⟨by rw [nints_len,List.length_set,Nat.mul_one];exact hl,hc,(fun e=>by cases e),?_⟩ F'
  intro a ha
  injection ha with ha
  subst ha
  refine ⟨rfl,rfl,_,B',?_,?_⟩
  ·intro j hj
   rw [nints_len,List.length_set] at hj
   unfold updC
   by_cases e:j=i
   ·subst e
    rw [if_pos rfl]
    simp [nints,ints,hj]
   ·rw [if_neg e,h4 j (by rw [nints_len];exact hj)]
    simp [nints,ints,List.getElem?_set,Ne.symm e]
  ·intro j hj
   unfold updC
   split
   ·rfl
   ·exact h5 j hj
theorem c19 {s0 s1:Sl} {v xs:List Nat} {K:Sl→PT} (A:Arr .u8 w s0 v) (hv:v.Pairwise (· < ·)) (h256:∀x∈v,x<256) (h2:2≤v.length) (hv256:v.length≤256) (A1:Arr .u8 w s1 xs) (hby:By xs) (hxl:xs.length≤2^40)
  (hk:∀w' b ln,Blk w' b (arrC .i64 256 fun i=>((ln i:Nat):Int))→LW ln→(∀i,0<ln i→∃j,∃h:j<v.length,v[j]=i)→Fm w w' []→K ⟨some ⟨b,0,none⟩,256,256⟩ w') :
  callP Tryd.prog 19 #[.slice s0.a s0.l s0.c,.slice s1.a s1.l s1.c] [.c .S] K w:=by
 have hsl:=A.len
 have hsl1:=A1.len
 have hnd:∀i j (hi:i<v.length) (hj:j<v.length),v[i]=v[j]→i=j:=by
  intro i j hi hj e
  have hp:=List.pairwise_iff_getElem.mp hv
  by_cases h1:i<j
  ·have:=hp i j hi hj h1;omega
  ·by_cases h2:j<i
   ·have:=hp j i hj hi h2;omega
   ·omega
 apply q19_ok
 unfold q19
 refine mks_w (zs:=z4) (l:=256) (c:=256) rfl rfl (Nat.le_refl _) (by decide) ?_
 intro p w1 F1 B1 hp
 have B1':Blk w1 p (boC 256 fun _=>false):=B1.congr (by funext i;exact zrep1 _ _ _)
 have hne:v ≠ []:=by intro e;subst e;simp at h2
 have hap:∀a,s0.a=some a→a.block≠p:=fun a ha=>by have:=A.old hne a ha;omega
 have A01:=A.fr F1 (by simp)
 refine joinP_id ?_
 refine ⟨fun x w'=>∃(i:Nat) (H:Nat→Bool),x.2=(i:Int)∧i≤v.length∧Blk w' p (boC 256 H)∧(∀j (h:j<v.length),i≤j→H v[j]=false)∧Vec 1 w' x.1 (nints (v.take i))∧Fm w1 w' [p]∧(∀y∈x.1.bs,w1.heap.size≤y),fun x _=>v.length-x.2.toNat,⟨0,_,rfl,Nat.zero_le _,B1',fun _ _ _=>rfl,Vec.nil,Fm.refl _ _,by simp [Sl.bs]⟩,?_⟩
 rintro ⟨ys,yi⟩ w2 ⟨i,H,hyi,hi,B2,hH,V2,F2,n2⟩
 simp only at hyi V2 n2
 subst hyi
 have hs2:=F2.size
 have hpl:=B1.lt
 have hpy:∀b∈ys.bs,b ∉ [p]:=fun b hb=>by have:=n2 b hb;simp;omega
 unfold q19_L1
 simp only
 refine cnd_d (fun hc => ?_) fun hc => ?_
 ·have hi2:i<v.length:=by omega
  have A2:=A01.fr F2 (by intro a ha _;simp;exact hap a ha)
  have hx:=h256 _ (List.getElem_mem hi2)
  have hms:v.length-(((i:Nat):Int)+1).toNat<v.length-((i:Nat):Int).toNat:=by omega
  refine joinP_id ?_
  refine A2.ldk i rfl hi2 ?_
  intro q hq
  refine ld_c (t := .I .u8) (x:=((v[i]:Nat):Int)) hq ?_
  refine ixS_o rfl hx ?_
  rw [Nat.zero_add]
  have hHf:=hH i hi2 (Nat.le_refl _)
  refine ld_b (t := .B) (x:=H v[i]) B2 (boC_get hx) ?_
  rw [hHf]
  refine ⟨fun _ => ?_,fun h=>by simp at h⟩
  refine ixS_o rfl hx ?_
  rw [Nat.zero_add]
  refine st_u B2 (by rw [boC_get hx];rfl) rfl ?_
  intro w3 B3 F3
  rw [boC_upd hx] at B3
  rw [wI64 (by omega) (by omega)]
  have hyl:=V2.len
  rw [nints_len,List.length_take,Nat.min_eq_left hi,Nat.mul_one] at hyl
  refine app_1 (V2.fr F3 hpy) rfl (by omega) ?_
  intro s4 w4 V4 F4 n4
  unfold q19_J0
  simp only
  rw [wI64 (by omega) (by omega)]
  have hs3:=F3.size
  refine ⟨⟨i+1,_,by simp,hi2,B3.fr F4 (fun h=>hpy p h (by simp)),?_,?_,(F2.trans F3 (fun x hx => .inl hx)).trans F4 (fun x hx => .inr (n2 x hx)),?_⟩,hms⟩
  ·intro j hj hij
   unfold upB
   rw [if_neg (fun e=>by have:=hnd _ _ hj hi2 e;omega)]
   exact hH j hj (by omega)
  ·rw [List.take_succ_eq_append_getElem hi2,nints_app]
   exact V4
  ·intro y hy
   rcases n4 y hy with h|h
   ·exact n2 y h
   ·omega
 ·have:i=v.length:=by omega
  subst this
  rw [List.take_length] at V2
  have Fp:Fm w w2 []:=F1.trans F2 (by intro b hb;right;simp at hb;omega)
  have hyl:=V2.len
  rw [nints_len,Nat.mul_one] at hyl
  have hs1:=F1.size
  unfold q19_J10
  refine cnd_d (fun h=>absurd h (by omega)) fun _ => ?_
  refine nw_x ?_
  intro pl w3 F3 B3 hpl3
  have V3:Vec 1 w3 ⟨some ⟨pl,0,none⟩,2,2⟩ (nints [1,1]):=by
   have B3':Blk w3 pl (arrC .i64 2 fun _=>1):=B3.congr (by funext i;rcases i with _|_|i<;>simp [arrC])
   exact vec_arr B3'
  have Vy3:=V2.fr F3 (by simp)
  have A13:=(A1.fr Fp (by simp)).fr F3 (by simp)
  refine joinP_id ?_
  refine ⟨fun x w'=>∃ls:List Nat,x.2=((ls.length-2:Nat):Int)∧LL ls∧ls.length≤v.length∧Vec 1 w' x.1 (nints ls)∧Fm w2 w' []∧(∀y∈x.1.bs,w2.heap.size≤y),fun x _=>v.length-x.2.toNat,⟨[1,1],rfl,⟨by decide,by decide,by decide⟩,h2,V3,F3,by intro y hy;simp [Sl.bs] at hy;omega⟩,?_⟩
  rintro ⟨zs,zi⟩ w4 ⟨ls,hzi,L4,hll,V4,F4,n4⟩
  simp only at hzi V4 n4
  subst hzi
  have hzl:=V4.len
  rw [nints_len,Nat.mul_one] at hzl
  have hl2:=L4.two
  have hs4:=F4.size
  unfold q19_L6
  simp only
  refine cnd_d (fun hcl => ?_) fun hcl => ?_
  ·have hll2:ls.length<v.length:=by omega
   refine joinP_id ?_
   refine ⟨fun k w'=>w'=w4∧∃n:Nat,k=(n:Int)∧n<ls.length,?_,?_⟩
   ·rintro k w5 ⟨rfl,n,rfl,hn⟩
    unfold q19_J4
    refine joinP_id ?_
    obtain ⟨j,hj,hj11⟩:=L4.short (by omega)
    refine ⟨fun x w'=>w'=w5∧∃m:Nat,x=(m:Int)∧m<ls.length,fun x _=>cyc ls.length x.toNat j,⟨rfl,n,rfl,hn⟩,?_⟩
    rintro x w6 ⟨rfl,m,rfl,hm⟩
    unfold q19_L2
    simp only
    have hbm:=L4.bnd _ (List.getElem_mem hm)
    refine V4.ldN m rfl hm ?_
    intro q hq
    refine ld_c (t := .I .i64) (x:=((ls[m]:Nat):Int)) hq ?_
    refine cnd_d (fun h11 => ?_) fun h11 => ?_
    ·refine ⟨by omega,?_⟩
     have et:Int.tmod (IntKind.i64.wrap (((m:Nat):Int)+1)) (zs.l:Int)=(((m+1)%ls.length:Nat):Int):=by
      rw [wI64 (by omega) (by omega), ←hzl,show ((m:Nat):Int)+1=((m+1:Nat):Int) by omega];rfl
     rw [et]
     refine ⟨⟨by trivial,(m+1)%ls.length,rfl,Nat.mod_lt _ (by omega)⟩,?_⟩
     show cyc ls.length (((m+1)%ls.length:Nat):Int).toNat j<cyc ls.length ((m:Nat):Int).toNat j
     rw [Int.toNat_natCast,Int.toNat_natCast]
     exact cyc_step hm hj (fun e=>by subst e;omega)
    ·have h11':ls[m]≠11:=by omega
     unfold q19_J3
     simp only
     refine V4.ldN m rfl hm ?_
     intro q1 hq1
     refine ld_c (t := .I .i64) (x:=((ls[m]:Nat):Int)) hq1 ?_
     rw [wI64 (by omega) (by omega),show ((ls[m]:Nat):Int)+1=((ls[m]+1:Nat):Int) by omega]
     refine V4.stN rfl hm ?_
     intro w7 V7 F7
     have hm7:m<(ls.set m (ls[m]+1)).length:=by rw [List.length_set];exact hm
     refine V7.ldN m rfl hm7 ?_
     intro q2 hq2
     rw [List.getElem_set_self] at hq2
     refine ld_c (t := .I .i64) (x:=((ls[m]+1:Nat):Int)) hq2 ?_
     refine app_1 V7 rfl (by omega) ?_
     intro s8 w8 V8 F8 n8
     have hs7:=F7.size
     rw [←nints_app] at V8
     unfold q19_J5
     simp only
     rw [wI64 (by omega) (by omega)]
     refine ⟨⟨_,?_,L4.split hm h11',?_,V8,(F4.trans F7 (fun x hx => .inr (n4 x hx))).trans F8 (fun x hx => .inr (n4 x hx)),?_⟩,?_⟩
     ·simp only [List.length_append,List.length_set,List.length_singleton];omega
     ·simp only [List.length_append,List.length_set,List.length_singleton];omega
     ·intro y hy
      rcases n8 y hy with h|h
      ·exact n4 y h
      ·omega
     ·show v.length-(((ls.length-2:Nat):Int)+1).toNat<v.length-((ls.length-2:Nat):Int).toNat
      omega
   ·refine cnd_d (fun hpos => ?_) fun _=>⟨by trivial,0,rfl,by omega⟩
    refine ⟨by omega,?_⟩
    have A4:=(A1.fr Fp (by simp)).fr F4 (by simp)
    have et:Int.tmod ((ls.length-2:Nat):Int) (s1.l:Int)=(((ls.length-2)%s1.l:Nat):Int):=rfl
    rw [et]
    have hmod:=Nat.mod_lt (ls.length-2) (show 0<s1.l by omega)
    have hml:(ls.length-2)%s1.l<xs.length:=by omega
    refine A4.ldk ((ls.length-2)%s1.l) rfl hml ?_
    intro q hq
    have hb:=hby _ (List.getElem_mem hml)
    refine ld_c (t := .I .u8) (x:=((xs[(ls.length-2)%s1.l]:Nat):Int)) hq ?_
    refine ⟨by omega,?_⟩
    generalize xs[(ls.length-2)%s1.l]=c at *
    have et2:Int.tmod (IntKind.i64.wrap ((c:Nat):Int)) (zs.l:Int)=((c%ls.length:Nat):Int):=by
     rw [wI64 (by omega) (by omega), ←hzl];rfl
    rw [et2]
    exact ⟨by trivial,c%ls.length,rfl,Nat.mod_lt _ (by omega)⟩
  ·have hle:ls.length=v.length:=by omega
   unfold q19_J9
   refine mks1 (k := .i64) (v:=0) (n:=256) rfl rfl (by decide) ?_
   intro w5 F5 hs5 B5
   have V5:=V4.fr F5 (by simp)
   have Vy5:=(V2.fr F4 (by simp)).fr F5 (by simp)
   have hpn:w4.heap.size≤w4.heap.size:=Nat.le_refl _
   have hz:∀b∈zs.bs,b≠w4.heap.size:=fun b hb=>by have:=V4.lt b hb;omega
   have hy:∀b∈ys.bs,b≠w4.heap.size:=fun b hb=>by have:=(V2.fr F4 (by simp)).lt b hb;omega
   generalize hpe:w4.heap.size=po at *
   refine joinP_id ?_
   refine ⟨fun x w'=>∃i:Nat,x=(i:Int)∧i≤v.length∧Blk w' po (arrC .i64 256 fun s=>((lnS (fun j=>v.getD j 0) (fun j=>ls.getD j 0) i s:Nat):Int))∧Fm w5 w' [po],fun x _=>v.length-x.toNat,⟨0,rfl,Nat.zero_le _,B5,Fm.refl _ _⟩,?_⟩
   rintro x w6 ⟨i,rfl,hi,B6,F6⟩
   unfold q19_L7
   simp only
   refine cnd_d (fun hci => ?_) fun hci => ?_
   ·have hi2:i<v.length:=by omega
    have hil:i<ls.length:=by omega
    have hx:=h256 _ (List.getElem_mem hi2)
    refine (Vy5.fr F6 (by intro b hb;simp;exact hy b hb)).ldN i rfl hi2 ?_
    intro q hq
    refine ld_c (t := .I .i64) (x:=((v[i]:Nat):Int)) hq ?_
    refine (V5.fr F6 (by intro b hb;simp;exact hz b hb)).ldN i rfl hil ?_
    intro q1 hq1
    refine ld_c (t := .I .i64) (x:=((ls[i]:Nat):Int)) hq1 ?_
    refine ixS_o rfl hx ?_
    rw [Nat.zero_add]
    refine st_u B6 (by rw [arrC_get hx];rfl) rfl ?_
    intro w7 B7 F7
    rw [arrC_upd hx] at B7
    rw [wI64 (by omega) (by omega)]
    refine ⟨⟨i+1,by simp,hi2,B7.congr ?_,F6.trans F7 (fun x hx => .inl hx)⟩,?_⟩
    ·congr 1
     funext s
     show updF _ _ _ s=((updN (lnS (fun j=>v.getD j 0) (fun j=>ls.getD j 0) i) (v.getD i 0) (ls.getD i 0) s:Nat):Int)
     rw [getD_in hi2,getD_in hil]
     unfold updF updN
     split<;>rfl
    ·show v.length-(((i:Nat):Int)+1).toNat<v.length-((i:Nat):Int).toNat
     omega
   ·have:i=v.length:=by omega
    subst this
    unfold q19_J8
    obtain ⟨l1,l2⟩:=L4.lw hle hv h256
    exact hk w6 po _ B6 l1 l2 (((Fp.trans F4 (by simp)).trans F5 (by simp)).trans F6 (by intro b hb;right;simp at hb;have:=Fp.size;omega))
end
section
variable {w:World}
theorem c23 {s:Sl} {l:List Nat} {K:Bool→PT} (A:Arr .u8 w s l) (hl:By l) (hn:l.length<2^40)
  (hk:∀w' b,Fm w w' []→(b=true→∃cs t rest,fseRead l=some (cs,t,rest)∧∀c∈cs,2*c<((2^t:Nat):Int))→K b w') :
  callP Tryd.prog 23 #[.slice s.a s.l s.c] [.c .B] K w:=by
 apply q23_ok
 unfold q23
 refine c49 A hl hn ?_ ?_
 ·intro _ w1 F1
  refine joinP_id ?_
  refine ⟨fun x w'=>x=(false,(0:Int))∧w'=w1,fun _ _=>0,⟨rfl,rfl⟩,?_⟩
  rintro x w2 ⟨rfl,rfl⟩
  unfold q23_L1
  simp only
  refine cnd_d (fun h=>absurd h (by decide)) fun _ => ?_
  unfold q23_J2
  exact hk w2 false F1 (fun h=>by cases h)
 ·intro cs t rest hf w1 c r F1 Vc nc Ar nr
  obtain ⟨b1,b2,b3,b4,_⟩:=fseRead_bnd hf
  have hcl:=Vc.len
  rw [ints_len,Nat.mul_one] at hcl
  refine joinP_id ?_
  refine ⟨fun x w'=>w'=w1∧∃(b:Bool) (i:Nat),x=(b,(i:Int))∧i≤cs.length∧(b=true→∀j (h:j<cs.length),j<i→2*cs[j]<((2^t:Nat):Int)),fun x _=>cs.length-x.2.toNat,⟨rfl,true,0,rfl,Nat.zero_le _,fun _ j _ h=>absurd h (by omega)⟩,?_⟩
  rintro x w2 ⟨rfl,b,i,rfl,hi,hb⟩
  unfold q23_L1
  simp only
  refine cnd_d (fun hc => ?_) fun hc => ?_
  ·have hi2:i<cs.length:=by omega
   have hci:=b1 _ (List.getElem_mem hi2)
   have hms:cs.length-(((i:Nat):Int)+1).toNat<cs.length-((i:Nat):Int).toNat:=by omega
   refine joinP_id ?_
   refine Vc.ldI i rfl hi2 ?_
   intro q hq
   refine ld_c (t := .I .i64) (x:=cs[i]) hq ?_
   unfold q23_J0
   simp only
   rw [wI64 (x:=((i:Nat):Int)+1) (by omega) (by omega)]
   have no:∀(P:Prop),(true=false→P):=fun P h=>by cases h
   refine ⟨fun hbt => ?_,fun _=>⟨⟨by trivial,false,i+1,by simp,hi2,fun h=>by cases h⟩,hms⟩⟩
   refine cnd_d (fun h12=>⟨by omega,?_⟩) fun _=>⟨⟨by trivial,false,i+1,by simp,hi2,fun h=>by cases h⟩,hms⟩
   have e2:shlI .i64 1 ((t:Nat):Int)=((2^t:Nat):Int):=by
    have hpp:2^t≤2^20:=Nat.pow_le_pow_right (by omega) (by omega)
    have:=shlI_nat .i64 1 t (by simp [IntKind.bits];omega) (by simp only [IntKind.bits];omega)
    rw [Nat.one_mul] at this;exact this
   rw [e2,wI64 (x:=2*cs[i]) (by omega) (by omega)]
   refine ⟨⟨by trivial,_,i+1,by simp;rfl,hi2,?_⟩,hms⟩
   intro h j hj hji
   have h:=of_decide_eq_true h
   by_cases e:j=i
   ·subst e;exact h
   ·exact hb hbt j hj (by omega)
  ·have:i=cs.length:=by omega
   subst this
   unfold q23_J2
   refine hk w2 b F1 (fun h=>⟨cs,t,rest,hf,fun c hc => ?_⟩)
   obtain ⟨j,hj,rfl⟩:=List.mem_iff_getElem.mp hc
   exact hb h j hj hj
theorem prs_weights {ws r:List Nat} (h:FB ws r) (hr:r.length≤127) (hw:By ws) (hl:ws.length≤255) {cs:List Int} {t:Nat} {rest:List Nat} (hf:fseRead r=some (cs,t,rest)) (hc:∀c∈cs,2*c<((2^t:Nat):Int)) :
  weightsZ (r.length::r)=some (ws,1+r.length)∧WhB (r.length::r):=by
 obtain ⟨tab,ns,rest',h1,h2,h3,h4⟩:=h.read
 rw [hf] at h1
 injection h1 with h1
 injection h1 with e1 e2
 injection e2 with e2 e3
 subst e1 e2 e3
 obtain ⟨t1,left,t2,t3,t4⟩:=h4 hw hl (fun c hc'=>hc c hc')
 refine ⟨?_,?_⟩
 ·unfold weightsZ
  simp only
  rw [if_neg (by omega),if_neg (by simp;omega),List.take_of_length_le (Nat.le_refl _),hf]
  simp only
  rw [if_neg (by omega),h2]
  simp only
  rw [t1]
 ·intro _ cs' t' rest' tab' g1 g2
  rw [List.take_of_length_le (Nat.le_refl _),hf] at g1
  injection g1 with g1
  injection g1 with e1 e2
  injection e2 with e2 e3
  subst e1 e2 e3
  rw [h2] at g2
  injection g2 with g2
  subst g2
  exact ⟨left,t2,t3,t4⟩
theorem law4 {s0 s1:Sl} {xs ys:List Nat} {b2:Bool} {K:Bool→PT} (G:GL w) (E:errAt w 0) (A0:Arr .u8 w s0 xs) (hx:By xs) (A1:Arr .u8 w s1 ys) (hy:By ys) (hk:∀w',Fm w w' []→K true w') :
  callP Tryd.prog 4 #[.slice s0.a s0.l s0.c,.slice s1.a s1.l s1.c,.bool b2] [.c .B] K w:=by
 have hsl0:=A0.len
 have hsl1:=A1.len
 apply q4_ok
 unfold q4
 refine cnd_d (fun _=>hk _ (Fm.refl _ _)) fun h0=>cnd_d (fun _=>hk _ (Fm.refl _ _)) fun h1 => ?_
 refine c18 A0 hx (by omega) ?_
 intro w1 r4 H V4 F1 n4
 have hvl:=V4.len
 have hv256:=chL_len H 256
 have hvlt:=chL_lt (H:=H) (n:=256)
 have hvs:=chL_sort H 256
 generalize chL H 256=v at *
 refine cnd_d (fun _=>hk w1 F1) fun h2 => ?_
 have h2:2≤v.length:=by omega
 refine c19 V4.vec.arr hvs hvlt h2 hv256 (A1.fr F1 (by simp)) hy (by omega) ?_
 intro w2 b ln B LWl hex F2
 have F02:=F1.trans F2 (by simp)
 have V42:=V4.fr F2 (by simp)
 have tail:∀ {w3:World} {s3:Sl} {tbl:List Nat} {M la used:Nat},LM ln M la→Fm w2 w3 []→VecU w3 s3 tbl→By tbl→tbl.length≤2^10→weightsZ tbl=some (wtL M ln (la+1),used)→WhB tbl→1<leavesZ (wtL M ln (la+1))→∀(J:Bool→PT),(∀b,J b=K b) →
   callP Tryd.prog 16 #[(.slice s3.a s3.l s3.c)] [.c .S,.c .B] (fun (r18:Sl×Bool)=>cnd (!r18.2) (ixS 1 r4 (IntKind.wrap .i64 ((r4.l:Int)-(1:Int))) fun (p19:Addr)=>ld (.I .u8) p19 fun (n20:Int)=>K (decide ((128:Int)<n20))) (callP Tryd.prog 15 #[(.slice r18.1.a r18.1.l r18.1.c)] [.c .S,.c (.I .i64),.c .B] fun (r21:Sl×Int×Bool)=>joinP (fun R22=>cnd r21.2.2 (cnd (decide (r21.2.1=(r18.1.l:Int))) (callP Tryd.prog 17 #[(.slice (some ⟨b,0,none⟩) 256 256),(.slice r21.1.a r21.1.l r21.1.c)] [.c .B] fun (r23:Bool)=>R22 r23) (R22 false)) (R22 false)) J)) w3:=by
  intro w3 s3 tbl M la used H3 F3 V3 hby htl hw hwh hlv J hJ
  obtain ⟨f,hf,hfe⟩:=H3.hl LWl hw
  obtain ⟨hK,hfe2,htb⟩:=hlZ_ws hw hf hlv
  have F03:=F02.trans F3 (by simp)
  have h9:9≤w3.heap.size:=(G.fm F03 (by simp)).size
  refine c16 V3.vec.arr hby (by omega) (G.fm F03 (by simp)) (E.fm F03 (by simp)) h9 hw hK hwh ?_ ?_
  ·intro h129 w4 F4
   refine ⟨fun _ => ?_,fun h=>by simp at h⟩
   have V44:=(V42.fr F3 (by simp)).fr F4 (by simp)
   have hla:128<la:=by
    have e:(fullZ (wtL M ln (la+1))).length=la+1:=by unfold fullZ;simp [wtL]
    omega
   obtain ⟨j,hj,hje⟩:=hex la H3.lat
   have hlast:la≤v[v.length-1]:=by
    by_cases e:j=v.length-1
    ·subst e;omega
    ·have:=List.pairwise_iff_getElem.mp hvs j (v.length-1) hj (by omega) (by omega)
     omega
   refine V44.vec.arr.ldk (v.length-1) (by rw [wI64 (by omega) (by omega)];omega) (by omega) ?_
   intro q hq
   refine ld_c (t := .I .u8) (x:=((v[v.length-1]:Nat):Int)) hq ?_
   rw [decide_eq_true (by omega)]
   exact hk w4 (F03.trans F4 (by simp))
  ·intro w4 y tbl2 hb2 h129 hw2 V5 F4
   refine ⟨fun h=>by simp at h,fun _ => ?_⟩
   have hyl:=V5.len
   have htz:=htb tbl2 _ hw2
   refine c15 V5.vec.arr hb2 (by omega) (fun h=>by rw [htz] at h;cases h) ?_
   intro f2 u2 he w5 b5 F5 hb5 B5
   rw [htz] at he
   injection he with he
   injection he with e1 e2
   subst e1 e2
   have F25:=(F3.trans F4 (by simp)).trans F5 (by simp)
   refine joinP_id ⟨fun _ => ?_,fun h=>by simp at h⟩
   refine cnd_d (fun _ => ?_) fun h=>absurd (by simp only;omega) h
   have B5':Blk w5 b5 (arrC .i64 256 fun i=>((ln i:Nat):Int)):=B5.congr (by
    funext i
    unfold arrC
    split
    ·rename_i hi;rw [hfe i hi]
    ·rfl)
   refine c17 (B.fr F25 (by simp)) B5' (show (256:Nat)<2^20 by decide) ?_
   intro w6 F6
   rw [hJ]
   exact hk w6 ((F02.trans F25 (by simp)).trans F6 (by simp))
 refine c20 (b1:=b2) B LWl ?_ ?_ ?_
 ·intro w3 F3
  refine c21 (B.fr F3 (by simp)) (fun _=>rfl) LWl.h11 LWl.kr LWl.two ?_
  exact ⟨fun h=>by simp at h,fun _=>⟨fun _=>hk w3 (F02.trans F3 (by simp)),fun h=>by simp at h⟩⟩
 ·rintro rfl w3 s3 M la H3 hla V3 F3
  refine c21 (B.fr F3 (by simp)) (fun _=>rfl) LWl.h11 LWl.kr LWl.two ?_
  refine ⟨fun h=>by simp at h,fun _=>⟨fun h=>by simp at h,fun _ => ?_⟩⟩
  have hw11:∀n,wtF M ln n≤15:=fun n=>by have:=b2w_le M (ln n);have:=H3.m11;unfold wtF;omega
  have hby:=rawT_by (W:=wtF M ln) (L:=la+1) hw11 (by omega)
  have hla0:=H3.la0 LWl
  have hrw:=rawT_ok (W:=wtF M ln) (L:=la+1) (by omega) hw11
  have htl:(rawT (wtF M ln) (la+1)).length≤2^10:=by unfold rawT;simp;omega
  have hwh:WhB (rawT (wtF M ln) (la+1)):=by
   unfold rawT
   intro h;omega
  refine c22 V3.vec.arr hby (by omega) ?_ ?_
  ·intro _ w4 F4
   exact ⟨fun _=>hk w4 ((F02.trans F3 (by simp)).trans F4 (by simp)),fun h=>by simp at h⟩
  ·intro ws used hw w4 F4
   rw [hrw] at hw
   injection hw with hw
   injection hw with e1 e2
   subst e1
   by_cases hlv:1<leavesZ (wtL M ln (la+1))
   ·have hlv':1<leavesZ ((List.range (la+1-1)).map (wtF M ln)):=hlv
    rw [decide_eq_true hlv']
    refine ⟨fun h=>by simp at h,fun _=>⟨(fun h=>by cases h),fun _ => ?_⟩⟩
    exact tail H3 (F3.trans F4 (by simp)) (V3.fr F4 (by simp)) hby htl hrw hwh hlv (q4_J1 K) (fun b=>rfl)
   ·have hlv':¬1<leavesZ ((List.range (la+1-1)).map (wtF M ln)):=hlv
    rw [decide_eq_false hlv']
    exact ⟨fun _=>hk w4 ((F02.trans F3 (by simp)).trans F4 (by simp)),fun h=>by simp at h⟩
 ·rintro rfl w3 s3 M la r H3 hr hrl hfb V3 F3
  refine c21 (B.fr F3 (by simp)) (fun _=>rfl) LWl.h11 LWl.kr LWl.two ?_
  refine ⟨fun h=>by simp at h,fun _=>⟨fun h=>by simp at h,fun _ => ?_⟩⟩
  have hby:By (r.length::r):=by
   intro x hx
   rcases List.mem_cons.mp hx with h|h
   ·omega
   ·exact hr x h
  have hwl:(wtL M ln (la+1)).length=la:=by simp [wtL]
  have hla256:=H3.la256
  have hbw:By (wtL M ln (la+1)):=by
   intro x hx
   unfold wtL at hx
   obtain ⟨j,_,rfl⟩:=List.mem_map.mp hx
   have:=b2w_le M (ln j);have:=H3.m11;unfold wtF;omega
  refine c22 V3.vec.arr hby (by simp;omega) ?_ ?_
  ·intro _ w4 F4
   exact ⟨fun _=>hk w4 ((F02.trans F3 (by simp)).trans F4 (by simp)),fun h=>by simp at h⟩
  ·intro ws used hw w4 F4
   have F04:=(F02.trans F3 (by simp)).trans F4 (by simp)
   by_cases hlv:1<leavesZ ws
   ·rw [decide_eq_true hlv]
    refine ⟨fun h=>by simp at h,fun _=>⟨fun _ => ?_,(fun h=>by cases h)⟩⟩
    have V34:=V3.fr F4 (by simp)
    have hl3:=V34.len
    rw [List.length_cons] at hl3
    refine slc_lo (n:=1) rfl (by show 1≤s3.l;omega) ?_
    have Ad:=V34.vec.arr.drop 1 (by simp)
    refine c23 Ad hr (by rw [List.drop_succ_cons,List.drop_zero];omega) ?_
    intro w5 bc F5 hc
    cases bc with
    | false=>exact ⟨fun _=>hk w5 (F04.trans F5 (by simp)),fun h=>by simp at h⟩
    | true =>
     refine ⟨fun h=>by simp at h,fun _ => ?_⟩
     obtain ⟨cs,t,rest,hf,hc⟩:=hc rfl
     obtain ⟨q1,q2⟩:=prs_weights hfb hrl hbw (by omega) hf hc
     rw [q1] at hw
     injection hw with hw
     injection hw with e1 e2
     subst e1
     exact tail H3 ((F3.trans F4 (by simp)).trans F5 (by simp)) (V34.fr F5 (by simp)) hby (by simp;omega) q1 q2 hlv (q4_J0 K) (fun b=>rfl)
   ·rw [decide_eq_false hlv]
    exact ⟨fun _=>hk w4 F04,fun h=>by simp at h⟩
end
end Go.Sx
