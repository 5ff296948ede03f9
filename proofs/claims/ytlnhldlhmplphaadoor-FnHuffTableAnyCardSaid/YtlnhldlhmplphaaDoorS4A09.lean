/- Lemmas for the proof: H77 H78 H79 H80 H81 H82 H84 Q1 Q2 Q3 Q4 Q5 Q6 Q7 Q8. No conditions. -/
import Derived.Test.YtlnhldlhmplphaaDoorS4A08
set_option linter.unusedVariables false
set_option linter.unusedSimpArgs false
namespace Go.Sx
open Go Go.Proofs
set_option maxRecDepth 4000
def rsum (ws:List Nat) (i:Nat):Nat:=(ws.map fun w=>if 1≤w∧w<i then 2^(w-1) else 0).sum
theorem rsum_succ (ws:List Nat) {i:Nat} (h:1≤i):rsum ws (i+1)=rsum ws i+ws.count i*2^(i-1):=by
 unfold rsum
 induction ws with
 | nil=>simp
 | cons w r ih =>
  simp only [List.map_cons,List.sum_cons,ih,List.count_cons]
  by_cases e:w=i
  ·subst e
   rw [if_pos ⟨h,by omega⟩,if_neg (fun h=>by omega),if_pos (by simp),Nat.add_mul,Nat.one_mul]
   generalize List.count w r*2^(w-1)=P
   omega
  ·rw [if_neg (show ¬(w==i)=true by simpa using e),Nat.add_zero]
   generalize List.count i r*2^(i-1)=P
   by_cases e2:1≤w∧w<i
   ·rw [if_pos ⟨e2.1,by omega⟩,if_pos e2];omega
   ·rw [if_neg (fun h=>e2 ⟨h.1,by omega⟩),if_neg e2];omega
theorem rsum_one (ws:List Nat):rsum ws 1=0:=by
 unfold rsum
 induction ws with
 | nil=>rfl
 | cons w r ih=>simp only [List.map_cons,List.sum_cons,ih];rw [if_neg (fun h=>by omega)]
theorem rsum_all {ws:List Nat} {N:Nat} (h:∀w∈ws,w<N):rsum ws N=wsum ws:=by
 unfold rsum wsum
 induction ws with
 | nil=>rfl
 | cons w r ih =>
  simp only [List.map_cons,List.sum_cons]
  rw [ih (fun x hx=>h x (List.mem_cons_of_mem _ hx))]
  have hw:=h w (by simp)
  unfold wOf
  by_cases e:w=0
  ·rw [if_neg (fun h=>by omega),if_pos e]
  ·rw [if_pos ⟨by omega,hw⟩,if_neg e]
theorem rsum_le (ws:List Nat) (i:Nat):rsum ws i≤wsum ws:=by
 unfold rsum wsum
 induction ws with
 | nil=>exact Nat.le_refl _
 | cons w r ih =>
  simp only [List.map_cons,List.sum_cons]
  have:(if 1≤w∧w<i then 2^(w-1) else 0)≤wOf w:=by
   unfold wOf
   by_cases e:1≤w∧w<i
   ·rw [if_pos e,if_neg (by omega)];exact Nat.le_refl _
   ·rw [if_neg e];exact Nat.zero_le _
  omega
theorem wOf_le_wsum {ws:List Nat} {w:Nat} (h:w∈ws):wOf w≤wsum ws:=by
 unfold wsum
 induction ws with
 | nil=>cases h
 | cons x r ih =>
  simp only [List.map_cons,List.sum_cons]
  rcases List.mem_cons.mp h with h|h
  ·subst h;omega
  ·have:=ih h;omega
theorem wsum_par (ws:List Nat):wsum ws%2=ws.count 1%2:=by
 unfold wsum
 induction ws with
 | nil=>rfl
 | cons w r ih =>
  simp only [List.map_cons,List.sum_cons,List.count_cons]
  have:wOf w%2=if (w==1)=true then 1 else 0:=by
   unfold wOf
   by_cases e:w=0
   ·subst e;rfl
   ·rw [if_neg e]
    by_cases e2:w=1
    ·subst e2;rfl
    ·rw [if_neg (show ¬(w==1)=true by simpa using e2),show w-1=(w-2)+1 by omega,Nat.pow_succ];omega
  omega
structure WK (ws:List Nat) (M:Nat):Prop where
 ne:wsum ws≠0
 lg:M=(wsum ws).log2+1
 m11:M≤11
 pw:lastZ ws=2^(lastZ ws).log2
 len:ws.length≤255
 two:2≤(fullZ ws).count 1
theorem WK.lt {ws:List Nat} {M:Nat} (h:WK ws M):wsum ws<2^M∧2^(M-1)≤wsum ws∧2^M≤2048:=by
 have h1:=Nat.log2_self_le h.ne
 have h2:=Nat.lt_log2_self (n:=wsum ws)
 rw [h.lg,Nat.add_sub_cancel]
 have:=h.m11
 have h3:=h.lg
 exact ⟨h2,h1,Nat.pow_le_pow_right (n:=2) (by omega) (show (wsum ws).log2+1≤11 by omega)⟩
theorem WK.le {ws:List Nat} {M:Nat} (h:WK ws M):∀w∈ws,w≤M:=by
 intro w hw
 have h1:=wOf_le_wsum hw
 obtain ⟨h2,_,_⟩:=h.lt
 by_cases e:w≤M
 ·exact e
 ·exfalso
  unfold wOf at h1
  rw [if_neg (by omega)] at h1
  have:2^M≤2^(w-1):=Nat.pow_le_pow_right (by omega) (by omega)
  omega
theorem WK.last {ws:List Nat} {M:Nat} (h:WK ws M):0<lastZ ws∧(lastZ ws).log2+1≤M∧lastZ ws=2^M-wsum ws:=by
 obtain ⟨h1,h2,_⟩:=h.lt
 have e:lastZ ws=2^M-wsum ws:=by unfold lastZ;rw [h.lg]
 have h0:0<lastZ ws:=by omega
 have hM:2^M=2*2^(M-1):=by rw [←Nat.pow_succ'];congr 1;have:=h.lg;omega
 have h3:=Nat.log2_self_le (n:=lastZ ws) (by omega)
 refine ⟨h0,?_,e⟩
 by_cases hc:(lastZ ws).log2+1≤M
 ·exact hc
 ·have:2^M≤2^(lastZ ws).log2:=Nat.pow_le_pow_right (by omega) (by omega)
  have hp:=Nat.two_pow_pos M
  omega
theorem wsum_app (a b:List Nat):wsum (a++b)=wsum a+wsum b:=by unfold wsum;rw [List.map_append,List.sum_append]
theorem WK.full {ws:List Nat} {M:Nat} (h:WK ws M):wsum (fullZ ws)=2^M:=by
 obtain ⟨h1,_,_⟩:=h.lt
 obtain ⟨_,_,h2⟩:=h.last
 unfold fullZ
 rw [wsum_app]
 have:wsum [(lastZ ws).log2+1]=lastZ ws:=by
  show wOf ((lastZ ws).log2+1)+0=_
  unfold wOf
  rw [if_neg (by omega),Nat.add_sub_cancel,Nat.add_zero, ←h.pw]
 omega
theorem WK.fle {ws:List Nat} {M:Nat} (h:WK ws M):∀w∈fullZ ws,w≤M:=by
 intro w hw
 unfold fullZ at hw
 rcases List.mem_append.mp hw with h1|h1
 ·exact h.le w h1
 ·simp at h1;subst h1;exact h.last.2.1
section
variable {w:World} {g rb:Nat} {s:HU} {ws:List Nat} {R:Nat→Int} {M:Nat}
theorem rt_sum {K2:Option Addr×Sl×Value→PT} {x44:Sl} {sn:Nat} (hW:WK ws M) (B:Blk w rb (arrC .u32 16 R)) (hR:∀v,v<16→R v=((ws.count v:Nat):Int))
  (hκ:q45_J17 K2 (some ⟨g,0,none⟩,.nilIface) x44 ((sn:Nat):Int) ⟨rb,0,none⟩ ((wsum ws:Nat):Int) w) :
  q45_J18 K2 (some ⟨g,0,none⟩,.nilIface) x44 ((sn:Nat):Int) ⟨rb,0,none⟩ () w:=by
 obtain ⟨h1,h2,h3⟩:=hW.lt
 have hle:=hW.le
 have hm:=hW.m11
 unfold q45_J18
 refine joinP_id ?_
 refine ⟨fun v w'=>w'=w∧∃i:Nat,v=(((rsum ws i:Nat):Int),(i:Int))∧1≤i∧i≤16,fun v _=>16-v.2.toNat,⟨rfl,1,by rw [rsum_one];rfl,by omega,by omega⟩,?_⟩
 rintro v w1 ⟨rfl,i,rfl,hi1,hi⟩
 unfold q45_L5
 simp only
 refine cnd_d (fun hc => ?_) fun hc => ?_
 ·have hi16:i<16:=by omega
  refine ixA_o rfl hi16 ?_
  rw [Nat.zero_add]
  refine ld_b (t := .I .u32) (x:=((ws.count i:Nat):Int)) B (by rw [arrC_get hi16,hR i hi16];rfl) ?_
  have e1:IntKind.i64.wrap (((i:Nat):Int)-1)=((i-1:Nat):Int):=by rw [wI64 (by omega) (by omega)];omega
  have e2:=rsum_succ ws hi1
  have e3:=rsum_le ws (i+1)
  have e4:shlI .u32 ((ws.count i:Nat):Int) ((i-1:Nat):Int)=((ws.count i*2^(i-1):Nat):Int):=shlI_nat .u32 _ _ (by simp only [IntKind.bits];omega) (by simp only [IntKind.bits];omega)
  rw [e1,e4,wU32 (by omega) (by omega),wI64 (by omega) (by omega), ←Int.natCast_add, ←e2]
  refine ⟨by omega,⟨rfl,i+1,rfl,by omega,by omega⟩,?_⟩
  show 16-(((i:Nat):Int)+1).toNat<16-((i:Nat):Int).toNat
  omega
 ·have:i=16:=by omega
  subst this
  rw [rsum_all (fun x hx=>by have:=hle x hx;omega)]
  exact hκ
theorem rt_last {K2:Option Addr×Sl×Value→PT} {x44:Sl} {sn:Nat} (hsn:sn<16) (hK:WK ws M) (HB:Blk w g s.at) (hW:WSt s ws) (hsy:s.symL=((ws.length:Nat):Int)) (B:Blk w rb (arrC .u32 16 R)) (hR:∀v,v<16→R v=((ws.count v:Nat):Int)) (dgr:g≠rb)
  (hκ:∀w' hw' R',(∀i (h:i<(fullZ ws).length),hw' i=(((fullZ ws)[i]:Nat):Int))→(∀v,v<16→R' v=(((fullZ ws).count v:Nat):Int))→Blk w' g ({ s with atl:=(M:Nat),hw:=hw',symL:=((ws.length+1:Nat):Int) } : HU).at→Blk w' rb (arrC .u32 16 R')→Fm w w' [g,rb] →
   joinP (fun R159=>loopP ((0:Int),(1:Int)) (q45_L6 (some ⟨g,0,none⟩,.nilIface) ⟨rb,0,none⟩ R159)) (q45_J16 K2 (some ⟨g,0,none⟩,.nilIface) x44 ⟨rb,0,none⟩) w') :
  q45_J17 K2 (some ⟨g,0,none⟩,.nilIface) x44 ((sn:Nat):Int) ⟨rb,0,none⟩ ((wsum ws:Nat):Int) w:=by
 obtain ⟨h1,h2,h3⟩:=hK.lt
 obtain ⟨l1,l2,l3⟩:=hK.last
 have hle:=hK.le
 have hm:=hK.m11
 have hne:=hK.ne
 have hlg:=hK.lg
 have hl255:=hK.len
 have hz:∀v,12≤v→v<16→R v=0:=by
  intro v hv hv2
  rw [hR v hv2,List.count_eq_zero.mpr (fun h=>by have:=hle v h;omega)]
  rfl
 unfold q45_J17
 refine cnd_d (fun h=>by omega) fun _ => ?_
 refine ixA_o (k:=12) rfl (by omega) (ld_b (t := .I .u32) (x:=R 12) B (arrC_get (by omega)) ?_)
 refine ixA_o (k:=13) rfl (by omega) (ld_b (t := .I .u32) (x:=R 13) B (arrC_get (by omega)) ?_)
 refine ixA_o (k:=14) rfl (by omega) (ld_b (t := .I .u32) (x:=R 14) B (arrC_get (by omega)) ?_)
 refine ixA_o (k:=15) rfl (by omega) (ld_b (t := .I .u32) (x:=R 15) B (arrC_get (by omega)) ?_)
 rw [hz 12 (by omega) (by omega),hz 13 (by omega) (by omega),hz 14 (by omega) (by omega),hz 15 (by omega) (by omega)]
 refine cnd_nd (fun h=>absurd (by decide) h) (fun _ => ?_)
 refine cnd_d (fun h=>by omega) fun _ => ?_
 refine c64 (by omega) (by omega) ?_
 have e1:IntKind.u32.wrap ((((wsum ws).log2:Nat):Int)+1)=((M:Nat):Int):=by rw [wU32 (by omega) (by omega)];omega
 rw [e1]
 refine cnd_d (fun h=>by omega) fun _=>nz_s ?_
 simp only [add_mk,Nat.zero_add]
 refine st_u HB rfl rfl ?_
 intro w1 HB1 F1
 rw [wU8 (x:=((M:Nat):Int)) (by omega) (by omega)] at HB1
 have HB1:Blk w1 g ({ s with atl:=((M:Nat):Int) } : HU).at:=HB1.congr (HU.setT 12 rfl rfl rfl (by decide))
 have e2:shlI .u32 1 ((M:Nat):Int)=((2^M:Nat):Int):=by
  have:=shlI_nat .u32 1 M (by simp only [IntKind.bits];omega) (by simp only [IntKind.bits];omega)
  rw [Nat.one_mul] at this
  exact this
 have e3:IntKind.u32.wrap (((2^M:Nat):Int)-((wsum ws:Nat):Int))=((lastZ ws:Nat):Int):=by rw [wU32 (by omega) (by omega)];omega
 rw [e2,e3]
 refine ⟨by omega,?_⟩
 refine c64 (by omega) (by omega) ⟨by omega,?_⟩
 refine c64 (by omega) (by omega) ?_
 have e4:shlI .u32 1 (((lastZ ws).log2:Nat):Int)=((lastZ ws:Nat):Int):=by
  have:=shlI_nat .u32 1 (lastZ ws).log2 (by simp only [IntKind.bits];omega) (by simp only [IntKind.bits];rw [←hK.pw];omega)
  rw [Nat.one_mul, ←hK.pw] at this
  exact this
 rw [e4]
 refine cnd_nd (fun h=>absurd rfl h) (fun _ => ?_)
 unfold drw
 have HB2:=HB1.drew
 generalize hlw:(lastZ ws).log2+1=lw at *
 have e5:IntKind.u32.wrap ((((lastZ ws).log2:Nat):Int)+1)=((lw:Nat):Int):=by rw [wU32 (by omega) (by omega)];omega
 rw [e5,wU8 (x:=((lw:Nat):Int)) (by omega) (by omega)]
 have hsy1:({ s with atl:=((M:Nat):Int) } : HU).at 265=some (.int .u16 ((ws.length:Nat):Int)):=by show some (Value.int .u16 s.symL)=_;rw [hsy]
 refine nz_s ?_
 simp only [add_mk,Nat.zero_add]
 refine ld_b (t := .I .u16) (x:=((ws.length:Nat):Int)) HB2 hsy1 (nz_s ?_)
 simp only [add_mk,Nat.zero_add]
 refine ixA_o rfl (by omega) ?_
 refine st_u HB2 (by rw [HU.hw_at _ (by omega)];rfl) rfl ?_
 intro w3 HB3 F3
 rw [HU.setW (by omega)] at HB3
 refine nz_s ?_
 simp only [add_mk,Nat.zero_add]
 refine ld_b (t := .I .u16) (x:=((ws.length:Nat):Int)) HB3 (by show some (Value.int .u16 s.symL)=_;rw [hsy];rfl) (nz_s ?_)
 simp only [add_mk,Nat.zero_add]
 have e6:IntKind.u16.wrap (((ws.length:Nat):Int)+1)=((ws.length+1:Nat):Int):=by rw [wU16 (by omega) (by omega)];omega
 rw [e6]
 refine st_u HB3 rfl rfl ?_
 intro w4 HB4 F4
 have HB4:Blk w4 g ({ s with atl:=((M:Nat):Int),hw:=updF s.hw ws.length ((lw:Nat):Int),symL:=((ws.length+1:Nat):Int) } : HU).at:=HB4.congr (HU.setT 9 rfl rfl rfl (by decide))
 have F04:Fm w w4 [g]:=((F1.drew).trans F3 (fun x hx => .inl hx)).trans F4 (fun x hx => .inl hx)
 have B4:=B.fr F04 (nm1 dgr.symm)
 refine ixA_o rfl (by omega) ?_
 rw [Nat.zero_add]
 refine ld_b (t := .I .u32) (x:=((ws.count lw:Nat):Int)) B4 (by rw [arrC_get (by omega),hR lw (by omega)];rfl) ?_
 refine ixA_o rfl (by omega) ?_
 rw [Nat.zero_add]
 refine st_u B4 (by rw [arrC_get (by omega)];rfl) rfl ?_
 intro w5 B5 F5
 have hcl:ws.count lw≤ws.length:=List.count_le_length
 rw [arrC_upd (by omega),wU32 (by omega) (by omega)] at B5
 have hfull:fullZ ws=ws ++ [lw]:=by unfold fullZ;rw [hlw]
 have hR5:∀v,v<16→updF R lw (((ws.count lw:Nat):Int)+1) v=(((fullZ ws).count v:Nat):Int):=by
  intro v hv
  rw [hfull,List.count_append,List.count_singleton]
  unfold updF
  by_cases e:v=lw
  ·subst e;rw [if_pos rfl,if_pos (by simp)];omega
  ·rw [if_neg e,hR v hv,if_neg (by simp;omega),Nat.add_zero]
 generalize updF R lw (((ws.count lw:Nat):Int)+1)=R5 at *
 have hc1:=hR5 1 (by omega)
 have htwo:=hK.two
 have hpar:=wsum_par (fullZ ws)
 rw [hK.full] at hpar
 have hM2:2^M%2=0:=by rw [hlg,Nat.pow_succ];omega
 have hcl1:(fullZ ws).count 1≤(fullZ ws).length:=List.count_le_length
 have hfl:(fullZ ws).length=ws.length+1:=by rw [hfull];simp
 refine ixA_o (k:=1) rfl (by omega) (ld_b (t := .I .u32) (x:=(((fullZ ws).count 1:Nat):Int)) B5 (by rw [Nat.zero_add,arrC_get (by omega),hc1];rfl) ?_)
 refine cnd_d (fun h=>by omega) fun _ => ?_
 refine ixA_o (k:=1) rfl (by omega) (ld_b (t := .I .u32) (x:=(((fullZ ws).count 1:Nat):Int)) B5 (by rw [Nat.zero_add,arrC_get (by omega),hc1];rfl) ?_)
 have e7:andI .u32 (((fullZ ws).count 1:Nat):Int) 1=0:=by
  have:=andI_nat (k := .u32) rfl ((fullZ ws).count 1) 1 (by simp only [IntKind.bits];omega) (by decide)
  rw [show (fullZ ws).count 1 &&& 1=(fullZ ws).count 1%2 from Nat.and_two_pow_sub_one_eq_mod _ 1] at this
  rw [show andI .u32 (((fullZ ws).count 1:Nat):Int) (1:Int)=_ from this]
  omega
 rw [e7]
 refine cnd_nd (fun h=>absurd rfl h) (fun _ => ?_)
 refine hκ w5 (updF s.hw ws.length ((lw:Nat):Int)) R5 ?_ hR5 (HB4.fr F5 (nm1 dgr)) B5 ((F04.mono (S' := [g,rb]) (by intro v hv;left;simp at hv;simp [hv])).trans F5 (by intro v hv;left;simp at hv;simp [hv]))
 intro i hi
 rw [hfl] at hi
 have:(fullZ ws)[i]? = (ws ++ [lw])[i]? := by rw [hfull]
 rw [List.getElem?_eq_getElem (by omega)] at this
 unfold updF
 by_cases e:i=ws.length
 ·subst e
  rw [if_pos rfl]
  rw [List.getElem?_append_right (Nat.le_refl _),Nat.sub_self] at this
  injection this with this
  rw [this]
 ·rw [if_neg e,hW i (by omega)]
  rw [List.getElem?_append_left (by omega),List.getElem?_eq_getElem (by omega)] at this
  injection this with this
  rw [this]
end
def lnW (M:Nat) (fs:List Nat) (i:Nat):Nat:=if fs.getD i 0=0 then 0 else M+1-fs.getD i 0
section
variable {w:World} {g rb db pb:Nat} {s:HU} {fs:List Nat} {R:Nat→Int} {M:Nat}
theorem rt_L6 {K:Unit→PT} (HB:Blk w g s.at) (hat:s.atl=((M:Nat):Int)) (hM:M≤11) (hf:wsum fs=2^M) (hlen:fs.length≤256) (B:Blk w rb (arrC .u32 16 R)) (hR:∀v,v<16→R v=((fs.count v:Nat):Int)) (dgr:g≠rb)
  (hκ:∀w' R',(∀v,1≤v→v≤M→R' v=((rsum fs v:Nat):Int))→Blk w' rb (arrC .u32 16 R')→Fm w w' [rb]→K () w') :
  loopP ((0:Int),(1:Int)) (q45_L6 (some ⟨g,0,none⟩,.nilIface) ⟨rb,0,none⟩ K) w:=by
 have hp:2^M≤2^11:=Nat.pow_le_pow_right (by omega) hM
 refine ⟨fun v w'=>∃(n:Nat) (R':Nat→Int),v=(((rsum fs n:Nat):Int),(n:Int))∧1≤n∧n≤M+1∧(∀v,1≤v→v<n→R' v=((rsum fs v:Nat):Int))∧(∀v,n≤v→v<16→R' v=((fs.count v:Nat):Int))∧Blk w' rb (arrC .u32 16 R')∧Fm w w' [rb],
  fun v _=>16-v.2.toNat,⟨1,R,by rw [rsum_one];rfl,by omega,by omega,(by intro v h1 h2;omega),(fun v _ h=>hR v h),B,Fm.refl _ _⟩,?_⟩
 rintro v w1 ⟨n,R1,rfl,hn1,hn,ha,hb,B1,F1⟩
 unfold q45_L6
 refine nz_s ?_
 simp only [add_mk,Nat.zero_add]
 have HB1:=HB.fr F1 (nm1 dgr)
 refine ld_b (t := .I .u8) (x:=((M:Nat):Int)) HB1 (by show some (Value.int .u8 s.atl)=_;rw [hat];rfl) ?_
 rw [wU8 (x:=((M:Nat):Int)+1) (by omega) (by omega)]
 refine cnd_d (fun hc => ?_) fun hc => ?_
 ·have hnM:n≤M:=by omega
  refine ixA_o rfl (by omega) ?_
  rw [Nat.zero_add]
  refine ld_b (t := .I .u32) (x:=((fs.count n:Nat):Int)) B1 (by rw [arrC_get (by omega),hb n (Nat.le_refl _) (by omega)];rfl) ?_
  have e1:IntKind.u8.wrap (((n:Nat):Int)-1)=((n-1:Nat):Int):=by rw [wU8 (by omega) (by omega)];omega
  have e2:=rsum_succ fs hn1
  have e3:=rsum_le fs (n+1)
  have e4:shlI .u32 ((fs.count n:Nat):Int) ((n-1:Nat):Int)=((fs.count n*2^(n-1):Nat):Int):=shlI_nat .u32 _ _ (by simp only [IntKind.bits];omega) (by simp only [IntKind.bits];omega)
  rw [e1,e4]
  refine ⟨by omega,?_⟩
  refine ixA_o rfl (by omega) ?_
  rw [Nat.zero_add]
  refine st_u B1 (by rw [arrC_get (by omega)];rfl) rfl ?_
  intro w2 B2 F2
  rw [arrC_upd (by omega)] at B2
  rw [wU32 (by omega) (by omega),wU8 (by omega) (by omega), ←Int.natCast_add, ←e2]
  refine ⟨⟨n+1,_,rfl,by omega,by omega,?_,?_,B2,F1.trans F2 (fun x hx => .inl hx)⟩,?_⟩
  ·intro v h1 h2
   unfold updF
   by_cases e:v=n
   ·subst e;rw [if_pos rfl]
   ·rw [if_neg e];exact ha v h1 (by omega)
  ·intro v h1 h2
   unfold updF
   rw [if_neg (by omega)]
   exact hb v (by omega) h2
  ·show 16-(((n:Nat):Int)+1).toNat<16-((n:Nat):Int).toNat
   omega
 ·exact hκ w1 R1 (fun v h1 h2=>ha v h1 (by omega)) B1 F1
theorem rt_L7 {K:Unit→PT} {D:Cells} {pz n len c:Nat} {x:Int} {f:Cells} (B:Blk w db D) (hD:Som 2048 D) (Z:Blk w pz f) (hf:f 0=some (.int .u16 x)) (dz:db≠pz) (hn:n+len≤2048) (h4:len%4=0) (hc:len≤c)
  (hκ:∀w' D',Blk w' db D'→Som 2048 D'→Fm w w' [db]→K () w'):loopP (0:Int) (q45_L7 ⟨pz,0,none⟩ ⟨some ⟨db,n,none⟩,len,c⟩ K) w:=by
 refine ⟨fun v w'=>∃(k:Nat) (D':Cells),v=(k:Int)∧k≤len∧k%4=0∧Blk w' db D'∧Som 2048 D'∧Fm w w' [db],fun v _=>len-v.toNat,⟨0,D,rfl,Nat.zero_le _,rfl,B,hD,Fm.refl _ _⟩,?_⟩
 rintro v w1 ⟨k,D1,rfl,hk,hk4,B1,hD1,F1⟩
 unfold q45_L7
 refine cnd_d (fun hc2 => ?_) fun hc2 => ?_
 ·have hk5:k+4≤len:=by simp only at hc2;omega
  rw [wI64 (x:=((k:Nat):Int)+4) (by omega) (by omega)]
  refine ⟨k,k+4,k+4,⟨by omega,by simp only;omega⟩,⟨by omega,Nat.le_refl _⟩,⟨rfl,by omega⟩,?_⟩
  simp only [slA]
  rw [if_neg (by omega)]
  simp only [Option.map_some,add_mk,Nat.mul_one,show k+4-k=4 by omega]
  unfold drw
  have Z1:=(Z.fr F1 (nm1 dz.symm)).drew
  unfold ldL
  simp only [add_mk,Nat.add_zero]
  refine ld_b (t := .I .u16) (x:=x) Z1 hf ?_
  refine ld_b (t := .I .u16) (x:=x) Z1 hf ?_
  refine ld_b (t := .I .u16) (x:=x) Z1 hf ?_
  refine ld_b (t := .I .u16) (x:=x) Z1 hf ?_
  unfold stL stL
  refine ixS_o (k:=0) rfl (by omega) ?_
  refine st_u B1.drew (hD1 _ (by omega)) rfl ?_
  intro w2 B2 F2
  have Z2:=Z1.fr F2 (nm1 dz.symm)
  have kz:∀(w':World),Blk w' pz f→∀q ∈ [((⟨pz,0,none⟩:Addr),(Value.int .u16 x)),(⟨pz,0,none⟩,.int .u16 x),(⟨pz,0,none⟩,.int .u16 x)],w'.cell? q.1=some q.2:=by
   intro w' Z' q hq
   simp only [List.mem_cons,List.not_mem_nil,or_false] at hq
   rcases hq with rfl|rfl|rfl<;>exact (Z'.cell 0).trans hf
  refine ⟨fun q hq=>kz w2 Z2 q hq,?_⟩
  refine ixS_o (k:=1) rfl (by omega) ?_
  refine st_u B2 (hD1.upd _ (by omega)) rfl ?_
  intro w3 B3 F3
  have Z3:=Z2.fr F3 (nm1 dz.symm)
  refine ⟨fun q hq=>kz w3 Z3 q (by simp only [List.mem_cons,List.not_mem_nil,or_false] at hq ⊢;rcases hq with h|h<;>simp [h]),?_⟩
  refine ixS_o (k:=2) rfl (by omega) ?_
  refine st_u B3 (hD1.upd.upd _ (by omega)) rfl ?_
  intro w4 B4 F4
  have Z4:=Z3.fr F4 (nm1 dz.symm)
  refine ⟨fun q hq=>kz w4 Z4 q (by simp only [List.mem_cons,List.not_mem_nil,or_false] at hq ⊢;simp [hq]),?_⟩
  refine ixS_o (k:=3) rfl (by omega) ?_
  refine st_u B4 (hD1.upd.upd.upd _ (by omega)) rfl ?_
  intro w5 B5 F5
  refine ⟨⟨k+4,_,by omega,hk5,by omega,B5,hD1.upd.upd.upd.upd,((((F1.drew).trans F2 (fun x hx => .inl hx)).trans F3 (fun x hx => .inl hx)).trans F4 (fun x hx => .inl hx)).trans F5 (fun x hx => .inl hx)⟩,?_⟩
  show len-(((k:Nat):Int)+4).toNat<len-((k:Nat):Int).toNat
  omega
 ·exact hκ w1 D1 B1 hD1 F1
theorem rt_L8 {K:Unit→PT} {D:Cells} {pz n len c:Nat} {x:Int} {f:Cells} (B:Blk w db D) (hD:Som 2048 D) (Z:Blk w pz f) (hf:f 0=some (.int .u16 x)) (dz:db≠pz) (hn:n+len≤2048)
  (hκ:∀w' D',Blk w' db D'→Som 2048 D'→Fm w w' [db]→K () w'):loopP (0:Int) (q45_L8 ⟨pz,0,none⟩ ⟨some ⟨db,n,none⟩,len,c⟩ K) w:=by
 refine ⟨fun v w'=>∃(k:Nat) (D':Cells),v=(k:Int)∧k≤len∧Blk w' db D'∧Som 2048 D'∧Fm w w' [db],fun v _=>len-v.toNat,⟨0,D,rfl,Nat.zero_le _,B,hD,Fm.refl _ _⟩,?_⟩
 rintro v w1 ⟨k,D1,rfl,hk,B1,hD1,F1⟩
 unfold q45_L8
 refine cnd_d (fun hc2 => ?_) fun hc2 => ?_
 ·have hk5:k<len:=by simp only at hc2;omega
  unfold ldL
  simp only [add_mk,Nat.add_zero]
  refine ld_b (t := .I .u16) (x:=x) (Z.fr F1 (nm1 dz.symm)) hf ?_
  refine ixS_o rfl hk5 ?_
  unfold stL stL
  simp only [add_mk,Nat.add_zero]
  refine st_u B1 (hD1 _ (by omega)) rfl ?_
  intro w2 B2 F2
  rw [wI64 (by omega) (by omega)]
  refine ⟨⟨k+1,_,by simp,by omega,B2,hD1.upd,F1.trans F2 (fun x hx => .inl hx)⟩,?_⟩
  show len-(((k:Nat):Int)+1).toNat<len-((k:Nat):Int).toNat
  omega
 ·exact hκ w1 D1 B1 hD1 F1
end
theorem sh_pow {w:Nat} (h:w≤11) (h0:1≤w):shrI .u32 (shlI .u32 1 ((w:Nat):Int)) 1=((2^(w-1):Nat):Int):=by
 have hp:2^w≤2^11:=Nat.pow_le_pow_right (by omega) h
 have e:=shlI_nat .u32 1 w (by simp only [IntKind.bits];omega) (by simp only [IntKind.bits];omega)
 rw [Nat.one_mul] at e
 rw [show shlI .u32 1 ((w:Nat):Int)=_ from e]
 rw [show shrI .u32 ((2^w:Nat):Int) (1:Int)=_ from shrI_nat .u32 (2^w) 1 (by simp only [IntKind.bits];omega)]
 congr 1
 rw [show (2:Nat)^w=2^(w-1)*2^1 by rw [←Nat.pow_add,show w-1+1=w by omega],Nat.mul_div_cancel _ (by decide)]
section
variable {w:World} {g rb db pb:Nat} {s:HU} {fs:List Nat} {R:Nat→Int} {M:Nat}
structure SL (s:HU) (fs:List Nat) (M pb db:Nat):Prop where
 at_:s.atl=((M:Nat):Int)
 hw:WSt s fs
 sy:s.symL=((fs.length:Nat):Int)
 dt:s.dt=⟨some ⟨db,0,none⟩,2048,2048⟩
 m1:1≤M
 m11:M≤11
 len:fs.length≤256
 le:∀x∈fs,x≤M
 sum:wsum fs=2^M
theorem SL.room (H:SL s fs M pb db) {i:Nat} (hi:i<fs.length) (h0:fs[i]≠0):rsum fs fs[i]+(fs.take i).count fs[i]*2^(fs[i]-1)+2^(fs[i]-1)≤2048:=by
 have h1:=rsum_succ fs (i:=fs[i]) (by omega)
 have h2:=rsum_le fs (fs[i]+1)
 rw [H.sum] at h2
 have hp:2^M≤2^11:=Nat.pow_le_pow_right (by omega) H.m11
 have h3:(fs.take i).count fs[i]+1≤fs.count fs[i]:=by
  have e:fs.take (i+1)++fs.drop (i+1)=fs:=List.take_append_drop _ _
  have e2:fs.count fs[i]=(fs.take (i+1)).count fs[i]+(fs.drop (i+1)).count fs[i]:=by
   rw [←List.count_append,e]
  rw [count_take hi,if_pos rfl] at e2
  omega
 have h4:=Nat.mul_le_mul_right (2^(fs[i]-1)) h3
 rw [Nat.add_mul,Nat.one_mul] at h4
 generalize (fs.take i).count fs[i]*2^(fs[i]-1)=A at *
 generalize fs.count fs[i]*2^(fs[i]-1)=C at *
 omega
theorem rt_L12 {K:Unit→PT} {P D:Cells} (H:SL s fs M pb db) (HB:Blk w g s.at) (B:Blk w rb (arrC .u32 16 R)) (hR:∀v,1≤v→v≤M→R v=((rsum fs v:Nat):Int)) (HP:Blk w pb P) (hP:Som 512 P) (HD:Blk w db D) (hD:Som 2048 D)
  (n1:g≠rb) (n2:g≠pb) (n3:g≠db) (n4:rb≠pb) (n5:rb≠db) (n6:pb≠db)
  (hκ:∀w' P',Blk w' g s.at→Blk w' pb P'→(∀j,j<fs.length→P' (j*2+1)=some (.int .u8 ((lnW M fs j:Nat):Int)))→Som 512 P'→Fm w w' [rb,pb,db]→K () w') :
  loopP (0:Int) (q45_L12 (some ⟨g,0,none⟩,.nilIface) ⟨rb,0,none⟩ ⟨some ⟨pb,0,none⟩,256,256⟩ K ⟨some ⟨g,279,none⟩,fs.length,256⟩) w:=by
 have hlen:=H.len
 have hm:=H.m11
 have hm1:=H.m1
 have hgl:=HB.lt
 have hrl:=B.lt
 have hpl:=HP.lt
 have hdl:=HD.lt
 refine ⟨fun v w'=>∃(i:Nat) (R':Nat→Int) (P' D':Cells),v=(i:Int)∧i≤fs.length∧(∀v,1≤v→v≤M→R' v=((rsum fs v+(fs.take i).count v*2^(v-1):Nat):Int))∧Blk w' rb (arrC .u32 16 R')∧Blk w' pb P'∧Som 512 P'∧(∀j,j<i→P' (j*2+1)=some (.int .u8 ((lnW M fs j:Nat):Int)))∧Blk w' db D'∧Som 2048 D'∧Fm w w' [rb,pb,db],
  fun v _=>256-v.toNat,⟨0,R,P,D,rfl,Nat.zero_le _,(by intro v h1 h2;rw [hR v h1 h2];simp),B,HP,hP,(by intro j hj;omega),HD,hD,Fm.refl _ _⟩,?_⟩
 rintro v w1 ⟨i,R1,P1,D1,rfl,hi,hR1,B1,HP1,hP1,hPv,HD1,hD1,F1⟩
 have HB1:=HB.fr F1 (by simp;exact ⟨n1,n2,n3⟩)
 unfold q45_L12
 refine cnd_d (fun hc => ?_) fun hc => ?_
 ·have hi2:i<fs.length:=by simp only at hc;omega
  have hi256:i<256:=Nat.lt_of_lt_of_le hi2 hlen
  refine joinP_id ?_
  have hget:fs.getD i 0=fs[i]:=getD_in hi2
  have hle:=H.le _ (List.getElem_mem hi2)
  unfold q45_X11
  refine ixS_o rfl hi2 ?_
  refine ld_b (t := .I .u8) (x:=((fs[i]:Nat):Int)) HB1 (by rw [HU.hw_at _ (by omega),H.hw i hi2];rfl) ?_
  refine cnd_d (fun h0 => ?_) fun h0 => ?_
  ·have hz:fs[i]=0:=by omega
   refine ixS_b (k:=i) rfl rfl hi256 ?_
   unfold stL stL stL
   simp only [add_mk,Nat.zero_add,Nat.add_zero]
   refine st_u HP1 (hP1 _ (by omega)) rfl ?_
   intro w2 HP2 F2
   refine st_u HP2 (hP1.upd _ (by omega)) rfl ?_
   intro w3 HP3 F3
   unfold q45_J10
   rw [wI64 (by omega) (by omega)]
   have F13:Fm w1 w3 [pb]:=F2.trans F3 (fun x hx => .inl hx)
   refine ⟨⟨i+1,R1,_,D1,by simp,by omega,?_,B1.fr F13 (nm1 n4),HP3,hP1.upd.upd,?_,HD1.fr F13 (nm1 n6.symm),hD1,F1.trans F13 (by intro v hv;simp at hv;simp [hv])⟩,by omega⟩
   ·intro v h1 h2
    rw [hR1 v h1 h2,count_take hi2,if_neg (by omega),Nat.add_zero]
   ·intro j hj
    unfold updC
    by_cases ej:j=i
    ·subst ej
     rw [if_pos rfl]
     unfold lnW
     rw [hget,if_pos hz];rfl
    ·rw [if_neg (by omega),if_neg (by omega)];exact hPv j (by omega)
  ·have hz:fs[i]≠0:=by omega
   have hroom:=H.room hi2 hz
   have hRw:=hR1 fs[i] (by omega) hle
   have hcnt:(fs.take (i+1)).count fs[i]=(fs.take i).count fs[i]+1:=by rw [count_take hi2,if_pos rfl]
   have hln:lnW M fs i=M+1-fs[i]:=by unfold lnW;rw [hget,if_neg hz]
   have hR1':∀v,1≤v→v≤M→v≠fs[i]→R1 v=((rsum fs v+(fs.take (i+1)).count v*2^(v-1):Nat):Int):=by
    intro v h1 h2 h3
    rw [hR1 v h1 h2,count_take hi2,if_neg (fun e=>h3 e.symm),Nat.add_zero]
   have hnew:rsum fs fs[i]+(fs.take (i+1)).count fs[i]*2^(fs[i]-1)=rsum fs fs[i]+(fs.take i).count fs[i]*2^(fs[i]-1)+2^(fs[i]-1):=by rw [hcnt,Nat.add_mul,Nat.one_mul];omega
   generalize fs[i]=x at *
   generalize hst:rsum fs x+(fs.take i).count x*2^(x-1)=st at *
   have hpx:2^(x-1)≤2^10:=Nat.pow_le_pow_right (by omega) (by omega)
   have hp0:=Nat.two_pow_pos (x-1)
   refine ⟨by omega,by decide,nz_s ?_⟩
   simp only [add_mk,Nat.zero_add]
   refine ld_b (t := .I .u8) (x:=((M:Nat):Int)) HB1 (by show some (Value.int .u8 s.atl)=_;rw [H.at_];rfl) ⟨by decide,?_⟩
   refine nw_x ?_
   intro pz w2 F2 Z2 hpz
   have hs1:=F1.size
   have nzr:rb≠pz:=by omega
   have nzp:pb≠pz:=by omega
   have nzd:db≠pz:=by omega
   have nzg:g≠pz:=by omega
   have ee:orI .u16 (IntKind.u16.wrap (IntKind.u8.wrap (IntKind.u8.wrap (((M:Nat):Int)+1)-((x:Nat):Int)))) (shlI .u16 (IntKind.u16.wrap ((i:Nat):Int)) 8)=((M+1-x+i*2^8:Nat):Int):=by
    rw [wU8 (x:=((M:Nat):Int)+1) (by omega) (by omega),wU8 (x:=((M:Nat):Int)+1-_) (by omega) (by omega),wU16 (x:=((M:Nat):Int)+1-_) (by omega) (by omega),wU16 (x:=((i:Nat):Int)) (by omega) (by omega)]
    rw [show ((M:Nat):Int)+1-((x:Nat):Int)=((M+1-x:Nat):Int) by omega]
    have e8:shlI .u16 ((i:Nat):Int) 8=((i*2^8%2^16:Nat):Int):=shlI_u (k := .u16) rfl i 8 (by simp only [IntKind.bits];omega)
    rw [e8,Nat.mod_eq_of_lt (by omega),orI_nat (k := .u16) rfl _ _ (by simp only [IntKind.bits];omega) (by simp only [IntKind.bits];omega),or_add (by omega)]
   rw [ee]
   unfold stL stL stL
   simp only [add_mk,Nat.zero_add,Nat.add_zero]
   refine st_u Z2 rfl rfl ?_
   intro w3 Z3 F3
   have F13:Fm w1 w3 []:=F2.trans F3 (by intro v hv;right;simp at hv;omega)
   have B3:=B1.fr F13 (by simp)
   refine ixA_o rfl (by omega) ?_
   rw [Nat.zero_add]
   unfold drw
   refine ld_b (t := .I .u32) (x:=((st:Nat):Int)) B3.drew (by rw [arrC_get (by omega),hRw];rfl) ?_
   have e1:IntKind.u8.wrap (((x:Nat):Int)-1)=((x-1:Nat):Int):=by rw [wU8 (by omega) (by omega)];omega
   rw [e1,sh_pow (by omega) (by omega)]
   refine ⟨by omega,?_⟩
   refine ld_b (t := .I .u16) (x:=((M+1-x+i*2^8:Nat):Int)) Z3.drew rfl ?_
   refine ixS_b (k:=i) rfl rfl hi256 ?_
   simp only [add_mk,Nat.zero_add]
   have F14:=F13.drew
   have HP4:=HP1.fr F14 (by simp)
   refine st_u HP4 (hP1 _ (by omega)) rfl ?_
   intro w5 HP5 F5
   refine st_u HP5 (hP1.upd _ (by show i*2+1<512;omega)) rfl ?_
   intro w6 HP6 F6
   have F46:Fm w3.drew w6 [pb]:=F5.trans F6 (fun x hx => .inl hx)
   have eb:IntKind.u8.wrap ((M+1-x+i*2^8:Nat):Int)=((M+1-x:Nat):Int):=by
    rw [wrap_u (k := .u8) rfl]
    simp only [IntKind.bits]
    rw [show (M+1-x+i*2^8)%2^8=M+1-x by omega]
   rw [eb] at HP6
   dsimp only at HP6
   have Z7:=(Z3.drew.fr F46 (nm1 nzp.symm)).drew
   have HB7:=((HB1.fr F14 (by simp)).fr F46 (nm1 n2)).drew
   have B7:=(B3.drew.fr F46 (nm1 n4)).drew
   have HD7:=((HD1.fr F14 (by simp)).fr F46 (nm1 n6.symm)).drew
   refine nz_s ?_
   simp only [add_mk,Nat.zero_add]
   refine ld_b (t := .S) (x:=⟨some ⟨db,0,none⟩,2048,2048⟩) HB7 (by show some s.dt.val=_;rw [H.dt];rfl) ?_
   refine ld_b (t := .I .u32) (x:=((st:Nat):Int)) B7 (by rw [arrC_get (by omega),hRw];rfl) ?_
   refine ld_b (t := .I .u32) (x:=((st:Nat):Int)) B7 (by rw [arrC_get (by omega),hRw];rfl) ?_
   rw [wU32 (by omega) (by omega), ←Int.natCast_add]
   refine slc_lh (n:=st) (m:=st+2^(x-1)) rfl rfl (by omega) (by simp only;omega) ?_
   simp only [slA]
   rw [if_neg (by omega)]
   simp only [Option.map_some,add_mk,Nat.mul_one,Nat.zero_add,Nat.add_sub_cancel_left]
   have F17:Fm w1 w6.drew [pb]:=((F14.mono (S' := [pb]) (by simp)).trans F46 (fun x hx => .inl hx)).drew
   have HP7:=HP6.drew
   have tail:∀w8 D8,Blk w8 db D8→Som 2048 D8→Fm w6.drew w8 [db]→q45_J9 (q45_J10 ((i:Nat):Int) (fun (v:Int) w'=>(∃(i:Nat) (R':Nat→Int) (P' D':Cells),v=(i:Int)∧i≤fs.length∧(∀v,1≤v→v≤M→R' v=((rsum fs v+(fs.take i).count v*2^(v-1):Nat):Int))∧Blk w' rb (arrC .u32 16 R')∧Blk w' pb P'∧Som 512 P'∧(∀j,j<i→P' (j*2+1)=some (.int .u8 ((lnW M fs j:Nat):Int)))∧Blk w' db D'∧Som 2048 D'∧Fm w w' [rb,pb,db])∧256-v.toNat<256-((i:Nat):Int).toNat)) ((x:Nat):Int) ⟨rb,x,none⟩ () w8:=by
    intro w8 D8 HD8 hD8 F8
    unfold q45_J9 q45_J10
    have B8:=B7.fr F8 (nm1 n5)
    refine ld_b (t := .I .u32) (x:=((st:Nat):Int)) B8 (by rw [arrC_get (by omega),hRw];rfl) ?_
    rw [sh_pow (by omega) (by omega),wU32 (by omega) (by omega), ←Int.natCast_add]
    refine st_u B8 (by rw [arrC_get (by omega)];rfl) rfl ?_
    intro w9 B9 F9
    rw [arrC_upd (by omega)] at B9
    rw [wI64 (by omega) (by omega)]
    refine ⟨⟨i+1,_,_,D8,by simp,by omega,?_,B9,(HP7.fr F8 (nm1 n6)).fr F9 (nm1 n4.symm),hP1.upd.upd,?_,HD8.fr F9 (nm1 n5.symm),hD8,?_⟩,by omega⟩
    ·intro v h1 h2
     unfold updF
     by_cases ev:v=x
     ·subst ev;rw [if_pos rfl,hnew]
     ·rw [if_neg ev];exact hR1' v h1 h2 ev
    ·intro j hj
     unfold updC
     by_cases ej:j=i
     ·subst ej
      rw [if_pos rfl,hln]
     ·rw [if_neg (by omega),if_neg (by omega)];exact hPv j (by omega)
    ·exact ((F1.trans F17 (by intro v hv;simp at hv;simp [hv])).trans F8 (by intro v hv;simp at hv;simp [hv])).trans F9 (by intro v hv;simp at hv;simp [hv])
   refine joinP_id ?_
   refine cnd_d (fun h4 => ?_) fun h4 => ?_
   ·have hx3:3≤x:=by
     by_cases h:3≤x
     ·exact h
     ·exfalso
      have:2^(x-1)≤2^1:=Nat.pow_le_pow_right (by omega) (by omega)
      omega
    have hmod:2^(x-1)%4=0:=by rw [show x-1=x-3+2 by omega,Nat.pow_add];omega
    refine rt_L7 (n:=st) HD7 hD1 Z7 rfl nzd (by omega) hmod (by omega) ?_
    intro w8 D8 HD8 hD8 F8
    exact tail w8 D8 HD8 hD8 F8
   ·refine rt_L8 (n:=st) HD7 hD1 Z7 rfl nzd (by omega) ?_
    intro w8 D8 HD8 hD8 F8
    exact tail w8 D8 HD8 hD8 F8
 ·have:i=fs.length:=by simp only at hc;omega
  subst this
  exact hκ w1 P1 HB1 HP1 hPv hP1 F1
end
structure RTo (w w':World) (g ob pb fb:Nat) (s:HU) (fs:FS) (ws:List Nat) (M:Nat):Prop where
 blk:Blk w' g s.at
 out:s.out=⟨some ⟨ob,0,none⟩,0,0⟩
 ptS:s.pt=⟨some ⟨pb,0,none⟩,(fullZ ws).length,256⟩
 ptl:s.ptl=((M:Nat):Int)
 fse:s.fse=some ⟨fb,0,none⟩
 ff:FF w w' fb fs
 ptb:∃P,Blk w' pb P∧∀j,j<(fullZ ws).length→P (j*2+1)=some (.int .u8 ((lnW M (fullZ ws) j:Nat):Int))
 ob_:∃F,Blk w' ob F
 ng:w.heap.size≤g
 no:w.heap.size≤ob
 np:w.heap.size≤pb
 nf:w.heap.size≤fb
 d1:g≠ob
 d2:g≠pb
 d3:g≠fb
 d4:ob≠pb
 d5:ob≠fb
 d6:pb≠fb
 d7:∀v∈fs.ts.bs,v≠g∧v≠ob∧v≠pb∧v≠fb
 d8:∀v∈fs.st.bs,v≠g∧v≠ob∧v≠pb∧v≠fb
theorem FF.own {w w':World} {fb:Nat} {fs:FS} (h:FF w w' fb fs):Own 1 w' fs.ts∧Own 1 w' fs.st:=by
 rcases h.ts with ⟨e1,e2⟩|⟨ts,sb,_,_,_,_,_,o1,o2⟩
 ·rw [e1,e2];exact ⟨Own.none,Own.none⟩
 ·exact ⟨o1,o2⟩
theorem FF.fr {w w' w2:World} {fb:Nat} {fs:FS} {S:List Nat} (h:FF w w' fb fs) (F:Fm w' w2 S) (h1:fb∉S) (h2:∀v∈fs.ts.bs,v∉S) (h3:∀v∈fs.st.bs,v∉S):FF w w2 fb fs:=by
 refine ⟨h.blk.fr F h1,h.out,h.tt,?_⟩
 rcases h.ts with e|⟨ts,sb,a1,a2,a3,a4,a5,o1,o2⟩
 ·exact .inl e
 ·exact .inr ⟨ts,sb,a1,a2,a3,a4,a5,o1.fm F h2,o2.fm F h3⟩
theorem c45 {w:World} {x:Sl} {l ws:List Nat} {used M:Nat} {K:Option Addr×Sl×Value→PT} (A:Arr .u8 w x l) (hl:By l) (hlen:l.length<2^20) (hw:weightsZ l=some (ws,used)) (hK:WK ws M) (hwh:WhB l)
  (hk:∀w' g ob pb fb s fs y,RTo w w' g ob pb fb s fs ws M→Fm w w' []→K (some ⟨g,0,none⟩,y,.nilIface) w') :
  callP Tryd.prog 45 #[.slice x.a x.l x.c,.pointer none] [.c .P,.c .S,.c .V] K w:=by
 apply q45_ok (o1:=none)
 unfold q45
 have hxl:=A.len
 obtain ⟨n,r,hln⟩:∃n r,l=n::r:=by
  cases l with
  | nil=>simp [weightsZ] at hw
  | cons n r=>exact ⟨n,r,rfl⟩
 have hlen2:1<l.length:=by
  subst hln
  by_cases h:1<(n::r).length
  ·exact h
  ·exfalso
   have hr:r = []:=by
    simp only [List.length_cons] at h
    exact List.length_eq_zero_iff.mp (by omega)
   subst hr
   unfold weightsZ at hw
   simp only at hw
   have hne:=hK.ne
   split at hw
   ·rename_i h128
    split at hw
    ·cases hw
    ·rename_i h2
     simp only [List.length_cons,List.length_nil] at h2
     omega
   ·split at hw
    ·cases hw
    ·rename_i h2
     simp only [List.length_cons,List.length_nil] at h2
     have hn:n=0:=by omega
     subst hn
     split at hw
     ·cases hw
     ·rename_i cs t rest hfr
      obtain ⟨E,_,_,_,hre,hP⟩:=fseRead_ph hfr
      split at hw
      ·cases hw
      ·rename_i ht6
       split at hw
       ·cases hw
       ·split at hw
        ·cases hw
        ·rename_i tab hst out htwo
         unfold twoStatesZ at htwo
         simp at hre
         rw [hre] at htwo
         simp [backZ] at htwo
 refine c61n ?_
 intro w1 g ob nb fb Fo Fnd F1 hg hgo hon hnf B1 O1 N1 Z1
 refine ⟨rfl,nil_cnd ?_⟩
 refine cnd_d (fun h=>by omega) fun _ => ?_
 have A1:=A.fr F1 (by simp)
 refine A1.ldk 0 rfl (by omega) fun p hp=>ld_c (t := .I .u8) hp ?_
 have e0:l[0]=n:=by subst hln;rfl
 rw [e0]
 refine slc_lo (n:=1) rfl (by omega) ?_
 have A2:=A1.drop 1 (by omega)
 have hdr:l.drop 1=r:=by subst hln;rfl
 rw [hdr] at A2
 refine joinP_id ?_
 have hold:∀a,x.a=some a→l ≠ []→a.block<w.heap.size:=fun a ha h=>A.old h a ha
 have hne:l ≠ []:=by subst hln;simp
 refine d45_X22 (g:=g) (fb:=fb) (s:=HU.fresh ob nb fb) B1 rfl Z1 hln A2 hl hlen (by omega) ?_ hw hwh ?_
 ·intro a ha hr
  have hb:∃a',x.a=some a'∧a.block=a'.block:=by
   simp only [slA] at ha
   split at ha
   ·exact ⟨a,ha,rfl⟩
   ·cases hxa:x.a with
    | none=>rw [hxa] at ha;cases ha
    | some a' =>
     rw [hxa] at ha
     injection ha with ha
     subst ha
     refine ⟨a',rfl,?_⟩
     unfold Addr.add;split<;>rfl
  obtain ⟨a',h1,h2⟩:=hb
  have:=hold a' h1 hne
  omega
 intro w2 hw2 fs y hhw hws B2 FF2 F2
 have F02:Fm w w2 []:=F1.trans F2 (by intro v hv;right;simp at hv;omega)
 have O2:=O1.fr F2 (by simp;omega)
 have hs1:=F1.size
 have hs2:=F2.size
 refine rt_hist B2 (ws:=ws) hhw hws (fun v hv=>by have:=hK.le v hv;have:=hK.m11;omega) rfl ?_
 intro w3 hb H3 sn hsn hhb B3 hI F3
 refine rt_rank B3 hI hws ?_
 intro w4 rb R4 hrb hR4 B4 F4
 refine rt_sum hK B4 hR4 ?_
 have F24:Fm w2 w4 []:=F3.trans F4 (by simp)
 have HB4:=B2.fr F24 (by simp)
 have hgl2:=B2.lt
 have hol2:=O2.lt
 have hfl2:=FF2.blk.lt
 have hs3:=F3.size
 have tsl:∀v∈fs.ts.bs,v<w2.heap.size:=FF2.own.1.lt
 have stl:∀v∈fs.st.bs,v<w2.heap.size:=FF2.own.2.lt
 refine rt_last hsn hK HB4 hhw rfl B4 hR4 (by omega) ?_
 intro w5 hw5 R5 hhw5 hR5 HB5 B5 F5
 have hfl:(fullZ ws).length=ws.length+1:=by unfold fullZ;simp
 have hf256:(fullZ ws).length≤256:=by have:=hK.len;omega
 have hm1:1≤M:=by have:=hK.lg;omega
 refine joinP_id ?_
 refine rt_L6 HB5 rfl hK.m11 hK.full hf256 B5 hR5 (by omega) ?_
 intro w6 R6 hR6 B6 F6
 have F26:Fm w2 w6 [g]:=((F24.mono (S' := [g]) (by simp)).trans F5 (by intro v hv;simp at hv;rcases hv with rfl|rfl;exact .inl (by simp);right;omega)).trans F6 (by intro v hv;simp at hv;subst hv;right;omega)
 have HB6:=HB5.fr F6 (nm1 (by omega))
 have hs5:=F26.size
 have hgl6:=HB6.lt
 have hrl6:=B6.lt
 unfold q45_J16
 refine joinP_id (nz_s ?_)
 simp only [add_mk,Nat.zero_add]
 refine ld_b (t := .S) (x:=⟨none,0,0⟩) HB6 rfl (cnd_nd (fun _ => ?_) fun h=>absurd h (by decide))
 refine mks_w (l:=2048) (c:=2048) rfl rfl (Nat.le_refl _) (by decide) ?_
 intro db w7 F7 D7 hdb
 refine nz_s ?_
 simp only [add_mk,Nat.zero_add]
 refine st_u (HB6.fr F7 (by simp)) rfl rfl ?_
 intro w8 HB8 F8
 have HB8:=HB8.congr (HU.setT (s':=({ ({ ({ HU.fresh ob nb fb with hw:=hw2,symL:=((ws.length:Nat):Int) } : HU) with atl:=((M:Nat):Int),hw:=hw5,symL:=((ws.length+1:Nat):Int) } : HU) with dt:=⟨some ⟨db,0,none⟩,2048,2048⟩ } : HU)) 16 rfl rfl rfl (by decide))
 have D8:=D7.fr F8 (nm1 (by omega))
 have B8:=(B6.fr F7 (by simp)).fr F8 (nm1 (by omega))
 unfold q45_J15
 refine nz_s ?_
 simp only [add_mk,Nat.zero_add]
 refine ld_b (t := .S) (x:=⟨none,0,0⟩) HB8 rfl ?_
 refine joinP_id (cnd_d (fun _ => ?_) fun h=>absurd (by decide) h)
 refine mks_w (l:=0) (c:=256) rfl rfl (Nat.zero_le _) (by decide) ?_
 intro pb w9 F9 P9 hpb
 unfold q45_J14
 refine slc_hi (m:=256) rfl (Nat.le_refl _) (nz_s ?_)
 simp only [add_mk,Nat.zero_add]
 have HB9:=HB8.fr F9 (by simp)
 have hs8:=F8.size
 have hs7:=F7.size
 have hdl8:=D8.lt
 refine ld_b (t := .I .u16) (x:=((ws.length+1:Nat):Int)) HB9 rfl ?_
 refine slc_hi (m:=ws.length+1) rfl (by simp only;omega) (nz_s ?_)
 simp only [add_mk,Nat.zero_add]
 refine st_u HB9 rfl rfl ?_
 intro w10 HB10 F10
 have HB10:=HB10.congr (HU.setT (s':=({ ({ ({ ({ HU.fresh ob nb fb with hw:=hw2,symL:=((ws.length:Nat):Int) } : HU) with atl:=((M:Nat):Int),hw:=hw5,symL:=((ws.length+1:Nat):Int) } : HU) with dt:=⟨some ⟨db,0,none⟩,2048,2048⟩ } : HU) with pt:=⟨some ⟨pb,0,none⟩,ws.length+1,256⟩ } : HU)) 14 rfl rfl rfl (by decide))
 refine nz_s ?_
 simp only [add_mk,Nat.zero_add]
 refine ld_b (t := .I .u8) (x:=((M:Nat):Int)) HB10 rfl (nz_s ?_)
 simp only [add_mk,Nat.zero_add]
 refine st_u HB10 rfl rfl ?_
 intro w11 HB11 F11
 have HB11:=HB11.congr (HU.setT (s':=({ ({ ({ ({ ({ HU.fresh ob nb fb with hw:=hw2,symL:=((ws.length:Nat):Int) } : HU) with atl:=((M:Nat):Int),hw:=hw5,symL:=((ws.length+1:Nat):Int) } : HU) with dt:=⟨some ⟨db,0,none⟩,2048,2048⟩ } : HU) with pt:=⟨some ⟨pb,0,none⟩,ws.length+1,256⟩ } : HU) with ptl:=((M:Nat):Int) } : HU)) 13 rfl rfl rfl (by decide))
 generalize hS:({ ({ ({ ({ ({ HU.fresh ob nb fb with hw:=hw2,symL:=((ws.length:Nat):Int) } : HU) with atl:=((M:Nat):Int),hw:=hw5,symL:=((ws.length+1:Nat):Int) } : HU) with dt:=⟨some ⟨db,0,none⟩,2048,2048⟩ } : HU) with pt:=⟨some ⟨pb,0,none⟩,ws.length+1,256⟩ } : HU) with ptl:=((M:Nat):Int) } : HU)=S at *
 have F911:Fm w9 w11 [g]:=F10.trans F11 (fun x hx => .inl hx)
 have F811:Fm w8 w11 [g]:=(F9.mono (S' := [g]) (by simp)).trans F911 (fun x hx => .inl hx)
 have P11:=P9.fr F911 (nm1 (by omega))
 have D11:=D8.fr F811 (nm1 (by omega))
 have B11:=B8.fr F811 (nm1 (by omega))
 refine joinP_id ?_
 unfold drw
 refine nz_s (nz_s ?_)
 simp only [add_mk,Nat.zero_add]
 refine ld_b (t := .I .u16) (x:=((ws.length+1:Nat):Int)) HB11.drew (by subst hS;rfl) ?_
 refine slcA_hi rfl (by omega) (by omega) ?_
 have hSL:SL S (fullZ ws) M pb db:=⟨by subst hS;rfl,by subst hS;exact hhw5,by subst hS;rw [hfl],by subst hS;rfl,hm1,hK.m11,hf256,hK.fle,hK.full⟩
 rw [←hfl]
 refine rt_L12 hSL HB11.drew B11.drew hR6 P11.drew (fun i hi=>zrep_some z140 256 i (by simpa [z140] using hi)) D11.drew (fun i hi=>zrep_some z142 2048 i (by simpa [z142] using hi)) (by omega) (by omega) (by omega) (by omega) (by omega) (by omega) ?_
 intro w12 P12 HB12 HP12 hP12 hS12 F12
 unfold q45_J13
 have F611:Fm w6 w11 [g]:=((F7.mono (S' := [g]) (by simp)).trans F8 (fun x hx => .inl hx)).trans F811 (fun x hx => .inl hx)
 have F211:Fm w2 w11.drew [g]:=(F26.trans F611 (fun x hx => .inl hx)).drew
 have F212:Fm w2 w12 [g]:=F211.trans F12 (by intro v hv;right;simp at hv;omega)
 have tsn:∀v∈fs.ts.bs,v≠g∧v≠ob∧v≠fb:=by
  intro v hv
  rcases FF2.ts with ⟨e1,e2⟩|⟨ts,sb,a1,a2,a3,a4,a5,_⟩
  ·rw [e1] at hv;simp [Sl.bs] at hv
  ·rw [a4] at hv;simp [Sl.bs] at hv;subst hv
   have:=O1.lt;have:=Z1.lt;have:=B1.lt
   omega
 have stn:∀v∈fs.st.bs,v≠g∧v≠ob∧v≠fb:=by
  intro v hv
  rcases FF2.ts with ⟨e1,e2⟩|⟨ts,sb,a1,a2,a3,a4,a5,_⟩
  ·rw [e2] at hv;simp [Sl.bs] at hv
  ·rw [a5] at hv;simp [Sl.bs] at hv;subst hv
   have:=O1.lt;have:=Z1.lt;have:=B1.lt
   omega
 have FFw:FF w w2 fb fs:=by
  refine ⟨FF2.blk,FF2.out,FF2.tt,?_⟩
  rcases FF2.ts with e|⟨ts,sb,a1,a2,a3⟩
  ·exact .inl e
  ·exact .inr ⟨ts,sb,by omega,by omega,a3⟩
 refine hk w12 g ob pb fb S fs y ⟨HB12,by subst hS;rfl,by subst hS;rw [hfl],by subst hS;rfl,by subst hS;rfl,FFw.fr F212 (nm1 (by omega)) (fun v hv=>nm1 (tsn v hv).1) (fun v hv=>nm1 (stn v hv).1),⟨P12,HP12,hP12⟩,⟨Fo,O2.fr F212 (nm1 (by omega))⟩,hg,by omega,by omega,by omega,by omega,by omega,by omega,by omega,by omega,by omega,?_,?_⟩ (F02.trans F212 (by intro v hv;right;simp at hv;omega))
 ·intro v hv
  have h1:=tsn v hv
  have h2:=tsl v hv
  exact ⟨h1.1,h1.2.1,by omega,h1.2.2⟩
 ·intro v hv
  have h1:=stn v hv
  have h2:=stl v hv
  exact ⟨h1.1,h1.2.1,by omega,h1.2.2⟩
theorem RTo.sw {w w':World} {g ob pb fb:Nat} {s:HU} {fs:FS} {ws:List Nat} {M:Nat} (H:RTo w w' g ob pb fb s fs ws M):SW w' fb fs:=by
 have ho:fs.out.bs = []:=by rw [H.ff.out];rfl
 have ht:fs.tt.bs = []:=by rw [H.ff.tt];rfl
 refine ⟨H.ff.blk,by rw [H.ff.out];exact Own.none,H.ff.own.1,H.ff.own.2,by rw [H.ff.tt];exact Own.none,by rw [ho];simp,fun h=>(H.d7 fb h).2.2.2 rfl,fun h=>(H.d8 fb h).2.2.2 rfl,by rw [ht];simp,by rw [ho];simp,by rw [ho];simp,by rw [ho];simp,?_,by rw [ht];simp,by rw [ht];simp⟩
 rcases H.ff.ts with ⟨e1,_⟩|⟨ts,sb,_,_,a3,a4,a5,_⟩
 ·rw [e1];simp [Sl.bs]
 ·rw [a4,a5];simpa [Sl.bs] using a3
theorem RTo.ge {w w':World} {g ob pb fb:Nat} {s:HU} {fs:FS} {ws:List Nat} {M:Nat} (H:RTo w w' g ob pb fb s fs ws M):∀v∈SB fb fs,w.heap.size≤v:=by
 have ho:fs.out.bs = []:=by rw [H.ff.out];rfl
 have ht:fs.tt.bs = []:=by rw [H.ff.tt];rfl
 intro v hv
 rw [mem_SB,ho,ht] at hv
 rcases hv with h|h|h|h|h
 ·rw [h];exact H.nf
 ·cases h
 ·rcases H.ff.ts with ⟨e1,_⟩|⟨ts,sb,a1,_,_,a4,_⟩
  ·rw [e1] at h;simp [Sl.bs] at h
  ·rw [a4] at h;simp [Sl.bs] at h;omega
 ·rcases H.ff.ts with ⟨_,e1⟩|⟨ts,sb,_,a1,_,_,a4,_⟩
  ·rw [e1] at h;simp [Sl.bs] at h
  ·rw [a4] at h;simp [Sl.bs] at h;omega
 ·cases h
theorem RTo.ap {w w':World} {g ob pb fb:Nat} {s:HU} {fs:FS} {ws:List Nat} {M:Nat} (H:RTo w w' g ob pb fb s fs ws M):∀v∈SB fb fs,v≠g∧v≠ob∧v≠pb:=by
 have ho:fs.out.bs = []:=by rw [H.ff.out];rfl
 have ht:fs.tt.bs = []:=by rw [H.ff.tt];rfl
 intro v hv
 rw [mem_SB,ho,ht] at hv
 rcases hv with h|h|h|h|h
 ·rw [h];exact ⟨H.d3.symm,H.d5.symm,H.d6.symm⟩
 ·cases h
 ·have:=H.d7 v h;exact ⟨this.1,this.2.1,this.2.2.1⟩
 ·have:=H.d8 v h;exact ⟨this.1,this.2.1,this.2.2.1⟩
 ·cases h
theorem wtL_lnW {ws:List Nat} {M:Nat} (h:WK ws M):wtL M (lnW M (fullZ ws)) (fullZ ws).length=ws:=by
 have hfl:(fullZ ws).length=ws.length+1:=by unfold fullZ;simp
 have e:wtL M (lnW M (fullZ ws)) (fullZ ws).length=(List.range ws.length).map (wtF M (lnW M (fullZ ws))):=by unfold wtL;rw [hfl,Nat.add_sub_cancel]
 rw [e]
 apply List.ext_getElem
 ·simp
 ·intro i h1 h2
  simp only [List.getElem_map,List.getElem_range]
  have hg:(fullZ ws).getD i 0=ws[i]:=by
   unfold fullZ
   rw [getD_in (by simp;omega),List.getElem_append_left h2]
  have hle:=h.le _ (List.getElem_mem h2)
  unfold wtF b2w lnW
  rw [hg]
  by_cases e:ws[i]=0
  ·simp [e]
  ·rw [if_neg e,if_neg (by omega)];omega
section
variable {w0 w:World} {g ob pb fb M:Nat} {s:HU} {fs:FS} {ws:List Nat}
theorem c46r {K2:Sl×Value→PT} (H:RTo w0 w g ob pb fb s fs ws M) (hK:WK ws M) (hG:GL w) (hE:errAt w 0) (h9:9≤w0.heap.size)
  (hk0:129<(fullZ ws).length→∀w' v,EG w' v→(∃S,Fm w w' S∧∀v∈S,w0.heap.size≤v)→K2 (⟨none,0,0⟩,v) w')
  (hk1:∀w' o tbl,By tbl→tbl.length≤129→weightsZ tbl=some (ws,tbl.length)→VecU w' o tbl→(∃S,Fm w w' S∧∀v∈S,w0.heap.size≤v)→K2 (o,.nilIface) w') :
  callP Tryd.prog 46 #[.pointer (some ⟨g,0,none⟩),.slice none 0 0] [.c .S,.c .V] K2 w:=by
 have hwt:=wtL_lnW hK
 have hfl:(fullZ ws).length=ws.length+1:=by unfold fullZ;simp
 have hL256:(fullZ ws).length≤256:=by have:=hK.len;omega
 have hne:=hK.ne
 have hws0:ws ≠ []:=by intro e;subst e;exact hne rfl
 have hwl:=List.length_pos_iff.mpr hws0
 obtain ⟨Q,HQ',hQ⟩:=H.ptb
 obtain ⟨Fo,HOb⟩:=H.ob_
 have h2:2≤(fullZ ws).length:=by omega
 have SWf:=H.sw
 have hfse:=H.fse
 have hptl:=H.ptl
 have e1:=H.ptS
 have hO:VecU w s.out []:=by rw [H.out];exact VecU.fresh HOb
 have hle:∀i,i<(fullZ ws).length→lnW M (fullZ ws) i≤M:=by intro i _;unfold lnW;split<;>omega
 have m1:1≤M:=by have:=hK.lg;omega
 have hob:s.out.bs = [ob]:=by rw [H.out];rfl
 generalize hL:(fullZ ws).length=L at *
 generalize hln:lnW M (fullZ ws)=ln at *
 have hol:=hO.len
 have hout:(⟨s.out.a,0,s.out.c⟩:Sl)=s.out:=by rw [H.out]
 apply q46_ok (p0:=⟨g,0,none⟩) (s1:=⟨none,0,0⟩)
 unfold q46
 simp only [add_mk,Nat.zero_add]
 refine ⟨(fun h=>by cases h),fun _ => ?_⟩
 refine ld_b (t := .S) (x:=⟨some ⟨pb,0,none⟩,L,256⟩) H.blk (by show some s.pt.val=_;rw [e1];rfl) (cnd_d (fun h=>absurd h (by simp only;omega)) (fun _ => ?_))
 refine ld_b (t := .S) (x:=s.out) H.blk rfl ?_
 refine ld_b (t := .I .u8) (x:=s.atl) H.blk rfl ?_
 refine ld_b (t := .I .u16) (x:=s.symL) H.blk rfl ?_
 refine joinP_id ?_
 refine ld_b (t := .P) (x:=some ⟨fb,0,none⟩) H.blk (by show some (Value.pointer s.fse)=_;rw [hfse];rfl) ⟨(fun h=>by cases h),fun _ => ?_⟩
 unfold q46_J0
 simp only [add_mk,Nat.zero_add]
 refine ld_b (t := .S) (x:=s.out) H.blk rfl ?_
 refine slc_hi (m:=0) rfl (Nat.zero_le _) ?_
 refine st_u H.blk rfl rfl ?_
 intro w1 B1 F1
 have B1':Blk w1 g s.at:=by
  refine B1.congr ?_
  rw [hout]
  exact HU.setT (s:=s) (s':=s) 0 rfl rfl rfl (by decide)
 refine ld_b (t := .I .u8) (x:=((M:Nat):Int)) B1' (by show some (Value.int .u8 s.ptl)=_;rw [hptl];rfl) ?_
 refine st_u B1' rfl rfl ?_
 intro w2 B2 F2
 have B2':=B2.congr (HU.setT (s' := { s with atl:=((M:Nat):Int) }) 12 rfl rfl rfl (by decide))
 refine ld_b (t := .S) (x:=⟨some ⟨pb,0,none⟩,L,256⟩) B2' (by show some s.pt.val=_;rw [e1];rfl) ?_
 have eL:IntKind.u16.wrap ((L:Nat):Int)=((L:Nat):Int):=wU16 (by omega) (by omega)
 dsimp only
 rw [eL]
 refine st_u B2' rfl rfl ?_
 intro w3 B3 F3
 have B3':=B3.congr (HU.setT (s' := { s with atl:=((M:Nat):Int),symL:=((L:Nat):Int) }) 9 rfl rfl rfl (by decide))
 refine ld_b (t := .S) (x:=⟨some ⟨pb,0,none⟩,L,256⟩) B3' (by show some s.pt.val=_;rw [e1];rfl) ?_
 have F03:Fm w w3 [g]:=(F1.trans F2 (fun x hx => .inl hx)).trans F3 (fun x hx => .inl hx)
 have g9:9≤g:=by have:=H.ng;omega
 have o9:9≤ob:=by have:=H.no;omega
 have s9:∀v∈SB fb fs,9≤v:=fun v hv=>by have:=H.ge v hv;omega
 have dgo:g∉s.out.bs:=by rw [hob];simpa using H.d1
 have dgf:g∉SB fb fs:=fun h=>(H.ap g h).1 rfl
 have dof:∀v∈s.out.bs,v∉SB fb fs:=fun v hv h=>by rw [hob] at hv;simp at hv;exact (H.ap v h).2.1 hv
 have n9:∀v ∈ [g],9≤v:=by intro v hv;simp at hv;rw [hv];exact g9
 have hown:∀v∈g::(s.out.bs++SB fb fs),w0.heap.size≤v:=by
  intro v hv
  rcases List.mem_cons.mp hv with h|h
  ·rw [h];exact H.ng
  ·rcases List.mem_append.mp h with h|h
   ·rw [hob] at h;simp at h;rw [h];exact H.no
   ·exact H.ge v h
 refine c65 (M:=M) (L:=L) (ln:=ln) (pre := []) (tb:=pb) B3' rfl h2 hL256 rfl m1 hK.m11 hfse (SWf.mv F03 (fun v hv=>nm1 (fun e=>dgf (e▸hv)))) (hG.fm F03 n9) (hE.fm F03 (fun h=>by have:=n9 0 h;omega)) s9 g9
  (hO.fr F03 (fun v hv=>nm1 (fun e=>dgo (e▸hv)))) (fun v hv=>by rw [hob] at hv;simp at hv;omega) (by simp) (HQ'.fr F03 (nm1 H.d2.symm)) hQ hle dgo dgf dof H.d2 (by rw [hob];simpa using H.d4.symm) (fun h=>(H.ap pb h).2.2 rfl) ?_ ?_
 ·intro h129 w4 fs4 hw4 v hv hv0 B4 HO4 T4
  refine ⟨isPE.ifc hv.2,err_cnd (isPE.nil hv.2) ?_⟩
  refine st_u B4 rfl rfl ?_
  intro w5 B5 F5
  have B5':=B5.congr (HU.setT (s' := { s with atl:=((M:Nat):Int),symL:=((L:Nat):Int),hw:=hw4 }) 0 rfl rfl rfl (by decide))
  refine st_u B5' rfl rfl ?_
  intro w6 B6 F6
  have B6':=B6.congr (HU.setT (s' := { s with symL:=((L:Nat):Int),hw:=hw4 }) 12 rfl rfl rfl (by decide))
  refine st_u B6' rfl rfl ?_
  intro w7 B7 F7
  have F47:Fm w4 w7 [g]:=(F5.trans F6 (fun x hx => .inl hx)).trans F7 (fun x hx => .inl hx)
  have h0l:=World.block_lt_of_cell? _ _ hv0
  refine hk0 h129.2 w7 v (hv.fm F47 n9) ⟨g::(s.out.bs++SB fb fs),?_,hown⟩
  exact ((F03.mono (S':=g::(s.out.bs++SB fb fs)) (by intro v hv;left;simp at hv;simp [hv])).trans T4.fr (fun x hx => .inl hx)).trans F47 (by intro v hv;left;simp at hv;simp [hv])
 ·intro w4 fs4 hw4 o tbl _ hby hl129 hwt4 HO4 B4 T4
  refine ⟨rfl,nil_cnd ?_⟩
  have HO4:VecU w4 o tbl:=HO4
  have hol4:=HO4.len
  refine ld_b (t := .S) (x:=o) B4 rfl ?_
  refine app_vu (xs:=tbl) VecU.nil HO4.vec.arr.has (by simp only;omega) ?_
  intro s5 w5 V5 F5 n5
  have V5:VecU w5 s5 tbl:=V5
  have hgl:=B4.lt
  have B5:=B4.fr F5 (by simp [Sl.bs])
  have hs5:g∉s5.bs:=fun h=>by
   rcases n5 g h with h1|h1
   ·simp [Sl.bs] at h1
   ·omega
  refine st_u B5 rfl rfl ?_
  intro w6 B6 F6
  have B6':=B6.congr (HU.setT (s' := { s with atl:=((M:Nat):Int),symL:=((L:Nat):Int),hw:=hw4 }) 0 rfl rfl rfl (by decide))
  refine st_u B6' rfl rfl ?_
  intro w7 B7 F7
  have B7':=B7.congr (HU.setT (s' := { s with symL:=((L:Nat):Int),hw:=hw4 }) 12 rfl rfl rfl (by decide))
  refine st_u B7' rfl rfl ?_
  intro w8 B8 F8
  have F58:Fm w5 w8 [g]:=(F6.trans F7 (fun x hx => .inl hx)).trans F8 (fun x hx => .inl hx)
  refine hk1 w8 s5 tbl hby hl129 (hwt▸hwt4) (V5.fr F58 (fun v hv=>nm1 (fun e=>hs5 (e▸hv)))) ⟨g::(s.out.bs++SB fb fs),?_,hown⟩
  exact (((F03.mono (S':=g::(s.out.bs++SB fb fs)) (by intro v hv;left;simp at hv;simp [hv])).trans T4.fr (fun x hx => .inl hx)).trans F5 (by simp [Sl.bs])).trans F58 (by intro v hv;left;simp at hv;simp [hv])
end
theorem c16 {w:World} {x:Sl} {l ws:List Nat} {used M:Nat} {K:Sl×Bool→PT} (A:Arr .u8 w x l) (hl:By l) (hlen:l.length<2^20) (hG:GL w) (hE:errAt w 0) (h9:9≤w.heap.size) (hw:weightsZ l=some (ws,used)) (hK:WK ws M) (hwh:WhB l)
  (hk0:129<(fullZ ws).length→∀w',Fm w w' []→K (⟨none,0,0⟩,false) w')
  (hk1:∀w' y tbl,By tbl→tbl.length≤129→weightsZ tbl=some (ws,tbl.length)→VecU w' y tbl→Fm w w' []→K (y,true) w') :
  callP Tryd.prog 16 #[.slice x.a x.l x.c] [.c .S,.c .B] K w:=by
 apply q16_ok
 unfold q16
 refine c45 A hl hlen hw hK hwh ?_
 intro w1 g ob pb fb s fs y HR F1
 refine ⟨rfl,nil_cnd ?_⟩
 have un:∀ {w2:World},(∃S,Fm w1 w2 S∧∀v∈S,w.heap.size≤v)→Fm w w2 []:=by
  rintro w2 ⟨S,F,hS⟩
  exact F1.trans F (fun v hv => .inr (hS v hv))
 refine c46r HR hK (hG.fm F1 (by simp)) (hE.fm F1 (by simp)) h9 ?_ ?_
 ·intro h129 w2 v hv hF
  refine ⟨isPE.ifc hv.2,err_cnd (isPE.nil hv.2) ?_⟩
  exact hk0 h129 w2 (un hF)
 ·intro w2 o tbl hby h129 hwt hO hF
  refine ⟨rfl,nil_cnd ?_⟩
  refine c47 hO.vec.arr (by omega) ?_
  intro w3 y3 hy F3 _
  exact hk1 w3 y3 tbl hby h129 hwt hy ((un hF).trans F3 (by simp))
def s12 (ws:List Nat):Nat:=(ws.map fun w=>if 0<w∧w≤12 then 2^(w-1) else 0).sum
def leavesZ (ws:List Nat):Nat:=ws.count 1+if 0<s12 ws∧2^((s12 ws).log2+1)-s12 ws=1 then 1 else 0
theorem s12_take {ws:List Nat} {i:Nat} (h:i<ws.length):s12 (ws.take (i+1))=s12 (ws.take i)+if 0<ws[i]∧ws[i]≤12 then 2^(ws[i]-1) else 0:=sum_take h
theorem s12_le (ws:List Nat) (i:Nat):s12 (ws.take i)≤i*2048:=by
 refine sum_take_le _ ws 2048 i ?_
 intro c _
 split
 ·rename_i h
  exact Nat.le_trans (Nat.pow_le_pow_right (by omega) (show c-1≤11 by omega)) (by decide)
 ·omega
theorem s12_wsum {ws:List Nat} (h:∀w∈ws,w≤12):s12 ws=wsum ws:=by
 unfold s12 wsum
 congr 1
 apply List.map_congr_left
 intro w hw
 have:=h w hw
 unfold wOf
 by_cases e:w=0
 ·rw [if_neg (by omega),if_pos e]
 ·rw [if_pos ⟨by omega,this⟩,if_neg e]
theorem leaves_full {ws:List Nat} (h:∀w∈ws,w≤12) (hne:wsum ws≠0):leavesZ ws=(fullZ ws).count 1:=by
 unfold leavesZ fullZ
 rw [s12_wsum h,List.count_append,List.count_singleton]
 congr 1
 have e:2^((wsum ws).log2+1)-wsum ws=lastZ ws:=rfl
 rw [e]
 have hl:0<lastZ ws:=by
  have:=Nat.lt_log2_self (n:=wsum ws)
  unfold lastZ;omega
 by_cases h1:lastZ ws=1
 ·rw [if_pos ⟨by omega,h1⟩,h1,if_pos (by decide)]
 ·have:(lastZ ws).log2≠0:=by
   intro h0
   have:=Nat.lt_log2_self (n:=lastZ ws)
   rw [h0] at this
   omega
  rw [if_neg (fun h=>h1 h.2),if_neg (by simp;omega)]
theorem weightsZ_len {l ws:List Nat} {used:Nat} (hl:By l) (h:weightsZ l=some (ws,used)):ws.length≤255:=by
 unfold weightsZ at h
 split at h
 ·cases h
 ·rename_i n r
  have hn:n<256:=hl n (by simp)
  split at h
  ·split at h
   ·cases h
   ·injection h with h
    injection h with h1 h2
    rw [←h1]
    simp;omega
  ·split at h
   ·cases h
   ·split at h
    ·cases h
    ·split at h
     ·cases h
     ·split at h
      ·cases h
      ·split at h
       ·cases h
       ·rename_i htwo
        injection h with h
        injection h with h1 h2
        subst h1
        unfold twoStatesZ at htwo
        split at htwo
        ·cases htwo
        ·split at htwo
         ·exact (twoZ_len _ _ _ _ _ _ _ _ htwo).2
         ·cases htwo
theorem c22 {w:World} {s:Sl} {l:List Nat} {K:Bool→PT} (A:Arr .u8 w s l) (hl:By l) (hn:l.length<2^40)
  (h0:weightsZ l=none→∀w',Fm w w' []→K false w')
  (h1:∀ws used,weightsZ l=some (ws,used)→∀w',Fm w w' []→K (decide (1<leavesZ ws)) w') :
  callP Tryd.prog 22 #[.slice s.a s.l s.c] [.c .B] K w:=by
 apply q22_ok
 unfold q22
 refine c43 A hl hn ?_ ?_
 ·intro hz w1 s1 n1 F1
  exact ⟨fun _=>h0 hz w1 F1,fun h=>by simp at h⟩
 ·intro ws used hw w1 s1 F1 V1 hb1
  refine ⟨fun h=>by simp at h,fun _ => ?_⟩
  have hwl:ws.length≤255:=weightsZ_len hl hw
  have hsl:s1.l=ws.length:=by have:=V1.len;rw [nints_len] at this;omega
  refine joinP_id ?_
  refine ⟨fun v w'=>w'=w1∧∃i:Nat,v=((((ws.take i).count 1:Nat):Int),((s12 (ws.take i):Nat):Int),(i:Int))∧i≤ws.length,fun v _=>ws.length-v.2.2.toNat,⟨rfl,0,by simp [s12],by omega⟩,?_⟩
  rintro v w2 ⟨rfl,i,rfl,hi⟩
  unfold q22_L2
  simp only
  refine cnd_d (fun hc => ?_) fun hc => ?_
  ·have hi2:i<ws.length:=by omega
   refine joinP_id ?_
   refine V1.ldN i rfl hi2 fun p hp=>ld_c (t := .I .i64) hp ?_
   have hcl:(ws.take i).count 1≤i:=Nat.le_trans List.count_le_length (by rw [List.length_take];omega)
   have hsl2:=s12_le ws i
   have fin:∀a b,a=(((ws.take (i+1)).count 1:Nat):Int)→b=((s12 (ws.take (i+1)):Nat):Int)→q22_J1 ((((ws.take i).count 1:Nat):Int),((s12 (ws.take i):Nat):Int),((i:Nat):Int)) (fun v w'=>(w'=w2∧∃i:Nat,v=((((ws.take i).count 1:Nat):Int),((s12 (ws.take i):Nat):Int),(i:Int))∧i≤ws.length)∧ws.length-v.2.2.toNat<ws.length-((i:Nat):Int).toNat) (a,b) w2:=by
    rintro a b rfl rfl
    unfold q22_J1
    simp only
    rw [wI64 (by omega) (by omega)]
    refine ⟨⟨by trivial,i+1,rfl,hi2⟩,?_⟩
    show ws.length-(((i:Nat):Int)+1).toNat<ws.length-((i:Nat):Int).toNat
    omega
   have hct:=count_take (v:=1) hi2
   have hst:=s12_take hi2
   generalize ws[i]=y at *
   have j0:∀a,a=(((ws.take (i+1)).count 1:Nat):Int)→q22_J0 ((((ws.take i).count 1:Nat):Int),((s12 (ws.take i):Nat):Int),((i:Nat):Int)) (q22_J1 ((((ws.take i).count 1:Nat):Int),((s12 (ws.take i):Nat):Int),((i:Nat):Int)) (fun v w'=>(w'=w2∧∃i:Nat,v=((((ws.take i).count 1:Nat):Int),((s12 (ws.take i):Nat):Int),(i:Int))∧i≤ws.length)∧ws.length-v.2.2.toNat<ws.length-((i:Nat):Int).toNat)) ((y:Nat):Int) a w2:=by
    intro a ha
    unfold q22_J0
    simp only
    refine cnd_d (fun y0 => ?_) fun y0 => ?_
    ·refine cnd_d (fun y12 => ?_) fun y12 => ?_
     ·have e1:IntKind.i64.wrap (((y:Nat):Int)-1)=((y-1:Nat):Int):=by rw [wI64 (by omega) (by omega)];omega
      have hp:2^(y-1)≤2^11:=Nat.pow_le_pow_right (by omega) (by omega)
      have e2:shlI .i64 1 ((y-1:Nat):Int)=((2^(y-1):Nat):Int):=by
       have:=shlI_nat .i64 1 (y-1) (by simp only [IntKind.bits];omega) (by simp only [IntKind.bits];omega)
       rw [Nat.one_mul] at this
       exact this
      rw [e1,e2]
      refine ⟨by omega,fin a _ ha ?_⟩
      rw [if_pos ⟨by omega,by omega⟩] at hst
      rw [wI64 (by omega) (by omega)]
      omega
     ·rw [if_neg (by omega)] at hst
      exact fin a _ ha (by omega)
    ·rw [if_neg (by omega)] at hst
     exact fin a _ ha (by omega)
   refine joinP_id (cnd_d (fun hy => ?_) fun hy => ?_)
   ·rw [if_pos (by omega)] at hct
    exact j0 _ (by rw [wI64 (by omega) (by omega)];omega)
   ·rw [if_neg (by omega)] at hct
    exact j0 _ (by omega)
  ·have:i=ws.length:=by omega
   subst this
   rw [List.take_length]
   have hsl2:=s12_le ws ws.length
   rw [List.take_length] at hsl2
   have hcl:ws.count 1≤ws.length:=List.count_le_length
   unfold q22_J4
   simp only
   refine joinP_id ?_
   have hk:=h1 ws used hw w2 F1
   unfold leavesZ at hk
   generalize s12 ws=S at *
   have done:∀a:Nat,decide (1<ws.count 1+if 0<S∧2^(S.log2+1)-S=1 then 1 else 0)=decide ((1:Int)<((a:Nat):Int))→q22_J3 K ((a:Nat):Int) w2:=by
    intro a ha
    unfold q22_J3
    rw [←ha];exact hk
   refine cnd_d (fun hS => ?_) fun hS => ?_
   ·refine c44 (by omega) (by omega) ?_
    have hlo:=Nat.log2_self_le (n:=S) (by omega)
    have hhi:=Nat.lt_log2_self (n:=S)
    have hlg:S.log2<22:=(Nat.log2_lt (by omega)).mpr (by omega)
    have hp:2^(S.log2+1)≤2^22:=Nat.pow_le_pow_right (by omega) (by omega)
    have e1:IntKind.i64.wrap (((S.log2:Nat):Int)+1)=((S.log2+1:Nat):Int):=by rw [wI64 (by omega) (by omega)];omega
    have e2:shlI .i64 1 ((S.log2+1:Nat):Int)=((2^(S.log2+1):Nat):Int):=by
     have:=shlI_nat .i64 1 (S.log2+1) (by simp only [IntKind.bits];omega) (by simp only [IntKind.bits];omega)
     rw [Nat.one_mul] at this
     exact this
    rw [e1,e2,wI64 (by omega) (by omega)]
    refine ⟨by omega,cnd_d (fun h => ?_) fun h => ?_⟩
    ·rw [wI64 (by omega) (by omega)]
     have:=done (ws.count 1+1) (by rw [if_pos ⟨by omega,by omega⟩];simp only [decide_eq_decide];omega)
     rw [show (((ws.count 1:Nat):Int)+1)=((ws.count 1+1:Nat):Int) by omega]
     exact this
    ·exact done (ws.count 1) (by rw [if_neg (by omega)];simp only [decide_eq_decide];omega)
   ·exact done (ws.count 1) (by rw [if_neg (by omega)];simp only [decide_eq_decide];omega)
theorem c17 {w:World} {b1 b2 n c1 c2:Nat} {f:Nat→Int} {K:Bool→PT} (B1:Blk w b1 (arrC .i64 n f)) (B2:Blk w b2 (arrC .i64 n f)) (hn:n<2^20) (hk:∀w',Fm w w' []→K true w') :
  callP Tryd.prog 17 #[.slice (some ⟨b1,0,none⟩) n c1,.slice (some ⟨b2,0,none⟩) n c2] [.c .B] K w:=by
 refine q17_ok ⟨some ⟨b1,0,none⟩,n,c1⟩ ⟨some ⟨b2,0,none⟩,n,c2⟩ K ?_
 unfold q17
 refine cnd_nd (fun h=>absurd rfl h) fun _ => ?_
 refine joinP_id ?_
 refine ⟨fun v w'=>Fm w w' []∧∃i:Nat,v=(i:Int)∧i≤n,fun v _=>n-v.toNat,⟨Fm.refl _ _,0,rfl,Nat.zero_le _⟩,?_⟩
 rintro v w1 ⟨F1,i,rfl,hi⟩
 unfold q17_L0
 refine cnd_d (fun hc => ?_) fun hc => ?_
 ·have hi2:i<n:=by simp only at hc;omega
  unfold drw
  have F2:=F1.drew
  refine ixS_o rfl hi2 ?_
  rw [Nat.zero_add]
  refine ld_b (t := .I .i64) (x:=f i) (B1.fr F2 (by simp)) (arrC_get hi2) ?_
  refine ixS_o rfl hi2 ?_
  rw [Nat.zero_add]
  refine ld_b (t := .I .i64) (x:=f i) (B2.fr F2 (by simp)) (arrC_get hi2) ?_
  refine cnd_nd (fun h=>absurd rfl h) fun _ => ?_
  rw [wI64 (by omega) (by omega)]
  refine ⟨⟨F2,i+1,by simp,hi2⟩,?_⟩
  show n-(((i:Nat):Int)+1).toNat<n-((i:Nat):Int).toNat
  omega
 ·exact hk w1 F1
theorem hlZ_ws {l:List Nat} {f:Nat→Int} {used:Nat} {ws:List Nat} {u:Nat} (hw:weightsZ l=some (ws,u)) (h:hlZ l=some (f,used)) (hlv:1<leavesZ ws) :
  WK ws ((wsum ws).log2+1)∧f=lenF ((wsum ws).log2+1) (fullZ ws)∧∀tbl n,weightsZ tbl=some (ws,n)→hlZ tbl=some (f,n):=by
 unfold hlZ at h
 rw [hw] at h
 simp only at h
 split at h
 ·rename_i hc
  injection h with h
  injection h with h1 h2
  obtain ⟨c1,c2,c3,c4,c5,c6⟩:=hc
  refine ⟨⟨c3,rfl,c4,c5,c1,?_⟩,h1.symm,?_⟩
  ·rw [←leaves_full c2 c3];exact hlv
  ·intro tbl n ht
   unfold hlZ
   rw [ht]
   simp only
   rw [if_pos ⟨c1,c2,c3,c4,c5,c6⟩,h1]
 ·cases h
def cl3 (tab:List Cell3) (p:Nat):Cell3:=tab.getD p (0,0,0)
theorem cl3_get {tab:List Cell3} {p:Nat} (h:p<tab.length):tab[p]? = some (cl3 tab p):=by
 unfold cl3;rw [List.getD_eq_getElem?_getD,List.getElem?_eq_getElem h];rfl
theorem cl3_at {tab:List Cell3} {p:Nat} (h:p<tab.length):tab[p]=cl3 tab p:=by
 have:=cl3_get h;rw [List.getElem?_eq_getElem h] at this;exact Option.some.inj this
theorem bN_lt:∀ {l:List Nat},(∀b∈l,b<2)→bN l<2^l.length
 | [],_=>by simp [bN]
 | b::r,h=>by
  have h1:=h b (by simp)
  have h2:=bN_lt (l:=r) (fun x hx=>h x (by simp [hx]))
  rw [bN,List.length_cons,Nat.pow_succ]
  have:b*2^r.length≤1*2^r.length:=Nat.mul_le_mul_right _ (by omega)
  omega
def stepB (tab:List Cell3) (f:Nat→Nat) (i:Nat):List Nat:=codeB (((f (i+2):Nat):Int)-(cl3 tab (f i)).2.2).toNat (cl3 tab (f i)).2.1
def txB (tab:List Cell3) (f:Nat→Nat) (i k:Nat):List Nat:=(List.range' i k).flatMap (stepB tab f)
theorem txB_succ (tab:List Cell3) (f:Nat→Nat) (i k:Nat):txB tab f i (k+1)=stepB tab f i++txB tab f (i+1) k:=by
 unfold txB;rw [List.range'_succ,List.flatMap_cons]
theorem txB_snoc (tab:List Cell3) (f:Nat→Nat) (i k:Nat):txB tab f i (k+1)=txB tab f i k++stepB tab f (i+k):=by
 unfold txB;rw [List.range'_1_concat,List.flatMap_append];simp
theorem txB_bit (tab:List Cell3) (f:Nat→Nat) (i k:Nat):∀b∈txB tab f i k,b<2:=by
 intro b hb
 unfold txB at hb
 obtain ⟨j,_,h⟩:=List.mem_flatMap.mp hb
 exact codeB_bit b h
structure TXs (tab:List Cell3) (ws:List Nat) (f:Nat→Nat):Prop where
 lt:∀i,i<ws.length→f i<tab.length
 sy:∀i (h:i<ws.length),(cl3 tab (f i)).1=ws[i]
 rg:∀i,i+2<ws.length→(cl3 tab (f i)).2.2≤((f (i+2):Nat):Int)∧((f (i+2):Nat):Int)<(cl3 tab (f i)).2.2+((2^(cl3 tab (f i)).2.1:Nat):Int)
theorem TXs.dec {l:List Nat} {tab:List Cell3} {ws:List Nat} {f:Nat→Nat} {lim:Nat} (H:TXs tab ws f) (hp:∀p,p<tab.length→0<(cl3 tab p).2.1) (hw:By ws):∀(k i:Nat) (out:List Nat),i+k+2=ws.length→out.length+(k+2)≤lim→leN l%2^(txB tab f i k).length=bN (txB tab f i k) →
  twoZ l tab lim (((txB tab f i k).length:Nat):Int) (f i) (f (i+1)) out=some (out++ws.drop i)∧WhZ l tab (txB tab f i k).length (f i) (f (i+1))
 | 0,i,out,hi,hl,hv=>by
  have ha:=H.lt i (by omega)
  have hb:=H.lt (i+1) (by omega)
  have e:txB tab f i 0 = []:=rfl
  rw [e]
  have h1:=hp _ ha
  refine ⟨?_,WhZ.fin _ _ ha hb (by rw [cl3_at ha];exact h1)⟩
  rw [twoZ,dif_neg (by omega),cl3_get ha]
  simp only [List.length_nil]
  rw [if_pos (by omega),cl3_get hb]
  simp only
  rw [if_neg (by omega),H.sy i (by omega),H.sy (i+1) (by omega),Nat.mod_eq_of_lt (hw _ (List.getElem_mem _)),Nat.mod_eq_of_lt (hw _ (List.getElem_mem _)),List.drop_eq_getElem_cons (by omega:i<ws.length),List.drop_eq_getElem_cons (by omega:i+1<ws.length),List.drop_eq_nil_of_le (by omega)]
  simp
 | k+1,i,out,hi,hl,hv=>by
  have ha:=H.lt i (by omega)
  have hb:=H.lt (i+1) (by omega)
  have hc:=H.lt (i+2) (by omega)
  obtain ⟨r1,r2⟩:=H.rg i (by omega)
  have h1:=hp _ ha
  have hsl:(stepB tab f i).length=(cl3 tab (f i)).2.1:=codeB_len _ _
  rw [txB_succ] at hv ⊢
  have hlt:=bN_lt (txB_bit tab f (i+1) k)
  have hls:bN (stepB tab f i)<2^(cl3 tab (f i)).2.1:=by rw [←hsl];exact bN_lt (fun b hb=>codeB_bit b hb)
  rw [List.length_append,hsl,bN_app] at hv
  obtain ⟨v1,v2⟩:=mod_split (N:=leN l) hlt hls (by rw [Nat.add_comm (txB tab f (i+1) k).length,hv,Nat.add_comm])
  obtain ⟨ih1,ih2⟩:=TXs.dec (l:=l) (lim:=lim) H hp hw k (i+1) (out ++ [ws[i]]) (by omega) (by simp;omega) v1
  have hval:bN (stepB tab f i)=(((f (i+2):Nat):Int)-(cl3 tab (f i)).2.2).toNat:=codeB_val (by omega)
  have htk:tkB l (cl3 tab (f i)).2.1 (((cl3 tab (f i)).2.1+(txB tab f (i+1) k).length:Nat):Int)=(((f (i+2):Nat):Int)-(cl3 tab (f i)).2.2).toNat:=by
   rw [tkB_val l _ _ (by omega),Nat.add_sub_cancel_left,v2,hval]
  have hnx:(cl3 tab (f i)).2.2+((tkB l (cl3 tab (f i)).2.1 (((cl3 tab (f i)).2.1+(txB tab f (i+1) k).length:Nat):Int):Nat):Int)=((f (i+2):Nat):Int):=by rw [htk];omega
  rw [List.length_append,hsl]
  refine ⟨?_,?_⟩
  ·rw [twoZ,dif_neg (by omega),cl3_get ha]
   simp only
   rw [if_neg (by omega),hnx,if_neg (by omega),Int.toNat_natCast,H.sy i (by omega),Nat.mod_eq_of_lt (hw _ (List.getElem_mem _)),show (((cl3 tab (f i)).2.1+(txB tab f (i+1) k).length:Nat):Int)-(((cl3 tab (f i)).2.1:Nat):Int)=(((txB tab f (i+1) k).length:Nat):Int) by omega,ih1,List.drop_eq_getElem_cons (by omega:i<ws.length)]
   simp
  ·refine WhZ.step _ _ _ (f (i+2)) ha hb ?_ ?_ ?_ hc ?_
   ·rw [cl3_at ha];exact h1
   ·rw [cl3_at ha];omega
   ·rw [cl3_at ha];exact hnx
   ·rw [cl3_at ha,Nat.add_sub_cancel_left];exact ih2
def allB (tab:List Cell3) (f:Nat→Nat) (n:Nat):List Nat:=codeB (f 0) 6++(codeB (f 1) 6++txB tab f 0 (n-2))
theorem allB_bit (tab:List Cell3) (f:Nat→Nat) (n:Nat):∀b∈allB tab f n,b<2:=by
 intro b hb
 unfold allB at hb
 rcases List.mem_append.mp hb with h|h
 ·exact codeB_bit b h
 ·rcases List.mem_append.mp h with h|h
  ·exact codeB_bit b h
  ·exact txB_bit _ _ _ _ b h
def bodyB (bl:List Nat):List Nat:=leB (bN bl+2^bl.length) (bl.length/8+1)
theorem bodyB_val {bl:List Nat} (hb:∀b∈bl,b<2):leN (bodyB bl)=bN bl+2^bl.length∧backZ (bodyB bl)=some bl.length:=by
 have h1:=bN_lt hb
 have h2:2^(bl.length+1)≤256^(bl.length/8+1):=by
  rw [show (256:Nat)=2^8 from rfl, ←Nat.pow_mul]
  exact Nat.pow_le_pow_right (by omega) (by omega)
 have h3:leN (bodyB bl)=bN bl+2^bl.length:=by
  unfold bodyB
  rw [leB_val,Nat.mod_eq_of_lt]
  rw [Nat.pow_succ] at h2
  omega
 refine ⟨h3,back_of (leB_by _ _) (leB_len _ _) (by rw [h3];omega) (by rw [h3,Nat.pow_succ];omega)⟩
theorem TXs.two {tab:List Cell3} {ws:List Nat} {f:Nat→Nat} {lim:Nat} (H:TXs tab ws f) (ht:tab.length=64) (hp:∀p,p<tab.length→0<(cl3 tab p).2.1) (hw:By ws) (h2:2≤ws.length) (hl:ws.length≤lim) :
  twoStatesZ (bodyB (allB tab f ws.length)) tab 6 lim=some ws∧∃left,backZ (bodyB (allB tab f ws.length))=some left∧2*6≤left∧WhZ (bodyB (allB tab f ws.length)) tab (left-6-6) (tkB (bodyB (allB tab f ws.length)) 6 left) (tkB (bodyB (allB tab f ws.length)) 6 ((left:Int)-(6:Nat))):=by
 obtain ⟨b1,b2⟩:=bodyB_val (allB_bit tab f ws.length)
 have h0:=H.lt 0 (by omega)
 have h1:=H.lt 1 (by omega)
 rw [ht] at h0 h1
 have hlen:(allB tab f ws.length).length=(txB tab f 0 (ws.length-2)).length+6+6:=by
  unfold allB;rw [List.length_append,List.length_append,codeB_len,codeB_len];omega
 have hbn:bN (allB tab f ws.length)=bN (txB tab f 0 (ws.length-2))+(f 1)*2^(txB tab f 0 (ws.length-2)).length+(f 0)*2^((txB tab f 0 (ws.length-2)).length+6):=by
  unfold allB
  rw [bN_app,bN_app,codeB_val (by omega:f 0<2^6),codeB_val (by omega:f 1<2^6),List.length_append,codeB_len,Nat.add_comm 6]
  omega
 have hx:=bN_lt (txB_bit tab f 0 (ws.length-2))
 generalize hbl:bodyB (allB tab f ws.length)=l at *
 have hm:leN l%2^((txB tab f 0 (ws.length-2)).length+6+6)=(bN (txB tab f 0 (ws.length-2))+(f 1)*2^(txB tab f 0 (ws.length-2)).length)+(f 0)*2^((txB tab f 0 (ws.length-2)).length+6):=by
  rw [b1, ←hlen,Nat.add_mod_right,Nat.mod_eq_of_lt (bN_lt (allB_bit _ _ _)),hbn]
 obtain ⟨m1,m2⟩:=mod_split (put_lt hx (by omega:f 1<2^6)) (by omega:f 0<2^6) hm
 obtain ⟨m3,m4⟩:=mod_split hx (by omega:f 1<2^6) m1
 obtain ⟨d1,d2⟩:=TXs.dec (l:=l) (lim:=lim) H hp hw (ws.length-2) 0 [] (by omega) (by simp;omega) m3
 have t1:tkB l 6 (((allB tab f ws.length).length:Nat):Int)=f 0:=by rw [tkB_val l _ _ (by omega),hlen,Nat.add_sub_cancel,m2]
 have t2:tkB l 6 ((((allB tab f ws.length).length:Nat):Int)-(6:Nat))=f 1:=by
  rw [show (((allB tab f ws.length).length:Nat):Int)-(6:Nat)=(((txB tab f 0 (ws.length-2)).length+6:Nat):Int) by omega,tkB_val l _ _ (by omega),Nat.add_sub_cancel,m4]
 refine ⟨?_,_,b2,by omega,?_⟩
 ·unfold twoStatesZ
  rw [b2]
  simp only
  rw [if_pos (by omega),t1,t2,show (((allB tab f ws.length).length:Nat):Int)-(6:Nat)-(6:Nat)=(((txB tab f 0 (ws.length-2)).length:Nat):Int) by omega,d1]
  simp
 ·rw [t1,t2,hlen,Nat.add_sub_cancel,Nat.add_sub_cancel]
  exact d2
theorem statesZ_len {cs:List Int} {t:Nat} {tab:List Cell3} (h:statesZ cs t=some tab):tab.length=2^t:=by
 unfold statesZ at h
 split at h
 ·split at h
  ·cases h
  ·split at h
   ·injection h with h;rw [←h];simp
   ·cases h
 ·cases h
theorem calm_bits {ns:List Int} {tab:List Cell3} (h:statesZ ns 6=some tab) (h0:∀c∈ns,0≤c∧2*c<64):∀p,p<tab.length→0<(cl3 tab p).2.1:=by
 intro p hp
 have hl:=statesZ_len h
 unfold statesZ at h
 split at h
 ·rename_i hs
  split at h
  ·cases h
  ·rename_i f a hf
   split at h
   ·rename_i hge
    injection h with h
    have hp6:p<2^6:=by omega
    have e:cl3 tab p=cellZ ns 6 f p:=by
     have h1:=cl3_get hp
     rw [←h,List.getElem?_map,List.getElem?_range hp6] at h1
     rw [←h]
     exact (Option.some.inj h1).symm
    rw [e]
    show 0<6-(kZ ns f p).log2
    have hfp:=hge p hp6
    obtain ⟨s,hsz⟩:∃s:Nat,f p=(s:Int):=⟨(f p).toNat,by omega⟩
    have hcnt:=spread_count (sz:=64) (.inr rfl) (fun c hc=>by have:=(h0 c hc).1;omega) hs hf s
    have hlt:cntZ f s p<cntZ f s 64:=by
     have h1:cntZ f s (p+1)=cntZ f s p+1:=by rw [cntZ,if_pos hsz]
     have h2:=cntZ_mono f s (show p+1≤64 by omega)
     omega
    have hab:2*absZ (ns.getD s 0)<64:=by
     by_cases hin:s<ns.length
     ·rw [getD_Z hin]
      have:=h0 _ (List.getElem_mem hin)
      unfold absZ
      split<;>omega
     ·rw [List.getD_eq_getElem?_getD,List.getElem?_eq_none (by omega)]
      decide
    have hk:kZ ns f p<64:=by
     unfold kZ
     rw [hsz,Int.toNat_natCast]
     omega
    have:(kZ ns f p).log2<6:=by
     by_cases hz:kZ ns f p=0
     ·rw [hz];decide
     ·exact (Nat.log2_lt hz).mpr hk
    omega
   ·cases h
 ·cases h
theorem lowZ_z (m:Nat):∀(i e:Nat) (f:Nat→Int),lowZ (List.replicate m 0) i e f=(f,e):=by
 induction m with
 | zero=>intro i e f;rfl
 | succ m ih=>intro i e f;rw [List.replicate_succ,lowZ,if_neg (by intro h;exact absurd h.1 (by decide)),ih]
theorem lowZ_app (m:Nat):∀(a:List Int) (i e:Nat) (f:Nat→Int),lowZ (a++List.replicate m 0) i e f=lowZ a i e f
 | [],i,e,f=>by rw [List.nil_append,lowZ_z];rfl
 | c::r,i,e,f=>by
  rw [List.cons_append,lowZ,lowZ]
  split<;>exact lowZ_app m r _ _ _
theorem symsZ_z (m:Nat):∀i,symsZ (List.replicate m 0) i = []:=by
 induction m with
 | zero=>intro i;rfl
 | succ m ih=>intro i;rw [List.replicate_succ,symsZ,ih];rfl
theorem symsZ_app (m:Nat):∀(a:List Int) (i:Nat),symsZ (a++List.replicate m 0) i=symsZ a i
 | [],i=>by rw [List.nil_append,symsZ_z];rfl
 | c::r,i=>by rw [List.cons_append,symsZ,symsZ,symsZ_app m r]
theorem spreadZ_app (a:List Int) (m sz:Nat) (f:Nat→Int):spreadZ (a++List.replicate m 0) sz f=spreadZ a sz f:=by
 unfold spreadZ;rw [lowZ_app,symsZ_app]
theorem sumZ_app (a:List Int) (m:Nat):sumZ (a++List.replicate m 0)=sumZ a:=by
 unfold sumZ
 have z:∀k,(List.replicate k 0).sum=0:=by
  intro k
  induction k with
  | zero=>rfl
  | succ k ih=>rw [List.replicate_succ,List.sum_cons,ih]
 rw [List.map_append,List.sum_append,List.map_replicate,show absZ 0=0 from rfl,z]
 rfl
theorem getD_app0 (a:List Int) (m i:Nat):(a++List.replicate m (0:Int)).getD i 0=a.getD i 0:=by
 rw [List.getD_eq_getElem?_getD,List.getD_eq_getElem?_getD]
 by_cases h:i<a.length
 ·rw [List.getElem?_append_left h]
 ·rw [List.getElem?_append_right (by omega),List.getElem?_eq_none (l:=a) (by omega),List.getElem?_replicate]
  split<;>rfl
theorem statesZ_app (a:List Int) (m t:Nat):statesZ (a++List.replicate m 0) t=statesZ a t:=by
 have e:∀f,cellZ (a++List.replicate m 0) t f=cellZ a t f:=by
  intro f;funext i
  unfold cellZ kZ
  rw [getD_app0]
 unfold statesZ
 rw [sumZ_app,spreadZ_app]
 simp only [e]
def lowB (v n:Nat):List Nat:=(List.range n).map fun i=>v/2^i%2
theorem lowB_len (v n:Nat):(lowB v n).length=n:=by simp [lowB]
theorem lowB_bit {v n:Nat} : ∀b∈lowB v n,b<2:=by
 intro b hb
 unfold lowB at hb
 obtain ⟨i,_,rfl⟩:=List.mem_map.mp hb
 omega
def lN:List Nat→Nat
 | []=>0
 | b::r=>b+2*lN r
theorem lN_app:∀(a b:List Nat),lN (a++b)=lN a+lN b*2^a.length
 | [],b=>by simp [lN]
 | x::r,b=>by
  rw [List.cons_append,lN,lN,lN_app r b,List.length_cons,Nat.pow_succ,Nat.mul_add, ←Nat.mul_assoc,Nat.mul_comm 2 (lN b),Nat.mul_assoc,Nat.mul_comm 2 (2^r.length)]
  omega
theorem lowB_succ (v n:Nat):lowB v (n+1)=lowB v n ++ [v/2^n%2]:=by
 unfold lowB;rw [List.range_succ,List.map_append];rfl
theorem lowB_mod (v:Nat):∀n,lN (lowB v n)=v%2^n
 | 0=>by simp [lowB,lN,Nat.mod_one]
 | n+1=>by
  rw [lowB_succ,lN_app,lowB_mod v n,lowB_len,Nat.pow_succ,Nat.mod_mul]
  show v%2^n+(v/2^n%2+2*0)*2^n=_
  rw [Nat.mul_zero,Nat.add_zero,Nat.mul_comm (v/2^n%2)]
theorem lowB_val {v n:Nat} (h:v<2^n):lN (lowB v n)=v:=by rw [lowB_mod,Nat.mod_eq_of_lt h]
theorem lN_lt:∀ {l:List Nat},(∀b∈l,b<2)→lN l<2^l.length
 | [],_=>by simp [lN]
 | b::r,h=>by
  have h1:=h b (by simp)
  have h2:=lN_lt (l:=r) (fun x hx=>h x (by simp [hx]))
  rw [lN,List.length_cons,Nat.pow_succ]
  omega
theorem bit_and {v i:Nat} (hv:v<2^60):andI .i64 (shrI .i64 ((v:Nat):Int) ((i:Nat):Int)) 1=((v/2^i%2:Nat):Int):=by
 rw [shrI_nat _ _ _ (by simp only [IntKind.bits];omega)]
 have h1:=andI_i64 (v/2^i) 1 (by have:=Nat.div_le_self v (2^i);omega) (by decide)
 rw [show (1:Int)=((1:Nat):Int) from rfl,h1,Nat.and_one_is_mod]
section
variable {w:World}
theorem c146 {s0:Sl} {bl:List Nat} {v n:Nat} {K:Sl→PT} (V:Vec 1 w s0 (nints bl)) (hl:bl.length+n≤2^30) (hv:v<2^60) (hn:n≤60)
  (hk:∀w' s',Vec 1 w' s' (nints (bl++lowB v n))→Fm w w' s0.bs→(∀x∈s'.bs,x∈s0.bs∨w.heap.size≤x)→K s' w') :
  callP Tryd.prog 146 #[.slice s0.a s0.l s0.c,.int .i64 (v:Nat),.int .i64 (n:Nat)] [.c .S] K w:=by
 apply q146_ok
 unfold q146
 refine joinP_id ?_
 refine ⟨fun x w'=>∃i:Nat,i≤n∧x.2=(i:Int)∧Vec 1 w' x.1 (nints (bl++(lowB v n).take i))∧Fm w w' s0.bs∧(∀y∈x.1.bs,y∈s0.bs∨w.heap.size≤y),fun x _=>n-x.2.toNat,⟨0,Nat.zero_le _,rfl,by simpa using V,Fm.refl _ _,fun y hy => .inl hy⟩,?_⟩
 rintro ⟨xs,xi⟩ w1 ⟨i,hi,hxi,V1,F1,n1⟩
 simp only at hxi V1 n1
 subst hxi
 unfold q146_L0
 simp only
 refine cnd_d (fun hc => ?_) fun hc => ?_
 ·have hi2:i<n:=by omega
  refine ⟨by omega,?_⟩
  rw [bit_and hv]
  have hxl:=V1.len
  rw [nints_len,List.length_append,List.length_take,lowB_len,Nat.min_eq_left hi,Nat.mul_one] at hxl
  refine app_1 V1 rfl (by omega) ?_
  intro s2 w2 V2 F2 n2
  rw [wI64 (by omega) (by omega)]
  have hs1:=F1.size
  refine ⟨⟨i+1,hi2,by first|rfl|simp,?_,F1.trans F2 n1,?_⟩,?_⟩
  ·rw [List.take_succ_eq_append_getElem (by rw [lowB_len];exact hi2), ←List.append_assoc,nints_app]
   have e:(lowB v n)[i]'(by rw [lowB_len];exact hi2)=v/2^i%2:=by simp [lowB]
   rw [e]
   exact V2
  ·intro y hy
   rcases n2 y hy with h|h
   ·exact n1 y h
   ·right;omega
  ·show n-(((i:Nat):Int)+1).toNat<n-((i:Nat):Int).toNat
   omega
 ·have:i=n:=by omega
  subst this
  rw [List.take_of_length_le (by rw [lowB_len];exact Nat.le_refl _)] at V1
  unfold q146_J1
  exact hk w1 xs V1 F1 n1
theorem c116 {s0:Sl} {bl:List Nat} {v n:Nat} {K:Sl→PT} (V:Vec 1 w s0 (nints bl)) (hl:bl.length+n≤2^30) (hv:v<2^60) (hn:n≤60)
  (hk:∀w' s',Vec 1 w' s' (nints (bl++codeB v n))→Fm w w' s0.bs→(∀x∈s'.bs,x∈s0.bs∨w.heap.size≤x)→K s' w') :
  callP Tryd.prog 116 #[.slice s0.a s0.l s0.c,.int .i64 (v:Nat),.int .i64 (n:Nat)] [.c .S] K w:=by
 apply q116_ok
 unfold q116
 refine joinP_id ?_
 rw [wI64 (by omega) (by omega)]
 refine ⟨fun x w'=>∃i:Nat,i≤n∧x.2=((n:Nat):Int)-1-(i:Int)∧Vec 1 w' x.1 (nints (bl++(codeB v n).take i))∧Fm w w' s0.bs∧(∀y∈x.1.bs,y∈s0.bs∨w.heap.size≤y),fun x _=>(x.2+1).toNat,⟨0,Nat.zero_le _,by simp,by simpa using V,Fm.refl _ _,fun y hy => .inl hy⟩,?_⟩
 rintro ⟨xs,xi⟩ w1 ⟨i,hi,hxi,V1,F1,n1⟩
 simp only at hxi V1 n1
 subst hxi
 unfold q116_L0
 simp only
 refine cnd_d (fun hc => ?_) fun hc => ?_
 ·have hi2:i<n:=by omega
  refine ⟨by omega,?_⟩
  rw [show ((n:Nat):Int)-1-(i:Int)=((n-1-i:Nat):Int) by omega,bit_and hv]
  have hxl:=V1.len
  rw [nints_len,List.length_append,List.length_take,codeB_len,Nat.min_eq_left hi,Nat.mul_one] at hxl
  refine app_1 V1 rfl (by omega) ?_
  intro s2 w2 V2 F2 n2
  rw [wI64 (by omega) (by omega)]
  have hs1:=F1.size
  refine ⟨⟨i+1,hi2,by show ((n-1-i:Nat):Int)-1=_;omega,?_,F1.trans F2 n1,?_⟩,?_⟩
  ·rw [List.take_succ_eq_append_getElem (by rw [codeB_len];exact hi2), ←List.append_assoc,nints_app]
   have e:(codeB v n)[i]'(by rw [codeB_len];exact hi2)=v/2^(n-1-i)%2:=by simp [codeB]
   rw [e]
   exact V2
  ·intro y hy
   rcases n2 y hy with h|h
   ·exact n1 y h
   ·right;omega
  ·show (((n-1-i:Nat):Int)-1+1).toNat<(((n-1-i:Nat):Int)+1).toNat
   omega
 ·have:i=n:=by omega
  subst this
  rw [List.take_of_length_le (by rw [codeB_len];exact Nat.le_refl _)] at V1
  unfold q116_J1
  exact hk w1 xs V1 F1 n1
theorem vec_arr {b n:Nat} {f:Nat→Int} (B:Blk w b (arrC .i64 n f)):Vec 1 w ⟨some ⟨b,0,none⟩,n,n⟩ (ints ((List.range n).map f)):=by
 refine ⟨by simp [ints],Nat.le_refl _,(fun h=>by cases h),?_⟩
 intro a ha
 injection ha with ha
 subst ha
 refine ⟨rfl,rfl,_,B,?_,fun i hi=>by rw [arrC_get (by simpa using hi)];rfl⟩
 intro i hi
 rw [ints_len,List.length_map,List.length_range] at hi
 rw [arrC_get hi]
 unfold ints
 rw [List.getElem?_map,List.getElem?_map,List.getElem?_range hi];rfl
theorem c145 {s0:Sl} {cs:List Nat} {K:Bool→PT} (V:Vec 1 w s0 (nints cs)) (hn:cs.length≤256) (hc:∀c∈cs,c≤2^20) (hk0:K false w) (hk1:cs.sum=64→K true w) :
  callP Tryd.prog 145 #[.slice s0.a s0.l s0.c,.int .i64 6] [.c .B] K w:=by
 have hsl:=V.len
 rw [nints_len,Nat.mul_one] at hsl
 apply q145_ok
 unfold q145
 refine cnd_d (fun h=>absurd h (by decide)) fun _=>cnd_d (fun h=>absurd h (by decide)) fun _=>cnd_d (fun _=>hk0) fun _ => ?_
 refine joinP_id ?_
 have hbnd:∀i,(cs.take i).sum≤i*2^20:=by
  intro i
  have h:=sum_take_le id cs (2^20) i hc
  rwa [List.map_id] at h
 refine ⟨fun x w'=>w'=w∧∃i so:Nat,x=((((cs.take i).sum:Nat):Int),(so:Int),(i:Int))∧i≤cs.length∧so≤i,fun x _=>cs.length-x.2.2.toNat,⟨rfl,0,0,rfl,Nat.zero_le _,Nat.le_refl _⟩,?_⟩
 rintro x w1 ⟨rfl,i,so,rfl,hi,hso⟩
 unfold q145_L1
 simp only
 have hb1:=hbnd i
 refine cnd_d (fun hcc => ?_) fun hcc => ?_
 ·have hi2:i<cs.length:=by omega
  have hci:=hc _ (List.getElem_mem hi2)
  refine V.ldN i rfl hi2 ?_
  intro q hq
  refine ld_c (t := .I .i64) (x:=((cs[i]:Nat):Int)) hq ?_
  refine cnd_d (fun h=>absurd h (by omega)) fun _=>cnd_d (fun _=>hk0) fun _ => ?_
  refine joinP_id ?_
  have em:maxI ((cs[i]:Nat):Int) (IntKind.i64.wrap (0-((cs[i]:Nat):Int)))=((cs[i]:Nat):Int):=maxI_le (by rw [wI64 (by omega) (by omega)];omega)
  have es:(cs.take (i+1)).sum=(cs.take i).sum+cs[i]:=by rw [List.take_succ_eq_append_getElem hi2,List.sum_append];simp
  unfold q145_J0
  simp only
  rw [em]
  refine cnd_nd (fun _ => ?_) fun _ => ?_
  ·rw [wI64 (by omega) (by omega),wI64 (by omega) (by omega),wI64 (by omega) (by omega)]
   refine ⟨⟨by trivial,i+1,so+1,by rw [es];simp,hi2,by omega⟩,?_⟩
   show cs.length-(((i:Nat):Int)+1).toNat<cs.length-((i:Nat):Int).toNat
   omega
  ·rw [wI64 (by omega) (by omega),wI64 (by omega) (by omega)]
   refine ⟨⟨by trivial,i+1,so,by rw [es];simp,hi2,by omega⟩,?_⟩
   show cs.length-(((i:Nat):Int)+1).toNat<cs.length-((i:Nat):Int).toNat
   omega
 ·have:i=cs.length:=by omega
  subst this
  rw [List.take_length]
  unfold q145_J3
  simp only
  refine joinP_id ⟨by decide,?_⟩
  unfold q145_J2
  refine cnd_d (fun h => ?_) fun _=>hk0
  have h64:cs.sum=64:=by
   have e:shlI .i64 1 6=64:=by decide
   rw [e] at h
   omega
  by_cases h2:(1:Int)<(so:Int)
  ·rw [decide_eq_true h2];exact hk1 h64
  ·rw [decide_eq_false h2];exact hk0
end
def zl (cs:List Nat):List Int:=cs.map fun (x:Nat)=>(x:Int)
theorem zl_snoc {cs:List Nat} {i:Nat} (h:i<cs.length):zl (cs.take (i+1))=zl (cs.take i) ++ [((cs[i]:Nat):Int)]:=by
 unfold zl;rw [List.take_succ_eq_append_getElem h,List.map_append];rfl
theorem zl_len (cs:List Nat):(zl cs).length=cs.length:=by simp [zl]
theorem take_sum {cs:List Nat} {i:Nat} (h:i<cs.length):(cs.take (i+1)).sum=(cs.take i).sum+cs[i]:=by rw [List.take_succ_eq_append_getElem h,List.sum_append];simp
theorem take_sum_le (cs:List Nat) (i:Nat):(cs.take i).sum≤cs.sum:=by
 conv=>rhs;rw [←List.take_append_drop i cs,List.sum_append]
 omega
structure DB (bl:List Nat) (res:List Nat→Option (HS×Nat)):Prop where
 bit:∀b∈bl,b<2
 rd:RD 6 (lN bl) bl.length res
theorem DB.ext {bl:List Nat} {res res':List Nat→Option (HS×Nat)} {x m:Nat} (h:DB bl res) (hx:x<2^m) (hr:∀l,By l→leN l/2^bl.length%2^m=x→bl.length+m≤8*l.length→res l=res' l):DB (bl++lowB x m) res':=by
 refine ⟨?_,?_⟩
 ·intro b hb
  rcases List.mem_append.mp hb with e|e
  ·exact h.bit b e
  ·exact lowB_bit b e
 ·have:=h.rd.ext hx hr
  rw [lN_app,lowB_val hx,List.length_append,lowB_len]
  exact this
theorem wid {m v:Nat} (hm:0<m) (hv:v≤m) :
  (v<2^(m.log2+1)-1-m→xZ m v=v∧bZ m v=m.log2) ∧
  (¬v<2^(m.log2+1)-1-m→v<2^m.log2→xZ m v=v∧bZ m v=m.log2+1) ∧
  (¬v<2^(m.log2+1)-1-m→¬v<2^m.log2→xZ m v=v+(2^(m.log2+1)-1-m)∧bZ m v=m.log2+1):=by
 obtain ⟨h1,h2,h3⟩:=lwZ_spec hm
 have e:2^(m.log2+1)-1-m=lwZ m:=rfl
 rw [e]
 refine ⟨fun h => ?_,fun h h' => ?_,fun h h' => ?_⟩
 ·have hx:xZ m v=v:=by unfold xZ;rw [if_neg (by omega)]
  exact ⟨hx,by unfold bZ;rw [hx,if_pos h]⟩
 ·have hx:xZ m v=v:=by unfold xZ;rw [if_neg (by omega)]
  exact ⟨hx,by unfold bZ;rw [hx,if_neg h]⟩
 ·have hx:xZ m v=v+lwZ m:=by unfold xZ;rw [if_pos (by omega)]
  exact ⟨hx,by unfold bZ;rw [hx,if_neg (by omega)]⟩
section
variable {w:World}
theorem c115 {s0:Sl} {cs:List Nat} {K:Sl×Bool→PT} (V:Vec 1 w s0 (nints cs)) (hn:cs.length≤256) (hc:∀c∈cs,c≤2^20)
  (hk0:∀w',Fm w w' []→K (⟨none,0,0⟩,false) w')
  (hk1:cs.sum=64→∀w' s' bl i,Vec 1 w' s' (nints bl)→bl.length≤2^20→i≤cs.length→(cs.take i).sum=64→DB bl (fun l=>readZ l ⟨bl.length,true,zl (cs.take i)⟩ 0)→Fm w w' []→(∀x∈s'.bs,w.heap.size≤x)→K (s',true) w') :
  callP Tryd.prog 115 #[.slice s0.a s0.l s0.c,.int .i64 6] [.c .S,.c .B] K w:=by
 have hsl:=V.len
 rw [nints_len,Nat.mul_one] at hsl
 apply q115_ok
 unfold q115
 refine c145 V hn hc ⟨fun _=>hk0 w (Fm.refl _ _),fun h=>by simp at h⟩ fun h64=>⟨fun h=>by simp at h,fun _ => ?_⟩
 have hk1:=hk1 h64
 rw [show IntKind.i64.wrap ((6:Int)-5)=((1:Nat):Int) from rfl,show (4:Int)=((4:Nat):Int) from rfl]
 refine c146 (s0:=⟨none,0,0⟩) (bl := []) Vec.nil (by simp) (by decide) (by decide) ?_
 intro w1 s1 V1 F1 n1
 have F1:Fm w w1 []:=F1
 have n1:∀x∈s1.bs,w.heap.size≤x:=fun x hx=>(n1 x hx).elim (fun h=>by simp [Sl.bs] at h) id
 refine ⟨by decide,joinP_id ?_⟩
 have e64:shlI .i64 1 6=((64:Nat):Int):=by decide
 rw [e64]
 have hn0:cs ≠ []:=by intro e;subst e;simp at h64
 refine ⟨fun x w'=>∃(bl:List Nat) (left i:Nat),x.2=((left:Int),(i:Int))∧i≤cs.length∧(cs.take i).sum+left=64∧bl.length≤4+20*i∧Vec 1 w' x.1 (nints bl)∧DB bl (fun l=>readZ l ⟨bl.length,true,zl (cs.take i)⟩ left)∧Fm w w' []∧(∀y∈x.1.bs,w.heap.size≤y),fun x _=>cs.length-x.2.2.toNat,⟨[]++lowB 1 4,64,0,rfl,Nat.zero_le _,rfl,by simp [lowB],V1,⟨?_,?_⟩,F1,n1⟩,?_⟩
 ·intro b hb;exact lowB_bit (v:=1) (n:=4) b hb
 ·exact RD.start (.inr rfl)
 rintro ⟨xs,xl,xi⟩ w2 ⟨bl,left,i,hx,hi,hsum,hbl,V2,D2,F2,n2⟩
 injection hx with e1 e2
 simp only at e1 e2 V2 n2
 subst e1 e2
 have VS:=V.fr F2 (by simp)
 unfold q115_L7
 simp only
 refine cnd_d (fun hc0 => ?_) fun hc0 => ?_
 ·have hl0:0<left:=by omega
  have hi2:i<cs.length:=by
   by_cases h:i<cs.length
   ·exact h
   ·rw [List.take_of_length_le (by omega),h64] at hsum;omega
  have hts:=take_sum hi2
  have htl:=take_sum_le cs (i+1)
  have hcle:cs[i]≤left:=by omega
  have hle64:left≤64:=by omega
  refine joinP_id ?_
  refine VS.ldN i rfl hi2 ?_
  intro q hq
  refine ld_c (t := .I .i64) (x:=((cs[i]:Nat):Int)) hq ?_
  rw [wI64 (x:=((left:Nat):Int)+1) (by omega) (by omega),show ((left:Nat):Int)+1=((left+1:Nat):Int) by omega]
  refine c44 (by omega) (by omega) ?_
  have hlg:(left+1).log2≤6:=by
   have:=(Nat.log2_lt (n:=left+1) (k:=7) (by omega)).mpr (by omega)
   omega
  have hm:0<left+1:=by omega
  obtain ⟨k1,k2,k3⟩:=wid hm (show cs[i]+1≤left+1 by omega)
  obtain ⟨z1,z2,z3⟩:=lwZ_spec hm
  have hxl:=xZ_lt hm (show cs[i]+1≤left+1 by omega)
  have hp7:2^((left+1).log2+1)=2*2^(left+1).log2:=Nat.pow_succ'
  have hp6:2^(left+1).log2≤2^6:=Nat.pow_le_pow_right (by omega) hlg
  have eW:IntKind.i64.wrap ((((left+1).log2:Nat):Int)+1)=(((left+1).log2+1:Nat):Int):=by rw [wI64 (by omega) (by omega)];omega
  have eV:IntKind.i64.wrap (((cs[i]:Nat):Int)+1)=((cs[i]+1:Nat):Int):=by rw [wI64 (by omega) (by omega)];omega
  have eM:IntKind.i64.wrap (((left:Nat):Int)+1)=((left+1:Nat):Int):=by rw [wI64 (by omega) (by omega)];omega
  have eS:shlI .i64 1 (((left+1).log2+1:Nat):Int)=((2^((left+1).log2+1):Nat):Int):=shl1 (by omega)
  have eT:shlI .i64 1 (((left+1).log2:Nat):Int)=((2^(left+1).log2:Nat):Int):=shl1 (by omega)
  have eL:IntKind.i64.wrap ((((left+1).log2+1:Nat):Int)-1)=(((left+1).log2:Nat):Int):=by rw [wI64 (by omega) (by omega)];omega
  have eB:IntKind.i64.wrap (IntKind.i64.wrap (((2^((left+1).log2+1):Nat):Int)-1)-((left+1:Nat):Int))=((2^((left+1).log2+1)-1-(left+1):Nat):Int):=by
   rw [wI64 (x:=((2^((left+1).log2+1):Nat):Int)-1) (by omega) (by omega),wI64 (by omega) (by omega)];omega
  rw [eW]
  refine ⟨by omega,?_⟩
  have aft:∀w3 s3,Vec 1 w3 s3 (nints (bl++lowB (xZ (left+1) (cs[i]+1)) (bZ (left+1) (cs[i]+1))))→Fm w2 w3 xs.bs→(∀y∈s3.bs,y∈xs.bs∨w2.heap.size≤y) →
    ∃bl3:List Nat,bl3.length≤bl.length+7∧Vec 1 w3 s3 (nints bl3)∧DB bl3 (fun l=>readZ l (if cs[i]+1=1 then zerosZ l ⟨bl3.length,true,zl (cs.take (i+1))⟩ else ⟨bl3.length,true,zl (cs.take (i+1))⟩) (left-cs[i]))∧Fm w w3 []∧(∀y∈s3.bs,w.heap.size≤y):=by
   intro w3 s3 V3 F3 n3
   have hs2:=F2.size
   have hb7:bZ (left+1) (cs[i]+1)≤7:=by unfold bZ;split<;>omega
   refine ⟨_,by rw [List.length_append,lowB_len];omega,V3,D2.ext hxl ?_,F2.trans F3 (fun y hy => .inr (n2 y hy)),?_⟩
   ·intro l hl h1 h2
    rw [List.length_append,lowB_len,readZ_put hl0 (by rw [zl_len,List.length_take];omega) (by omega) h1 h2,zl_snoc hi2]
    have:leftZ (cs[i]+1) left=left-cs[i]:=by unfold leftZ;rw [if_neg (by omega),Nat.add_sub_cancel]
    rw [this]
    have e2:((cs[i]+1:Nat):Int)-1=((cs[i]:Nat):Int):=by omega
    rw [e2]
   ·intro y hy
    rcases n3 y hy with h|h
    ·exact n2 y h
    ·omega
  refine ⟨fun s3 w3=>∃bl3:List Nat,bl3.length≤bl.length+7∧Vec 1 w3 s3 (nints bl3)∧DB bl3 (fun l=>readZ l (if cs[i]+1=1 then zerosZ l ⟨bl3.length,true,zl (cs.take (i+1))⟩ else ⟨bl3.length,true,zl (cs.take (i+1))⟩) (left-cs[i]))∧Fm w w3 []∧(∀y∈s3.bs,w.heap.size≤y),?_,?_⟩
  ·-- behind it: zeros,or the next
   rintro s3 w3 ⟨bl3,hb3,V3,D3,F3,n3⟩
   have em:maxI ((cs[i]:Nat):Int) (IntKind.i64.wrap (0-((cs[i]:Nat):Int)))=((cs[i]:Nat):Int):=maxI_le (by rw [wI64 (by omega) (by omega)];omega)
   unfold q115_J4
   simp only
   rw [em]
   refine cnd_nd (fun hne => ?_) fun heq => ?_
   ·have hne:cs[i]≠0:=by omega
    simp only [if_neg (show ¬(cs[i]+1=1) by omega)] at D3
    unfold q115_J6
    simp only
    rw [wI64 (by omega) (by omega),wI64 (by omega) (by omega),show ((left:Nat):Int)-((cs[i]:Nat):Int)=((left-cs[i]:Nat):Int) by omega]
    refine ⟨⟨bl3,left-cs[i],i+1,by simp,hi2,by omega,by omega,V3,D3,F3,n3⟩,?_⟩
    show cs.length-(((i:Nat):Int)+1).toNat<cs.length-((i:Nat):Int).toNat
    omega
   ·have heq:cs[i]=0:=by omega
    simp only [if_pos (show cs[i]+1=1 by omega)] at D3
    rw [heq,Nat.sub_zero] at D3
    refine joinP_id ?_
    refine ⟨fun x w'=>w'=w3∧∃n:Nat,x=(((i+n:Nat):Int),(n:Int))∧i+n<cs.length∧zl (cs.take (i+n+1))=zl (cs.take (i+1))++List.replicate n 0∧(cs.take (i+n+1)).sum=(cs.take i).sum,fun x _=>cs.length-x.1.toNat,⟨rfl,0,rfl,hi2,by simp,by rw [Nat.add_zero,hts,heq,Nat.add_zero]⟩,?_⟩
    rintro x w4 ⟨rfl,n,rfl,hin,hz,hzs⟩
    have hin2:i+n+1<cs.length:=by
     by_cases h:i+n+1<cs.length
     ·exact h
     ·rw [List.take_of_length_le (by omega),h64] at hzs;omega
    have VS3:=V.fr F3 (by simp)
    unfold q115_L0
    simp only
    refine VS3.ldN (i+n+1) (by rw [wI64 (by omega) (by omega)];omega) hin2 ?_
    intro q hq
    refine ld_c (t := .I .i64) (x:=((cs[i+n+1]:Nat):Int)) hq ?_
    refine cnd_d (fun h0 => ?_) fun hnz => ?_
    ·have h0:cs[i+n+1]=0:=by omega
     rw [wI64 (by omega) (by omega),wI64 (by omega) (by omega)]
     refine ⟨⟨by trivial,n+1,by simp;omega,hin2,?_,?_⟩,?_⟩
     ·rw [show i+(n+1)+1=i+n+1+1 by omega,zl_snoc hin2,hz,h0,List.append_assoc,List.replicate_succ'];rfl
     ·rw [show i+(n+1)+1=i+n+1+1 by omega,take_sum hin2,h0,hzs];rfl
     ·show cs.length-(((i+n:Nat):Int)+1).toNat<cs.length-((i+n:Nat):Int).toNat
      omega
    ·-- the zeros are written,three by three
     unfold q115_J3
     simp only
     refine joinP_id ?_
     refine ⟨fun x w'=>∃(bl4:List Nat) (d r:Nat),x.2=(r:Int)∧d+r=n∧bl4.length≤bl3.length+d∧Vec 1 w' x.1 (nints bl4)∧DB bl4 (fun l=>readZ l (zerosZ l ⟨bl4.length,true,zl (cs.take (i+1))++List.replicate d 0⟩) left)∧Fm w w' []∧(∀y∈x.1.bs,w.heap.size≤y),fun x _=>x.2.toNat,⟨bl3,0,n,rfl,by omega,by omega,V3,by simpa using D3,F3,n3⟩,?_⟩
     rintro ⟨ys,yr⟩ w5 ⟨bl4,d,r,hr,hdr,hb4,V5,D5,F5,n5⟩
     simp only at hr V5 n5
     subst hr
     have hs5:=F5.size
     have hcl:(zl (cs.take (i+1))++List.replicate d (0:Int)).length=i+1+d:=by rw [List.length_append,zl_len,List.length_take,List.length_replicate];omega
     unfold q115_L1
     simp only
     refine cnd_d (fun h3 => ?_) fun h3 => ?_
     ·have h3:3≤r:=by omega
      rw [show (3:Int)=((3:Nat):Int) from rfl,show (2:Int)=((2:Nat):Int) from rfl]
      refine c146 V5 (by omega) (by decide) (by decide) ?_
      intro w6 s6 V6 F6 n6
      rw [wI64 (by omega) (by omega)]
      refine ⟨⟨bl4++lowB 3 2,d+3,r-3,by show ((r:Nat):Int)-((3:Nat):Int)=_;omega,by omega,by rw [List.length_append,lowB_len];omega,V6,D5.ext (by decide) ?_,F5.trans F6 (fun y hy => .inr (n5 y hy)),?_⟩,?_⟩
      ·intro l hl h1 h2
       rw [List.length_append,lowB_len,zerosZ_3 h1 h2 (by omega),List.append_assoc,List.replicate_append_replicate]
      ·intro y hy
       rcases n6 y hy with h|h
       ·exact n5 y h
       ·omega
      ·show (((r:Nat):Int)-((3:Nat):Int)).toNat<((r:Nat):Int).toNat
       omega
     ·have h3:r<3:=by omega
      unfold q115_J2
      simp only
      rw [show (2:Int)=((2:Nat):Int) from rfl]
      refine c146 V5 (by omega) (by omega) (by decide) ?_
      intro w6 s6 V6 F6 n6
      unfold q115_J6
      simp only
      have em0:maxI ((cs[i]:Nat):Int) (IntKind.i64.wrap (0-((cs[i]:Nat):Int)))=0:=by rw [em,heq];rfl
      first|rw [em0]|rw [heq]
      rw [wI64 (by omega) (by omega),wI64 (by omega) (by omega)]
      refine ⟨⟨bl4++lowB r 2,left,i+n+1,by simp,Nat.le_of_lt hin2,by omega,by rw [List.length_append,lowB_len];omega,V6,D5.ext (by omega) ?_,F5.trans F6 (fun y hy => .inr (n5 y hy)),?_⟩,?_⟩
      ·intro l hl h1 h2
       rw [List.length_append,lowB_len,zerosZ_r h1 h3 h2,List.append_assoc,List.replicate_append_replicate,hdr,hz]
      ·intro y hy
       rcases n6 y hy with h|h
       ·exact n5 y h
       ·omega
      ·show cs.length-(((i+n:Nat):Int)+1).toNat<cs.length-((i:Nat):Int).toNat
       omega
  ·unfold q115_X5
   simp only
   rw [eV,eW,eM,eS,eB,eL]
   refine cnd_d (fun h1 => ?_) fun h1=>⟨by omega,?_⟩
   ·obtain ⟨a1,a2⟩:=k1 (by omega)
    refine c146 V2 (by omega) (by omega) (by omega) ?_
    intro w3 s3 V3 F3 n3
    exact aft w3 s3 (by rw [a1,a2];exact V3) F3 n3
   ·rw [eT]
    refine cnd_d (fun h2 => ?_) fun h2 => ?_
    ·obtain ⟨a1,a2⟩:=k2 (by omega) (by omega)
     refine c146 V2 (by omega) (by omega) (by omega) ?_
     intro w3 s3 V3 F3 n3
     exact aft w3 s3 (by rw [a1,a2];exact V3) F3 n3
    ·obtain ⟨a1,a2⟩:=k3 (by omega) (by omega)
     rw [show IntKind.i64.wrap (((cs[i]+1:Nat):Int)+((2^((left+1).log2+1)-1-(left+1):Nat):Int))=((cs[i]+1+(2^((left+1).log2+1)-1-(left+1)):Nat):Int) by rw [wI64 (by omega) (by omega)];omega]
     refine c146 V2 (by omega) (by omega) (by omega) ?_
     intro w3 s3 V3 F3 n3
     exact aft w3 s3 (by rw [a1,a2];exact V3) F3 n3
 ·have:left=0:=by omega
  subst this
  unfold q115_J8
  exact hk1 w2 xs bl i V2 (by omega) hi (by omega) D2 F2 n2
end
theorem or_low {x r:Nat} (hr:r<8) (hx:x<2^r):orI .u8 ((x:Nat):Int) ((2^r:Nat):Int)=((x+2^r:Nat):Int):=by
 have hp:2^r≤2^7:=Nat.pow_le_pow_right (by omega) (by omega)
 rw [orI_nat (k := .u8) rfl x (2^r) (by simp only [IntKind.bits];omega) (by simp only [IntKind.bits];omega)]
 have h:=Nat.two_pow_add_eq_or_of_lt hx 1
 rw [Nat.mul_one] at h
 rw [Nat.or_comm, ←h,Nat.add_comm]
theorem byF_up {N p:Nat} (h:N<2^p):byF (N+2^p)=updF (byF N) (p/8) ((N/2^(8*(p/8))%256+2^(p%8):Nat):Int)∧N/2^(8*(p/8))%256<2^(p%8)∧N/2^(8*(p/8))%256+2^(p%8)<256:=by
 have hq:8*(p/8)≤p:=by omega
 have hpe:2^p=2^(p%8)*2^(8*(p/8)):=by rw [←Nat.pow_add,show p%8+8*(p/8)=p by omega]
 have hdl:N/2^(8*(p/8))<2^(p%8):=by
  rw [Nat.div_lt_iff_lt_mul (Nat.two_pow_pos _), ←hpe];exact h
 have hr7:2^(p%8)≤2^7:=Nat.pow_le_pow_right (by omega) (by omega)
 have hm:N/2^(8*(p/8))%256=N/2^(8*(p/8)):=Nat.mod_eq_of_lt (by omega)
 refine ⟨?_,by omega,by omega⟩
 funext k
 unfold byF updF
 by_cases e:k=p/8
 ·subst e
  rw [if_pos rfl,hm]
  congr 1
  rw [hpe,Nat.add_mul_div_right _ _ (Nat.two_pow_pos _),Nat.mod_eq_of_lt (by omega)]
 ·rw [if_neg e]
  congr 1
  by_cases hk:k<p/8
  ·have:2^p=2^(p-8*k-8)*256*2^(8*k):=by
    rw [show (256:Nat)=2^8 from rfl, ←Nat.pow_add, ←Nat.pow_add];congr 1;omega
   rw [this,Nat.add_mul_div_right _ _ (Nat.two_pow_pos _),Nat.add_mul_mod_self_right]
  ·have h1:2^(p+1)≤2^(8*k):=Nat.pow_le_pow_right (by omega) (by omega)
   rw [Nat.pow_succ] at h1
   rw [Nat.div_eq_of_lt (by omega),Nat.div_eq_of_lt (by omega)]
section
variable {w:World}
theorem c85 {s0:Sl} {cs:List Nat} {K:Sl×Bool→PT} (V:Vec 1 w s0 (nints cs)) (hn:cs.length≤256) (hc:∀c∈cs,c≤2^20)
  (hk0:∀w',Fm w w' []→K (⟨none,0,0⟩,false) w')
  (hk1:cs.sum=64→∀w' s' H i,By H→VecU w' s' H→H.length≤2^20→i≤cs.length→(cs.take i).sum=64→(∀rest,By rest→fseRead (H++rest)=some (zl (cs.take i),6,rest))→Fm w w' []→(∀x∈s'.bs,w.heap.size≤x)→K (s',true) w') :
  callP Tryd.prog 85 #[.slice s0.a s0.l s0.c,.int .i64 6] [.c .S,.c .B] K w:=by
 apply q85_ok
 unfold q85
 refine c115 V hn hc (fun w1 F1=>⟨fun _=>hk0 w1 F1,fun h=>by simp at h⟩) ?_
 intro h64 w1 s1 bl i V1 hbl hi hs D1 F1 n1
 have hk1:=hk1 h64
 refine ⟨fun h=>by simp at h,fun _=>⟨by decide,?_⟩⟩
 have hsl:=V1.len
 rw [nints_len,Nat.mul_one] at hsl
 simp only
 rw [←hsl,wI64 (by omega) (by omega),show ((bl.length:Nat):Int)+7=((bl.length+7:Nat):Int) by omega,show (8:Int)=((8:Nat):Int) from rfl,quoI_nat _ _ _ (by simp only [IntKind.bits];omega)]
 refine mks1 (k := .u8) (v:=0) (n:=(bl.length+7)/8) rfl rfl (by omega) ?_
 intro w2 F2 hs2 B2
 have hsz1:=F1.size
 have hpn:w.heap.size≤w1.heap.size:=hsz1
 have hne:∀b∈s1.bs,b≠w1.heap.size:=fun b hb=>by have:=V1.lt b hb;omega
 have V2:=V1.fr F2 (by simp)
 have F02:Fm w w2 []:=F1.trans F2 (by simp)
 generalize w1.heap.size=p at *
 have B2':Blk w2 p (arrC .u8 ((bl.length+7)/8) (byF 0)):=B2.congr (by congr 1;funext k;unfold byF;simp)
 refine joinP_id ?_
 refine ⟨fun x w'=>∃j:Nat,x=(j:Int)∧j≤bl.length∧Blk w' p (arrC .u8 ((bl.length+7)/8) (byF (lN (bl.take j))))∧Fm w2 w' [p],fun x _=>bl.length-x.toNat,⟨0,rfl,Nat.zero_le _,B2',Fm.refl _ _⟩,?_⟩
 rintro x w3 ⟨j,rfl,hj,B3,F3⟩
 unfold q85_L0
 simp only
 refine cnd_d (fun hcj => ?_) fun hcj => ?_
 ·have hj2:j<bl.length:=by omega
  have hbj:=D1.bit _ (List.getElem_mem hj2)
  have V3:=V2.fr F3 (by intro b hb;simp;exact hne b hb)
  refine V3.ldN j rfl hj2 ?_
  intro q hq
  refine ld_c (t := .I .i64) (x:=((bl[j]:Nat):Int)) hq ?_
  unfold drw
  rw [show (8:Int)=((8:Nat):Int) from rfl,quoI_nat _ _ _ (by simp only [IntKind.bits];omega),show Int.tmod ((j:Nat):Int) ((8:Nat):Int)=((j%8:Nat):Int) from rfl]
  have hq2:j/8<(bl.length+7)/8:=by omega
  have hr:j%8<8:=Nat.mod_lt _ (by omega)
  refine ⟨by decide,?_⟩
  refine ixS_o rfl hq2 ?_
  rw [Nat.zero_add]
  refine ld_b (t := .I .u8) (x:=byF (lN (bl.take j)) (j/8)) B3.drew (arrC_get hq2) ?_
  refine ⟨by decide,⟨by omega,?_⟩⟩
  refine ixS_o rfl hq2 ?_
  rw [Nat.zero_add]
  refine st_u B3.drew (by rw [arrC_get hq2];rfl) rfl ?_
  intro w4 B4 F4
  rw [arrC_upd hq2] at B4
  rw [wI64 (by omega) (by omega)]
  have hlt:lN (bl.take j)<2^j:=by
   have h1:=lN_lt (l:=bl.take j) (fun b hb=>D1.bit b (List.mem_of_mem_take hb))
   rw [List.length_take,Nat.min_eq_left hj] at h1
   exact h1
  obtain ⟨g1,g2,g3⟩:=byF_up hlt
  have enext:lN (bl.take (j+1))=lN (bl.take j)+bl[j]*2^j:=by
   rw [List.take_succ_eq_append_getElem hj2,lN_app,List.length_take,Nat.min_eq_left hj]
   show _+(bl[j]+2*0)*_=_
   rw [Nat.mul_zero,Nat.add_zero]
  refine ⟨⟨j+1,by simp,hj2,B4.congr ?_,F3.trans ((Fm.refl w3 [p]).drew.trans F4 (fun x hx => .inl hx)) (fun x hx => .inl hx)⟩,by first|omega|(dsimp only;omega)⟩
  rw [enext]
  congr 1
  have hbits:bl[j]=0∨bl[j]=1:=by omega
  rcases hbits with h0|h1
  ·rw [h0,Nat.zero_mul,Nat.add_zero]
   have ez:IntKind.u8.wrap (shlI .i64 ((0:Nat):Int) ((j%8:Nat):Int))=0:=by
    unfold shlI
    simp
    rfl
   rw [ez]
   funext k
   unfold updF
   split
   ·rename_i hk
    subst hk
    exact or_zero8 (Nat.mod_lt _ (by omega))
   ·rfl
  ·rw [h1,Nat.one_mul,g1]
   have e1:IntKind.u8.wrap (shlI .i64 ((1:Nat):Int) ((j%8:Nat):Int))=((2^(j%8):Nat):Int):=by
    have:∀r:Fin 8,IntKind.u8.wrap (shlI .i64 ((1:Nat):Int) (((r:Nat):Nat):Int))=((2^(r:Nat):Nat):Int):=by decide +kernel
    exact this ⟨_,hr⟩
   rw [e1]
   congr 1
   exact or_low hr g2
 ·have:j=bl.length:=by omega
  subst this
  unfold q85_J1
  rw [List.take_length] at B3
  have hVl:=lN_lt D1.bit
  have hval:leN (leB (lN bl) ((bl.length+7)/8))=lN bl:=by
   rw [leB_val,Nat.mod_eq_of_lt]
   have:2^bl.length≤256^((bl.length+7)/8):=by
    rw [show (256:Nat)=2^8 from rfl, ←Nat.pow_mul]
    exact Nat.pow_le_pow_right (by omega) (by omega)
   omega
  refine hk1 w3 _ (leB (lN bl) ((bl.length+7)/8)) i (leB_by _ _) (VecU.of_byF B3 (by omega)) (by rw [leB_len];omega) hi hs ?_ (F02.trans F3 (by intro v hv;right;simp at hv;omega)) ?_
  ·intro rest hr
   exact RD.done D1.rd (.inr rfl) (leB_by _ _) hr hval (leB_len _ _) (by rw [zl_len,List.length_take];omega)
  ·intro v hv
   simp [Sl.bs] at hv
   omega
end
theorem cl3_mem {tab:List Cell3} {p:Nat} (h:p<tab.length):cl3 tab p∈tab:=by rw [←cl3_at h];exact List.getElem_mem h
structure TKs (tab:List Cell3) (ws:List Nat) (F:Nat→Int) (f:Nat→Nat) (k:Nat):Prop where
 eq:∀i,k≤i→i<ws.length→F i=((f i:Nat):Int)
 lt:∀i,k≤i→i<ws.length→f i<tab.length
 sy:∀i,k≤i→∀(h:i<ws.length),(cl3 tab (f i)).1=ws[i]
 rg:∀i,k≤i→i+2<ws.length→(cl3 tab (f i)).2.2≤((f (i+2):Nat):Int)∧((f (i+2):Nat):Int)<(cl3 tab (f i)).2.2+((2^(cl3 tab (f i)).2.1:Nat):Int)
def upN (f:Nat→Nat) (k q:Nat):Nat→Nat:=fun i=>if i=k then q else f i
theorem upN_eq (f:Nat→Nat) (k q:Nat):upN f k q k=q:=if_pos rfl
theorem upN_ne (f:Nat→Nat) {k q i:Nat} (h:i≠k):upN f k q i=f i:=if_neg h
theorem TKs.step {tab:List Cell3} {ws:List Nat} {F:Nat→Int} {f:Nat→Nat} {k q:Nat} (H:TKs tab ws F f (k+1)) (hk:k<ws.length) (hq:q<tab.length) (hs:(cl3 tab q).1=ws[k])
  (hr:k+2<ws.length→(cl3 tab q).2.2≤F (k+2)∧F (k+2)<(cl3 tab q).2.2+((2^(cl3 tab q).2.1:Nat):Int)):TKs tab ws (updF (updF F k (-1)) k (q:Nat)) (upN f k q) k:=by
 refine ⟨?_,?_,?_,?_⟩
 ·intro i h1 h2
  unfold updF
  by_cases e:i=k
  ·subst e;rw [if_pos rfl,upN_eq]
  ·rw [if_neg e,if_neg e,upN_ne f e];exact H.eq i (by omega) h2
 ·intro i h1 h2
  by_cases e:i=k
  ·subst e;rw [upN_eq];exact hq
  ·rw [upN_ne f e];exact H.lt i (by omega) h2
 ·intro i h1 h2
  by_cases e:i=k
  ·subst e;rw [upN_eq];exact hs
  ·rw [upN_ne f e];exact H.sy i (by omega) h2
 ·intro i h1 h2
  rw [upN_ne f (show i+2≠k by omega)]
  by_cases e:i=k
  ·subst e
   rw [upN_eq]
   have:=H.eq (i+2) (by omega) h2
   rw [←this]
   exact hr h2
  ·rw [upN_ne f e];exact H.rg i (by omega) h2
section
variable {w:World}
theorem c86 {s0 s2:Sl} {cs ws:List Nat} {K:Sl×Bool→PT} (V:Vec 1 w s0 (nints cs)) (hn:cs.length≤256) (hc:∀c∈cs,c≤64) (A:Arr .u8 w s2 ws) (hby:By ws) (hwl:ws.length≤255)
  (hk0:∀w',Fm w w' []→K (⟨none,0,0⟩,false) w')
  (hk1:∀w' s' tab f,statesZ (zl cs) 6=some tab→TXs tab ws f→2≤ws.length→(allB tab f ws.length).length≤2^20→VecU w' s' (bodyB (allB tab f ws.length))→Fm w w' []→(∀x∈s'.bs,w.heap.size≤x)→K (s',true) w') :
  callP Tryd.prog 86 #[.slice s0.a s0.l s0.c,.int .i64 6,.slice s2.a s2.l s2.c] [.c .S,.c .B] K w:=by
 have hsl:=A.len
 have hcz:∀c∈zl cs, -1≤c∧c≤64:=by
  intro c h
  unfold zl at h
  obtain ⟨x,hx,rfl⟩:=List.mem_map.mp h
  have:=hc x hx
  omega
 apply q86_ok
 unfold q86
 rw [show (6:Int)=((6:Nat):Int) from rfl]
 refine c57 (cs:=zl cs) V (.inr rfl) (by rw [zl_len];omega) (fun c h=>⟨(hcz c h).1,by have:=(hcz c h).2;omega⟩) ?_ ?_
 ·intro _ w1 F1
  exact ⟨fun _=>hk0 w1 F1,fun h=>by simp at h⟩
 ·intro tab htab w1 tb F1 htb VT
  obtain ⟨ht64,htc⟩:=statesZ_bnd (fun c h=>⟨(hcz c h).1,by have:=(hcz c h).2;omega⟩) (by rw [zl_len];exact hn) (.inr rfl) htab
  have hcell:∀ {q:Nat},q<tab.length→(cl3 tab q).1<256∧(cl3 tab q).2.1≤6 ∧ -4294967296≤(cl3 tab q).2.2∧(cl3 tab q).2.2<4294967296:=fun h=>htc _ (cl3_mem h)
  refine ⟨fun h=>by simp at h,fun _ => ?_⟩
  refine cnd_d (fun _=>hk0 w1 F1) fun h2 => ?_
  have h2:2≤ws.length:=by omega
  rw [hsl]
  refine mks1 (k := .i64) (v:=0) (n:=ws.length) rfl rfl (by omega) ?_
  intro w2 F2 hs2 B2
  have hsz1:=F1.size
  have VT2:=VT.fr F2 (by simp)
  have A2:=(A.fr F1 (by simp)).fr F2 (by simp)
  have F02:Fm w w2 []:=F1.trans F2 (by simp)
  have hpn:w.heap.size≤w1.heap.size:=hsz1
  have htp:tb≠w1.heap.size:=by
   have:=VT.lt tb (by simp [Sl.bs]);omega
  have hap:∀a,s2.a=some a→a.block≠w1.heap.size:=by
   intro a ha
   have:=A.old (by intro e;subst e;simp at h2) a ha
   omega
  generalize w1.heap.size=p at *
  refine joinP_id ?_
  rw [wI64 (by omega) (by omega)]
  refine ⟨fun x w'=>∃(k:Nat) (F:Nat→Int) (f:Nat→Nat),x=(k:Int)-1∧k≤ws.length∧Blk w' p (arrC .i64 ws.length F)∧TKs tab ws F f k∧Fm w2 w' [p],fun x _=>(x+1).toNat,⟨ws.length,fun _=>0,fun _=>0,by omega,Nat.le_refl _,B2,⟨fun i h1 h2=>absurd h2 (by omega),fun i h1 h2=>absurd h2 (by omega),fun i h1 h2=>absurd h2 (by omega),fun i h1 h2=>absurd h2 (by omega)⟩,Fm.refl _ _⟩,?_⟩
  rintro x w3 ⟨k1,F,f,rfl,hk1l,B3,T3,F3⟩
  unfold q86_L7
  simp only
  refine cnd_d (fun hge => ?_) fun hlt => ?_
  ·obtain ⟨k,rfl⟩:∃k,k1=k+1:=⟨k1-1,by omega⟩
   have hk:k<ws.length:=by omega
   have ek:((k+1:Nat):Int)-1=((k:Nat):Int):=by omega
   rw [ek]
   refine joinP_id ?_
   refine ixS_o rfl hk ?_
   rw [Nat.zero_add]
   refine st_u B3 (by rw [arrC_get hk];rfl) rfl ?_
   intro w4 B4 F4
   rw [arrC_upd hk] at B4
   have F24:Fm w2 w4 [p]:=F3.trans F4 (fun x hx => .inl hx)
   refine ⟨fun _ w'=>Fm w2 w' [p]∧(Blk w' p (arrC .i64 ws.length (updF F k (-1)))∨∃q,q<tab.length∧(cl3 tab q).1=ws[k]∧(k+2<ws.length→(cl3 tab q).2.2≤F (k+2)∧F (k+2)<(cl3 tab q).2.2+((2^(cl3 tab q).2.1:Nat):Int))∧Blk w' p (arrC .i64 ws.length (updF (updF F k (-1)) k (q:Nat)))),?_,?_⟩
   ·rintro ⟨⟩ w5 ⟨F5,h5⟩
    unfold q86_J5
    refine ixS_o rfl hk ?_
    rw [Nat.zero_add]
    rcases h5 with B5|⟨q,hq,hqs,hqr,B5⟩
    ·refine ld_b (t := .I .i64) (x:=updF F k (-1) k) B5 (arrC_get hk) ?_
     refine cnd_d (fun _=>hk0 w5 (F02.trans F5 (by intro v hv;right;simp at hv;omega))) fun h=>absurd (show updF F k (-1) k<0 by unfold updF;rw [if_pos rfl];decide) h
    ·have eu:updF (updF F k (-1)) k ((q:Nat):Int) k=(q:Nat):=by unfold updF;rw [if_pos rfl]
     refine ld_b (t := .I .i64) (x:=updF (updF F k (-1)) k ((q:Nat):Int) k) B5 (arrC_get hk) ?_
     rw [eu]
     refine cnd_d (fun h=>absurd h (by omega)) fun _ => ?_
     unfold q86_J6
     rw [wI64 (by omega) (by omega)]
     refine ⟨⟨k,_,_,rfl,by omega,B5,T3.step hk hq hqs hqr,F5⟩,?_⟩
     show (((k:Nat):Int)-1+1).toNat<(((k:Nat):Int)+1).toNat
     omega
   ·refine ⟨fun x w'=>∃q:Nat,x=(q:Int)∧q≤64∧Blk w' p (arrC .i64 ws.length (updF F k (-1)))∧Fm w2 w' [p],fun x _=>64-x.toNat,⟨0,rfl,Nat.zero_le _,B4,F24⟩,?_⟩
    rintro x w5 ⟨q,rfl,hq,B5,F5⟩
    unfold q86_L4
    simp only
    refine cnd_d (fun hcq => ?_) fun hcq=>⟨F5,.inl B5⟩
    have hq2:q<tab.length:=by rw [ht64];omega
    obtain ⟨c1,c2,c3,c4⟩:=hcell hq2
    have VT5:=VT2.fr F5 (by intro b hb;simp [Sl.bs] at hb;simp;omega)
    have A5:=A2.fr F5 (by intro a ha _;simp;exact hap a ha)
    refine ⟨fun _ w'=>Blk w' p (arrC .i64 ws.length (updF F k (-1)))∧Fm w2 w' [p],?_,?_⟩
    ·rintro ⟨⟩ w6 ⟨B6,F6⟩
     unfold q86_J2
     rw [wI64 (by omega) (by omega)]
     refine ⟨⟨q+1,by simp,by omega,B6,F6⟩,?_⟩
     show 64-(((q:Nat):Int)+1).toNat<64-((q:Nat):Int).toNat
     omega
    ·unfold q86_X3
     simp only
     refine tab_ld q VT5 rfl hq2 ?_
     rintro b o ⟨G,BG,g0,g1,g2⟩
     rw [cl3_at hq2] at g0 g1 g2
     refine ld3_b BG g0 g1 g2 ?_
     refine nw3 (κ:=fun p17=>_) ?_
     intro w6 F6 hs6 B6
     have hs5:=F5.size
     have F26:Fm w2 w6 [p]:=F5.trans F6 (by simp)
     have hpw:p≠w5.heap.size:=by have:=B5.lt;omega
     have B56:=B5.fr F6 (by simp)
     generalize w5.heap.size=r at *
     unfold drw
     refine ld_b (t := .I .i64) (x:=(((cl3 tab q).1:Nat):Int)) B6.drew rfl ?_
     have A6:=A5.fr (F6.drew) (by simp)
     refine A6.ldk k rfl hk ?_
     intro pa hpa
     have hwk:=hby _ (List.getElem_mem hk)
     refine ld_c (t := .I .u8) (x:=((ws[k]:Nat):Int)) hpa ?_
     rw [wI64 (by omega) (by omega)]
     refine cnd_nd (fun _=>⟨B56.drew,F26.drew⟩) fun heq => ?_
     have hsy:(cl3 tab q).1=ws[k]:=by omega
     refine ⟨fun b w'=>Blk w' p (arrC .i64 ws.length (updF F k (-1)))∧Fm w2 w' [p]∧(b=true→k+2<ws.length∧(cl3 tab q).2.2≤F (k+2)∧F (k+2)<(cl3 tab q).2.2+((2^(cl3 tab q).2.1:Nat):Int)),?_,?_⟩
     ·rintro b w7 ⟨B7,F7,hb⟩
      unfold q86_J0
      simp only
      have put:∀(hr:k+2<ws.length→(cl3 tab q).2.2≤F (k+2)∧F (k+2)<(cl3 tab q).2.2+((2^(cl3 tab q).2.1:Nat):Int)) (R:PT),(∀w',(Fm w2 w' [p]∧(Blk w' p (arrC .i64 ws.length (updF F k (-1)))∨∃q,q<tab.length∧(cl3 tab q).1=ws[k]∧(k+2<ws.length→(cl3 tab q).2.2≤F (k+2)∧F (k+2)<(cl3 tab q).2.2+((2^(cl3 tab q).2.1:Nat):Int))∧Blk w' p (arrC .i64 ws.length (updF (updF F k (-1)) k (q:Nat)))))→R w') →
        ixS 1 ⟨some ⟨p,0,none⟩,ws.length,ws.length⟩ ((k:Nat):Int) (fun p30=>st p30 (.int .i64 ((q:Nat):Int))<|R) w7:=by
       intro hr R hR
       refine ixS_o rfl hk ?_
       rw [Nat.zero_add]
       refine st_u B7 (by rw [arrC_get hk];rfl) rfl ?_
       intro w8 B8 F8
       rw [arrC_upd hk] at B8
       exact hR w8 ⟨F7.trans F8 (fun x hx => .inl hx),.inr ⟨q,hq2,hsy,hr,B8⟩⟩
      refine ⟨fun hbt=>put (fun _=>(hb hbt).2) _ (fun w' h=>h),fun _ => ?_⟩
      refine cnd_d (fun hle=>put (fun h=>absurd h ?_) _ (fun w' h=>h)) fun _=>⟨B7,F7⟩
      rw [wI64 (by omega) (by omega)] at hle
      omega
     ·unfold q86_X1
      unfold drw
      refine cnd_d (fun hlt => ?_) fun _=>⟨B56.drew.drew,F26.drew.drew,fun h=>by cases h⟩
      rw [wI64 (by omega) (by omega)] at hlt
      have hk2:k+2<ws.length:=by omega
      have hFv:updF F k (-1) (k+2)=F (k+2):=by unfold updF;rw [if_neg (by omega)]
      have hFe:=T3.eq (k+2) (by omega) hk2
      have hfl:=T3.lt (k+2) (by omega) hk2
      refine ixS_o (k:=k+2) (by rw [wI64 (by omega) (by omega)];omega) hk2 ?_
      rw [Nat.zero_add]
      refine ld_b (t := .I .i64) (x:=F (k+2)) B56.drew.drew (by rw [arrC_get hk2,hFv];rfl) ?_
      simp only [add_mk,Nat.zero_add]
      refine ld_b (t := .I .i64) (x:=(cl3 tab q).2.2) B6.drew.drew rfl ?_
      refine cnd_d (fun hle => ?_) fun _=>⟨B56.drew.drew,F26.drew.drew,fun h=>by cases h⟩
      refine ixS_o (k:=k+2) (by rw [wI64 (by omega) (by omega)];omega) hk2 ?_
      rw [Nat.zero_add]
      refine ld_b (t := .I .i64) (x:=F (k+2)) B56.drew.drew (by rw [arrC_get hk2,hFv];rfl) ?_
      refine ld_b (t := .I .i64) (x:=(cl3 tab q).2.2) B6.drew.drew rfl ?_
      refine ld_b (t := .I .i64) (x:=(((cl3 tab q).2.1:Nat):Int)) B6.drew.drew rfl ?_
      refine ⟨by omega,?_⟩
      rw [shl1 (by omega)]
      have hp6:2^(cl3 tab q).2.1≤2^6:=Nat.pow_le_pow_right (by omega) c2
      generalize 2^(cl3 tab q).2.1=pw at hp6 ⊢
      rw [wI64 (by omega) (by omega)]
      refine ⟨B56.drew.drew,F26.drew.drew,fun h => ?_⟩
      have h:=of_decide_eq_true h
      exact ⟨hk2,hle,h⟩
  ·-- the bits
   have:k1=0:=by omega
   subst this
   have TXf:TXs tab ws f:=⟨fun i h=>T3.lt i (Nat.zero_le _) h,fun i h=>T3.sy i (Nat.zero_le _) h,fun i h=>T3.rg i (Nat.zero_le _) h⟩
   have hFf:∀i,i<ws.length→F i=((f i:Nat):Int):=fun i h=>T3.eq i (Nat.zero_le _) h
   have hf64:∀i,i<ws.length→f i<64:=fun i h=>by have:=T3.lt i (Nat.zero_le _) h;rw [ht64] at this;omega
   have F03:Fm w w3 []:=F02.trans F3 (by intro v hv;right;simp at hv;omega)
   unfold q86_J10
   refine ixS_o (k:=0) rfl (by omega) ?_
   rw [Nat.zero_add]
   refine ld_b (t := .I .i64) (x:=((f 0:Nat):Int)) B3 (by rw [arrC_get (by omega),hFf 0 (by omega)];rfl) ?_
   have hf0:=hf64 0 (by omega)
   have hf1:=hf64 1 (by omega)
   refine c116 (s0:=⟨none,0,0⟩) (bl := []) Vec.nil (by simp) (by omega) (by decide) ?_
   intro w4 s4 V4 F4 n4
   have F4:Fm w3 w4 []:=F4
   have n4:∀x∈s4.bs,w3.heap.size≤x:=fun x hx=>(n4 x hx).elim (fun h=>by simp [Sl.bs] at h) id
   have hp3:=B3.lt
   have B4:=B3.fr F4 (by simp)
   have F34:=F4.size
   refine ixS_o (k:=1) rfl (by omega) ?_
   rw [Nat.zero_add]
   refine ld_b (t := .I .i64) (x:=((f 1:Nat):Int)) B4 (by rw [arrC_get (by omega),hFf 1 (by omega)];rfl) ?_
   refine c116 V4 (by rw [List.nil_append,codeB_len];omega) (by omega) (by decide) ?_
   intro w5 s5 V5 F5 n5
   have n5:∀x∈s5.bs,w3.heap.size≤x:=fun x hx=>by rcases n5 x hx with h|h;exact n4 x h;omega
   have F35:Fm w3 w5 []:=F4.trans F5 (fun v hv => .inr (n4 v hv))
   refine joinP_id ?_
   rw [List.nil_append] at V5
   refine ⟨fun x w'=>∃i:Nat,x.2=(i:Int)∧i≤ws.length-2∧(codeB (f 0) 6++(codeB (f 1) 6++txB tab f 0 i)).length≤12+6*i∧Vec 1 w' x.1 (nints (codeB (f 0) 6++(codeB (f 1) 6++txB tab f 0 i)))∧Fm w3 w' []∧(∀y∈x.1.bs,w3.heap.size≤y),fun x _=>ws.length-x.2.toNat,⟨0,rfl,Nat.zero_le _,by simp [codeB_len,txB],by simpa [txB] using V5,F35,n5⟩,?_⟩
   rintro ⟨xs,xi⟩ w6 ⟨i,hxi,hi,hbl,V6,F6,n6⟩
   simp only at hxi V6 n6
   subst hxi
   unfold q86_L8
   simp only
   have hs36:=F6.size
   rw [wI64 (by omega) (by omega)]
   refine cnd_d (fun hci => ?_) fun hci => ?_
   ·have hi2:i+2<ws.length:=by omega
    have hfl:=T3.lt i (Nat.zero_le _) (by omega)
    obtain ⟨c1,c2,c3,c4⟩:=hcell hfl
    obtain ⟨r1,r2⟩:=T3.rg i (Nat.zero_le _) hi2
    have B6:=B3.fr F6 (by simp)
    have VT6:=(VT2.fr F3 (by intro b hb;simp [Sl.bs] at hb;simp;omega)).fr F6 (by simp)
    refine ixS_o rfl (by omega:i<ws.length) ?_
    rw [Nat.zero_add]
    refine ld_b (t := .I .i64) (x:=((f i:Nat):Int)) B6 (by rw [arrC_get (by omega),hFf i (by omega)];rfl) ?_
    refine tab_ld (f i) VT6 rfl hfl ?_
    rintro b o ⟨G,BG,g0,g1,g2⟩
    rw [cl3_at hfl] at g0 g1 g2
    refine ld3_b BG g0 g1 g2 ?_
    refine nw3 (κ:=fun p17=>_) ?_
    intro w7 F7 hs7 B7
    have B67:=B6.fr F7 (by simp)
    have V7:=V6.fr F7.drew (by simp)
    have hs67:=F7.size
    generalize w6.heap.size=r at *
    unfold drw
    simp only [add_mk,Nat.zero_add]
    have hf2:=hf64 (i+2) hi2
    refine ixS_o (k:=i+2) (by omega) hi2 ?_
    rw [Nat.zero_add]
    refine ld_b (t := .I .i64) (x:=((f (i+2):Nat):Int)) B67.drew (by rw [arrC_get hi2,hFf _ hi2];rfl) ?_
    refine ld_b (t := .I .i64) (x:=(cl3 tab (f i)).2.2) B7.drew rfl ?_
    refine ld_b (t := .I .i64) (x:=(((cl3 tab (f i)).2.1:Nat):Int)) B7.drew rfl ?_
    have hp6:2^(cl3 tab (f i)).2.1≤2^6:=Nat.pow_le_pow_right (by omega) c2
    rw [wI64 (by omega) (by omega),show ((f (i+2):Nat):Int)-(cl3 tab (f i)).2.2=(((((f (i+2):Nat):Int)-(cl3 tab (f i)).2.2).toNat:Nat):Int) by omega]
    refine c116 V7 (by omega) (by omega) (by omega) ?_
    intro w8 s8 V8 F8 n8
    have hs68:=F8.size
    rw [wI64 (by omega) (by omega)]
    refine ⟨⟨i+1,by simp,by omega,?_,?_,?_,?_⟩,?_⟩
    ·rw [txB_snoc]
     simp only [List.length_append,Nat.zero_add] at hbl ⊢
     have:(stepB tab f i).length=(cl3 tab (f i)).2.1:=codeB_len _ _
     omega
    ·have e:codeB (f 0) 6++(codeB (f 1) 6++txB tab f 0 i)++codeB (((f (i+2):Nat):Int)-(cl3 tab (f i)).2.2).toNat (cl3 tab (f i)).2.1=codeB (f 0) 6++(codeB (f 1) 6++txB tab f 0 (i+1)):=by
      rw [txB_snoc,Nat.zero_add,List.append_assoc,List.append_assoc];rfl
     rw [←e]
     exact V8
    ·exact (F6.trans F7.drew (by simp)).trans F8 (fun v hv => .inr (n6 v hv))
    ·intro y hy
     rcases n8 y hy with h|h
     ·exact n6 y h
     ·have:w7.drew.heap.size=w7.heap.size:=rfl
      omega
    ·show ws.length-(((i:Nat):Int)+1).toNat<ws.length-((i:Nat):Int).toNat
     omega
   ·have:i=ws.length-2:=by omega
    subst this
    unfold q86_J9
    have hs03:=F03.size
    refine c54 V6 (allB_bit tab f ws.length) (by omega) ?_
    intro w7 s7 V7 F7 n7
    refine hk1 w7 s7 tab f htab TXf h2 (by unfold allB;omega) V7 ((F03.trans F6 (by simp)).trans F7 (by simp)) ?_
    intro v hv
    have:=n7 v hv
    omega
end
theorem sum0:∀ {l:List Nat},l.sum=0→l=List.replicate l.length 0
 | [],_=>rfl
 | x::r,h=>by
  rw [List.sum_cons] at h
  rw [List.length_cons,List.replicate_succ, ←sum0 (l:=r) (by omega)]
  congr 1
  omega
theorem drop_zero {cs:List Nat} {i n:Nat} (h:cs.sum=n) (hi:(cs.take i).sum=n):zl cs=zl (cs.take i)++List.replicate (cs.length-i) 0:=by
 have h1:(cs.drop i).sum=0:=by
  have:=congrArg List.sum (List.take_append_drop i cs)
  rw [List.sum_append] at this
  omega
 have h2:=sum0 h1
 rw [List.length_drop] at h2
 conv=>lhs;rw [←List.take_append_drop i cs,h2]
 unfold zl
 rw [List.map_append,List.map_replicate];rfl
def FB (ws l:List Nat):Prop:=∃H tab f ns,l=H++bodyB (allB tab f ws.length)∧By H∧(∀rest,By rest→fseRead (H++rest)=some (ns,6,rest))∧statesZ ns 6=some tab∧TXs tab ws f∧2≤ws.length∧∀c∈ns,(0:Int)≤c
theorem FB.read {ws l:List Nat} (h:FB ws l):∃tab ns rest,fseRead l=some (ns,6,rest)∧statesZ ns 6=some tab∧(∀c∈ns,(0:Int)≤c)∧(By ws→ws.length≤255→(∀c∈ns,2*c<64)→twoStatesZ rest tab 6 255=some ws∧∃left,backZ rest=some left∧2*6≤left∧WhZ rest tab (left-6-6) (tkB rest 6 left) (tkB rest 6 ((left:Int)-(6:Nat)))):=by
 obtain ⟨H,tab,f,ns,rfl,hH,hr,hs,ht,h2,h0⟩:=h
 refine ⟨tab,ns,_,hr _ (leB_by _ _),hs,h0,fun hw hl hc => ?_⟩
 exact ht.two (statesZ_len hs) (calm_bits hs (fun c hc'=>⟨h0 c hc',hc c hc'⟩)) hw h2 hl
section
variable {w:World}
theorem VecU.one {b v:Nat} (hv:v<256) (B:Blk w b (fun i=>(⟨[.int .u8 ((v:Nat):Int)]⟩:Array Value)[i]?)):VecU w ⟨some ⟨b,0,none⟩,1,1⟩ [v]:=by
 have h:=VecU.of_byF (w:=w) (b:=b) (K:=1) (N:=v) (B.congr (by
  funext i
  rcases i with _|i
  ·simp [arrC,byF,Nat.mod_eq_of_lt hv]
  ·simp [arrC])) (by decide)
 have e:leB v 1 = [v]:=by show [v%256] = [v];rw [Nat.mod_eq_of_lt hv]
 rw [e] at h
 exact h
theorem c66 {s0 s2:Sl} {cs ws:List Nat} {K:Sl×Bool→PT} (V:Vec 1 w s0 (nints cs)) (hn:cs.length≤256) (hc:∀c∈cs,c≤2^20) (A:Arr .u8 w s2 ws) (hby:By ws) (hwl:ws.length≤255)
  (hk0:∀w',Fm w w' []→K (⟨none,0,0⟩,false) w')
  (hk1:∀w' s' l,By l→FB ws l→VecU w' s' l→Fm w w' []→(∀x∈s'.bs,w.heap.size≤x)→K (s',true) w') :
  callP Tryd.prog 66 #[.slice s0.a s0.l s0.c,.int .i64 6,.slice s2.a s2.l s2.c] [.c .S,.c .B] K w:=by
 apply q66_ok
 unfold q66
 refine c85 V hn hc (fun w1 F1=>⟨fun _=>hk0 w1 F1,fun h=>by simp at h⟩) ?_
 intro h64 w1 s1 H i hH V1 hHl hi hs hr F1 n1
 refine ⟨fun h=>by simp at h,fun _ => ?_⟩
 refine c86 (V.fr F1 (by simp)) hn (fun c h=>by have:=mem_le_sum h;omega) (A.fr F1 (by simp)) hby hwl (fun w2 F2=>⟨fun _=>hk0 w2 (F1.trans F2 (by simp)),fun h=>by simp at h⟩) ?_
 intro w2 s3 tab f htab T h2 hal V2 F2 n2
 refine ⟨fun h=>by simp at h,fun _ => ?_⟩
 have hs1:=F1.size
 have V1':=V1.fr F2 (by simp)
 have l1:=V1'.len
 have l2:=V2.len
 have hbl:(bodyB (allB tab f ws.length)).length=(allB tab f ws.length).length/8+1:=leB_len _ _
 refine app_vu V1' V2.vec.arr.has (by simp only;omega) ?_
 intro s4 w3 V3 F3 n3
 refine hk1 w3 s4 _ (hH.app (leB_by _ _)) ⟨H,tab,f,zl (cs.take i),rfl,hH,hr,?_,T,h2,?_⟩ V3 ((F1.trans F2 (by simp)).trans F3 (fun v hv => .inr (n1 v hv))) ?_
 ·rw [drop_zero h64 hs,statesZ_app] at htab;exact htab
 ·intro c h
  unfold zl at h
  obtain ⟨x,_,rfl⟩:=List.mem_map.mp h
  omega
 ·intro v hv
  have hs2:=F2.size
  rcases n3 v hv with h|h
  ·exact n1 v h
  ·omega
theorem c48 {s0:Sl} {ws:List Nat} {K:Sl×Bool→PT} (A:Arr .u8 w s0 ws) (h12:∀x∈ws,x≤12) (hwl:ws.length≤255) (h0:0<ws.length)
  (hk0:∀w',Fm w w' []→K (⟨none,0,0⟩,false) w')
  (hk1:∀w' s' r,By r→r.length≤127→FB ws r→VecU w' s' (r.length::r)→Fm w w' []→K (s',true) w') :
  callP Tryd.prog 48 #[.slice s0.a s0.l s0.c] [.c .S,.c .B] K w:=by
 have hby:By ws:=fun x hx=>by have:=h12 x hx;omega
 have hsl:=A.len
 apply q48_ok
 unfold q48
 refine mks1 (k := .i64) (v:=0) (n:=13) rfl rfl (by decide) ?_
 intro w1 F1 hs1 B1
 have A1:=A.fr F1 (by simp)
 have hap:∀a,s0.a=some a→a.block≠w.heap.size:=by
  intro a ha
  have:=A.old (by intro e;subst e;simp at h0) a ha
  omega
 have hpn:w.heap.size≤w.heap.size:=Nat.le_refl _
 generalize hpe:w.heap.size=p at *
 refine joinP_id ?_
 refine ⟨fun x w'=>∃(i:Nat) (F:Nat→Nat),x=(i:Int)∧i≤ws.length∧(∀j,F j≤i)∧Blk w' p (arrC .i64 13 fun j=>((F j:Nat):Int))∧Fm w1 w' [p],fun x _=>ws.length-x.toNat,⟨0,fun _=>0,rfl,Nat.zero_le _,fun _=>Nat.le_refl _,B1,Fm.refl _ _⟩,?_⟩
 rintro x w2 ⟨i,F,rfl,hi,hF,B2,F2⟩
 have A2:=A1.fr F2 (by intro a ha _;simp;exact hap a ha)
 unfold q48_L0
 simp only
 refine cnd_d (fun hci => ?_) fun hci => ?_
 ·have hi2:i<ws.length:=by omega
  have hw:=h12 _ (List.getElem_mem hi2)
  have hw13:ws[i]<13:=by omega
  refine A2.ldk i rfl hi2 ?_
  intro q hq
  refine ld_c (t := .I .u8) (x:=((ws[i]:Nat):Int)) hq ?_
  refine ixS_o rfl hw13 ?_
  rw [Nat.zero_add]
  refine ld_b (t := .I .i64) (x:=((F ws[i]:Nat):Int)) B2 (arrC_get hw13) ?_
  refine ixS_o rfl hw13 ?_
  rw [Nat.zero_add]
  refine st_u B2 (by rw [arrC_get hw13];rfl) rfl ?_
  intro w3 B3 F3
  rw [arrC_upd hw13] at B3
  have hFi:=hF ws[i]
  rw [wI64 (by omega) (by omega)] at B3
  rw [wI64 (by omega) (by omega)]
  refine ⟨⟨i+1,upN F ws[i] (F ws[i]+1),by simp,hi2,?_,B3.congr ?_,F2.trans F3 (fun x hx => .inl hx)⟩,?_⟩
  ·intro j
   by_cases e:j=ws[i]
   ·subst e;rw [upN_eq];omega
   ·rw [upN_ne F e];have:=hF j;omega
  ·congr 1
   funext j
   unfold updF upN
   split
   ·omega
   ·rfl
  ·show ws.length-(((i:Nat):Int)+1).toNat<ws.length-((i:Nat):Int).toNat
   omega
 ·have:i=ws.length:=by omega
  subst this
  unfold q48_J5
  refine joinP_id ?_
  refine ⟨fun x w'=>∃(i m:Nat) (l:Int) (F:Nat→Nat),x=(l,(m:Int),(i:Int))∧i≤13∧m<13∧l≤64 ∧ -(20000*(i:Int))≤l∧(∀j,F j≤10200)∧(∀j,i≤j→F j≤255)∧Blk w' p (arrC .i64 13 fun j=>((F j:Nat):Int))∧Fm w1 w' [p],fun x _=>13-x.2.2.toNat,⟨0,0,64,F,rfl,by omega,by omega,by omega,by omega,fun j=>by have:=hF j;omega,fun j _=>by have:=hF j;omega,B2,F2⟩,?_⟩
  rintro x w3 ⟨i,m,l,F3,rfl,hi3,hm,hl1,hl2,hF3,hF4,B3,G3⟩
  unfold q48_L3
  simp only
  refine cnd_d (fun hci => ?_) fun hci => ?_
  ·have hi2:i<13:=by omega
   have hFi:=hF4 i (Nat.le_refl _)
   refine joinP_id ?_
   refine ixS_o rfl hi2 ?_
   rw [Nat.zero_add]
   refine ld_b (t := .I .i64) (x:=((F3 i:Nat):Int)) B3 (arrC_get hi2) ?_
   refine ⟨fun _ w'=>∃F5:Nat→Nat,(∀j,F5 j≤10200)∧(∀j,i+1≤j→F5 j≤255)∧Blk w' p (arrC .i64 13 fun j=>((F5 j:Nat):Int))∧Fm w1 w' [p],?_,?_⟩
   ·rintro ⟨⟩ w4 ⟨F5,h51,h52,B5,G5⟩
    have h5i:=h51 i
    unfold q48_J1
    simp only
    refine ixS_o rfl hi2 ?_
    rw [Nat.zero_add]
    refine ld_b (t := .I .i64) (x:=((F5 i:Nat):Int)) B5 (arrC_get hi2) ?_
    unfold drw
    refine ixS_o rfl hi2 ?_
    rw [Nat.zero_add]
    refine ld_b (t := .I .i64) (x:=((F5 i:Nat):Int)) B5.drew (arrC_get hi2) ?_
    refine ixS_o rfl hm ?_
    rw [Nat.zero_add]
    refine ld_b (t := .I .i64) (x:=((F5 m:Nat):Int)) B5.drew (arrC_get hm) ?_
    unfold q48_J2
    simp only
    rw [wI64 (x:=l-((F5 i:Nat):Int)) (by omega) (by omega),wI64 (by omega) (by omega)]
    have hms:13-(((i:Nat):Int)+1).toNat<13-((i:Nat):Int).toNat:=by omega
    refine cnd_d (fun _=>⟨⟨i+1,i,l-((F5 i:Nat):Int),F5,by simp,by omega,by omega,by omega,by omega,h51,h52,B5.drew,G5.drew⟩,hms⟩) fun _=>⟨⟨i+1,m,l-((F5 i:Nat):Int),F5,by simp,by omega,hm,by omega,by omega,h51,h52,B5.drew,G5.drew⟩,hms⟩
   ·refine cnd_d (fun hp => ?_) fun _=>⟨F3,hF3,fun j hj=>hF4 j (by omega),B3,G3⟩
    refine ⟨by omega,?_⟩
    refine ixS_o rfl hi2 ?_
    rw [Nat.zero_add]
    refine st_u B3 (by rw [arrC_get hi2];rfl) rfl ?_
    intro w4 B4 G4
    rw [arrC_upd hi2] at B4
    have e1:quoI .i64 (IntKind.i64.wrap (((F3 i:Nat):Int)*40)) (s0.l:Int)=((F3 i*40/s0.l:Nat):Int):=by
     rw [wI64 (by omega) (by omega),show ((F3 i:Nat):Int)*40=((F3 i*40:Nat):Int) by omega,quoI_nat _ _ _ (by simp only [IntKind.bits];omega)]
    have e2:∃v:Nat,v≤10200∧maxI 1 (quoI .i64 (IntKind.i64.wrap (((F3 i:Nat):Int)*40)) (s0.l:Int))=(v:Int):=by
     rw [e1]
     have hd:=Nat.div_le_self (F3 i*40) s0.l
     generalize F3 i*40/s0.l=y at *
     by_cases hy:y≤1
     ·exact ⟨1,by omega,by rw [maxI_le (by omega)];rfl⟩
     ·exact ⟨y,by omega,by rw [maxI_gt (by omega)]⟩
    obtain ⟨v,hv,ev⟩:=e2
    rw [ev] at B4
    refine ⟨upN F3 i v,?_,?_,B4.congr ?_,G3.trans G4 (fun x hx => .inl hx)⟩
    ·intro j
     by_cases e:j=i
     ·subst e;rw [upN_eq];exact hv
     ·rw [upN_ne F3 e];exact hF3 j
    ·intro j hj
     rw [upN_ne F3 (by omega)];exact hF4 j (by omega)
    ·congr 1
     funext j
     unfold updF upN
     split<;>rfl
  ·unfold q48_J4
   simp only
   have hFm:=hF3 m
   refine ixS_o rfl hm ?_
   rw [Nat.zero_add]
   refine ld_b (t := .I .i64) (x:=((F3 m:Nat):Int)) B3 (arrC_get hm) ?_
   refine ixS_o rfl hm ?_
   rw [Nat.zero_add]
   refine st_u B3 (by rw [arrC_get hm];rfl) rfl ?_
   intro w4 B4 G4
   rw [arrC_upd hm,wI64 (by omega) (by omega)] at B4
   have G14:Fm w1 w4 [p]:=G3.trans G4 (fun x hx => .inl hx)
   have Fp:Fm w w4 []:=F1.trans G14 (by intro v hv;right;simp at hv;omega)
   have eu:updF (fun j=>((F3 j:Nat):Int)) m (((F3 m:Nat):Int)+l) m=((F3 m:Nat):Int)+l:=by unfold updF;rw [if_pos rfl]
   refine ixS_o rfl hm ?_
   rw [Nat.zero_add]
   refine ld_b (t := .I .i64) (x:=((F3 m:Nat):Int)+l) B4 (by rw [arrC_get hm,eu];rfl) ?_
   refine cnd_d (fun _=>hk0 w4 Fp) fun hlo => ?_
   refine ixS_o rfl hm ?_
   rw [Nat.zero_add]
   refine ld_b (t := .I .i64) (x:=((F3 m:Nat):Int)+l) B4 (by rw [arrC_get hm,eu];rfl) ?_
   refine cnd_d (fun _=>hk0 w4 Fp) fun hhi => ?_
   have ez:ints ((List.range 13).map (updF (fun j=>((F3 j:Nat):Int)) m (((F3 m:Nat):Int)+l)))=nints ((List.range 13).map (upN F3 m (((F3 m:Nat):Int)+l).toNat)):=by
    unfold nints
    rw [List.map_map]
    congr 2
    funext j
    unfold updF upN
    simp only [Function.comp]
    split
    ·omega
    ·rfl
   have V4:=vec_arr B4
   rw [ez] at V4
   have hl13:((List.range 13).map (upN F3 m (((F3 m:Nat):Int)+l).toNat)).length≤256:=by rw [List.length_map,List.length_range];decide
   have hmem:∀c∈(List.range 13).map (upN F3 m (((F3 m:Nat):Int)+l).toNat),c≤2^20:=by
    intro c hc
    obtain ⟨j,_,rfl⟩:=List.mem_map.mp hc
    by_cases e:j=m
    ·subst e;rw [upN_eq];omega
    ·rw [upN_ne F3 e];have:=hF3 j;omega
   generalize (List.range 13).map (upN F3 m (((F3 m:Nat):Int)+l).toNat)=cs at *
   refine c66 (s0:=⟨some ⟨p,0,none⟩,13,13⟩) (s2:=s0) V4 hl13 hmem (A1.fr G14 (by intro a ha _;simp;exact hap a ha)) hby hwl (fun w5 F5=>⟨fun _=>hk0 w5 (Fp.trans F5 (by simp)),fun h=>by simp at h⟩) ?_
   ·intro w5 s5 r hr hfb V5 F5 n5
    have hrl:=V5.len
    refine ⟨fun h=>by simp at h,fun _ => ?_⟩
    refine cnd_d (fun _=>hk0 w5 (Fp.trans F5 (by simp))) fun h127 => ?_
    have h127:r.length≤127:=by simp only at h127;omega
    simp only
    rw [hrl,wU8 (by omega) (by omega)]
    refine nw_x ?_
    intro pb w6 F6 B6 hpb
    have V6:=VecU.one (by omega:r.length<256) B6
    refine app_vu V6 (V5.fr F6 (by simp)).vec.arr.has (by simp only;omega) ?_
    intro s7 w7 V7 F7 n7
    refine hk1 w7 s7 r hr h127 hfb V7 (((Fp.trans F5 (by simp)).trans F6 (by simp)).trans F7 ?_)
    intro v hv
    simp [Sl.bs] at hv
    have:=Fp.size
    have:=F5.size
    omega
end
theorem sF_mulc (c:Nat) (g:Nat→Nat) (a:Nat):∀n,sF (fun i=>c*g i) a n=c*sF g a n
 | 0=>by simp [sF]
 | n+1=>by rw [sF,sF,sF_mulc c g a n,Nat.mul_add]
structure LW (ln:Nat→Nat):Prop where
 h11:∀i,ln i≤11
 kr:sF (fun i=>if 0<ln i then 2^(11-ln i) else 0) 0 256=2^11
 two:∃x y,x<y∧y<256∧0<ln x∧0<ln y
structure LM (ln:Nat→Nat) (M la:Nat):Prop where
 le:∀i,i<256→ln i≤M
 lat:0<ln la
 la256:la<256
 out:∀i,i<256→la<i→ln i=0
 m11:M≤11
theorem LM.la0 {ln:Nat→Nat} {M la:Nat} (H:LM ln M la) (W:LW ln):0<la:=by
 obtain ⟨x,y,h1,h2,h3,h4⟩:=W.two
 by_cases e:la<y
 ·have:=H.out y h2 e;omega
 ·omega
theorem LM.ht {ln:Nat→Nat} {M la:Nat} (H:LM ln M la) (W:LW ln):HT (fun i=>if 0<ln i then 1 else 0) (la+1) M ln:=by
 have hla:=H.la256
 have hm11:=H.m11
 have hm1:1≤M:=by have:=H.le la hla;have:=H.lat;omega
 refine ⟨?_,fun i hi=>H.le i (by omega),hm1,hm11,?_,?_⟩
 ·intro i _
  show _↔0<if 0<ln i then 1 else 0
  split<;>omega
 ·have e1:sF (fun i=>if 0<ln i then 2^(11-ln i) else 0) 0 256=2^(11-M)*sF (fun i=>if 0<ln i then 2^(M-ln i) else 0) 0 256:=by
   rw [←sF_mulc]
   apply sF_congr
   intro i _ hi
   have:=H.le i (by omega)
   show (if 0<ln i then 2^(11-ln i) else 0)=2^(11-M)*(if 0<ln i then 2^(M-ln i) else 0)
   split
   ·rw [←Nat.pow_add];congr 1;omega
   ·rfl
  have e2:sF (fun i=>if 0<ln i then 2^(M-ln i) else 0) 0 256=sF (fun i=>if 0<ln i then 2^(M-ln i) else 0) 0 (la+1):=by
   have h:=sF_split (fun i=>if 0<ln i then 2^(M-ln i) else 0) (la+1) (256-(la+1))
   rw [show la+1+(256-(la+1))=256 by omega] at h
   have hz:sF (fun i=>if 0<ln i then 2^(M-ln i) else 0) (la+1) (256-(la+1))=0:=sF_z (fun i h1 h2=>by
    show (if 0<ln i then 2^(M-ln i) else 0)=0
    rw [H.out i (by omega) (by omega)];rfl)
   rw [h,hz,Nat.add_zero]
  have hk:=W.kr
  rw [e1,e2] at hk
  have e3:(2:Nat)^11=2^(11-M)*2^M:=by rw [←Nat.pow_add];congr 1;omega
  rw [e3] at hk
  exact Nat.eq_of_mul_eq_mul_left (Nat.two_pow_pos _) hk
 ·intro i j _ _ h1 h2
  have h1':0<if 0<ln j then 1 else 0:=h1
  have h2':(if 0<ln j then 1 else 0)<if 0<ln i then 1 else 0:=h2
  by_cases hj:0<ln j
  ·rw [if_pos hj] at h2'
   split at h2'<;>omega
  ·rw [if_neg hj] at h1';omega
theorem LM.hl {ln:Nat→Nat} {M la used:Nat} {tbl:List Nat} (H:LM ln M la) (W:LW ln) (hw:weightsZ tbl=some (wtL M ln (la+1),used)):∃f,hlZ tbl=some (f,used)∧∀i,i<256→f i=((ln i:Nat):Int):=by
 have h0:=H.la0 W
 have hla:=H.la256
 have two:∃a,a<la+1-1∧0<(fun i=>if 0<ln i then 1 else 0) a:=by
  obtain ⟨x,y,h1,h2,h3,h4⟩:=W.two
  refine ⟨x,?_,?_⟩
  ·by_cases e:la<y
   ·have:=H.out y h2 e;omega
   ·omega
  ·show 0<if 0<ln x then 1 else 0
   rw [if_pos h3];decide
 obtain ⟨f,h1,h2,h3⟩:=hl_ok (H.ht W) (by omega) (by omega) (show 0<if 0<ln (la+1-1) then 1 else 0 by rw [Nat.add_sub_cancel,if_pos H.lat];decide) two hw
 refine ⟨f,h1,fun i hi => ?_⟩
 by_cases e:i<la+1
 ·exact h2 i e
 ·rw [h3 i (by omega),H.out i hi (by omega)];rfl
def rawP (W:Nat→Nat) (i:Nat):List Nat:=(List.range ((i+1)/2)).map fun j=>16*W (2*j)+if 2*j+1<i then W (2*j+1) else 0
theorem rawP_len (W:Nat→Nat) (i:Nat):(rawP W i).length=(i+1)/2:=by simp [rawP]
theorem rawP_even (W:Nat→Nat) {i:Nat} (h:i%2=0):rawP W (i+1)=rawP W i ++ [16*W i]:=by
 obtain ⟨j,rfl⟩:∃j,i=2*j:=⟨i/2,by omega⟩
 unfold rawP
 rw [show (2*j+1+1)/2=j+1 by omega,show (2*j+1)/2=j by omega,List.range_succ,List.map_append]
 congr 1
 ·apply List.map_congr_left
  intro k hk
  have:=List.mem_range.mp hk
  rw [if_pos (by omega),if_pos (by omega)]
 ·show [16*W (2*j)+if 2*j+1<2*j+1 then W (2*j+1) else 0] = [16*W (2*j)]
  rw [if_neg (by omega),Nat.add_zero]
theorem rawP_odd (W:Nat→Nat) {i:Nat} (h:i%2≠0):rawP W (i+1)=(rawP W i).set (i/2) (16*W (i-1)+W i):=by
 obtain ⟨j,rfl⟩:∃j,i=2*j+1:=⟨i/2,by omega⟩
 unfold rawP
 rw [show (2*j+1+1+1)/2=j+1 by omega,show (2*j+1+1)/2=j+1 by omega,show (2*j+1)/2=j by omega,Nat.add_sub_cancel]
 apply List.ext_getElem
 ·simp
 ·intro k h1 h2
  simp only [List.length_map,List.length_range] at h1
  rw [List.getElem_set]
  simp only [List.getElem_map,List.getElem_range]
  by_cases e:j=k
  ·subst e
   rw [if_pos rfl,if_pos (by omega)]
  ·rw [if_neg e,if_pos (by omega),if_pos (by omega)]
theorem rawP_last (W:Nat→Nat) {i:Nat} (h:i%2≠0):(rawP W i)[i/2]? = some (16*W (i-1)):=by
 unfold rawP
 rw [List.getElem?_map,List.getElem?_range (by omega)]
 show some (16*W (2*(i/2))+if 2*(i/2)+1<i then W (2*(i/2)+1) else 0)=some (16*W (i-1))
 rw [if_neg (by omega),show 2*(i/2)=i-1 by omega,Nat.add_zero]
theorem rawP_T (W:Nat→Nat) (la:Nat):(127+la)::rawP W la=rawT W (la+1):=by
 unfold rawT rawP
 rw [show 126+(la+1)=127+la by omega]
 congr 1
 apply List.map_congr_left
 intro j hj
 have:=List.mem_range.mp hj
 unfold rawB padW
 rw [Nat.add_sub_cancel,if_pos (show 2*j<la by omega)]
section
variable {w:World}
theorem VecU.stAt {s:Sl} {l:List Nat} {i v:Nat} {x:Int} {κ:PT} (h:VecU w s l) (hx:x=(i:Int)) (hi:i<l.length) (hk:∀w',VecU w' s (l.set i v)→Fm w w' s.bs→κ w'):ixS 1 s x (fun p=>st p (.int .u8 ((v:Nat):Int)) κ) w:=by
 obtain ⟨sa,sl,sc⟩:=s
 have hl:=h.len
 have hc:=h.vec.cap
 cases sa with
 | none=>have h1:=h.vec.non rfl;simp only at hl hc h1;omega
 | some a =>
  obtain ⟨e1,e2,_⟩:=h.vec.blk a rfl
  obtain ⟨ab,ao,asp⟩:=a
  simp only at e1 e2 hl
  subst e1 e2
  refine ixS_o hx (by omega) ?_
  rw [Nat.zero_add]
  exact h.set hi hk
theorem arr_blk {k:IntKind} {b n:Nat} {F:Nat→Int} {l:List Nat} (B:Blk w b (arrC k n F)) (hl:l.length=n) (h:∀i (hi:i<l.length),F i=((l[i]:Nat):Int)):Arr k w ⟨some ⟨b,0,none⟩,n,n⟩ l:=by
 refine ⟨hl.symm,Nat.le_refl _,(fun e=>by cases e),?_⟩
 intro a ha i hi
 injection ha with ha
 subst ha
 rw [add_mk,Nat.zero_add,B.cell,arrC_get (by omega),h i hi]
theorem c20 {b:Nat} {ln:Nat→Nat} {b1:Bool} {K:Sl×Bool→PT} (B:Blk w b (arrC .i64 256 fun i=>((ln i:Nat):Int))) (W:LW ln)
  (hk0:∀w',Fm w w' []→K (⟨none,0,0⟩,false) w')
  (hk1:b1=false→∀w' s' M la,LM ln M la→la≤128→VecU w' s' (rawT (wtF M ln) (la+1))→Fm w w' []→K (s',true) w')
  (hk2:b1=true→∀w' s' M la r,LM ln M la→By r→r.length≤127→FB (wtL M ln (la+1)) r→VecU w' s' (r.length::r)→Fm w w' []→K (s',true) w') :
  callP Tryd.prog 20 #[.slice (some ⟨b,0,none⟩) 256 256,.bool b1] [.c .S,.c .B] K w:=by
 apply q20_ok (s0:=⟨some ⟨b,0,none⟩,256,256⟩)
 unfold q20
 refine c21 B (fun _=>rfl) W.h11 W.kr W.two ⟨fun h=>by simp at h,fun _ => ?_⟩
 refine joinP_id ?_
 refine ⟨fun x w'=>w'=w∧∃M la i:Nat,x=((M:Int),(la:Int),(i:Int))∧i≤256∧M≤11∧(∀j,j<i→ln j≤M)∧(∀j,j<i→la<j→ln j=0)∧(0<la→0<ln la∧la<i),fun x _=>256-x.2.2.toNat,⟨rfl,0,0,0,rfl,Nat.zero_le _,Nat.zero_le _,fun j hj=>absurd hj (by omega),fun j hj=>absurd hj (by omega),fun h=>absurd h (by omega)⟩,?_⟩
 rintro x w1 ⟨rfl,M,la,i,rfl,hi,hM,hle,hout,hlat⟩
 unfold q20_L1
 simp only
 refine cnd_d (fun hc => ?_) fun hc => ?_
 ·have hi2:i<256:=by omega
  have h11:=W.h11 i
  refine joinP_id ?_
  refine ixS_o rfl hi2 ?_
  rw [Nat.zero_add]
  refine ld_b (t := .I .i64) (x:=((ln i:Nat):Int)) B (arrC_get hi2) ?_
  unfold q20_J0
  simp only
  have hms:256-(((i:Nat):Int)+1).toNat<256-((i:Nat):Int).toNat:=by omega
  have em:∃M':Nat,maxI ((M:Nat):Int) ((ln i:Nat):Int)=(M':Int)∧M'≤11∧M≤M'∧ln i≤M':=by
   by_cases e:ln i≤M
   ·exact ⟨M,maxI_le (by omega),hM,Nat.le_refl _,e⟩
   ·exact ⟨ln i,maxI_gt (by omega),h11,by omega,Nat.le_refl _⟩
  obtain ⟨M',e1,e2,e3,e4⟩:=em
  rw [e1,wI64 (by omega) (by omega)]
  have hle':∀j,j<i+1→ln j≤M':=fun j hj=>by
   by_cases e:j=i
   ·subst e;exact e4
   ·have:=hle j (by omega);omega
  refine cnd_d (fun hp => ?_) fun hp => ?_
  ·exact ⟨⟨by trivial,M',i,i+1,by simp,hi2,e2,hle',fun j h1 h2=>absurd h1 (by omega),fun _=>⟨by omega,by omega⟩⟩,hms⟩
  ·exact ⟨⟨by trivial,M',la,i+1,by simp,hi2,e2,hle',fun j h1 h2=>by
    by_cases e:j=i
    ·subst e;omega
    ·exact hout j (by omega) h2,fun h=>⟨(hlat h).1,by have:=(hlat h).2;omega⟩⟩,hms⟩
 ·have:i=256:=by omega
  subst this
  obtain ⟨x0,y0,t1,t2,t3,t4⟩:=W.two
  have hla1:y0≤la:=by
   by_cases e:la<y0
   ·have:=hout y0 t2 e;omega
   ·omega
  obtain ⟨hlat,hla256⟩:=hlat (by omega)
  have H:LM ln M la:=⟨hle,hlat,hla256,hout,hM⟩
  unfold q20_J9
  simp only
  refine mks1 (k := .u8) (v:=0) (n:=la) rfl rfl (by omega) ?_
  intro w2 F2 hs2 B2
  have hbl:=B.lt
  have hpn:w1.heap.size≤w1.heap.size:=Nat.le_refl _
  generalize hpe:w1.heap.size=p at *
  have Bl:=B.fr F2 (by simp)
  have hbp:b≠p:=by omega
  refine joinP_id ?_
  refine ⟨fun x w'=>∃i:Nat,x=(i:Int)∧i≤la∧Blk w' p (arrC .u8 la fun j=>((if j<i then wtF M ln j else 0:Nat):Int))∧Fm w2 w' [p],fun x _=>la-x.toNat,⟨0,rfl,Nat.zero_le _,B2.congr (by congr 1),Fm.refl _ _⟩,?_⟩
  rintro x w3 ⟨i,rfl,hi,B3,F3⟩
  have Bl3:=Bl.fr F3 (by simp;exact hbp)
  unfold q20_L3
  simp only
  refine cnd_d (fun hci => ?_) fun hci => ?_
  ·have hi2:i<la:=by omega
   have hln:=hle i (by omega)
   refine joinP_id ?_
   refine ixS_o rfl (by omega:i<256) ?_
   rw [Nat.zero_add]
   refine ld_b (t := .I .i64) (x:=((ln i:Nat):Int)) Bl3 (arrC_get (by omega)) ?_
   unfold q20_J2
   rw [wI64 (x:=((i:Nat):Int)+1) (by omega) (by omega)]
   have hms:la-(((i:Nat):Int)+1).toNat<la-((i:Nat):Int).toNat:=by omega
   refine cnd_d (fun hp => ?_) fun hp => ?_
   ·refine ixS_o rfl (by omega:i<256) ?_
    rw [Nat.zero_add]
    refine ld_b (t := .I .i64) (x:=((ln i:Nat):Int)) Bl3 (arrC_get (by omega)) ?_
    refine ixS_o rfl hi2 ?_
    rw [Nat.zero_add]
    refine st_u B3 (by rw [arrC_get hi2];rfl) rfl ?_
    intro w4 B4 F4
    rw [arrC_upd hi2] at B4
    refine ⟨⟨i+1,by simp,hi2,B4.congr ?_,F3.trans F4 (fun x hx => .inl hx)⟩,hms⟩
    congr 1
    funext j
    unfold updF
    by_cases e:j=i
    ·subst e
     rw [if_pos rfl,if_pos (by omega),wI64 (x:=((M:Nat):Int)+1) (by omega) (by omega),wI64 (by omega) (by omega),wU8 (by omega) (by omega)]
     unfold wtF
     rw [b2w_pos (by omega) hln]
     omega
    ·rw [if_neg e]
     show ((if j<i then wtF M ln j else 0:Nat):Int)=((if j<i+1 then wtF M ln j else 0:Nat):Int)
     by_cases e2:j<i
     ·rw [if_pos e2,if_pos (by omega)]
     ·rw [if_neg e2,if_neg (by omega)]
   ·refine ⟨⟨i+1,by simp,hi2,B3.congr ?_,F3⟩,hms⟩
    congr 1
    funext j
    show ((if j<i then wtF M ln j else 0:Nat):Int)=((if j<i+1 then wtF M ln j else 0:Nat):Int)
    by_cases e:j=i
    ·subst e
     rw [if_neg (by omega),if_pos (by omega)]
     unfold wtF
     rw [show ln j=0 by omega,b2w_zero]
    ·by_cases e2:j<i
     ·rw [if_pos e2,if_pos (by omega)]
     ·rw [if_neg e2,if_neg (by omega)]
  ·have:i=la:=by omega
   subst this
   have hwl:(wtL M ln (i+1)).length=i:=by simp [wtL]
   have A3:Arr .u8 w3 ⟨some ⟨p,0,none⟩,i,i⟩ (wtL M ln (i+1)):=by
    refine arr_blk B3 hwl ?_
    intro j hj
    rw [hwl] at hj
    rw [if_pos hj]
    simp [wtL]
   have Fp:Fm w1 w3 []:=F2.trans F3 (by intro v hv;right;simp at hv;omega)
   have hw11:∀n,wtF M ln n≤11:=fun n=>by have:=b2w_le M (ln n);unfold wtF;omega
   unfold q20_J8
   refine ⟨fun hb => ?_,fun hb => ?_⟩
   ·refine c48 A3 ?_ (by omega) (by omega) (fun w4 F4=>hk0 w4 (Fp.trans F4 (by simp))) ?_
    ·intro x hx
     unfold wtL at hx
     obtain ⟨j,_,rfl⟩:=List.mem_map.mp hx
     have:=hw11 j;omega
    ·intro w4 s4 r hr hrl hfb V4 F4
     exact hk2 hb w4 s4 M i r H hr hrl hfb V4 (Fp.trans F4 (by simp))
   ·refine cnd_d (fun _=>hk0 w3 Fp) fun h128 => ?_
    have h128:i≤128:=by simp only at h128;omega
    rw [wI64 (by simp only;omega) (by simp only;omega),wU8 (by simp only;omega) (by simp only;omega),show (127:Int)+((i:Nat):Int)=((127+i:Nat):Int) by omega]
    refine nw_x ?_
    intro pb w4 F4 B4 hpb
    have V4:=VecU.one (by omega:127+i<256) B4
    have A4:=A3.fr F4 (by simp)
    have hpb3:p<pb:=by have:=B3.lt;omega
    refine joinP_id ?_
    refine ⟨fun x w'=>∃j:Nat,x.2=(j:Int)∧j≤i∧VecU w' x.1 ((127+i)::rawP (wtF M ln) j)∧Fm w3 w' []∧(∀y∈x.1.bs,w3.heap.size≤y),fun x _=>i-x.2.toNat,⟨0,rfl,Nat.zero_le _,V4,F4,by intro y hy;simp [Sl.bs] at hy;omega⟩,?_⟩
    rintro ⟨xs,xi⟩ w5 ⟨j,hxj,hj,V5,F5,n5⟩
    simp only at hxj V5 n5
    subst hxj
    have hp5:p<w3.heap.size:=B3.lt
    have A5:=A3.fr F5 (by simp)
    have hs5:=F5.size
    unfold q20_L6
    simp only
    refine cnd_d (fun hcj => ?_) fun hcj => ?_
    ·have hj2:j<i:=by omega
     have hjw:j<(wtL M ln (i+1)).length:=by omega
     have hwj:(wtL M ln (i+1))[j]=wtF M ln j:=by simp [wtL]
     have hms:i-(((j:Nat):Int)+1).toNat<i-((j:Nat):Int).toNat:=by omega
     refine joinP_id ?_
     unfold q20_X5
     simp only
     refine A5.ldk j rfl hjw ?_
     intro q hq
     rw [hwj] at hq
     refine ld_c (t := .I .u8) (x:=((wtF M ln j:Nat):Int)) hq ?_
     refine ⟨by decide,?_⟩
     have etm:Int.tmod ((j:Nat):Int) 2=((j%2:Nat):Int):=rfl
     rw [etm]
     have hl5:=V5.len
     rw [List.length_cons,rawP_len] at hl5
     unfold q20_J4
     simp only
     rw [wI64 (x:=((j:Nat):Int)+1) (by omega) (by omega)]
     have hw15:=hw11 j
     refine cnd_d (fun h0 => ?_) fun h0 => ?_
     ·have h0:j%2=0:=by omega
      refine ⟨by decide,?_⟩
      have esh:shlI .u8 ((wtF M ln j:Nat):Int) 4=((16*wtF M ln j:Nat):Int):=by
       rw [show (4:Int)=((4:Nat):Int) from rfl,shlI_u rfl _ 4 (by decide)]
       congr 1
       simp only [IntKind.bits];omega
      rw [esh]
      refine app_1u V5 (by omega) ?_
      intro s6 w6 V6 F6 n6
      refine ⟨⟨j+1,by simp,hj2,?_,F5.trans F6 (fun v hv => .inr (n5 v hv)),?_⟩,hms⟩
      ·rw [rawP_even _ h0];exact V6
      ·intro y hy
       rcases n6 y hy with h|h
       ·exact n5 y h
       ·omega
     ·have h0:j%2≠0:=by omega
      have ei:IntKind.i64.wrap ((xs.l:Int)-1)=((j/2+1:Nat):Int):=by rw [wI64 (by omega) (by omega)];omega
      rw [ei]
      have hjl:j/2+1<((127+i)::rawP (wtF M ln) j).length:=by rw [List.length_cons,rawP_len];omega
      have hge:((127+i)::rawP (wtF M ln) j)[j/2+1]=16*wtF M ln (j-1):=by
       have h1:=rawP_last (wtF M ln) h0
       have h2:((127+i)::rawP (wtF M ln) j)[j/2+1]? = some (16*wtF M ln (j-1)):=by rw [List.getElem?_cons_succ];exact h1
       rw [List.getElem?_eq_getElem hjl] at h2
       exact Option.some.inj h2
      refine V5.vec.arr.ldk (j/2+1) rfl hjl ?_
      intro q2 hq2
      rw [hge] at hq2
      refine ld_c (t := .I .u8) (x:=((16*wtF M ln (j-1):Nat):Int)) hq2 ?_
      have hw15':=hw11 (j-1)
      have eor:orI .u8 ((16*wtF M ln (j-1):Nat):Int) ((wtF M ln j:Nat):Int)=((16*wtF M ln (j-1)+wtF M ln j:Nat):Int):=by
       rw [orI_nat (k := .u8) rfl _ _ (by simp only [IntKind.bits];omega) (by simp only [IntKind.bits];omega)]
       have:=Nat.two_pow_add_eq_or_of_lt (i:=4) (b:=wtF M ln j) (by omega) (wtF M ln (j-1))
       rw [show 16*wtF M ln (j-1)=2^4*wtF M ln (j-1) from rfl, ←this]
      rw [eor]
      refine V5.stAt rfl hjl ?_
      intro w6 V6 F6
      refine ⟨⟨j+1,by simp,hj2,?_,F5.trans F6 (fun v hv => .inr (n5 v hv)),n5⟩,hms⟩
      rw [rawP_odd _ h0]
      exact V6
    ·have:j=i:=by omega
     subst this
     unfold q20_J7
     rw [rawP_T] at V5
     exact hk1 (by simpa using hb) w5 xs M j H h128 V5 (Fp.trans F5 (by simp))
end
def boC (n:Nat) (H:Nat→Bool):Cells:=fun i=>if i<n then some (.bool (H i)) else none
theorem boC_get {n i:Nat} {H:Nat→Bool} (h:i<n):boC n H i=some (.bool (H i)):=if_pos h
def upB (H:Nat→Bool) (o:Nat) (v:Bool):Nat→Bool:=fun i=>if i=o then v else H i
theorem boC_upd {n i:Nat} {H:Nat→Bool} {v:Bool} (h:i<n):updC (boC n H) i (.bool v)=boC n (upB H i v):=by
 funext j
 unfold updC boC upB
 by_cases e:j=i
 ·subst e;rw [if_pos rfl,if_pos h,if_pos rfl]
 ·rw [if_neg e,if_neg e]
def chL (H:Nat→Bool) (n:Nat):List Nat:=(List.range n).filter H
theorem chL_succ (H:Nat→Bool) (n:Nat):chL H (n+1)=chL H n++if H n then [n] else []:=by
 unfold chL
 rw [List.range_succ,List.filter_append]
 congr 1
 cases h:H n<;>simp [h]
theorem chL_lt {H:Nat→Bool} {n:Nat} : ∀x∈chL H n,x<n:=fun x hx=>List.mem_range.mp (List.mem_filter.mp hx).1
theorem chL_len (H:Nat→Bool) (n:Nat):(chL H n).length≤n:=by
 have:=List.length_filter_le H (List.range n)
 rw [List.length_range] at this
 exact this
theorem chL_sort (H:Nat→Bool) (n:Nat):(chL H n).Pairwise (· < ·):=List.Pairwise.filter _ List.pairwise_lt_range
section
variable {w:World}
theorem c18 {s0:Sl} {xs:List Nat} {K:Sl→PT} (A:Arr .u8 w s0 xs) (hby:By xs) (hxl:xs.length≤2^40)
  (hk:∀w' s' H,VecU w' s' (chL H 256)→Fm w w' []→(∀x∈s'.bs,w.heap.size≤x)→K s' w') :
  callP Tryd.prog 18 #[.slice s0.a s0.l s0.c,.int .i64 256] [.c .S] K w:=by
 have hsl:=A.len
 apply q18_ok
 unfold q18
 refine nw_x ?_
 intro p w1 F1 B1 hp
 have B1':Blk w1 p (boC 256 fun _=>false):=B1.congr (by
  funext i
  unfold boC z74
  rw [List.getElem?_toArray,List.getElem?_replicate])
 have A1:=A.fr F1 (by simp)
 have hap:∀a,s0.a=some a→xs ≠ []→a.block≠p:=by
  intro a ha hx
  have:=A.old hx a ha
  omega
 refine joinP_id ?_
 refine ⟨fun x w'=>∃(n i:Nat) (H:Nat→Bool),x=((n:Int),(i:Int))∧i≤xs.length∧n≤i∧Blk w' p (boC 256 H)∧Fm w1 w' [p],fun x _=>xs.length-x.2.toNat,⟨0,0,_,rfl,Nat.zero_le _,Nat.le_refl _,B1',Fm.refl _ _⟩,?_⟩
 rintro x w2 ⟨n,i,H,rfl,hi,hn,B2,F2⟩
 unfold q18_L1
 simp only
 refine cnd_d (fun hc => ?_) fun hc => ?_
 ·have hi2:i<xs.length:=by omega
  have A2:=A1.fr F2 (by intro a ha hx;simp;exact hap a ha hx)
  have h256:=hby _ (List.getElem_mem hi2)
  have hms:xs.length-(((i:Nat):Int)+1).toNat<xs.length-((i:Nat):Int).toNat:=by omega
  refine joinP_id ?_
  refine A2.ldk i rfl hi2 ?_
  intro q hq
  refine ld_c (t := .I .u8) (x:=((xs[i]:Nat):Int)) hq ?_
  unfold q18_J0
  simp only
  rw [wI64 (x:=((i:Nat):Int)+1) (by omega) (by omega)]
  refine cnd_d (fun _ => ?_) fun _=>⟨⟨n,i+1,H,by simp,hi2,by omega,B2,F2⟩,hms⟩
  refine ixA_o rfl h256 ?_
  rw [Nat.zero_add]
  refine ld_b (t := .B) (x:=H xs[i]) B2 (boC_get h256) ⟨fun _ => ?_,fun _=>⟨⟨n,i+1,H,by simp,hi2,by omega,B2,F2⟩,hms⟩⟩
  refine ixA_o rfl h256 ?_
  rw [Nat.zero_add]
  refine st_u B2 (by rw [boC_get h256];rfl) rfl ?_
  intro w3 B3 F3
  rw [boC_upd h256] at B3
  rw [wI64 (by omega) (by omega)]
  exact ⟨⟨n+1,i+1,_,by simp,hi2,by omega,B3,F2.trans F3 (fun x hx => .inl hx)⟩,hms⟩
 ·unfold q18_J5
  refine joinP_id ?_
  refine ldA_b B2 (fun i hi=>by rw [boC_get hi];rfl) ?_
  intro cs hcs hce
  have Fp:Fm w w2 []:=F1.trans F2 (by intro v hv;right;simp at hv;omega)
  refine ⟨fun x w'=>∃j:Nat,x.2=(j:Int)∧j≤256∧VecU w' x.1 (chL H j)∧Fm w2 w' []∧(∀y∈x.1.bs,w2.heap.size≤y),fun x _=>256-x.2.toNat,⟨0,rfl,Nat.zero_le _,⟨Vec.nil,(fun a ha=>by cases ha),(by decide)⟩,Fm.refl _ _,by simp [Sl.bs]⟩,?_⟩
  rintro ⟨ys,yi⟩ w3 ⟨j,hyj,hj,V3,F3,n3⟩
  simp only at hyj V3 n3
  subst hyj
  have hs3:=F3.size
  have hsp:=Fp.size
  unfold q18_L3
  simp only
  refine cnd_d (fun hcj => ?_) fun hcj => ?_
  ·have hj2:j<256:=by omega
   have hms:256-(((j:Nat):Int)+1).toNat<256-((j:Nat):Int).toNat:=by omega
   refine joinP_id ?_
   refine ⟨j,rfl,hj2,H j,by rw [hce j hj2,boC_get hj2];rfl,?_⟩
   unfold q18_J2
   simp only
   rw [wI64 (x:=((j:Nat):Int)+1) (by omega) (by omega),wU8 (x:=((j:Nat):Int)) (by omega) (by omega)]
   have hcl:=chL_succ H j
   refine ⟨fun hb => ?_,fun hb => ?_⟩
   ·have hlv:=V3.len
    have hcn:=chL_len H j
    refine app_1u V3 (by omega) ?_
    intro s4 w4 V4 F4 n4
    rw [hb,if_pos rfl] at hcl
    rw [←hcl] at V4
    refine ⟨⟨j+1,by simp,hj2,V4,F3.trans F4 (fun v hv => .inr (n3 v hv)),?_⟩,hms⟩
    intro y hy
    rcases n4 y hy with h|h
    ·exact n3 y h
    ·omega
   ·rw [hb,if_neg (by decide),List.append_nil] at hcl
    rw [←hcl] at V3
    exact ⟨⟨j+1,by simp,hj2,V3,F3,n3⟩,hms⟩
  ·have:j=256:=by omega
   subst this
   unfold q18_J4
   refine hk w3 ys H V3 (Fp.trans F3 (by simp)) ?_
   intro v hv
   have:=n3 v hv
   omega
end
end Go.Sx
