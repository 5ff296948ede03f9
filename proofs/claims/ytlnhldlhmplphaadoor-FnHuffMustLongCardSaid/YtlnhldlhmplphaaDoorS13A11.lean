/- Lemmas for the proof: H68. No conditions. -/
import Derived.Test.YtlnhldlhmplphaaDoorS13A10
set_option linter.unusedVariables false
set_option linter.unusedSimpArgs false
namespace Go.Sx
open Go Go.Proofs
set_option maxRecDepth 4000
theorem sF_countE:∀ {xs:List Nat} {n:Nat},(∀x∈xs,x<n)→sF (fun i=>xs.count i) 0 n=xs.length
 | [],n,_=>sF_zero (fun i _=>by simp)
 | x::r,n,h=>by
  have e:sF (fun i=>(x::r).count i) 0 n=sF (fun i=>r.count i) 0 n+sF (fun i=>if x=i then 1 else 0) 0 n:=by
   rw [←sF_add]
   refine sF_congr (fun i _ _ => ?_)
   rw [List.count_cons]
   by_cases h:x=i
   ·subst h;simp
   ·rw [if_neg (by simpa using h),if_neg h]
  rw [e,sF_countE (fun y hy=>h y (List.mem_cons_of_mem _ hy)),sF_single (h x (List.mem_cons_self ..)) (fun i _ hi=>if_neg (fun e=>hi e.symm)),if_pos rfl,List.length_cons]
theorem BR.nt {xs:List Nat} {L k M:Nat} {ln:Nat→Nat} (hB:BR (fun i=>xs.count i) L k M ln) (hby:By xs) (hle:xs.length≤262143):NT xs M ln L∧LenR (fun i=>xs.count i) L xs.length 11 M ln:=by
 have hs:sF (fun i=>xs.count i) 0 256=xs.length:=sF_countE (fun x hx=>hby x hx)
 have hk:k=0:=by
  refine hB.sh.uniq ⟨?_,fun j hj=>absurd hj (Nat.not_lt_zero _)⟩
  rw [Nat.pow_zero,Nat.div_one,hs];exact hle
 subst hk
 have e0:(fun i=>scN 0 (xs.count i))=fun i=>xs.count i:=by funext i;exact scN_zero _
 have h1:=hB.ht
 have h2:=hB.lr
 rw [e0] at h1
 rw [e0,hs] at h2
 refine ⟨⟨h1,hB.l2,hB.l256,?_,hB.last,hB.two⟩,h2⟩
 intro i hi
 rcases Nat.lt_or_ge i 256 with h|h
 ·exact hB.out i hi h
 ·exact List.count_eq_zero.mpr (fun hh=>by have:=hby i hh;omega)
theorem NT.Lu {xs:List Nat} {M M' L L':Nat} {ln ln':Nat→Nat} (h:NT xs M ln L) (h':NT xs M' ln' L'):L=L':=by
 have key:∀ {A B MA MB:Nat} {la lb:Nat→Nat},NT xs MA la A→NT xs MB lb B→B≤A:=by
  intro A B MA MB la lb hA hB
  refine Classical.byContradiction fun hn => ?_
  have h1:=hA.out (B-1) (by have:=hB.l2;omega)
  have:=hB.last
  omega
 have:=key h h'
 have:=key h' h
 omega
theorem encT_len {xs ol:List Nat} {cd ln:Nat→Nat} (h:EncT cd ln xs ol):ol.length=bitsL ln xs/8+1:=by
 have h3:=h.2.2
 rw [hE_bits] at h3
 exact h3
theorem wz_pos {tbl ws:List Nat} {n:Nat} (h:weightsZ tbl=some (ws,n)):0<tbl.length:=by
 cases tbl with
 | nil=>simp [weightsZ] at h
 | cons x r=>simp
theorem law13 {w:World} {s0:Sl} {xs:List Nat} {K:Bool→PT} (G:GE w) (A:Arr .u8 w s0 xs) (hby:By xs) (hk:∀w',Fm w w' []→K true w'):callP Tryd.prog 13 #[.slice s0.a s0.l s0.c] [.c .B] K w:=by
 have hsl:=A.len
 apply q13_ok
 unfold q13
 refine cnd_d (fun _=>hk _ (Fm.refl _ _)) (fun _=>cnd_d (fun _=>hk _ (Fm.refl _ _)) (fun hle0 => ?_))
 have hle:xs.length≤262143:=by omega
 have hcnt:∀i,i<256→xs.count i≤2^18:=fun i _=>by have:xs.count i≤xs.length:=List.count_le_length;omega
 refine c30 A hby (by omega) ?_
 intro w1 b F1 hb C1
 have G1:=G.fm F1
 have A1:=A.fr F1 (by simp)
 refine c39 (cnt:=fun i=>xs.count i) G1 C1 hcnt ?_ ?_
 ·intro w2 k h1 h2 _ F2
  have hne:¬k=0:=by omega
  have go:∀(w3:World) (r4:Sl×Int),Fm w2 w3 []→cnd (!decide (k=(0:Int))) (joinP (fun R5=>cnd (!decide (k=(0:Int))) (R5 true) (callP Tryd.prog 25 #[(.int .i64 r4.2)] [.c .B] fun (r6:Bool)=>R5 r6)) (q13_J0 K)) (K false) w3:=by
   intro w3 r4 F3
   refine cnd_nd (fun _=>joinP_id (cnd_nd (fun _ => ?_) (fun h=>absurd h hne))) (fun h=>absurd h hne)
   unfold q13_J0
   exact hk _ ((F1.trans F2 (by simp)).trans F3 (by simp))
  have C2:=C1.fr F2 (by simp)
  have A2:=A1.fr F2 (by simp)
  refine c41 (cnt:=fun i=>xs.count i) (G1.fm F2) C2 hcnt A2 hby (by omega) ?_ ?_
  ·intro w3 k3 h3 h4 F3
   exact ⟨fun h=>(go w3 (⟨none,0,0⟩,k3) F3).1 h,fun h=>absurd (by simpa using h) hne⟩
  ·intro w3 o M ln L k3 ol _ _ _ _ V3 F3
   exact ⟨fun h=>(go w3 (o,0) F3).1 h,fun h=>absurd (by simpa using h) hne⟩
 ·intro w2 T M ln L k tbl hB hbt hbl hwt VT F2
  have C2:=C1.fr F2 (by simp)
  have A2:=A1.fr F2 (by simp)
  have F02:=F1.trans F2 (by simp)
  refine c41 (cnt:=fun i=>xs.count i) (G1.fm F2) C2 hcnt A2 hby (by omega) ?_ ?_
  ·intro w3 k3 h3 h4 F3
   have hne:¬k3=0:=by omega
   refine cnd_nd (fun h=>absurd rfl h) (fun _=>cnd_nd (fun _ => ?_) (fun h=>absurd h hne))
   refine joinP_id (cnd_nd (fun h=>absurd rfl h) (fun _ => ?_))
   refine c25 (k:=k3) (by omega) h4 ?_
   unfold q13_J1
   exact hk _ (F02.trans F3 (by simp))
  ·intro w3 o M' ln' L' k' ol hB' hEn hx hlt VO F3
   obtain ⟨rfl,rfl,rfl⟩:=hB.uniq hB'
   obtain ⟨hN,hLR⟩:=hB.nt hby hle
   obtain ⟨f,hf,hfx⟩:=hN.hl hwt
   have VT3:=VT.fr F3 (by simp)
   have A3:=A2.fr F3 (by simp)
   have F03:=F02.trans F3 (by simp)
   refine cnd_nd (fun h=>absurd rfl h) (fun _=>cnd_nd (fun h=>absurd rfl h) (fun _ => ?_))
   refine c15 VT3.vec.arr hbt (by omega) (fun h=>by rw [hf] at h;cases h) ?_
   intro f' used hf' w4 b4 F4 hbs B4
   rw [hf] at hf'
   injection hf' with hf'
   injection hf' with e1 e2
   subst e1 e2
   have A4:=A3.fr F4 (by simp)
   have F04:=F03.trans F4 (by simp)
   refine ⟨(fun h=>by cases h),fun _ => ?_⟩
   refine c28 (ln:=lnx L ln) B4 A4 hby (by omega) ?_ ?_
   ·intro x hx
    obtain ⟨h1,h2,h3⟩:=hN.mem hx
    rw [hfx x,lnx_lt h1]
    exact ⟨rfl,h2,h3⟩
   ·have eb:bitsL (lnx L ln) xs=bitsL ln xs:=bitsL_congr (fun x hx=>lnx_lt (hN.mem hx).1)
    have hbb:=bitsL_le (ln:=ln) (xs:=xs) xs.length (fun x hx=>(hN.mem hx).2.2)
    rw [List.take_length] at hbb
    have hol:=VO.len
    have hel:=encT_len hEn
    refine ⟨by decide,?_⟩
    rw [eb,show (8:Int)=((8:Nat):Int) from rfl,quoI_nat _ _ _ (by simp only [IntKind.bits];omega),wI64 (by omega) (by omega)]
    refine cnd_nd (fun h=>absurd (by simp only;omega) h) (fun _ => ?_)
    refine c24 (b:=false) (t:=0) (G.fm F04) A4 hby (by omega) (by decide) ?_ ?_
    ·intro w5 k5 h1 h2 F5
     have hne:¬k5=0:=by omega
     refine joinP_id (cnd_nd (fun _ => ?_) (fun h=>absurd h hne))
     unfold q13_J2
     exact hk _ (F04.trans F5 (by simp))
    ·intro w5 o5 T5 D5 M5 ln5 L5 tbl5 ol5 _ _ hN5 hLR5 hbt5 hwt5 hEn5 hlt5 VO5 VT5 VD5 F5
     have hLL:=hN.Lu hN5
     subst hLL
     obtain ⟨rfl,rfl⟩:=hLR.uniq hLR5
     have hEn5:EncT (vC ln L M) ln xs ol5:=hEn5
     have hel5:=encT_len hEn5
     have hd5:=VD5.len
     have ht5:=VT5.len
     have htp:=wz_pos hwt5
     refine joinP_id (cnd_nd (fun h=>absurd rfl h) (fun _=>cnd_d (fun _ => ?_) (fun h=>absurd (by simp only;omega) h)))
     have hd:decide ((D5.l:Int)≤(o.l:Int))=true:=decide_eq_true (by omega)
     simp only
     rw [hd]
     unfold q13_J2
     exact hk _ (F04.trans F5 (by simp))
end Go.Sx
