/- Lemmas for the proof: H81 H82 H83 H84. No conditions. -/
import Derived.Test.YtlnhldlhmplphaaDoorS3A08
set_option linter.unusedVariables false
set_option linter.unusedSimpArgs false
namespace Go.Sx
open Go Go.Proofs
set_option maxRecDepth 4000
theorem RTo.sw {w w':World} {g ob pb fb:Nat} {s:HU} {fs:FS} {ws:List Nat} {M:Nat} (H:RTo w w' g ob pb fb s fs ws M):SW w' fb fs:=by
 have ho:fs.out.bs = []:=by rw [H.ff.out];rfl
 have ht:fs.tt.bs = []:=by rw [H.ff.tt];rfl
 refine ⟨H.ff.blk,by rw [H.ff.out];exact Own.none,H.ff.own.1,H.ff.own.2,by rw [H.ff.tt];exact Own.none,by rw [ho];simp,fun h=>(H.d7 fb h).2.2.2 rfl,fun h=>(H.d8 fb h).2.2.2 rfl,by rw [ht];simp,by rw [ho];simp,by rw [ho];simp,by rw [ho];simp,?_,by rw [ht];simp,by rw [ht];simp⟩
 rcases H.ff.ts with ⟨e1,_⟩|⟨ts,sb,_,_,a3,a4,a5,_⟩
 ·rw [e1];simp [Sl.bs]
 ·rw [a4,a5];simpa [Sl.bs] using a3
theorem RTo.ge {w w':World} {g ob pb fb:Nat} {s:HU} {fs:FS} {ws:List Nat} {M:Nat} (H:RTo w w' g ob pb fb s fs ws M):∀v∈SB fb fs,w.heap.size≤v:=by
 have ho:fs.out.bs = []:=by rw [H.ff.out];rfl
 have ht:fs.tt.bs = []:=by rw [H.ff.tt];rfl
 intro v hv
 rw [mem_SB,ho,ht] at hv
 rcases hv with h|h|h|h|h
 ·rw [h];exact H.nf
 ·cases h
 ·rcases H.ff.ts with ⟨e1,_⟩|⟨ts,sb,a1,_,_,a4,_⟩
  ·rw [e1] at h;simp [Sl.bs] at h
  ·rw [a4] at h;simp [Sl.bs] at h;omega
 ·rcases H.ff.ts with ⟨_,e1⟩|⟨ts,sb,_,a1,_,_,a4,_⟩
  ·rw [e1] at h;simp [Sl.bs] at h
  ·rw [a4] at h;simp [Sl.bs] at h;omega
 ·cases h
theorem RTo.ap {w w':World} {g ob pb fb:Nat} {s:HU} {fs:FS} {ws:List Nat} {M:Nat} (H:RTo w w' g ob pb fb s fs ws M):∀v∈SB fb fs,v≠g∧v≠ob∧v≠pb:=by
 have ho:fs.out.bs = []:=by rw [H.ff.out];rfl
 have ht:fs.tt.bs = []:=by rw [H.ff.tt];rfl
 intro v hv
 rw [mem_SB,ho,ht] at hv
 rcases hv with h|h|h|h|h
 ·rw [h];exact ⟨H.d3.symm,H.d5.symm,H.d6.symm⟩
 ·cases h
 ·have:=H.d7 v h;exact ⟨this.1,this.2.1,this.2.2.1⟩
 ·have:=H.d8 v h;exact ⟨this.1,this.2.1,this.2.2.1⟩
 ·cases h
theorem wtL_lnW {ws:List Nat} {M:Nat} (h:WK ws M):wtL M (lnW M (fullZ ws)) (fullZ ws).length=ws:=by
 have hfl:(fullZ ws).length=ws.length+1:=by unfold fullZ;simp
 have e:wtL M (lnW M (fullZ ws)) (fullZ ws).length=(List.range ws.length).map (wtF M (lnW M (fullZ ws))):=by unfold wtL;rw [hfl,Nat.add_sub_cancel]
 rw [e]
 apply List.ext_getElem
 ·simp
 ·intro i h1 h2
  simp only [List.getElem_map,List.getElem_range]
  have hg:(fullZ ws).getD i 0=ws[i]:=by
   unfold fullZ
   rw [getD_in (by simp;omega),List.getElem_append_left h2]
  have hle:=h.le _ (List.getElem_mem h2)
  unfold wtF b2w lnW
  rw [hg]
  by_cases e:ws[i]=0
  ·simp [e]
  ·rw [if_neg e,if_neg (by omega)];omega
section
variable {w0 w:World} {g ob pb fb M:Nat} {s:HU} {fs:FS} {ws:List Nat}
theorem c46r {K2:Sl×Value→PT} (H:RTo w0 w g ob pb fb s fs ws M) (hK:WK ws M) (hG:GL w) (hE:errAt w 0) (h9:9≤w0.heap.size)
  (hk0:129<(fullZ ws).length→∀w' v,EG w' v→(∃S,Fm w w' S∧∀v∈S,w0.heap.size≤v)→K2 (⟨none,0,0⟩,v) w')
  (hk1:∀w' o tbl,By tbl→tbl.length≤129→weightsZ tbl=some (ws,tbl.length)→VecU w' o tbl→(∃S,Fm w w' S∧∀v∈S,w0.heap.size≤v)→K2 (o,.nilIface) w') :
  callP Tryd.prog 46 #[.pointer (some ⟨g,0,none⟩),.slice none 0 0] [.c .S,.c .V] K2 w:=by
 have hwt:=wtL_lnW hK
 have hfl:(fullZ ws).length=ws.length+1:=by unfold fullZ;simp
 have hL256:(fullZ ws).length≤256:=by have:=hK.len;omega
 have hne:=hK.ne
 have hws0:ws ≠ []:=by intro e;subst e;exact hne rfl
 have hwl:=List.length_pos_iff.mpr hws0
 obtain ⟨Q,HQ',hQ⟩:=H.ptb
 obtain ⟨Fo,HOb⟩:=H.ob_
 have h2:2≤(fullZ ws).length:=by omega
 have SWf:=H.sw
 have hfse:=H.fse
 have hptl:=H.ptl
 have e1:=H.ptS
 have hO:VecU w s.out []:=by rw [H.out];exact VecU.fresh HOb
 have hle:∀i,i<(fullZ ws).length→lnW M (fullZ ws) i≤M:=by intro i _;unfold lnW;split<;>omega
 have m1:1≤M:=by have:=hK.lg;omega
 have hob:s.out.bs = [ob]:=by rw [H.out];rfl
 generalize hL:(fullZ ws).length=L at *
 generalize hln:lnW M (fullZ ws)=ln at *
 have hol:=hO.len
 have hout:(⟨s.out.a,0,s.out.c⟩:Sl)=s.out:=by rw [H.out]
 apply q46_ok (p0:=⟨g,0,none⟩) (s1:=⟨none,0,0⟩)
 unfold q46
 simp only [add_mk,Nat.zero_add]
 refine ⟨(fun h=>by cases h),fun _ => ?_⟩
 refine ld_b (t := .S) (x:=⟨some ⟨pb,0,none⟩,L,256⟩) H.blk (by show some s.pt.val=_;rw [e1];rfl) (cnd_d (fun h=>absurd h (by simp only;omega)) (fun _ => ?_))
 refine ld_b (t := .S) (x:=s.out) H.blk rfl ?_
 refine ld_b (t := .I .u8) (x:=s.atl) H.blk rfl ?_
 refine ld_b (t := .I .u16) (x:=s.symL) H.blk rfl ?_
 refine joinP_id ?_
 refine ld_b (t := .P) (x:=some ⟨fb,0,none⟩) H.blk (by show some (Value.pointer s.fse)=_;rw [hfse];rfl) ⟨(fun h=>by cases h),fun _ => ?_⟩
 unfold q46_J0
 simp only [add_mk,Nat.zero_add]
 refine ld_b (t := .S) (x:=s.out) H.blk rfl ?_
 refine slc_hi (m:=0) rfl (Nat.zero_le _) ?_
 refine st_u H.blk rfl rfl ?_
 intro w1 B1 F1
 have B1':Blk w1 g s.at:=by
  refine B1.congr ?_
  rw [hout]
  exact HU.setT (s:=s) (s':=s) 0 rfl rfl rfl (by decide)
 refine ld_b (t := .I .u8) (x:=((M:Nat):Int)) B1' (by show some (Value.int .u8 s.ptl)=_;rw [hptl];rfl) ?_
 refine st_u B1' rfl rfl ?_
 intro w2 B2 F2
 have B2':=B2.congr (HU.setT (s' := { s with atl:=((M:Nat):Int) }) 12 rfl rfl rfl (by decide))
 refine ld_b (t := .S) (x:=⟨some ⟨pb,0,none⟩,L,256⟩) B2' (by show some s.pt.val=_;rw [e1];rfl) ?_
 have eL:IntKind.u16.wrap ((L:Nat):Int)=((L:Nat):Int):=wU16 (by omega) (by omega)
 dsimp only
 rw [eL]
 refine st_u B2' rfl rfl ?_
 intro w3 B3 F3
 have B3':=B3.congr (HU.setT (s' := { s with atl:=((M:Nat):Int),symL:=((L:Nat):Int) }) 9 rfl rfl rfl (by decide))
 refine ld_b (t := .S) (x:=⟨some ⟨pb,0,none⟩,L,256⟩) B3' (by show some s.pt.val=_;rw [e1];rfl) ?_
 have F03:Fm w w3 [g]:=(F1.trans F2 (fun x hx => .inl hx)).trans F3 (fun x hx => .inl hx)
 have g9:9≤g:=by have:=H.ng;omega
 have o9:9≤ob:=by have:=H.no;omega
 have s9:∀v∈SB fb fs,9≤v:=fun v hv=>by have:=H.ge v hv;omega
 have dgo:g∉s.out.bs:=by rw [hob];simpa using H.d1
 have dgf:g∉SB fb fs:=fun h=>(H.ap g h).1 rfl
 have dof:∀v∈s.out.bs,v∉SB fb fs:=fun v hv h=>by rw [hob] at hv;simp at hv;exact (H.ap v h).2.1 hv
 have n9:∀v ∈ [g],9≤v:=by intro v hv;simp at hv;rw [hv];exact g9
 have hown:∀v∈g::(s.out.bs++SB fb fs),w0.heap.size≤v:=by
  intro v hv
  rcases List.mem_cons.mp hv with h|h
  ·rw [h];exact H.ng
  ·rcases List.mem_append.mp h with h|h
   ·rw [hob] at h;simp at h;rw [h];exact H.no
   ·exact H.ge v h
 refine c65 (M:=M) (L:=L) (ln:=ln) (pre := []) (tb:=pb) B3' rfl h2 hL256 rfl m1 hK.m11 hfse (SWf.mv F03 (fun v hv=>nm1 (fun e=>dgf (e▸hv)))) (hG.fm F03 n9) (hE.fm F03 (fun h=>by have:=n9 0 h;omega)) s9 g9
  (hO.fr F03 (fun v hv=>nm1 (fun e=>dgo (e▸hv)))) (fun v hv=>by rw [hob] at hv;simp at hv;omega) (by simp) (HQ'.fr F03 (nm1 H.d2.symm)) hQ hle dgo dgf dof H.d2 (by rw [hob];simpa using H.d4.symm) (fun h=>(H.ap pb h).2.2 rfl) ?_ ?_
 ·intro h129 w4 fs4 hw4 v hv hv0 B4 HO4 T4
  refine ⟨isPE.ifc hv.2,err_cnd (isPE.nil hv.2) ?_⟩
  refine st_u B4 rfl rfl ?_
  intro w5 B5 F5
  have B5':=B5.congr (HU.setT (s' := { s with atl:=((M:Nat):Int),symL:=((L:Nat):Int),hw:=hw4 }) 0 rfl rfl rfl (by decide))
  refine st_u B5' rfl rfl ?_
  intro w6 B6 F6
  have B6':=B6.congr (HU.setT (s' := { s with symL:=((L:Nat):Int),hw:=hw4 }) 12 rfl rfl rfl (by decide))
  refine st_u B6' rfl rfl ?_
  intro w7 B7 F7
  have F47:Fm w4 w7 [g]:=(F5.trans F6 (fun x hx => .inl hx)).trans F7 (fun x hx => .inl hx)
  have h0l:=World.block_lt_of_cell? _ _ hv0
  refine hk0 h129.2 w7 v (hv.fm F47 n9) ⟨g::(s.out.bs++SB fb fs),?_,hown⟩
  exact ((F03.mono (S':=g::(s.out.bs++SB fb fs)) (by intro v hv;left;simp at hv;simp [hv])).trans T4.fr (fun x hx => .inl hx)).trans F47 (by intro v hv;left;simp at hv;simp [hv])
 ·intro w4 fs4 hw4 o tbl _ hby hl129 hwt4 HO4 B4 T4
  refine ⟨rfl,nil_cnd ?_⟩
  have HO4:VecU w4 o tbl:=HO4
  have hol4:=HO4.len
  refine ld_b (t := .S) (x:=o) B4 rfl ?_
  refine app_vu (xs:=tbl) VecU.nil HO4.vec.arr.has (by simp only;omega) ?_
  intro s5 w5 V5 F5 n5
  have V5:VecU w5 s5 tbl:=V5
  have hgl:=B4.lt
  have B5:=B4.fr F5 (by simp [Sl.bs])
  have hs5:g∉s5.bs:=fun h=>by
   rcases n5 g h with h1|h1
   ·simp [Sl.bs] at h1
   ·omega
  refine st_u B5 rfl rfl ?_
  intro w6 B6 F6
  have B6':=B6.congr (HU.setT (s' := { s with atl:=((M:Nat):Int),symL:=((L:Nat):Int),hw:=hw4 }) 0 rfl rfl rfl (by decide))
  refine st_u B6' rfl rfl ?_
  intro w7 B7 F7
  have B7':=B7.congr (HU.setT (s' := { s with symL:=((L:Nat):Int),hw:=hw4 }) 12 rfl rfl rfl (by decide))
  refine st_u B7' rfl rfl ?_
  intro w8 B8 F8
  have F58:Fm w5 w8 [g]:=(F6.trans F7 (fun x hx => .inl hx)).trans F8 (fun x hx => .inl hx)
  refine hk1 w8 s5 tbl hby hl129 (hwt▸hwt4) (V5.fr F58 (fun v hv=>nm1 (fun e=>hs5 (e▸hv)))) ⟨g::(s.out.bs++SB fb fs),?_,hown⟩
  exact (((F03.mono (S':=g::(s.out.bs++SB fb fs)) (by intro v hv;left;simp at hv;simp [hv])).trans T4.fr (fun x hx => .inl hx)).trans F5 (by simp [Sl.bs])).trans F58 (by intro v hv;left;simp at hv;simp [hv])
end
theorem c16 {w:World} {x:Sl} {l ws:List Nat} {used M:Nat} {K:Sl×Bool→PT} (A:Arr .u8 w x l) (hl:By l) (hlen:l.length<2^20) (hG:GL w) (hE:errAt w 0) (h9:9≤w.heap.size) (hw:weightsZ l=some (ws,used)) (hK:WK ws M) (hwh:WhB l)
  (hk0:129<(fullZ ws).length→∀w',Fm w w' []→K (⟨none,0,0⟩,false) w')
  (hk1:∀w' y tbl,By tbl→tbl.length≤129→weightsZ tbl=some (ws,tbl.length)→VecU w' y tbl→Fm w w' []→K (y,true) w') :
  callP Tryd.prog 16 #[.slice x.a x.l x.c] [.c .S,.c .B] K w:=by
 apply q16_ok
 unfold q16
 refine c45 A hl hlen hw hK hwh ?_
 intro w1 g ob pb fb s fs y HR F1
 refine ⟨rfl,nil_cnd ?_⟩
 have un:∀ {w2:World},(∃S,Fm w1 w2 S∧∀v∈S,w.heap.size≤v)→Fm w w2 []:=by
  rintro w2 ⟨S,F,hS⟩
  exact F1.trans F (fun v hv => .inr (hS v hv))
 refine c46r HR hK (hG.fm F1 (by simp)) (hE.fm F1 (by simp)) h9 ?_ ?_
 ·intro h129 w2 v hv hF
  refine ⟨isPE.ifc hv.2,err_cnd (isPE.nil hv.2) ?_⟩
  exact hk0 h129 w2 (un hF)
 ·intro w2 o tbl hby h129 hwt hO hF
  refine ⟨rfl,nil_cnd ?_⟩
  refine c47 hO.vec.arr (by omega) ?_
  intro w3 y3 hy F3 _
  exact hk1 w3 y3 tbl hby h129 hwt hy ((un hF).trans F3 (by simp))
def s12 (ws:List Nat):Nat:=(ws.map fun w=>if 0<w∧w≤12 then 2^(w-1) else 0).sum
def leavesZ (ws:List Nat):Nat:=ws.count 1+if 0<s12 ws∧2^((s12 ws).log2+1)-s12 ws=1 then 1 else 0
theorem s12_take {ws:List Nat} {i:Nat} (h:i<ws.length):s12 (ws.take (i+1))=s12 (ws.take i)+if 0<ws[i]∧ws[i]≤12 then 2^(ws[i]-1) else 0:=sum_take h
theorem s12_le (ws:List Nat) (i:Nat):s12 (ws.take i)≤i*2048:=by
 refine sum_take_le _ ws 2048 i ?_
 intro c _
 split
 ·rename_i h
  exact Nat.le_trans (Nat.pow_le_pow_right (by omega) (show c-1≤11 by omega)) (by decide)
 ·omega
theorem s12_wsum {ws:List Nat} (h:∀w∈ws,w≤12):s12 ws=wsum ws:=by
 unfold s12 wsum
 congr 1
 apply List.map_congr_left
 intro w hw
 have:=h w hw
 unfold wOf
 by_cases e:w=0
 ·rw [if_neg (by omega),if_pos e]
 ·rw [if_pos ⟨by omega,this⟩,if_neg e]
theorem leaves_full {ws:List Nat} (h:∀w∈ws,w≤12) (hne:wsum ws≠0):leavesZ ws=(fullZ ws).count 1:=by
 unfold leavesZ fullZ
 rw [s12_wsum h,List.count_append,List.count_singleton]
 congr 1
 have e:2^((wsum ws).log2+1)-wsum ws=lastZ ws:=rfl
 rw [e]
 have hl:0<lastZ ws:=by
  have:=Nat.lt_log2_self (n:=wsum ws)
  unfold lastZ;omega
 by_cases h1:lastZ ws=1
 ·rw [if_pos ⟨by omega,h1⟩,h1,if_pos (by decide)]
 ·have:(lastZ ws).log2≠0:=by
   intro h0
   have:=Nat.lt_log2_self (n:=lastZ ws)
   rw [h0] at this
   omega
  rw [if_neg (fun h=>h1 h.2),if_neg (by simp;omega)]
theorem weightsZ_len {l ws:List Nat} {used:Nat} (hl:By l) (h:weightsZ l=some (ws,used)):ws.length≤255:=by
 unfold weightsZ at h
 split at h
 ·cases h
 ·rename_i n r
  have hn:n<256:=hl n (by simp)
  split at h
  ·split at h
   ·cases h
   ·injection h with h
    injection h with h1 h2
    rw [←h1]
    simp;omega
  ·split at h
   ·cases h
   ·split at h
    ·cases h
    ·split at h
     ·cases h
     ·split at h
      ·cases h
      ·split at h
       ·cases h
       ·rename_i htwo
        injection h with h
        injection h with h1 h2
        subst h1
        unfold twoStatesZ at htwo
        split at htwo
        ·cases htwo
        ·split at htwo
         ·exact (twoZ_len _ _ _ _ _ _ _ _ htwo).2
         ·cases htwo
theorem c22 {w:World} {s:Sl} {l:List Nat} {K:Bool→PT} (A:Arr .u8 w s l) (hl:By l) (hn:l.length<2^40)
  (h0:weightsZ l=none→∀w',Fm w w' []→K false w')
  (h1:∀ws used,weightsZ l=some (ws,used)→∀w',Fm w w' []→K (decide (1<leavesZ ws)) w') :
  callP Tryd.prog 22 #[.slice s.a s.l s.c] [.c .B] K w:=by
 apply q22_ok
 unfold q22
 refine c43 A hl hn ?_ ?_
 ·intro hz w1 s1 n1 F1
  exact ⟨fun _=>h0 hz w1 F1,fun h=>by simp at h⟩
 ·intro ws used hw w1 s1 F1 V1 hb1
  refine ⟨fun h=>by simp at h,fun _ => ?_⟩
  have hwl:ws.length≤255:=weightsZ_len hl hw
  have hsl:s1.l=ws.length:=by have:=V1.len;rw [nints_len] at this;omega
  refine joinP_id ?_
  refine ⟨fun v w'=>w'=w1∧∃i:Nat,v=((((ws.take i).count 1:Nat):Int),((s12 (ws.take i):Nat):Int),(i:Int))∧i≤ws.length,fun v _=>ws.length-v.2.2.toNat,⟨rfl,0,by simp [s12],by omega⟩,?_⟩
  rintro v w2 ⟨rfl,i,rfl,hi⟩
  unfold q22_L2
  simp only
  refine cnd_d (fun hc => ?_) fun hc => ?_
  ·have hi2:i<ws.length:=by omega
   refine joinP_id ?_
   refine V1.ldN i rfl hi2 fun p hp=>ld_c (t := .I .i64) hp ?_
   have hcl:(ws.take i).count 1≤i:=Nat.le_trans List.count_le_length (by rw [List.length_take];omega)
   have hsl2:=s12_le ws i
   have fin:∀a b,a=(((ws.take (i+1)).count 1:Nat):Int)→b=((s12 (ws.take (i+1)):Nat):Int)→q22_J1 ((((ws.take i).count 1:Nat):Int),((s12 (ws.take i):Nat):Int),((i:Nat):Int)) (fun v w'=>(w'=w2∧∃i:Nat,v=((((ws.take i).count 1:Nat):Int),((s12 (ws.take i):Nat):Int),(i:Int))∧i≤ws.length)∧ws.length-v.2.2.toNat<ws.length-((i:Nat):Int).toNat) (a,b) w2:=by
    rintro a b rfl rfl
    unfold q22_J1
    simp only
    rw [wI64 (by omega) (by omega)]
    refine ⟨⟨by trivial,i+1,rfl,hi2⟩,?_⟩
    show ws.length-(((i:Nat):Int)+1).toNat<ws.length-((i:Nat):Int).toNat
    omega
   have hct:=count_take (v:=1) hi2
   have hst:=s12_take hi2
   generalize ws[i]=y at *
   have j0:∀a,a=(((ws.take (i+1)).count 1:Nat):Int)→q22_J0 ((((ws.take i).count 1:Nat):Int),((s12 (ws.take i):Nat):Int),((i:Nat):Int)) (q22_J1 ((((ws.take i).count 1:Nat):Int),((s12 (ws.take i):Nat):Int),((i:Nat):Int)) (fun v w'=>(w'=w2∧∃i:Nat,v=((((ws.take i).count 1:Nat):Int),((s12 (ws.take i):Nat):Int),(i:Int))∧i≤ws.length)∧ws.length-v.2.2.toNat<ws.length-((i:Nat):Int).toNat)) ((y:Nat):Int) a w2:=by
    intro a ha
    unfold q22_J0
    simp only
    refine cnd_d (fun y0 => ?_) fun y0 => ?_
    ·refine cnd_d (fun y12 => ?_) fun y12 => ?_
     ·have e1:IntKind.i64.wrap (((y:Nat):Int)-1)=((y-1:Nat):Int):=by rw [wI64 (by omega) (by omega)];omega
      have hp:2^(y-1)≤2^11:=Nat.pow_le_pow_right (by omega) (by omega)
      have e2:shlI .i64 1 ((y-1:Nat):Int)=((2^(y-1):Nat):Int):=by
       have:=shlI_nat .i64 1 (y-1) (by simp only [IntKind.bits];omega) (by simp only [IntKind.bits];omega)
       rw [Nat.one_mul] at this
       exact this
      rw [e1,e2]
      refine ⟨by omega,fin a _ ha ?_⟩
      rw [if_pos ⟨by omega,by omega⟩] at hst
      rw [wI64 (by omega) (by omega)]
      omega
     ·rw [if_neg (by omega)] at hst
      exact fin a _ ha (by omega)
    ·rw [if_neg (by omega)] at hst
     exact fin a _ ha (by omega)
   refine joinP_id (cnd_d (fun hy => ?_) fun hy => ?_)
   ·rw [if_pos (by omega)] at hct
    exact j0 _ (by rw [wI64 (by omega) (by omega)];omega)
   ·rw [if_neg (by omega)] at hct
    exact j0 _ (by omega)
  ·have:i=ws.length:=by omega
   subst this
   rw [List.take_length]
   have hsl2:=s12_le ws ws.length
   rw [List.take_length] at hsl2
   have hcl:ws.count 1≤ws.length:=List.count_le_length
   unfold q22_J4
   simp only
   refine joinP_id ?_
   have hk:=h1 ws used hw w2 F1
   unfold leavesZ at hk
   generalize s12 ws=S at *
   have done:∀a:Nat,decide (1<ws.count 1+if 0<S∧2^(S.log2+1)-S=1 then 1 else 0)=decide ((1:Int)<((a:Nat):Int))→q22_J3 K ((a:Nat):Int) w2:=by
    intro a ha
    unfold q22_J3
    rw [←ha];exact hk
   refine cnd_d (fun hS => ?_) fun hS => ?_
   ·refine c44 (by omega) (by omega) ?_
    have hlo:=Nat.log2_self_le (n:=S) (by omega)
    have hhi:=Nat.lt_log2_self (n:=S)
    have hlg:S.log2<22:=(Nat.log2_lt (by omega)).mpr (by omega)
    have hp:2^(S.log2+1)≤2^22:=Nat.pow_le_pow_right (by omega) (by omega)
    have e1:IntKind.i64.wrap (((S.log2:Nat):Int)+1)=((S.log2+1:Nat):Int):=by rw [wI64 (by omega) (by omega)];omega
    have e2:shlI .i64 1 ((S.log2+1:Nat):Int)=((2^(S.log2+1):Nat):Int):=by
     have:=shlI_nat .i64 1 (S.log2+1) (by simp only [IntKind.bits];omega) (by simp only [IntKind.bits];omega)
     rw [Nat.one_mul] at this
     exact this
    rw [e1,e2,wI64 (by omega) (by omega)]
    refine ⟨by omega,cnd_d (fun h => ?_) fun h => ?_⟩
    ·rw [wI64 (by omega) (by omega)]
     have:=done (ws.count 1+1) (by rw [if_pos ⟨by omega,by omega⟩];simp only [decide_eq_decide];omega)
     rw [show (((ws.count 1:Nat):Int)+1)=((ws.count 1+1:Nat):Int) by omega]
     exact this
    ·exact done (ws.count 1) (by rw [if_neg (by omega)];simp only [decide_eq_decide];omega)
   ·exact done (ws.count 1) (by rw [if_neg (by omega)];simp only [decide_eq_decide];omega)
theorem c42 {w:World} {s:Sl} {l:List Nat} {cs:List Int} {t:Nat} {rest:List Nat} {tab:List Cell3} {K:Bool→PT} (A:Arr .u8 w s l) (hl:By l) (hn:l.length<2^20) (hfr:fseRead l=some (cs,t,rest)) (ht6:t≤6) (hst:statesZ cs t=some tab)
  (hk:∀w' b,Fm w w' []→(b=true→∃left,backZ rest=some left∧2*t≤left∧WhZ rest tab (left-t-t) (tkB rest t left) (tkB rest t ((left:Int)-t)))→K b w') :
  callP Tryd.prog 42 #[.slice s.a s.l s.c] [.c .B] K w:=by
 obtain ⟨E,hT,_,_,hre,_⟩:=fseRead_ph hfr
 have hT5:t=5∨t=6:=by omega
 obtain ⟨hcb,hc256⟩:=fseRead_cb hfr ht6
 obtain ⟨tl1,tl2⟩:=statesZ_bnd hcb hc256 hT5 hst
 have hbr:By rest:=by rw [hre];exact fun x hx=>hl x (List.mem_of_mem_drop hx)
 have hrl:rest.length<2^20:=by rw [hre,List.length_drop];omega
 have hTp:2^t≤64∧0<2^t:=by rcases hT5 with rfl|rfl<;>decide
 apply q42_ok
 unfold q42
 refine c49 A hl (by omega) (fun h=>by rw [hfr] at h;cases h) ?_
 intro cs' t' rest' he w1 c r F1 V1 hc1 A1 hr1
 rw [hfr] at he
 injection he with he
 injection he with e1 e2
 injection e2 with e2 e3
 subst e1 e2 e3
 refine ⟨fun h=>by simp at h,fun _ => ?_⟩
 refine c57 V1 hT5 (by omega) (fun c hc=>⟨(hcb c hc).1,by have:=(hcb c hc).2;omega⟩) (fun h=>by rw [hst] at h;cases h) ?_
 intro tab' he w2 tb F2 htb V2
 rw [hst] at he
 injection he with he
 subst he
 refine ⟨fun h=>by simp at h,fun _ => ?_⟩
 have F02:=F1.trans F2 (by simp)
 have A2:=A1.fr F2 (by simp)
 have two:∀ {w3:World} {o:Option Addr} {a b:Int} {ok:Bool},Fm w w3 []→(∀w4 p5,Fm w3 w4 []→w3.heap.size≤p5→Blk w4 p5 (c2C a b)→cnd (!ok) (K false) (loopP (0:Int) (q42_L0 K (⟨some ⟨tb,0,none⟩,2^t,2^t⟩,true) (o,(a,b),ok) ⟨p5,0,none⟩)) w4) →
   (nw z109 109 fun (p5:Addr)=>stL p5 0 [(.int .i64 a),(.int .i64 b)]<|cnd (!ok) (K false) (loopP (0:Int) (q42_L0 K (⟨some ⟨tb,0,none⟩,2^t,2^t⟩,true) (o,(a,b),ok) p5))) w3:=by
  intro w3 o a b ok F3 h
  refine nw_x ?_
  intro p5 w4 F4 B4 hp
  have B4:Blk w4 p5 (c2C 0 0):=B4.congr (by funext i;rcases i with _|_|i<;>simp [c2C,z109])
  refine st2_c2 B4 ?_
  intro w5 B5 F5
  exact h w5 p5 (F4.trans F5 (by intro v hv;right;simp at hv;omega)) hp B5
 refine c58 A2 hbr (by omega) (by omega) ?_ ?_
 ·intro hb w3 F3
  refine two (F02.trans F3 (by simp)) ?_
  intro w4 p5 F4 _ _
  refine ⟨fun _ => ?_,fun h=>by simp at h⟩
  exact hk w4 false ((F02.trans F3 (by simp)).trans F4 (by simp)) (fun h=>by cases h)
 ·intro left hbk w3 h F3 hh B3
  have F03:=F02.trans F3 (by simp)
  refine two F03 ?_
  intro w4 p5 F4 hp5 B4
  have F04:=F03.trans F4 (by simp)
  by_cases hok:(0:Int)≤(left:Int)-t-t
  ·rw [decide_eq_true hok]
   refine ⟨fun h=>by simp at h,fun _ => ?_⟩
   have hle:=backZ_lt hbr hbk
   have ha0:tkB rest t (left:Int)<tab.length:=by rw [tl1];exact tkB_lt _ _ _
   have hb0:tkB rest t ((left:Int)-t)<tab.length:=by rw [tl1];exact tkB_lt _ _ _
   have hs3:=F3.size
   have hb3l:=B3.lt
   have hrn:∀a,r.a=some a→rest ≠ []→a.block<w3.heap.size∧a.block≠h:=by
    intro a ha hr
    have:=A2.old hr a ha
    exact ⟨by omega,by omega⟩
   refine ⟨fun v w'=>∃(L a b turn:Nat),v=(turn:Int)∧turn<2∧L≤left∧a<tab.length∧b<tab.length∧Blk w' h (rbC r (L:Int))∧Blk w' p5 (if turn=0 then c2C a b else c2C b a)∧Fm w4 w' [h,p5]∧(WhZ rest tab L a b→WhZ rest tab (left-t-t) (tkB rest t left) (tkB rest t ((left:Int)-t))),
    fun _ w'=>match w'.cell? ⟨h,1,none⟩ with|some (.int _ x)=>x.toNat|_=>0,⟨left-t-t,_,_,0,rfl,by omega,by omega,ha0,hb0,?_,B4,Fm.refl _ _,id⟩,?_⟩
   ·have:=B3.fr F4 (by simp)
    rw [show (left:Int)-t-t=((left-t-t:Nat):Int) by omega] at this
    exact this
   rintro v w5 ⟨L,a,b,turn,rfl,htn,hL,ha,hb,BH,BP,F5,hW⟩
   have F05:Fm w w5 []:=F04.trans F5 (by intro v hv;right;simp at hv;have:=F03.size;have:=F02.size;omega)
   have F25:Fm w2 w5 []:=((F3.trans F4 (by simp)).trans F5 (by intro v hv;right;simp at hv;omega))
   have BPt:∀(a b:Int),(if turn=0 then c2C a b else c2C b a) (0+turn*1)=some (.int .i64 a):=by
    intro a b
    rcases (show turn=0∨turn=1 by omega) with rfl|rfl<;>rfl
   obtain ⟨q1,q2,q3,q4⟩:=tl2 _ (List.getElem_mem ha)
   unfold q42_L0
   refine ixA_b (k:=turn) rfl htn ?_
   refine ld_b (t := .I .i64) (x:=(a:Int)) BP (BPt _ _) ?_
   have V5:=V2.fr F25 (by simp)
   refine tab_ld a V5 rfl ha ?_
   rintro tb2 to ⟨f,BT,g1,g2,g3⟩
   refine ld3_b BT g1 g2 g3 ?_
   refine nw3 ?_
   intro w6 F6 hs6 B6
   unfold drw
   have F56:=F6.drew
   have BH6:=BH.fr F56 (by simp)
   have BP6:=BP.fr F56 (by simp)
   have B6d:=B6.drew
   have hhl:=BH.lt
   have hpl:=BP.lt
   simp only [add_mk,Nat.zero_add]
   refine ld_b (t := .I .i64) (x:=((tab[a].2.1:Nat):Int)) B6d rfl ?_
   refine ⟨_,rfl,?_⟩
   simp only [add_mk,Nat.zero_add]
   refine ld_b (t := .I .i64) (x:=(L:Int)) BH6 rfl ?_
   have F06:Fm w w6.drew []:=F05.trans F56 (by simp)
   refine cnd_d (fun hc=>⟨_,rfl,?_⟩) fun hc=>⟨_,rfl,?_⟩
   ·simp only [add_mk,Nat.zero_add]
    refine ld_b (t := .I .i64) (x:=(L:Int)) BH6 rfl ?_
    refine hk _ _ F06 ?_
    intro hz
    have hL0:L=0:=by have:=of_decide_eq_true hz;omega
    subst hL0
    exact ⟨left,hbk,by omega,hW (WhZ.fin a b ha (by assumption) (by omega))⟩
   ·simp only [add_mk,Nat.zero_add]
    refine ld_b (t := .I .i64) (x:=(L:Int)) BH6 rfl ?_
    refine cnd_d (fun _=>hk _ _ F06 (fun h=>by cases h)) fun hL0 => ?_
    have B6e:=B6d.drew
    have BH7:=BH6.drew
    have BP7:=BP6.drew
    have F57:Fm w5 w6.drew.drew []:=F56.drew
    refine ld_b (t := .I .i64) (x:=tab[a].2.2) B6e rfl ?_
    refine ld_b (t := .I .i64) (x:=((tab[a].2.1:Nat):Int)) B6e rfl ?_
    refine c59 BH7 ((A2.fr F25 (by simp)).fr F57 (by simp)) (fun a ha hr=>(hrn a ha hr).2) hbr (by omega) (by omega) (by omega) ?_
    intro w8 BH8 F8
    have hn6:w5.heap.size≠h:=by omega
    have hn7:w5.heap.size≠p5:=by omega
    have B8:=B6e.fr F8 (nm1 hn6)
    refine ⟨by intro q hq;simp only [List.mem_cons,List.not_mem_nil,or_false] at hq;subst hq;exact B8.cell 2,?_⟩
    have hhp:h≠p5:=by omega
    have BP8:=BP7.fr F8 (nm1 hhp.symm)
    have htk:=tkB_lt rest tab[a].2.1 (L:Int)
    have hp6:2^tab[a].2.1≤2^6:=Nat.pow_le_pow_right (by omega) q2
    rw [wI64 (by omega) (by omega)]
    generalize hV:tab[a].2.2+((tkB rest tab[a].2.1 (L:Int):Nat):Int)=v at *
    refine ixA_b (k:=turn) rfl htn ?_
    refine st_u BP8 (by rw [BPt];rfl) rfl ?_
    intro w9 BP9 F9
    have BP9:Blk w9 p5 (if turn=0 then c2C v b else c2C b v):=BP9.congr (by
     rcases (show turn=0∨turn=1 by omega) with rfl|rfl
     ·exact c2C0 _ _ _
     ·exact c2C1 _ _ _)
    have BH9:=BH8.fr F9 (nm1 hhp)
    have B9:=B8.fr F9 (nm1 hn7)
    have F59:Fm w5 w9 [h,p5]:=((F57.mono (S' := [h,p5]) (by simp)).trans F8 (by intro v hv;left;simp at hv;simp [hv])).trans F9 (by intro v hv;left;simp at hv;simp [hv])
    have F09:Fm w w9 []:=F05.trans F59 (by intro v hv;right;simp at hv;have:=F03.size;have:=F02.size;omega)
    refine ixA_b (k:=turn) rfl htn ?_
    refine ld_b (t := .I .i64) (x:=v) BP9 (BPt _ _) ?_
    refine cnd_d (fun _=>hk _ _ F09 (fun h=>by cases h)) fun hv0 => ?_
    refine ixA_b (k:=turn) rfl htn ?_
    refine ld_b (t := .I .i64) (x:=v) BP9 (BPt _ _) ?_
    refine cnd_d (fun _=>hk _ _ F09 (fun h=>by cases h)) fun hv1 => ?_
    refine ld_b (t := .I .i64) (x:=((tab[a].2.1:Nat):Int)) B9 rfl ?_
    refine cnd_d (fun _=>hk _ _ F09 (fun h=>by cases h)) fun hbits => ?_
    have hvn:((v.toNat:Nat):Int)=v:=by omega
    refine ⟨⟨L-tab[a].2.1,b,v.toNat,1-turn,?_,by omega,by omega,by assumption,?_,?_,?_,F5.trans F59 (fun v hv => .inl hv),?_⟩,?_⟩
    ·rw [wI64 (by omega) (by omega)];omega
    ·rw [tl1];omega
    ·rw [show ((L-tab[a].2.1:Nat):Int)=(L:Int)-(tab[a].2.1:Nat) by omega];exact BH9
    ·rw [hvn]
     rcases (show turn=0∨turn=1 by omega) with rfl|rfl
     ·exact BP9
     ·exact BP9
    ·intro hz
     refine hW (WhZ.step L a b v.toNat ha (by assumption) (by omega) (by omega) (by rw [hvn];exact hV) ?_ hz)
     rw [tl1];omega
    ·rw [BH9.cell,BH.cell]
     show ((L:Int)-(tab[a].2.1:Nat)).toNat<((L:Nat):Int).toNat
     omega
  ·rw [decide_eq_false hok]
   refine ⟨fun _ => ?_,fun h=>by simp at h⟩
   exact hk w4 false F04 (fun h=>by cases h)
theorem c14 {w:World} {s:Sl} {l:List Nat} {K:Bool→PT} (A:Arr .u8 w s l) (hl:By l) (hn:l.length<2^20)
  (hk:∀w' b,Fm w w' []→(b=true→∃ws used,weightsZ l=some (ws,used)∧1<leavesZ ws∧WhB l)→K b w') :
  callP Tryd.prog 14 #[.slice s.a s.l s.c] [.c .B] K w:=by
 apply q14_ok
 unfold q14
 have hsl:=A.len
 have hcap:=A.cap
 refine cnd_d (fun _=>hk w false (Fm.refl _ _) (fun h=>by cases h)) fun h0 => ?_
 refine c22 A hl (by omega) ?_ ?_
 ·intro _ w1 F1
  exact ⟨fun _=>hk w1 false F1 (fun h=>by cases h),fun h=>by simp at h⟩
 ·intro ws used hw w1 F1
  have A1:=A.fr F1 (by simp)
  by_cases hlv:1<leavesZ ws
  ·rw [decide_eq_true hlv]
   refine ⟨fun h=>by simp at h,fun _ => ?_⟩
   obtain ⟨n,r,rfl⟩:∃n r,l=n::r:=by
    cases l with
    | nil=>simp at hsl;omega
    | cons n r=>exact ⟨n,r,rfl⟩
   refine A1.ldk 0 rfl (by simp) fun p hp=>ld_c (t := .I .u8) (x:=((n:Nat):Int)) hp ?_
   refine joinP_id ?_
   unfold q14_X1 q14_J0
   refine A1.ldk 0 rfl (by simp) fun p hp=>ld_c (t := .I .u8) (x:=((n:Nat):Int)) hp ?_
   have hnb:n<256:=hl n (by simp)
   have hr:By r:=fun y hy=>hl y (by simp [hy])
   simp only [List.length_cons] at hsl hn
   refine cnd_d (fun h128 => ?_) fun h128 => ?_
   ·refine hk w1 true F1 (fun _=>⟨ws,used,hw,hlv,?_⟩)
    intro h;omega
   ·have e1:IntKind.i64.wrap ((1:Int)+IntKind.i64.wrap ((n:Nat):Int))=((1+n:Nat):Int):=by
     rw [wI64 (x:=((n:Nat):Int)) (by omega) (by omega),wI64 (by omega) (by omega)];omega
    rw [e1]
    refine cnd_d (fun hle => ?_) fun _=>hk w1 false F1 (fun h=>by cases h)
    refine slc_lh (n:=1) (m:=1+n) rfl rfl (by omega) (by omega) ?_
    have A2:=A1.sub 1 (1+n) (by omega) (by simp only [List.length_cons];omega)
    have ed:(((n::r).drop 1).take (1+n-1))=r.take n:=by rw [Nat.add_sub_cancel_left];rfl
    rw [ed] at A2
    have hw2:=hw
    unfold weightsZ at hw2
    simp only at hw2
    rw [if_neg (by omega)] at hw2
    split at hw2
    ·cases hw2
    split at hw2
    ·cases hw2
    rename_i cs t rest hfr
    split at hw2
    ·cases hw2
    rename_i ht6
    split at hw2
    ·cases hw2
    rename_i tab hst
    refine c42 A2 (fun y hy=>hr y (List.mem_of_mem_take hy)) (by rw [List.length_take];omega) hfr (by omega) hst ?_
    intro w2 b F2 hb
    refine hk w2 b (F1.trans F2 (by simp)) (fun hbt=>⟨ws,used,hw,hlv,?_⟩)
    intro _ cs' t' rest' tab' h1 h2
    rw [hfr] at h1
    injection h1 with h1
    injection h1 with e1 e2
    injection e2 with e2 e3
    subst e1 e2 e3
    rw [hst] at h2
    injection h2 with h2
    subst h2
    exact hb hbt
  ·rw [decide_eq_false hlv]
   exact ⟨fun _=>hk w1 false F1 (fun h=>by cases h),fun h=>by simp at h⟩
theorem c17 {w:World} {b1 b2 n c1 c2:Nat} {f:Nat→Int} {K:Bool→PT} (B1:Blk w b1 (arrC .i64 n f)) (B2:Blk w b2 (arrC .i64 n f)) (hn:n<2^20) (hk:∀w',Fm w w' []→K true w') :
  callP Tryd.prog 17 #[.slice (some ⟨b1,0,none⟩) n c1,.slice (some ⟨b2,0,none⟩) n c2] [.c .B] K w:=by
 refine q17_ok ⟨some ⟨b1,0,none⟩,n,c1⟩ ⟨some ⟨b2,0,none⟩,n,c2⟩ K ?_
 unfold q17
 refine cnd_nd (fun h=>absurd rfl h) fun _ => ?_
 refine joinP_id ?_
 refine ⟨fun v w'=>Fm w w' []∧∃i:Nat,v=(i:Int)∧i≤n,fun v _=>n-v.toNat,⟨Fm.refl _ _,0,rfl,Nat.zero_le _⟩,?_⟩
 rintro v w1 ⟨F1,i,rfl,hi⟩
 unfold q17_L0
 refine cnd_d (fun hc => ?_) fun hc => ?_
 ·have hi2:i<n:=by simp only at hc;omega
  unfold drw
  have F2:=F1.drew
  refine ixS_o rfl hi2 ?_
  rw [Nat.zero_add]
  refine ld_b (t := .I .i64) (x:=f i) (B1.fr F2 (by simp)) (arrC_get hi2) ?_
  refine ixS_o rfl hi2 ?_
  rw [Nat.zero_add]
  refine ld_b (t := .I .i64) (x:=f i) (B2.fr F2 (by simp)) (arrC_get hi2) ?_
  refine cnd_nd (fun h=>absurd rfl h) fun _ => ?_
  rw [wI64 (by omega) (by omega)]
  refine ⟨⟨F2,i+1,by simp,hi2⟩,?_⟩
  show n-(((i:Nat):Int)+1).toNat<n-((i:Nat):Int).toNat
  omega
 ·exact hk w1 F1
theorem hlZ_ws {l:List Nat} {f:Nat→Int} {used:Nat} {ws:List Nat} {u:Nat} (hw:weightsZ l=some (ws,u)) (h:hlZ l=some (f,used)) (hlv:1<leavesZ ws) :
  WK ws ((wsum ws).log2+1)∧f=lenF ((wsum ws).log2+1) (fullZ ws)∧∀tbl n,weightsZ tbl=some (ws,n)→hlZ tbl=some (f,n):=by
 unfold hlZ at h
 rw [hw] at h
 simp only at h
 split at h
 ·rename_i hc
  injection h with h
  injection h with h1 h2
  obtain ⟨c1,c2,c3,c4,c5,c6⟩:=hc
  refine ⟨⟨c3,rfl,c4,c5,c1,?_⟩,h1.symm,?_⟩
  ·rw [←leaves_full c2 c3];exact hlv
  ·intro tbl n ht
   unfold hlZ
   rw [ht]
   simp only
   rw [if_pos ⟨c1,c2,c3,c4,c5,c6⟩,h1]
 ·cases h
theorem lenF_last {ws:List Nat} {M:Nat} (h:WK ws M):0<lenF M (fullZ ws) ws.length:=by
 unfold lenF
 have e:(fullZ ws).getD ws.length 0=(lastZ ws).log2+1:=by
  unfold fullZ
  rw [getD_in (by simp),List.getElem_append_right (Nat.le_refl _)]
  simp
 rw [e,if_pos (by omega)]
 have:=h.last.2.1
 omega
theorem law3 {w:World} {s0:Sl} {xs:List Nat} {K:Bool→PT} (G:GL w) (E:errAt w 0) (A:Arr .u8 w s0 xs) (hby:By xs) (hk:∀w',Fm w w' []→K true w') :
  callP Tryd.prog 3 #[.slice s0.a s0.l s0.c] [.c .B] K w:=by
 have hsl:=A.len
 apply q3_ok
 unfold q3
 refine cnd_d (fun _=>hk _ (Fm.refl _ _)) fun _=>cnd_d (fun _=>hk _ (Fm.refl _ _)) fun hle => ?_
 refine c14 A hby (by omega) ?_
 intro w1 b1 F1 hb1
 cases b1 with
 | false=>exact ⟨fun _=>hk w1 F1,fun h=>by simp at h⟩
 | true =>
  obtain ⟨ws,used0,hw,hlv,hwh⟩:=hb1 rfl
  refine ⟨fun h=>by simp at h,fun _ => ?_⟩
  have A1:=A.fr F1 (by simp)
  refine c15 A1 hby (by omega) ?_ ?_
  ·intro _ w2 s' n' F2
   exact ⟨fun _=>hk w2 (F1.trans F2 (by simp)),fun h=>by simp at h⟩
  ·intro f used hf w2 lb F2 hlb B2
   obtain ⟨hK,hfe,htb⟩:=hlZ_ws hw hf hlv
   have F02:=F1.trans F2 (by simp)
   refine ⟨fun h=>by simp at h,fun _ => ?_⟩
   have hlast:=lenF_last hK
   rw [←hfe] at hlast
   have hwl:=hK.len
   refine joinP_id ?_
   refine ⟨fun v w'=>w'=w2∧∃n hi i:Nat,v=((n:Int),(hi:Int),(i:Int))∧i≤256∧n≤i∧hi≤256∧(ws.length<i→ws.length≤hi),fun v _=>256-v.2.2.toNat,⟨rfl,0,0,0,rfl,by omega,by omega,by omega,by omega⟩,?_⟩
   rintro v w3 ⟨rfl,n,hi,i,rfl,hi1,hn,hhi,hh⟩
   unfold q3_L1
   simp only
   refine cnd_d (fun hc => ?_) fun hc => ?_
   ·have hi2:i<256:=by omega
    refine joinP_id ?_
    refine ixS_o rfl hi2 ?_
    rw [Nat.zero_add]
    refine ld_b (t := .I .i64) (x:=f i) B2 (arrC_get hi2) ?_
    refine cnd_d (fun _=>hk _ F02) fun _ => ?_
    unfold q3_J0
    simp only
    refine cnd_d (fun hp => ?_) fun hp => ?_
    ·rw [wI64 (by omega) (by omega),wI64 (by omega) (by omega)]
     refine ⟨⟨by trivial,n+1,i,i+1,rfl,by omega,by omega,by omega,by omega⟩,?_⟩
     show 256-(((i:Nat):Int)+1).toNat<256-((i:Nat):Int).toNat
     omega
    ·rw [wI64 (by omega) (by omega)]
     refine ⟨⟨by trivial,n,hi,i+1,rfl,by omega,by omega,hhi,?_⟩,?_⟩
     ·intro hlt
      by_cases e:i=ws.length
      ·subst e;exact absurd hlast hp
      ·exact hh (by omega)
     ·show 256-(((i:Nat):Int)+1).toNat<256-((i:Nat):Int).toNat
      omega
   ·have:i=256:=by omega
    subst this
    have hhw:=hh (by omega)
    unfold q3_J5
    have A2:=A1.fr F2 (by simp)
    have h9:9≤w3.heap.size:=(G.fm F02 (by simp)).size
    have hfl:(fullZ ws).length=ws.length+1:=by unfold fullZ;simp
    have small:∀ {w4:World},Fm w w4 []→((n:Nat):Int)<2→∀(J:Bool→PT),(∀b,J b=K b)→joinP (fun R13=>cnd (decide (((n:Nat):Int)<2)) (R13 true) (R13 (decide ((128:Int)<((hi:Nat):Int))))) J w4:=by
     intro w4 F4 h2 J hJ
     refine joinP_id (cnd_d (fun _ => ?_) fun h=>absurd h2 h)
     rw [hJ];exact hk w4 F4
    refine c16 A2 hby (by omega) (G.fm F02 (by simp)) (E.fm F02 (by simp)) h9 hw hK hwh ?_ ?_
    ·intro h129 w4 F4
     have F04:=F02.trans F4 (by simp)
     refine cnd_d (fun h2=>small F04 h2 _ (fun _=>rfl)) fun h2=>⟨fun _ => ?_,fun h=>by simp at h⟩
     refine joinP_id (cnd_d (fun h=>absurd h h2) fun _ => ?_)
     unfold q3_J3
     rw [decide_eq_true (by omega)]
     exact hk w4 F04
    ·intro w4 y tbl hbt h129 hwt hy F4
     have F04:=F02.trans F4 (by simp)
     refine cnd_d (fun h2=>small F04 h2 _ (fun _=>rfl)) fun h2=>⟨fun h=>by simp at h,fun _ => ?_⟩
     have hyl:=hy.len
     have htz:=htb tbl _ hwt
     refine c15 hy.vec.arr hbt (by omega) (fun h=>by rw [htz] at h;cases h) ?_
     intro f2 u2 he w5 b5 F5 hb5 B5
     rw [htz] at he
     injection he with he
     injection he with e1 e2
     subst e1 e2
     have F25:=F4.trans F5 (by simp)
     refine joinP_id ⟨fun _ => ?_,fun h=>by simp at h⟩
     refine cnd_d (fun _ => ?_) fun h=>absurd (by simp only;omega) h
     refine c17 (B2.fr F25 (by simp)) B5 (show (256:Nat)<2^20 by decide) ?_
     intro w6 F6
     unfold q3_J4
     exact hk w6 ((F02.trans F25 (by simp)).trans F6 (by simp))
end Go.Sx
