/- Lemmas for the proof: X39 X40 X41 X42 X43 X44 X45 X46 X47 X48 X49 H74 H75 H76. No conditions. -/
import Derived.Test.YtlnhldlhmplphaaDoorS4A07
set_option linter.unusedVariables false
set_option linter.unusedSimpArgs false
namespace Go.Sx
open Go Go.Proofs
set_option maxRecDepth 4000
def oS (g o n:Nat):Sl:=⟨some ⟨g,o,none⟩,n,256⟩
def FS.wo (s:FS) (g o n:Nat):FS := { s with out:=oS g o n }
structure Ap (b d1 d2 tb g ts:Nat) (i:Sl) (l:List Nat):Prop where
 gb:g≠b
 g1:g≠d1
 g2:g≠d2
 gt:g≠tb
 gts:g≠ts
 tsb:ts≠b
 ts1:ts≠d1
 ts2:ts≠d2
 tst:ts≠tb
 gi:∀a,i.a=some a→l ≠ []→a.block≠g∧a.block≠ts
theorem Ap.sw {b d1 d2 tb g ts:Nat} {i:Sl} {l:List Nat} (A:Ap b d1 d2 tb g ts i l):Ap b d2 d1 tb g ts i l :=
 ⟨A.gb,A.g2,A.g1,A.gt,A.gts,A.tsb,A.ts2,A.ts1,A.tst,A.gi⟩
theorem put_out {w:World} {b d1 d2 tb g o ts k:Nat} {s:FS} {i:Sl} {l:List Nat} {dt:Sl} {tab:List Cell3} {R:List Nat} {off v r a c:Nat} {pre out:List Nat} (ys:List Nat) {G:Cells} {κ:PT} (hkl:k=ys.length)
  (H:DW w b d1 d2 tb (s.wo g o out.length) i l dt tab R off v r a c pre) (HO:OA w g o G out) (A:Ap b d1 d2 tb g ts i l) (hn:out.length+ys.length≤256)
  (hk:∀w',DW w' b d1 d2 tb (s.wo g o (out++ys).length) i l dt tab R off v r a c pre→OA w' g o G (out++ys)→Fm w w' [b,g]→κ w') :
  (nw (bytes .u8 ys) 5 fun p=>kp [(⟨b,526,none⟩,.slice (oS g o out.length).a (oS g o out.length).l (oS g o out.length).c)]<|app z5 5 1 (oS g o out.length) ⟨some p,k,k⟩ fun s'=>st ⟨b,526,none⟩ (.slice s'.a s'.l s'.c)<|κ) w:=by
 subst hkl
 refine nw_x ?_
 intro p w1 F1 B1 hp
 have H1:=H.fr F1 (by simp) (by simp) (by simp) (by simp) (by simp)
 refine ⟨?_,?_⟩
 ·intro f hf
  simp only [List.mem_cons,List.not_mem_nil,or_false] at hf
  subst hf
  exact H1.rb.blk.cell 526
 ·refine app_oa (HO.fr F1 (by simp)) (ys:=ys) ⟨by simp [bytes],?_,(fun h=>by cases h),?_⟩ hn rfl ?_
  ·intro q hq j hj
   injection hq with hq
   subst hq
   rw [add_mk,Nat.zero_add,B1.cell]
   simp
  ·intro x hx
   simp only [bytes,List.mem_map] at hx
   obtain ⟨y,_,rfl⟩:=hx
   rfl
  ·intro w2 HO2 F2
   have hgi:∀a,i.a=some a→l ≠ []→a.block ∉ [g]:=by intro a ha hl;simpa using (A.gi a ha hl).1
   have H2:=H1.fr F2 (by simp;exact fun e=>A.gb e.symm) (by simp;exact fun e=>A.g1 e.symm) (by simp;exact fun e=>A.g2 e.symm) (by simp;exact fun e=>A.gt e.symm) hgi
   refine st_u H2.rb.blk rfl rfl ?_
   intro w3 B3 F3
   have B3':Blk w3 b ((s.wo g o (out++ys).length).br4 i off v r).at:=B3.congr (FS.setT 14 rfl rfl rfl (by decide))
   have hbi:∀a,i.a=some a→l ≠ []→a.block ∉ [b]:=by intro a ha hl;simpa using H.rb.dis a ha hl
   have R3:RB w3 b (s.wo g o (out++ys).length) i l off v r:=⟨B3',H2.rb.arr.fr F3 hbi,H2.rb.u8,H2.rb.len,H2.rb.dis,H2.rb.of,H2.rb.rd,H2.rb.v64,H2.rb.val⟩
   refine hk w3 ⟨R3,H2.c1.fr F3 (by simpa using H.n1),H2.c2.fr F3 (by simpa using H.n2),H2.dt.fr F3 (by simpa using H.nt.1),H.tw,H.tB,H.n1,H.n2,H.n12,H.nt,H.ni⟩ (HO2.fr F3 (by simpa using A.gb)) ?_
   exact ((F1.mono (S' := [b,g]) (by simp)).trans F2 (by intro x hx;left;simp at hx;simp [hx])).trans F3 (by intro x hx;left;simp at hx;simp [hx])
theorem d80_J3 {w:World} {b:Nat} {s:FS} {i:Sl} {l:List Nat} {off v r:Nat} {K:Value→PT} (H:RB w b s i l off v r)
  (hk:∀w',Blk w' b (s.br4 ⟨none,0,0⟩ off v r).at→Fm w w' [b]→K .nilIface w'):q80_J3 ⟨b,0,none⟩ K () w:=by
 unfold q80_J3
 simp only [add_mk,Nat.zero_add]
 exact c108 H hk
theorem d80_L2 {w w0:World} {b d1 d2 tb g o ts q:Nat} {s:FS} {i:Sl} {l:List Nat} {dt:Sl} {tab:List Cell3} {R:List Nat} {off v r a c:Nat} {pre:List Nat} {G:Cells} {K:Value→PT}
  (H:DW w b d1 d2 tb (s.wo g o pre.length) i l dt tab R off v r a c pre) (HO:OA w g o G pre) (A:Ap b d1 d2 tb g ts i l) (hlim:s.lim=255) (F0:Fm w0 w [b,d1,d2,g,q])
  (hk:∀w' off' v' r',Blk w' b ((s.wo g o R.length).br4 ⟨none,0,0⟩ off' v' r').at→OA w' g o G R→Fm w0 w' [b,d1,d2,g,q]→K .nilIface w') :
  joinP (fun R57=>loopP () (q80_L2 ⟨b,0,none⟩ K ⟨d1,0,none⟩ ⟨d2,0,none⟩ R57)) (q80_J3 ⟨b,0,none⟩ K) w:=by
 refine joinP_id ?_
 refine ⟨fun _ w'=>∃off v r a c pre,DW w' b d1 d2 tb (s.wo g o pre.length) i l dt tab R off v r a c pre∧OA w' g o G pre∧Fm w0 w' [b,d1,d2,g,q],
  fun _ w'=>match w'.cell? ⟨b,526,none⟩ with|some (.slice _ n _)=>256-n|_=>0,⟨off,v,r,a,c,pre,H,HO,F0⟩,?_⟩
 clear H HO F0
 rintro _ w1 ⟨off,v,r,a,c,pre,H,HO,F0⟩
 have hlen:=H.tw.len
 unfold q80_L2
 simp only [add_mk,Nat.zero_add]
 have hlt:=H.tw.wh.lt
 refine c105 H.ds1 hlt.1 ?_
 intro w2 F2
 have H2:=H.fr F2 (by simp) (by simp) (by simp) (by simp) (by simp)
 have HO2:=HO.fr F2 (by simp)
 have F02:Fm w0 w2 [b,d1,d2,g,q]:=F0.trans F2 (by simp)
 have last:∀ {w3:World} {e1 e2 off v r a c:Nat} {pre:List Nat} ,(e1=d1∧e2=d2∨e1=d2∧e2=d1)→DW w3 b e1 e2 tb (s.wo g o pre.length) i l dt tab R off v r a c pre→OA w3 g o G pre→Fm w0 w3 [b,d1,d2,g,q]→8*off+(64-r)=0 →
   (drw<|ld .S ⟨b,526,none⟩ fun (s61:Sl)=>callP Tryd.prog 106 #[(.pointer (some ⟨e1,0,none⟩))] [.c (.I .u8)] fun (r62:Int)=>kp [(⟨b,526,none⟩,(.slice s61.a s61.l s61.c))]<|callP Tryd.prog 106 #[(.pointer (some ⟨e2,0,none⟩))] [.c (.I .u8)] fun (r63:Int)=>kp [(⟨b,526,none⟩,(.slice s61.a s61.l s61.c))]<|nw [(.int .u8 r62),(.int .u8 r63)] 5 fun (p64:Addr)=>kp [(⟨b,526,none⟩,(.slice s61.a s61.l s61.c))]<|app z5 5 1 s61 ⟨(some p64),2,2⟩ fun (s65:Sl)=>st ⟨b,526,none⟩ (.slice s65.a s65.l s65.c)<|q80_J3 ⟨b,0,none⟩ K ()) w3:=by
  intro w3 e1 e2 off v r a c pre he H HO F0 h0
  have A':Ap b e1 e2 tb g ts i l:=by rcases he with ⟨rfl,rfl⟩|⟨rfl,rfl⟩;exact A;exact A.sw
  have hlen:=H.tw.len
  have htw:=H.tw
  rw [h0] at htw
  obtain ⟨ha,hc,p1,p2,p3⟩:=htw.fin
  rw [Nat.mod_eq_of_lt (H.tB.sym a ha),Nat.mod_eq_of_lt (H.tB.sym c hc),List.append_assoc] at p2
  unfold drw
  have F4:=(Fm.refl w3 []).drew
  have H4:=H.fr F4 (by simp) (by simp) (by simp) (by simp) (by simp)
  have HO4:=HO.fr F4 (by simp)
  refine ld_b (t := .S) (x:=oS g o pre.length) H4.rb.blk rfl ?_
  refine c106 (b:=b) (s:=s) (i:=i) (l:=l) (off:=off) (v:=v) (r:=r) H4.c1 H4.dt ha ?_
  intro w5 F5
  have H5:=H4.fr F5 (by simp) (by simp) (by simp) (by simp) (by simp)
  have HO5:=HO4.fr F5 (by simp)
  refine ⟨by intro f hf;simp only [List.mem_cons,List.not_mem_nil,or_false] at hf;subst hf;exact H5.rb.blk.cell 526,?_⟩
  refine c106 (b:=b) (s:=s) (i:=i) (l:=l) (off:=off) (v:=v) (r:=r) H5.c2 H5.dt hc ?_
  intro w6 F6
  have H6:=H5.fr F6 (by simp) (by simp) (by simp) (by simp) (by simp)
  have HO6:=HO5.fr F6 (by simp)
  refine ⟨by intro f hf;simp only [List.mem_cons,List.not_mem_nil,or_false] at hf;subst hf;exact H6.rb.blk.cell 526,?_⟩
  have F06:Fm w0 w6 [b,d1,d2,g,q]:=((F0.trans F4 (by simp)).trans F5 (by simp)).trans F6 (by simp)
  refine put_out [tab[a].1,tab[c].1] rfl H6 HO6 A' (by simp;omega) ?_
  intro w7 H7 HO7 F7
  have F07:Fm w0 w7 [b,d1,d2,g,q]:=F06.trans F7 (by intro x hx;left;simp at hx;rcases hx with rfl|rfl<;>simp)
  have e:pre ++ [tab[a].1,tab[c].1]=R:=by rw [p2];rfl
  rw [e] at H7 HO7
  refine d80_J3 H7.rb ?_
  intro w8 B8 F8
  exact hk w8 _ _ _ B8 (HO7.fr F8 (by simpa using A.gb)) (F07.trans F8 (by intro x hx;left;simp at hx;subst hx;simp))
 by_cases h0:8*off+(64-r)=0
 ·have htw:=H.tw
  rw [h0] at htw
  obtain ⟨ha,hc,p1,p2,p3⟩:=htw.fin
  rw [decide_eq_true h0,decide_eq_true p1]
  exact ⟨fun _=>last (.inl ⟨rfl,rfl⟩) H2 HO2 F02 h0,fun h=>by simp at h⟩
 ·rw [decide_eq_false h0]
  refine ⟨fun h=>by simp at h,fun _ => ?_⟩
  refine c107 H2.rb ?_
  intro w3 o3 v3 r3 H3f h3r
  have H3:=H2.fil H3f
  have l3:=H3f.lf
  have HO3:=HO2.fr H3f.fm (by simpa using A.gb)
  have F03:Fm w0 w3 [b,d1,d2,g,q]:=F02.trans H3f.fm (by intro x hx;left;simp at hx;subst hx;simp)
  unfold drw
  have F4:=(Fm.refl w3 []).drew
  have H4:=H3.fr F4 (by simp) (by simp) (by simp) (by simp) (by simp)
  have HO4:=HO3.fr F4 (by simp)
  refine ld_b (t := .S) (x:=oS g o pre.length) H4.rb.blk rfl ?_
  refine (H4.step (by omega) (by omega) ?_).2
  intro w5 x r5 y hx H5 hr5 hl5 F5
  have hsub:∀z ∈ [b,d1],z ∈ [b,d1,d2,g,q]∨w0.heap.size≤z:=by intro z hz;left;simp at hz;rcases hz with rfl|rfl<;>simp
  have F05:Fm w0 w5 [b,d1,d2,g,q]:=(F03.trans F4 (by simp)).trans F5 hsub
  have HO5:=HO4.fr F5 (by simp;exact ⟨A.gb,A.g1⟩)
  refine ⟨by intro f hf;simp only [List.mem_cons,List.not_mem_nil,or_false] at hf;subst hf;exact H5.rb.blk.cell 526,?_⟩
  have hlen5:=H5.tw.len
  simp only [List.length_append,List.length_cons,List.length_nil] at hlen5
  refine put_out [x] rfl H5 HO5 A.sw (by simp;omega) ?_
  intro w6 H6 HO6 F6
  have F06:Fm w0 w6 [b,d1,d2,g,q]:=F05.trans F6 (by intro x hx;left;simp at hx;rcases hx with rfl|rfl<;>simp)
  have hlt6:=H6.tw.wh.lt
  refine c105 H6.ds1 hlt6.1 ?_
  intro w7 F7
  have H7:=H6.fr F7 (by simp) (by simp) (by simp) (by simp) (by simp)
  have HO7:=HO6.fr F7 (by simp)
  have F07:Fm w0 w7 [b,d1,d2,g,q]:=F06.trans F7 (by simp)
  by_cases h7:8*o3+(64-r5)=0
  ·have htw:=H7.tw
   rw [h7] at htw
   obtain ⟨ha,hc,p1,p2,p3⟩:=htw.fin
   rw [decide_eq_true h7,decide_eq_true p1]
   exact ⟨fun _=>last (.inr ⟨rfl,rfl⟩) H7 HO7 F07 h7,fun h=>by simp at h⟩
  ·rw [decide_eq_false h7]
   refine ⟨fun h=>by simp at h,fun _ => ?_⟩
   have F8:=(Fm.refl w7 []).drew
   have H8:=H7.fr F8 (by simp) (by simp) (by simp) (by simp) (by simp)
   have HO8:=HO7.fr F8 (by simp)
   refine ld_b (t := .S) (x:=oS g o (pre ++ [x]).length) H8.rb.blk rfl ?_
   have hbig:r5+6≤64∨o3=0:=by
    rcases h3r with h|h
    ·left;omega
    ·exact .inr h
   refine (H8.step (by omega) hbig ?_).2
   intro w9 x9 r9 y9 hx9 H9 hr9 hl9 F9
   have F09:Fm w0 w9 [b,d1,d2,g,q]:=(F07.trans F8 (by simp)).trans F9 (by intro z hz;left;simp at hz;rcases hz with rfl|rfl<;>simp)
   have HO9:=HO8.fr F9 (by simp;exact ⟨A.gb,A.g2⟩)
   refine ⟨by intro f hf;simp only [List.mem_cons,List.not_mem_nil,or_false] at hf;subst hf;exact H9.rb.blk.cell 526,?_⟩
   have hlen9:=H9.tw.len
   simp only [List.length_append,List.length_cons,List.length_nil] at hlen9
   refine put_out [x9] rfl H9 HO9 A (by simp;omega) ?_
   intro w10 H10 HO10 F10
   have F010:Fm w0 w10 [b,d1,d2,g,q]:=F09.trans F10 (by intro x hx;left;simp at hx;rcases hx with rfl|rfl<;>simp)
   have F11:=(Fm.refl w10 []).drew
   have H11:=H10.fr F11 (by simp) (by simp) (by simp) (by simp) (by simp)
   have HO11:=HO10.fr F11 (by simp)
   refine ld_b (t := .S) (x:=oS g o (pre ++ [x] ++ [x9]).length) H11.rb.blk rfl ?_
   refine ld_b (t := .I .i64) (x:=255) H11.rb.blk (by show some (Value.int .i64 s.lim)=_;rw [hlim];rfl) ?_
   refine cnd_d (fun h => ?_) fun _ => ?_
   ·exfalso
    simp only [oS,List.length_append,List.length_cons,List.length_nil] at h
    omega
   ·refine ⟨⟨_,_,_,_,_,_,H11,HO11,F010.trans F11 (by simp)⟩,?_⟩
    rw [show w10.drew.cell? ⟨b,526,none⟩=_ from H11.rb.blk.cell 526,show w1.cell? ⟨b,526,none⟩=_ from H.rb.blk.cell 526]
    show 256-(pre ++ [x] ++ [x9]).length<256-pre.length
    simp only [List.length_append,List.length_cons,List.length_nil]
    omega
def TM (w:World) (ts:Nat) (pre:List Nat):Prop:=∃f:Cells,Blk w ts f∧(∀i (h:i<pre.length),f i=some (.int .u8 (pre[i]:Nat)))∧∀i,i<256→(f i).isSome
theorem TM.fr {w w':World} {ts:Nat} {pre:List Nat} {S:List Nat} (H:TM w ts pre) (F:Fm w w' S) (h:ts∉S):TM w' ts pre:=by
 obtain ⟨f,B,h1,h2⟩:=H;exact ⟨f,B.fr F h,h1,h2⟩
theorem TM.put {w:World} {ts n j c x:Nat} {pre:List Nat} {i:Int} {κ:PT} (H:TM w ts pre) (hi:i=((pre.length:Nat):Int)) (hp:pre.length<256)
  (hk:∀w',TM w' ts (pre ++ [x])→Fm w w' [ts]→κ w'):ixS 1 ⟨some ⟨ts,0,none⟩,256,c⟩ i (fun p=>st p (.int .u8 (x:Nat)) κ) w:=by
 obtain ⟨f,B,h1,h2⟩:=H
 refine ixS_o hi hp ?_
 rw [Nat.zero_add]
 refine st_u B (h2 _ hp) rfl ?_
 intro w' B' F'
 refine hk w' ⟨_,B',?_,?_⟩ F'
 ·intro k hk
  simp only [List.length_append,List.length_cons,List.length_nil] at hk
  unfold updC
  by_cases e:k=pre.length
  ·subst e;simp
  ·rw [if_neg e,List.getElem_append_left (by omega)];exact h1 k (by omega)
 ·intro k hk
  unfold updC
  split
  ·rfl
  ·exact h2 k hk
theorem d80_J4 {w w0:World} {b d1 d2 tb g o ts cc:Nat} {s:FS} {i:Sl} {l:List Nat} {dt:Sl} {tab:List Cell3} {R:List Nat} {off v r a c:Nat} {pre:List Nat} {G:Cells} {K:Value→PT}
  (H:DW w b d1 d2 tb (s.wo g o 0) i l dt tab R off v r a c pre) (HO:OA w g o G []) (HT:TM w ts pre) (A:Ap b d1 d2 tb g ts i l) (hlim:s.lim=255) (hcc:256≤cc) (F0:Fm w0 w [b,d1,d2,g,ts])
  (hk:∀w' off' v' r',Blk w' b ((s.wo g o R.length).br4 ⟨none,0,0⟩ off' v' r').at→OA w' g o G R→TM w' ts []→Fm w0 w' [b,d1,d2,g,ts]→K .nilIface w') :
  q80_J4 ⟨b,0,none⟩ K ⟨d1,0,none⟩ ⟨d2,0,none⟩ ⟨some ⟨ts,0,none⟩,256,cc⟩ ((pre.length:Nat):Int) w:=by
 unfold q80_J4 drw
 simp only [add_mk,Nat.zero_add]
 have hlen:=H.tw.len
 have F1:=(Fm.refl w []).drew
 have H1:=H.fr F1 (by simp) (by simp) (by simp) (by simp) (by simp)
 have HO1:=HO.fr F1 (by simp)
 have HT1:=HT.fr F1 (by simp)
 refine ld_b (t := .S) (x:=oS g o 0) H1.rb.blk rfl ?_
 refine slc_hi (m:=pre.length) rfl (by simp only;omega) ?_
 obtain ⟨f,B,h1,h2⟩:=HT1
 refine app_oa HO1 (ys:=pre) ⟨by simp [bytes],?_,(fun h=>by cases h),?_⟩ (by simp;omega) rfl ?_
 ·intro q hq j hj
  injection hq with hq
  subst hq
  simp only [bytes,List.length_map] at hj
  rw [add_mk,Nat.zero_add,B.cell,h1 j hj]
  simp [bytes,hj]
 ·intro x hx
  simp only [bytes,List.mem_map] at hx
  obtain ⟨y,_,rfl⟩:=hx
  rfl
 ·intro w2 HO2 F2
  rw [List.nil_append] at HO2 ⊢
  have hgi:∀a,i.a=some a→l ≠ []→a.block ∉ [g]:=by intro a ha hl;simpa using (A.gi a ha hl).1
  have H2:=H1.fr F2 (by simp;exact fun e=>A.gb e.symm) (by simp;exact fun e=>A.g1 e.symm) (by simp;exact fun e=>A.g2 e.symm) (by simp;exact fun e=>A.gt e.symm) hgi
  refine st_u H2.rb.blk rfl rfl ?_
  intro w3 B3 F3
  have B3':Blk w3 b ((s.wo g o pre.length).br4 i off v r).at:=B3.congr (FS.setT 14 rfl rfl rfl (by decide))
  have hbi:∀a,i.a=some a→l ≠ []→a.block ∉ [b]:=by intro a ha hl;simpa using H.rb.dis a ha hl
  have R3:RB w3 b (s.wo g o pre.length) i l off v r:=⟨B3',H2.rb.arr.fr F3 hbi,H2.rb.u8,H2.rb.len,H2.rb.dis,H2.rb.of,H2.rb.rd,H2.rb.v64,H2.rb.val⟩
  have H3:DW w3 b d1 d2 tb (s.wo g o pre.length) i l dt tab R off v r a c pre:=⟨R3,H2.c1.fr F3 (by simpa using H.n1),H2.c2.fr F3 (by simpa using H.n2),H2.dt.fr F3 (by simpa using H.nt.1),H.tw,H.tB,H.n1,H.n2,H.n12,H.nt,H.ni⟩
  refine d80_L2 (q:=b) H3 (HO2.fr F3 (by simpa using A.gb)) A hlim (Fm.refl w3 _) ?_
  intro w' off' v' r' B' O' F'
  have HT3:TM w3 ts []:=⟨f,(B.fr F2 (by simpa using A.gts.symm)).fr F3 (by simpa using A.tsb),by simp,h2⟩
  refine hk w' off' v' r' B' O' (HT3.fr F' (by simp;exact ⟨A.tsb,A.ts1,A.ts2,A.gts.symm,A.tsb⟩)) ?_
  exact (((F0.trans F1 (by simp)).trans F2 (by intro x hx;left;simp at hx;simp [hx])).trans F3 (by intro x hx;left;simp at hx;simp [hx])).trans F' (by intro x hx;left;simp at hx;rcases hx with rfl|rfl|rfl|rfl|rfl<;>simp)
theorem d80_L0 {w w0:World} {b d1 d2 tb g o ts cc:Nat} {s:FS} {i:Sl} {l:List Nat} {dt:Sl} {tab:List Cell3} {R:List Nat} {off v r a c:Nat} {G:Cells} {K:Value→PT}
  (H:DW w b d1 d2 tb (s.wo g o 0) i l dt tab R off v r a c []) (HO:OA w g o G []) (HT:TM w ts []) (A:Ap b d1 d2 tb g ts i l) (hlim:s.lim=255) (hcc:256≤cc) (F0:Fm w0 w [b,d1,d2,g,ts])
  (hk:∀w' off' v' r',Blk w' b ((s.wo g o R.length).br4 ⟨none,0,0⟩ off' v' r').at→OA w' g o G R→TM w' ts []→Fm w0 w' [b,d1,d2,g,ts]→K .nilIface w') :
  loopP (0:Int) (q80_L0 ⟨b,0,none⟩ K ⟨d1,0,none⟩ ⟨d2,0,none⟩ ⟨some ⟨ts,0,none⟩,256,cc⟩ (q80_J4 ⟨b,0,none⟩ K ⟨d1,0,none⟩ ⟨d2,0,none⟩ ⟨some ⟨ts,0,none⟩,256,cc⟩)) w:=by
 refine ⟨fun x w'=>∃off v r a c pre,x=((pre.length:Nat):Int)∧DW w' b d1 d2 tb (s.wo g o 0) i l dt tab R off v r a c pre∧OA w' g o G []∧TM w' ts pre∧Fm w0 w' [b,d1,d2,g,ts],
  fun x _=>256-x.toNat,⟨off,v,r,a,c,[],rfl,H,HO,HT,F0⟩,?_⟩
 clear H HO HT F0
 rintro _ w1 ⟨off,v,r,a,c,pre,rfl,H,HO,HT,F0⟩
 have hlen:=H.tw.len
 unfold q80_L0
 simp only [add_mk,Nat.zero_add]
 refine ld_b (t := .I .u64) (x:=(off:Int)) H.rb.blk rfl (cnd_d (fun h8 => ?_) fun _ => ?_)
 ·have sb:∀ {w2 w3:World},Fm w0 w2 [b,d1,d2,g,ts]→Fm w2 w3 [b]→Fm w0 w3 [b,d1,d2,g,ts]:=fun F1 F2=>F1.trans F2 (by intro x hx;left;simp at hx;simp [hx])
  have s1:∀ {w2 w3:World},Fm w0 w2 [b,d1,d2,g,ts]→Fm w2 w3 [b,d1]→Fm w0 w3 [b,d1,d2,g,ts]:=fun F1 F2=>F1.trans F2 (by intro x hx;left;simp at hx;rcases hx with rfl|rfl<;>simp)
  have s2:∀ {w2 w3:World},Fm w0 w2 [b,d1,d2,g,ts]→Fm w2 w3 [b,d2]→Fm w0 w3 [b,d1,d2,g,ts]:=fun F1 F2=>F1.trans F2 (by intro x hx;left;simp at hx;rcases hx with rfl|rfl<;>simp)
  have st:∀ {w2 w3:World},Fm w0 w2 [b,d1,d2,g,ts]→Fm w2 w3 [ts]→Fm w0 w3 [b,d1,d2,g,ts]:=fun F1 F2=>F1.trans F2 (by intro x hx;left;simp at hx;simp [hx])
  have hti:∀a,i.a=some a→l ≠ []→a.block ∉ [ts]:=by intro a ha hl;simpa using (A.gi a ha hl).2
  have tD:∀ {w2 w3:World} {e1 e2 off v r a c:Nat} {pre:List Nat},(e1=d1∧e2=d2∨e1=d2∧e2=d1)→DW w2 b e1 e2 tb (s.wo g o 0) i l dt tab R off v r a c pre→Fm w2 w3 [ts]→DW w3 b e1 e2 tb (s.wo g o 0) i l dt tab R off v r a c pre:=by
   intro w2 w3 e1 e2 off v r a c pre he H F
   refine H.fr F (by simp;exact fun e=>A.tsb e.symm) ?_ ?_ (by simp;exact fun e=>A.tst e.symm) hti
   ·rcases he with ⟨rfl,rfl⟩|⟨rfl,rfl⟩<;>simp
    ·exact fun e=>A.ts1 e.symm
    ·exact fun e=>A.ts2 e.symm
   ·rcases he with ⟨rfl,rfl⟩|⟨rfl,rfl⟩<;>simp
    ·exact fun e=>A.ts2 e.symm
    ·exact fun e=>A.ts1 e.symm
  have o1:g ∉ [b,d1]:=by simp;exact ⟨A.gb,A.g1⟩
  have o2:g ∉ [b,d2]:=by simp;exact ⟨A.gb,A.g2⟩
  have ot:g ∉ [ts]:=by simpa using A.gts
  have t1:ts ∉ [b,d1]:=by simp;exact ⟨A.tsb,A.ts1⟩
  have t2:ts ∉ [b,d2]:=by simp;exact ⟨A.tsb,A.ts2⟩
  have hl0:=H.rb.rd
  refine c102 H.rb (by omega) ?_
  intro w2 o2' v2 r2 H2f hr2 ho2
  have H2:=H.fil H2f
  have l2:=H2f.lf
  have F2:=sb F0 H2f.fm
  refine (H2.step (by omega) (by omega) ?_).1
  intro w3 x3 r3 y3 hx3 H3 hr3 hl3 F3'
  have F3:=s1 F2 F3'
  have n3:=H3.tw.len
  simp only [List.length_append,List.length_cons,List.length_nil] at n3
  refine ((HT.fr H2f.fm (by simpa using A.tsb)).fr F3' t1).put (n:=0) (j:=0) (by rw [wU8 (by omega) (by omega)];omega) (by omega) ?_
  intro w4 HT4 F4'
  have F4:=st F3 F4'
  have H4:=tD (.inr ⟨rfl,rfl⟩) H3 F4'
  refine (H4.step (by omega) (by omega) ?_).1
  intro w5 x5 r5 y5 hx5 H5 hr5 hl5 F5'
  have F5:=s2 F4 F5'
  have n5:=H5.tw.len
  simp only [List.length_append,List.length_cons,List.length_nil] at n5
  refine (HT4.fr F5' t2).put (n:=0) (j:=0) (by rw [wU8 (by omega) (by omega)];simp) (by simp;omega) ?_
  intro w6 HT6 F6'
  have F6:=st F5 F6'
  have H6:=tD (.inl ⟨rfl,rfl⟩) H5 F6'
  refine c102 H6.rb (by omega) ?_
  intro w7 o7 v7 r7 H7f hr7 ho7
  have H7:=H6.fil H7f
  have l7:=H7f.lf
  have F7:=sb F6 H7f.fm
  refine (H7.step (by omega) (by omega) ?_).1
  intro w8 x8 r8 y8 hx8 H8 hr8 hl8 F8'
  have F8:=s1 F7 F8'
  have n8:=H8.tw.len
  simp only [List.length_append,List.length_cons,List.length_nil] at n8
  refine ((HT6.fr H7f.fm (by simpa using A.tsb)).fr F8' t1).put (n:=0) (j:=0) (by rw [wU8 (by omega) (by omega)];simp) (by simp;omega) ?_
  intro w9 HT9 F9'
  have F9:=st F8 F9'
  have H9:=tD (.inr ⟨rfl,rfl⟩) H8 F9'
  refine (H9.step (by omega) (by omega) ?_).1
  intro w10 x10 r10 y10 hx10 H10 hr10 hl10 F10'
  have F10:=s2 F9 F10'
  have n10:=H10.tw.len
  simp only [List.length_append,List.length_cons,List.length_nil] at n10
  refine (HT9.fr F10' t2).put (n:=0) (j:=0) (by rw [wU8 (by omega) (by omega)];simp) (by simp;omega) ?_
  intro w11 HT11 F11'
  have F11:=st F10 F11'
  have H11:=tD (.inl ⟨rfl,rfl⟩) H10 F11'
  have e4:IntKind.u8.wrap (((pre.length:Nat):Int)+4)=(((pre ++ [x3] ++ [x5] ++ [x8] ++ [x10]).length:Nat):Int):=by
   rw [wU8 (by omega) (by omega)];simp
  rw [e4]
  refine cnd_d (fun h => ?_) fun _ => ?_
  ·exfalso;simp at h;omega
  ·have HO11:=((((((((HO.fr H2f.fm (by simpa using A.gb)).fr F3' o1).fr F4' ot).fr F5' o2).fr F6' ot).fr H7f.fm (by simpa using A.gb)).fr F8' o1).fr F9' ot).fr F10' o2 |>.fr F11' ot
   refine ⟨⟨_,_,_,_,_,_,rfl,H11,HO11,HT11,F11⟩,?_⟩
   rw [Int.toNat_natCast,Int.toNat_natCast]
   simp;omega
 ·exact d80_J4 H HO HT A hlim hcc F0 hk
theorem d80_L1 {w w0:World} {b d1 d2 tb g o ts cc:Nat} {s:FS} {i:Sl} {l:List Nat} {dt:Sl} {tab:List Cell3} {R:List Nat} {off v r a c:Nat} {G:Cells} {K:Value→PT}
  (H:DW w b d1 d2 tb (s.wo g o 0) i l dt tab R off v r a c []) (HO:OA w g o G []) (HT:TM w ts []) (A:Ap b d1 d2 tb g ts i l) (hlim:s.lim=255) (hcc:256≤cc) (F0:Fm w0 w [b,d1,d2,g,ts])
  (hk:∀w' off' v' r',Blk w' b ((s.wo g o R.length).br4 ⟨none,0,0⟩ off' v' r').at→OA w' g o G R→TM w' ts []→Fm w0 w' [b,d1,d2,g,ts]→K .nilIface w') :
  loopP (0:Int) (q80_L1 ⟨b,0,none⟩ K ⟨d1,0,none⟩ ⟨d2,0,none⟩ ⟨some ⟨ts,0,none⟩,256,cc⟩ (q80_J4 ⟨b,0,none⟩ K ⟨d1,0,none⟩ ⟨d2,0,none⟩ ⟨some ⟨ts,0,none⟩,256,cc⟩)) w:=by
 refine ⟨fun x w'=>∃off v r a c pre,x=((pre.length:Nat):Int)∧DW w' b d1 d2 tb (s.wo g o 0) i l dt tab R off v r a c pre∧OA w' g o G []∧TM w' ts pre∧Fm w0 w' [b,d1,d2,g,ts],
  fun x _=>256-x.toNat,⟨off,v,r,a,c,[],rfl,H,HO,HT,F0⟩,?_⟩
 clear H HO HT F0
 rintro _ w1 ⟨off,v,r,a,c,pre,rfl,H,HO,HT,F0⟩
 have hlen:=H.tw.len
 unfold q80_L1
 simp only [add_mk,Nat.zero_add]
 refine ld_b (t := .I .u64) (x:=(off:Int)) H.rb.blk rfl (cnd_d (fun h8 => ?_) fun _ => ?_)
 ·have sb:∀ {w2 w3:World},Fm w0 w2 [b,d1,d2,g,ts]→Fm w2 w3 [b]→Fm w0 w3 [b,d1,d2,g,ts]:=fun F1 F2=>F1.trans F2 (by intro x hx;left;simp at hx;simp [hx])
  have s1:∀ {w2 w3:World},Fm w0 w2 [b,d1,d2,g,ts]→Fm w2 w3 [b,d1]→Fm w0 w3 [b,d1,d2,g,ts]:=fun F1 F2=>F1.trans F2 (by intro x hx;left;simp at hx;rcases hx with rfl|rfl<;>simp)
  have s2:∀ {w2 w3:World},Fm w0 w2 [b,d1,d2,g,ts]→Fm w2 w3 [b,d2]→Fm w0 w3 [b,d1,d2,g,ts]:=fun F1 F2=>F1.trans F2 (by intro x hx;left;simp at hx;rcases hx with rfl|rfl<;>simp)
  have st:∀ {w2 w3:World},Fm w0 w2 [b,d1,d2,g,ts]→Fm w2 w3 [ts]→Fm w0 w3 [b,d1,d2,g,ts]:=fun F1 F2=>F1.trans F2 (by intro x hx;left;simp at hx;simp [hx])
  have hti:∀a,i.a=some a→l ≠ []→a.block ∉ [ts]:=by intro a ha hl;simpa using (A.gi a ha hl).2
  have tD:∀ {w2 w3:World} {e1 e2 off v r a c:Nat} {pre:List Nat},(e1=d1∧e2=d2∨e1=d2∧e2=d1)→DW w2 b e1 e2 tb (s.wo g o 0) i l dt tab R off v r a c pre→Fm w2 w3 [ts]→DW w3 b e1 e2 tb (s.wo g o 0) i l dt tab R off v r a c pre:=by
   intro w2 w3 e1 e2 off v r a c pre he H F
   refine H.fr F (by simp;exact fun e=>A.tsb e.symm) ?_ ?_ (by simp;exact fun e=>A.tst e.symm) hti
   ·rcases he with ⟨rfl,rfl⟩|⟨rfl,rfl⟩<;>simp
    ·exact fun e=>A.ts1 e.symm
    ·exact fun e=>A.ts2 e.symm
   ·rcases he with ⟨rfl,rfl⟩|⟨rfl,rfl⟩<;>simp
    ·exact fun e=>A.ts2 e.symm
    ·exact fun e=>A.ts1 e.symm
  have o1:g ∉ [b,d1]:=by simp;exact ⟨A.gb,A.g1⟩
  have o2:g ∉ [b,d2]:=by simp;exact ⟨A.gb,A.g2⟩
  have ot:g ∉ [ts]:=by simpa using A.gts
  have t1:ts ∉ [b,d1]:=by simp;exact ⟨A.tsb,A.ts1⟩
  have t2:ts ∉ [b,d2]:=by simp;exact ⟨A.tsb,A.ts2⟩
  have hl0:=H.rb.rd
  refine c102 H.rb (by omega) ?_
  intro w2 o2' v2 r2 H2f hr2 ho2
  have H2:=H.fil H2f
  have l2:=H2f.lf
  have F2:=sb F0 H2f.fm
  refine (H2.step (by omega) (by omega) ?_).2
  intro w3 x3 r3 y3 hx3 H3 hr3 hl3 F3'
  have F3:=s1 F2 F3'
  have n3:=H3.tw.len
  simp only [List.length_append,List.length_cons,List.length_nil] at n3
  refine ((HT.fr H2f.fm (by simpa using A.tsb)).fr F3' t1).put (n:=0) (j:=0) (by rw [wU8 (by omega) (by omega)];omega) (by omega) ?_
  intro w4 HT4 F4'
  have F4:=st F3 F4'
  have H4:=tD (.inr ⟨rfl,rfl⟩) H3 F4'
  refine (H4.step (by omega) (by omega) ?_).2
  intro w5 x5 r5 y5 hx5 H5 hr5 hl5 F5'
  have F5:=s2 F4 F5'
  have n5:=H5.tw.len
  simp only [List.length_append,List.length_cons,List.length_nil] at n5
  refine (HT4.fr F5' t2).put (n:=0) (j:=0) (by rw [wU8 (by omega) (by omega)];simp) (by simp;omega) ?_
  intro w6 HT6 F6'
  have F6:=st F5 F6'
  have H6:=tD (.inl ⟨rfl,rfl⟩) H5 F6'
  refine c102 H6.rb (by omega) ?_
  intro w7 o7 v7 r7 H7f hr7 ho7
  have H7:=H6.fil H7f
  have l7:=H7f.lf
  have F7:=sb F6 H7f.fm
  refine (H7.step (by omega) (by omega) ?_).2
  intro w8 x8 r8 y8 hx8 H8 hr8 hl8 F8'
  have F8:=s1 F7 F8'
  have n8:=H8.tw.len
  simp only [List.length_append,List.length_cons,List.length_nil] at n8
  refine ((HT6.fr H7f.fm (by simpa using A.tsb)).fr F8' t1).put (n:=0) (j:=0) (by rw [wU8 (by omega) (by omega)];simp) (by simp;omega) ?_
  intro w9 HT9 F9'
  have F9:=st F8 F9'
  have H9:=tD (.inr ⟨rfl,rfl⟩) H8 F9'
  refine (H9.step (by omega) (by omega) ?_).2
  intro w10 x10 r10 y10 hx10 H10 hr10 hl10 F10'
  have F10:=s2 F9 F10'
  have n10:=H10.tw.len
  simp only [List.length_append,List.length_cons,List.length_nil] at n10
  refine (HT9.fr F10' t2).put (n:=0) (j:=0) (by rw [wU8 (by omega) (by omega)];simp) (by simp;omega) ?_
  intro w11 HT11 F11'
  have F11:=st F10 F11'
  have H11:=tD (.inl ⟨rfl,rfl⟩) H10 F11'
  have e4:IntKind.u8.wrap (((pre.length:Nat):Int)+4)=(((pre ++ [x3] ++ [x5] ++ [x8] ++ [x10]).length:Nat):Int):=by
   rw [wU8 (by omega) (by omega)];simp
  rw [e4]
  refine cnd_d (fun h => ?_) fun _ => ?_
  ·exfalso;simp at h;omega
  ·have HO11:=((((((((HO.fr H2f.fm (by simpa using A.gb)).fr F3' o1).fr F4' ot).fr F5' o2).fr F6' ot).fr H7f.fm (by simpa using A.gb)).fr F8' o1).fr F9' ot).fr F10' o2 |>.fr F11' ot
   refine ⟨⟨_,_,_,_,_,_,rfl,H11,HO11,HT11,F11⟩,?_⟩
   rw [Int.toNat_natCast,Int.toNat_natCast]
   simp;omega
 ·exact d80_J4 H HO HT A hlim hcc F0 hk
theorem c80 {w:World} {b tb g o ts cc:Nat} {s:FS} {l:List Nat} {p T:Nat} {tab:List Cell3} {R:List Nat} {G:Cells} {K:Value→PT}
  (HB:Blk w b (s.wo g o 0).at) (A:Arr .u8 w s.br l) (hl:By l) (hlen:l.length<2^20) (hoff:s.brOff=(p:Nat)) (hp:p≤l.length) (hT:s.atl=(T:Nat)) (hT6:T≤6) (ht:DT w s.dt tb tab) (tB:TabB tab)
  (hts:s.ts=⟨some ⟨ts,0,none⟩,s.ts.l,cc⟩) (hcc:256≤cc) (HTs:TM w ts []) (HO:OA w g o G []) (hlim:s.lim=255)
  (left:Nat) (hbk:backZ (l.drop p)=some left) (hge:2*T≤left) (htw:TW (l.drop p) tab 255 (left-T-T) (tkB (l.drop p) T left) (tkB (l.drop p) T ((left:Int)-T)) [] R)
  (d1:g≠b) (d2:g≠tb) (d3:g≠ts) (d4:ts≠b) (d5:ts≠tb) (d6:tb≠b) (d7:∀a,s.br.a=some a→l ≠ []→a.block≠b∧a.block≠g∧a.block≠ts)
  (hk:∀w' off' v' r',Blk w' b ((s.wo g o R.length).br4 ⟨none,0,0⟩ off' v' r').at→OA w' g o G R→TM w' ts []→Fm w w' [b,g,ts]→K .nilIface w') :
  callP Tryd.prog 80 #[.pointer (some ⟨b,0,none⟩)] [.c .V] K w:=by
 apply q80_ok
 unfold q80
 simp only [add_mk,Nat.zero_add]
 refine ld2_b (t := .S) (u := .I .i64) (x:=s.br) (y:=(p:Int)) HB rfl (by show some (Value.int .i64 s.brOff)=_;rw [hoff];rfl) ?_
 have hsl:=A.len
 refine c100 (s:=s.br) (n:=p) (by omega) ?_
 intro w1 F1
 have A1:=(A.fr F1 (by simp)).drop p hp
 have hby:By (l.drop p):=fun x hx=>hl x (List.mem_of_mem_drop hx)
 have hne:l.drop p ≠ []→l ≠ []:=by intro h e;subst e;simp at h
 generalize hi:(⟨slA s.br.a p s.br.c 1,s.br.l-p,s.br.c-p⟩:Sl)=i at *
 have hia:∀a,i.a=some a→∃a',s.br.a=some a'∧a.block=a'.block:=by
  intro a ha
  subst hi
  simp only [slA] at ha
  split at ha
  ·exact ⟨a,ha,rfl⟩
  ·cases hb:s.br.a with
   | none=>rw [hb] at ha;cases ha
   | some a' =>
    rw [hb] at ha
    injection ha with ha
    subst ha
    refine ⟨a',rfl,?_⟩
    unfold Addr.add;split<;>rfl
 have hid:∀a,i.a=some a→l.drop p ≠ []→a.block≠b∧a.block≠g∧a.block≠ts:=by
  intro a ha h
  obtain ⟨a',h1,h2⟩:=hia a ha
  rw [h2];exact d7 a' h1 (hne h)
 refine c99 (HB.fr F1 (by simp)) A1 hby (by rw [List.length_drop];omega) (fun a ha h=>(hid a ha h).1) hbk ?_
 intro w2 off v r H2 hr40
 have F02:Fm w w2 [b]:=(F1.mono (S' := [b]) (by simp)).trans H2.fm (fun x hx => .inl hx)
 refine ⟨rfl,fun h=>by simp [isNil] at h,fun _ => ?_⟩
 refine nw_x ?_
 intro p1 w3 F3 B3 hp1
 refine nw_x ?_
 intro p2 w4 F4 B4 hp2
 unfold drw
 have hs2:=F02.size
 have hs3:=F3.size
 have hp21:p2≠p1:=by have:=B3.lt;omega
 have F05:Fm w w4.drew [b]:=((F02.trans F3 (by simp)).trans F4 (by simp)).drew
 have F25:Fm w2 w4.drew []:=(F3.trans F4 (by simp)).drew
 have old:∀x,x<w.heap.size→x≠p1∧x≠p2:=by intro x hx;constructor<;>omega
 have hbl:=HB.lt
 have hio:∀a,i.a=some a→l.drop p ≠ []→a.block≠p1∧a.block≠p2:=by
  intro a ha h
  exact old _ (by have:=(A1.old h a ha);have:=F1.size;obtain ⟨a',h1,h2⟩:=hia a ha;rw [h2];exact A.old (hne h) a' h1)
 have R5:RB w4.drew b (s.wo g o 0) i (l.drop p) off v r:=H2.rb.fr F25 (by simp) (by simp)
 have C1:=B3.fr (F4.drew) (by simp)
 have C2:=B4.drew
 refine ld_b (t := .S) (x:=s.dt) R5.blk rfl ?_
 refine ld_b (t := .I .u8) (x:=(T:Int)) R5.blk (by show some (Value.int .u8 s.atl)=_;rw [hT];rfl) ?_
 have hlf:=H2.lf
 have hrd:=H2.rb.rd
 have z0:∀j,3≤j→(⟨z185⟩:Array Value)[j]? = none:=by intro j hj;rw [Array.getElem?_eq_none];exact hj
 have hrT:r+T≤64∧r+T+T≤64:=by omega
 refine c101 R5 C1 rfl rfl rfl z0 (old b hbl).1.symm (fun a ha h=>(hio a ha h).1) (by omega) (by omega) ?_
 intro w6 R6 D6 F6
 have R7:=R6.drew
 refine ld_b (t := .S) (x:=s.dt) R7.blk rfl ?_
 refine ld_b (t := .I .u8) (x:=(T:Int)) R7.blk (by show some (Value.int .u8 s.atl)=_;rw [hT];rfl) ?_
 have C2':=(C2.fr F6 (by simp;exact ⟨(old b hbl).2.symm,hp21⟩)).drew
 refine c101 R7 C2' rfl rfl rfl z0 (old b hbl).2.symm (fun a ha h=>(hio a ha h).2) (by omega) (by omega) ?_
 intro w8 R8 D8 F8
 have F08:Fm w w8 [b]:=((F05.trans F6 (by intro x hx;simp at hx;rcases hx with rfl|rfl;exact .inl (by simp);right;omega)).drew).trans F8 (by intro x hx;simp at hx;rcases hx with rfl|rfl;exact .inl (by simp);right;omega)
 have D6':Blk w8 p1 _:=D6.drew.fr F8 (by simp;exact ⟨(old b hbl).1.symm,fun e=>hp21 e.symm⟩)
 rw [hlf] at D6'
 rw [show 8*off+(64-(r+T))=left-T by omega,show ((left-T:Nat):Int)=(left:Int)-T by omega] at D8
 refine ld_b (t := .S) (x:=s.ts) R8.blk rfl ?_
 refine slc_hi (m:=256) rfl (by rw [hts];exact hcc) ?_
 rw [show (⟨s.ts.a,256,s.ts.c⟩:Sl)=⟨some ⟨ts,0,none⟩,256,cc⟩ by rw [hts]]
 have tB1:tb<w.heap.size:=by obtain ⟨_,h,_⟩:=ht.blk;exact h.lt
 have sB1:ts<w.heap.size:=by obtain ⟨_,h,_⟩:=HTs;exact h.lt
 have gB1:g<w.heap.size:=by obtain ⟨_,h,_⟩:=HO;exact h.lt
 have hDW:DW w8 b p1 p2 tb (s.wo g o 0) i (l.drop p) s.dt tab R off v (r+T+T) (tkB (l.drop p) T left) (tkB (l.drop p) T ((left:Int)-T)) [] :=
  ⟨R8,D6',D8,ht.fr F08 (by simpa using d6),by rw [show 8*off+(64-(r+T+T))=left-T-T by omega];exact htw,tB,(old b hbl).1.symm,(old b hbl).2.symm,fun e=>hp21 e.symm,⟨d6,(old tb tB1).1,(old tb tB1).2⟩,hio⟩
 have hAp:Ap b p1 p2 tb g ts i (l.drop p):=⟨d1,(old g gB1).1,(old g gB1).2,d2,d3,d4,(old ts sB1).1,(old ts sB1).2,d5,fun a ha h=>(hid a ha h).2⟩
 have F08':Fm w w8 [b,p1,p2,g,ts]:=F08.mono (by intro x hx;left;simp at hx;simp [hx])
 have hk':∀w' off' v' r',Blk w' b ((s.wo g o R.length).br4 ⟨none,0,0⟩ off' v' r').at→OA w' g o G R→TM w' ts []→Fm w w' [b,p1,p2,g,ts]→K .nilIface w':=by
  intro w' o' v' r' B' O' T' F'
  refine hk w' o' v' r' B' O' T' (F'.mono ?_)
  intro x hx
  simp at hx
  rcases hx with rfl|rfl|rfl|rfl|rfl
  ·left;simp
  ·right;omega
  ·right;omega
  ·left;simp
  ·left;simp
 refine joinP_id (ld_b (t := .B) (x:=s.zb) R8.blk rfl ⟨fun _ => ?_,fun _ => ?_⟩)
 ·exact d80_L0 hDW (HO.fr F08 (by simpa using d1)) (HTs.fr F08 (by simpa using d4)) hAp hlim hcc F08' hk'
 ·exact d80_L1 hDW (HO.fr F08 (by simpa using d1)) (HTs.fr F08 (by simpa using d4)) hAp hlim hcc F08' hk'
theorem allocF {w:World} {b o n bytes:Nat} {f:Cells} {s:Sl} {zs:List Value} {T:TypeId} {κ:PT} {ni ni2:Int} (H:Blk w b f) (hf:f o=some s.val) (hc:s.c<n) (hn:ni=(n:Nat)) (hn2:ni2=(n:Nat)) (hby:n*bytes≤2^47)
  (hk:∀w' p,w.heap.size≤p→p≠b→Blk w' p (fun j=>(zrep zs n)[j]?)→Blk w' b (updC f o (Sl.val ⟨some ⟨p,0,none⟩,n,n⟩))→Fm w w' [b]→κ w') :
  (joinP (fun (R:Unit→PT)=>ld .S ⟨b,o,none⟩ fun (s4:Sl)=>cnd (decide ((s4.c:Int)<ni)) (mks zs T bytes ni2 ni2 fun (s5:Sl)=>st ⟨b,o,none⟩ (.slice s5.a s5.l s5.c)<|R ()) (R ()))
   (fun _=>ld .S ⟨b,o,none⟩ fun (s7:Sl)=>slc zs.length s7 none (some ni) none fun (s8:Sl)=>st ⟨b,o,none⟩ (.slice s8.a s8.l s8.c)<|κ)) w:=by
 subst hn hn2
 have hbl:=H.lt
 refine joinP_id ?_
 refine ld_b (t := .S) (x:=s) H hf (cnd_d (fun _ => ?_) fun h=>by omega)
 refine ⟨n,n,rfl,rfl,Nat.le_refl _,hby,?_⟩
 have F1:Fm w (w.alloc (.cells (zrep zs n) T)) []:=(Fm.refl w []).alloc
 have B1:Blk (w.alloc (.cells (zrep zs n) T)) w.heap.size fun i=>(zrep zs n)[i]? := Blk.new
 generalize w.alloc (.cells (zrep zs n) T)=w1 at *
 refine st_u (H.fr F1 (by simp)) (by rw [hf];rfl) rfl ?_
 intro w2 B2 F2
 have ho:updC f o (.slice (some ⟨w.heap.size,0,none⟩) n n) o=some (Sl.val ⟨some ⟨w.heap.size,0,none⟩,n,n⟩):=if_pos rfl
 refine ld_b (t := .S) (x:=⟨some ⟨w.heap.size,0,none⟩,n,n⟩) B2 ho ?_
 refine slc_hi (m:=n) rfl (Nat.le_refl _) ?_
 refine st_u B2 (by rw [ho];rfl) rfl ?_
 intro w3 B3 F3
 have hne:w.heap.size≠b:=by omega
 refine hk w3 w.heap.size (Nat.le_refl _) hne ((B1.fr F2 (by simpa using hne)).fr F3 (by simpa using hne)) (B3.congr ?_) (((F1.mono (S' := [b]) (by simp)).trans F2 (fun x hx => .inl hx)).trans F3 (fun x hx => .inl hx))
 funext i;unfold updC;split<;>rfl
def dtC (N:Nat) (ns sy nb:Nat→Int):Cells:=fun j=>if j<N*3 then (if j%3=0 then some (.int .u16 (ns (j/3))) else if j%3=1 then some (.int .u8 (sy (j/3))) else some (.int .u8 (nb (j/3)))) else none
theorem dtC_0 {N k:Nat} (ns sy nb:Nat→Int) (h:k<N):dtC N ns sy nb (k*3)=some (.int .u16 (ns k)):=by
 unfold dtC
 rw [if_pos (by omega),if_pos (by omega),show k*3/3=k by omega]
theorem dtC_1 {N k:Nat} (ns sy nb:Nat→Int) (h:k<N):dtC N ns sy nb (k*3+1)=some (.int .u8 (sy k)):=by
 unfold dtC
 rw [if_pos (by omega),if_neg (by omega),if_pos (by omega),show (k*3+1)/3=k by omega]
theorem dtC_2 {N k:Nat} (ns sy nb:Nat→Int) (h:k<N):dtC N ns sy nb (k*3+2)=some (.int .u8 (nb k)):=by
 unfold dtC
 rw [if_pos (by omega),if_neg (by omega),if_neg (by omega),show (k*3+2)/3=k by omega]
theorem dtC_u0 {N k:Nat} (ns sy nb:Nat→Int) (v:Int) (h:k<N):updC (dtC N ns sy nb) (k*3) (.int .u16 v)=dtC N (updF ns k v) sy nb:=by
 funext j;unfold updC dtC updF
 by_cases e:j=k*3
 ·subst e;rw [if_pos rfl,if_pos (by omega),if_pos (by omega),if_pos (by omega)]
 ·rw [if_neg e]
  by_cases h1:j<N*3
  ·rw [if_pos h1,if_pos h1]
   by_cases h2:j%3=0
   ·rw [if_pos h2,if_pos h2,if_neg (by omega)]
   ·rw [if_neg h2,if_neg h2]
  ·rw [if_neg h1,if_neg h1]
theorem dtC_u1 {N k:Nat} (ns sy nb:Nat→Int) (v:Int) (h:k<N):updC (dtC N ns sy nb) (k*3+1) (.int .u8 v)=dtC N ns (updF sy k v) nb:=by
 funext j;unfold updC dtC updF
 by_cases e:j=k*3+1
 ·subst e;rw [if_pos rfl,if_pos (by omega),if_neg (by omega),if_pos (by omega),if_pos (by omega)]
 ·rw [if_neg e]
  by_cases h1:j<N*3
  ·rw [if_pos h1,if_pos h1]
   by_cases h2:j%3=0
   ·rw [if_pos h2,if_pos h2]
   ·rw [if_neg h2,if_neg h2]
    by_cases h3:j%3=1
    ·rw [if_pos h3,if_pos h3,if_neg (by omega)]
    ·rw [if_neg h3,if_neg h3]
  ·rw [if_neg h1,if_neg h1]
theorem dtC_u2 {N k:Nat} (ns sy nb:Nat→Int) (v:Int) (h:k<N):updC (dtC N ns sy nb) (k*3+2) (.int .u8 v)=dtC N ns sy (updF nb k v):=by
 funext j;unfold updC dtC updF
 by_cases e:j=k*3+2
 ·subst e;rw [if_pos rfl,if_pos (by omega),if_neg (by omega),if_neg (by omega),if_pos (by omega)]
 ·rw [if_neg e]
  by_cases h1:j<N*3
  ·rw [if_pos h1,if_pos h1]
   by_cases h2:j%3=0
   ·rw [if_pos h2,if_pos h2]
   ·rw [if_neg h2,if_neg h2]
    by_cases h3:j%3=1
    ·rw [if_pos h3,if_pos h3]
    ·rw [if_neg h3,if_neg h3,if_neg (by omega)]
  ·rw [if_neg h1,if_neg h1]
theorem z180_at (N:Nat):(fun j=>(zrep z180 N)[j]?)=dtC N (fun _=>0) (fun _=>0) (fun _=>0):=by
 funext j
 have hl:(z180:List Value).length=3:=rfl
 unfold dtC
 by_cases h:j<N*3
 ·rw [if_pos h,Array.getElem?_eq_getElem (by rw [zrep_size,hl];exact h)]
  simp only [zrep,Array.getElem_map,Array.getElem_range,hl]
  have h3:j%3<3:=Nat.mod_lt _ (by omega)
  by_cases h0:j%3=0
  ·rw [h0,if_pos rfl];rfl
  ·rw [if_neg h0]
   by_cases h1:j%3=1
   ·rw [h1,if_pos rfl];rfl
   ·rw [if_neg h1,show j%3=2 by omega];rfl
 ·rw [if_neg h,Array.getElem?_eq_none (by rw [zrep_size,hl];omega)]
def FS.tb3 (s:FS) (N tb ts sb:Nat):FS := { s with dt:=⟨some ⟨tb,0,none⟩,N,N⟩,ts:=⟨some ⟨ts,0,none⟩,256,256⟩,st:=⟨some ⟨sb,0,none⟩,256,256⟩ }
theorem c96 {T:Nat} (hT:LogOK T) {w:World} {b:Nat} {s:FS} {K:Unit→PT} (HB:Blk w b s.at) (hatl:s.atl=(T:Nat)) (h1:s.dt.c=0) (h2:s.ts.c=0) (h3:s.st.c=0)
  (hk:∀w' tb ts sb F G,w.heap.size≤tb→w.heap.size≤ts→w.heap.size≤sb→tb≠ts→tb≠sb→ts≠sb→Blk w' tb (dtC (2^T) (fun _=>0) (fun _=>0) (fun _=>0))→Blk w' ts F→Som 256 F→Blk w' sb G→Som 256 G→Blk w' b (s.tb3 (2^T) tb ts sb).at→Fm w w' [b]→K () w') :
  callP Tryd.prog 96 #[.pointer (some ⟨b,0,none⟩)] [] K w:=by
 apply q96_ok
 unfold q96 q96_J2 q96_J1 q96_J0
 have hTp:=hT.pow
 have e1:shlI .i64 1 ((T:Nat):Int)=((2^T:Nat):Int):=by rcases hT with rfl|rfl<;>rfl
 have hbl:=HB.lt
 simp only [add_mk,Nat.zero_add]
 refine ld_b (t := .I .u8) (x:=((T:Nat):Int)) HB (by show some (Value.int .u8 s.atl)=_;rw [hatl];rfl) ⟨by omega,?_⟩
 rw [e1]
 refine allocF (zs:=z180) (n:=2^T) HB rfl (by omega) rfl rfl (by omega) ?_
 intro w2 tb htb ntb T2 B2 F2
 rw [z180_at] at T2
 have B2':Blk w2 b ({ s with dt:=⟨some ⟨tb,0,none⟩,2^T,2^T⟩ } : FS).at:=B2.congr (FS.setT 12 rfl rfl rfl (by decide))
 have htl2:=T2.lt
 refine allocF (zs:=z5) (n:=256) B2' rfl (by show s.ts.c<256;omega) rfl rfl (by omega) ?_
 intro w3 ts hts nts T3 B3 F3
 have B3':Blk w3 b ({ s with dt:=⟨some ⟨tb,0,none⟩,2^T,2^T⟩,ts:=⟨some ⟨ts,0,none⟩,256,256⟩ } : FS).at:=B3.congr (FS.setT 9 rfl rfl rfl (by decide))
 have htl3:=T3.lt
 have hs2:=F2.size
 have hs3:=F3.size
 refine allocF (zs:=z81) (n:=256) B3' rfl (by show s.st.c<256;omega) rfl rfl (by omega) ?_
 intro w4 sb hsb nsb T4 B4 F4
 have B4':Blk w4 b (s.tb3 (2^T) tb ts sb).at:=B4.congr (FS.setT 10 rfl rfl rfl (by decide))
 exact hk w4 tb ts sb _ _ htb (by omega) (by omega) (by omega) (by omega) (by omega) ((T2.fr F3 (by simpa using ntb)).fr F4 (by simpa using ntb)) (T3.fr F4 (by simpa using nts)) (fun i hi=>zrep_some z5 256 i (by simpa [z5] using hi)) T4 (fun i hi=>zrep_some z81 256 i (by simpa [z81] using hi)) B4'
  ((F2.trans F3 (fun x hx => .inl hx)).trans F4 (fun x hx => .inl hx))
structure ND (S:FS) (cs:List Int) (T L:Nat):Prop where
 log:LogOK T
 atl:S.atl=(T:Nat)
 symL:S.symL=(L:Nat)
 len:cs.length=L
 l256:L≤256
 nrm:∀i (h:i<cs.length),S.norm i=cs[i]
 rng:∀c∈cs, -1≤c
 lt:∀c∈cs,c<((2^T:Nat):Int)
 sum:sumZ cs=2^T
theorem ND.at {S:FS} {cs:List Int} {T L i:Nat} (h:ND S cs T L) (hi:i<cs.length):S.at (256+i)=some (.int .i16 cs[i]):=by
 have:=h.l256
 have:=h.len
 rw [FS.norm_at _ (by omega),h.nrm i hi]
theorem ND.bnd {S:FS} {cs:List Int} {T L i:Nat} (h:ND S cs T L) (hi:i<cs.length) : -1≤cs[i]∧cs[i]≤64:=by
 have h1:=h.rng _ (List.getElem_mem hi)
 have h2:=absZ_le_sum hi
 have h3:=h.sum
 have h4:=h.log.pow
 unfold absZ at h2
 split at h2<;>omega
theorem ND.symAt {S:FS} {cs:List Int} {T L:Nat} (H:ND S cs T L):S.at 528=some (.int .u16 (L:Nat)):=by show some (Value.int .u16 S.symL)=_;rw [H.symL]
theorem ND.atlAt {S:FS} {cs:List Int} {T L:Nat} (H:ND S cs T L):S.at 529=some (.int .u8 (T:Nat)):=by show some (Value.int .u8 S.atl)=_;rw [H.atl]
theorem ND.zb {S:FS} {cs:List Int} {T L:Nat} (H:ND S cs T L) (z:Bool):ND { S with zb:=z } cs T L:=⟨H.log,H.atl,H.symL,H.len,H.l256,H.nrm,H.rng,H.lt,H.sum⟩
def LayD (N:Nat) (sy φ:Nat→Int):Prop:=∀p,p<N→0≤φ p→sy p=φ p
theorem LayD.upd {N k:Nat} {sy φ:Nat→Int} {v:Int} (h:LayD N sy φ):LayD N (updF sy k v) (updF φ k v):=by
 intro q hq
 unfold updF
 split
 ·exact fun _=>rfl
 ·exact h q hq
section
variable {T L:Nat} {w:World} {b tb sb:Nat} {S:FS} {cs:List Int} {F:Cells}
theorem dt1 {K:Int→PT} (H:ND S cs T L) (hdt:S.dt=⟨some ⟨tb,0,none⟩,2^T,2^T⟩) (HB:Blk w b S.at) (HT:Blk w tb (dtC (2^T) (fun _=>0) (fun _=>0) (fun _=>0))) (HS:Blk w sb F) (hF:Som 256 F) (dbt:b≠tb) (dbs:b≠sb) (dts:tb≠sb)
  (hk:∀w' e φ sy F' z,e≤2^T→lowZ cs 0 (2^T) (fun _ => -1)=(φ,e)→LayD (2^T) sy φ→Blk w' b ({ S with zb:=z } : FS).at→Blk w' tb (dtC (2^T) (fun _=>0) sy (fun _=>0))→Blk w' sb F'→Som 256 F'→(∀j (h:j<cs.length),F' j=some (.int .u16 (absZ cs[j]:Nat)))→Fm w w' [b,tb,sb]→K (IntKind.u32.wrap ((e:Int)-1)) w') :
  loopP (IntKind.u32.wrap (((2^T:Nat):Int)-1),(0:Int)) (q79_L3 ⟨b,0,none⟩ ⟨some ⟨sb,0,none⟩,256,256⟩ K (T:Nat) ⟨some ⟨b,256,none⟩,L,256⟩) w:=by
 have hTp:=H.log.pow
 have hlen:=H.len
 have hl:=H.l256
 have hsum:=H.sum
 have hlow0:lowN cs≤2^T:=by have:=symsZ_len cs H.rng 0;omega
 refine ⟨fun x w'=>∃(e i:Nat) (φ sy:Nat→Int) (F':Cells) (z:Bool),x=(IntKind.u32.wrap ((e:Int)-1),(i:Int))∧i≤L∧e≤2^T∧lowN (cs.drop i)≤e∧lowZ (cs.drop i) i e φ=lowZ cs 0 (2^T) (fun _ => -1)∧LayD (2^T) sy φ∧Blk w' b ({ S with zb:=z } : FS).at ∧
   Blk w' tb (dtC (2^T) (fun _=>0) sy (fun _=>0))∧Blk w' sb F'∧Som 256 F'∧(∀j (h:j<cs.length),j<i→F' j=some (.int .u16 (absZ cs[j]:Nat)))∧Fm w w' [b,tb,sb],fun x _=>L-x.2.toNat,
  ⟨2^T,0,_,_,F,S.zb,rfl,Nat.zero_le _,Nat.le_refl _,hlow0,rfl,?_,HB,HT,HS,hF,?_,Fm.refl _ _⟩,?_⟩
 ·intro p hp h0;simp at h0
 ·intro j _ hj;omega
 rintro x w2 ⟨e,i,φ,sy,F2,z,rfl,hi,he,hln,hlow,hLy,HB2,HT2,HS2,hF2,hF2v,Fr⟩
 unfold q79_L3
 simp only
 refine cnd_d ?_ ?_
 ·intro hc
  have hi3:i<cs.length:=by omega
  have hbn:=H.bnd hi3
  refine joinP_id ?_
  unfold q79_X2 q79_J1
  simp only [add_mk,Nat.zero_add]
  refine ixS_o rfl (by omega) ?_
  refine ld_b (t := .I .i16) (x:=cs[i]) HB2 ((H.zb z).at hi3) ?_
  have e8:IntKind.u8.wrap (i:Int)=(i:Int):=wU8 (by omega) (by omega)
  have e64:IntKind.i64.wrap ((i:Int)+1)=((i+1:Nat):Int):=by rw [wI64 (by omega) (by omega)];omega
  rw [e8,e64]
  rw [drop_cons hi3,lowZ] at hlow
  have hN:lowN (cs[i]::cs.drop (i+1))=lowN (cs.drop (i+1))+if cs[i] = -1 then 1 else 0:=by unfold lowN;rw [List.countP_cons];simp
  rw [drop_cons hi3,hN] at hln
  refine cnd_d ?_ ?_
  ·intro hm1
   rw [if_pos hm1] at hln
   rw [if_pos ⟨hm1,by omega⟩] at hlow
   refine ld_b (t := .S) (x:=⟨some ⟨tb,0,none⟩,2^T,2^T⟩) HB2 (by show some (S.dt.val)=_;rw [hdt];rfl) ?_
   refine ixS_b (k:=e-1) rfl (by rw [wU32 (by omega) (by omega)];omega) (by simp only;omega) ?_
   simp only [add_mk,Nat.zero_add]
   refine st_u HT2 (by rw [dtC_1 _ _ _ (by omega)];rfl) rfl ?_
   intro w3 HT3 F3
   rw [dtC_u1 _ _ _ _ (by omega)] at HT3
   have HS3:=HS2.fr F3 (nm1 dts.symm)
   have HB3:=HB2.fr F3 (nm1 dbt)
   refine ixS_o rfl (by omega) ?_
   rw [Nat.zero_add]
   refine st_u HS3 (hF2 _ (by omega)) rfl ?_
   intro w4 HS4 F4
   have e5:IntKind.u32.wrap (IntKind.u32.wrap ((e:Int)-1)-1)=IntKind.u32.wrap (((e-1:Nat):Int)-1):=by
    rw [wU32 (x:=(e:Int)-1) (by omega) (by omega),show ((e-1:Nat):Int)=(e:Int)-1 by omega]
   rw [e5]
   refine ⟨⟨e-1,i+1,updF φ (e-1) i,updF sy (e-1) i,_,z,rfl,by omega,by omega,by omega,hlow,hLy.upd,HB3.fr F4 (nm1 dbs),HT3.fr F4 (nm1 dts),HS4,hF2.upd,?_,?_⟩,?_⟩
   ·intro j hj hji
    unfold updC
    by_cases ej:j=i
    ·subst ej
     rw [if_pos rfl,hm1];rfl
    ·rw [if_neg ej];exact hF2v j hj (by omega)
   ·exact (Fr.trans F3 (by intro v hv;simp at hv;simp [hv])).trans F4 (by intro v hv;simp at hv;simp [hv])
   ·simp only [Int.toNat_natCast];omega
  ·intro hm1
   rw [if_neg hm1] at hln
   rw [if_neg (fun h=>hm1 h.1)] at hlow
   refine joinP_id ?_
   have go:∀w3 z',Blk w3 b ({ S with zb:=z' } : FS).at→Fm w2 w3 [b]→∀(R:Int→PT),(∀w4 F4,Blk w4 b ({ S with zb:=z' } : FS).at→Blk w4 tb (dtC (2^T) (fun _=>0) sy (fun _=>0))→Blk w4 sb F4→Som 256 F4→(∀j (h:j<cs.length),j<i+1→F4 j=some (.int .u16 (absZ cs[j]:Nat)))→Fm w w4 [b,tb,sb]→R (IntKind.u32.wrap ((e:Int)-1)) w4) →
     q79_J0 ⟨some ⟨sb,0,none⟩,256,256⟩ (IntKind.u32.wrap ((e:Int)-1),(i:Int)) R cs[i] () w3:=by
    intro w3 z' HB3 F3 R hR
    unfold q79_J0
    refine ixS_o rfl (by omega) ?_
    rw [Nat.zero_add]
    have HS3:=HS2.fr F3 (nm1 dbs.symm)
    refine st_u HS3 (hF2 _ (by omega)) rfl ?_
    intro w4 HS4 F4
    refine hR w4 _ (HB3.fr F4 (nm1 dbs)) ((HT2.fr F3 (nm1 dbt.symm)).fr F4 (nm1 dts)) HS4 hF2.upd ?_ ((Fr.trans F3 (by intro v hv;simp at hv;simp [hv])).trans F4 (by intro v hv;simp at hv;simp [hv]))
    intro j hj hji
    unfold updC
    by_cases ej:j=i
    ·subst ej
     rw [if_pos rfl,wU16 (by omega) (by omega)]
     unfold absZ
     rw [if_neg (by omega),Int.toNat_of_nonneg (by omega)]
    ·rw [if_neg ej];exact hF2v j hj (by omega)
   refine cnd_d (fun _ => ?_) fun _ => ?_
   ·refine st_u HB2 rfl rfl ?_
    intro w3 HB3 F3
    refine go w3 true (HB3.congr (FS.setT 18 rfl rfl rfl (by decide))) F3 _ ?_
    intro w4 F4 HB4 HT4 HS4 hF4 hv4 Fr4
    exact ⟨⟨e,i+1,φ,sy,F4,true,rfl,by omega,he,by omega,hlow,hLy,HB4,HT4,HS4,hF4,hv4,Fr4⟩,by simp only [Int.toNat_natCast];omega⟩
   ·refine go w2 z HB2 (Fm.refl _ _) _ ?_
    intro w4 F4 HB4 HT4 HS4 hF4 hv4 Fr4
    exact ⟨⟨e,i+1,φ,sy,F4,z,rfl,by omega,he,by omega,hlow,hLy,HB4,HT4,HS4,hF4,hv4,Fr4⟩,by simp only [Int.toNat_natCast];omega⟩
 ·intro hc
  have hi2:i=cs.length:=by omega
  rw [hi2,List.drop_length,lowZ] at hlow
  exact hk w2 e φ sy F2 z he hlow.symm hLy HB2 HT2 HS2 hF2 (fun j hj=>hF2v j hj (by omega)) Fr
end
section
variable {T L:Nat} {w:World} {b tb sb:Nat} {S:FS} {cs:List Int}
theorem dt2 {K1:Value→PT} {R23:Unit→PT} {e:Nat} {φ f sy:Nat→Int} (H:ND S cs T L) (hdt:S.dt=⟨some ⟨tb,0,none⟩,2^T,2^T⟩) (HB:Blk w b S.at) (HT:Blk w tb (dtC (2^T) (fun _=>0) sy (fun _=>0))) (hLy:LayD (2^T) sy φ) (dbt:b≠tb)
  (he:e≤2^T) (hsp:layZ (2^T) e (symsZ cs 0) 0 φ=some (f,0))
  (hk:∀w' sy',Blk w' tb (dtC (2^T) (fun _=>0) sy' (fun _=>0))→LayD (2^T) sy' f→Fm w w' [tb]→R23 () w') :
  (callP Tryd.prog 97 #[(.int .u32 (shlI .u32 (1:Int) (T:Nat)))] [.c (.I .u32)] fun (r24:Int)=>joinP (fun R25=>drw<|ld (.I .u16) ⟨b,528,none⟩ fun (n26:Int)=>slcA 1 256 ⟨b,256,none⟩ none (some n26) none fun (s27:Sl)=>loopP ((0:Int),(0:Int)) (q79_L8 ⟨b,0,none⟩ (T:Nat) (IntKind.u32.wrap ((e:Int)-1)) r24 R25 s27)) (q79_J9 K1 R23)) w:=by
 have hTp:=H.log.pow
 have hlen:=H.len
 have hl256:=H.l256
 have hsz:2^T=32∨2^T=64:=by omega
 have hst:stepOf (2^T)<100:=by unfold stepOf;omega
 rw [sh32 H.log]
 refine c97 (by omega) ?_
 refine joinP_id ?_
 unfold drw
 refine ld_b (t := .I .u16) (x:=((L:Nat):Int)) HB.drew H.symAt ?_
 refine slcA_hi rfl (by omega) (by omega) ?_
 refine ⟨fun x w'=>∃(a i:Nat) (φ' sy':Nat→Int),x=((a:Int),(i:Int))∧i≤L∧a<2^T∧layZ (2^T) e (symsZ (cs.drop i) i) a φ'=some (f,0)∧Blk w' tb (dtC (2^T) (fun _=>0) sy' (fun _=>0))∧LayD (2^T) sy' φ'∧Fm w w' [tb],
  fun x _=>L-x.2.toNat,⟨0,0,φ,sy,rfl,Nat.zero_le _,by omega,hsp,HT.drew,hLy,(Fm.refl _ _).drew⟩,?_⟩
 rintro x w2 ⟨a,i,φ2,sy2,rfl,hi,ha,hlay,HT2,hL2,Fr⟩
 have HB2:=HB.fr Fr (nm1 dbt)
 unfold q79_L8
 simp only
 refine cnd_d ?_ ?_
 ·intro hc
  have hi3:i<cs.length:=by omega
  have hbn:=H.bnd hi3
  rw [drop_cons hi3,symsZ] at hlay
  refine joinP_id ?_
  refine ixS_o rfl (by omega) ?_
  refine ld_b (t := .I .i16) (x:=cs[i]) HB2 (H.at hi3) ?_
  generalize cs[i]=c at *
  refine ⟨fun x w'=>∃(a k:Nat) (φ' sy':Nat→Int),x=((a:Int),(k:Int))∧k≤c.toNat∧a<2^T∧layZ (2^T) e (List.replicate (c.toNat-k) i++symsZ (cs.drop (i+1)) (i+1)) a φ'=some (f,0)∧Blk w' tb (dtC (2^T) (fun _=>0) sy' (fun _=>0))∧LayD (2^T) sy' φ'∧Fm w w' [tb],
   fun x _=>c.toNat-x.2.toNat,⟨a,0,φ2,sy2,rfl,Nat.zero_le _,ha,hlay,HT2,hL2,Fr⟩,?_⟩
  rintro x w4 ⟨a4,k,φ4,sy4,rfl,hk4,ha4,hl4,HT4,hL4,Fr4⟩
  have HB4:=HB.fr Fr4 (nm1 dbt)
  unfold q79_L6
  simp only
  rw [wI64 (x:=c) (by omega) (by omega)]
  refine cnd_d ?_ ?_
  ·intro hc2
   have hk2:k<c.toNat:=by omega
   rw [show c.toNat-k=(c.toNat-(k+1))+1 by omega,List.replicate_succ,List.cons_append,layZ] at hl4
   have hae:a4<e:=by
    by_cases h:e≤a4
    ·rw [if_pos h] at hl4;cases hl4
    ·omega
   rw [if_neg (by omega)] at hl4
   have ew:IntKind.u32.wrap ((e:Int)-1)=(e:Int)-1:=wU32 (by omega) (by omega)
   refine ⟨fun x w'=>∃sy',x=((nxtZ (2^T) e a4:Nat):Int)∧nxtZ (2^T) e a4<2^T∧Blk w' tb (dtC (2^T) (fun _=>0) sy' (fun _=>0))∧LayD (2^T) sy' (updF φ4 a4 (i:Nat))∧Fm w w' [tb],?_,?_⟩
   ·rintro x w6 ⟨sy6,rfl,hn6,HT6,hL6,Fr6⟩
    unfold q79_J5
    simp only
    rw [wI64 (by omega) (by omega)]
    exact ⟨⟨_,k+1,_,sy6,by simp,by omega,hn6,hl4,HT6,hL6,Fr6⟩,by omega⟩
   ·simp only [add_mk,Nat.zero_add]
    refine ld_b (t := .S) (x:=⟨some ⟨tb,0,none⟩,2^T,2^T⟩) HB4 (by show some (S.dt.val)=_;rw [hdt];rfl) ?_
    refine ixS_b (k:=a4) rfl rfl ha4 ?_
    simp only [add_mk,Nat.zero_add]
    refine st_u HT4 (by rw [dtC_1 _ _ _ ha4];rfl) rfl ?_
    intro w6 HT6 F6
    rw [wU8 (x:=(i:Int)) (by omega) (by omega),dtC_u1 _ _ _ _ ha4] at HT6
    have Fr6:Fm w w6 [tb]:=Fr4.trans F6 (fun v hv => .inl hv)
    have hstep:∀y:Nat,y<2^T→andI .u32 (IntKind.u32.wrap ((y:Int)+((stepOf (2^T):Nat):Int))) (IntKind.u32.wrap (shlI .u32 1 ((T:Nat):Int)-1))=(((y+stepOf (2^T))%2^T:Nat):Int):=by
     intro y hy
     have:=and_mask H.log (y+stepOf (2^T)) (by omega)
     rw [sh32 H.log,wU32 (by omega) (by omega),wU32 (by omega) (by omega),show (y:Int)+((stepOf (2^T):Nat):Int)=((y+stepOf (2^T):Nat):Int) by omega,show ((2^T:Nat):Int)-1=((2^T-1:Nat):Int) by omega]
     exact this
    rw [hstep a4 ha4]
    have hm:(a4+stepOf (2^T))%2^T<2^T:=Nat.mod_lt _ (by omega)
    refine ⟨fun x w'=>w'=w6∧∃a':Nat,x=(a':Int)∧a'<2^T∧nxtF (2^T) e (muZ (2^T) a') a'=nxtZ (2^T) e a4,fun x _=>muZ (2^T) x.toNat,⟨rfl,_,rfl,hm,rfl⟩,?_⟩
    rintro x w7 ⟨rfl,a7,rfl,ha7,hn7⟩
    unfold q79_L4
    rw [ew]
    refine cnd_d ?_ ?_
    ·intro hc5
     rw [hstep a7 ha7]
     have hm7:=muZ_step (2^T) a7 hsz ha7 (by omega)
     refine ⟨⟨rfl,_,rfl,Nat.mod_lt _ (by omega),?_⟩,?_⟩
     ·rw [←hn7,hm7,nxtF,if_neg (by omega)]
     ·simp only [Int.toNat_natCast];omega
    ·intro hc5
     have hn8:nxtZ (2^T) e a4=a7:=by rw [←hn7,nxtF_lt (by omega)]
     rw [hn8]
     exact ⟨_,rfl,ha7,HT6,hL4.upd,Fr6⟩
  ·intro hc2
   have hk2:k=c.toNat:=by omega
   rw [hk2,Nat.sub_self] at hl4
   unfold q79_J7
   simp only
   rw [wI64 (by omega) (by omega)]
   exact ⟨⟨a4,i+1,φ4,sy4,by simp,by omega,ha4,hl4,HT4,hL4,Fr4⟩,by omega⟩
 ·intro hc
  have hi2:i=cs.length:=by omega
  rw [hi2,List.drop_length,symsZ,layZ] at hlay
  injection hlay with hlay
  injection hlay with h1 h2
  subst h1 h2
  unfold q79_J9
  refine cnd_nd (fun h=>absurd rfl h) (fun _ => ?_)
  exact hk w2 sy2 HT2 hL2 Fr
theorem dt3 {K1:Value→PT} {f sy:Nat→Int} {F:Cells} (H:ND S cs T L) (hdt:S.dt=⟨some ⟨tb,0,none⟩,2^T,2^T⟩) (HB:Blk w b S.at) (HT:Blk w tb (dtC (2^T) (fun _=>0) sy (fun _=>0))) (hLy:LayD (2^T) sy f) (HS:Blk w sb F) (hF:Som 256 F) (hFv:∀j (h:j<cs.length),F j=some (.int .u16 (absZ cs[j]:Nat)))
  (hf0:∀p,p<2^T→0≤f p) (hsp:spreadZ cs (2^T) (fun _ => -1)=some (f,0)) (dbt:b≠tb) (dbs:b≠sb) (dts:tb≠sb)
  (hk:∀w' ns nb F',(∀p,p<2^T→ns p=(cellZ cs T f p).2.2∧nb p=(((cellZ cs T f p).2.1:Nat):Int))→Blk w' tb (dtC (2^T) ns sy nb)→Blk w' sb F'→Som 256 F'→Fm w w' [tb,sb]→K1 .nilIface w') :
  q79_J12 ⟨b,0,none⟩ K1 ⟨some ⟨sb,0,none⟩,256,256⟩ () w:=by
 have hTp:=H.log.pow
 have hlen:=H.len
 have hl256:=H.l256
 have hsz:2^T=32∨2^T=64:=by omega
 unfold q79_J12
 refine joinP_id ?_
 unfold q79_J11
 simp only [add_mk,Nat.zero_add]
 refine ld_b (t := .I .u8) (x:=((T:Nat):Int)) HB H.atlAt ⟨by omega,?_⟩
 refine ld_b (t := .S) (x:=⟨some ⟨tb,0,none⟩,2^T,2^T⟩) HB (by show some (S.dt.val)=_;rw [hdt];rfl) ?_
 refine ⟨fun x w'=>∃(u:Nat) (ns nb:Nat→Int) (F':Cells),x=(u:Int)∧u≤2^T∧(∀p,p<u→ns p=(cellZ cs T f p).2.2∧nb p=(((cellZ cs T f p).2.1:Nat):Int))∧Blk w' tb (dtC (2^T) ns sy nb)∧Blk w' sb F'∧Som 256 F'∧(∀j (h:j<cs.length),F' j=some (.int .u16 ((absZ cs[j]+cntZ f j u:Nat))))∧Fm w w' [tb,sb],
  fun x _=>2^T-x.toNat,⟨0,_,_,F,rfl,Nat.zero_le _,(by intro p hp;omega),HT,HS,hF,(by intro j hj;rw [hFv j hj];rfl),Fm.refl _ _⟩,?_⟩
 rintro x w2 ⟨u,ns,nb,F2,rfl,hu,hc2,HT2,HS2,hF2,hF2v,Fr⟩
 have HB2:=HB.fr Fr (by simp;exact ⟨dbt,dbs⟩)
 unfold q79_L10
 refine cnd_d (fun hc => ?_) fun hc => ?_
 ·have hu2:u<2^T:=by simp only at hc;omega
  obtain ⟨sm,hsm,hfu⟩:∃sm:Nat,sm<cs.length∧f u=(sm:Int):=by
   rcases spreadZ_laid hsp u with h|⟨i,h1,h2,_⟩
   ·have:=hf0 u hu2;omega
   ·exact ⟨i,h1,h2⟩
  have hsy:sy u=(sm:Int):=by rw [hLy u hu2 (hf0 u hu2),hfu]
  have hcnt:=spread_count hsz H.rng H.sum hsp sm
  have hsh:absZ (cs.getD sm 0)=absZ cs[sm]:=by rw [getD_Z hsm]
  rw [hsh] at hcnt
  have hcu:cntZ f sm (u+1)=cntZ f sm u+1:=by rw [cntZ,if_pos hfu]
  have hmono:=cntZ_mono f (sm:Int) (show u+1≤2^T by omega)
  have hbn:=H.bnd hsm
  have hlt:=H.lt _ (List.getElem_mem hsm)
  have hn2:absZ cs[sm]<2^T:=by unfold absZ;split<;>omega
  have hcl:=cntZ_le f (sm:Int) u
  have hk1:kZ cs f u=absZ cs[sm]+cntZ f sm u:=by unfold kZ;rw [hfu,Int.toNat_natCast,hsh]
  generalize hK:absZ cs[sm]+cntZ f sm u=k at *
  have hk0:0<k:=by omega
  have hk2:k<2^(T+1):=by rw [Nat.pow_succ];omega
  have hlg:k.log2≤T:=by have:=(Nat.log2_lt (by omega)).mpr hk2;omega
  have hlo:=Nat.log2_self_le (n:=k) (by omega)
  have hhi:=Nat.lt_log2_self (n:=k)
  have hcell:cellZ cs T f u=(sm,T-k.log2,((k*2^(T-k.log2):Nat):Int)-((2^T:Nat):Int)):=by unfold cellZ;rw [hk1,hfu,Int.toNat_natCast]
  have hm1:2^T≤k*2^(T-k.log2):=by
   have:=Nat.mul_le_mul_right (2^(T-k.log2)) hlo
   rw [←Nat.pow_add,show k.log2+(T-k.log2)=T by omega] at this
   exact this
  have hm2:k*2^(T-k.log2)<2^(T+1):=by
   have:=Nat.mul_lt_mul_of_pos_right hhi (Nat.two_pow_pos (T-k.log2))
   rw [←Nat.pow_add,show k.log2+1+(T-k.log2)=T+1 by omega] at this
   exact this
  rw [Nat.pow_succ] at hm2
  refine ixS_b (k:=u) rfl rfl hu2 ?_
  unfold ldL ldL ldL
  simp only [add_mk,Nat.zero_add,Nat.add_zero]
  refine ld_b (t := .I .u16) (x:=ns u) HT2 (dtC_0 _ _ _ hu2) ?_
  refine ld_b (t := .I .u8) (x:=sy u) HT2 (dtC_1 _ _ _ hu2) ?_
  refine ld_b (t := .I .u8) (x:=nb u) HT2 (dtC_2 _ _ _ hu2) ?_
  refine nw_x ?_
  intro p w3 F3 B3 hp
  unfold stL stL stL stL
  simp only [add_mk,Nat.zero_add,Nat.add_zero]
  refine st_u B3 rfl rfl ?_
  intro w4 B4 F4
  refine st_u B4 rfl rfl ?_
  intro w5 B5 F5
  refine st_u B5 rfl rfl ?_
  intro w6 B6 F6
  have F26:Fm w2 w6 []:=((F3.trans F4 (by intro x hx;right;simp at hx;omega)).trans F5 (by intro x hx;right;simp at hx;omega)).trans F6 (by intro x hx;right;simp at hx;omega)
  have HT6:=HT2.fr F26 (by simp)
  have HS6:=HS2.fr F26 (by simp)
  have HB6:=HB2.fr F26 (by simp)
  refine ld_b (t := .I .u8) (x:=((sm:Nat):Int)) B6 (by rw [←hsy];rfl) ?_
  refine ixS_o rfl (by omega) ?_
  rw [Nat.zero_add]
  refine ld_b (t := .I .u16) (x:=((k:Nat):Int)) HS6 (by rw [hF2v sm hsm,hK];rfl) ?_
  refine ixS_o rfl (by omega) ?_
  rw [Nat.zero_add]
  refine st_u HS6 (hF2 _ (by omega)) rfl ?_
  intro w7 HS7 F7
  have hk3:k<256:=by omega
  rw [wU16 (by omega) (by omega)] at HS7
  unfold drw
  have HB7:=(HB6.fr F7 (nm1 dbs)).drew
  have HT7:=(HT6.fr F7 (nm1 dts)).drew
  have HS7:=HS7.drew
  refine ld_b (t := .I .u8) (x:=((T:Nat):Int)) HB7 H.atlAt ?_
  rw [wU32 (by omega) (by omega)]
  refine c98 hk0 (by omega) ?_
  refine ⟨by intro g hg;simp only [List.mem_cons,List.not_mem_nil,or_false] at hg;subst hg;exact (HB7.cell 529).trans H.atlAt,?_⟩
  have enb:IntKind.u8.wrap (((T:Nat):Int)-IntKind.u8.wrap ((k.log2:Nat):Int))=((T-k.log2:Nat):Int):=by
   rw [wU8 (x:=((k.log2:Nat):Int)) (by omega) (by omega),wU8 (by omega) (by omega)];omega
  rw [enb]
  refine ld_b (t := .S) (x:=⟨some ⟨tb,0,none⟩,2^T,2^T⟩) HB7 (by show some (S.dt.val)=_;rw [hdt];rfl) ?_
  refine ixS_b (k:=u) rfl rfl hu2 ?_
  simp only [add_mk,Nat.zero_add]
  refine st_u HT7 (by rw [dtC_2 _ _ _ hu2];rfl) rfl ?_
  intro w8 HT8 F8
  rw [dtC_u2 _ _ _ _ hu2] at HT8
  have HB8:=HB7.fr F8 (nm1 dbt)
  have HS8:=HS7.fr F8 (nm1 dts.symm)
  refine ⟨by omega,?_⟩
  have e16:shlI .u16 1 ((T:Nat):Int)=((2^T:Nat):Int):=by rcases H.log with rfl|rfl<;>rfl
  have ens:IntKind.u16.wrap (shlI .u16 ((k:Nat):Int) ((T-k.log2:Nat):Int)-shlI .u16 1 ((T:Nat):Int))=((k*2^(T-k.log2)-2^T:Nat):Int):=by
   rw [e16,shlI_u (k := .u16) rfl k (T-k.log2) (by simp only [IntKind.bits];omega)]
   simp only [IntKind.bits]
   rw [Nat.mod_eq_of_lt (by omega),wU16 (by omega) (by omega)]
   omega
  rw [ens,e16]
  have F28:Fm w2 w8 [tb,sb]:=(((F26.mono (S' := [tb,sb]) (by simp)).trans F7 (by intro v hv;simp at hv;simp [hv])).drew).trans F8 (by intro v hv;simp at hv;simp [hv])
  have go:(ld .S ⟨b,524,none⟩ fun (s63:Sl)=>ixS 3 s63 ((u:Nat):Int) fun (p64:Addr)=>st p64 (.int .u16 ((k*2^(T-k.log2)-2^T:Nat):Int))<|fun w'=>(fun (x:Int) w'=>∃(u:Nat) (ns nb:Nat→Int) (F':Cells),x=(u:Int)∧u≤2^T∧(∀p,p<u→ns p=(cellZ cs T f p).2.2∧nb p=(((cellZ cs T f p).2.1:Nat):Int))∧Blk w' tb (dtC (2^T) ns sy nb)∧Blk w' sb F'∧Som 256 F'∧(∀j (h:j<cs.length),F' j=some (.int .u16 ((absZ cs[j]+cntZ f j u:Nat))))∧Fm w w' [tb,sb]) (IntKind.i64.wrap (((u:Nat):Int)+1)) w'∧2^T-(IntKind.i64.wrap (((u:Nat):Int)+1)).toNat<2^T-(((u:Nat):Int)).toNat) w8:=by
   refine ld_b (t := .S) (x:=⟨some ⟨tb,0,none⟩,2^T,2^T⟩) HB8 (by show some (S.dt.val)=_;rw [hdt];rfl) ?_
   refine ixS_b (k:=u) rfl rfl hu2 ?_
   simp only [Nat.zero_add]
   refine st_u HT8 (by rw [dtC_0 _ _ _ hu2];rfl) rfl ?_
   intro w9 HT9 F9
   rw [dtC_u0 _ _ _ _ hu2] at HT9
   rw [wI64 (by omega) (by omega)]
   refine ⟨⟨u+1,_,_,_,by simp,by omega,?_,HT9,HS8.fr F9 (nm1 dts.symm),hF2.upd,?_,(Fr.trans F28 (fun v hv => .inl hv)).trans F9 (by intro v hv;simp at hv;simp [hv])⟩,?_⟩
   ·intro q hq
    unfold updF
    by_cases eq:q=u
    ·subst eq
     rw [if_pos rfl,if_pos rfl,hcell]
     exact ⟨by simp only;omega,rfl⟩
    ·rw [if_neg eq,if_neg eq];exact hc2 q (by omega)
   ·intro j hj
    unfold updC
    by_cases ej:j=sm
    ·subst ej
     rw [if_pos rfl,hcu, ←Nat.add_assoc,hK];rfl
    ·rw [if_neg ej,hF2v j hj,cntZ,if_neg (by omega)];rfl
   ·simp only [Int.toNat_natCast];omega
  refine cnd_d (fun h=>by omega) fun _ => ?_
  rw [wU16 (x:=((u:Nat):Int)) (by omega) (by omega)]
  refine cnd_d (fun heq => ?_) fun _=>go
  refine cnd_d (fun h0 => ?_) fun _=>go
  exfalso
  have h0':T-k.log2=0:=by omega
  rw [h0',Nat.pow_zero,Nat.mul_one] at heq hm1
  omega
 ·have hu2:u=2^T:=by simp only at hc;omega
  subst hu2
  exact hk w2 ns nb F2 hc2 HT2 HS2 hF2 Fr
end
theorem statesZ_f {T:Nat} {cs:List Int} {tab:List Cell3} (hT:LogOK T) (hr:∀c∈cs, -1≤c) (h:statesZ cs T=some tab) :
  ∃f,sumZ cs=2^T∧spreadZ cs (2^T) (fun _ => -1)=some (f,0)∧(∀p,p<2^T→0≤f p)∧tab=(List.range (2^T)).map (cellZ cs T f):=by
 have hs:sumZ cs=2^T:=by
  unfold statesZ at h
  split at h
  ·assumption
  ·cases h
 obtain ⟨f,h1,h2,h3⟩:=statesZ_some hT hr hs
 rw [h3] at h
 injection h with h
 exact ⟨f,hs,h1,h2,h.symm⟩
theorem c79 {T L:Nat} {w:World} {b:Nat} {s:FS} {cs:List Int} {tab:List Cell3} {K:Value→PT} (H:ND s cs T L) (HB:Blk w b s.at) (hst:statesZ cs T=some tab) (h1:s.dt.c=0) (h2:s.ts.c=0) (h3:s.st.c=0)
  (hk:∀w' tb ts sb z G,w.heap.size≤tb→w.heap.size≤ts→w.heap.size≤sb→tb≠ts→tb≠sb→ts≠sb→DT w' ⟨some ⟨tb,0,none⟩,2^T,2^T⟩ tb tab→TM w' ts []→Blk w' sb G→Som 256 G→Blk w' b ({ s.tb3 (2^T) tb ts sb with zb:=z } : FS).at→Fm w w' [b]→K .nilIface w') :
  callP Tryd.prog 79 #[.pointer (some ⟨b,0,none⟩)] [.c .V] K w:=by
 have hTp:=H.log.pow
 obtain ⟨f,hs,hsp,hf0,rfl⟩:=statesZ_f H.log H.rng hst
 have hbl:=HB.lt
 apply q79_ok
 unfold q79
 simp only [add_mk,Nat.zero_add]
 refine ld_b (t := .I .u8) (x:=((T:Nat):Int)) HB H.atlAt ⟨by omega,?_⟩
 refine c96 H.log HB H.atl h1 h2 h3 ?_
 intro w1 tb ts sb F0 G0 htb hts hsb n1 n2 n3 HT HTs hF0 HS hG0 B1 F1
 refine ld_b (t := .S) (x:=⟨some ⟨sb,0,none⟩,256,256⟩) B1 rfl ?_
 refine slc_hi (m:=256) rfl (Nat.le_refl _) ?_
 refine st_u B1 rfl rfl ?_
 intro w2 B2 F2
 have dbt:b≠tb:=by omega
 have dbs:b≠sb:=by omega
 have dbs':b≠ts:=by omega
 have hSL:Blk w2 b ({ s.tb3 (2^T) tb ts sb with zb:=false } : FS).at:=B2.congr (FS.setT 18 rfl rfl rfl (by decide))
 have HS':ND ({ s.tb3 (2^T) tb ts sb with zb:=false } : FS) cs T L:=⟨H.log,H.atl,H.symL,H.len,H.l256,H.nrm,H.rng,H.lt,H.sum⟩
 have HT2:=HT.fr F2 (nm1 dbt.symm)
 have HS2:=HS.fr F2 (nm1 dbs.symm)
 have HTs2:=HTs.fr F2 (nm1 dbs'.symm)
 have F02:Fm w w2 [b]:=F1.trans F2 (fun x hx => .inl hx)
 have hlen:=H.len
 have hl256:=H.l256
 refine joinP_id ?_
 refine ld_b (t := .I .u8) (x:=((T:Nat):Int)) hSL HS'.atlAt ⟨by rw [wU8 (by omega) (by omega)];omega,?_⟩
 unfold drw
 refine ld_b (t := .I .u16) (x:=((L:Nat):Int)) hSL.drew HS'.symAt ?_
 refine slcA_hi rfl (by omega) (by omega) ?_
 rw [sh32 H.log]
 refine dt1 HS' rfl hSL.drew HT2.drew HS2.drew hG0 dbt dbs n2 ?_
 intro w3 e φ sy F3c z he hlow hLy B3 HT3 HS3 hF3 hF3v F3
 have HND3:=HS'.zb z
 unfold q79_J13
 refine joinP_id ?_
 simp only [add_mk,Nat.zero_add]
 unfold spreadZ at hsp
 rw [hlow] at hsp
 simp only at hsp
 refine dt2 HND3 rfl B3 HT3 hLy dbt he hsp ?_
 intro w4 sy4 HT4 hLy4 F4
 have hsp':spreadZ cs (2^T) (fun _ => -1)=some (f,0):=by unfold spreadZ;rw [hlow];exact hsp
 refine dt3 HND3 rfl (B3.fr F4 (nm1 dbt)) HT4 hLy4 (HS3.fr F4 (nm1 n2.symm)) hF3 hF3v hf0 hsp' dbt dbs n2 ?_
 intro w5 ns nb F5c hc HT5 HS5 hF5 F5
 have hs2:=F02.size
 have F23:Fm w w3 [b]:=(F02.drew).trans F3 (by intro v hv;simp at hv;rcases hv with rfl|rfl|rfl;exact .inl (by simp);right;omega;right;omega)
 have F05:Fm w w5 [b]:=(F23.trans F4 (by intro v hv;right;simp at hv;omega)).trans F5 (by intro v hv;right;simp at hv;omega)
 have HTs5:Blk w5 ts F0:=((HTs2.drew.fr F3 (by simp;exact ⟨dbs'.symm,n1.symm,n3⟩)).fr F4 (nm1 n1.symm)).fr F5 (by simp;exact ⟨n1.symm,n3⟩)
 have B5:=(B3.fr F4 (nm1 dbt)).fr F5 (by simp;exact ⟨dbt,dbs⟩)
 refine hk w5 tb ts sb z F5c htb hts hsb n1 n2 n3 ⟨rfl,by simp,_,HT5,?_⟩ ⟨F0,HTs5,by simp,hF0⟩ HS5 hF5 B5 F05
 intro i hi
 simp only [List.length_map,List.length_range] at hi
 obtain ⟨c1,c2⟩:=hc i hi
 simp only [List.getElem_map,List.getElem_range]
 refine ⟨by rw [dtC_0 _ _ _ hi,c1],?_,by rw [dtC_2 _ _ _ hi,c2]⟩
 rw [dtC_1 _ _ _ hi,hLy4 i hi (hf0 i hi)]
 have:(((cellZ cs T f i).1:Nat):Int)=f i:=Int.toNat_of_nonneg (hf0 i hi)
 rw [this]
def wd (l:List Nat) (off bc:Nat):Nat:=leN l/2^(8*off)%2^32/2^bc
theorem wd_mod (l:List Nat) {off bc n:Nat} (h:bc+n≤32):wd l off bc%2^n=tkZ l (8*off+bc) n:=by
 unfold wd tkZ
 rw [Nat.pow_add, ←Nat.div_div_eq_div_mul]
 generalize leN l/2^(8*off)=U
 rw [show (2:Nat)^32=2^bc*2^(32-bc) by rw [←Nat.pow_add,show bc+(32-bc)=32 by omega],Nat.mod_mul_right_div_self]
 rw [show (2:Nat)^(32-bc)=2^n*2^(32-bc-n) by rw [←Nat.pow_add,show n+(32-bc-n)=32-bc by omega],Nat.mod_mul_right_mod]
theorem wd_div (l:List Nat) (off bc k:Nat):wd l off bc/2^k=wd l off (bc+k):=by
 unfold wd
 rw [Nat.div_div_eq_div_mul, ←Nat.pow_add]
theorem wd_lt (l:List Nat) (off bc:Nat):wd l off bc<2^32:=by
 unfold wd
 exact Nat.lt_of_le_of_lt (Nat.div_le_self _ _) (Nat.mod_lt _ (by decide))
theorem wd_lt2 (l:List Nat) {off bc:Nat} (h:bc≤32):wd l off bc<2^(32-bc):=by
 unfold wd
 rw [Nat.div_lt_iff_lt_mul (Nat.two_pow_pos _), ←Nat.pow_add,show 32-bc+bc=32 by omega]
 exact Nat.mod_lt _ (by decide)
theorem tkZ_add (l:List Nat) (p g k:Nat):tkZ l p (g+k)=tkZ l p g+tkZ l (p+g) k*2^g:=by
 unfold tkZ
 rw [Nat.pow_add 2 g k,Nat.mod_mul,Nat.div_div_eq_div_mul, ←Nat.pow_add,Nat.mul_comm]
structure PH (l:List Nat) (z:Bool) (p:Nat) (cs:List Int) (left:Nat) (E:HS):Prop where
 rd:readZ l (if z then zerosZ l ⟨p,true,cs⟩ else ⟨p,true,cs⟩) left=some (E,0)
 ok:E.ok=true
theorem zerosZ_ok (l:List Nat) (s:HS):(zerosZ l s).ok=true→s.ok=true:=by
 intro h
 rw [zerosZ] at h
 by_cases hs:s.ok=true
 ·exact hs
 ·rw [if_neg hs] at h;exact absurd h hs
theorem zerosZ_pos (l:List Nat) (s:HS):s.pos≤(zerosZ l s).pos:=by
 fun_induction zerosZ l s with
 | case1 s h1 h2=>simp
 | case2 s h1 h2 ih=>simp at ih;omega
 | case3 s h1=>exact Nat.le_refl _
theorem valZ_pos (l:List Nat) (a m:Nat):a≤(valZ l a m).2.1:=by
 unfold valZ
 simp only
 split<;>simp only<;>omega
theorem nextZ_pos (l:List Nat) (s:HS) (left:Nat):(valZ l s.pos (left+1)).2.1≤(nextZ l s left).pos:=by
 unfold nextZ
 split
 ·exact zerosZ_pos l (stepZ l s left)
 ·exact Nat.le_refl _
theorem nextZ_ok (l:List Nat) (s:HS) (left:Nat) (h:(nextZ l s left).ok=true):(stepZ l s left).ok=true:=by
 unfold nextZ at h
 split at h
 ·exact zerosZ_ok _ _ h
 ·exact h
theorem readZ_mono (l:List Nat) (s:HS) (left:Nat) (E:HS) (left':Nat) (h:readZ l s left=some (E,left')):s.pos≤E.pos∧(E.ok=true→s.ok=true)∧s.cs.length≤E.cs.length:=by
 fun_induction readZ l s left with
 | case1 s left h1 h2=>cases h
 | case2 s left h1 h2 ih =>
  obtain ⟨i1,i2,i3⟩:=ih h
  have h3:=nextZ_pos l s left
  have h4:=valZ_pos l s.pos (left+1)
  have h5:=nextZ_len l s left
  exact ⟨by omega,fun _=>h1.2,by omega⟩
 | case3 s left h1 =>
  injection h with h;injection h with h2 h3
  subst h2
  exact ⟨Nat.le_refl _,id,Nat.le_refl _⟩
theorem PH.pos {l:List Nat} {z:Bool} {p:Nat} {cs:List Int} {left:Nat} {E:HS} (H:PH l z p cs left E):p≤E.pos:=by
 have h:=(readZ_mono _ _ _ _ _ H.rd).1
 cases z with
 | false=>exact h
 | true=>exact Nat.le_trans (zerosZ_pos l ⟨p,true,cs⟩) h
theorem PH.val {l:List Nat} {p:Nat} {cs:List Int} {left:Nat} {E:HS} (H:PH l false p cs left E) (h0:0<left) :
  cs.length≤255∧PH l (decide ((valZ l p (left+1)).1=1)) (valZ l p (left+1)).2.1 (cs ++ [((valZ l p (left+1)).1:Int)-1]) (leftZ (valZ l p (left+1)).1 left) E:=by
 obtain ⟨h1,h2⟩:=H
 simp only [Bool.false_eq_true,if_false] at h1
 rw [readZ,if_pos ⟨h0,rfl⟩] at h1
 split at h1
 ·cases h1
 ·rename_i hc
  simp only at hc h1
  refine ⟨by omega,?_,h2⟩
  have hm:=(readZ_mono _ _ _ _ _ h1).2.1 h2
  have hs:=nextZ_ok _ _ _ hm
  have e:stepZ l ⟨p,true,cs⟩ left=⟨(valZ l p (left+1)).2.1,true,cs ++ [((valZ l p (left+1)).1:Int)-1]⟩:=by
   unfold stepZ at hs ⊢
   simp only [Bool.true_and] at hs ⊢
   rw [hs]
  unfold nextZ at h1
  rw [e] at h1
  by_cases hv:(valZ l p (left+1)).1=1
  ·rw [decide_eq_true hv,if_pos rfl]
   rw [if_pos hv] at h1
   exact h1
  ·rw [decide_eq_false hv,if_neg (by decide)]
   rw [if_neg hv] at h1
   exact h1
theorem PH.len {l:List Nat} {z:Bool} {p:Nat} {cs:List Int} {left:Nat} {E:HS} (H:PH l z p cs left E) (h0:0<left):cs.length≤255:=by
 cases z with
 | false=>exact (H.val h0).1
 | true =>
  have h1:=H.rd
  rw [if_pos rfl] at h1
  have h3:=zerosZ_len l ⟨p,true,cs⟩
  rw [readZ] at h1
  split at h1
  ·split at h1
   ·cases h1
   ·rename_i hc;simp only at hc h3;omega
  ·injection h1 with h1;injection h1 with h4 h5;omega
theorem PH.zero {l:List Nat} {p:Nat} {cs:List Int} {left:Nat} {E:HS} (H:PH l true p cs left E) (h0:0<left) :
  PH l (decide (tkZ l p 2=3)) (p+2) (cs++List.replicate (tkZ l p 2) 0) left E:=by
 obtain ⟨h1,h2⟩:=H
 rw [if_pos rfl] at h1
 have hm:=(readZ_mono _ _ _ _ _ h1).2.1 h2
 have h4:tkZ l p 2<4:=Nat.mod_lt _ (by decide)
 rw [zerosZ,if_pos rfl] at h1 hm
 simp only [Bool.true_and] at h1 hm
 split at h1
 ·rename_i hc
  rw [dif_pos hc] at hm
  simp only at hm
  rw [hm] at h1
  by_cases h3:tkZ l p 2=3
  ·exfalso
   have hp:PH l false (p+2) (cs++List.replicate (tkZ l p 2) 0) left E:=⟨h1,h2⟩
   have:=hp.len h0
   simp only [List.length_append,List.length_replicate] at this
   omega
  ·exact ⟨by rw [decide_eq_false h3];exact h1,h2⟩
 ·rename_i hc
  rw [dif_neg hc] at hm
  have ho:=zerosZ_ok _ _ hm
  simp only at ho
  rw [ho] at h1
  exact ⟨by rw [decide_eq_true (by omega),if_pos rfl];exact h1,h2⟩
theorem valZ_wd {l:List Nat} {off bc m P:Nat} (hP:(valZ l (8*off+bc) m).2.1≤P) (hw:∀n,n≤m.log2+1→8*off+bc+n≤P→bc+n≤32) (h0:0<m) :
  (wd l off bc%2^m.log2<2*2^m.log2-1-m∧valZ l (8*off+bc) m=(wd l off bc%2^m.log2,8*off+bc+m.log2,okZ l (8*off+bc) m.log2)) ∨
  (2*2^m.log2-1-m≤wd l off bc%2^m.log2∧∃o,valZ l (8*off+bc) m=(if 2^m.log2≤wd l off bc%(2*2^m.log2) then wd l off bc%(2*2^m.log2)-(2*2^m.log2-1-m) else wd l off bc%(2*2^m.log2),8*off+bc+(m.log2+1),o)):=by
 have hp:2^(m.log2+1)=2*2^m.log2:=Nat.pow_succ'
 have hx:8*off+bc+m.log2≤(valZ l (8*off+bc) m).2.1:=by
  unfold valZ
  simp only [Nat.add_sub_cancel]
  split<;>simp only<;>omega
 have h1:=wd_mod l (off:=off) (hw m.log2 (by omega) (by omega))
 unfold valZ at hP ⊢
 simp only [Nat.add_sub_cancel,hp] at hP ⊢
 rw [h1]
 by_cases hc:tkZ l (8*off+bc) m.log2<2*2^m.log2-1-m
 ·left
  rw [if_pos hc]
  exact ⟨hc,rfl⟩
 ·right
  rw [if_neg hc] at hP ⊢
  simp only at hP
  have h2:=wd_mod l (off:=off) (hw (m.log2+1) (by omega) hP)
  rw [hp,tkZ_add] at h2
  rw [h2]
  exact ⟨by omega,_,rfl⟩
theorem tkZ_sub (l:List Nat) (p n:Nat) {a k:Nat} (h:a+k≤n):tkZ l (p+a) k=tkZ l p n/2^a%2^k:=by
 unfold tkZ
 rw [Nat.pow_add, ←Nat.div_div_eq_div_mul]
 generalize leN l/2^p=U
 rw [show (2:Nat)^n=2^a*2^(n-a) by rw [←Nat.pow_add,show a+(n-a)=n by omega],Nat.mod_mul_right_div_self]
 rw [show (2:Nat)^(n-a)=2^k*2^(n-a-k) by rw [←Nat.pow_add,show k+(n-a-k)=n-a by omega],Nat.mod_mul_right_mod]
theorem PH.zeros {l:List Nat} {left:Nat} {E:HS} (h0:0<left):∀(n:Nat) {p:Nat} {cs:List Int},PH l true p cs left E→(∀j,j<n→tkZ l (p+2*j) 2=3)→PH l true (p+2*n) (cs++List.replicate (3*n) 0) left E
 | 0,p,cs,H,_=>by simpa using H
 | n+1,p,cs,H,hj=>by
  have h1:=H.zero h0
  have h2:=hj 0 (by omega)
  rw [Nat.mul_zero,Nat.add_zero] at h2
  rw [h2,decide_eq_true rfl] at h1
  have h3:=PH.zeros h0 n h1 (fun j hjn=>by have:=hj (j+1) (by omega);rw [show p+2*(j+1)=p+2+2*j by omega] at this;exact this)
  rw [show p+2*(n+1)=p+2+2*n by omega,show 3*(n+1)=3+3*n by omega, ←List.replicate_append_replicate, ←List.append_assoc]
  exact h3
theorem ones16 {l:List Nat} {p:Nat} (h:tkZ l p 16=65535):∀j,j<8→tkZ l (p+2*j) 2=3:=by
 intro j hj
 rw [tkZ_sub l p 16 (by omega),h]
 rcases (show j=0∨j=1∨j=2∨j=3∨j=4∨j=5∨j=6∨j=7 by omega) with rfl|rfl|rfl|rfl|rfl|rfl|rfl|rfl<;>rfl
def FS.no (s:FS) (nf:Nat→Int) (off:Nat):FS := { s with norm:=nf,brOff:=(off:Nat) }
theorem c95 {w:World} {b:Nat} {s:FS} {nf:Nat→Int} {off n:Nat} {K:Unit→PT} (HB:Blk w b (s.no nf off).at) (hn:off+n<2^40) (hk:∀w',Blk w' b (s.no nf (off+n)).at→Fm w w' [b]→K () w') :
  callP Tryd.prog 95 #[.pointer (some ⟨b,512,none⟩),.int .u64 n] [] K w:=by
 apply q95_ok
 unfold q95
 simp only [add_mk]
 refine ld_b (t := .I .i64) (x:=((off:Nat):Int)) HB rfl ?_
 rw [wI64 (x:=((n:Nat):Int)) (by omega) (by omega),wI64 (by omega) (by omega), ←Int.natCast_add]
 refine st_u HB rfl rfl ?_
 intro w' B F
 exact hk w' (B.congr (FS.setT 1 rfl rfl rfl (by decide))) F
theorem rd_w {w:World} {b:Nat} {s:FS} {nf:Nat→Int} {off:Nat} {l:List Nat} {κ:Int→PT} (HB:Blk w b (s.no nf off).at) (A:Arr .u8 w s.br l) (hl:By l) (ho:off+4≤l.length) (hk:∀w',Fm w w' []→κ ((wd l off 0:Nat):Int) w') :
  (ldL [.S,.I .i64] ⟨b,512,none⟩ 0 fun (r17:Sl×Int)=>callP Tryd.prog 94 #[.agg ⟨[.slice r17.1.a r17.1.l r17.1.c,.int .i64 r17.2]⟩] [.c (.I .u32)] κ) w:=by
 refine ld2_b (t := .S) (u := .I .i64) (x:=s.br) (y:=((off:Nat):Int)) HB rfl rfl ?_
 refine c94 A hl ho ?_
 intro w' F
 have e:wd l off 0=leN l/2^(8*off)%2^32:=by unfold wd;simp
 rw [←e]
 exact hk w' F
theorem shr_wd (l:List Nat) (off bc k:Nat):shrI .u32 ((wd l off bc:Nat):Int) (k:Int)=((wd l off (bc+k):Nat):Int):=by
 rw [shrI_nat .u32 _ k (by simp only [IntKind.bits];exact wd_lt l off bc),wd_div]
theorem and_wd (l:List Nat) (off bc g:Nat) (hg:g≤16):andI .u32 ((wd l off bc:Nat):Int) ((2^g-1:Nat):Int)=((wd l off bc%2^g:Nat):Int):=by
 have hp:2^g≤2^16:=Nat.pow_le_pow_right (by omega) hg
 rw [andI_nat (k := .u32) rfl _ _ (by simp only [IntKind.bits];exact wd_lt l off bc) (by simp only [IntKind.bits];omega),Nat.and_two_pow_sub_one_eq_mod]
section
variable {w:World} {b:Nat} {s:FS} {l:List Nat} {E:HS} {left:Nat} {nf:Nat→Int}
theorem rn_L0 {R12:Int×Int×Int→PT} {off bc:Nat} {cs:List Int} (HB:Blk w b (s.no nf off).at) (A:Arr .u8 w s.br l) (hl:By l) (hd:∀a,s.br.a=some a→l ≠ []→a.block≠b) (hlen:l.length<2^20) (hE:E.pos+16≤8*l.length) (h0:0<left)
  (H:PH l true (8*off+bc) cs left E) (hof:off+4≤l.length) (hZ:bc≤7∨l.length≤off+5)
  (hk:∀w' off bc k,Blk w' b (s.no nf off).at→PH l true (8*off+bc) (cs++List.replicate k 0) left E→off+4≤l.length→(bc≤7∨l.length≤off+5)→wd l off bc%65536≠65535→Fm w w' [b]→R12 (((wd l off bc:Nat):Int),(bc:Int),(((cs++List.replicate k 0).length:Nat):Int)) w') :
  loopP (((wd l off bc:Nat):Int),((bc:Nat):Int),((cs.length:Nat):Int)) (q78_L0 ⟨b,0,none⟩ ((l.length:Nat):Int) R12) w:=by
 refine ⟨fun x w'=>∃off bc k,x=(((wd l off bc:Nat):Int),((bc:Nat):Int),(((cs++List.replicate k 0).length:Nat):Int))∧Blk w' b (s.no nf off).at∧PH l true (8*off+bc) (cs++List.replicate k 0) left E∧off+4≤l.length∧(bc≤7∨l.length≤off+5)∧Fm w w' [b],
  fun x _=>256-x.2.2.toNat,⟨off,bc,0,by simp,HB,by simpa using H,hof,hZ,Fm.refl _ _⟩,?_⟩
 rintro x w1 ⟨off,bc,k,rfl,HB1,H1,hof,hZ,F1⟩
 have hpos:=H1.pos
 have hb32:bc≤24:=by omega
 unfold q78_L0
 simp only [add_mk,Nat.zero_add]
 have ea:andI .u32 ((wd l off bc:Nat):Int) 65535=((wd l off bc%65536:Nat):Int):=and_wd l off bc 16 (by omega)
 rw [ea]
 refine cnd_d (fun hc => ?_) fun hc => ?_
 ·have hc2:wd l off bc%65536=65535:=by omega
  have hb16:bc≤16:=by
   have h1:=wd_lt2 l (off:=off) (bc:=bc) (by omega)
   by_cases h:bc≤16
   ·exact h
   ·have:2^(32-bc)≤2^15:=Nat.pow_le_pow_right (by omega) (by omega)
    omega
  have ht:tkZ l (8*off+bc) 16=65535:=by rw [←wd_mod l (by omega)];exact hc2
  have H2:=H1.zeros h0 8 (ones16 ht)
  have hn2:=H2.len h0
  simp only [List.length_append,List.length_replicate] at hn2
  have hcs:(cs++List.replicate k (0:Int)++List.replicate (3*8) 0)=cs++List.replicate (k+24) 0:=by rw [List.append_assoc,List.replicate_append_replicate]
  have ew:IntKind.u16.wrap ((((cs++List.replicate k (0:Int)).length:Nat):Int)+24)=(((cs++List.replicate (k+24) (0:Int)).length:Nat):Int):=by
   simp only [List.length_append,List.length_replicate]
   rw [wU16 (by omega) (by omega)];omega
  rw [hcs] at H2
  rw [ew]
  refine ld_b (t := .I .i64) (x:=((off:Nat):Int)) HB1 rfl ?_
  rw [wI64 (by omega) (by omega)]
  refine cnd_d (fun ho => ?_) fun ho => ?_
  ·refine c95 (n:=2) HB1 (by omega) ?_
   intro w2 HB2 F2
   have F02:Fm w w2 [b]:=F1.trans F2 (fun x hx => .inl hx)
   have A2:=A.fr F02 (by intro a ha h;simpa using hd a ha h)
   refine rd_w HB2 A2 hl (by omega) ?_
   intro w3 F3
   rw [shr_wd,Nat.zero_add]
   refine ⟨by omega,⟨off+2,bc,k+24,rfl,HB2.fr F3 (by simp),?_,by omega,by omega,F02.trans F3 (by simp)⟩,?_⟩
   ·rw [show 8*(off+2)+bc=8*off+bc+2*8 by omega];exact H2
   ·simp only [Int.toNat_natCast,List.length_append,List.length_replicate];omega
  ·have e16:=shr_wd l off bc 16
   refine ⟨by omega,?_⟩
   rw [show shrI .u32 ((wd l off bc:Nat):Int) (16:Int)=_ from e16,wU64 (by omega) (by omega)]
   refine ⟨⟨off,bc+16,k+24,by simp,HB1,?_,hof,by omega,F1⟩,?_⟩
   ·rw [show 8*off+(bc+16)=8*off+bc+2*8 by omega];exact H2
   ·simp only [Int.toNat_natCast,List.length_append,List.length_replicate];omega
 ·exact hk w1 off bc k HB1 H1 hof hZ (by omega) F1
theorem rn_L1 {R20:Int×Int×Int→PT} {off bc:Nat} {cs:List Int} (hE:E.pos+16≤8*l.length) (h0:0<left)
  (H:PH l true (8*off+bc) cs left E) (hof:off+4≤l.length) (hZ:bc≤7∨l.length≤off+5) (h16:wd l off bc%65536≠65535)
  (hk:∀bc k r,PH l false (8*off+(bc+2)) (cs++List.replicate k 0++List.replicate r 0) left E→(bc≤21∨l.length≤off+5)→wd l off bc%4=r→r<3→R20 (((wd l off bc:Nat):Int),(bc:Int),(((cs++List.replicate k 0).length:Nat):Int)) w) :
  loopP (((wd l off bc:Nat):Int),((bc:Nat):Int),((cs.length:Nat):Int)) (q78_L1 R20) w:=by
 refine ⟨fun x w'=>w'=w∧∃bc1 k,x=(((wd l off bc1:Nat):Int),((bc1:Nat):Int),(((cs++List.replicate k 0).length:Nat):Int))∧PH l true (8*off+bc1) (cs++List.replicate k 0) left E∧(l.length≤off+5∨(bc≤7∧∃j,j≤7∧bc1=bc+2*j∧wd l off bc%2^(2*j)=2^(2*j)-1)),
  fun x _=>256-x.2.2.toNat,⟨rfl,bc,0,by simp,by simpa using H,?_⟩,?_⟩
 ·rcases hZ with h|h
  ·exact .inr ⟨h,0,by omega,rfl,by simp [Nat.mod_one]⟩
  ·exact .inl h
 rintro x w1 ⟨rfl,bc1,k,rfl,H1,hJ⟩
 have hpos:=H1.pos
 have hb32:bc1≤24:=by
  rcases hJ with h|⟨_,j,h1,h2,_⟩<;>omega
 unfold q78_L1
 simp only
 have ea:andI .u32 ((wd l off bc1:Nat):Int) 3=((wd l off bc1%4:Nat):Int):=and_wd l off bc1 2 (by omega)
 rw [ea]
 have ht:wd l off bc1%4=tkZ l (8*off+bc1) 2:=wd_mod l (n:=2) (by omega)
 refine cnd_d (fun hc => ?_) fun hc => ?_
 ·have hc2:tkZ l (8*off+bc1) 2=3:=by omega
  have H2:=H1.zero h0
  rw [hc2,decide_eq_true rfl] at H2
  have hn2:=H2.len h0
  simp only [List.length_append,List.length_replicate] at hn2
  have hcs:(cs++List.replicate k (0:Int)++List.replicate 3 0)=cs++List.replicate (k+3) 0:=by rw [List.append_assoc,List.replicate_append_replicate]
  rw [hcs] at H2
  have ew:IntKind.u16.wrap ((((cs++List.replicate k (0:Int)).length:Nat):Int)+3)=(((cs++List.replicate (k+3) (0:Int)).length:Nat):Int):=by
   simp only [List.length_append,List.length_replicate]
   rw [wU16 (by omega) (by omega)];omega
  rw [ew]
  refine ⟨by omega,?_⟩
  rw [show shrI .u32 ((wd l off bc1:Nat):Int) (2:Int)=_ from shr_wd l off bc1 2,wU64 (by omega) (by omega)]
  refine ⟨⟨rfl,bc1+2,k+3,by simp,H2,?_⟩,?_⟩
  ·rcases hJ with h|⟨h,j,h1,h2,h3⟩
   ·exact .inl h
   ·right
    have h4:wd l off bc/2^(2*j)%4=3:=by rw [wd_div, ←h2];omega
    have h5:wd l off bc%2^(2*(j+1))=2^(2*(j+1))-1:=by
     rw [show 2*(j+1)=2*j+2 by omega,Nat.pow_add,Nat.mod_mul,h3,show (2:Nat)^2=4 from rfl,h4]
     have:=Nat.two_pow_pos (2*j)
     omega
    refine ⟨h,j+1,?_,by omega,h5⟩
    by_cases hj:j=7
    ·subst hj;exact absurd h5 h16
    ·omega
  ·simp only [Int.toNat_natCast,List.length_append,List.length_replicate];omega
 ·have H2:=H1.zero h0
  have hr3:tkZ l (8*off+bc1) 2≠3:=by omega
  rw [decide_eq_false hr3] at H2
  refine hk bc1 k _ H2 ?_ ht (by have:tkZ l (8*off+bc1) 2<4:=Nat.mod_lt _ (by decide);omega)
  rcases hJ with h|⟨_,j,h1,h2,_⟩
  ·exact .inr h
  ·exact .inl (by omega)
end
theorem and_u64 (a g:Nat) (ha:a<2^64) (hg:g≤16):andI .u64 ((a:Nat):Int) ((2^g-1:Nat):Int)=((a%2^g:Nat):Int):=by
 have hp:2^g≤2^16:=Nat.pow_le_pow_right (by omega) hg
 rw [andI_nat (k := .u64) rfl _ _ (by simp only [IntKind.bits];exact ha) (by simp only [IntKind.bits];omega),Nat.and_two_pow_sub_one_eq_mod]
theorem and_u16 (a:Nat) (ha:a≤255):andI .u16 ((a:Nat):Int) 255=((a:Nat):Int):=by
 have h:=andI_nat (k := .u16) rfl a 255 (by simp only [IntKind.bits];omega) (by decide)
 rw [show a &&& 255=a%256 from Nat.and_two_pow_sub_one_eq_mod a 8,Nat.mod_eq_of_lt (by omega)] at h
 exact h
def NfOk (nf:Nat→Int) (cs:List Int):Prop:=∀j (h:j<cs.length),nf j=cs[j]
section
variable {w:World} {b:Nat} {s:FS} {l:List Nat} {E:HS} {left:Nat} {nf:Nat→Int}
theorem rn_J3 {R11:Int×Int×Int→PT} {off bc:Nat} {cs:List Int} {n0 ch:Int} (HB:Blk w b (s.no nf off).at) (A:Arr .u8 w s.br l) (hl:By l) (hd:∀a,s.br.a=some a→l ≠ []→a.block≠b) (hlen:l.length<2^20) (hE:E.pos+16≤8*l.length)
  (H:PH l false (8*off+(bc+2)) cs left E) (hof:off+4≤l.length) (hZ:bc≤21∨l.length≤off+5)
  (hk:∀w' off bc,Blk w' b (s.no nf off).at→PH l false (8*off+bc) cs left E→off+4≤l.length→(bc≤7∨l.length≤off+6)→Fm w w' [b]→R11 (ch,((wd l off bc:Nat):Int),(bc:Int)) w') :
  q78_J3 ⟨b,0,none⟩ ((l.length:Nat):Int) R11 (((wd l off bc:Nat):Int),((bc:Nat):Int),n0) ch w:=by
 have hpos:=H.pos
 have hb:bc≤24:=by omega
 unfold q78_J3
 simp only [add_mk,Nat.zero_add]
 have e2:IntKind.u64.wrap (((bc:Nat):Int)+2)=((bc+2:Nat):Int):=by rw [wU64 (by omega) (by omega)];omega
 have e3:shrI .u64 ((bc+2:Nat):Int) 3=(((bc+2)/8:Nat):Int):=shrI_nat .u64 (bc+2) 3 (by simp only [IntKind.bits];omega)
 have e4:andI .u64 ((bc+2:Nat):Int) 7=(((bc+2)%8:Nat):Int):=and_u64 (bc+2) 3 (by omega) (by omega)
 rw [e2,e3,e4]
 have adv:off+(bc+2)/8+4≤l.length→(callP Tryd.prog 95 #[.pointer (some ⟨b,512,none⟩),.int .u64 (((bc+2)/8:Nat):Int)] [] fun (_:Unit)=>ldL [.S,.I .i64] ⟨b,512,none⟩ 0 fun (r32:Sl×Int)=>callP Tryd.prog 94 #[.agg ⟨[.slice r32.1.a r32.1.l r32.1.c,.int .i64 r32.2]⟩] [.c (.I .u32)] fun (r33:Int)=>req (0≤(((bc+2)%8:Nat):Int))<|R11 (ch,shrI .u32 r33 (((bc+2)%8:Nat):Int),(((bc+2)%8:Nat):Int))) w:=by
  intro ha
  refine c95 HB (by omega) ?_
  intro w2 HB2 F2
  refine rd_w HB2 (A.fr F2 (by intro a ha h;simpa using hd a ha h)) hl ha ?_
  intro w3 F3
  rw [shr_wd,Nat.zero_add]
  refine ⟨by omega,hk w3 _ _ (HB2.fr F3 (by simp)) ?_ ha (.inl (by omega)) (F2.trans F3 (by simp))⟩
  rw [show 8*(off+(bc+2)/8)+(bc+2)%8=8*off+(bc+2) by omega];exact H
 refine ld_b (t := .I .i64) (x:=((off:Nat):Int)) HB rfl ?_
 rw [wI64 (x:=((l.length:Nat):Int)-7) (by omega) (by omega)]
 refine cnd_d (fun h7=>⟨by omega,adv (by omega)⟩) fun h7 => ?_
 refine ld_b (t := .I .i64) (x:=((off:Nat):Int)) HB rfl ⟨by omega,?_⟩
 rw [wI64 (x:=(((bc+2)/8:Nat):Int)) (by omega) (by omega),wI64 (x:=((off:Nat):Int)+_) (by omega) (by omega),wI64 (x:=((l.length:Nat):Int)-4) (by omega) (by omega)]
 refine cnd_d (fun h4=>⟨by omega,adv (by omega)⟩) fun h4 => ?_
 refine ⟨by omega,?_⟩
 rw [show shrI .u32 ((wd l off bc:Nat):Int) (2:Int)=_ from shr_wd l off bc 2]
 exact hk w off (bc+2) HB H hof (.inr (by omega)) (Fm.refl _ _)
theorem rn_zero {K1:Value→PT} {R11:Int×Int×Int→PT} {off bc:Nat} {cs:List Int} {x9:Int×Bool×Int×Int×Int×Int×Int×Int} (hx1:x9.1=((cs.length:Nat):Int)) (hx2:x9.2.2.1=((wd l off bc:Nat):Int)) (hx3:x9.2.2.2.2.1=((bc:Nat):Int))
  (HB:Blk w b (s.no nf off).at) (A:Arr .u8 w s.br l) (hl:By l) (hd:∀a,s.br.a=some a→l ≠ []→a.block≠b) (hlen:l.length<2^20) (hE:E.pos+16≤8*l.length) (h0:0<left)
  (H:PH l true (8*off+bc) cs left E) (hof:off+4≤l.length) (hZ:bc≤7∨l.length≤off+5) (hnf:NfOk nf cs)
  (hk:∀w' nf' off bc cs',Blk w' b (s.no nf' off).at→NfOk nf' cs'→cs.length≤cs'.length→PH l false (8*off+bc) cs' left E→off+4≤l.length→(bc≤7∨l.length≤off+6)→Fm w w' [b]→R11 (((cs'.length:Nat):Int),((wd l off bc:Nat):Int),(bc:Int)) w') :
  joinP (fun R12=>loopP (x9.2.2.1,x9.2.2.2.2.1,x9.1) (q78_L0 ⟨b,0,none⟩ ((l.length:Nat):Int) R12)) (q78_J5 ⟨b,0,none⟩ K1 ((l.length:Nat):Int) x9 R11) w:=by
 rw [hx1,hx2,hx3]
 refine joinP_id ?_
 refine rn_L0 HB A hl hd hlen hE h0 H hof hZ ?_
 intro w1 off1 bc1 k1 HB1 H1 hof1 hZ1 h16 F1
 unfold q78_J5
 refine joinP_id ?_
 refine rn_L1 hE h0 H1 hof1 hZ1 h16 ?_
 intro bc2 k2 r H2 hZ2 hr hr3
 have A1:=A.fr F1 (by intro a ha h;simpa using hd a ha h)
 have hn2:=H2.len h0
 generalize hcs:cs++List.replicate k1 (0:Int)++List.replicate k2 0++List.replicate r 0=cs' at *
 have hcs2:cs'=cs++List.replicate (k1+(k2+r)) 0:=by rw [←hcs,List.append_assoc,List.append_assoc,List.replicate_append_replicate,List.replicate_append_replicate]
 have g1:∀j (h:j<cs'.length) (h2:j<cs.length),cs'[j]=cs[j]:=by
  intro j h h2
  have:cs'[j]? = cs[j]? := by rw [hcs2,List.getElem?_append_left h2]
  rw [List.getElem?_eq_getElem h,List.getElem?_eq_getElem h2] at this
  injection this
 have g2:∀j (h:j<cs'.length),cs.length≤j→cs'[j]=0:=by
  intro j h h2
  have:cs'[j]? = some 0:=by
   rw [hcs2,List.getElem?_append_right h2,List.getElem?_replicate,if_pos]
   rw [hcs2] at h;simp only [List.length_append,List.length_replicate] at h;omega
  rw [List.getElem?_eq_getElem h] at this
  injection this
 have hcl:cs'.length=cs.length+k1+k2+r:=by rw [←hcs];simp only [List.length_append,List.length_replicate]
 have hcl2:(cs++List.replicate k1 (0:Int)++List.replicate k2 0).length=cs.length+k1+k2:=by simp only [List.length_append,List.length_replicate]
 have ea:andI .u32 ((wd l off1 bc2:Nat):Int) 3=((wd l off1 bc2%4:Nat):Int):=and_wd l off1 bc2 2 (by omega)
 unfold q78_J4
 simp only
 rw [ea,hr,hcl2,wU16 (x:=((r:Nat):Int)) (by omega) (by omega)]
 have en:IntKind.u16.wrap (((cs.length+k1+k2:Nat):Int)+((r:Nat):Int))=((cs'.length:Nat):Int):=by rw [wU16 (by omega) (by omega)];omega
 rw [en]
 refine cnd_d (fun h=>by omega) fun _ => ?_
 refine joinP_id ?_
 rw [hx1]
 refine ⟨fun x w'=>∃(c:Nat) (nf':Nat→Int),x=(c:Int)∧cs.length≤c∧c≤cs'.length∧Blk w' b (s.no nf' off1).at∧(∀j (h:j<cs'.length),j<c→nf' j=cs'[j])∧Fm w1 w' [b],fun x _=>256-x.toNat,⟨cs.length,nf,rfl,Nat.le_refl _,by omega,HB1,?_,Fm.refl _ _⟩,?_⟩
 ·intro j hj hj2
  rw [hnf j hj2,g1 j hj hj2]
 rintro x w2 ⟨c,nf2,rfl,hc1,hc2,HB2,hnf2,F2⟩
 unfold q78_L2
 simp only
 rw [ea,hr,wU16 (x:=((r:Nat):Int)) (by omega) (by omega),en]
 refine cnd_d (fun hc => ?_) fun hc => ?_
 ·simp only [add_mk,Nat.zero_add]
  rw [and_u16 c (by omega)]
  refine ixA_o rfl (by omega) ?_
  refine st_u HB2 (by rw [FS.norm_at _ (by omega)];rfl) rfl ?_
  intro w3 HB3 F3
  rw [FS.setN (by omega)] at HB3
  rw [wU16 (by omega) (by omega)]
  refine ⟨⟨c+1,_,by simp,by omega,by omega,HB3,?_,F2.trans F3 (fun x hx => .inl hx)⟩,by omega⟩
  intro j hj hj2
  show updF nf2 c 0 j=cs'[j]
  unfold updF
  by_cases ej:j=c
  ·subst ej
   rw [if_pos rfl,g2 _ hj hc1]
  ·rw [if_neg ej];exact hnf2 j hj (by omega)
 ·have:c=cs'.length:=by omega
  subst this
  have F12:Fm w w2 [b]:=F1.trans F2 (fun x hx => .inl hx)
  refine rn_J3 HB2 (A.fr F12 (by intro a ha h;simpa using hd a ha h)) hl hd hlen hE H2 hof1 hZ2 ?_
  intro w3 off3 bc3 HB3 H3 hof3 hZ3 F3
  exact hk w3 nf2 off3 bc3 cs' HB3 (fun j hj=>hnf2 j hj hj) (by omega) H3 hof3 hZ3 (F12.trans F3 (fun x hx => .inl hx))
end
theorem i32_wrap (a:Nat) (ha:a<2^32):BitVec.ofInt 32 (IntKind.i32.wrap ((a:Nat):Int))=BitVec.ofNat 32 a:=by
 apply BitVec.eq_of_toNat_eq
 rw [BitVec.toNat_ofInt,BitVec.toNat_ofNat]
 have:(IntKind.i32.wrap ((a:Nat):Int))%((2^32:Nat):Int)=(a:Int):=by
  have h:∀x:Int,IntKind.i32.wrap x=if (2:Int)^31≤x%2^32 then x%2^32-2^32 else x%2^32:=by
   intro x
   show (if (true&&decide (x%2^32≥2^(32-1)))=true then x%2^32-2^32 else x%2^32)=_
   by_cases h:(2:Int)^31≤x%2^32
   ·rw [if_pos h,if_pos (by simpa using h)]
   ·rw [if_neg h,if_neg (by simpa using h)]
  rw [h]
  split<;>omega
 rw [this,Int.toNat_natCast,Nat.mod_eq_of_lt ha]
theorem and32 (a g:Nat) (ha:a<2^32) (hg:g≤16):andI .i32 (IntKind.i32.wrap ((a:Nat):Int)) ((2^g-1:Nat):Int)=((a%2^g:Nat):Int):=by
 have hp:2^g≤2^16:=Nat.pow_le_pow_right (by omega) hg
 unfold andI
 have e1:BitVec.ofInt IntKind.i32.bits (IntKind.i32.wrap ((a:Nat):Int))=BitVec.ofNat 32 a:=i32_wrap a ha
 have e2:BitVec.ofInt IntKind.i32.bits ((2^g-1:Nat):Int)=BitVec.ofNat 32 (2^g-1):=ofInt_nat 32 (2^g-1)
 rw [e1,e2]
 show IntKind.i32.wrap (((BitVec.ofNat 32 a &&& BitVec.ofNat 32 (2^g-1):BitVec 32).toNat:Nat):Int)=_
 rw [BitVec.toNat_and,BitVec.toNat_ofNat,BitVec.toNat_ofNat,Nat.mod_eq_of_lt ha,Nat.mod_eq_of_lt (by omega),Nat.and_two_pow_sub_one_eq_mod]
 have:a%2^g<2^g:=Nat.mod_lt _ (Nat.two_pow_pos _)
 rw [wI32 (by omega) (by omega)]
abbrev X8:=Int×Bool×Int×Int×Int×Int×Int×Int
def x8 (l:List Nat) (T:Nat) (cs:List Int) (z:Bool) (off bc left:Nat):X8 :=
 (((cs.length:Nat):Int),z,((wd l off bc:Nat):Int),(((left+1).log2+1:Nat):Int),((bc:Nat):Int),((left+1:Nat):Int),((2^(left+1).log2:Nat):Int),((2^T-left:Nat):Int))
section
variable {w:World} {b:Nat} {s:FS} {l:List Nat} {E:HS} {left T:Nat} {nf:Nat→Int}
theorem log2_of2 {m g:Nat} (h1:2^g≤m) (h2:m<2^(g+1)):m.log2=g:=by
 have h0:0<2^g:=Nat.two_pow_pos g
 have a:=(Nat.le_log2 (by omega)).mpr h1
 have c:=(Nat.log2_lt (by omega)).mpr h2
 omega
theorem rn_val {K1:Value→PT} {A10:X8→PT} {off bc:Nat} {cs:List Int} {x9:X8} (hT:T≤6) (hleft:left≤2^T)
  (x4:x9.2.2.2.1=(((left+1).log2+1:Nat):Int)) (x6:x9.2.2.2.2.2.1=((left+1:Nat):Int)) (x7:x9.2.2.2.2.2.2.1=((2^(left+1).log2:Nat):Int)) (x8':x9.2.2.2.2.2.2.2=((2^T-left:Nat):Int))
  (HB:Blk w b (s.no nf off).at) (A:Arr .u8 w s.br l) (hl:By l) (hd:∀a,s.br.a=some a→l ≠ []→a.block≠b) (hlen:l.length<2^20) (hE:E.pos+16≤8*l.length) (h0:0<left)
  (H:PH l false (8*off+bc) cs left E) (hof:off+4≤l.length) (hZ:bc≤7∨l.length≤off+6) (hnf:NfOk nf cs)
  (hk:∀w' nf' off bc left' v z,Blk w' b (s.no nf' off).at→NfOk nf' (cs ++ [v])→PH l z (8*off+bc) (cs ++ [v]) left' E→off+4≤l.length→(bc≤7∨l.length≤off+4)→left'≤2^T→(z=true→0<left')→Fm w w' [b]→A10 (x8 l T (cs ++ [v]) z off bc left') w') :
  q78_J16 ⟨b,0,none⟩ K1 ((l.length:Nat):Int) x9 A10 (((cs.length:Nat):Int),((wd l off bc:Nat):Int),((bc:Nat):Int)) w:=by
 have hpT:2^T≤2^6:=Nat.pow_le_pow_right (by omega) hT
 have hlo:=Nat.log2_self_le (n:=left+1) (by omega)
 have hhi:=Nat.lt_log2_self (n:=left+1)
 have hg6:(left+1).log2≤6:=by have:=(Nat.log2_lt (n:=left+1) (k:=7) (by omega)).mpr (by omega);omega
 obtain ⟨hcs,H2⟩:=H.val h0
 have hvl:=(valZ_le l (8*off+bc) (left+1) (by omega)).1
 have hpos:=H2.pos
 have hwd:=wd_lt l off bc
 have hcase:=valZ_wd (l:=l) (off:=off) (bc:=bc) (m:=left+1) hpos (by intro n hn hp;omega) (by omega)
 obtain ⟨v,bc',o,hv⟩:∃v bc' o,valZ l (8*off+bc) (left+1)=(v,8*off+bc',o):=by
  rcases hcase with ⟨_,h⟩|⟨_,o,h⟩
  ·exact ⟨_,_,_,by rw [h,Nat.add_assoc]⟩
  ·exact ⟨_,_,_,by rw [h,Nat.add_assoc]⟩
 have hbc':bc'≤bc+7:=by
  have:=(valZ_le l (8*off+bc) (left+1) (by omega)).2
  rw [hv] at this;simp only at this;omega
 rw [hv] at H2 hvl hpos
 simp only at H2 hvl hpos
 unfold q78_J16
 refine joinP_id ?_
 generalize hg:(left+1).log2=g at *
 have hpg:2^(g+1)=2*2^g:=Nat.pow_succ'
 have hp6:2^g≤2^6:=Nat.pow_le_pow_right (by omega) hg6
 have hp0:=Nat.two_pow_pos g
 have next:q78_J14 ⟨b,0,none⟩ K1 ((l.length:Nat):Int) x9 A10 (((cs.length:Nat):Int),((wd l off bc:Nat):Int),((bc:Nat):Int)) (((bc':Nat):Int),((v:Nat):Int)) w:=by
  unfold q78_J14
  refine joinP_id ?_
  unfold q78_X13
  simp only
  have hv1:IntKind.i32.wrap (((v:Nat):Int)-1)=(v:Int)-1:=wI32 (by omega) (by omega)
  rw [hv1,x6,x8']
  have tail:q78_J12 ⟨b,0,none⟩ K1 ((l.length:Nat):Int) x9 A10 (((cs.length:Nat):Int),((wd l off bc:Nat):Int),((bc:Nat):Int)) (((bc':Nat):Int),((v:Nat):Int)) (((leftZ v left+1:Nat):Int),((2^T-leftZ v left:Nat):Int)) w:=by
   have hlz:leftZ v left≤left:=by unfold leftZ;split<;>omega
   have hz1:v=1→0<leftZ v left:=by intro e;subst e;unfold leftZ;rw [if_neg (by decide)];omega
   generalize leftZ v left=left' at *
   unfold q78_J12
   simp only
   rw [hv1]
   refine cnd_d (fun h=>by omega) fun _ => ?_
   rw [and_u16 cs.length hcs]
   simp only [add_mk,Nat.zero_add]
   refine ixA_o rfl (by omega) ?_
   refine st_u HB (by rw [FS.norm_at _ (by omega)];rfl) rfl ?_
   intro w1 HB1 F1
   rw [FS.setN (by omega),wI16 (by omega) (by omega)] at HB1
   have HB1:Blk w1 b (s.no (updF nf cs.length ((v:Int)-1)) off).at:=HB1
   have hnf1:NfOk (updF nf cs.length ((v:Int)-1)) (cs ++ [(v:Int)-1]):=by
    intro j hj
    simp only [List.length_append,List.length_cons,List.length_nil] at hj
    unfold updF
    by_cases ej:j=cs.length
    ·subst ej;rw [if_pos rfl];simp
    ·rw [if_neg ej,List.getElem_append_left (by omega)];exact hnf j (by omega)
   generalize updF nf cs.length ((v:Int)-1)=nf1 at *
   rw [x4,x7]
   refine joinP_id ?_
   refine ⟨fun x w'=>w'=w1∧∃g',x=(((g'+1:Nat):Int),((2^g':Nat):Int))∧left'+1<2^(g'+1)∧g'≤6,fun x _=>x.2.toNat,⟨rfl,g,rfl,by omega,hg6⟩,?_⟩
   rintro x w2 ⟨rfl,g',rfl,hg1,hg2⟩
   unfold q78_L8
   simp only
   have hp0':=Nat.two_pow_pos g'
   have hp6':2^g'≤2^6:=Nat.pow_le_pow_right (by omega) hg2
   refine cnd_d (fun hc => ?_) fun hc => ?_
   ·have hg0:g'≠0:=by
     intro e;subst e;simp at hc;omega
    have e1:shrI .i32 ((2^g':Nat):Int) 1=((2^(g'-1):Nat):Int):=by
     rw [show shrI .i32 ((2^g':Nat):Int) (1:Int)=_ from shrI_nat .i32 (2^g') 1 (by simp only [IntKind.bits];omega)]
     congr 1
     rw [show (2:Nat)^g'=2^(g'-1)*2^1 by rw [←Nat.pow_add,show g'-1+1=g' by omega],Nat.mul_div_cancel _ (by decide)]
    have e2:(2:Nat)^g'=2*2^(g'-1):=by rw [←Nat.pow_succ',show (g'-1).succ=g' by omega]
    rw [e1,wU64 (by omega) (by omega)]
    refine ⟨by omega,⟨rfl,g'-1,?_,by rw [show g'-1+1=g' by omega];omega,by omega⟩,?_⟩
    ·rw [show ((g'+1:Nat):Int)-1=((g'-1+1:Nat):Int) by omega]
    ·simp only [Int.toNat_natCast]
     have:=Nat.two_pow_pos (g'-1)
     omega
   ·have hlg:(left'+1).log2=g':=log2_of2 (by omega) hg1
    unfold q78_J11
    refine joinP_id ?_
    have e3:shrI .u64 ((bc':Nat):Int) 3=((bc'/8:Nat):Int):=shrI_nat .u64 bc' 3 (by simp only [IntKind.bits];omega)
    have e4:andI .u64 ((bc':Nat):Int) 7=((bc'%8:Nat):Int):=and_u64 bc' 3 (by omega) (by omega)
    have fin:∀w3 off3 bc3,Blk w3 b (s.no nf1 off3).at→8*off3+bc3=8*off+bc'→off3+4≤l.length→(bc3≤7∨l.length≤off3+4)→Fm w2 w3 [b] →
      q78_J9 ⟨b,0,none⟩ A10 (((cs.length:Nat):Int),((wd l off bc:Nat):Int),((bc:Nat):Int)) (((bc':Nat):Int),((v:Nat):Int)) (((left'+1:Nat):Int),((2^T-left':Nat):Int)) (((g'+1:Nat):Int),((2^g':Nat):Int)) ((bc3:Nat):Int) w3:=by
     intro w3 off3 bc3 HB3 hp3 hof3 hZ3 F3
     unfold q78_J9
     simp only [add_mk,Nat.zero_add]
     have F03:Fm w w3 [b]:=F1.trans F3 (fun x hx => .inl hx)
     refine rd_w HB3 (A.fr F03 (by intro a ha h;simpa using hd a ha h)) hl hof3 ?_
     intro w4 F4
     have e5:andI .u64 ((bc3:Nat):Int) 31=((bc3:Nat):Int):=by
      have:=and_u64 bc3 5 (by omega) (by omega)
      rw [show bc3%2^5=bc3 from Nat.mod_eq_of_lt (by omega)] at this
      exact this
     rw [e5,shr_wd,Nat.zero_add,hv1]
     refine ⟨by omega,?_⟩
     have hr:=hk w4 nf1 off3 bc3 left' ((v:Int)-1) (decide (v=1)) (HB3.fr F4 (by simp)) hnf1 (by rw [hp3];exact H2) hof3 hZ3 (by omega) (fun h=>hz1 (of_decide_eq_true h)) (F03.trans F4 (by simp))
     unfold x8 at hr
     rw [hlg] at hr
     have e6:IntKind.u16.wrap (((cs.length:Nat):Int)+1)=(((cs ++ [(v:Int)-1]).length:Nat):Int):=by
      rw [wU16 (by omega) (by omega)];simp
     have e7:decide ((v:Int)-1=0)=decide (v=1):=by
      by_cases h:v=1
      ·rw [decide_eq_true h,decide_eq_true (by omega)]
      ·rw [decide_eq_false h,decide_eq_false (by omega)]
     rw [e6,e7]
     exact hr
    unfold q78_X10
    simp only [add_mk,Nat.zero_add]
    rw [e3,e4]
    refine ld_b (t := .I .i64) (x:=((off:Nat):Int)) HB1 rfl ?_
    rw [wI64 (x:=((l.length:Nat):Int)-7) (by omega) (by omega)]
    have adv:off+bc'/8+4≤l.length→callP Tryd.prog 95 #[.pointer (some ⟨b,512,none⟩),.int .u64 ((bc'/8:Nat):Int)] [] (fun (_:Unit)=>q78_J9 ⟨b,0,none⟩ A10 (((cs.length:Nat):Int),((wd l off bc:Nat):Int),((bc:Nat):Int)) (((bc':Nat):Int),((v:Nat):Int)) (((left'+1:Nat):Int),((2^T-left':Nat):Int)) (((g'+1:Nat):Int),((2^g':Nat):Int)) ((bc'%8:Nat):Int)) w2:=by
     intro ha
     refine c95 HB1 (by omega) ?_
     intro w3 HB3 F3
     exact fin w3 _ _ HB3 (by omega) ha (.inl (by omega)) F3
    refine cnd_d (fun h7=>⟨by omega,adv (by omega)⟩) fun h7 => ?_
    refine ld_b (t := .I .i64) (x:=((off:Nat):Int)) HB1 rfl ⟨by omega,?_⟩
    rw [wI64 (x:=((bc'/8:Nat):Int)) (by omega) (by omega),wI64 (x:=((off:Nat):Int)+_) (by omega) (by omega),wI64 (x:=((l.length:Nat):Int)-4) (by omega) (by omega)]
    refine cnd_d (fun h4=>⟨by omega,adv (by omega)⟩) fun h4 => ?_
    unfold drw
    have hsl:s.br.l=l.length:=A.len
    refine ld_b (t := .S) (x:=s.br) HB1.drew rfl ?_
    refine ld_b (t := .I .i64) (x:=((off:Nat):Int)) HB1.drew rfl ?_
    refine ld_b (t := .S) (x:=s.br) HB1.drew rfl ?_
    refine st_u HB1.drew rfl rfl ?_
    intro w3 HB3 F3
    have eo:IntKind.i64.wrap ((s.br.l:Int)-4)=((l.length-4:Nat):Int):=by rw [hsl,wI64 (by omega) (by omega)];omega
    rw [eo] at HB3 ⊢
    have HB3':Blk w3 b (s.no nf1 (l.length-4)).at:=HB3.congr (FS.setT 1 rfl rfl rfl (by decide))
    have eb:IntKind.u64.wrap (((bc':Nat):Int)-IntKind.u64.wrap (IntKind.i64.wrap (8*IntKind.i64.wrap (((l.length-4:Nat):Int)-((off:Nat):Int)))))=((bc'-8*(l.length-4-off):Nat):Int):=by
     rw [wI64 (x:=((l.length-4:Nat):Int)-_) (by omega) (by omega),wI64 (by omega) (by omega),wU64 (x:=8*_) (by omega) (by omega),wU64 (by omega) (by omega)];omega
    rw [eb]
    exact fin w3 _ _ HB3' (by omega) (by omega) (.inr (by omega)) ((Fm.refl w2 [b]).drew.trans F3 (fun x hx => .inl hx))
  refine cnd_d (fun hc => ?_) fun hc => ?_
  ·have hv0:v=0:=by omega
   subst hv0
   have e1:leftZ 0 left=left-1:=rfl
   rw [e1] at tail
   rw [wI32 (by omega) (by omega),wI32 (by omega) (by omega)]
   rw [show ((left+1:Nat):Int)+(((0:Nat):Int)-1)=((left-1+1:Nat):Int) by omega,show ((2^T-left:Nat):Int)-(((0:Nat):Int)-1)=((2^T-(left-1):Nat):Int) by omega]
   exact tail
  ·have hv0:v≠0:=by omega
   have e1:leftZ v left=left-(v-1):=by unfold leftZ;rw [if_neg hv0]
   rw [e1] at tail
   rw [wI32 (by omega) (by omega),wI32 (by omega) (by omega)]
   rw [show ((left+1:Nat):Int)-(((v:Nat):Int)-1)=((left-(v-1)+1:Nat):Int) by omega,show ((2^T-left:Nat):Int)+(((v:Nat):Int)-1)=((2^T-(left-(v-1)):Nat):Int) by omega]
   exact tail
 unfold q78_X15
 simp only
 rw [x4,x6,x7]
 have w1:IntKind.i32.wrap (((2^g:Nat):Int)-1)=((2^g-1:Nat):Int):=by rw [wI32 (by omega) (by omega)];omega
 have w2:IntKind.i32.wrap (2*((2^g:Nat):Int))=2*((2^g:Nat):Int):=wI32 (by omega) (by omega)
 have w3:IntKind.i32.wrap (2*((2^g:Nat):Int)-1)=((2^(g+1)-1:Nat):Int):=by rw [wI32 (by omega) (by omega)];omega
 have w4:IntKind.i32.wrap (((2^(g+1)-1:Nat):Int)-((left+1:Nat):Int))=((2*2^g-1-(left+1):Nat):Int):=by rw [wI32 (by omega) (by omega)];omega
 rw [w1,and32 _ g hwd (by omega),w2,w3,w4]
 rcases hcase with ⟨hc,he⟩|⟨hc,o',he⟩
 ·refine cnd_d (fun _ => ?_) fun h=>by omega
  rw [he] at hv
  injection hv with hv1 hv2
  injection hv2 with hv2 hv3
  have e1:IntKind.u64.wrap (((bc:Nat):Int)+IntKind.u64.wrap (((g+1:Nat):Int)-1))=((bc':Nat):Int):=by
   rw [wU64 (x:=((g+1:Nat):Int)-1) (by omega) (by omega),wU64 (by omega) (by omega)];omega
  rw [e1,hv1]
  exact next
 ·refine cnd_d (fun h=>by omega) fun _ => ?_
  rw [he] at hv
  injection hv with hv1 hv2
  injection hv2 with hv2 hv3
  refine joinP_id ?_
  unfold q78_X7 q78_J6
  simp only
  rw [x4,x6,x7,w2,w3,w4,and32 _ (g+1) hwd (by omega),hpg]
  have e1:IntKind.u64.wrap (((bc:Nat):Int)+((g+1:Nat):Int))=((bc':Nat):Int):=by rw [wU64 (by omega) (by omega)];omega
  rw [e1]
  have hm:wd l off bc%(2*2^g)<2*2^g:=Nat.mod_lt _ (by omega)
  refine cnd_d (fun h => ?_) fun h => ?_
  ·rw [if_pos (by omega)] at hv1
   rw [wI32 (by omega) (by omega)]
   rw [show ((wd l off bc%(2*2^g):Nat):Int)-((2*2^g-1-(left+1):Nat):Int)=((v:Nat):Int) by omega]
   exact next
  ·rw [if_neg (by omega)] at hv1
   rw [hv1]
   exact next
end
theorem fseRead_ph {l:List Nat} {cs:List Int} {T:Nat} {rest:List Nat} (h:fseRead l=some (cs,T,rest)) :
  ∃E:HS,T=leN l%16+5∧E.cs=cs∧cs.length≤256∧rest=l.drop ((E.pos+7)/8)∧PH l false 4 [] (2^T) E:=by
 unfold fseRead at h
 split at h
 ·cases h
 ·rename_i h15
  have e0:tkZ l 0 4=leN l%16:=by unfold tkZ;rw [Nat.pow_zero,Nat.div_one]
  split at h
  ·cases h
  ·rename_i s left hr
   split at h
   ·rename_i hc
    injection h with h
    injection h with h1 h2
    injection h2 with h2 h3
    obtain ⟨c1,c2,c3⟩:=hc
    subst c2
    have ho:=(readZ_mono _ _ _ _ _ hr).2.1 c1
    simp only at ho
    rw [ho] at hr
    rw [←h2, ←h1, ←h3,e0]
    refine ⟨s,rfl,rfl,c3,rfl,?_,c1⟩
    rw [if_neg (by decide), ←e0]
    exact hr
   ·cases h
theorem PH.first {l:List Nat} {T:Nat} {E:HS} (H:PH l false 4 [] (2^T) E) (hT:LogOK T):9≤E.pos:=by
 have hp:=hT.pow
 obtain ⟨_,h⟩:=H.val (by omega)
 have h2:=h.pos
 have h3:4+(2^T+1).log2≤(valZ l 4 (2^T+1)).2.1:=by
  unfold valZ
  simp only [Nat.add_sub_cancel]
  split<;>simp only<;>omega
 have h4:(2^T+1).log2=T:=log2_of (Nat.le_succ _) (by rw [Nat.pow_succ];omega)
 rcases hT with rfl|rfl<;>omega
section
variable {w:World} {b:Nat} {s:FS} {l:List Nat}
theorem c78 {K1:Value→PT} {cs:List Int} {T:Nat} {rest:List Nat} (HB:Blk w b s.at) (hoff:s.brOff=0) (A:Arr .u8 w s.br l) (hl:By l) (hd:∀a,s.br.a=some a→l ≠ []→a.block≠b) (hlen:l.length<2^20)
  (hr:fseRead l=some (cs,T,rest)) (hT:LogOK T) (h2:2≤cs.length) (hrest:2≤rest.length)
  (hk:∀w' nf p,NfOk nf cs→rest=l.drop p→p≤l.length→Blk w' b ({ s with atl:=(T:Nat),norm:=nf,symL:=(cs.length:Nat),brOff:=(p:Nat) } : FS).at→Fm w w' [b]→K1 .nilIface w') :
  callP Tryd.prog 78 #[.pointer (some ⟨b,0,none⟩)] [.c .V] K1 w:=by
 obtain ⟨E,hTT,hEc,hc256,hre,HP⟩:=fseRead_ph hr
 have h9:=HP.first hT
 have hTp:=hT.pow
 have hEl:(E.pos+7)/8+2≤l.length:=by rw [hre,List.length_drop] at hrest;omega
 have hE:E.pos+16≤8*l.length:=by omega
 have hsl:s.br.l=l.length:=A.len
 have hT6:T≤6:=by rcases hT with h|h<;>omega
 apply q78_ok
 unfold q78
 simp only [add_mk,Nat.zero_add]
 refine ld2_b (t := .S) (u := .I .i64) (x:=s.br) (y:=((0:Nat):Int)) HB rfl (by show some (Value.int .i64 s.brOff)=_;rw [hoff];rfl) ?_
 refine c93 (s:=s.br) (n:=0) (by omega) (by omega) ?_
 intro w1 F1
 rw [Nat.sub_zero,hsl]
 refine cnd_d (fun h=>by omega) fun _ => ?_
 have hs0:s.no s.norm 0=s:=by
  obtain ⟨⟩:=s
  simp only at hoff
  subst hoff
  rfl
 have HB1:Blk w1 b (s.no s.norm 0).at:=(HB.fr F1 (by simp)).congr (by rw [hs0])
 refine rd_w HB1 (A.fr F1 (by simp)) hl (by omega) ?_
 intro w2 F2
 have HB2:=HB1.fr F2 (by simp)
 have F02:Fm w w2 []:=F1.trans F2 (by simp)
 have e15:andI .u32 ((wd l 0 0:Nat):Int) 15=((wd l 0 0%16:Nat):Int):=and_wd l 0 0 4 (by omega)
 have e16:wd l 0 0%16=leN l%16:=by
  have:=wd_mod l (off:=0) (bc:=0) (n:=4) (by omega)
  rw [this];unfold tkZ;simp
 have eT:IntKind.u64.wrap (IntKind.u32.wrap (((wd l 0 0%16:Nat):Int)+5))=((T:Nat):Int):=by
  rw [wU32 (by omega) (by omega),wU64 (by omega) (by omega)];omega
 rw [e15,eT]
 refine cnd_d (fun h=>by omega) fun _=>⟨by omega,?_⟩
 refine st_u HB2 rfl rfl ?_
 intro w3 HB3 F3
 rw [wU8 (x:=((T:Nat):Int)) (by omega) (by omega)] at HB3
 have HB3:Blk w3 b (({ s with atl:=((T:Nat):Int) } : FS).no s.norm 0).at:=HB3.congr (FS.setT 17 rfl rfl rfl (by decide))
 have F03:Fm w w3 [b]:=(F02.mono (S' := [b]) (by simp)).trans F3 (fun x hx => .inl hx)
 refine ⟨by omega,by omega,?_⟩
 generalize hs1:({ s with atl:=((T:Nat):Int) } : FS)=s1 at *
 have hbr:s1.br=s.br:=by rw [←hs1]
 have A3:Arr .u8 w3 s1.br l:=by rw [hbr];exact A.fr F03 (by intro a ha h;simpa using hd a ha h)
 have hd1:∀a,s1.br.a=some a→l ≠ []→a.block≠b:=by rw [hbr];exact hd
 refine joinP_id ?_
 unfold q78_X19
 rw [e15,eT]
 have i1:shrI .u32 ((wd l 0 0:Nat):Int) 4=((wd l 0 4:Nat):Int):=by rw [show shrI .u32 ((wd l 0 0:Nat):Int) (4:Int)=_ from shr_wd l 0 0 4,Nat.zero_add]
 have i2:shlI .i32 1 ((T:Nat):Int)=((2^T:Nat):Int):=by rcases hT with rfl|rfl<;>rfl
 have i3:IntKind.u64.wrap (((T:Nat):Int)+1)=((T+1:Nat):Int):=by rw [wU64 (by omega) (by omega)];omega
 have i4:IntKind.i32.wrap (((2^T:Nat):Int)+1)=((2^T+1:Nat):Int):=by rw [wI32 (by omega) (by omega)];omega
 have hlgT:(2^T+1).log2=T:=log2_of (Nat.le_succ _) (by rw [Nat.pow_succ];omega)
 rw [i1,i2,i3,i4]
 refine ⟨fun x w'=>∃nf off bc left cs' z,x=x8 l T cs' z off bc left∧Blk w' b (s1.no nf off).at∧NfOk nf cs'∧PH l z (8*off+bc) cs' left E∧off+4≤l.length∧(bc≤7∨l.length≤off+4)∧left≤2^T∧(z=true→0<left)∧Fm w w' [b],
  fun x _=>300-x.1.toNat,⟨s.norm,0,4,2^T,[],false,?_,HB3,(by intro j hj;simp at hj),by simpa using HP,by omega,.inl (by omega),Nat.le_refl _,(by intro h;cases h),F03⟩,?_⟩
 ·unfold x8
  rw [hlgT,Nat.sub_self]
  rfl
 rintro x w4 ⟨nf,off,bc,left,cs',z,rfl,HB4,hnf,H4,hof,hZ,hle,hzz,F4⟩
 have A4:Arr .u8 w4 s1.br l:=by rw [hbr];exact A.fr F4 (by intro a ha h;simpa using hd a ha h)
 unfold q78_L17
 refine cnd_d (fun hc => ?_) fun hc => ?_
 ·have h0:0<left:=by simp only [x8] at hc;omega
  have hcl:=H4.len h0
  refine joinP_id ?_
  have val:∀w5 nf5 off5 bc5 cs5,Blk w5 b (s1.no nf5 off5).at→NfOk nf5 cs5→cs'.length≤cs5.length→PH l false (8*off5+bc5) cs5 left E→off5+4≤l.length→(bc5≤7∨l.length≤off5+6)→Fm w w5 [b] →
    q78_J16 ⟨b,0,none⟩ K1 ((l.length:Nat):Int) (x8 l T cs' z off bc left) (fun x w'=>(∃nf off bc left cs' z,x=x8 l T cs' z off bc left∧Blk w' b (s1.no nf off).at∧NfOk nf cs'∧PH l z (8*off+bc) cs' left E∧off+4≤l.length∧(bc≤7∨l.length≤off+4)∧left≤2^T∧(z=true→0<left)∧Fm w w' [b])∧300-x.1.toNat<300-(x8 l T cs' z off bc left).1.toNat) (((cs5.length:Nat):Int),((wd l off5 bc5:Nat):Int),((bc5:Nat):Int)) w5:=by
   intro w5 nf5 off5 bc5 cs5 HB5 hnf5 hcs5 H5 hof5 hZ5 F5
   have A5:Arr .u8 w5 s1.br l:=by rw [hbr];exact A.fr F5 (by intro a ha h;simpa using hd a ha h)
   refine rn_val hT6 hle rfl rfl rfl rfl HB5 A5 hl hd1 hlen hE h0 H5 hof5 hZ5 hnf5 ?_
   intro w6 nf6 off6 bc6 left6 v z6 HB6 hnf6 H6 hof6 hZ6 hle6 hzz6 F6
   refine ⟨⟨nf6,off6,bc6,left6,_,z6,rfl,HB6,hnf6,H6,hof6,hZ6,hle6,hzz6,F5.trans F6 (fun x hx => .inl hx)⟩,?_⟩
   have:=H5.len h0
   simp only [x8,Int.toNat_natCast,List.length_append,List.length_cons,List.length_nil]
   omega
  refine ⟨fun hzt => ?_,fun hzf => ?_⟩
  ·have hzt:z=true:=hzt
   subst hzt
   refine rn_zero rfl rfl rfl HB4 A4 hl hd1 hlen hE h0 H4 hof (by omega) hnf ?_
   intro w5 nf5 off5 bc5 cs5 HB5 hnf5 hcs5 H5 hof5 hZ5 F5
   exact val w5 nf5 off5 bc5 cs5 HB5 hnf5 hcs5 H5 hof5 hZ5 (F4.trans F5 (fun x hx => .inl hx))
  ·have hzf:z=false:=hzf
   subst hzf
   exact val w4 nf off bc cs' HB4 hnf (Nat.le_refl _) H4 hof (by omega) F4
 ·have h0:left=0:=by simp only [x8] at hc;omega
  subst h0
  have hz:z=false:=by
   cases z with
   | false=>rfl
   | true=>exact absurd (hzz rfl) (by omega)
  subst hz
  have hE0:E=⟨8*off+bc,true,cs'⟩:=by
   have h1:=H4.rd
   rw [if_neg (by decide),readZ,if_neg (by omega)] at h1
   injection h1 with h1
   injection h1 with h1 _
   exact h1.symm
  have hcs:cs'=cs:=by rw [←hEc,hE0]
  have hEp:E.pos=8*off+bc:=by rw [hE0]
  subst hcs
  have hlg:(0+1).log2=0:=by decide
  unfold q78_J18
  simp only [x8,add_mk,Nat.zero_add]
  refine st_u HB4 rfl rfl ?_
  intro w5 HB5 F5
  have HB5:Blk w5 b (({ s1 with symL:=((cs'.length:Nat):Int) } : FS).no nf off).at:=HB5.congr (FS.setT 16 rfl rfl rfl (by decide))
  refine ld_b (t := .I .u16) (x:=((cs'.length:Nat):Int)) HB5 rfl (cnd_d (fun h=>by omega) fun _ => ?_)
  refine ld_b (t := .I .u16) (x:=((cs'.length:Nat):Int)) HB5 rfl (cnd_d (fun h=>by omega) fun _ => ?_)
  refine cnd_nd (fun h=>absurd rfl h) (fun _ => ?_)
  refine cnd_d (fun h=>by omega) fun _ => ?_
  refine ld_b (t := .I .u8) (x:=((T:Nat):Int)) HB5 (by subst hs1;rfl) ⟨by omega,?_⟩
  rw [i2,Nat.sub_zero]
  refine cnd_nd (fun h=>absurd rfl h) (fun _=>⟨by omega,?_⟩)
  rw [show shrI .u64 (IntKind.u64.wrap (((bc:Nat):Int)+7)) (3:Int)=(((bc+7)/8:Nat):Int) by
   rw [wU64 (by omega) (by omega),show ((bc:Nat):Int)+7=((bc+7:Nat):Int) by omega]
   exact shrI_nat .u64 (bc+7) 3 (by simp only [IntKind.bits];omega)]
  refine c95 HB5 (by omega) ?_
  intro w6 HB6 F6
  refine hk w6 nf (off+(bc+7)/8) hnf ?_ (by omega) ?_ ((F4.trans F5 (fun x hx => .inl hx)).trans F6 (fun x hx => .inl hx))
  ·rw [hre,hEp,show (8*off+bc+7)/8=off+(bc+7)/8 by omega]
  ·subst hs1;exact HB6
end
theorem c77f {w:World} {b:Nat} {s:FS} {x:Sl} {K:Option Addr×Value→PT} (HB:Blk w b s.at) (h1:s.msv=0) (h2:s.tl=0) (h3:s.cc=false) (h4:s.lim=255) (h5:s.out.c≠0)
  (hk:∀w',Blk w' b ({ s with msv:=255,tl:=11,br:=x,brOff:=0 } : FS).at→Fm w w' [b]→K (some ⟨b,0,none⟩,.nilIface) w') :
  callP Tryd.prog 77 #[.pointer (some ⟨b,0,none⟩),.slice x.a x.l x.c] [.c .P,.c .V] K w:=by
 apply q77_ok
 unfold q77
 refine joinP_id ⟨by simp,fun _ => ?_⟩
 unfold q77_J7
 simp only [add_mk,Nat.zero_add]
 refine joinP_id (ld_b (t := .I .u8) (x:=s.msv) HB rfl (cnd_d (fun _ => ?_) fun h=>absurd h1 h))
 refine st_u HB rfl rfl ?_
 intro w1 B1 F1
 have B1:Blk w1 b ({ s with msv:=255 } : FS).at:=B1.congr (FS.setT 20 rfl rfl rfl (by decide))
 unfold q77_J6
 simp only [add_mk,Nat.zero_add]
 refine joinP_id (ld_b (t := .I .u8) (x:=s.tl) B1 rfl (cnd_d (fun _ => ?_) fun h=>absurd h2 h))
 refine st_u B1 rfl rfl ?_
 intro w2 B2 F2
 have B2:Blk w2 b ({ s with msv:=255,tl:=11 } : FS).at:=B2.congr (FS.setT 21 rfl rfl rfl (by decide))
 unfold q77_J5
 simp only [add_mk,Nat.zero_add]
 refine ld_b (t := .I .u8) (x:=11) B2 rfl (cnd_d (fun h=>absurd h (by decide)) fun _ => ?_)
 refine joinP_id (ld_b (t := .S) (x:=s.out) B2 rfl (cnd_d (fun h=>absurd h (by omega)) fun _ => ?_))
 unfold q77_J4
 simp only [add_mk,Nat.zero_add]
 refine joinP_id (ld_b (t := .B) (x:=s.cc) B2 rfl ?_)
 rw [h3]
 refine ⟨(fun h=>by cases h),fun _ => ?_⟩
 unfold q77_J3
 simp only [add_mk,Nat.zero_add]
 refine c92 B2 ?_
 intro w3 B3 F3
 refine joinP_id (ld_b (t := .I .i64) (x:=s.lim) B3 rfl (cnd_d (fun h=>by rw [h4] at h;exact absurd h (by decide)) fun _ => ?_))
 exact hk w3 B3 ((F1.trans F2 (fun x hx => .inl hx)).trans F3 (fun x hx => .inl hx))
theorem cntZ_full {f:Nat→Int} {s:Int} : ∀n,cntZ f s n=n→∀p,p<n→f p=s
 | 0,_,p,hp=>by omega
 | n+1,h,p,hp=>by
  rw [cntZ] at h
  have hl:=cntZ_le f s n
  by_cases hn:f n=s
  ·rw [if_pos hn] at h
   by_cases e:p=n
   ·subst e;exact hn
   ·exact cntZ_full n (by omega) p (by omega)
  ·rw [if_neg hn] at h;omega
structure WT2 (rest:List Nat) (tab:List Cell3) (T left:Nat) (R:List Nat):Prop where
 bk:backZ rest=some left
 ge:2*T≤left
 tw:TW rest tab 255 (left-T-T) (tkB rest T left) (tkB rest T ((left:Int)-T)) [] R
theorem shares_lt {T:Nat} (hT:LogOK T) {cs:List Int} {tab:List Cell3} {a:Nat} (hr:∀c∈cs, -1≤c) (h:statesZ cs T=some tab) (ha:a<tab.length) (hb:0<tab[a].2.1):(∀c∈cs,c<((2^T:Nat):Int))∧2≤cs.length:=by
 have hTp:=hT.pow
 obtain ⟨f,hs,hsp,hf0,rfl⟩:=statesZ_f hT hr h
 simp only [List.length_map,List.length_range] at ha
 simp only [List.getElem_map,List.getElem_range] at hb
 have hlt:∀c∈cs,c<((2^T:Nat):Int):=by
  intro c hc
  obtain ⟨i,hi,rfl⟩:=List.getElem_of_mem hc
  by_cases h1:cs[i]<((2^T:Nat):Int)
  ·exact h1
  ·exfalso
   have h2:=absZ_le_sum hi
   have h3:absZ cs[i]=2^T:=by
    unfold absZ at h2 ⊢
    rw [if_neg (by omega)] at h2 ⊢
    omega
   have h4:=spread_count (by omega) hr hs hsp i
   rw [getD_Z hi,h3] at h4
   have h5:=cntZ_full _ h4 a ha
   unfold cellZ at hb
   simp only at hb
   have h6:kZ cs f a=2^T+cntZ f i a:=by unfold kZ;rw [h5,Int.toNat_natCast,getD_Z hi,h3]
   have h7:T≤(kZ cs f a).log2:=(Nat.le_log2 (by omega)).mpr (by omega)
   omega
 refine ⟨hlt,?_⟩
 rcases cs with _|⟨c,_|⟨d,r⟩⟩
 ·exfalso;simp [sumZ] at hs;omega
 ·exfalso
  have h1:=hlt c (by simp)
  simp only [sumZ,List.map_cons,List.map_nil,List.sum_cons,List.sum_nil,Nat.add_zero] at hs
  unfold absZ at hs
  split at hs<;>omega
 ·simp
theorem c63 {w:World} {b g o:Nat} {G:Cells} {s:FS} {x:Sl} {l:List Nat} {cs:List Int} {T left:Nat} {rest:List Nat} {tab:List Cell3} {R:List Nat} {K:Sl×Value→PT} (HB:Blk w b s.at) (h1:s.msv=0) (h2:s.tl=0) (h3:s.cc=false) (h4:s.lim=255) (h5:s.out=oS g o 256) (h6:s.dt.c=0) (h7:s.ts.c=0) (h8:s.st.c=0)
  (A:Arr .u8 w x l) (hl:By l) (hlen:l.length<2^20) (HO:OA w g o G []) (dgb:g≠b) (hd:∀a,x.a=some a→l ≠ []→a.block≠b∧a.block≠g)
  (hr:fseRead l=some (cs,T,rest)) (hcb:∀c∈cs, -1≤c∧c≤32768) (hc256:cs.length≤256) (hT:LogOK T) (hst:statesZ cs T=some tab) (hw:WT2 rest tab T left R)
  (hk:∀(w':World) (s':FS) (ts sb:Nat),w.heap.size≤ts→w.heap.size≤sb→ts≠sb→s'.ts=⟨some ⟨ts,0,none⟩,256,256⟩→s'.st=⟨some ⟨sb,0,none⟩,256,256⟩→s'.tt=s.tt→s'.out=oS g o R.length→Own 1 w' s'.ts→Own 1 w' s'.st→Blk w' b s'.at→OA w' g o G R→Fm w w' [b,g]→K (oS g o R.length,.nilIface) w') :
  callP Tryd.prog 63 #[.slice x.a x.l x.c,.pointer (some ⟨b,0,none⟩)] [.c .S,.c .V] K w:=by
 have hTp:=hT.pow
 obtain ⟨hlt,hcs2⟩:=shares_lt hT (fun c hc=>(hcb c hc).1) hst hw.tw.wh.lt.1 (hw.tw.wh.pos hw.tw.wh.lt.1)
 obtain ⟨tl1,tl2⟩:=statesZ_bnd hcb hc256 hT hst
 obtain ⟨f,hsum,_⟩:=statesZ_f hT (fun c hc=>(hcb c hc).1) hst
 have hbr:By rest:=by
  obtain ⟨E,_,_,_,hre,_⟩:=fseRead_ph hr
  rw [hre]
  exact fun x hx=>hl x (List.mem_of_mem_drop hx)
 have hrl:2≤rest.length:=by
  have:=backZ_lt hbr hw.bk
  have:=hw.ge
  omega
 apply q63_ok
 unfold q63
 refine c77f HB h1 h2 h3 h4 (by rw [h5];exact (by decide:(256:Nat)≠0)) ?_
 intro w1 B1 F1
 refine ⟨rfl,nil_cnd ⟨_,rfl,?_⟩⟩
 simp only [add_mk,Nat.zero_add]
 refine ld_b (t := .S) (x:=oS g o 256) B1 (by show some s.out.val=_;rw [h5];rfl) ?_
 refine slc_hi (m:=0) rfl (Nat.zero_le _) ⟨_,rfl,?_⟩
 simp only [add_mk,Nat.zero_add]
 refine st_u B1 rfl rfl ?_
 intro w2 B2 F2
 have B2:Blk w2 b ({ s with msv:=255,tl:=11,br:=x,brOff:=0,out:=oS g o 0 } : FS).at:=B2.congr (FS.setT 14 rfl rfl rfl (by decide))
 have F02:Fm w w2 [b]:=F1.trans F2 (fun x hx => .inl hx)
 refine c78 B2 rfl (A.fr F02 (by intro a ha h;simpa using (hd a ha h).1)) hl (fun a ha h=>(hd a ha h).1) hlen hr hT hcs2 hrl ?_
 intro w3 nf p hnf hre hp B3 F3
 have F03:Fm w w3 [b]:=F02.trans F3 (fun x hx => .inl hx)
 refine ⟨rfl,nil_cnd ?_⟩
 refine c79 (T:=T) (L:=cs.length) (cs:=cs) (tab:=tab) ⟨hT,rfl,rfl,rfl,hc256,fun i h=>hnf i h,fun c hc=>(hcb c hc).1,hlt,hsum⟩ B3 hst h6 h7 h8 ?_
 intro w4 tb ts sb z G4 htb hts hsb n1 n2 n3 HT HTs HS hG B4 F4
 have F04:Fm w w4 [b]:=F03.trans F4 (fun x hx => .inl hx)
 refine ⟨rfl,nil_cnd ?_⟩
 have hs3:=F03.size
 have hbl:=HB.lt
 have hgl:g<w.heap.size:=by obtain ⟨_,h,_⟩:=HO;exact h.lt
 have hil:∀a,x.a=some a→l ≠ []→a.block≠b∧a.block≠g∧a.block≠ts:=by
  intro a ha h
  have:=A.old h a ha
  exact ⟨(hd a ha h).1,(hd a ha h).2,by omega⟩
 have tB:TabB tab:=⟨by omega,fun i h=>(tl2 _ (List.getElem_mem h)).1,fun i h=>(tl2 _ (List.getElem_mem h)).2.1⟩
 obtain ⟨F4c,HTs1,_,HTs2⟩:=HTs
 generalize hS4:(({ ({ s with msv:=255,tl:=11,br:=x,brOff:=((p:Nat):Int),out:=oS g o 0,atl:=((T:Nat):Int),norm:=nf,symL:=((cs.length:Nat):Int) } : FS).tb3 (2^T) tb ts sb with zb:=z } : FS))=s4 at *
 have B4':Blk w4 b (s4.wo g o 0).at:=B4.congr (by subst hS4;rfl)
 refine c80 (s:=s4) (l:=l) (p:=p) (T:=T) (tab:=tab) (R:=R) (G:=G) (tb:=tb) (ts:=ts) (cc:=256) B4' (by subst hS4;exact A.fr F04 (by intro a ha h;simpa using (hd a ha h).1)) hl hlen (by subst hS4;rfl) hp (by subst hS4;rfl) (by omega) (by subst hS4;exact HT) tB (by subst hS4;rfl) (Nat.le_refl _)
  ⟨F4c,HTs1,by simp,HTs2⟩ (HO.fr F04 (by simpa using dgb)) (by subst hS4;exact h4) left (by rw [←hre];exact hw.bk) hw.ge (by rw [←hre];exact hw.tw) dgb (by omega) (by omega) (by omega) n1.symm (by omega) (by subst hS4;exact hil) ?_
 intro w5 o5 v5 r5 B5 HO5 HT5 F5
 refine ⟨rfl,nil_cnd ⟨_,rfl,?_⟩⟩
 simp only [add_mk,Nat.zero_add]
 refine ld_b (t := .S) (x:=oS g o R.length) B5 rfl ?_
 have F05:Fm w w5 [b,g]:=(F04.mono (S' := [b,g]) (by intro v hv;left;simp at hv;simp [hv])).trans F5 (by intro v hv;simp at hv;rcases hv with rfl|rfl|rfl;exact .inl (by simp);exact .inl (by simp);right;omega)
 have HS5:=HS.fr F5 (by simp;exact ⟨by omega,by omega,fun e=>n3 e.symm⟩)
 have ets:((s4.wo g o R.length).br4 ⟨none,0,0⟩ o5 v5 r5).ts=⟨some ⟨ts,0,none⟩,256,256⟩:=by subst hS4;rfl
 have est:((s4.wo g o R.length).br4 ⟨none,0,0⟩ o5 v5 r5).st=⟨some ⟨sb,0,none⟩,256,256⟩:=by subst hS4;rfl
 refine hk w5 _ ts sb (by omega) (by omega) n3 ets est (by subst hS4;rfl) rfl ?_ ?_ B5 HO5 F05
 ·rw [ets]
  obtain ⟨F5c,HT5b,_,HT5s⟩:=HT5
  exact Own.of HT5b (by intro i hi;exact HT5s i (by omega)) (Nat.le_refl _)
 ·rw [est]
  exact Own.of HS5 (by intro i hi;exact hG i (by omega)) (Nat.le_refl _)
theorem nwA_w {cs:Array Value} {T:TypeId} {κ:Addr→PT} {w:World} (hk:∀p w',Fm w w' []→Blk w' p (fun i=>cs[i]?)→w.heap.size≤p→κ ⟨p,0,none⟩ w'):nwA cs T κ w :=
 hk _ _ (Fm.refl w []).alloc Blk.new (Nat.le_refl _)
theorem nz_s {p:Addr} {κ:Addr→PT} {w:World} (h:κ p w):nz (some p) κ w:=⟨p,rfl,h⟩
theorem mks_w {zs:List Value} {T:TypeId} {by_ l c:Nat} {li ci:Int} {κ:Sl→PT} {w:World} (hl:li=(l:Nat)) (hc:ci=(c:Nat)) (hlc:l≤c) (hb:c*by_≤2^47)
  (hk:∀p w',Fm w w' []→Blk w' p (fun i=>(zrep zs c)[i]?)→w.heap.size≤p→κ ⟨some ⟨p,0,none⟩,l,c⟩ w'):mks zs T by_ li ci κ w :=
 ⟨l,c,hl,hc,hlc,hb,hk _ _ (Fm.refl w []).alloc Blk.new (Nat.le_refl _)⟩
def HU.fresh (ob nb fb:Nat):HU := { HU.zero with maxDec:=262143,msv:=255,tl:=11,out:=⟨some ⟨ob,0,none⟩,0,0⟩,nodes:=⟨some ⟨nb,0,none⟩,0,513⟩,fse:=some ⟨fb,0,none⟩ }
theorem c61n {w:World} {K:Option Addr×Value→PT}
  (hk:∀w' g ob nb fb Fo Fnd,Fm w w' []→w.heap.size≤g→g<ob→ob<nb→nb<fb→Blk w' g (HU.fresh ob nb fb).at→Blk w' ob Fo→Blk w' nb Fnd→Blk w' fb FS.zero.at→K (some ⟨g,0,none⟩,.nilIface) w') :
  callP Tryd.prog 61 #[.pointer none,.slice none 0 0] [.c .P,.c .V] K w:=by
 refine q61n_ok ⟨none,0,0⟩ K ?_
 unfold q61n
 refine cnd_d (fun h=>absurd h (by decide)) fun _ => ?_
 refine joinP_id ⟨fun _ => ?_,fun h=>by simp at h⟩
 refine nwA_w ?_
 intro g w1 F1 B1 hg
 rw [HU.atZ] at B1
 unfold q61n_J10
 refine joinP_id (nz_s ?_)
 simp only [add_mk,Nat.zero_add]
 refine ld_b (t := .I .u8) (x:=0) B1 rfl (cnd_d (fun _=>nz_s ?_) fun h=>absurd rfl h)
 simp only [add_mk,Nat.zero_add]
 refine st_u B1 rfl rfl ?_
 intro w2 B2 F2
 have B2:Blk w2 g ({ HU.zero with msv:=255 } : HU).at:=B2.congr (HU.setT 5 rfl rfl rfl (by decide))
 unfold q61n_J9
 refine joinP_id (nz_s ?_)
 simp only [add_mk,Nat.zero_add]
 refine ld_b (t := .I .u8) (x:=0) B2 rfl (cnd_d (fun _=>nz_s ?_) fun h=>absurd rfl h)
 simp only [add_mk,Nat.zero_add]
 refine st_u B2 rfl rfl ?_
 intro w3 B3 F3
 have B3:Blk w3 g ({ HU.zero with msv:=255,tl:=11 } : HU).at:=B3.congr (HU.setT 6 rfl rfl rfl (by decide))
 unfold q61n_J8
 refine nz_s ?_
 simp only [add_mk,Nat.zero_add]
 refine ld_b (t := .I .u8) (x:=11) B3 rfl (cnd_d (fun h=>absurd h (by decide)) fun _=>nz_s ?_)
 simp only [add_mk,Nat.zero_add]
 refine ld_b (t := .I .u8) (x:=11) B3 rfl (cnd_d (fun h=>absurd h (by decide)) fun _ => ?_)
 refine joinP_id ?_
 unfold q61n_X7
 refine nz_s ?_
 simp only [add_mk,Nat.zero_add]
 refine ld_b (t := .I .i64) (x:=0) B3 rfl (cnd_d (fun _=>nz_s ?_) fun h=>absurd (by decide) h)
 simp only [add_mk,Nat.zero_add]
 refine st_u B3 rfl rfl ?_
 intro w4 B4 F4
 have B4:Blk w4 g ({ HU.zero with msv:=255,tl:=11,maxDec:=262143 } : HU).at:=B4.congr (HU.setT 3 rfl rfl rfl (by decide))
 unfold q61n_J6
 refine joinP_id (nz_s ?_)
 simp only [add_mk,Nat.zero_add]
 refine ld_b (t := .B) (x:=false) B4 rfl ⟨(fun h=>by cases h),fun _ => ?_⟩
 unfold q61n_J5
 refine joinP_id (nz_s ?_)
 simp only [add_mk,Nat.zero_add]
 refine ld_b (t := .S) (x:=⟨none,0,0⟩) B4 rfl (cnd_d (fun _ => ?_) fun h=>absurd rfl h)
 refine mks_w (l:=0) (c:=0) rfl rfl (Nat.le_refl _) (by decide) ?_
 intro ob w5 F5 O5 hob
 refine nz_s ?_
 simp only [add_mk,Nat.zero_add]
 have hgl4:=B4.lt
 have ngo:g≠ob:=by omega
 refine st_u (B4.fr F5 (by simp)) rfl rfl ?_
 intro w6 B6 F6
 have B6:Blk w6 g ({ HU.zero with msv:=255,tl:=11,maxDec:=262143,out:=⟨some ⟨ob,0,none⟩,0,0⟩ } : HU).at:=B6.congr (HU.setT 0 rfl rfl rfl (by decide))
 have O6:=O5.fr F6 (nm1 ngo.symm)
 unfold q61n_J4
 refine nz_s ?_
 simp only [add_mk,Nat.zero_add]
 refine ld_b (t := .S) (x:=⟨some ⟨ob,0,none⟩,0,0⟩) B6 rfl ?_
 refine slc_hi (m:=0) rfl (Nat.le_refl _) (nz_s ?_)
 simp only [add_mk,Nat.zero_add]
 refine st_u B6 rfl rfl ?_
 intro w7 B7 F7
 have B7:Blk w7 g ({ HU.zero with msv:=255,tl:=11,maxDec:=262143,out:=⟨some ⟨ob,0,none⟩,0,0⟩ } : HU).at:=B7.congr (HU.setT 0 rfl rfl rfl (by decide))
 refine nz_s ?_
 simp only [add_mk,Nat.zero_add]
 refine st_u B7 rfl rfl ?_
 intro w8 B8 F8
 have B8:Blk w8 g ({ HU.zero with msv:=255,tl:=11,maxDec:=262143,out:=⟨some ⟨ob,0,none⟩,0,0⟩ } : HU).at:=B8.congr (HU.setT 1 rfl rfl rfl (by decide))
 refine nz_s ?_
 simp only [add_mk,Nat.zero_add]
 refine st_u B8 rfl rfl ?_
 intro w9 B9 F9
 have B9:Blk w9 g ({ HU.zero with msv:=255,tl:=11,maxDec:=262143,out:=⟨some ⟨ob,0,none⟩,0,0⟩ } : HU).at:=B9.congr (HU.setT 2 rfl rfl rfl (by decide))
 have O9:=((O6.fr F7 (nm1 ngo.symm)).fr F8 (nm1 ngo.symm)).fr F9 (nm1 ngo.symm)
 refine joinP_id (nz_s ?_)
 simp only [add_mk,Nat.zero_add]
 refine ld_b (t := .S) (x:=⟨none,0,0⟩) B9 rfl (cnd_d (fun _ => ?_) fun h=>absurd (by decide) h)
 refine mks_w (l:=0) (c:=513) rfl rfl (Nat.zero_le _) (by decide) ?_
 intro nb w10 F10 N10 hnb
 refine nz_s ?_
 simp only [add_mk,Nat.zero_add]
 have hol9:=O9.lt
 have hgl9:=B9.lt
 have ngn:g≠nb:=by omega
 refine st_u (B9.fr F10 (by simp)) rfl rfl ?_
 intro w11 B11 F11
 have B11:Blk w11 g ({ HU.zero with msv:=255,tl:=11,maxDec:=262143,out:=⟨some ⟨ob,0,none⟩,0,0⟩,nodes:=⟨some ⟨nb,0,none⟩,0,513⟩ } : HU).at:=B11.congr (HU.setT 17 rfl rfl rfl (by decide))
 have O11:=(O9.fr F10 (by simp)).fr F11 (nm1 ngo.symm)
 have N11:=N10.fr F11 (nm1 ngn.symm)
 unfold q61n_J3
 refine nz_s ?_
 simp only [add_mk,Nat.zero_add]
 refine ld_b (t := .S) (x:=⟨some ⟨nb,0,none⟩,0,513⟩) B11 rfl ?_
 refine slc_hi (m:=0) rfl (Nat.zero_le _) (nz_s ?_)
 simp only [add_mk,Nat.zero_add]
 refine st_u B11 rfl rfl ?_
 intro w12 B12 F12
 have B12:Blk w12 g ({ HU.zero with msv:=255,tl:=11,maxDec:=262143,out:=⟨some ⟨ob,0,none⟩,0,0⟩,nodes:=⟨some ⟨nb,0,none⟩,0,513⟩ } : HU).at:=B12.congr (HU.setT 17 rfl rfl rfl (by decide))
 have O12:=O11.fr F12 (nm1 ngo.symm)
 have N12:=N11.fr F12 (nm1 ngn.symm)
 refine joinP_id (nz_s ?_)
 simp only [add_mk,Nat.zero_add]
 refine ld_b (t := .P) (x:=none) B12 rfl ⟨fun _ => ?_,fun h=>by simp at h⟩
 refine nwA_w ?_
 intro fb w13 F13 Z13 hfb
 rw [FS.atZ] at Z13
 refine nz_s ?_
 simp only [add_mk,Nat.zero_add]
 have hgl12:=B12.lt
 have hnl12:=N12.lt
 have ngf:g≠fb:=by omega
 refine st_u (B12.fr F13 (by simp)) rfl rfl ?_
 intro w14 B14 F14
 have B14:Blk w14 g (HU.fresh ob nb fb).at:=B14.congr (HU.setT 22 rfl rfl rfl (by decide))
 unfold q61n_J2
 refine nz_s ?_
 simp only [add_mk,Nat.zero_add]
 refine st_u B14 rfl rfl ?_
 intro w15 B15 F15
 have B15:Blk w15 g (HU.fresh ob nb fb).at:=B15.congr (HU.setT 4 rfl rfl rfl (by decide))
 have hs2:=F1.size
 have tr:∀ {a b:World},Fm w a []→Fm a b [g]→Fm w b []:=fun X Y=>X.trans Y (by intro x hx;right;simp at hx;omega)
 have t0:∀ {a b:World},Fm w a []→Fm a b []→Fm w b []:=fun X Y=>X.trans Y (by simp)
 have FF:=tr (tr (t0 (tr (tr (t0 (tr (tr (tr (tr (t0 (tr (tr (tr F1 F2) F3) F4) F5) F6) F7) F8) F9) F10) F11) F12) F13) F14) F15
 refine hk w15 g ob nb fb _ _ FF hg ?_ ?_ ?_ B15 (((O12.fr F13 (by simp)).fr F14 (nm1 ngo.symm)).fr F15 (nm1 ngo.symm)) (((N12.fr F13 (by simp)).fr F14 (nm1 ngn.symm)).fr F15 (nm1 ngn.symm)) ((Z13.fr F14 (nm1 ngf.symm)).fr F15 (nm1 ngf.symm))
 ·omega
 ·omega
 ·omega
theorem HU.hwC (s:HU) (f:Nat→Int):Go.Sx.hwC s.at 279 f=({ s with hw:=f } : HU).at:=by
 funext j
 unfold Go.Sx.hwC HU.at
 by_cases h1:j<256
 ·rw [if_neg (by omega),if_pos h1,if_pos h1]
 ·rw [if_neg h1,if_neg h1]
  by_cases h2:j<279
  ·rw [if_neg (by omega),if_pos h2,if_pos h2];rfl
  ·rw [if_neg h2,if_neg h2]
   by_cases h3:j<535
   ·rw [if_pos (by omega),if_pos h3]
   ·rw [if_neg (by omega),if_neg h3,if_neg h3]
def WhB (l:List Nat):Prop:=match l with
 | []=>True
 | n::r=>n<128→∀cs t rest tab,fseRead (r.take n)=some (cs,t,rest)→statesZ cs t=some tab→∃left,backZ rest=some left∧2*t≤left∧WhZ rest tab (left-t-t) (tkB rest t left) (tkB rest t ((left:Int)-t))
theorem fseRead_cb {l:List Nat} {cs:List Int} {T:Nat} {rest:List Nat} (h:fseRead l=some (cs,T,rest)) (hT:T≤6):(∀c∈cs, -1≤c∧c≤32768)∧cs.length≤256:=by
 obtain ⟨E,h1,h2,h3,_,h5⟩:=fseRead_ph h
 have hp:2^T≤2^6:=Nat.pow_le_pow_right (by omega) hT
 have hr:=h5.rd
 rw [if_neg (by decide)] at hr
 have:=readZ_cb l ⟨4,true,[]⟩ (2^T) E 0 (by intro c hc;cases hc) (by omega) hr
 rw [←h2]
 exact ⟨this,by rw [h2];exact h3⟩
theorem quo8 (a:Nat) (h:a<256):quoI .u8 ((a:Nat):Int) 2=((a/2:Nat):Int):=by
 unfold quoI
 rw [show Int.tdiv ((a:Nat):Int) 2=((a/2:Nat):Int) from rfl]
 exact wU8 (by omega) (by omega)
structure FF (w w':World) (fb:Nat) (fs:FS):Prop where
 blk:Blk w' fb fs.at
 out:fs.out=⟨none,0,0⟩
 tt:fs.tt=⟨none,0,0⟩
 ts:fs.ts=⟨none,0,0⟩∧fs.st=⟨none,0,0⟩∨∃ts sb,w.heap.size≤ts∧w.heap.size≤sb∧ts≠sb∧fs.ts=⟨some ⟨ts,0,none⟩,256,256⟩∧fs.st=⟨some ⟨sb,0,none⟩,256,256⟩∧Own 1 w' fs.ts∧Own 1 w' fs.st
section
variable {w:World} {g fb:Nat} {s:HU} {l:List Nat} {x:Sl}
theorem d45_X22 {K2:Option Addr×Sl×Value→PT} {R8:Sl→PT} {ws:List Nat} {used n:Nat} {r:List Nat} (HB:Blk w g s.at) (hfse:s.fse=some ⟨fb,0,none⟩) (HF:Blk w fb FS.zero.at) (hln:l=n::r) (A:Arr .u8 w x r) (hl:By l) (hlen:l.length<2^20) (dgf:g≠fb)
  (hd:∀a,x.a=some a→r ≠ []→a.block≠fb∧a.block≠g) (hw:weightsZ l=some (ws,used)) (hwh:WhB l)
  (hk:∀(w':World) (hw':Nat→Int) (fs:FS) (y:Sl),(∀i (h:i<ws.length),hw' i=((ws[i]:Nat):Int))→ws.length≤255→Blk w' g ({ s with hw:=hw',symL:=(ws.length:Nat) } : HU).at→FF w w' fb fs→Fm w w' [g,fb]→R8 y w') :
  q45_X22 K2 (some ⟨g,0,none⟩,.nilIface) ((n:Nat):Int) x R8 w:=by
 subst hln
 have hn:n<256:=hl n (by simp)
 have hr:By r:=fun y hy=>hl y (by simp [hy])
 have hxl:=A.len
 have hxc:=A.cap
 simp only [List.length_cons] at hlen
 unfold q45_X22
 unfold weightsZ at hw
 simp only at hw
 refine cnd_d (fun h128=>⟨by decide,?_⟩) fun h128 => ?_
 ·rw [if_pos (by omega)] at hw
  have e1:IntKind.u8.wrap (((n:Nat):Int)-127)=((n-127:Nat):Int):=by rw [wU8 (by omega) (by omega)];omega
  have e2:IntKind.u8.wrap (((n-127:Nat):Int)+1)=((n-127+1:Nat):Int):=by rw [wU8 (by omega) (by omega)];omega
  rw [e1,e2,quo8 _ (by omega),wI64 (by omega) (by omega)]
  split at hw
  ·cases hw
  rename_i hlr
  simp only [List.length_cons] at hlr
  injection hw with hw
  injection hw with hw1 hw2
  refine cnd_d (fun h=>by omega) fun _ => ?_
  refine joinP_id ?_
  refine ⟨fun v w'=>∃(k:Nat) (hw':Nat→Int),v=(k:Int)∧k≤n-127+1∧k%2=0∧(∀i,i<k→hw' i=((rawZ (n::r) i:Nat):Int))∧Blk w' g ({ s with hw:=hw' } : HU).at∧Fm w w' [g],fun v _=>256-v.toNat,⟨0,s.hw,rfl,Nat.zero_le _,rfl,(by intro i hi;omega),HB,Fm.refl _ _⟩,?_⟩
  rintro v w1 ⟨k,hw',rfl,hk1,hk2,hhw,HB1,F1⟩
  unfold q45_L0
  rw [e1]
  refine cnd_d (fun hc=>⟨by decide,?_⟩) fun hc => ?_
  ·have A1:=A.fr F1 (by intro a ha h;simpa using (hd a ha h).2)
   refine A1.ldk (k/2) (quo8 k (by omega)) (by omega) fun p hp=>ld_c (t := .I .u8) hp ⟨by decide,nz_s ?_⟩
   have hv:r[k/2]<256:=hr _ (List.getElem_mem _)
   have hg:(n::r).getD (1+k/2) 0=r[k/2]:=by rw [Nat.add_comm,List.getD_cons_succ,getD_in (by omega)]
   have hr0:rawZ (n::r) k=r[k/2]/16:=by unfold rawZ;rw [if_pos hk2,hg];omega
   have hr1:rawZ (n::r) (k+1)=r[k/2]%16:=by unfold rawZ;rw [if_neg (by omega),show (k+1)/2=k/2 by omega,hg]
   generalize r[k/2]=y at *
   simp only [add_mk,Nat.zero_add]
   refine ixA_o rfl (by omega) ?_
   have e4:shrI .u8 ((y:Nat):Int) 4=((y/16:Nat):Int):=shrI_nat .u8 y 4 (by simp only [IntKind.bits];omega)
   have e5:andI .u8 ((y:Nat):Int) 15=((y%16:Nat):Int):=by
    have h:=andI_nat (k := .u8) rfl y 15 (by simp only [IntKind.bits];omega) (by decide)
    rw [show y &&& 15=y%16 from Nat.and_two_pow_sub_one_eq_mod y 4] at h
    exact h
   rw [e4,e5]
   refine st_u HB1 (by rw [HU.hw_at _ (by omega)];rfl) rfl ?_
   intro w2 HB2 F2
   rw [HU.setW (by omega)] at HB2
   refine nz_s ?_
   simp only [add_mk,Nat.zero_add]
   have e6:IntKind.u8.wrap (((k:Nat):Int)+1)=((k+1:Nat):Int):=by rw [wU8 (by omega) (by omega)];omega
   rw [e6]
   refine ixA_o rfl (by omega) ?_
   refine st_u HB2 (by rw [HU.hw_at _ (by omega)];rfl) rfl ?_
   intro w3 HB3 F3
   rw [HU.setW (by omega)] at HB3
   rw [wU8 (by omega) (by omega)]
   refine ⟨⟨k+2,_,by simp,by omega,by omega,?_,HB3,(F1.trans F2 (fun x hx => .inl hx)).trans F3 (fun x hx => .inl hx)⟩,by omega⟩
   intro i hi
   show updF (updF hw' k _) (k+1) _ i=_
   unfold updF
   by_cases i1:i=k+1
   ·subst i1;rw [if_pos rfl,hr1]
   ·rw [if_neg i1]
    by_cases i2:i=k
    ·subst i2;rw [if_pos rfl,hr0]
    ·rw [if_neg i2];exact hhw i (by omega)
  ·unfold q45_J1
   refine nz_s ?_
   simp only [add_mk,Nat.zero_add]
   rw [e1,e2,quo8 _ (by omega),wU16 (by omega) (by omega)]
   refine st_u HB1 rfl rfl ?_
   intro w2 HB2 F2
   have hwl:ws.length=n-127:=by rw [←hw1];simp
   have HB2:Blk w2 g ({ s with hw:=hw',symL:=((ws.length:Nat):Int) } : HU).at:=by rw [hwl];exact HB2.congr (HU.setT 9 rfl rfl rfl (by decide))
   refine slc_lo (n:=(n-127+1)/2) rfl (by omega) ?_
   have F02:Fm w w2 [g]:=F1.trans F2 (fun x hx => .inl hx)
   refine hk w2 hw' FS.zero _ ?_ (by omega) HB2 ⟨HF.fr F02 (nm1 dgf.symm),rfl,rfl,.inl ⟨rfl,rfl⟩⟩ (F02.mono (by intro v hv;left;simp at hv;simp [hv]))
   intro i hi
   rw [hhw i (by omega)]
   subst hw1
   simp
 ·rw [if_neg (by omega)] at hw
  split at hw
  ·cases hw
  rename_i hlr
  simp only [List.length_cons] at hlr
  split at hw
  ·cases hw
  rename_i cs t rest hfr
  split at hw
  ·cases hw
  rename_i ht6
  split at hw
  ·cases hw
  rename_i tab hst
  split at hw
  ·cases hw
  rename_i out htwo
  injection hw with hw
  injection hw with hw1 hw2
  subst hw1
  obtain ⟨left,hbk,hge,hwz⟩:=hwh (by omega) cs t rest tab hfr hst
  obtain ⟨E,hT,_,_,hre,_⟩:=fseRead_ph hfr
  have hT5:LogOK t:=by unfold LogOK;omega
  obtain ⟨hcb,hc256⟩:=fseRead_cb hfr (by omega)
  have htw:TW rest tab 255 (left-t-t) (tkB rest t left) (tkB rest t ((left:Int)-t)) [] out:=by
   refine ⟨?_,hwz⟩
   unfold twoStatesZ at htwo
   rw [hbk] at htwo
   simp only at htwo
   rw [if_pos (by omega)] at htwo
   rw [show ((left-t-t:Nat):Int)=(left:Int)-t-t by omega]
   exact htwo
  have hol:=htw.len
  simp only [List.length_nil] at hol
  have hn0:r.take n ≠ []:=by
   intro e
   rw [e] at hre
   simp at hre
   rw [hre] at hbk
   simp [backZ] at hbk
  have hn1:0<n:=by
   by_cases h:n=0
   ·subst h;simp at hn0
   ·omega
  rw [wI64 (by omega) (by omega)]
  refine cnd_d (fun h=>by omega) fun _ => ?_
  refine A.ldk 0 rfl (by omega) fun p hp=>ld_c (t := .I .u8) hp ?_
  have h0:leN (r.take n)%16=r[0]%16:=by
   have:r.take n=r[0]::(r.take n).drop 1:=by
    cases r with
    | nil=>simp at hn0
    | cons a q =>
     cases n with
     | zero=>omega
     | succ n=>simp
   rw [this,leN]
   omega
  have hr0:r[0]<256:=hr _ (List.getElem_mem _)
  have e5:andI .u8 ((r[0]:Nat):Int) 15=((r[0]%16:Nat):Int):=by
   have h:=andI_nat (k := .u8) rfl r[0] 15 (by simp only [IntKind.bits];omega) (by decide)
   rw [show r[0] &&& 15=r[0]%16 from Nat.and_two_pow_sub_one_eq_mod r[0] 4] at h
   exact h
  rw [e5,wU8 (by omega) (by omega)]
  refine cnd_d (fun h=>by omega) fun _=>nz_s ?_
  simp only [add_mk,Nat.zero_add]
  refine ld_b (t := .P) (x:=some ⟨fb,0,none⟩) HB (by show some (Value.pointer s.fse)=_;rw [hfse];rfl) (nz_s ?_)
  simp only [add_mk,Nat.zero_add]
  refine st_u HF rfl rfl ?_
  intro w1 HF1 F1
  have HF1:Blk w1 fb ({ FS.zero with lim:=255 } : FS).at:=HF1.congr (FS.setT 15 rfl rfl rfl (by decide))
  refine nz_s ?_
  simp only [add_mk,Nat.zero_add]
  refine slcA_all (by decide) (nz_s ?_)
  simp only [add_mk,Nat.zero_add]
  have HB1:=HB.fr F1 (nm1 dgf)
  refine ld_b (t := .P) (x:=some ⟨fb,0,none⟩) HB1 (by show some (Value.pointer s.fse)=_;rw [hfse];rfl) (nz_s ?_)
  simp only [add_mk,Nat.zero_add]
  refine st_u HF1 rfl rfl ?_
  intro w2 HF2 F2
  have HF2:Blk w2 fb ({ FS.zero with lim:=255,out:=oS g 279 256 } : FS).at:=HF2.congr (FS.setT 14 rfl rfl rfl (by decide))
  have F02:Fm w w2 [fb]:=F1.trans F2 (fun x hx => .inl hx)
  unfold drw
  have F03:=F02.drew
  have HF3:=HF2.drew
  have HB3:=(HB1.fr F2 (nm1 dgf)).drew
  have A3:Arr .u8 w2.drew x r:=A.fr F03 (by intro a ha h;simpa using (hd a ha h).1)
  refine slc_hi (m:=n) rfl (by omega) (nz_s ?_)
  simp only [add_mk,Nat.zero_add]
  refine ld_b (t := .P) (x:=some ⟨fb,0,none⟩) HB3 (by show some (Value.pointer s.fse)=_;rw [hfse];rfl) ?_
  have A4:=A3.take n (by omega)
  have HO:OA w2.drew g 279 s.at []:=⟨s.hw,by rw [HU.hwC];exact HB3,by simp⟩
  refine c63 (x:=⟨x.a,n,x.c⟩) (l:=r.take n) (T:=t) (left:=left) (R:=out) HF3 rfl rfl rfl rfl rfl rfl rfl rfl A4 (fun y hy=>hr y (List.mem_of_mem_take hy)) (by rw [List.length_take];omega) HO dgf (fun a ha h=>hd a ha (by intro e;rw [e] at h;simp at h)) hfr hcb hc256 hT5 hst ⟨hbk,hge,htw⟩ ?_
  intro w5 s5 ts sb hts hsb nts e1 e2 e3 e4 O1 O2 HF5 HO5 F5
  obtain ⟨hw5,HB5,hhw⟩:=HO5
  rw [HU.hwC] at HB5
  refine nz_s ?_
  simp only [add_mk,Nat.zero_add]
  refine ld_b (t := .P) (x:=some ⟨fb,0,none⟩) HB5 (by show some (Value.pointer s.fse)=_;rw [hfse];rfl) (nz_s ?_)
  simp only [add_mk,Nat.zero_add]
  refine st_u HF5 rfl rfl ?_
  intro w6 HF6 F6
  have HF6:Blk w6 fb ({ s5 with out:=⟨none,0,0⟩ } : FS).at:=HF6.congr (FS.setT 14 rfl rfl rfl (by decide))
  refine ⟨rfl,nil_cnd ?_⟩
  refine cnd_d (fun h=>by simp only [oS] at h;omega) fun _=>nz_s ?_
  simp only [add_mk,Nat.zero_add]
  refine st_u (HB5.fr F6 (nm1 dgf)) rfl rfl ?_
  intro w7 HB7 F7
  have eo:IntKind.u16.wrap (((oS g 279 out.length).l:Nat):Int)=((out.length:Nat):Int):=wU16 (by simp only [oS];omega) (by simp only [oS];omega)
  rw [eo] at HB7
  have HB7:Blk w7 g ({ s with hw:=hw5,symL:=((out.length:Nat):Int) } : HU).at:=HB7.congr (HU.setT 9 rfl rfl rfl (by decide))
  refine slc_lo (n:=n) rfl (by omega) ?_
  have hs2:w.heap.size≤w2.drew.heap.size:=F03.size
  have hfl:=HF.lt
  have hgl:=HB.lt
  have F07:Fm w w7 [g,fb]:=(((F03.mono (S' := [g,fb]) (by intro v hv;left;simp at hv;simp [hv])).trans F5 (by intro v hv;left;simp at hv;rcases hv with rfl|rfl<;>simp)).trans F6 (by intro v hv;left;simp at hv;simp [hv])).trans F7 (by intro v hv;left;simp at hv;simp [hv])
  have F57:Fm w5 w7 [g,fb]:=(F6.mono (S' := [g,fb]) (by intro v hv;left;simp at hv;simp [hv])).trans F7 (by intro v hv;left;simp at hv;simp [hv])
  refine hk w7 hw5 _ _ hhw (by omega) HB7 ⟨HF6.fr F7 (nm1 dgf.symm),rfl,e3,.inr ⟨ts,sb,by omega,by omega,nts,e1,e2,O1.fm F57 ?_,O2.fm F57 ?_⟩⟩ F07
  ·intro v hv
   rw [e1] at hv
   simp [Sl.bs] at hv
   subst hv
   simp;exact ⟨by omega,by omega⟩
  ·intro v hv
   rw [e2] at hv
   simp [Sl.bs] at hv
   subst hv
   simp;exact ⟨by omega,by omega⟩
end
structure HI (ws:List Nat) (H:Nat→Int) (k:Nat):Prop where
 sum:∀v,v<16→H v+H (16+v)+H (32+v)+H (48+v)=(((ws.take k).count v:Nat):Int)
 rng:∀j,j<64→0≤H j∧H j≤k
theorem count_take {ws:List Nat} {k v:Nat} (h:k<ws.length):(ws.take (k+1)).count v=(ws.take k).count v+if ws[k]=v then 1 else 0:=by
 rw [List.take_succ_eq_append_getElem h,List.count_append,List.count_singleton]
 congr 1
 by_cases e:ws[k]=v
 ·rw [if_pos (by simpa using e),if_pos e]
 ·rw [if_neg (by simpa using e),if_neg e]
theorem HI.inc {ws:List Nat} {H:Nat→Int} {k i w:Nat} (h:HI ws H k) (hi:i<4) (hk:k<ws.length) (hw:ws[k]=w) (hw2:w<16):HI ws (updF H (i*16+w) (H (i*16+w)+1)) (k+1):=by
 refine ⟨?_,?_⟩
 ·intro v hv
  have h1:=h.sum v hv
  rw [count_take hk,hw]
  unfold updF
  by_cases e:w=v
  ·subst e
   rw [if_pos rfl]
   rcases (show i=0∨i=1∨i=2∨i=3 by omega) with rfl|rfl|rfl|rfl
   ·rw [if_pos (by omega),if_neg (by omega),if_neg (by omega),if_neg (by omega),show 0*16+w=w by omega];omega
   ·rw [if_neg (by omega),if_pos (by omega),if_neg (by omega),if_neg (by omega),show 1*16+w=16+w by omega];omega
   ·rw [if_neg (by omega),if_neg (by omega),if_pos (by omega),if_neg (by omega),show 2*16+w=32+w by omega];omega
   ·rw [if_neg (by omega),if_neg (by omega),if_neg (by omega),if_pos (by omega),show 3*16+w=48+w by omega];omega
  ·rw [if_neg e,if_neg (by omega),if_neg (by omega),if_neg (by omega),if_neg (by omega),Nat.add_zero]
   exact h1
 ·intro j hj
  unfold updF
  have h1:=h.rng j hj
  by_cases e:j=i*16+w
  ·subst e;rw [if_pos rfl];omega
  ·rw [if_neg e];omega
theorem and15b {x:Nat} (h:x<16):andI .u8 ((x:Nat):Int) 15=((x:Nat):Int):=by
 have e:=andI_nat (k := .u8) rfl x 15 (by simp only [IntKind.bits];omega) (by decide)
 rw [show x &&& 15=x%16 from Nat.and_two_pow_sub_one_eq_mod x 4,Nat.mod_eq_of_lt h] at e
 exact e
theorem or_u8 {a b:Nat} (ha:a<16) (hb:b<16):∃c:Nat,orI .u8 ((a:Nat):Int) ((b:Nat):Int)=((c:Nat):Int)∧c<16 :=
 ⟨a ||| b,orI_nat (k := .u8) rfl a b (by simp only [IntKind.bits];omega) (by simp only [IntKind.bits];omega),Nat.or_lt_two_pow (n:=4) ha hb⟩
section
variable {w:World} {g hb:Nat} {s:HU} {ws:List Nat} {H:Nat→Int}
theorem hist_inc {k i x:Nat} {ii:Int} {κ:PT} (B:Blk w hb (arrC .u32 64 H)) (h:HI ws H k) (hii:ii=((i:Nat):Int)) (hi:i<4) (hk:k<ws.length) (hw:ws[k]=x) (hx:x<16) (hk2:k<1000)
  (hκ:∀w' H',Blk w' hb (arrC .u32 64 H')→HI ws H' (k+1)→Fm w w' [hb]→κ w') :
  (ixA 16 4 ⟨hb,0,none⟩ ii fun (p55:Addr)=>ixA 1 16 p55 (andI .u8 ((x:Nat):Int) (15:Int)) fun (p56:Addr)=>ld (.I .u32) p56 fun (n57:Int)=>ixA 16 4 ⟨hb,0,none⟩ ii fun (p58:Addr)=>ixA 1 16 p58 (andI .u8 ((x:Nat):Int) (15:Int)) fun (p59:Addr)=>st p59 (.int .u32 (IntKind.wrap .u32 (n57+(1:Int)))) κ) w:=by
 subst hii
 rw [and15b hx]
 refine ixA_b rfl hi ?_
 refine ixA_o rfl hx ?_
 rw [Nat.zero_add]
 have hr:=h.rng (i*16+x) (by omega)
 refine ld_b (t := .I .u32) (x:=H (i*16+x)) B (arrC_get (by omega)) ?_
 refine ixA_b rfl hi ?_
 refine ixA_o rfl hx ?_
 rw [Nat.zero_add]
 refine st_u B (by rw [arrC_get (by omega)];rfl) rfl ?_
 intro w' B' F'
 rw [arrC_upd (by omega),wU32 (by omega) (by omega)] at B'
 exact hκ w' _ B' (h.inc hi hk hw hx) F'
def WSt (s:HU) (ws:List Nat):Prop:=∀i (h:i<ws.length),s.hw i=((ws[i]:Nat):Int)
theorem rd_hw {k j c:Nat} {i:Int} {κ:Int→PT} (B:Blk w g s.at) (hW:WSt s ws) (hl:ws.length≤256) (hi:i=((j:Nat):Int)) (hk:k+j<ws.length) (h:κ ((ws[k+j]:Nat):Int) w) :
  ixS 1 ⟨some ⟨g,279+k,none⟩,ws.length-k,c⟩ i (fun p=>ld (.I .u8) p κ) w:=by
 refine ixS_o hi (by omega) ?_
 rw [Nat.add_assoc]
 exact ld_b (t := .I .u8) (x:=((ws[k+j]:Nat):Int)) B (by rw [HU.hw_at _ (by omega),hW _ hk];rfl) h
theorem rt_L3 {K:Int→PT} {k sn:Nat} (HB:Blk w g s.at) (hW:WSt s ws) (hl:ws.length≤255) (h16:∀x∈ws,x<16) (B:Blk w hb (arrC .u32 64 H)) (hI:HI ws H k) (hk:k≤ws.length) (hsn:sn<16) (dgb:g≠hb) {c:Nat}
  (hκ:∀w' H' sn',sn'<16→Blk w' hb (arrC .u32 64 H')→HI ws H' ws.length→Fm w w' [hb]→K ((sn':Nat):Int) w') :
  loopP (((sn:Nat):Int),(0:Int)) (q45_L3 ⟨hb,0,none⟩ (((sn:Nat):Int),⟨some ⟨g,279+k,none⟩,ws.length-k,c⟩) K) w:=by
 refine ⟨fun v w'=>∃(j sn':Nat) (H':Nat→Int),v=(((sn':Nat):Int),(j:Int))∧k+j≤ws.length∧sn'<16∧Blk w' hb (arrC .u32 64 H')∧HI ws H' (k+j)∧Fm w w' [hb],fun v _=>256-v.2.toNat,⟨0,sn,H,rfl,hk,hsn,B,hI,Fm.refl _ _⟩,?_⟩
 rintro v w1 ⟨j,sn',H',rfl,hj,hsn',B1,hI1,F1⟩
 unfold q45_L3
 simp only
 refine cnd_d (fun hc => ?_) fun hc => ?_
 ·have hkj:k+j<ws.length:=by omega
  have hx:=h16 _ (List.getElem_mem hkj)
  refine rd_hw (HB.fr F1 (nm1 dgb)) hW (by omega) rfl hkj ?_
  refine hist_inc (i:=0) B1 hI1 rfl (by omega) hkj rfl hx (by omega) ?_
  intro w2 H2 B2 hI2 F2
  obtain ⟨c',e,hc'⟩:=or_u8 hsn' hx
  rw [e,wI64 (by omega) (by omega)]
  exact ⟨⟨j+1,c',H2,by simp,by omega,hc',B2,hI2,F1.trans F2 (fun x hx => .inl hx)⟩,by omega⟩
 ·have:k+j=ws.length:=by omega
  rw [this] at hI1
  exact hκ w1 H' sn' hsn' B1 hI1 F1
theorem rt_hist {K2:Option Addr×Sl×Value→PT} {x44:Sl} (HB:Blk w g s.at) (hW:WSt s ws) (hl:ws.length≤255) (h16:∀x∈ws,x<16) (hsy:s.symL=((ws.length:Nat):Int))
  (hκ:∀w' hb H sn,sn<16→w.heap.size≤hb→Blk w' hb (arrC .u32 64 H)→HI ws H ws.length→Fm w w' []→q45_J19 K2 (some ⟨g,0,none⟩,.nilIface) x44 ⟨hb,0,none⟩ ((sn:Nat):Int) w') :
  q45_J21 K2 (some ⟨g,0,none⟩,.nilIface) x44 w:=by
 unfold q45_J21
 refine nw_x ?_
 intro hb w1 F1 B1 hhb
 have B1:Blk w1 hb (arrC .u32 64 fun _=>0):=B1.congr (by
  funext i
  simp only [List.getElem?_toArray]
  unfold z137 arrC
  rw [List.getElem?_replicate])
 unfold drw
 have hgl:=HB.lt
 have dgb:g≠hb:=by omega
 have F1d:=F1.drew
 refine nz_s (nz_s ?_)
 simp only [add_mk,Nat.zero_add]
 refine ld_b (t := .I .u16) (x:=((ws.length:Nat):Int)) (HB.fr F1d (by simp)) (by show some (Value.int .u16 s.symL)=_;rw [hsy];rfl) ?_
 refine slcA_hi rfl (by omega) (by omega) ?_
 refine joinP_id ?_
 refine ⟨fun v w'=>∃(k sn:Nat) (H:Nat→Int),v=(((sn:Nat):Int),⟨some ⟨g,279+k,none⟩,ws.length-k,256-k⟩)∧k≤ws.length∧sn<16∧Blk w' hb (arrC .u32 64 H)∧HI ws H k∧Fm w w' [],fun v _=>v.2.l,
  ⟨0,0,_,rfl,Nat.zero_le _,by omega,B1.drew,⟨(by intro v _;simp),(by intro j _;simp)⟩,F1d⟩,?_⟩
 rintro v w2 ⟨k,sn,H,rfl,hk,hsn,B2,hI,F2⟩
 have HB2:=HB.fr F2 (by simp)
 unfold q45_L2
 simp only
 refine cnd_d (fun hc => ?_) fun hc => ?_
 ·have h0:k+0<ws.length:=by omega
  have h1:k+1<ws.length:=by omega
  have h2:k+2<ws.length:=by omega
  have h3:k+3<ws.length:=by omega
  have x0:=h16 _ (List.getElem_mem h0)
  have x1:=h16 _ (List.getElem_mem h1)
  have x2:=h16 _ (List.getElem_mem h2)
  have x3:=h16 _ (List.getElem_mem h3)
  refine rd_hw HB2 hW (by omega) rfl h0 ?_
  refine hist_inc (i:=0) B2 hI rfl (by omega) h0 rfl x0 (by omega) ?_
  intro w3 H3 B3 hI3 F3
  refine rd_hw (HB2.fr F3 (nm1 dgb)) hW (by omega) rfl h1 ?_
  refine hist_inc (i:=1) B3 hI3 rfl (by omega) h1 rfl x1 (by omega) ?_
  intro w4 H4 B4 hI4 F4
  have F24:Fm w2 w4 [hb]:=F3.trans F4 (fun x hx => .inl hx)
  refine rd_hw (HB2.fr F24 (nm1 dgb)) hW (by omega) rfl h2 ?_
  refine hist_inc (i:=2) B4 hI4 rfl (by omega) h2 rfl x2 (by omega) ?_
  intro w5 H5 B5 hI5 F5
  have F25:Fm w2 w5 [hb]:=F24.trans F5 (fun x hx => .inl hx)
  refine rd_hw (HB2.fr F25 (nm1 dgb)) hW (by omega) rfl h3 ?_
  refine hist_inc (i:=3) B5 hI5 rfl (by omega) h3 rfl x3 (by omega) ?_
  intro w6 H6 B6 hI6 F6
  have F26:Fm w2 w6 [hb]:=F25.trans F6 (fun x hx => .inl hx)
  unfold drw
  have HB7:=(HB2.fr F26 (nm1 dgb)).drew
  refine rd_hw HB7 hW (by omega) rfl h0 ?_
  refine rd_hw HB7 hW (by omega) rfl h1 ?_
  refine rd_hw HB7 hW (by omega) rfl h2 ?_
  refine rd_hw HB7 hW (by omega) rfl h3 ?_
  refine slc_lo (n:=4) rfl (by simp only;omega) ?_
  obtain ⟨c1,e1,hc1⟩:=or_u8 x0 x1
  obtain ⟨c2,e2,hc2⟩:=or_u8 hc1 x2
  obtain ⟨c3,e3,hc3⟩:=or_u8 hc2 x3
  obtain ⟨c4,e4,hc4⟩:=or_u8 hsn hc3
  rw [e1,e2,e3,e4]
  refine ⟨⟨k+4,c4,H6,?_,by omega,hc4,B6.drew,hI6,(F2.trans F26 (by intro x hx;right;simp at hx;omega)).drew⟩,by simp only;omega⟩
  simp only [slA]
  rw [if_neg (by omega)]
  simp only [Option.map_some,add_mk]
  rfl
 ·unfold q45_J20
  refine joinP_id ?_
  refine rt_L3 HB2 hW hl h16 B2 hI hk hsn dgb ?_
  intro w3 H3 sn3 hsn3 B3 hI3 F3
  exact hκ w3 hb H3 sn3 hsn3 hhb B3 hI3 (F2.trans F3 (by intro x hx;right;simp at hx;omega))
theorem rt_rank {K2:Option Addr×Sl×Value→PT} {x44:Sl} {sn:Nat} (B:Blk w hb (arrC .u32 64 H)) (hI:HI ws H ws.length) (hl:ws.length≤255)
  (hκ:∀w' rb R,w.heap.size≤rb→(∀v,v<16→R v=((ws.count v:Nat):Int))→Blk w' rb (arrC .u32 16 R)→Fm w w' []→q45_J18 K2 (some ⟨g,0,none⟩,.nilIface) x44 ((sn:Nat):Int) ⟨rb,0,none⟩ () w') :
  q45_J19 K2 (some ⟨g,0,none⟩,.nilIface) x44 ⟨hb,0,none⟩ ((sn:Nat):Int) w:=by
 unfold q45_J19
 refine nw_x ?_
 intro rb w1 F1 B1 hrb
 have hbl:=B.lt
 have B1:Blk w1 rb (arrC .u32 16 fun _=>0):=B1.congr (by
  funext i
  simp only [List.getElem?_toArray]
  unfold z136 arrC
  rw [List.getElem?_replicate])
 refine joinP_id ?_
 refine ⟨fun v w'=>∃(i:Nat) (R:Nat→Int),v=(i:Int)∧i≤16∧(∀v,v<i→R v=((ws.count v:Nat):Int))∧Blk w' rb (arrC .u32 16 R)∧Fm w w' [],fun v _=>16-v.toNat,⟨0,_,rfl,by omega,(by intro v hv;omega),B1,F1⟩,?_⟩
 rintro v w2 ⟨i,R,rfl,hi,hR,B2,F2⟩
 unfold q45_L4
 refine cnd_d (fun hc => ?_) fun hc => ?_
 ·have hi16:i<16:=by omega
  unfold drw
  have HB:=(B.fr F2 (by simp)).drew
  have r0:=hI.rng i (by omega)
  have r1:=hI.rng (16+i) (by omega)
  have r2:=hI.rng (32+i) (by omega)
  have r3:=hI.rng (48+i) (by omega)
  have hs:=hI.sum i hi16
  rw [List.take_length] at hs
  refine ixA_b (k:=0) rfl (by omega) (ixA_o rfl hi16 ?_)
  refine ld_b (t := .I .u32) (x:=H i) HB (by rw [show 0+0*16+i=i by omega];exact arrC_get (by omega)) ?_
  refine ixA_b (k:=1) rfl (by omega) (ixA_o rfl hi16 ?_)
  refine ld_b (t := .I .u32) (x:=H (16+i)) HB (by rw [show 0+1*16+i=16+i by omega];exact arrC_get (by omega)) ?_
  refine ixA_b (k:=2) rfl (by omega) (ixA_o rfl hi16 ?_)
  refine ld_b (t := .I .u32) (x:=H (32+i)) HB (by rw [show 0+2*16+i=32+i by omega];exact arrC_get (by omega)) ?_
  refine ixA_b (k:=3) rfl (by omega) (ixA_o rfl hi16 ?_)
  refine ld_b (t := .I .u32) (x:=H (48+i)) HB (by rw [show 0+3*16+i=48+i by omega];exact arrC_get (by omega)) ?_
  refine ixA_o rfl hi16 ?_
  rw [Nat.zero_add]
  refine st_u B2.drew (by rw [arrC_get hi16];rfl) rfl ?_
  intro w3 B3 F3
  rw [arrC_upd hi16,wU32 (x:=H i+_) (by omega) (by omega),wU32 (x:=H i+H (16+i)+_) (by omega) (by omega),wU32 (by omega) (by omega),hs] at B3
  rw [wI64 (by omega) (by omega)]
  have F03:Fm w w3 []:=(F2.drew).trans F3 (by intro x hx;right;simp at hx;subst hx;exact hrb)
  refine ⟨⟨i+1,_,by simp,hi16,?_,B3,F03⟩,by show 16-(((i:Nat):Int)+1).toNat<16-((i:Nat):Int).toNat;omega⟩
  intro v hv
  unfold updF
  by_cases e:v=i
  ·subst e;rw [if_pos rfl]
  ·rw [if_neg e];exact hR v (by omega)
 ·have:i=16:=by omega
  subst this
  exact hκ w2 rb R hrb hR B2 F2
end
end Go.Sx
