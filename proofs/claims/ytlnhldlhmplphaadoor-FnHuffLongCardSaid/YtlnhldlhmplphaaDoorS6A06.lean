/- Lemmas for the proof: X25 X26 X27 X28 Y4 X29 X30 X31 Y5 X32 X33 H1 H2 H3. No conditions. -/
import Derived.Test.YtlnhldlhmplphaaDoorS6A05
set_option linter.unusedVariables false
set_option linter.unusedSimpArgs false
namespace Go.Sx
open Go Go.Proofs
set_option maxRecDepth 4000
theorem NS.congr {S S':FS} {ns:List Int} {T L:Nat} (H:NS S ns T L) (h1:S'.atl=S.atl) (h2:S'.symL=S.symL) (h3:S'.norm=S.norm):NS S' ns T L :=
 ⟨H.log,h1.trans H.atl,h2.trans H.symL,H.len,H.l2,H.l13,h3▸H.nrm,H.rng,H.sum⟩
theorem nw_cum {w:World} {κ:Addr→PT} (hk:∀w',Fm w w' []→w'.heap.size=w.heap.size+1→Blk w' w.heap.size (arrC .i16 257 fun _=>0)→κ ⟨w.heap.size,0,none⟩ w'):nw z208 208 κ w:=by
 refine hk _ (Fm.refl w []).alloc (World.size_alloc _ _) (Blk.new.congr ?_)
 funext i
 unfold z208 arrC
 rw [List.getElem?_toArray,List.getElem?_replicate]
theorem c113 {T L:Nat} {w:World} {b:Nat} {s:FS} {ns:List Int} {K:Value→PT} (H:NS s ns T L) (HB:Blk w b s.at) (h1:Own 1 w s.ts) (h2:Own 1 w s.st) (h3:Own 2 w s.tt) (d1:b∉s.ts.bs) (d2:b∉s.st.bs) (d3:b∉s.tt.bs)
  (d12:∀v∈s.ts.bs,v∉s.st.bs) (d13:∀v∈s.ts.bs,v∉s.tt.bs) (d23:∀v∈s.st.bs,v∉s.tt.bs)
  (hk:∀w' tb stb ttb capx capy capz zz f hT g,spreadZ ns (2^T) (fun _ => -1)=some (f,0)→ET T w' ttb stb (shareZ ns) (cumZ ns) (posZ (2^T) f) hT g→Own 1 w' ⟨some ⟨tb,0,none⟩,2^T,capx⟩→Own 1 w' ⟨some ⟨stb,0,none⟩,2^T,capy⟩→Own 2 w' ⟨some ⟨ttb,0,none⟩,256,capz⟩→256≤capz →
   Blk w' b ({ s with ts:=⟨some ⟨tb,0,none⟩,2^T,capx⟩,st:=⟨some ⟨stb,0,none⟩,2^T,capy⟩,tt:=⟨some ⟨ttb,0,none⟩,256,capz⟩,zb:=zz } : FS).at→Fm w w' (b::(s.ts.bs++(s.st.bs++s.tt.bs))) →
   (tb∈s.ts.bs∨w.heap.size≤tb)→(stb∈s.st.bs∨w.heap.size≤stb)→(ttb∈s.tt.bs∨w.heap.size≤ttb)→b≠tb→b≠stb→b≠ttb→tb≠stb→tb≠ttb→stb≠ttb→K .nilIface w') :
  callP Tryd.prog 113 #[.pointer (some ⟨b,0,none⟩)] [.c .V] K w:=by
 apply q113_ok
 unfold q113
 have hTp:=H.log.pow
 have hlen:=H.len
 have hl2:=H.l2
 have hl13:=H.l13
 have hbl:=HB.lt
 have hsz:2^T=32∨2^T=64:=by omega
 obtain ⟨f,hsp,hf0,_⟩:=statesZ_some H.log H.rng H.sum
 have hlaid:=spreadZ_laid hsp
 have hf:∀p,p<2^T→0≤f p∧f p<(L:Int):=by
  intro p hp
  have h0:=hf0 p hp
  rcases hlaid p with h|⟨i,hi,h,_⟩
  ·omega
  ·omega
 have hcnt:∀s:Nat,cntZ f s (2^T)=shareZ ns s:=fun s=>spread_count hsz H.rng H.sum hsp s
 simp only [add_mk,Nat.zero_add]
 refine ld_b (t := .I .u8) (x:=((T:Nat):Int)) HB H.atlAt ⟨by omega,?_⟩
 refine nw_cum ?_
 intro w1 F1 hs1 HC1
 generalize hc:w.heap.size=c at *
 have hbc:b≠c:=by omega
 refine c137 H.log (HB.fr F1 (by simp)) H.atl (h1.fm F1 (by simp)) (h2.fm F1 (by simp)) (h3.fm F1 (by simp)) d1 d2 d3 ?_
 intro w2 x y z x1 y1 z1 x2 y2 z2 x3 y3 z3 HB2 F2 x6 y6 z6
 obtain ⟨tb,Ft,ex,HT2,hFt,hcx⟩:=x2.out x3 x1
 obtain ⟨sb,Hs,ey,HS2,hHs,hcy⟩:=y2.out y3 y1
 obtain ⟨ttb,Ht,ez,HZ2,hHt,hcz⟩:=z2.out z3 z1
 have hx6:=x6 tb (by rw [ex];simp [Sl.bs])
 have hy6:=y6 sb (by rw [ey];simp [Sl.bs])
 have hz6:=z6 ttb (by rw [ez];simp [Sl.bs])
 rw [show x.bs = [tb] by rw [ex];rfl] at hy6 hz6
 rw [show y.bs = [sb] by rw [ey];rfl] at hz6
 simp only [List.mem_cons,List.not_mem_nil,or_false] at hy6 hz6
 have o1:=h1.lt
 have o2:=h2.lt
 have o3:=h3.lt
 rw [hc] at o1 o2 o3
 rw [hs1] at hx6 hy6 hz6
 have n1:tb≠c:=by rcases hx6 with h|h;have:=o1 _ h;omega;omega
 have n2:sb≠c:=by rcases hy6 with h|h;have:=o2 _ h;omega;omega
 have n3:ttb≠c:=by rcases hz6 with h|h;have:=o3 _ h;omega;omega
 have n4:b≠tb:=by rcases hx6 with h|h;exact fun e=>d1 (e▸h);omega
 have n5:b≠sb:=by rcases hy6 with h|h;exact fun e=>d2 (e▸h);omega
 have n6:b≠ttb:=by rcases hz6 with h|h;exact fun e=>d3 (e▸h);omega
 have n7:tb≠sb:=by
  rcases hy6 with h|h
  ·rcases hx6 with h'|h'
   ·exact fun e=>d12 _ h' (e▸h)
   ·have:=o2 _ h;omega
  ·exact fun e=>h.2 e.symm
 have n8:tb≠ttb:=by
  rcases hz6 with h|h
  ·rcases hx6 with h'|h'
   ·exact fun e=>d13 _ h' (e▸h)
   ·have:=o3 _ h;omega
  ·exact fun e=>h.2.1 e.symm
 have n9:sb≠ttb:=by
  rcases hz6 with h|h
  ·rcases hy6 with h'|h'
   ·exact fun e=>d23 _ h' (e▸h)
   ·have:=o3 _ h;omega
  ·exact fun e=>h.2.2 e.symm
 generalize hcapx:x.c=capx at *
 generalize hcapy:y.c=capy at *
 generalize hcapz:z.c=capz at *
 subst ex ey ez
 have H2:NS ({ s with ts:=⟨some ⟨tb,0,none⟩,2^T,capx⟩,st:=⟨some ⟨sb,0,none⟩,2^T,capy⟩,tt:=⟨some ⟨ttb,0,none⟩,256,capz⟩ } : FS) ns T L:=H.congr rfl rfl rfl
 refine ld_b (t := .S) (x:=⟨some ⟨tb,0,none⟩,2^T,capx⟩) HB2 rfl ?_
 refine slc_hi (m:=2^T) (sh32 H.log) hcx ?_
 refine joinP_id ?_
 unfold q113_X24
 have HC2:Blk w2 c (arrC .i16 257 fun _=>0):=HC1.fr F2 (nm1 hbc.symm)
 refine ixA_o (k:=0) rfl (by omega) ?_
 refine st_u HC2 (by rw [arrC_get (by omega)];rfl) rfl ?_
 intro w3 HC3 F3
 rw [arrC_upd (by omega)] at HC3
 refine joinP_id ?_
 unfold drw
 simp only [add_mk,Nat.zero_add]
 have HB3:=HB2.fr F3 (nm1 hbc)
 have D3:Fm w3 w3.drew []:=(Fm.refl _ _).drew
 refine ld_b (t := .I .u16) (x:=((L:Nat):Int)) HB3.drew H2.symAt ?_
 have eL:IntKind.u16.wrap (((L:Nat):Int)-1)=((L-1:Nat):Int):=by rw [wU16 (by omega) (by omega)];omega
 rw [eL]
 refine slcA_hi rfl (by omega) (by omega) ?_
 rw [sh32 H.log,wU32 (x:=((2^T:Nat):Int)-1) (by omega) (by omega)]
 have HT3:=(HT2.fr F3 (nm1 n1)).fr D3 (by simp)
 refine bt1 H2 HB3.drew HC3.drew (by unfold updF;rfl) HT3 (by simpa using hFt) hcx hbc n4 n1.symm ?_
 intro w4 e φ G4 F4 he hlow hei hG4 HC4 HT4 hF4 hL4 Fr4
 have HB4:=HB3.drew.fr Fr4 (by simp;exact ⟨hbc,n4⟩)
 refine bt2 H2 HB4 HC4 hG4 HT4 hF4 hcx hL4 he hlow hei hbc n4 n1.symm ?_
 intro w5 e5 φ5 G5 F5 hlow5 he50 he5 hG5 HC5 HT5 hF5 hL5 Fr5
 have HB5:=HB4.fr Fr5 (by simp;exact ⟨hbc,n4⟩)
 unfold q113_J23
 simp only [add_mk,Nat.zero_add]
 refine st_u HB5 rfl rfl ?_
 intro w6 HB6 Fr6
 have HB6':=HB6.congr (FS.setT (s' := { s with ts:=⟨some ⟨tb,0,none⟩,2^T,capx⟩,st:=⟨some ⟨sb,0,none⟩,2^T,capy⟩,tt:=⟨some ⟨ttb,0,none⟩,256,capz⟩,zb:=false }) 18 rfl rfl rfl (by decide))
 refine joinP_id ?_
 have hsp2:=hsp
 unfold spreadZ at hsp2
 rw [←hlow5] at hsp2
 refine bt3 (H2.zb false) HB6' (HT5.fr Fr6 (nm1 n4.symm)) hF5 hcx hL5 n4 he50 he5 hsp2 ?_
 intro w7 zz F7 HB7 HT7 hF7 hL7 Fr7
 unfold q113_J21
 simp only [add_mk,Nat.zero_add]
 refine ld_b (t := .S) (x:=⟨some ⟨sb,0,none⟩,2^T,capy⟩) HB7 rfl ?_
 refine joinP_id ?_
 have HC7:=(HC5.fr Fr6 (nm1 hbc.symm)).fr Fr7 (by simp;exact ⟨hbc.symm,n1.symm⟩)
 have HS3:=(HS2.fr F3 (nm1 n2)).fr D3 (by simp)
 have HS5:=(HS3.fr Fr4 (by simp;exact ⟨n2,n7.symm⟩)).fr Fr5 (by simp;exact ⟨n2,n7.symm⟩)
 have HS7:=(HS5.fr Fr6 (nm1 n5.symm)).fr Fr7 (by simp;exact ⟨n5.symm,n7.symm⟩)
 refine bt4 H2 HC7 hG5 HT7 hL7 HS7 (by simpa using hHs) hcy n1.symm n2.symm n7 hf hcnt ?_
 intro w8 G8 H8 HC8 HS8 hS8 hZ8 Fr8
 have HB8:=HB7.fr Fr8 (by simp;exact ⟨hbc,n5⟩)
 unfold q113_J20
 refine joinP_id ?_
 unfold q113_X19 drw
 simp only [add_mk,Nat.zero_add]
 refine ld_b (t := .S) (x:=⟨some ⟨ttb,0,none⟩,256,capz⟩) HB8.drew rfl ?_
 refine ld_b (t := .I .u16) (x:=((L:Nat):Int)) HB8.drew (H2.zb zz).symAt ?_
 refine slc_hi (m:=L) rfl (by simp only;omega) ?_
 refine ld_b (t := .I .u8) (x:=((T:Nat):Int)) HB8.drew (H2.zb zz).atlAt ⟨by decide,by omega,?_⟩
 refine joinP_id ?_
 refine ld_b (t := .I .u16) (x:=((L:Nat):Int)) HB8.drew.drew (H2.zb zz).symAt ?_
 refine slcA_hi rfl (by omega) (by omega) ?_
 have D8:Fm w8 w8.drew.drew []:=(Fm.refl _ _).drew.drew
 have HZ3:=(HZ2.fr F3 (nm1 n3)).fr D3 (by simp)
 have HZ5:=(HZ3.fr Fr4 (by simp;exact ⟨n3,n8.symm⟩)).fr Fr5 (by simp;exact ⟨n3,n8.symm⟩)
 have HZ7:=(HZ5.fr Fr6 (nm1 n6.symm)).fr Fr7 (by simp;exact ⟨n6.symm,n8.symm⟩)
 have HZ8:=(HZ7.fr Fr8 (by simp;exact ⟨n3,n9.symm⟩)).fr D8 (by simp)
 refine bt5 (H2.zb zz) HB8.drew.drew HZ8 hHt (by omega) n6 ?_
 intro w9 H9 HZ9 hZ9 hT9 Fr9
 unfold q113_J17
 rw [sh32 H.log,wI16 (x:=((2^T:Nat):Int)) (by omega) (by omega)]
 refine cnd_nd (fun h=>absurd rfl h) (fun _ => ?_)
 unfold q113_J18
 have HB9:=HB8.drew.drew.fr Fr9 (nm1 n6)
 have HT9:=((HT7.fr Fr8 (by simp;exact ⟨n1,n7⟩)).fr D8 (by simp)).fr Fr9 (nm1 n8)
 have HS9:=(HS8.fr D8 (by simp)).fr Fr9 (nm1 n9)
 have Fall:Fm w w9 (b::(s.ts.bs++(s.st.bs++s.tt.bs))):=by
  have U:Fm w w9 [b,c,tb,sb,ttb]:=by
   refine ((((((((F1.mono (S' := [b,c,tb,sb,ttb]) (by simp)).trans F2 ?_).trans F3 ?_).trans D3 ?_).trans Fr4 ?_).trans Fr5 ?_).trans Fr6 ?_).trans Fr7 ?_).trans (((Fr8.mono (S' := [b,c,tb,sb,ttb]) ?_).trans D8 ?_).trans Fr9 ?_) ?_<;>(intro v hv;simp at hv ⊢;try omega)
  refine U.mono ?_
  intro v hv
  simp only [List.mem_cons,List.not_mem_nil,or_false,List.mem_append] at hv ⊢
  rcases hv with rfl|rfl|rfl|rfl|rfl
  ·exact .inl (.inl rfl)
  ·exact .inr (by omega)
  ·rcases hx6 with h|h
   ·exact .inl (.inr (.inl h))
   ·exact .inr (by omega)
  ·rcases hy6 with h|h
   ·exact .inl (.inr (.inr (.inl h)))
   ·exact .inr (by omega)
  ·rcases hz6 with h|h
   ·exact .inl (.inr (.inr (.inr h)))
   ·exact .inr (by omega)
 refine hk w9 tb sb ttb capx capy capz zz f H9 H8 hsp ⟨H.log,HZ9,HS9,?_⟩ (Own.of HT9 (by simpa using hF7) hcx) (Own.of HS9 (by simpa using hS8) hcy) (Own.of HZ9 hZ9 hcz) hcz HB9 Fall ?_ ?_ ?_ n4 n5 n6 n7 n8 n9
 ·intro t ht hpos
  have htL:t<L:=by
   by_cases h:t<L
   ·exact h
   ·rw [shareZ_out (by omega)] at hpos;omega
  have hcu:=cumZ_share (ns:=ns) (i:=t) (by omega)
  have hcl:=cumZ_le ns (t+1)
  have hsum:=H.sum
  obtain ⟨t1,t2⟩:=hT9 t htL hpos
  refine ⟨by omega,t1,t2,by omega,?_⟩
  intro j hj
  have hj2:j<cntZ f t (2^T):=by rw [hcnt];exact hj
  exact ⟨hZ8 t htL j hj2,(posZ_spec hj2).1⟩
 ·rcases hx6 with h|h
  ·exact .inl h
  ·exact .inr (by omega)
 ·rcases hy6 with h|h
  ·exact .inl h
  ·exact .inr (by omega)
 ·rcases hz6 with h|h
  ·exact .inl h
  ·exact .inr (by omega)
def smI (φ:Nat→Int→Nat) (nf:Nat→Int):Nat→Nat
 | 0=>0
 | i+1=>smI φ nf i+φ i (nf i)
theorem smI_congr {φ ψ:Nat→Int→Nat} {nf nf':Nat→Int} : ∀ {i:Nat},(∀j,j<i→φ j (nf j)=ψ j (nf' j))→smI φ nf i=smI ψ nf' i
 | 0,_=>rfl
 | i+1,h=>by rw [smI,smI,smI_congr (i:=i) (fun j hj=>h j (by omega)),h i (by omega)]
theorem smI_next (φ:Nat→Int→Nat) (nf:Nat→Int) (i:Nat) (v:Int):smI φ (updF nf i v) (i+1)=smI φ nf i+φ i v:=by
 rw [smI,smI_congr (nf':=nf) (ψ:=φ) (fun j hj=>by unfold updF;rw [if_neg (by omega)])]
 unfold updF
 rw [if_pos rfl]
theorem smI_upd (φ:Nat→Int→Nat) (nf:Nat→Int) (k:Nat) (v:Int):∀i,k<i→smI φ (updF nf k v) i+φ k (nf k)=smI φ nf i+φ k v
 | 0,h=>by omega
 | i+1,h=>by
  by_cases e:k=i
  ·subst e
   rw [smI_next,smI];omega
  ·have:=smI_upd φ nf k v i (by omega)
   rw [smI,smI]
   have h2:updF nf k v i=nf i:=by unfold updF;rw [if_neg (by omega)]
   rw [h2];omega
theorem smI_mono (φ:Nat→Int→Nat) (nf:Nat→Int) {i j:Nat} (h:i≤j):smI φ nf i≤smI φ nf j:=by
 induction j with
 | zero=>have:i=0:=(by omega);subst this;exact Nat.le_refl _
 | succ j ih =>
  by_cases e:i=j+1
  ·subst e;exact Nat.le_refl _
  ·have:=ih (by omega)
   rw [smI];omega
theorem smI_ge (φ:Nat→Int→Nat) (nf:Nat→Int) {i j:Nat} (h:i<j):φ i (nf i)≤smI φ nf j:=by
 have:=smI_mono φ nf (show i+1≤j by omega)
 rw [smI] at this;omega
def gA (_:Nat) (x:Int):Nat:=if x = -2 then 0 else absZ x
def gR (cs:Nat→Nat) (j:Nat) (x:Int):Nat:=if x = -2 then cs j else 0
def gC (cs:Nat→Nat) (j:Nat) (_:Int):Nat:=cs j
def gS (_:Nat) (x:Int):Nat:=absZ x
theorem sumZ_map (nf:Nat→Int) (L:Nat):sumZ ((List.range L).map nf)=smI gS nf L:=by
 induction L with
 | zero=>rfl
 | succ L ih =>
  rw [List.range_succ,List.map_append,smI, ←ih]
  unfold sumZ
  simp [gS]
structure CS (S:FS) (cs:Nat→Nat) (T L n:Nat):Prop where
 log:LogOK T
 atl:S.atl=(T:Nat)
 symL:S.symL=(L:Nat)
 br:S.br.l=n
 off:S.brOff=0
 l2:2≤L
 l12:L≤12
 n2:2≤n
 n256:n<256
 cnt:∀i,i<L→S.count i=(cs i:Nat)
 sum:smI (gC cs) (fun _=>0) L=n
theorem CS.nm {S:FS} {cs:Nat→Nat} {T L n:Nat} (C:CS S cs T L n) (nf:Nat→Int):CS { S with norm:=nf } cs T L n:=⟨C.log,C.atl,C.symL,C.br,C.off,C.l2,C.l12,C.n2,C.n256,C.cnt,C.sum⟩
theorem CS.symAt {S:FS} {cs:Nat→Nat} {T L n:Nat} (C:CS S cs T L n):S.at 528=some (.int .u16 (L:Nat)):=by show some (Value.int .u16 S.symL)=_;rw [C.symL]
theorem CS.atlAt {S:FS} {cs:Nat→Nat} {T L n:Nat} (C:CS S cs T L n):S.at 529=some (.int .u8 (T:Nat)):=by show some (Value.int .u8 S.atl)=_;rw [C.atl]
theorem CS.offAt {S:FS} {cs:Nat→Nat} {T L n:Nat} (C:CS S cs T L n):S.at 513=some (.int .i64 (0:Nat)):=by show some (Value.int .i64 S.brOff)=_;rw [C.off];rfl
theorem CS.cntAt {S:FS} {cs:Nat→Nat} {T L n i:Nat} (C:CS S cs T L n) (hi:i<L):S.at i=some (.int .u32 (cs i:Nat)):=by
 have:=C.l12
 rw [FS.count_at _ (by omega),C.cnt i hi]
theorem CS.lt {S:FS} {cs:Nat→Nat} {T L n i:Nat} (C:CS S cs T L n) (hi:i<L):smI (gC cs) (fun _=>0) i+cs i≤n:=by
 have:=smI_mono (gC cs) (fun _=>0) (show i+1≤L by omega)
 rw [smI,C.sum] at this
 exact this
def Tri (cs:Nat→Nat) (nf:Nat→Int) (i:Nat):Prop:=∀j,j<i→(cs j=0∧nf j=0)∨(cs j≠0∧(nf j = -1∨nf j=1∨nf j = -2))
theorem Tri.next {cs:Nat→Nat} {nf:Nat→Int} {i:Nat} {v:Int} (h:Tri cs nf i) (hv:(cs i=0∧v=0)∨(cs i≠0∧(v = -1∨v=1∨v = -2))):Tri cs (updF nf i v) (i+1):=by
 intro j hj
 unfold updF
 by_cases e:j=i
 ·subst e;rw [if_pos rfl];exact hv
 ·rw [if_neg e];exact h j (by omega)
theorem Tri.upd {cs:Nat→Nat} {nf:Nat→Int} {i k:Nat} {v:Int} (h:Tri cs nf i) (hv:(cs k=0∧v=0)∨(cs k≠0∧(v = -1∨v=1∨v = -2))):Tri cs (updF nf k v) i:=by
 intro j hj
 unfold updF
 by_cases e:j=k
 ·subst e;rw [if_pos rfl];exact hv
 ·rw [if_neg e];exact h j hj
def nA (n T c:Nat):Int:=if c=0 then 0 else if c≤n/2^T then -1 else if c≤n*3/2^(T+1) then 1 else -2
def nB (lo:Nat) (x:Int) (c:Nat):Int:=if x = -2∧c≤lo then 1 else x
section
variable {T L n:Nat} {w:World} {b:Nat} {S:FS} {cs:Nat→Nat}
theorem n2a {R5:Int×Int→PT} (C:CS S cs T L n) (HB:Blk w b S.at)
  (hk:∀w' nf d t,(∀j,j<L→nf j=nA n T (cs j))→Tri cs nf L→d=smI gA nf L→t=smI (gR cs) nf L→n≤t+L*(n*3/2^(T+1))→d≤L→t≤n→Blk w' b ({ S with norm:=nf } : FS).at→Fm w w' [b]→R5 ((d:Int),(t:Int)) w') :
  loopP ((0:Int),((n:Nat):Int),(0:Int)) (q136_L2 ⟨b,0,none⟩ ((n:Nat):Int) ((T:Nat):Int) R5 ⟨some ⟨b,0,none⟩,L,256⟩) w:=by
 have hl2:=C.l2
 have hl12:=C.l12
 have hn2:=C.n2
 have hn:=C.n256
 have hT6:T=5∨T=6:=C.log
 refine ⟨fun x w'=>∃(d t i:Nat) (nf:Nat→Int),x=((d:Int),(t:Int),(i:Int))∧i≤L∧(∀j,j<i→nf j=nA n T (cs j))∧Tri cs nf i∧d=smI gA nf i∧t+smI (gC cs) (fun _=>0) i=smI (gR cs) nf i+n∧n≤t+i*(n*3/2^(T+1))∧d≤i∧t≤n∧Blk w' b ({ S with norm:=nf } : FS).at∧Fm w w' [b],
  fun x _=>L-x.2.2.toNat,⟨0,n,0,S.norm,rfl,Nat.zero_le _,(fun j hj=>absurd hj (Nat.not_lt_zero _)),(fun j hj=>absurd hj (Nat.not_lt_zero _)),rfl,by simp [smI],by omega,Nat.le_refl _,Nat.le_refl _,HB,Fm.refl _ _⟩,?_⟩
 rintro x w2 ⟨d,t,i,nf,rfl,hi,hEx,hTri,hd,ht,hlo,hdi,htn,HB2,Fr⟩
 unfold q136_L2
 simp only
 refine cnd_d ?_ ?_
 ·intro hc
  have hi2:i<L:=by omega
  have C2:=C.nm nf
  have hlt:=C.lt hi2
  have e1:shrI .u32 (IntKind.u32.wrap ((n:Nat):Int)) ((T:Nat):Int)=((n/2^T:Nat):Int):=by
   rw [wU32 (by omega) (by omega)];exact shrI_nat .u32 n T (by simp only [IntKind.bits];omega)
  have e2:shrI .u32 (IntKind.u32.wrap (IntKind.u32.wrap ((n:Nat):Int)*3)) (IntKind.u8.wrap (((T:Nat):Int)+1))=((n*3/2^(T+1):Nat):Int):=by
   rw [wU32 (x:=((n:Nat):Int)) (by omega) (by omega),wU32 (by omega) (by omega),wU8 (by omega) (by omega)]
   exact shrI_nat .u32 (n*3) (T+1) (by simp only [IntKind.bits];omega)
  have hle:n/2^T≤n*3/2^(T+1):=by rcases hT6 with rfl|rfl<;>omega
  have e64:IntKind.i64.wrap ((i:Int)+1)=((i+1:Nat):Int):=by rw [wI64 (by omega) (by omega)];omega
  have hnA:nA n T (cs i)=if cs i=0 then 0 else if cs i≤n/2^T then -1 else if cs i≤n*3/2^(T+1) then 1 else -2:=rfl
  generalize hlow:n*3/2^(T+1)=lo at *
  generalize n/2^T=lt at *
  have hms:(i+1)*lo=i*lo+lo:=Nat.succ_mul _ _
  refine joinP_id ?_
  unfold q136_X1 q136_J0
  simp only [add_mk,Nat.zero_add]
  refine ixS_o rfl (by omega) ?_
  rw [Nat.zero_add]
  refine ld_b (t := .I .u32) (x:=((cs i:Nat):Int)) HB2 (C2.cntAt hi2) ?_
  rw [e1,e2,e64]
  have wr:∀(v:Int) (d' t':Nat) (x1 x2:Int),v=nA n T (cs i)→((cs i=0∧v=0)∨(cs i≠0∧(v = -1∨v=1∨v = -2)))→d'=d+gA i v→t'+cs i=t+gR cs i v→n≤t'+(i+1)*lo→d'≤i+1→t'≤n→x1=(d':Int)→x2=(t':Int) →
    (ixA 1 256 ⟨b,256,none⟩ (i:Int) fun (p:Addr)=>st p (.int .i16 v)<|fun w'=>(∃(d t j:Nat) (nf:Nat→Int),(x1,x2,((i+1:Nat):Int))=((d:Int),(t:Int),(j:Int))∧j≤L∧(∀m,m<j→nf m=nA n T (cs m))∧Tri cs nf j∧d=smI gA nf j∧t+smI (gC cs) (fun _=>0) j=smI (gR cs) nf j+n∧n≤t+j*lo∧d≤j∧t≤n∧Blk w' b ({ S with norm:=nf } : FS).at∧Fm w w' [b])∧L-((i+1:Nat):Int).toNat<L-((i:Nat):Int).toNat) w2:=by
   rintro v d' t' x1 x2 hvA hv h1 h2 h3 h4 h5 rfl rfl
   refine ixA_o rfl (by omega) ?_
   refine st_u HB2 (by rw [FS.norm_at _ (by omega)];rfl) rfl ?_
   intro w3 HB3 F3
   rw [FS.setN (by omega)] at HB3
   refine ⟨⟨d',t',i+1,updF nf i v,rfl,by omega,?_,hTri.next hv,?_,?_,h3,h4,h5,HB3,Fr.trans F3 (fun x hx => .inl hx)⟩,by simp only [Int.toNat_natCast];omega⟩
   ·intro j hj
    unfold updF
    by_cases e:j=i
    ·subst e;rw [if_pos rfl];exact hvA
    ·rw [if_neg e];exact hEx j (by omega)
   ·rw [smI_next];omega
   ·rw [smI_next,smI]
    show t'+(smI (gC cs) (fun _=>0) i+cs i)=_
    omega
  refine cnd_d ?_ ?_
  ·intro h0
   have h0':cs i=0:=by omega
   exact wr 0 d t _ _ (by rw [hnA,if_pos h0']) (.inl ⟨h0',rfl⟩) (by show d=d+absZ 0;rfl) (by rw [h0'];rfl) (by omega) (by omega) htn rfl rfl
  ·intro h0
   have h0':cs i≠0:=by omega
   refine cnd_d ?_ ?_
   ·intro h1
    exact wr (-1) (d+1) (t-cs i) _ _ (by rw [hnA,if_neg h0',if_pos (by omega)]) (.inr ⟨h0',.inl rfl⟩) rfl (by show _=t+0;omega) (by omega) (by omega) (by omega) (by rw [wU32 (by omega) (by omega)];omega) (by rw [wU32 (by omega) (by omega)];omega)
   ·intro h1
    refine cnd_d ?_ ?_
    ·intro h2
     exact wr 1 (d+1) (t-cs i) _ _ (by rw [hnA,if_neg h0',if_neg (by omega),if_pos (by omega)]) (.inr ⟨h0',.inr (.inl rfl)⟩) rfl (by show _=t+0;omega) (by omega) (by omega) (by omega) (by rw [wU32 (by omega) (by omega)];omega) (by rw [wU32 (by omega) (by omega)];omega)
    ·intro h2
     exact wr (-2) d t _ _ (by rw [hnA,if_neg h0',if_neg (by omega),if_neg (by omega)]) (.inr ⟨h0',.inr (.inr rfl)⟩) rfl rfl (by omega) (by omega) htn rfl rfl
 ·intro hc
  have hi2:i=L:=by omega
  subst hi2
  have hsum:=C.sum
  exact hk w2 nf d t hEx hTri hd (by omega) hlo hdi htn HB2 Fr
theorem n2b {R20:Int×Int→PT} {d0 t0:Nat} {nf0:Nat→Int} (C:CS S cs T L n) (HB:Blk w b ({ S with norm:=nf0 } : FS).at) (hTri:Tri cs nf0 L) (hd:d0=smI gA nf0 L) (ht:t0=smI (gR cs) nf0 L) (hdL:d0≤L) (htn:t0≤n)
  (hk:∀w' nf d t,(∀j,j<L→nf j=nB (t0*3/((2^T-d0)*2)) (nf0 j) (cs j))→Tri cs nf L→d=smI gA nf L→t=smI (gR cs) nf L→t0≤t+L*(t0*3/((2^T-d0)*2))→d≤L→t≤n→Blk w' b ({ S with norm:=nf } : FS).at→Fm w w' [b]→R20 ((d:Int),(t:Int)) w') :
  loopP ((d0:Int),((t0:Nat):Int),(0:Int)) (q136_L5 ⟨b,0,none⟩ ((T:Nat):Int) ((d0:Int),(t0:Int)) R20 ⟨some ⟨b,0,none⟩,L,256⟩) w:=by
 have hl2:=C.l2
 have hl12:=C.l12
 have hn2:=C.n2
 have hn:=C.n256
 have hTp:=C.log.pow
 have cntD:∀nf,Tri cs nf L→smI gA nf L≤L:=by
  intro nf h
  have:∀i,i≤L→smI gA nf i≤i:=by
   intro i
   induction i with
   | zero=>intro _;exact Nat.le_refl _
   | succ i ih =>
    intro hi
    have:=ih (by omega)
    have hg:gA i (nf i)≤1:=by
     rcases h i (by omega) with ⟨_,h⟩|⟨_,h|h|h⟩<;>rw [h]<;>unfold gA<;>decide
    rw [smI];omega
  exact this L (Nat.le_refl _)
 refine ⟨fun x w'=>∃(d t i:Nat) (nf:Nat→Int),x=((d:Int),(t:Int),(i:Int))∧i≤L∧(∀j,j<L→nf j=if j<i then nB (t0*3/((2^T-d0)*2)) (nf0 j) (cs j) else nf0 j)∧Tri cs nf L∧d=smI gA nf L∧t=smI (gR cs) nf L∧t0≤t+i*(t0*3/((2^T-d0)*2))∧t≤n∧Blk w' b ({ S with norm:=nf } : FS).at∧Fm w w' [b],
  fun x _=>L-x.2.2.toNat,⟨d0,t0,0,nf0,rfl,Nat.zero_le _,(fun j hj=>(if_neg (Nat.not_lt_zero _)).symm),hTri,hd,ht,by omega,htn,HB,Fm.refl _ _⟩,?_⟩
 rintro x w2 ⟨d,t,i,nf,rfl,hi,hEx,hTri2,hd2,ht2,hlo,htn2,HB2,Fr⟩
 unfold q136_L5
 simp only
 refine cnd_d ?_ ?_
 ·intro hc
  have hi2:i<L:=by omega
  have C2:=C.nm nf
  have hlt:=C.lt hi2
  have hdl:=cntD nf hTri2
  have e2:quoI .u32 (IntKind.u32.wrap ((t0:Int)*3)) (IntKind.u32.wrap (IntKind.u32.wrap (shlI .u32 1 ((T:Nat):Int)-(d0:Int))*2))=((t0*3/((2^T-d0)*2):Nat):Int):=by
   rw [sh32 C.log,wU32 (x:=(t0:Int)*3) (by omega) (by omega),wU32 (x:=((2^T:Nat):Int)-(d0:Int)) (by omega) (by omega),wU32 (by omega) (by omega)]
   have:=quoI_nat .u32 (t0*3) ((2^T-d0)*2) (by simp only [IntKind.bits];omega)
   rw [show ((t0*3:Nat):Int)=(t0:Int)*3 by omega,show (((2^T-d0)*2:Nat):Int)=(((2^T:Nat):Int)-(d0:Int))*2 by omega] at this
   exact this
  have e64:IntKind.i64.wrap ((i:Int)+1)=((i+1:Nat):Int):=by rw [wI64 (by omega) (by omega)];omega
  generalize hlow:t0*3/((2^T-d0)*2)=lo at *
  have hExi:nf i=nf0 i:=by rw [hEx i hi2,if_neg (Nat.lt_irrefl _)]
  have hnx:∀v:Int,v=nB lo (nf0 i) (cs i)→∀j,j<L→updF nf i v j=if j<i+1 then nB lo (nf0 j) (cs j) else nf0 j:=by
   intro v hv j hj
   unfold updF
   by_cases e:j=i
   ·subst e;rw [if_pos rfl,if_pos (by omega)];exact hv
   ·rw [if_neg e,hEx j hj]
    by_cases e2:j<i
    ·rw [if_pos e2,if_pos (by omega)]
    ·rw [if_neg e2,if_neg (by omega)]
  have hself:updF nf i (nf i)=nf:=by
   funext j
   unfold updF
   split
   ·subst_vars;rfl
   ·rfl
  have hms:(i+1)*lo=i*lo+lo:=Nat.succ_mul _ _
  refine joinP_id ?_
  unfold q136_X4 q136_J3
  simp only [add_mk,Nat.zero_add]
  refine ixS_o rfl (by omega) ?_
  rw [Nat.zero_add]
  refine ld_b (t := .I .u32) (x:=((cs i:Nat):Int)) HB2 (C2.cntAt hi2) ?_
  refine ixA_o rfl (by omega) ?_
  refine ld_b (t := .I .i16) (x:=nf i) HB2 (FS.norm_at _ (by omega)) ?_
  rw [e2,e64]
  have same:nf i=nB lo (nf0 i) (cs i)→(∃(d' t' j:Nat) (nf:Nat→Int),((d:Int),(t:Int),((i+1:Nat):Int))=((d':Int),(t':Int),(j:Int))∧j≤L∧(∀k,k<L→nf k=if k<j then nB lo (nf0 k) (cs k) else nf0 k)∧Tri cs nf L∧d'=smI gA nf L∧t'=smI (gR cs) nf L∧t0≤t'+j*lo∧t'≤n∧Blk w2 b ({ S with norm:=nf } : FS).at∧Fm w w2 [b])∧L-((i+1:Nat):Int).toNat<L-((i:Nat):Int).toNat :=
   fun he=>⟨⟨d,t,i+1,nf,rfl,by omega,(by have:=hnx _ he;rw [hself] at this;exact this),hTri2,hd2,ht2,by omega,htn2,HB2,Fr⟩,by simp only [Int.toNat_natCast];omega⟩
  refine cnd_d ?_ ?_
  ·intro h0
   refine cnd_d ?_ ?_
   ·intro h1
    have hcs:cs i≠0:=by
     rcases hTri2 i hi2 with ⟨_,h⟩|⟨h,_⟩
     ·omega
     ·exact h
    have hR:=smI_upd (gR cs) nf i 1 L hi2
    have hA:=smI_upd gA nf i 1 L hi2
    have g1:gR cs i (nf i)=cs i:=by unfold gR;rw [if_pos h0]
    have g2:gR cs i 1=0:=rfl
    have g3:gA i (nf i)=0:=by unfold gA;rw [if_pos h0]
    have g4:gA i 1=1:=rfl
    rw [g1,g2] at hR
    rw [g3,g4] at hA
    refine ixA_o rfl (by omega) ?_
    refine st_u HB2 (by rw [FS.norm_at _ (by omega)];rfl) rfl ?_
    intro w3 HB3 F3
    rw [FS.setN (by omega)] at HB3
    refine ⟨⟨d+1,t-cs i,i+1,updF nf i 1,?_,by omega,hnx 1 (by unfold nB;exact Eq.symm (if_pos ⟨by omega,by omega⟩)),hTri2.upd (.inr ⟨hcs,.inr (.inl rfl)⟩),by omega,by omega,by omega,by omega,HB3,Fr.trans F3 (fun x hx => .inl hx)⟩,by simp only [Int.toNat_natCast];omega⟩
    rw [wU32 (by omega) (by omega),wU32 (by omega) (by omega)]
    rw [show ((d+1:Nat):Int)=(d:Int)+1 by omega,show ((t-cs i:Nat):Int)=(t:Int)-(cs i:Int) by omega]
   ·intro h1
    exact same (by unfold nB;rw [if_neg (fun h=>h1 (by omega)),hExi])
  ·intro h0
   exact same (by unfold nB;rw [if_neg (fun h=>h0 (by omega)),hExi])
 ·intro hc
  have hi2:i=L:=by omega
  subst hi2
  exact hk w2 nf d t (fun j hj=>by rw [hEx j hj,if_pos hj]) hTri2 hd2 ht2 hlo (by have:=cntD nf hTri2;omega) htn2 HB2 Fr
end
structure Normed (cs:Nat→Nat) (nf:Nat→Int) (T L:Nat):Prop where
 zero:∀j,j<L→(nf j=0↔cs j=0)
 ge:∀j,j<L → -1≤nf j
 sum:smI gS nf L=2^T
theorem rest_num {V t D:Nat} (hV:V=2^57∨V=2^56) (ht:0<t) (ht2:t<256) (hD:D≤64):(V/2-1+t*((V*D+(V/2-1))/t))/V=D∧t*((V*D+(V/2-1))/t)≤V*D+(V/2-1):=by
 have h1:=Nat.mul_div_le (V*D+(V/2-1)) t
 have h2:=Nat.lt_mul_div_succ (V*D+(V/2-1)) ht
 rw [Nat.mul_add,Nat.mul_one] at h2
 generalize t*((V*D+(V/2-1))/t)=q at *
 have h3:D*V=V*D:=Nat.mul_comm _ _
 have h4:(D+1)*V=V*D+V:=by rw [Nat.add_mul,Nat.one_mul,h3]
 generalize V*D=X at *
 refine ⟨Nat.div_eq_of_lt_le (by omega) (by omega),h1⟩
def f1Z (cs:Nat→Nat) (T n:Nat) (j:Nat):Int:=nA n T (cs j)
def d1Z (cs:Nat→Nat) (T L n:Nat):Nat:=smI gA (f1Z cs T n) L
def t1Z (cs:Nat→Nat) (T L n:Nat):Nat:=smI (gR cs) (f1Z cs T n) L
def f2Z (cs:Nat→Nat) (T L n:Nat) (j:Nat):Int :=
 if n*3/2^(T+1)<t1Z cs T L n/(2^T-d1Z cs T L n) then nB (t1Z cs T L n*3/((2^T-d1Z cs T L n)*2)) (f1Z cs T n j) (cs j) else f1Z cs T n j
def rZ (T d t:Nat):Nat:=(2^(62-T)*(2^T-d)+(2^(62-T)/2-1))/t
def f3Z (cs:Nat→Nat) (T d t:Nat) (f:Nat→Int) (j:Nat):Int :=
 if f j = -2 then (((2^(62-T)/2-1+(smI (gR cs) f j+cs j)*rZ T d t)/2^(62-T):Nat):Int)-(((2^(62-T)/2-1+smI (gR cs) f j*rZ T d t)/2^(62-T):Nat):Int) else f j
def ok3 (cs:Nat→Nat) (T L d t:Nat) (f:Nat→Int):Prop:=∀j,j<L→f j = -2→1≤f3Z cs T d t f j
def n2Z (cs:Nat→Nat) (T L n:Nat) (j:Nat):Int:=f3Z cs T (smI gA (f2Z cs T L n) L) (smI (gR cs) (f2Z cs T L n) L) (f2Z cs T L n) j
def n2Ok (cs:Nat→Nat) (T L n:Nat):Prop:=ok3 cs T L (smI gA (f2Z cs T L n) L) (smI (gR cs) (f2Z cs T L n) L) (f2Z cs T L n)
theorem f3Z_congr {cs:Nat→Nat} {T L d t:Nat} {f f':Nat→Int} (h:∀j,j<L→f j=f' j) {j:Nat} (hj:j<L):f3Z cs T d t f j=f3Z cs T d t f' j:=by
 unfold f3Z
 rw [h j hj,smI_congr (φ:=gR cs) (ψ:=gR cs) (nf:=f) (nf':=f') (i:=j) (fun k hk=>by rw [h k (by omega)])]
theorem ok3_congr {cs:Nat→Nat} {T L d t:Nat} {f f':Nat→Int} (h:∀j,j<L→f j=f' j):ok3 cs T L d t f↔ok3 cs T L d t f':=by
 unfold ok3
 constructor
 ·intro a j hj h2
  rw [←f3Z_congr h hj]
  exact a j hj ((h j hj).trans h2)
 ·intro a j hj h2
  rw [f3Z_congr h hj]
  exact a j hj ((h j hj).symm.trans h2)
section
variable {T L n:Nat} {w:World} {b:Nat} {S:FS} {cs:Nat→Nat}
theorem sh64u {T:Nat} (hT:LogOK T):IntKind.u64.wrap (62-IntKind.u64.wrap ((T:Nat):Int))=((62-T:Nat):Int)∧shlI .u64 1 ((62-T:Nat):Int)=((2^(62-T):Nat):Int)∧IntKind.u64.wrap (IntKind.u64.wrap ((62-T:Nat):Int)-1)=((61-T:Nat):Int)∧IntKind.u64.wrap (((62-T:Nat):Int)-1)=((61-T:Nat):Int) ∧
  IntKind.u64.wrap (shlI .u64 1 ((61-T:Nat):Int)-1)=((2^(62-T)/2-1:Nat):Int)∧(2^(62-T)=2^57∨2^(62-T)=2^56)∧2^(62-T)*2^T=2^62:=by
 rcases hT with rfl|rfl
 ·exact ⟨rfl,rfl,rfl,rfl,rfl,.inl rfl,rfl⟩
 ·exact ⟨rfl,rfl,rfl,rfl,rfl,.inr rfl,rfl⟩
theorem n2c {K1:Value→PT} {R64:Unit→PT} {x33a:Int} {d t D:Nat} {nf0:Nat→Int} (C:CS S cs T L n) (HB:Blk w b ({ S with norm:=nf0 } : FS).at) (hTri:Tri cs nf0 L) (hd:d=smI gA nf0 L) (ht:t=smI (gR cs) nf0 L) (ht0:0<t) (htn:t≤n) (hdL:d≤L) (hD:D=2^T-d)
  (hk0:∀w' v nf,isPE v=true→isNil v=false→¬ok3 cs T L d t nf0→Blk w' b ({ S with norm:=nf } : FS).at→Fm w w' [b]→K1 v w')
  (hk:∀w' nf,Normed cs nf T L→ok3 cs T L d t nf0→(∀j,j<L→nf j=f3Z cs T d t nf0 j)→Blk w' b ({ S with norm:=nf } : FS).at→Fm w w' [b]→R64 () w') :
  loopP ((((2^(62-T)/2-1:Nat):Int)),(0:Int)) (q136_L16 ⟨b,0,none⟩ K1 ((T:Nat):Int) (x33a,(t:Int),(D:Int)) (D:Int) R64 ⟨some ⟨b,0,none⟩,L,256⟩) w:=by
 have hl2:=C.l2
 have hl12:=C.l12
 have hn2:=C.n2
 have hn:=C.n256
 have hTp:=C.log.pow
 obtain ⟨u1,u2,u3,u4,u5,u6,u7⟩:=sh64u C.log
 obtain ⟨r1,r2⟩:=rest_num (D:=D) u6 ht0 (by omega) (by omega)
 have hD64:D≤64:=by omega
 have eN:IntKind.u64.wrap (IntKind.u64.wrap (shlI .u64 1 ((62-T:Nat):Int)*IntKind.u64.wrap (D:Int))+IntKind.u64.wrap (shlI .u64 1 ((61-T:Nat):Int)-1))=((2^(62-T)*D+(2^(62-T)/2-1):Nat):Int):=by
  rw [u5,u2,wU64 (x:=(D:Int)) (by omega) (by omega)]
  have:((2^(62-T):Nat):Int)*(D:Int)=((2^(62-T)*D:Nat):Int):=by rw [Int.natCast_mul]
  rw [this]
  have h8:2^(62-T)*D≤2^(62-T)*2^T:=Nat.mul_le_mul_left _ (by omega)
  rw [u7] at h8
  generalize 2^(62-T)*D=X at *
  generalize 2^(62-T)=V at *
  rw [wU64 (x:=(X:Int)) (by omega) (by omega),wU64 (by omega) (by omega)];omega
 have hX:2^(62-T)*D+(2^(62-T)/2-1)<2^63:=by
  have h8:2^(62-T)*D≤2^(62-T)*2^T:=Nat.mul_le_mul_left _ (by omega)
  rw [u7] at h8
  generalize 2^(62-T)*D=X at *
  omega
 have eQ:quoI .u64 ((2^(62-T)*D+(2^(62-T)/2-1):Nat):Int) (IntKind.u64.wrap (t:Int))=(((2^(62-T)*D+(2^(62-T)/2-1))/t:Nat):Int):=by
  rw [wU64 (x:=(t:Int)) (by omega) (by omega)]
  exact quoI_nat .u64 _ _ hX
 have hf3:∀j,f3Z cs T d t nf0 j=if nf0 j = -2 then (((2^(62-T)/2-1+(smI (gR cs) nf0 j+cs j)*((2^(62-T)*D+(2^(62-T)/2-1))/t))/2^(62-T):Nat):Int)-(((2^(62-T)/2-1+smI (gR cs) nf0 j*((2^(62-T)*D+(2^(62-T)/2-1))/t))/2^(62-T):Nat):Int) else nf0 j:=fun j=>by rw [hD];rfl
 generalize hr:(2^(62-T)*D+(2^(62-T)/2-1))/t=r at *
 have hVp:0<2^(62-T):=Nat.two_pow_pos _
 generalize hVV:2^(62-T)=V at *
 have hmt:V/2-1+t*r<2^63:=by
  have h8:V*D≤2^62:=by
   have:V*D≤V*2^T:=Nat.mul_le_mul_left _ (by omega)
   rw [u7] at this;exact this
  generalize V*D=X at *
  omega
 refine ⟨fun x w'=>∃(tmp i:Nat) (nf:Nat→Int),x=((tmp:Int),(i:Int))∧i≤L∧tmp=V/2-1+smI (gR cs) nf0 i*r∧(∀j,j<L→nf j=if j<i then f3Z cs T d t nf0 j else nf0 j)∧(∀j,j<i→nf0 j = -2→1≤f3Z cs T d t nf0 j)∧(∀j,j<L→(nf j=0↔cs j=0)∧(-1≤nf j∨nf j = -2))∧(∀j,j<i→nf j ≠ -2)∧smI gA nf L=d+tmp/V∧tmp+smI (gR cs) nf L*r=V/2-1+t*r∧Blk w' b ({ S with norm:=nf } : FS).at∧Fm w w' [b],
  fun x _=>L-x.2.toNat,⟨V/2-1,0,nf0,rfl,Nat.zero_le _,by rw [smI,Nat.zero_mul,Nat.add_zero],(fun j hj=>(if_neg (Nat.not_lt_zero _)).symm),(fun j hj=>absurd hj (Nat.not_lt_zero _)),?_,(fun j hj=>absurd hj (Nat.not_lt_zero _)),?_,?_,HB,Fm.refl _ _⟩,?_⟩
 ·intro j hj
  rcases hTri j hj with ⟨h1,h2⟩|⟨h1,h2|h2|h2⟩<;>omega
 ·rw [←hd,Nat.div_eq_of_lt (by omega)];omega
 ·rw [←ht]
 rintro x w2 ⟨tmp,i,nf,rfl,hi,hTm,hEx,hOk,hz,hdone,hA,hR,HB2,Fr⟩
 unfold q136_L16
 simp only
 refine cnd_d ?_ ?_
 ·intro hc
  have hi2:i<L:=by omega
  have C2:=C.nm nf
  have hlt:=C.lt hi2
  have e64:IntKind.i64.wrap ((i:Int)+1)=((i+1:Nat):Int):=by rw [wI64 (by omega) (by omega)];omega
  refine joinP_id ?_
  unfold q136_X15 q136_J14
  simp only [add_mk,Nat.zero_add]
  refine ixS_o rfl (by omega) ?_
  rw [Nat.zero_add]
  refine ld_b (t := .I .u32) (x:=((cs i:Nat):Int)) HB2 (C2.cntAt hi2) ?_
  refine ixA_o rfl (by omega) ?_
  refine ld_b (t := .I .i16) (x:=nf i) HB2 (FS.norm_at _ (by omega)) ?_
  rw [u1,e64]
  refine cnd_d ?_ ?_
  ·intro h0
   have hcs:cs i≠0:=fun h=>by have:=(hz i hi2).1.mpr h;omega
   have hRi:=smI_ge (gR cs) nf hi2
   have g1:gR cs i (nf i)=cs i:=by unfold gR;rw [if_pos h0]
   have g3:gA i (nf i)=0:=by unfold gA;rw [if_pos h0]
   rw [g1] at hRi
   have hsplit:smI (gR cs) nf L*r=(smI (gR cs) nf L-cs i)*r+cs i*r:=by rw [←Nat.add_mul,Nat.sub_add_cancel hRi]
   have hend:tmp+cs i*r≤V/2-1+t*r:=by omega
   have ecs:IntKind.u64.wrap ((cs i:Nat):Int)=((cs i:Nat):Int):=wU64 (by omega) (by omega)
   have eE:IntKind.u64.wrap ((tmp:Int)+IntKind.u64.wrap (((cs i:Nat):Int)*((r:Nat):Int)))=((tmp+cs i*r:Nat):Int):=by
    have:((cs i:Nat):Int)*((r:Nat):Int)=((cs i*r:Nat):Int):=by rw [Int.natCast_mul]
    rw [this]
    generalize cs i*r=q at *
    rw [wU64 (x:=(q:Int)) (by omega) (by omega),wU64 (by omega) (by omega)];omega
   have hdl:(tmp+cs i*r)/V≤D:=by
    rw [←r1]
    exact Nat.div_le_div_right hend
   have hdm:tmp/V≤(tmp+cs i*r)/V:=Nat.div_le_div_right (by omega)
   rw [u4,eN,eQ,ecs,eE]
   have es1:shrI .u64 ((tmp+cs i*r:Nat):Int) ((62-T:Nat):Int)=(((tmp+cs i*r)/V:Nat):Int):=by
    rw [←hVV];exact shrI_nat .u64 _ _ (by simp only [IntKind.bits];omega)
   have es2:shrI .u64 (tmp:Int) ((62-T:Nat):Int)=((tmp/V:Nat):Int):=by
    rw [←hVV];exact shrI_nat .u64 _ _ (by simp only [IntKind.bits];omega)
   rw [es1,es2]
   have hExi:nf i=nf0 i:=by rw [hEx i hi2,if_neg (Nat.lt_irrefl _)]
   have hnx:smI (gR cs) nf0 (i+1)=smI (gR cs) nf0 i+cs i:=by
    rw [smI]
    have:gR cs i (nf0 i)=cs i:=by rw [←hExi];exact g1
    rw [this]
   have hTm2:tmp+cs i*r=V/2-1+(smI (gR cs) nf0 i+cs i)*r:=by rw [Nat.add_mul];omega
   have hf3i:f3Z cs T d t nf0 i=(((tmp+cs i*r)/V:Nat):Int)-((tmp/V:Nat):Int):=by
    rw [hf3 i,if_pos (hExi▸h0), ←hTm2, ←hTm]
   generalize hq:(tmp+cs i*r)/V=q at *
   generalize hp:tmp/V=p at *
   rw [wU32 (x:=(q:Int)) (by omega) (by omega),wU32 (x:=(p:Int)) (by omega) (by omega),wU32 (by omega) (by omega)]
   refine ⟨by omega,by omega,?_⟩
   refine cnd_d ?_ ?_
   ·intro h1
    refine c62 ?_
    intro w3 v F3 hv1 hv2
    exact hk0 w3 v nf hv1 hv2 (fun hok=>by have h2:=hok i hi2 (hExi▸h0);rw [hf3i] at h2;omega) (HB2.fr F3 (by simp)) (Fr.trans F3 (by simp))
   ·intro h1
    refine ixA_o rfl (by omega) ?_
    refine st_u HB2 (by rw [FS.norm_at _ (by omega)];rfl) rfl ?_
    intro w3 HB3 F3
    rw [FS.setN (by omega),wI16 (by omega) (by omega)] at HB3
    have hU1:=smI_upd (gR cs) nf i ((q:Int)-(p:Int)) L hi2
    have hU2:=smI_upd gA nf i ((q:Int)-(p:Int)) L hi2
    have g2:gR cs i ((q:Int)-(p:Int))=0:=by unfold gR;rw [if_neg (by omega)]
    have g4:gA i ((q:Int)-(p:Int))=q-p:=by unfold gA;rw [if_neg (by omega)];unfold absZ;rw [if_neg (by omega)];omega
    rw [g1,g2] at hU1
    rw [g3,g4] at hU2
    refine ⟨⟨tmp+cs i*r,i+1,updF nf i ((q:Int)-(p:Int)),rfl,by omega,by rw [hnx];exact hTm2,?_,?_,?_,?_,?_,?_,HB3,Fr.trans F3 (fun x hx => .inl hx)⟩,by simp only [Int.toNat_natCast];omega⟩
    ·intro j hj
     unfold updF
     by_cases e:j=i
     ·subst e;rw [if_pos rfl,if_pos (by omega)];exact hf3i.symm
     ·rw [if_neg e,hEx j hj]
      by_cases e2:j<i
      ·rw [if_pos e2,if_pos (by omega)]
      ·rw [if_neg e2,if_neg (by omega)]
    ·intro j hj h2
     by_cases e:j=i
     ·subst e;rw [hf3i];omega
     ·exact hOk j (by omega) h2
    ·intro j hj
     unfold updF
     split
     ·subst_vars;omega
     ·exact hz j hj
    ·intro j hj
     unfold updF
     split
     ·omega
     ·exact hdone j (by omega)
    ·rw [hq];omega
    ·rw [show smI (gR cs) (updF nf i ((q:Int)-(p:Int))) L=smI (gR cs) nf L-cs i by omega];omega
  ·intro h0
   have hExi:nf i=nf0 i:=by rw [hEx i hi2,if_neg (Nat.lt_irrefl _)]
   have h00:nf0 i ≠ -2:=fun h=>h0 (by omega)
   have hnx:smI (gR cs) nf0 (i+1)=smI (gR cs) nf0 i:=by
    rw [smI]
    have:gR cs i (nf0 i)=0:=by unfold gR;rw [if_neg h00]
    omega
   refine ⟨⟨tmp,i+1,nf,rfl,by omega,by rw [hnx];exact hTm,?_,?_,hz,?_,hA,hR,HB2,Fr⟩,by simp only [Int.toNat_natCast];omega⟩
   ·intro j hj
    rw [hEx j hj]
    by_cases e2:j<i
    ·rw [if_pos e2,if_pos (by omega)]
    ·rw [if_neg e2]
     by_cases e3:j<i+1
     ·have e:j=i:=by omega
      subst e
      rw [if_pos e3,hf3 j,if_neg h00]
     ·rw [if_neg e3]
   ·intro j hj h2
    by_cases e:j=i
    ·subst e;exact absurd h2 h00
    ·exact hOk j (by omega) h2
   ·intro j hj
    by_cases e:j=i
    ·subst e;exact h0
    ·exact hdone j (by omega)
 ·intro hc
  have hi2:i=L:=by omega
  subst hi2
  have h0:smI (gR cs) nf i=0:=by
   have:∀k,k≤i→smI (gR cs) nf k=0:=by
    intro k
    induction k with
    | zero=>intro _;rfl
    | succ k ih =>
     intro hk
     rw [smI,ih (by omega)]
     unfold gR
     rw [if_neg (hdone k (by omega))]
   exact this i (Nat.le_refl _)
  have h1:smI gS nf i=smI gA nf i:=by
   refine smI_congr ?_
   intro j hj
   unfold gS gA
   rw [if_neg (hdone j hj)]
  rw [h0,Nat.zero_mul,Nat.add_zero] at hR
  rw [hR,r1] at hA
  refine hk w2 nf ⟨fun j hj=>(hz j hj).1,?_,by rw [h1,hA];omega⟩ (fun j hj h2=>hOk j hj h2) (fun j hj=>by rw [hEx j hj,if_pos hj]) HB2 Fr
  intro j hj
  rcases (hz j hj).2 with h|h
  ·exact h
  ·exact absurd h (hdone j hj)
theorem c136 {K:Value→PT} (C:CS S cs T L n) (HB:Blk w b S.at)
  (hk0:∀w' v nf,isPE v=true→isNil v=false→¬n2Ok cs T L n→Blk w' b ({ S with norm:=nf } : FS).at→Fm w w' [b]→K v w')
  (hk:∀w' nf,Normed cs nf T L→n2Ok cs T L n→(∀j,j<L→nf j=n2Z cs T L n j)→Blk w' b ({ S with norm:=nf } : FS).at→Fm w w' [b]→K .nilIface w') :
  callP Tryd.prog 136 #[.pointer (some ⟨b,0,none⟩)] [.c .V] K w:=by
 apply q136_ok
 unfold q136
 have hl2:=C.l2
 have hl12:=C.l12
 have hn2:=C.n2
 have hn:=C.n256
 have hTp:=C.log.pow
 have hT6:T=5∨T=6:=C.log
 obtain ⟨u1,u2,u3,u4,u5,u6,u7⟩:=sh64u C.log
 simp only [add_mk,Nat.zero_add]
 refine ld2_b (t := .S) (u := .I .i64) (x:=S.br) (y:=((0:Nat):Int)) HB rfl C.offAt ?_
 have hbr:=C.br
 refine c93 (s:=S.br) (n:=0) (by omega) (by omega) ?_
 intro w1 F1
 rw [hbr,Nat.sub_zero]
 have HB1:=HB.fr F1 (by simp)
 have F1':Fm w w1 [b]:=F1.mono (by simp)
 refine ld_b (t := .I .u8) (x:=((T:Nat):Int)) HB1 C.atlAt ⟨by omega,by rw [wU8 (by omega) (by omega)];omega,?_⟩
 refine joinP_id ?_
 unfold drw
 refine ld_b (t := .I .u16) (x:=((L:Nat):Int)) HB1.drew C.symAt ?_
 refine slcA_hi rfl (by omega) (by omega) ?_
 rw [wU32 (x:=((n:Nat):Int)) (by omega) (by omega)]
 refine n2a C HB1.drew ?_
 intro w2 nf2 d2 t2 hE2 hTri2 hd2 ht2 hlo2 hdL2 htn2 HB2 F2
 have hd2Z:d1Z cs T L n=d2:=by rw [hd2];exact smI_congr (fun j hj=>by rw [hE2 j hj];rfl)
 have ht2Z:t1Z cs T L n=t2:=by rw [ht2];exact smI_congr (fun j hj=>by rw [hE2 j hj];rfl)
 have F02:Fm w w2 [b]:=(F1'.drew).trans F2 (fun x hx => .inl hx)
 have ht20:0<t2:=by
  have hb:L*(n*3/2^(T+1))≤12*(n*3/2^(T+1)):=Nat.mul_le_mul_right _ hl12
  have hc:12*(n*3/2^(T+1))<n:=by rcases hT6 with rfl|rfl<;>omega
  omega
 have last:∀(w3:World) (nf:Nat→Int) (d t:Nat),(∀j,j<L→nf j=f2Z cs T L n j)→Tri cs nf L→d=smI gA nf L→t=smI (gR cs) nf L→0<t→t≤n→d≤L→Blk w3 b ({ S with norm:=nf } : FS).at→Fm w w3 [b]→q136_J20 ⟨b,0,none⟩ K ((T:Nat):Int) ((d:Int),(t:Int),((2^T-d:Nat):Int)) w3:=by
  intro w3 nf d t hE hTri hd ht ht0 htn hdL HB3 F3
  have hdZ:smI gA (f2Z cs T L n) L=d:=by rw [hd];exact smI_congr (fun j hj=>by rw [hE j hj])
  have htZ:smI (gR cs) (f2Z cs T L n) L=t:=by rw [ht];exact smI_congr (fun j hj=>by rw [hE j hj])
  unfold q136_J20
  simp only [add_mk,Nat.zero_add]
  refine joinP_id ?_
  refine ld_b (t := .I .u16) (x:=((L:Nat):Int)) HB3 C.symAt ?_
  rw [wU32 (x:=((L:Nat):Int)) (by omega) (by omega),wU32 (by omega) (by omega)]
  refine cnd_d (fun h=>absurd h (by omega)) (fun _ => ?_)
  unfold q136_J19
  simp only
  refine joinP_id ?_
  refine cnd_d (fun h=>absurd h (by omega)) (fun _ => ?_)
  unfold q136_J18
  simp only
  refine ⟨by rw [u1,u4];omega,by rw [u1];omega,by rw [wU64 (by omega) (by omega)];omega,?_⟩
  refine joinP_id ?_
  unfold drw
  simp only [add_mk,Nat.zero_add]
  refine ld_b (t := .I .u16) (x:=((L:Nat):Int)) HB3.drew C.symAt ?_
  refine slcA_hi rfl (by omega) (by omega) ?_
  rw [u1,u4,u5]
  have F3d:Fm w w3.drew [b]:=F3.drew
  refine n2c C HB3.drew hTri hd ht ht0 htn hdL rfl ?_ ?_
  ·intro w4 v nf4 h1 h2 h3 HB4 F4
   exact hk0 w4 v nf4 h1 h2 (fun h=>h3 (by unfold n2Ok at h;rw [hdZ,htZ] at h;exact (ok3_congr hE).mpr h)) HB4 (F3d.trans F4 (fun x hx => .inl hx))
  ·intro w4 nf4 h1 h2 h3 HB4 F4
   unfold q136_J17
   exact hk w4 nf4 h1 (by unfold n2Ok;rw [hdZ,htZ];exact (ok3_congr hE).mp h2) (fun j hj=>by rw [h3 j hj];unfold n2Z;rw [hdZ,htZ];exact f3Z_congr hE hj) HB4 (F3d.trans F4 (fun x hx => .inl hx))
 unfold q136_J22
 refine ⟨by omega,joinP_id ?_⟩
 unfold q136_X21
 simp only
 have e1:IntKind.u32.wrap (shlI .u32 1 ((T:Nat):Int)-(d2:Int))=((2^T-d2:Nat):Int):=by rw [sh32 C.log,wU32 (by omega) (by omega)];omega
 have e2:shrI .u32 (IntKind.u32.wrap (IntKind.u32.wrap ((n:Nat):Int)*3)) (IntKind.u8.wrap (((T:Nat):Int)+1))=((n*3/2^(T+1):Nat):Int):=by
  rw [wU32 (x:=((n:Nat):Int)) (by omega) (by omega),wU32 (by omega) (by omega),wU8 (by omega) (by omega)]
  exact shrI_nat .u32 (n*3) (T+1) (by simp only [IntKind.bits];omega)
 have e3:quoI .u32 (t2:Int) ((2^T-d2:Nat):Int)=((t2/(2^T-d2):Nat):Int):=quoI_nat .u32 t2 (2^T-d2) (by simp only [IntKind.bits];omega)
 rw [e1,e2,e3]
 refine ⟨by omega,?_⟩
 refine cnd_d ?_ ?_
 ·intro hc
  refine ⟨by rw [wU32 (by omega) (by omega)];omega,joinP_id ?_⟩
  unfold drw
  simp only [add_mk,Nat.zero_add]
  refine ld_b (t := .I .u16) (x:=((L:Nat):Int)) HB2.drew C.symAt ?_
  refine slcA_hi rfl (by omega) (by omega) ?_
  refine n2b C HB2.drew hTri2 hd2 ht2 hdL2 htn2 ?_
  intro w3 nf3 d3 t3 hE3 hTri3 hd3 ht3 hlo3 hdL3 htn3 HB3 F3
  unfold q136_J6
  simp only
  refine ⟨by omega,?_⟩
  rw [show IntKind.u32.wrap (shlI .u32 1 ((T:Nat):Int)-(d3:Int))=((2^T-d3:Nat):Int) by rw [sh32 C.log,wU32 (by omega) (by omega)];omega]
  refine last w3 nf3 d3 t3 (fun j hj=>by rw [hE3 j hj,hE2 j hj];unfold f2Z;rw [ht2Z,hd2Z,if_pos (Int.ofNat_lt.mp hc)];rfl) hTri3 hd3 ht3 ?_ htn3 hdL3 HB3 (F02.drew.trans F3 (fun x hx => .inl hx))
  have hb:L*(t2*3/((2^T-d2)*2))≤12*(t2*3/((2^T-d2)*2)):=Nat.mul_le_mul_right _ hl12
  have hc2:t2*3/((2^T-d2)*2)≤t2*3/40:=Nat.div_le_div_left (by omega) (by omega)
  omega
 ·intro hc
  exact last w2 nf2 d2 t2 (fun j hj=>by rw [hE2 j hj];unfold f2Z;rw [ht2Z,hd2Z,if_neg (fun h=>hc (Int.ofNat_lt.mpr h))];rfl) hTri2 hd2 ht2 ht20 htn2 hdL2 HB2 F02
end
def rtbV (k:Nat):Int:=([0,473195,504333,520860,550000,700000,750000,830000]:List Int).getD k 0
def rtbAt (w:World):Prop:=∀k,k<8→w.cell? ⟨6,k,none⟩=some (.int .u32 (rtbV k))
theorem rtbAt.fm {w w':World} {S:List Nat} (h:rtbAt w) (F:Fm w w' S) (hS:6∉S):rtbAt w':=by
 intro k hk
 have h1:=h k hk
 have h2:=World.block_lt_of_cell? _ _ h1
 rw [←h1]
 exact cell?_of_heap (F.old 6 h2 hS) _ _
def qZ (n T c:Nat):Nat:=c*(2^62/n)/2^(62-T)
def upZ (n T c:Nat):Bool:=decide (((qZ n T c:Nat):Int)<8)&&decide ((IntKind.wrap .u64 ((shlI .u64 (1:Int) (IntKind.wrap .u64 (((62-T:Nat):Int)-(20:Int))))*(IntKind.wrap .u64 (rtbV (qZ n T c)))))<(IntKind.wrap .u64 (((c*(2^62/n):Nat):Int)-(shlI .u64 (IntKind.wrap .u64 ((qZ n T c:Nat):Int)) ((62-T:Nat):Int)))))
def gZ (n T c:Nat):Int:=if c=0 then 0 else if c≤n/2^T then -1 else if upZ n T c=true then ((qZ n T c+1:Nat):Int) else ((qZ n T c:Nat):Int)
def kP (g:Nat→Int):Nat→Nat×Nat
 | 0=>(0,0)
 | i+1=>if ((kP g i).2:Int)<g i then (i,(g i).toNat) else kP g i
def g1Z (cs:Nat→Nat) (T n:Nat) (j:Nat):Int:=gZ n T (cs j)
def secZ (cs:Nat→Nat) (T L n:Nat):Prop:=((((g1Z cs T n (kP (g1Z cs T n) L).1).toNat/2:Nat)):Int)≤(smI gS (g1Z cs T n) L:Int)-((2^T:Nat):Int)
instance (cs:Nat→Nat) (T L n:Nat):Decidable (secZ cs T L n):=by unfold secZ;infer_instance
def nmZ (cs:Nat→Nat) (T L n:Nat) (j:Nat):Int :=
 if secZ cs T L n then n2Z cs T L n j else if j=(kP (g1Z cs T n) L).1 then g1Z cs T n j+(((2^T:Nat):Int)-(smI gS (g1Z cs T n) L:Int)) else g1Z cs T n j
def nmOk (cs:Nat→Nat) (T L n:Nat):Prop:=secZ cs T L n→n2Ok cs T L n
theorem proba {n c T:Nat} (hT:LogOK T) (hn2:2≤n) (hn:n<256) (hc:c≤n) (h:n/2^T<c):1≤c*(2^62/n)/2^(62-T)∧c*(2^62/n)/2^(62-T)≤2^T∧c*(2^62/n)≤2^62:=by
 obtain ⟨u1,u2,u3,u4,u5,u6,u7⟩:=sh64u hT
 have h1:=Nat.lt_mul_div_succ (2^62) (show 0<n by omega)
 have h2:n≤2^62/n:=(Nat.le_div_iff_mul_le (by omega)).mpr (Nat.le_trans (Nat.mul_le_mul (show n≤256 by omega) (show n≤256 by omega)) (by decide))
 have h3:=Nat.mul_div_le (2^62) n
 have h4:c*(2^62/n)≤n*(2^62/n):=Nat.mul_le_mul_right _ hc
 have h5:n<c*2^T:=(Nat.div_lt_iff_lt_mul (Nat.two_pow_pos _)).mp h
 have h6:(n+1)*(2^62/n)≤c*2^T*(2^62/n):=Nat.mul_le_mul_right _ h5
 rw [Nat.mul_right_comm,Nat.add_mul,Nat.one_mul] at h6
 rw [Nat.mul_add,Nat.mul_one] at h1
 have hVp:0<2^(62-T):=Nat.two_pow_pos _
 generalize 2^62/n=p at *
 have h7:2^(62-T)*2^T<c*p*2^T:=by rw [u7];omega
 have h8:2^(62-T)<c*p:=Nat.lt_of_mul_lt_mul_right h7
 have h9:c*p≤2^62:=by omega
 refine ⟨Nat.div_pos (by omega) hVp,?_,h9⟩
 rw [Nat.div_le_iff_le_mul_add_pred hVp,u7]
 omega
section
variable {T L n:Nat} {w:World} {b:Nat} {S:FS} {cs:Nat→Nat}
theorem n1a {R7:Int×Int→PT} (C:CS S cs T L n) (HB:Blk w b S.at) (hr:rtbAt w) (h6:b≠6)
  (hk:∀w' nf k,(∀j,j<L→nf j=g1Z cs T n j)→k=(kP (g1Z cs T n) L).1→(∀j,j<L→(nf j=0↔cs j=0) ∧ -1≤nf j∧nf j≤65)→smI gS nf L≤L*65→k<L→0<nf k→Blk w' b ({ S with norm:=nf } : FS).at→Fm w w' [b]→R7 (((2^T:Nat):Int)-(smI gS nf L:Int),(k:Int)) w') :
  loopP (((2^T:Nat):Int),(0:Int),(0:Int),(0:Int)) (q111_L5 ⟨b,0,none⟩ ((T:Nat):Int) ((n:Nat):Int) ((n:Nat):Int) R7 ⟨some ⟨b,0,none⟩,L,256⟩) w:=by
 have hl2:=C.l2
 have hl12:=C.l12
 have hn2:=C.n2
 have hn:=C.n256
 have hTp:=C.log.pow
 have hT6:T=5∨T=6:=C.log
 obtain ⟨u1,u2,u3,u4,u5,u6,u7⟩:=sh64u C.log
 refine ⟨fun x w'=>∃(i k P:Nat) (nf:Nat→Int),x=(((2^T:Nat):Int)-(smI gS nf i:Int),(k:Int),(P:Int),(i:Int))∧i≤L∧(∀j,j<i→nf j=g1Z cs T n j)∧(k,P)=kP (g1Z cs T n) i∧(∀j,j<i→(nf j=0↔cs j=0) ∧ -1≤nf j∧nf j≤65)∧smI gS nf i≤i*65 ∧
   ((P=0∧smI (gC cs) (fun _=>0) i≤i*(n/2^T))∨(0<P∧k<i∧nf k=(P:Int)))∧Blk w' b ({ S with norm:=nf } : FS).at∧Fm w w' [b],fun x _=>L-x.2.2.2.toNat,
  ⟨0,0,0,S.norm,rfl,Nat.zero_le _,(fun j hj=>absurd hj (Nat.not_lt_zero _)),rfl,(fun j hj=>absurd hj (Nat.not_lt_zero _)),Nat.zero_le _,.inl ⟨rfl,Nat.zero_le _⟩,HB,Fm.refl _ _⟩,?_⟩
 rintro x w2 ⟨i,k,P,nf,rfl,hi,hEx,hkP,hz,hsm,hP,HB2,Fr⟩
 unfold q111_L5
 simp only
 refine cnd_d ?_ ?_
 ·intro hc
  have hi2:i<L:=by omega
  have C2:=C.nm nf
  have hlt:=C.lt hi2
  have e64:IntKind.i64.wrap ((i:Int)+1)=((i+1:Nat):Int):=by rw [wI64 (by omega) (by omega)];omega
  have e1:IntKind.u32.wrap (shrI .i64 ((n:Nat):Int) ((T:Nat):Int))=((n/2^T:Nat):Int):=by
   have h1:shrI .i64 ((n:Nat):Int) ((T:Nat):Int)=((n/2^T:Nat):Int):=shrI_nat .i64 n T (by simp only [IntKind.bits];omega)
   have h2:n/2^T≤n:=Nat.div_le_self _ _
   rw [h1]
   generalize n/2^T=q at h2 ⊢
   rw [wU32 (by omega) (by omega)]
  have hprob:=proba (c:=cs i) C.log hn2 hn (by omega)
  have hsb:smI gS nf i≤12*65:=by omega
  have hgi:g1Z cs T n i=if cs i=0 then 0 else if cs i≤n/2^T then -1 else if upZ n T (cs i)=true then ((qZ n T (cs i)+1:Nat):Int) else ((qZ n T (cs i):Nat):Int):=rfl
  have hkn:kP (g1Z cs T n) (i+1)=if (P:Int)<g1Z cs T n i then (i,(g1Z cs T n i).toNat) else (k,P):=by rw [kP, ←hkP]
  generalize hlt':n/2^T=lt at *
  refine joinP_id ?_
  unfold q111_X4 q111_J3
  simp only [add_mk,Nat.zero_add]
  refine ixS_o rfl (by omega) ?_
  rw [Nat.zero_add]
  refine ld_b (t := .I .u32) (x:=((cs i:Nat):Int)) HB2 (C2.cntAt hi2) ?_
  rw [e1,e64]
  have hgc:smI (gC cs) (fun _=>0) (i+1)=smI (gC cs) (fun _=>0) i+cs i:=rfl
  have hmu:(i+1)*lt=i*lt+lt:=Nat.succ_mul _ _
  have wr:∀(v x1:Int) (k' P':Nat),v=g1Z cs T n i→(k',P')=kP (g1Z cs T n) (i+1)→(v=0↔cs i=0) → -1≤v→v≤65→x1=((2^T:Nat):Int)-(smI gS nf i:Int)-(absZ v:Int) →
    ((P'=0∧smI (gC cs) (fun _=>0) (i+1)≤(i+1)*lt)∨(0<P'∧((k'=i∧v=(P':Int))∨(k'<i∧nf k'=(P':Int))))) →
    (ixA 1 256 ⟨b,256,none⟩ (i:Int) fun (p:Addr)=>st p (.int .i16 v)<|fun w'=>(∃(j k P:Nat) (nf:Nat→Int),(x1,(k':Int),(P':Int),((i+1:Nat):Int))=(((2^T:Nat):Int)-(smI gS nf j:Int),(k:Int),(P:Int),(j:Int))∧j≤L∧(∀m,m<j→nf m=g1Z cs T n m)∧(k,P)=kP (g1Z cs T n) j∧(∀m,m<j→(nf m=0↔cs m=0) ∧ -1≤nf m∧nf m≤65)∧smI gS nf j≤j*65 ∧
     ((P=0∧smI (gC cs) (fun _=>0) j≤j*lt)∨(0<P∧k<j∧nf k=(P:Int)))∧Blk w' b ({ S with norm:=nf } : FS).at∧Fm w w' [b])∧L-((i+1:Nat):Int).toNat<L-((i:Nat):Int).toNat) w2:=by
   rintro v x1 k' P' hvE hkE hv1 hv2 hv3 rfl hP'
   refine ixA_o rfl (by omega) ?_
   refine st_u HB2 (by rw [FS.norm_at _ (by omega)];rfl) rfl ?_
   intro w3 HB3 F3
   rw [FS.setN (by omega)] at HB3
   have hab:absZ v≤65:=by unfold absZ;split<;>omega
   have hnx:smI gS (updF nf i v) (i+1)=smI gS nf i+absZ v:=smI_next gS nf i v
   refine ⟨⟨i+1,k',P',updF nf i v,?_,by omega,?_,hkE,?_,by omega,?_,HB3,Fr.trans F3 (fun x hx => .inl hx)⟩,by simp only [Int.toNat_natCast];omega⟩
   ·rw [hnx,show (((smI gS nf i+absZ v:Nat)):Int)=(smI gS nf i:Int)+(absZ v:Int) by omega, ←Int.sub_sub]
   ·intro m hm
    unfold updF
    by_cases e:m=i
    ·subst e;rw [if_pos rfl];exact hvE
    ·rw [if_neg e];exact hEx m (by omega)
   ·intro m hm
    unfold updF
    split
    ·subst_vars;exact ⟨hv1,hv2,hv3⟩
    ·exact hz m (by omega)
   ·rcases hP' with h|⟨h1,⟨h2,h3⟩|⟨h2,h3⟩⟩
    ·exact .inl h
    ·subst h2
     exact .inr ⟨h1,by omega,by unfold updF;rw [if_pos rfl];exact h3⟩
    ·exact .inr ⟨h1,by omega,by unfold updF;rw [if_neg (by omega)];exact h3⟩
  have keep:cs i≤lt→((P=0∧smI (gC cs) (fun _=>0) (i+1)≤(i+1)*lt)∨(0<P∧((k=i∧(0:Int)=1)∨(k<i∧nf k=(P:Int))))):=by
   intro h
   rcases hP with ⟨h1,h2⟩|⟨h1,h2,h3⟩
   ·exact .inl ⟨h1,by omega⟩
   ·exact .inr ⟨h1,.inr ⟨h2,h3⟩⟩
  refine cnd_d ?_ ?_
  ·intro h0
   have h0':cs i=0:=by omega
   have hg0:g1Z cs T n i=0:=by rw [hgi,if_pos h0']
   refine wr 0 _ k P hg0.symm (by rw [hkn,if_neg (by omega)]) ⟨fun _=>h0',fun _=>rfl⟩ (by omega) (by omega) (by show _=_-_-((0:Nat):Int);omega) ?_
   rcases keep (by omega) with h|⟨h1,⟨_,h⟩|h⟩
   ·exact .inl h
   ·omega
   ·exact .inr ⟨h1,.inr h⟩
  ·intro h0
   have h0':cs i≠0:=by omega
   refine cnd_d ?_ ?_
   ·intro h1
    have hg0:g1Z cs T n i = -1:=by rw [hgi,if_neg h0',if_pos (by omega)]
    refine wr (-1) _ k P hg0.symm (by rw [hkn,if_neg (by omega)]) ⟨fun h=>by omega,fun h=>by omega⟩ (by omega) (by omega) ?_ ?_
    ·show _=_-_-((1:Nat):Int)
     rw [wI16 (by omega) (by omega)];rfl
    ·rcases keep (by omega) with h|⟨h1,⟨_,h⟩|h⟩
     ·exact .inl h
     ·omega
     ·exact .inr ⟨h1,.inr h⟩
   ·intro h1
    obtain ⟨p1,p2,p3⟩:=hprob (by omega)
    refine ⟨by rw [u1];omega,?_⟩
    have fin:∀q:Nat,(q:Int)=g1Z cs T n i→1≤q→q≤65→q111_J1 ⟨b,0,none⟩ (((2^T:Nat):Int)-(smI gS nf i:Int),(k:Int),(P:Int),(i:Int)) (fun x24=>(fun s' w'=>(∃(j k P:Nat) (nf:Nat→Int),s'=(((2^T:Nat):Int)-(smI gS nf j:Int),(k:Int),(P:Int),(j:Int))∧j≤L∧(∀m,m<j→nf m=g1Z cs T n m)∧(k,P)=kP (g1Z cs T n) j∧(∀m,m<j→(nf m=0↔cs m=0) ∧ -1≤nf m∧nf m≤65)∧smI gS nf j≤j*65 ∧
     ((P=0∧smI (gC cs) (fun _=>0) j≤j*lt)∨(0<P∧k<j∧nf k=(P:Int)))∧Blk w' b ({ S with norm:=nf } : FS).at∧Fm w w' [b])∧L-s'.2.2.2.toNat<L-((i:Nat):Int).toNat) (x24.1,x24.2.1,x24.2.2,((i+1:Nat):Int))) (q:Int) w2:=by
     intro q hqE hq1 hq2
     unfold q111_J1 q111_J0
     simp only [add_mk,Nat.zero_add]
     have hq:absZ (q:Int)=q:=by unfold absZ;rw [if_neg (by omega)];omega
     have ew:IntKind.i16.wrap (((2^T:Nat):Int)-(smI gS nf i:Int)-(q:Int))=((2^T:Nat):Int)-(smI gS nf i:Int)-(absZ (q:Int):Int):=by rw [wI16 (by omega) (by omega),hq]
     refine joinP_id (cnd_d ?_ ?_)
     ·intro h2
      exact wr q _ i q hqE (by rw [hkn,if_pos (by omega), ←hqE,Int.toNat_natCast]) ⟨fun h=>by omega,fun h=>by omega⟩ (by omega) (by omega) ew (.inr ⟨by omega,.inl ⟨rfl,rfl⟩⟩)
     ·intro h2
      refine wr q _ k P hqE (by rw [hkn,if_neg (by omega)]) ⟨fun h=>by omega,fun h=>by omega⟩ (by omega) (by omega) ew ?_
      rcases hP with ⟨h3,h4⟩|⟨h3,h4,h5⟩
      ·omega
      ·exact .inr ⟨h3,.inr ⟨h4,h5⟩⟩
    refine joinP_id ?_
    unfold q111_X2
    have eN:IntKind.u64.wrap ((n:Nat):Int)=((n:Nat):Int):=wU64 (by omega) (by omega)
    have eC:IntKind.u64.wrap ((cs i:Nat):Int)=((cs i:Nat):Int):=wU64 (by omega) (by omega)
    have eS:quoI .u64 (4611686018427387904:Int) ((n:Nat):Int)=((2^62/n:Nat):Int):=quoI_nat .u64 (2^62) n (by decide)
    have eM:IntKind.u64.wrap (((cs i:Nat):Int)*((2^62/n:Nat):Int))=((cs i*(2^62/n):Nat):Int):=by
     rw [←Int.natCast_mul]
     generalize cs i*(2^62/n)=q at *
     rw [wU64 (by omega) (by omega)]
    have eP:shrI .u64 ((cs i*(2^62/n):Nat):Int) ((62-T:Nat):Int)=((cs i*(2^62/n)/2^(62-T):Nat):Int):=shrI_nat .u64 _ _ (by simp only [IntKind.bits];omega)
    rw [eN,eC,eS,eM,u1,eP]
    have hqq:qZ n T (cs i)=cs i*(2^62/n)/2^(62-T):=rfl
    have hup:upZ n T (cs i)=(decide (((qZ n T (cs i):Nat):Int)<8)&&decide ((IntKind.wrap .u64 ((shlI .u64 (1:Int) (IntKind.wrap .u64 (((62-T:Nat):Int)-(20:Int))))*(IntKind.wrap .u64 (rtbV (qZ n T (cs i))))))<(IntKind.wrap .u64 (((cs i*(2^62/n):Nat):Int)-(shlI .u64 (IntKind.wrap .u64 ((qZ n T (cs i):Nat):Int)) ((62-T:Nat):Int)))))):=rfl
    rw [hqq] at hup hgi
    rw [if_neg h0',if_neg (by omega)] at hgi
    generalize cs i*(2^62/n)/2^(62-T)=q at *
    rw [wI16 (x:=(q:Int)) (by omega) (by omega)]
    refine cnd_d ?_ ?_
    ·intro h2
     refine ixA_o (k:=q) rfl (by omega) ?_
     rw [Nat.zero_add]
     have hx:=(hr.fm Fr (by simpa using Ne.symm h6)) q (by omega)
     refine ld_c (t := .I .u32) (x:=rtbV q) hx ⟨by omega,?_⟩
     refine ⟨fun hb => ?_,fun hb => ?_⟩
     ·rw [hb,decide_eq_true h2,Bool.and_self] at hup
      rw [if_pos hup] at hgi
      rw [wI16 (x:=(q:Int)+1) (by omega) (by omega)]
      exact fin (q+1) hgi.symm (by omega) (by omega)
     ·rw [hb,Bool.and_false] at hup
      rw [if_neg (by rw [hup];decide)] at hgi
      exact fin q hgi.symm p1 (by omega)
    ·intro h2
     rw [decide_eq_false h2,Bool.false_and] at hup
     rw [if_neg (by rw [hup];decide)] at hgi
     exact fin q hgi.symm p1 (by omega)
 ·intro hc
  have hi2:i=L:=by omega
  subst hi2
  rcases hP with ⟨h1,h2⟩|⟨h1,h2,h3⟩
  ·have hsum:=C.sum
   have hb:i*(n/2^T)≤12*(n/2^T):=Nat.mul_le_mul_right _ hl12
   have hc:12*(n/2^T)<n:=by rcases hT6 with rfl|rfl<;>omega
   omega
  ·exact hk w2 nf k hEx (by rw [←hkP]) hz hsm h2 (by omega) HB2 Fr
theorem c111 {K:Value→PT} (C:CS S cs T L n) (HB:Blk w b S.at) (hr:rtbAt w) (h6:b≠6)
  (hk0:∀w' v nf,isPE v=true→isNil v=false→¬nmOk cs T L n→Blk w' b ({ S with norm:=nf } : FS).at→Fm w w' [b]→K v w')
  (hk:∀w' nf,Normed cs nf T L→nmOk cs T L n→(∀j,j<L→nf j=nmZ cs T L n j)→Blk w' b ({ S with norm:=nf } : FS).at→Fm w w' [b]→K .nilIface w') :
  callP Tryd.prog 111 #[.pointer (some ⟨b,0,none⟩)] [.c .V] K w:=by
 apply q111_ok
 unfold q111
 have hl2:=C.l2
 have hl12:=C.l12
 have hn2:=C.n2
 have hn:=C.n256
 have hTp:=C.log.pow
 obtain ⟨u1,u2,u3,u4,u5,u6,u7⟩:=sh64u C.log
 have hbr:=C.br
 simp only [add_mk,Nat.zero_add]
 refine ld_b (t := .I .u8) (x:=((T:Nat):Int)) HB C.atlAt ?_
 refine ld2_b (t := .S) (u := .I .i64) (x:=S.br) (y:=((0:Nat):Int)) HB rfl C.offAt ?_
 refine c93 (s:=S.br) (n:=0) (by omega) (by omega) ?_
 intro w1 F1
 rw [hbr,Nat.sub_zero]
 have HB1:=HB.fr F1 (by simp)
 refine ⟨by rw [wU64 (by omega) (by omega)];omega,by rw [u1,wU64 (by omega) (by omega)];omega,by omega,?_⟩
 refine ld2_b (t := .S) (u := .I .i64) (x:=S.br) (y:=((0:Nat):Int)) HB1 rfl C.offAt ?_
 refine c93 (s:=S.br) (n:=0) (by omega) (by omega) ?_
 intro w2 F2
 rw [hbr,Nat.sub_zero]
 have HB2:=HB1.fr F2 (by simp)
 have F02:Fm w w2 [b]:=(F1.mono (by simp)).trans F2 (by simp)
 refine ⟨by omega,joinP_id ?_⟩
 unfold drw
 refine ld_b (t := .I .u16) (x:=((L:Nat):Int)) HB2.drew C.symAt ?_
 refine slcA_hi rfl (by omega) (by omega) ?_
 rw [sh16 C.log]
 have hr2:rtbAt w2.drew:=hr.fm F02.drew (by simpa using Ne.symm h6)
 refine n1a C HB2.drew hr2 h6 ?_
 intro w3 nf k hEx hkE hz hsm hkL hpos HB3 F3
 have hSm:smI gS (g1Z cs T n) L=smI gS nf L:=smI_congr (fun j hj=>by rw [hEx j hj])
 have hsec:secZ cs T L n↔(((nf k).toNat/2:Nat):Int)≤(smI gS nf L:Int)-((2^T:Nat):Int):=by
  unfold secZ
  rw [hSm, ←hkE,hEx k hkL]
 have F03:Fm w w3 [b]:=F02.drew.trans F3 (fun x hx => .inl hx)
 have hzk:=hz k hkL
 unfold q111_J6
 simp only [add_mk,Nat.zero_add]
 refine ixA_o rfl (by omega) ?_
 refine ld_b (t := .I .i16) (x:=nf k) HB3 (FS.norm_at _ (by omega)) ⟨by decide,?_⟩
 have hsb:smI gS nf L≤12*65:=by omega
 have esh:shrI .i16 (nf k) 1=(((nf k).toNat/2:Nat):Int):=by
  have:=shrI_nat .i16 (nf k).toNat 1 (by simp only [IntKind.bits];omega)
  rw [show (((nf k).toNat:Nat):Int)=nf k by omega] at this
  exact this
 rw [esh,wI16 (by omega) (by omega)]
 refine cnd_d ?_ ?_
 ·intro hc
  have hs:secZ cs T L n:=hsec.mpr (by omega)
  refine c136 (C.nm nf) HB3 ?_ ?_
  ·intro w4 v nf4 h1 h2 h3 HB4 F4
   exact hk0 w4 v nf4 h1 h2 (fun h=>h3 (h hs)) HB4 (F03.trans F4 (fun x hx => .inl hx))
  ·intro w4 nf4 h1 h2 h3 HB4 F4
   exact hk w4 nf4 h1 (fun _=>h2) (fun j hj=>by rw [h3 j hj];unfold nmZ;rw [if_pos hs]) HB4 (F03.trans F4 (fun x hx => .inl hx))
 ·intro hc
  have hs:¬secZ cs T L n:=fun h=>hc (by have:=hsec.mp h;omega)
  unfold drw
  refine ixA_o rfl (by omega) ?_
  refine ld_b (t := .I .i16) (x:=nf k) HB3.drew (FS.norm_at _ (by omega)) ?_
  refine ixA_o rfl (by omega) ?_
  refine st_u HB3.drew (by rw [FS.norm_at _ (by omega)];rfl) rfl ?_
  intro w4 HB4 F4
  rw [FS.setN (by omega),wI16 (by omega) (by omega)] at HB4
  have hle:=smI_ge gS nf hkL
  have a1:gS k (nf k)=(nf k).toNat:=by unfold gS absZ;rw [if_neg (by omega)]
  rw [a1] at hle
  have hv0:0<nf k+(((2^T:Nat):Int)-(smI gS nf L:Int)):=by omega
  have hvv:(((nf k+(((2^T:Nat):Int)-(smI gS nf L:Int))).toNat:Nat):Int)=nf k+(((2^T:Nat):Int)-(smI gS nf L:Int)):=by omega
  have hnm:∀j,j<L→updF nf k (nf k+(((2^T:Nat):Int)-(smI gS nf L:Int))) j=nmZ cs T L n j:=by
   intro j hj
   unfold nmZ updF
   rw [if_neg hs, ←hkE,hSm]
   by_cases e:j=k
   ·subst e;rw [if_pos rfl,if_pos rfl,hEx _ hj]
   ·rw [if_neg e,if_neg e,hEx j hj]
  generalize hv:nf k+(((2^T:Nat):Int)-(smI gS nf L:Int))=v at *
  have hU:=smI_upd gS nf k v L hkL
  have a2:gS k v=v.toNat:=by unfold gS absZ;rw [if_neg (by omega)]
  rw [a1,a2] at hU
  refine hk w4 (updF nf k v) ⟨?_,?_,by omega⟩ (fun h=>absurd h hs) hnm HB4 (F03.drew.trans F4 (fun x hx => .inl hx))
  ·intro j hj
   unfold updF
   by_cases e:j=k
   ·rw [if_pos e]
    have h1:=(hz j hj).1
    rw [e] at h1 ⊢
    omega
   ·rw [if_neg e];exact (hz j hj).1
  ·intro j hj
   unfold updF
   by_cases e:j=k
   ·rw [if_pos e];omega
   ·rw [if_neg e];exact (hz j hj).2.1
end
def lwZ (m:Nat):Nat:=2^(m.log2+1)-1-m
def xZ (m v:Nat):Nat:=if 2^m.log2≤v then v+lwZ m else v
def bZ (m v:Nat):Nat:=if xZ m v<lwZ m then m.log2 else m.log2+1
theorem lwZ_spec {m:Nat} (hm:0<m):2^m.log2≤m∧m<2*2^m.log2∧lwZ m=2*2^m.log2-1-m:=by
 have h1:2^m.log2≤m:=Nat.log2_self_le (by omega)
 have h2:m<2^(m.log2+1):=Nat.lt_log2_self
 have h3:2^(m.log2+1)=2*2^m.log2:=Nat.pow_succ'
 unfold lwZ
 rw [h3] at h2 ⊢
 exact ⟨h1,h2,rfl⟩
theorem xZ_lt {m v:Nat} (hm:0<m) (hv:v≤m):xZ m v<2^bZ m v:=by
 obtain ⟨h1,h2,h3⟩:=lwZ_spec hm
 have h4:2^(m.log2+1)=2*2^m.log2:=Nat.pow_succ'
 unfold bZ
 split
 ·rename_i h
  omega
 ·rw [h4]
  unfold xZ
  split<;>omega
theorem valZ_put {l:List Nat} {t m v:Nat} (hm:0<m) (hv:v≤m) (h:leN l/2^t%2^bZ m v=xZ m v) (hl:t+bZ m v≤8*l.length):valZ l t m=(v,t+bZ m v,true):=by
 obtain ⟨h1,h2,h3⟩:=lwZ_spec hm
 have h4:2^(m.log2+1)=2*2^m.log2:=Nat.pow_succ'
 have hlw:2^(m.log2+1)-1-m=lwZ m:=rfl
 unfold valZ
 simp only [Nat.add_sub_cancel,hlw]
 have hp:0<2^m.log2:=Nat.two_pow_pos _
 unfold bZ at h hl ⊢
 by_cases hc:xZ m v<lwZ m
 ·rw [if_pos hc] at h hl ⊢
  have hx:xZ m v=v:=by
   unfold xZ at hc ⊢
   by_cases hq:2^m.log2≤v
   ·rw [if_pos hq] at hc;omega
   ·rw [if_neg hq]
  have ht:tkZ l t m.log2=v:=by unfold tkZ;rw [h,hx]
  rw [ht,if_pos (by omega)]
  have:okZ l t m.log2=true:=by unfold okZ;exact decide_eq_true (.inr hl)
  rw [this]
 ·rw [if_neg hc] at h hl ⊢
  have o1:okZ l t m.log2=true:=by unfold okZ;exact decide_eq_true (.inr (by omega))
  have o2:okZ l (t+m.log2) 1=true:=by unfold okZ;exact decide_eq_true (.inr (by omega))
  have t1:tkZ l t m.log2=xZ m v%2^m.log2:=by
   unfold tkZ
   rw [←h,h4,Nat.mul_comm 2,Nat.mod_mul_right_mod]
  have t2:tkZ l (t+m.log2) 1=xZ m v/2^m.log2:=by
   unfold tkZ
   rw [←h,h4,Nat.mul_comm 2,Nat.mod_mul_right_div_self,Nat.pow_add,Nat.div_div_eq_div_mul]
  rw [t1,t2,o1,o2]
  generalize hP:2^m.log2=P at *
  have hx:xZ m v<2*P:=by
   unfold xZ;rw [hP];split<;>omega
  by_cases hq:P≤v
  ·have hxv:xZ m v=v+lwZ m:=by unfold xZ;rw [hP,if_pos hq]
   have d1:xZ m v/P=1:=Nat.div_eq_of_lt_le (by omega) (by omega)
   have d2:xZ m v%P=xZ m v-P:=by
    rw [Nat.mod_eq_sub_mod (by omega),Nat.mod_eq_of_lt (by omega)]
   rw [d1,d2,if_neg (by omega),Nat.one_mul,if_pos (by omega)]
   simp only [Bool.and_self,Prod.mk.injEq,and_true]
   omega
  ·have hxv:xZ m v=v:=by unfold xZ;rw [hP,if_neg hq]
   have d1:xZ m v/P=0:=Nat.div_eq_of_lt (by omega)
   have d2:xZ m v%P=xZ m v:=Nat.mod_eq_of_lt (by omega)
   rw [d1,d2,if_neg hc,Nat.zero_mul,Nat.add_zero,if_neg (by omega),hxv]
   rfl
def RD (T V t:Nat) (res:List Nat→Option (HS×Nat)):Prop:=V<2^t∧4≤t∧V%16=T-5∧∀l,By l→leN l%2^t=V→t≤8*l.length→readZ l ⟨4,true,[]⟩ (2^T)=res l
theorem RD.start {T:Nat} (hT:T=5∨T=6):RD T (T-5) 4 (fun l=>readZ l ⟨4,true,[]⟩ (2^T)):=⟨by omega,Nat.le_refl _,by omega,fun _ _ _ _=>rfl⟩
theorem mod_split {N V x t m:Nat} (hV:V<2^t) (hx:x<2^m) (h:N%2^(t+m)=V+x*2^t):N%2^t=V∧N/2^t%2^m=x:=by
 have hp:0<2^t:=Nat.two_pow_pos _
 rw [Nat.pow_add,Nat.mod_mul] at h
 have ha:N%2^t<2^t:=Nat.mod_lt _ hp
 generalize N%2^t=a at *
 generalize N/2^t%2^m=q at *
 have h1:(a+2^t*q)%2^t=a:=by rw [Nat.add_mul_mod_self_left,Nat.mod_eq_of_lt ha]
 have h2:(V+x*2^t)%2^t=V:=by rw [Nat.add_mul_mod_self_right,Nat.mod_eq_of_lt hV]
 have h3:(a+2^t*q)/2^t=q:=by rw [Nat.add_mul_div_left _ _ hp,Nat.div_eq_of_lt ha,Nat.zero_add]
 have h4:(V+x*2^t)/2^t=x:=by rw [Nat.add_mul_div_right _ _ hp,Nat.div_eq_of_lt hV,Nat.zero_add]
 rw [h] at h1 h3
 omega
theorem put_lt {V x t m:Nat} (hV:V<2^t) (hx:x<2^m):V+x*2^t<2^(t+m):=by
 have h1:(x+1)*2^t≤2^m*2^t:=Nat.mul_le_mul_right _ hx
 rw [Nat.pow_add,Nat.mul_comm (2^t)]
 rw [Nat.add_mul,Nat.one_mul] at h1
 omega
theorem RD.ext {T V t x m:Nat} {res res':List Nat→Option (HS×Nat)} (h:RD T V t res) (hx:x<2^m) (hr:∀l,By l→leN l/2^t%2^m=x→t+m≤8*l.length→res l=res' l):RD T (V+x*2^t) (t+m) res':=by
 obtain ⟨h1,h2,h3,h4⟩:=h
 refine ⟨put_lt h1 hx,by omega,?_,?_⟩
 ·rw [show t=(t-4)+4 by omega,Nat.pow_add, ←Nat.mul_assoc]
  show (V+x*2^(t-4)*16)%16=T-5
  rw [Nat.add_mul_mod_self_right];exact h3
 ·intro l hb hl ht
  obtain ⟨a1,a2⟩:=mod_split h1 hx hl
  rw [h4 l hb a1 (by omega)]
  exact hr l hb a2 ht
theorem readZ_put {l:List Nat} {t left v:Nat} {cs:List Int} (h0:0<left) (hc:cs.length≤255) (hv:v≤left+1) (h:leN l/2^t%2^bZ (left+1) v=xZ (left+1) v) (hl:t+bZ (left+1) v≤8*l.length) :
  readZ l ⟨t,true,cs⟩ left=readZ l (if v=1 then zerosZ l ⟨t+bZ (left+1) v,true,cs ++ [(v:Int)-1]⟩ else ⟨t+bZ (left+1) v,true,cs ++ [(v:Int)-1]⟩) (leftZ v left):=by
 have hz:=valZ_put (l:=l) (by omega) hv h hl
 rw [readZ]
 rw [if_pos ⟨h0,rfl⟩,dif_neg (by simp only;omega)]
 simp only [nextZ,stepZ,hz,Bool.and_self]
theorem zerosZ_3 {l:List Nat} {t:Nat} {cs:List Int} (h:leN l/2^t%2^2=3) (hl:t+2≤8*l.length) (hc:cs.length+3≤256):zerosZ l ⟨t,true,cs⟩=zerosZ l ⟨t+2,true,cs++List.replicate 3 0⟩:=by
 have hk:tkZ l t 2=3:=h
 have o:okZ l t 2=true:=by unfold okZ;exact decide_eq_true (.inr hl)
 rw [zerosZ]
 simp only [hk,o,if_true,Bool.and_self]
 rw [dif_neg (by omega)]
theorem zerosZ_r {l:List Nat} {t r:Nat} {cs:List Int} (h:leN l/2^t%2^2=r) (hr:r<3) (hl:t+2≤8*l.length):zerosZ l ⟨t,true,cs⟩=⟨t+2,true,cs++List.replicate r 0⟩:=by
 have hk:tkZ l t 2=r:=h
 have o:okZ l t 2=true:=by unfold okZ;exact decide_eq_true (.inr hl)
 rw [zerosZ]
 simp only [hk,o,if_true,Bool.and_self]
 rw [dif_pos (.inl hr)]
theorem RD.done {T V t:Nat} {ns:List Int} (h:RD T V t (fun l=>readZ l ⟨t,true,ns⟩ 0)) (hT:T=5∨T=6) {H rest:List Nat} (hH:By H) (hr:By rest) (hv:leN H=V) (hlen:H.length=(t+7)/8) (hn:ns.length≤256):fseRead (H++rest)=some (ns,T,rest):=by
 obtain ⟨h1,h2,h3,h4⟩:=h
 have hb:By (H++rest):=hH.app hr
 have hl:leN (H++rest)%2^t=V:=by
  rw [leN_append,hv,hlen]
  have e:(256:Nat)^((t+7)/8)=2^t*2^(8*((t+7)/8)-t):=by
   rw [←Nat.pow_add,show t+(8*((t+7)/8)-t)=8*((t+7)/8) by omega,Nat.pow_mul]
  rw [e,Nat.mul_assoc,Nat.add_mul_mod_self_left,Nat.mod_eq_of_lt h1]
 have h5:readZ (H++rest) ⟨4,true,[]⟩ (2^T)=readZ (H++rest) ⟨t,true,ns⟩ 0:=h4 _ hb hl (by rw [List.length_append,hlen];omega)
 have h16:leN (H++rest)%16=T-5:=by
  rw [←h3, ←hl]
  have:(2:Nat)^t=16*2^(t-4):=by rw [show (16:Nat)=2^4 from rfl, ←Nat.pow_add,show 4+(t-4)=t by omega]
  rw [this,Nat.mod_mul_right_mod]
 have hk:tkZ (H++rest) 0 4=T-5:=by unfold tkZ;rw [Nat.pow_zero,Nat.div_one];exact h16
 have ho:okZ (H++rest) 0 4=true:=by unfold okZ;exact decide_eq_true (.inr (by rw [List.length_append,hlen];omega))
 have hTT:T-5+5=T:=by omega
 unfold fseRead
 rw [hk,ho,hTT,if_neg (by omega),h5]
 have h0:readZ (H++rest) ⟨t,true,ns⟩ 0=some (⟨t,true,ns⟩,0):=by rw [readZ,if_neg (by omega)]
 rw [h0]
 simp only [true_and]
 rw [if_pos hn, ←hlen,List.drop_left]
structure WS (w:World) (ob cap:Nat) (F:Cells) (ol:List Nat) (bs bc V t:Nat):Prop where
 blk:Blk w ob F
 som:Som cap F
 byt:By ol
 cel:∀j (h:j<ol.length),F j=some (.int .u8 (ol[j]:Nat))
 val:leN ol+2^(8*ol.length)*bs=V
 tot:8*ol.length+bc=t
 lt:bs<2^bc
 ev:ol.length%2=0
theorem WS.put {w:World} {ob cap:Nat} {F:Cells} {ol:List Nat} {bs bc V t x m:Nat} (h:WS w ob cap F ol bs bc V t) (hx:x<2^m):WS w ob cap F ol (bs+x*2^bc) (bc+m) (V+x*2^t) (t+m) :=
 ⟨h.blk,h.som,h.byt,h.cel,content_add ol bs bc x V t h.val h.tot,by have:=h.tot;omega,put_lt h.lt hx,h.ev⟩
theorem leB2 (n:Nat):leB n 2 = [n%256,n/256%256]:=rfl
theorem two_b {w:World} {ob o cap mh bs:Nat} {F:Cells} {κ:PT} (B:Blk w ob F) (hS:Som cap F) (hbs:bs<2^31) (ho:o+2≤mh) (hm:mh≤cap) (ho2:o<2^30)
  (hk:∀w',Blk w' ob (updC (updC F o (.int .u8 ((bs%256:Nat):Int))) (o+1) (.int .u8 ((bs/256%256:Nat):Int)))→Fm w w' [ob]→κ w') :
  (ixS 1 ⟨some ⟨ob,0,none⟩,mh,cap⟩ (o:Int) fun (p:Addr)=>st p (.int .u8 (IntKind.wrap .u8 (bs:Int)))<|req (0≤(8:Int))<|ixS 1 ⟨some ⟨ob,0,none⟩,mh,cap⟩ (IntKind.wrap .u64 ((o:Int)+(1:Int))) fun (p:Addr)=>st p (.int .u8 (IntKind.wrap .u8 (shrI .u32 (bs:Int) (8:Int))))<|κ) w:=by
 have e1:IntKind.u8.wrap (bs:Int)=((bs%256:Nat):Int):=wrap_u (k := .u8) rfl bs
 have e2:IntKind.u8.wrap (shrI .u32 (bs:Int) 8)=((bs/256%256:Nat):Int):=by
  have h1:shrI .u32 (bs:Int) 8=((bs/2^8:Nat):Int):=shrI_nat .u32 bs 8 (by simp only [IntKind.bits];omega)
  rw [h1];exact wrap_u (k := .u8) rfl (bs/2^8)
 rw [e1,e2]
 refine ixS_o rfl (by omega) ?_
 rw [Nat.zero_add]
 refine st_u B (hS _ (by omega)) rfl ?_
 intro w2 B2 F2
 refine ⟨by decide,?_⟩
 refine ixS_o (k:=o+1) (by rw [wU64 (by omega) (by omega)];omega) (by omega) ?_
 rw [Nat.zero_add]
 refine st_u B2 (hS.upd _ (by omega)) rfl ?_
 intro w3 B3 F3
 exact hk w3 B3 (F2.trans F3 (fun x hx => .inl hx))
theorem WS.flush {w:World} {ob cap mh:Nat} {F:Cells} {ol:List Nat} {bs bc V t:Nat} {κ:PT} (h:WS w ob cap F ol bs bc V t) (hbs:bs<2^31) (ho:ol.length+2≤mh) (hm:mh≤cap) (ho2:ol.length<2^30) (hbc:16≤bc)
  (hk:∀w' F',WS w' ob cap F' (ol++leB bs 2) (bs/65536) (bc-16) V t→Fm w w' [ob]→κ w') :
  (ixS 1 ⟨some ⟨ob,0,none⟩,mh,cap⟩ (ol.length:Int) fun (p:Addr)=>st p (.int .u8 (IntKind.wrap .u8 (bs:Int)))<|req (0≤(8:Int))<|ixS 1 ⟨some ⟨ob,0,none⟩,mh,cap⟩ (IntKind.wrap .u64 ((ol.length:Int)+(1:Int))) fun (p:Addr)=>st p (.int .u8 (IntKind.wrap .u8 (shrI .u32 (bs:Int) (8:Int))))<|κ) w:=by
 refine two_b h.blk h.som hbs ho hm ho2 ?_
 intro w' B' F'
 have hlen:(ol++leB bs 2).length=ol.length+2:=by rw [List.length_append,leB_len]
 have hev:=h.ev
 have htot:=h.tot
 refine hk w' _ ⟨B',h.som.upd.upd,h.byt.app (leB_by _ _),?_,?_,?_,?_,?_⟩ F'
 ·intro j hj
  rw [hlen] at hj
  unfold updC
  by_cases e1:j=ol.length+1
  ·subst e1
   rw [if_pos rfl,List.getElem_append_right (by omega)]
   simp [leB2]
  ·rw [if_neg e1]
   by_cases e2:j=ol.length
   ·subst e2
    rw [if_pos rfl,List.getElem_append_right (by omega)]
    simp [leB2]
   ·rw [if_neg e2,List.getElem_append_left (by omega)]
    exact h.cel j (by omega)
 ·exact content_out ol bs 2 V h.val
 ·rw [hlen];omega
 ·have:=h.lt
  have e:(2:Nat)^bc=2^(bc-16)*65536:=by rw [show (65536:Nat)=2^16 from rfl, ←Nat.pow_add,show bc-16+16=bc by omega]
  rw [e] at this
  exact (Nat.div_lt_iff_lt_mul (by decide)).mpr this
 ·rw [hlen];omega
theorem take_zeros {ns:List Int} {s:Nat} : ∀ {k:Nat},s+k≤ns.length→(∀m,s≤m→m<s+k→ns.getD m 0=0)→ns.take (s+k)=ns.take s++List.replicate k 0
 | 0,_,_=>by simp
 | k+1,hk,hz=>by
  have h1:s+k<ns.length:=by omega
  have h2:=hz (s+k) (by omega) (by omega)
  rw [getD_Z h1] at h2
  rw [←Nat.add_assoc,List.take_succ_eq_append_getElem h1,take_zeros (by omega) (fun m h3 h4=>hz m h3 (by omega)),h2,List.replicate_succ',List.append_assoc]
theorem cumZ_zeros {ns:List Int} {i j:Nat} (h1:i≤j) (h2:j≤ns.length) (hz:∀m,i≤m→m<j→ns.getD m 0=0):cumZ ns j=cumZ ns i:=by
 have:=take_zeros (s:=i) (k:=j-i) (by omega) (fun m a b=>hz m a (by omega))
 rw [Nat.add_sub_cancel' h1] at this
 unfold cumZ
 rw [this]
 unfold sumZ
 rw [List.map_append,List.sum_append]
 simp [absZ]
theorem room {T L t o:Nat} (hT:T=5∨T=6) (hL:L≤12) (he:o%2=0) (h:8*o+1≤t) (ht:t≤5+T*L+2*(L/2)):o+2≤(L*T+6)/8+3:=by
 have hc:L=0∨L=1∨L=2∨L=3∨L=4∨L=5∨L=6∨L=7∨L=8∨L=9∨L=10∨L=11∨L=12:=by omega
 rcases hT with rfl|rfl<;>rcases hc with rfl|rfl|rfl|rfl|rfl|rfl|rfl|rfl|rfl|rfl|rfl|rfl|rfl<;>omega
inductive HBt (T:Nat) (ns:List Int):Nat→Bool→Nat→Prop
 | start:HBt T ns 0 false 4
 | share {i t:Nat} : HBt T ns i false t→i<ns.length→HBt T ns (i+1) (decide (ns.getD i 0=0)) (t+bZ (2^T+1-cumZ ns i) (ns.getD i 0+1).toNat)
 | run {i j t:Nat} : HBt T ns i true t→i≤j→j<ns.length→(∀m,i≤m→m<j→ns.getD m 0=0)→ns.getD j 0≠0→HBt T ns (j+1) (decide (ns.getD j 0=0)) (t+2*((j-i)/3)+2+bZ (2^T+1-cumZ ns j) (ns.getD j 0+1).toNat)
section
variable {T L:Nat} {w:World} {b ob cap mh:Nat} {S:FS} {ns:List Int} {F:Cells} {ol:List Nat} {bs bc V t:Nat}
theorem wc_run {R15:Int×Int×Int×Int→PT} {i left B:Nat} {x5 x6 x7:Int} (H:NS S ns T L) (hL12:L≤12) (hlast:ns.getD (L-1) 0≠0) (HB:Blk w b S.at) (hW:WS w ob cap F ol bs bc V t) (hbc1:1≤bc) (hbc:bc≤16) (hiL:i<L)
  (hRD:RD T V t (fun l=>readZ l (zerosZ l ⟨t,true,ns.take i⟩) left)) (hB:B≤1) (hlim:t+2≤4+B+T*i+2*((i+1)/2)) (dbo:b≠ob) (hmh:mh=(L*T+6)/8+3) (hcap:mh≤cap)
  (hk:∀w' j ol' bs' bc' V' t' F',t'=t+2*((j-i)/3)+2→i≤j→j<L→(∀m,i≤m→m<j→ns.getD m 0=0)→ns.getD j 0≠0→WS w' ob cap F' ol' bs' bc' V' t'→1≤bc'→bc'≤16→RD T V' t' (fun l=>readZ l ⟨t',true,ns.take j⟩ left)→t'≤4+B+T*j+2*((j+1)/2)→Fm w w' [ob]→R15 ((j:Int),(bs':Int),(bc':Int),(ol'.length:Int)) w') :
  joinP (fun R16=>loopP (i:Int) (q112_L0 ⟨b,0,none⟩ R16)) (q112_J5 ⟨some ⟨ob,0,none⟩,mh,cap⟩ (true,(i:Int),(bs:Int),(bc:Int),x5,x6,x7,(ol.length:Int)) R15) w:=by
 have hlen:=H.len
 have hl2:=H.l2
 have hT6:T=5∨T=6:=H.log
 have hTL:T*L≤6*12:=Nat.mul_le_mul (by omega) hL12
 refine ⟨fun x w'=>w'=w∧∃j:Nat,x=(j:Int)∧i≤j∧j<L∧(∀m,i≤m→m<j→ns.getD m 0=0)∧ns.getD j 0≠0,?_,?_⟩
 ·rintro x w' ⟨rfl,j,rfl,hij,hjL,hz,hj0⟩
  unfold q112_J5
  refine joinP_id ?_
  refine ⟨fun x w2=>w2=w'∧x=((bs:Int),(ol.length:Int),(i:Int)),fun _ _=>0,⟨rfl,rfl⟩,?_⟩
  rintro x w2 ⟨rfl,rfl⟩
  unfold q112_L1
  simp only
  refine cnd_d (fun h => ?_) (fun _ => ?_)
  ·rw [wU16 (by omega) (by omega)] at h;omega
  unfold q112_J4
  simp only
  have hTi:T*(i+(j-i)+1)≤T*L:=Nat.mul_le_mul_left _ (by omega)
  have hTm:5*(j-i)≤T*(j-i):=Nat.mul_le_mul_right _ (by omega)
  rw [Nat.mul_add,Nat.mul_add,Nat.mul_one] at hTi
  have hTj:T*j=T*i+T*(j-i):=by rw [←Nat.mul_add,Nat.add_sub_cancel' hij]
  refine ⟨fun x w3=>w3=w2∧∃q bs2 V2:Nat,x=((bs2:Int),((bc+2*q:Nat):Int),((i+3*q:Nat):Int))∧i+3*q≤j∧j<i+3*q+3∧WS w2 ob cap F ol bs2 (bc+2*q) V2 (t+2*q)∧RD T V2 (t+2*q) (fun l=>readZ l (zerosZ l ⟨t+2*q,true,ns.take (i+3*q)⟩) left),?_,?_⟩
  ·rintro x w3 ⟨rfl,q,bs2,V2,rfl,hq1,hq2,hW2,hR2⟩
   have hlt2:=hW2.lt
   have hp:2^(bc+2*q)≤2^24:=Nat.pow_le_pow_right (by omega) (by omega)
   unfold q112_J3
   simp only
   have e1:IntKind.u32.wrap (IntKind.u16.wrap ((j:Int)-((i+3*q:Nat):Int)))=((j-(i+3*q):Nat):Int):=by rw [wU16 (by omega) (by omega),wU32 (by omega) (by omega)];omega
   have hr3:j-(i+3*q)<3:=by omega
   have hrd:=hR2.ext (x:=j-(i+3*q)) (m:=2) (res':=fun l=>readZ l ⟨t+2*q+2,true,ns.take j⟩ left) (by omega) (by
    intro l hb hx hl
    have:=take_zeros (ns:=ns) (s:=i+3*q) (k:=j-(i+3*q)) (by omega) (fun m h1 h2=>hz m (by omega) (by omega))
    rw [show i+3*q+(j-(i+3*q))=j by omega] at this
    rw [zerosZ_r hx hr3 hl, ←this])
   have hW3:=hW2.put (x:=j-(i+3*q)) (m:=2) (by omega)
   generalize j-(i+3*q)=r3 at *
   have hr4:r3*2^(bc+2*q)≤2*2^24:=Nat.mul_le_mul (by omega) hp
   have e2:shlI .u32 (r3:Int) ((bc+2*q:Nat):Int)=((r3*2^(bc+2*q):Nat):Int):=shlI_nat .u32 r3 (bc+2*q) (by simp only [IntKind.bits];omega) (by simp only [IntKind.bits];omega)
   have e3:IntKind.u32.wrap ((bs2:Int)+((r3*2^(bc+2*q):Nat):Int))=((bs2+r3*2^(bc+2*q):Nat):Int):=by rw [wU32 (by omega) (by omega)];omega
   have e4:IntKind.u64.wrap (((bc+2*q:Nat):Int)+2)=((bc+2*q+2:Nat):Int):=by rw [wU64 (by omega) (by omega)];omega
   rw [e1,e2,e3,e4]
   have hbs3:bs2+r3*2^(bc+2*q)<2^31:=by omega
   have htot:=hW3.tot
   have htl:t+2*q+2≤4+B+T*j+2*((j+1)/2):=by omega
   generalize bs2+r3*2^(bc+2*q)=bs3 at *
   generalize V2+r3*2^(t+2*q)=V3 at *
   refine ⟨by omega,?_⟩
   refine cnd_d ?_ ?_
   ·intro hc
    refine hW3.flush hbs3 (by rw [hmh];exact room hT6 hL12 hW3.ev (t:=t+2*q+2) (by omega) (by omega)) hcap (by omega) (by omega) ?_
    intro w4 F4 hW4 Fr4
    refine ⟨by decide,?_⟩
    have e5:shrI .u32 (bs3:Int) 16=((bs3/65536:Nat):Int):=shrI_nat .u32 bs3 16 (by simp only [IntKind.bits];omega)
    have e6:IntKind.u64.wrap (((bc+2*q+2:Nat):Int)-16)=((bc+2*q+2-16:Nat):Int):=by rw [wU64 (by omega) (by omega)];omega
    have e7:IntKind.u64.wrap ((ol.length:Int)+2)=(((ol++leB bs3 2).length:Nat):Int):=by rw [wU64 (by omega) (by omega),List.length_append,leB_len];omega
    rw [e5,e6,e7]
    exact hk w4 j _ _ _ _ _ F4 (by omega) hij hjL hz hj0 hW4 (by omega) (by omega) hrd htl Fr4
   ·intro hc
    exact hk w3 j _ _ _ _ _ F (by omega) hij hjL hz hj0 hW3 (by omega) (by omega) hrd htl (Fm.refl _ _)
  ·refine ⟨fun x w3=>w3=w2∧∃q bs2 V2:Nat,x=((bs2:Int),((bc+2*q:Nat):Int),((i+3*q:Nat):Int))∧i+3*q≤j∧WS w2 ob cap F ol bs2 (bc+2*q) V2 (t+2*q)∧RD T V2 (t+2*q) (fun l=>readZ l (zerosZ l ⟨t+2*q,true,ns.take (i+3*q)⟩) left),
    fun x _=>L-x.2.2.toNat,⟨rfl,0,bs,V,rfl,by omega,hW,hRD⟩,?_⟩
   rintro x w3 ⟨rfl,q,bs2,V2,rfl,hq1,hW2,hR2⟩
   have hlt2:=hW2.lt
   have hp:2^(bc+2*q)≤2^24:=Nat.pow_le_pow_right (by omega) (by omega)
   unfold q112_L2
   simp only
   rw [wU16 (x:=((i+3*q:Nat):Int)+3) (by omega) (by omega)]
   refine cnd_d ?_ ?_
   ·intro hc
    refine ⟨by omega,?_⟩
    have hr4:3*2^(bc+2*q)≤3*2^24:=Nat.mul_le_mul_left _ hp
    have e2:shlI .u32 3 ((bc+2*q:Nat):Int)=((3*2^(bc+2*q):Nat):Int):=shlI_nat .u32 3 (bc+2*q) (by simp only [IntKind.bits];omega) (by simp only [IntKind.bits];omega)
    have e3:IntKind.u32.wrap ((bs2:Int)+((3*2^(bc+2*q):Nat):Int))=((bs2+3*2^(bc+2*q):Nat):Int):=by rw [wU32 (by omega) (by omega)];omega
    have e4:IntKind.u64.wrap (((bc+2*q:Nat):Int)+2)=((bc+2*(q+1):Nat):Int):=by rw [wU64 (by omega) (by omega)];omega
    rw [e2,e3,e4]
    refine ⟨⟨rfl,q+1,_,_,by rw [show ((i+3*q:Nat):Int)+3=((i+3*(q+1):Nat):Int) by omega],by omega,hW2.put (x:=3) (m:=2) (by decide),?_⟩,by omega⟩
    refine hR2.ext (x:=3) (m:=2) (by decide) ?_
    intro l hb hx hl
    have:=take_zeros (ns:=ns) (s:=i+3*q) (k:=3) (by omega) (fun m h1 h2=>hz m (by omega) (by omega))
    rw [zerosZ_3 hx hl (by rw [List.length_take];omega), ←this]
    rfl
   ·intro hc
    exact ⟨rfl,q,bs2,V2,rfl,hq1,by omega,hW2,hR2⟩
 ·refine ⟨fun x w'=>w'=w∧∃j:Nat,x=(j:Int)∧i≤j∧j<L∧(∀m,i≤m→m<j→ns.getD m 0=0),fun x _=>L-x.toNat,⟨rfl,i,rfl,Nat.le_refl _,hiL,fun m h1 h2=>by omega⟩,?_⟩
  rintro x w' ⟨rfl,j,rfl,hij,hjL,hz⟩
  have hj3:j<ns.length:=by omega
  unfold q112_L0
  simp only [add_mk,Nat.zero_add]
  refine ixA_o rfl (by omega) ?_
  refine ld_b (t := .I .i16) (x:=ns[j]) HB (H.at hj3) ?_
  have hg:=getD_Z hj3
  refine cnd_d ?_ ?_
  ·intro h0
   have hne:j≠L-1:=by intro e;rw [←e,hg] at hlast;exact hlast h0
   rw [wU16 (by omega) (by omega)]
   refine ⟨⟨rfl,j+1,by simp,by omega,by omega,?_⟩,by omega⟩
   intro m h1 h2
   by_cases e:m=j
   ·subst e;rw [hg];exact h0
   ·exact hz m h1 (by omega)
  ·intro h0
   exact ⟨rfl,j,rfl,hij,hjL,hz,by rw [hg];exact h0⟩
end
section
variable {T L:Nat} {w:World} {b ob cap mh:Nat} {S:FS} {ns:List Int} {F:Cells} {ol:List Nat} {bs bc V t:Nat}
def WI (T L:Nat) (ns:List Int) (w0:World) (ob cap:Nat) (i:Nat) (x:Bool×Int×Int×Int×Int×Int×Int×Int) (w':World):Prop :=
 ∃(p0:Bool) (bs bc r k V t B:Nat) (ol:List Nat) (F:Cells),x=(p0,(i:Int),(bs:Int),(bc:Int),(r:Int),((2^k:Nat):Int),((k+1:Nat):Int),(ol.length:Int))∧HBt T ns i p0 t∧WS w' ob cap F ol bs bc V t∧1≤bc∧bc≤16∧i≤L∧r=2^T+1-cumZ ns i∧r.log2=k ∧
  RD T V t (fun l=>readZ l (if p0=true then zerosZ l ⟨t,true,ns.take i⟩ else ⟨t,true,ns.take i⟩) (r-1))∧B≤1∧(B=1→r≤4)∧(p0=true→t+2≤4+B+T*i+2*((i+1)/2)∧1<r)∧(p0=false→t≤4+B+T*i+2*(i/2))∧Fm w0 w' [ob]
theorem log2_of {r k:Nat} (h1:2^k≤r) (h2:r<2^(k+1)):r.log2=k:=by
 have h0:r≠0:=by have:=Nat.two_pow_pos k;omega
 have a:=(Nat.le_log2 h0).mpr h1
 have b:=(Nat.log2_lt h0).mpr h2
 omega
set_option maxHeartbeats 1600000 in
theorem wc_share {w0:World} {K1:Value→PT} {A14:(Bool×Int×Int×Int×Int×Int×Int×Int)→PT} {i r k B:Nat} {x0:Bool} {x1 x2 x3 x7:Int} (H:NS S ns T L) (hL12:L≤12) (HB:Blk w b S.at) (hW:WS w ob cap F ol bs bc V t) (hbc1:1≤bc) (hbc:bc≤16) (hiL:i<L)
  (hr:r=2^T+1-cumZ ns i) (hr1:1<r) (hk:r.log2=k) (hRD:RD T V t (fun l=>readZ l ⟨t,true,ns.take i⟩ (r-1))) (hB:B≤1) (hB4:B=1→r≤4)
  (hlim:t≤4+B+T*i+2*(i/2)∨(ns.getD i 0≠0∧t≤4+B+T*i+2*((i+1)/2))) (dbo:b≠ob) (hmh:mh=(L*T+6)/8+3) (hcap:mh≤cap) (Fr0:Fm w0 w [ob]) (hHB:HBt T ns (i+1) (decide (ns.getD i 0=0)) (t+bZ r (ns.getD i 0+1).toNat))
  (hA:∀x' w',WI T L ns w0 ob cap (i+1) x' w'→A14 x' w') :
  q112_J11 ⟨b,0,none⟩ K1 ⟨some ⟨ob,0,none⟩,mh,cap⟩ (x0,x1,x2,x3,(r:Int),((2^k:Nat):Int),((k+1:Nat):Int),x7) A14 ((i:Int),(bs:Int),(bc:Int),(ol.length:Int)) w:=by
 have hlen:=H.len
 have hl2:=H.l2
 have hTp:=H.log.pow
 have hT6:T=5∨T=6:=H.log
 have hTL:T*L≤6*12:=Nat.mul_le_mul (by omega) hL12
 have hi3:i<ns.length:=by omega
 have hbn:=H.bnd hi3
 have hg:=getD_Z hi3
 have hcu:=cumZ_succ hi3
 have hcl:=cumZ_le ns (i+1)
 have hsum:=H.sum
 obtain ⟨s1,s2,s3⟩:=lwZ_spec (m:=r) (by omega)
 rw [hk] at s1 s2 s3
 have hkT:k≤T:=by
  have:r.log2<T+1:=(Nat.log2_lt (by omega)).mpr (by rw [Nat.pow_succ];omega)
  omega
 unfold q112_J11
 simp only [add_mk,Nat.zero_add]
 refine ixA_o rfl (by omega) ?_
 refine ld_b (t := .I .i16) (x:=ns[i]) HB (H.at hi3) ?_
 rw [hg] at hHB
 generalize hn:ns[i]=n at *
 have hv:n+1=(((n+1).toNat:Nat):Int):=by omega
 generalize hvv:(n+1).toNat=v at *
 have ha:absZ n=if v=0 then 1 else v-1:=by unfold absZ;split<;>split<;>omega
 generalize absZ n=a at *
 have hvr:v≤r:=by split at ha<;>omega
 have hr':1≤r-a:=by omega
 have hr'2:r-a=2^T+1-cumZ ns (i+1):=by omega
 have ethr:IntKind.i16.wrap (IntKind.i16.wrap (IntKind.i16.wrap (2*((2^k:Nat):Int))-1)-(r:Int))=((lwZ r:Nat):Int):=by
  rw [wI16 (x:=2*((2^k:Nat):Int)) (by omega) (by omega),wI16 (x:=2*((2^k:Nat):Int)-1) (by omega) (by omega),wI16 (by omega) (by omega)];omega
 have ev:IntKind.i16.wrap (n+1)=((v:Nat):Int):=by rw [wI16 (by omega) (by omega)];exact hv
 have hk1:1≤k:=by
  have:1≤r.log2:=(Nat.le_log2 (by omega)).mpr (by omega)
  omega
 have hpk:2≤2^k:=by
  have:2^1≤2^k:=Nat.pow_le_pow_right (by omega) hk1
  omega
 have hX:xZ r v=if 2^k≤v then v+lwZ r else v:=by unfold xZ;rw [hk]
 have hXlt:=xZ_lt (m:=r) (v:=v) (by omega) hvr
 have hbz:bZ r v=if xZ r v<lwZ r then k else k+1:=by unfold bZ;rw [hk]
 have hX1:xZ r v=1↔v=1:=by rw [hX];split<;>omega
 have hn01:n=0↔v=1:=by omega
 have fin:∀X:Nat,X=xZ r v→q112_J9 K1 ⟨some ⟨ob,0,none⟩,mh,cap⟩ (x0,x1,x2,x3,(r:Int),((2^k:Nat):Int),((k+1:Nat):Int),x7) A14 ((i:Int),(bs:Int),(bc:Int),(ol.length:Int)) ((r-a:Nat):Int) (X:Int) w:=by
  intro X hXe
  rw [←hXe] at hX hXlt hbz hX1
  have hX200:X≤200:=by rw [hX];split<;>omega
  unfold q112_J9
  simp only
  refine ⟨by omega,?_⟩
  have last:∀m:Nat,m=bZ r v→q112_J8 K1 ⟨some ⟨ob,0,none⟩,mh,cap⟩ (x0,x1,x2,x3,(r:Int),((2^k:Nat):Int),((k+1:Nat):Int),x7) A14 ((i:Int),(bs:Int),(bc:Int),(ol.length:Int)) ((r-a:Nat):Int) (X:Int) ((bc+m:Nat):Int) w:=by
   intro m hm
   rw [←hm] at hXlt hbz hHB
   have hm8:m≤7:=by rw [hbz];split<;>omega
   unfold q112_J8
   simp only
   refine cnd_d (fun h=>absurd h (by omega)) (fun _ => ?_)
   refine ⟨fun x w'=>w'=w∧x=(((2^(r-a).log2:Nat):Int),(((r-a).log2+1:Nat):Int)),?_,?_⟩
   ·rintro x w' ⟨rfl,rfl⟩
    unfold q112_J7
    simp only
    have hlt:=hW.lt
    have hp:2^bc≤2^16:=Nat.pow_le_pow_right (by omega) hbc
    have hXp:X*2^bc≤200*2^16:=Nat.mul_le_mul hX200 hp
    have e1:IntKind.u32.wrap (X:Int)=(X:Int):=wU32 (by omega) (by omega)
    have e2:shlI .u32 (X:Int) (bc:Int)=((X*2^bc:Nat):Int):=shlI_nat .u32 X bc (by simp only [IntKind.bits];omega) (by simp only [IntKind.bits];omega)
    have e3:IntKind.u32.wrap ((bs:Int)+((X*2^bc:Nat):Int))=((bs+X*2^bc:Nat):Int):=by rw [wU32 (by omega) (by omega)];omega
    have e4:IntKind.u16.wrap ((i:Int)+1)=((i+1:Nat):Int):=by rw [wU16 (by omega) (by omega)];omega
    rw [e1,e2,e3,e4]
    have hW2:=hW.put hXlt
    have hbs3:bs+X*2^bc<2^31:=by omega
    have hleft:leftZ v (r-1)=r-a-1:=by unfold leftZ;split at ha<;>split<;>omega
    have htk:ns.take (i+1)=ns.take i ++ [(v:Int)-1]:=by
     rw [List.take_succ_eq_append_getElem hi3,hn,show (v:Int)-1=n by omega]
    have hR2:RD T (V+X*2^t) (t+m) (fun l=>readZ l (if v=1 then zerosZ l ⟨t+m,true,ns.take (i+1)⟩ else ⟨t+m,true,ns.take (i+1)⟩) (r-a-1)):=by
     refine hRD.ext hXlt ?_
     intro l hb hx hl
     have hrr:r-1+1=r:=by omega
     have:=readZ_put (l:=l) (t:=t) (left:=r-1) (v:=v) (cs:=ns.take i) (by omega) (by rw [List.length_take];omega) (by omega) (by rw [hrr, ←hm, ←hXe];exact hx) (by rw [hrr, ←hm];exact hl)
     rw [hrr, ←hm,hleft, ←htk] at this
     exact this
    have htot:=hW2.tot
    have hTi:T*(i+1)≤T*L:=Nat.mul_le_mul_left _ (by omega)
    have hTs:T*(i+1)=T*i+T:=Nat.mul_succ _ _
    have hbits:m≤T∨(m=T+1∧r-a≤4∧32≤r):=by
     by_cases hkk:k<T
     ·left;rw [hbz];split<;>omega
     ·have hke:k=T:=by omega
      subst hke
      by_cases hc:X<lwZ r
      ·left;rw [hbz,if_pos hc];exact Nat.le_refl _
      ·right
       rw [hbz,if_neg hc]
       refine ⟨rfl,?_,by omega⟩
       split at hX<;>split at ha<;>omega
    have hB':∃B',B'≤1∧(B'=1→r-a≤4)∧B+m≤B'+T:=by
     rcases hbits with h|⟨h1,h2,h3⟩
     ·exact ⟨B,hB,(fun e=>by have:=hB4 e;omega),by omega⟩
     ·exact ⟨1,Nat.le_refl _,fun _=>h2,by omega⟩
    obtain ⟨B',hb1,hb2,hb3⟩:=hB'
    have hlim2:(v=1→t+m+2≤4+B'+T*(i+1)+2*((i+1+1)/2))∧(v≠1→t+m≤4+B'+T*(i+1)+2*((i+1)/2)):=by
     refine ⟨?_,?_⟩
     ·intro h1
      rcases hlim with h|⟨h,_⟩
      ·omega
      ·rw [hg] at h;omega
     ·intro h1
      rcases hlim with h|⟨_,h⟩<;>omega
    have hall:t+m≤5+T*L+2*(L/2):=by
     by_cases h1:v=1
     ·have:=hlim2.1 h1;omega
     ·have:=hlim2.2 h1;omega
    generalize bs+X*2^bc=bs3 at *
    generalize V+X*2^t=V3 at *
    have wi:∀(w4:World) (ol4:List Nat) (bs4 bc4:Nat) (F4:Cells) (x1 x2 x3:Int),WS w4 ob cap F4 ol4 bs4 bc4 V3 (t+m)→1≤bc4→bc4≤16→Fm w' w4 [ob]→x1=(bs4:Int)→x2=(bc4:Int)→x3=(ol4.length:Int) →
      WI T L ns w0 ob cap (i+1) (decide ((X:Int)=1),((i+1:Nat):Int),x1,x2,((r-a:Nat):Int),((2^(r-a).log2:Nat):Int),(((r-a).log2+1:Nat):Int),x3) w4:=by
     rintro w4 ol4 bs4 bc4 F4 _ _ _ hW4 h1 h2 Fr4 rfl rfl rfl
     refine ⟨_,bs4,bc4,r-a,(r-a).log2,V3,t+m,B',ol4,F4,rfl,?_,hW4,h1,h2,by omega,hr'2,rfl,?_,hb1,hb2,?_,?_,Fr0.trans Fr4 (fun x hx => .inl hx)⟩
     ·have e:decide (n=0)=decide ((X:Int)=1):=by
       have:n=0↔(X:Int)=1:=by rw [hn01, ←hX1];omega
       exact decide_eq_decide.mpr this
      rw [←e];exact hHB
     ·by_cases h1:v=1
      ·have h2:(X:Int)=1:=by have:=hX1.mpr h1;omega
       have e:decide ((X:Int)=1)=true:=decide_eq_true h2
       simp only [if_pos h1] at hR2
       simp only [e,if_true]
       exact hR2
      ·have h2:¬(X:Int)=1:=by intro h;exact h1 (hX1.mp (by omega))
       have e:decide ((X:Int)=1)=false:=decide_eq_false h2
       simp only [if_neg h1] at hR2
       simp only [e,Bool.false_eq_true,if_false]
       exact hR2
     ·intro h
      have h2:v=1:=hX1.mp (by have:=of_decide_eq_true h;omega)
      refine ⟨hlim2.1 h2,?_⟩
      rw [if_neg (by omega)] at ha
      omega
     ·intro h
      have h2:v≠1:=by intro e;have:=hX1.mpr e;have:=of_decide_eq_false h;omega
      exact hlim2.2 h2
    refine cnd_d ?_ ?_
    ·intro hc
     refine hW2.flush hbs3 (by rw [hmh];exact room hT6 hL12 hW2.ev (t:=t+m) (by omega) (by omega)) hcap (by omega) (by omega) ?_
     intro w4 F4 hW4 Fr4
     refine ⟨by decide,?_⟩
     refine hA _ _ (wi w4 _ _ _ F4 _ _ _ hW4 (by omega) (by omega) Fr4 ?_ ?_ ?_)
     ·exact shrI_nat .u32 bs3 16 (by simp only [IntKind.bits];omega)
     ·rw [wU64 (by omega) (by omega)];omega
     ·rw [wU64 (by omega) (by omega),List.length_append,leB_len];omega
    ·intro hc
     exact hA _ _ (wi w' _ _ _ F _ _ _ hW2 (by omega) (by omega) (Fm.refl _ _) rfl rfl rfl)
   ·refine ⟨fun x w'=>w'=w∧∃k':Nat,x=(((2^k':Nat):Int),((k'+1:Nat):Int))∧r-a<2^(k'+1)∧k'≤k,fun x _=>x.2.toNat,⟨rfl,k,rfl,by rw [Nat.pow_succ];omega,Nat.le_refl _⟩,?_⟩
    rintro x w' ⟨rfl,k',rfl,hk',hkk⟩
    have hpw:2^k'≤2^k:=Nat.pow_le_pow_right (by omega) hkk
    unfold q112_L6
    simp only
    refine cnd_d ?_ ?_
    ·intro hc
     have h0:k'≠0:=by intro e;subst e;omega
     have esh:shrI .i16 ((2^k':Nat):Int) 1=((2^(k'-1):Nat):Int):=by
      have h1:shrI .i16 ((2^k':Nat):Int) 1=((2^k'/2^1:Nat):Int):=shrI_nat .i16 _ 1 (by simp only [IntKind.bits];omega)
      rw [h1,Nat.pow_div (by omega) (by omega)]
     refine ⟨by decide,?_⟩
     rw [esh]
     refine ⟨⟨rfl,k'-1,?_,?_,by omega⟩,?_⟩
     ·rw [wU64 (by omega) (by omega),show ((k'+1:Nat):Int)-1=((k'-1+1:Nat):Int) by omega]
     ·rw [show k'-1+1=k' by omega];omega
     ·rw [wU64 (by omega) (by omega)];omega
    ·intro hc
     have:(r-a).log2=k':=log2_of (by omega) hk'
     rw [this]
     exact ⟨rfl,rfl⟩
  refine joinP_id ?_
  rw [ethr]
  refine cnd_d ?_ ?_
  ·intro hc
   rw [wU64 (x:=(bc:Int)+((k+1:Nat):Int)) (by omega) (by omega),wU64 (by omega) (by omega),show (bc:Int)+((k+1:Nat):Int)-1=((bc+k:Nat):Int) by omega]
   exact last k (by rw [hbz,if_pos (by omega)])
  ·intro hc
   rw [wU64 (x:=(bc:Int)+((k+1:Nat):Int)) (by omega) (by omega),show (bc:Int)+((k+1:Nat):Int)=((bc+(k+1):Nat):Int) by omega]
   exact last (k+1) (by rw [hbz,if_neg (by omega)])
 have mid:q112_J10 K1 ⟨some ⟨ob,0,none⟩,mh,cap⟩ (x0,x1,x2,x3,(r:Int),((2^k:Nat):Int),((k+1:Nat):Int),x7) A14 ((i:Int),(bs:Int),(bc:Int),(ol.length:Int)) n ((r-a:Nat):Int) w:=by
  unfold q112_J10
  simp only
  rw [ethr,ev]
  refine joinP_id (cnd_d ?_ ?_)
  ·intro hc
   rw [wI16 (x:=(v:Int)+((lwZ r:Nat):Int)) (by omega) (by omega),show (v:Int)+((lwZ r:Nat):Int)=((v+lwZ r:Nat):Int) by omega]
   exact fin _ (by rw [hX,if_pos (by omega)])
  ·intro hc
   exact fin _ (by rw [hX,if_neg (by omega)])
 refine joinP_id (cnd_d ?_ ?_)
 ·intro hc
  rw [wI16 (by omega) (by omega),show (r:Int)+n=((r-a:Nat):Int) by split at ha<;>omega]
  exact mid
 ·intro hc
  rw [wI16 (by omega) (by omega),show (r:Int)-n=((r-a:Nat):Int) by split at ha<;>omega]
  exact mid
end
section
variable {T L:Nat} {w:World} {b ob cap mh:Nat} {S:FS} {ns:List Int}
set_option maxHeartbeats 1600000 in
theorem wc_all {K1:Value→PT} {l0:Nat} {F:Cells} (H:NS S ns T L) (hL12:L≤12) (hlast:ns.getD (L-1) 0≠0) (hout:S.out=⟨some ⟨ob,0,none⟩,l0,cap⟩) (HB:Blk w b S.at) (HO:Blk w ob F) (hS:Som cap F) (dbo:b≠ob) (hmh:mh=(L*T+6)/8+3) (hcap:mh≤cap)
  (hk:∀w' o Hd,(∃t,HBt T ns L false t∧Hd.length=(t+7)/8)→By Hd→(∀rest,By rest→fseRead (Hd++rest)=some (ns,T,rest))→Hd.length≤20→o=⟨some ⟨ob,0,none⟩,Hd.length,cap⟩→Vec 1 w' o (bytes .u8 Hd)→Blk w' b ({ S with out:=o } : FS).at→Fm w w' [b,ob]→K1 .nilIface w') :
  q112_J14 ⟨b,0,none⟩ K1 ((T:Nat):Int) ((L:Nat):Int) () w:=by
 have hlen:=H.len
 have hl2:=H.l2
 have hTp:=H.log.pow
 have hT6:T=5∨T=6:=H.log
 have hTL:T*L≤6*12:=Nat.mul_le_mul (by omega) hL12
 have hsum:=H.sum
 have hmh20:mh≤12:=by rw [hmh];rcases hT6 with rfl|rfl<;>omega
 have emh:IntKind.i64.wrap (shrI .i64 (IntKind.i64.wrap (IntKind.i64.wrap (IntKind.i64.wrap (IntKind.i64.wrap ((L:Nat):Int)*IntKind.i64.wrap ((T:Nat):Int))+4)+2)) 3+3)=((mh:Nat):Int):=by
  have hLT:L*T≤12*6:=Nat.mul_le_mul hL12 (by omega)
  rw [wI64 (x:=((L:Nat):Int)) (by omega) (by omega),wI64 (x:=((T:Nat):Int)) (by omega) (by omega), ←Int.natCast_mul]
  generalize L*T=q at *
  rw [wI64 (x:=(q:Int)) (by omega) (by omega),wI64 (x:=(q:Int)+4) (by omega) (by omega),wI64 (x:=(q:Int)+4+2) (by omega) (by omega)]
  have h1:shrI .i64 (((q+6:Nat):Nat):Int) 3=(((q+6)/2^3:Nat):Int):=shrI_nat .i64 (q+6) 3 (by simp only [IntKind.bits];omega)
  rw [show (q:Int)+4+2=((q+6:Nat):Int) by omega,h1,wI64 (by omega) (by omega)];omega
 unfold q112_J14
 simp only [add_mk,Nat.zero_add]
 refine ld_b (t := .S) (x:=⟨some ⟨ob,0,none⟩,l0,cap⟩) HB (by show some S.out.val=_;rw [hout];rfl) ?_
 rw [emh]
 refine slc_hi (m:=mh) rfl hcap ?_
 have hlog:(2^T+1).log2=T:=log2_of (by omega) (by rw [Nat.pow_succ];omega)
 refine ⟨fun x w'=>∃(t:Nat) (H0:List Nat) (F':Cells) (bs bc V:Nat),x=((L:Int),(bs:Int),(bc:Int),(H0.length:Int))∧HBt T ns L false t∧WS w' ob cap F' H0 bs bc V t∧1≤bc∧bc≤16∧RD T V t (fun l=>readZ l ⟨t,true,ns⟩ 0)∧t≤5+T*L+2*(L/2)∧Fm w w' [ob],?_,?_⟩
 ·rintro x w2 ⟨t,ol,F2,bs,bc,V,rfl,hHB,hW,hbc1,hbc,hRD,hlim,Fr⟩
  have HB2:=HB.fr Fr (nm1 dbo)
  have htot:=hW.tot
  have hroom:=room hT6 hL12 hW.ev (t:=t) (by omega) hlim
  rw [←hmh] at hroom
  have hlt:=hW.lt
  have hp:2^bc≤2^16:=Nat.pow_le_pow_right (by omega) hbc
  unfold q112_J13
  simp only [add_mk,Nat.zero_add]
  refine two_b hW.blk hW.som (by omega) hroom hcap (by omega) ?_
  intro w3 B3 F3
  refine ⟨by decide,?_⟩
  have HB3:=HB2.fr F3 (nm1 dbo)
  refine ld_b (t := .I .u16) (x:=((L:Nat):Int)) HB3 H.symAt ?_
  refine cnd_d (fun h=>absurd h (by omega)) (fun _ => ?_)
  have eq:IntKind.u64.wrap ((ol.length:Int)+quoI .u64 (IntKind.u64.wrap ((bc:Int)+7)) 8)=(((t+7)/8:Nat):Int):=by
   have h1:quoI .u64 ((bc+7:Nat):Int) 8=(((bc+7)/8:Nat):Int):=quoI_nat .u64 (bc+7) 8 (by simp only [IntKind.bits];omega)
   rw [wU64 (x:=(bc:Int)+7) (by omega) (by omega),show (bc:Int)+7=((bc+7:Nat):Int) by omega,h1,wU64 (by omega) (by omega)];omega
  rw [eq]
  refine slc_hi (m:=(t+7)/8) rfl (by simp only;omega) ?_
  refine st_u HB3 rfl rfl ?_
  intro w4 HB4 F4
  have B4:=B3.fr F4 (nm1 dbo.symm)
  have hd:∃Hd:List Nat,By Hd∧leN Hd=V∧Hd.length=(t+7)/8∧∀j (h:j<Hd.length),(updC (updC F2 ol.length (.int .u8 ((bs%256:Nat):Int))) (ol.length+1) (.int .u8 ((bs/256%256:Nat):Int))) j=some (.int .u8 (Hd[j]:Nat)):=by
   have hval:=hW.val
   by_cases h8:bc≤8
   ·have hp8:2^bc≤2^8:=Nat.pow_le_pow_right (by omega) h8
    refine ⟨ol ++ [bs],hW.byt.app (by intro x hx;simp at hx;omega),?_,by rw [List.length_append,List.length_singleton];omega,?_⟩
    ·rw [leN_append, ←hval,show (256:Nat)^ol.length=2^(8*ol.length) by rw [Nat.pow_mul]]
     simp [leN]
    ·intro j hj
     rw [List.length_append,List.length_singleton] at hj
     unfold updC
     rw [if_neg (by omega)]
     by_cases e2:j=ol.length
     ·subst e2
      rw [if_pos rfl,List.getElem_append_right (by omega)]
      simp only [Nat.sub_self,List.getElem_cons_zero]
      rw [Nat.mod_eq_of_lt (by omega)]
     ·rw [if_neg e2,List.getElem_append_left (by omega)]
      exact hW.cel j (by omega)
   ·refine ⟨ol++leB bs 2,hW.byt.app (leB_by _ _),?_,by rw [List.length_append,leB_len];omega,?_⟩
    ·have:=content_out ol bs 2 V hval
     rw [show bs/2^(8*2)=0 from Nat.div_eq_of_lt (by omega),Nat.mul_zero,Nat.add_zero] at this
     exact this
    ·intro j hj
     rw [List.length_append,leB_len] at hj
     unfold updC
     by_cases e1:j=ol.length+1
     ·subst e1
      rw [if_pos rfl,List.getElem_append_right (by omega)]
      simp [leB2]
     ·rw [if_neg e1]
      by_cases e2:j=ol.length
      ·subst e2
       rw [if_pos rfl,List.getElem_append_right (by omega)]
       simp [leB2]
      ·rw [if_neg e2,List.getElem_append_left (by omega)]
       exact hW.cel j (by omega)
  obtain ⟨Hd,d1,d2,d3,d4⟩:=hd
  rw [←d3] at HB4
  refine hk w4 ⟨some ⟨ob,0,none⟩,Hd.length,cap⟩ Hd ⟨t,hHB,d3⟩ d1 (fun rest hr=>hRD.done hT6 d1 hr d2 d3 (by omega)) (by omega) rfl ⟨?_,?_,(fun h=>by cases h),?_⟩ (HB4.congr (FS.setT (s' := { S with out:=⟨some ⟨ob,0,none⟩,Hd.length,cap⟩ }) 14 rfl rfl rfl (by decide))) ?_
  ·simp [bytes]
  ·simp only;omega
  ·intro a ha
   injection ha with ha
   subst ha
   refine ⟨rfl,rfl,_,B4,?_,?_⟩
   ·intro j hj
    have hj2:j<Hd.length:=by simpa [bytes] using hj
    rw [d4 j hj2]
    simp [bytes,hj2]
   ·intro j hj
    exact hW.som.upd.upd j (by simpa using hj)
  ·exact ((Fr.mono (S' := [b,ob]) (by intro v hv;simp at hv;simp [hv])).trans F3 (by intro v hv;simp at hv;simp [hv])).trans F4 (by intro v hv;simp at hv;simp [hv])
 ·refine ⟨fun x w'=>∃i,WI T L ns w ob cap i x w',fun x _=>L+1-x.2.1.toNat,⟨0,false,T-5,4,2^T+1,T,T-5,4,0,[],F,?_,.start,⟨HO,hS,(fun x hx=>by cases hx),(fun j h=>absurd h (Nat.not_lt_zero _)),by simp [leN],by simp,by show T-5<16;omega,rfl⟩,by omega,by omega,Nat.zero_le _,rfl,hlog,?_,by omega,by omega,(fun h=>by cases h),(fun _=>by omega),Fm.refl _ _⟩,?_⟩
  ·rw [sh64 H.log]
   rw [wU8 (x:=((T:Nat):Int)-5) (by omega) (by omega),wU32 (x:=((T:Nat):Int)-5) (by omega) (by omega),wI64 (x:=((2^T:Nat):Int)+1) (by omega) (by omega),wI16 (x:=((2^T:Nat):Int)+1) (by omega) (by omega),wI16 (x:=((2^T:Nat):Int)) (by omega) (by omega),wU8 (x:=((T:Nat):Int)+1) (by omega) (by omega),wU64 (by omega) (by omega)]
   rw [show ((T:Nat):Int)-5=((T-5:Nat):Int) by omega]
   rfl
  ·exact RD.start hT6
  rintro x w2 ⟨i,p0,bs,bc,r,k,V,t,B,ol,F2,rfl,hHB,hW,hbc1,hbc,hiL,hr,hk2,hRD,hB,hB4,hp1,hp2,Fr⟩
  have HB2:=HB.fr Fr (nm1 dbo)
  have hcl:=cumZ_le ns i
  unfold q112_L12
  simp only
  refine cnd_d ?_ ?_
  ·intro hc
   have hr1:1<r:=by omega
   have hiL2:i<L:=by
    by_cases h:i<L
    ·exact h
    ·have:cumZ ns i=2^T:=by rw [show i=ns.length by omega,cumZ_all,hsum]
     omega
   have share:∀(w3:World) (j bs3 bc3 V3 t3:Nat) (ol3:List Nat) (F3:Cells) (x0:Bool) (x1 x2 x3 x7:Int),HBt T ns (j+1) (decide (ns.getD j 0=0)) (t3+bZ r (ns.getD j 0+1).toNat)→i≤j→j<L→cumZ ns j=cumZ ns i→WS w3 ob cap F3 ol3 bs3 bc3 V3 t3→1≤bc3→bc3≤16→RD T V3 t3 (fun l=>readZ l ⟨t3,true,ns.take j⟩ (r-1)) →
     (t3≤4+B+T*j+2*(j/2)∨(ns.getD j 0≠0∧t3≤4+B+T*j+2*((j+1)/2)))→Fm w w3 [ob] →
     q112_J11 ⟨b,0,none⟩ K1 ⟨some ⟨ob,0,none⟩,mh,cap⟩ (x0,x1,x2,x3,(r:Int),((2^k:Nat):Int),((k+1:Nat):Int),x7) (fun s' w'=>(∃i,WI T L ns w ob cap i s' w')∧L+1-s'.2.1.toNat<L+1-(i:Int).toNat) ((j:Int),(bs3:Int),(bc3:Int),(ol3.length:Int)) w3:=by
    intro w3 j bs3 bc3 V3 t3 ol3 F3 x0 x1 x2 x3 x7 h0 h1 h2 h3 h4 h5 h6 h7 h8 h9
    refine wc_share H hL12 (HB.fr h9 (nm1 dbo)) h4 h5 h6 h2 (by rw [h3];exact hr) hr1 hk2 h7 hB hB4 h8 dbo hmh hcap h9 h0 ?_
    intro x' w' hx
    have hx2:=hx
    obtain ⟨p0',bs',bc',r',k',V',t',B',ol',F',rfl,_⟩:=hx2
    exact ⟨⟨j+1,hx⟩,by simp only [Int.toNat_natCast];omega⟩
   cases p0 with
   | false =>
    refine joinP_id ⟨(fun h=>by cases h),fun _ => ?_⟩
    exact share w2 i bs bc V t ol F2 _ _ _ _ _ (by rw [hr];exact hHB.share (by omega)) (Nat.le_refl _) hiL2 rfl hW hbc1 hbc hRD (.inl (hp2 rfl)) Fr
   | true =>
    refine joinP_id ⟨fun _ => ?_,fun h=>by cases h⟩
    refine wc_run H hL12 hlast HB2 hW hbc1 hbc hiL2 hRD hB (hp1 rfl).1 dbo hmh hcap ?_
    intro w3 j ol3 bs3 bc3 V3 t3 F3 h0 h1 h2 hz h3 h4 h5 h6 h7 h8 h9
    exact share w3 j bs3 bc3 V3 t3 ol3 F3 _ _ _ _ _ (by have:=hHB.run h1 (by omega) hz h3;rw [cumZ_zeros h1 (by omega) hz, ←hr] at this;rw [h0];exact this) h1 h2 (cumZ_zeros h1 (by omega) hz) h4 h5 h6 h7 (.inr ⟨h3,h8⟩) (Fr.trans h9 (fun x hx => .inl hx))
  ·intro hc
   have hr1:r=1:=by omega
   have hp:p0=false:=by
    cases p0 with
    | false=>rfl
    | true=>have:=(hp1 rfl).2;omega
   subst hp
   have hiL2:i=L:=by
    by_cases h:i<L
    ·have h1:=cumZ_succ (ns:=ns) (i:=L-1) (by omega)
     have h2:=cumZ_mono ns (show i≤L-1 by omega)
     have h3:absZ (ns[L-1]'(by omega))≠0:=by
      rw [getD_Z (by omega)] at hlast
      unfold absZ;have:=H.rng _ (List.getElem_mem (show L-1<ns.length by omega));split<;>omega
     have h4:=cumZ_le ns (L-1+1)
     omega
    ·omega
   subst hiL2
   subst hr1
   refine ⟨t,ol,F2,bs,bc,V,rfl,hHB,hW,hbc1,hbc,?_,?_,Fr⟩
   ·rw [show ns.take i=ns from List.take_of_length_le (by omega)] at hRD
    exact hRD
   ·have:=hp2 rfl;omega
theorem c112 {K:Value→PT} {n:Nat} (H:NS S ns T L) (hL12:L≤12) (hlast:ns.getD (L-1) 0≠0) (HB:Blk w b S.at) (hO:Own 1 w S.out) (hbo:b∉S.out.bs) (hbr:S.br.l=n) (hof:S.brOff=0) (hn:n<2^40)
  (hk:∀w' o Hd,(∃t,HBt T ns L false t∧Hd.length=(t+7)/8)→By Hd→(∀rest,By rest→fseRead (Hd++rest)=some (ns,T,rest))→Hd.length≤20→o.l=Hd.length→Vec 1 w' o (bytes .u8 Hd)→Blk w' b ({ S with out:=o } : FS).at→Fm w w' (b::S.out.bs)→(∀v∈o.bs,v∈S.out.bs∨w.heap.size≤v)→b∉o.bs→K .nilIface w') :
  callP Tryd.prog 112 #[.pointer (some ⟨b,0,none⟩)] [.c .V] K w:=by
 apply q112_ok
 unfold q112
 have hTp:=H.log.pow
 have hT6:T=5∨T=6:=H.log
 have hTL:T*L≤6*12:=Nat.mul_le_mul (by omega) hL12
 have hl2:=H.l2
 have hbl:=HB.lt
 have hmh20:(L*T+6)/8+3≤12:=by rcases hT6 with rfl|rfl<;>omega
 have emh:IntKind.i64.wrap (shrI .i64 (IntKind.i64.wrap (IntKind.i64.wrap (IntKind.i64.wrap (IntKind.i64.wrap ((L:Nat):Int)*IntKind.i64.wrap ((T:Nat):Int))+4)+2)) 3+3)=(((L*T+6)/8+3:Nat):Int):=by
  have hLT:L*T≤12*6:=Nat.mul_le_mul hL12 (by omega)
  rw [wI64 (x:=((L:Nat):Int)) (by omega) (by omega),wI64 (x:=((T:Nat):Int)) (by omega) (by omega), ←Int.natCast_mul]
  generalize L*T=q at *
  rw [wI64 (x:=(q:Int)) (by omega) (by omega),wI64 (x:=(q:Int)+4) (by omega) (by omega),wI64 (x:=(q:Int)+4+2) (by omega) (by omega)]
  have h1:shrI .i64 (((q+6:Nat):Nat):Int) 3=(((q+6)/2^3:Nat):Int):=shrI_nat .i64 (q+6) 3 (by simp only [IntKind.bits];omega)
  rw [show (q:Int)+4+2=((q+6:Nat):Int) by omega,h1,wI64 (by omega) (by omega)];omega
 generalize hmh:(L*T+6)/8+3=mh at *
 simp only [add_mk,Nat.zero_add]
 refine ld_b (t := .I .u8) (x:=((T:Nat):Int)) HB H.atlAt ⟨by omega,?_⟩
 refine ld_b (t := .I .u16) (x:=((L:Nat):Int)) HB H.symAt ⟨by decide,?_⟩
 refine joinP_id ?_
 unfold q112_X15
 simp only [add_mk,Nat.zero_add]
 rw [emh]
 refine ld_b (t := .S) (x:=S.out) HB rfl ?_
 refine cnd_d ?_ ?_
 ·intro hc
  refine ld2_b (t := .S) (u := .I .i64) (x:=S.br) (y:=((0:Nat):Int)) HB rfl (by show some (Value.int .i64 S.brOff)=_;rw [hof];rfl) ?_
  refine c93 (s:=S.br) (n:=0) (by omega) (by omega) ?_
  intro w1 F1
  rw [hbr,Nat.sub_zero]
  have HB1:=HB.fr F1 (by simp)
  have hs1:=F1.size
  refine ⟨0,n+mh,rfl,by rw [wI64 (by omega) (by omega)];omega,Nat.zero_le _,by omega,?_⟩
  have F2:Fm w1 (w1.alloc (.cells (zrep z5 (n+mh)) 5)) []:=(Fm.refl w1 []).alloc
  have B2:Blk (w1.alloc (.cells (zrep z5 (n+mh)) 5)) w1.heap.size fun i=>(zrep z5 (n+mh))[i]? := Blk.new
  have hdb:b≠w1.heap.size:=by omega
  refine st_u (HB1.fr F2 (by simp)) rfl rfl ?_
  intro w3 HB3 F3
  have B3:=B2.fr F3 (nm1 hdb.symm)
  refine wc_all (S := { S with out:=⟨some ⟨w1.heap.size,0,none⟩,0,n+mh⟩ }) (H.congr rfl rfl rfl) hL12 hlast rfl (HB3.congr (FS.setT 14 rfl rfl rfl (by decide))) B3 (fun i hi=>zrep_some z5 (n+mh) i (by simpa [z5] using hi)) hdb hmh.symm (by omega) ?_
  intro w4 o Hd h0 h1 h2 h3 h4 h5 h6 h7
  refine hk w4 o Hd h0 h1 h2 h3 (by rw [h4]) h5 h6 ?_ ?_ ?_
  ·refine (((F1.trans F2 (by simp)).mono (S':=b::S.out.bs) (by simp)).trans F3 (by intro v hv;simp at hv;simp [hv])).trans h7 ?_
   intro v hv
   simp only [List.mem_cons,List.not_mem_nil,or_false] at hv
   rcases hv with rfl|rfl
   ·exact .inl (by simp)
   ·exact .inr hs1
  ·intro v hv
   rw [h4] at hv
   simp [Sl.bs] at hv
   right;omega
  ·rw [h4];simp [Sl.bs];omega
 ·intro hc
  have ha:S.out.a.isSome:=by
   cases hh:S.out.a with
   | none=>have:=hO.2.1 hh;omega
   | some a=>rfl
  obtain ⟨ob,F,eo,HO,hF,hlc⟩:=hO.out ha rfl
  rw [Nat.mul_one] at hF
  generalize S.out.c=cap at *
  have hobs:S.out.bs = [ob]:=by rw [eo];rfl
  have hdb:b≠ob:=by intro e;apply hbo;rw [hobs,e];simp
  refine wc_all H hL12 hlast eo HB HO hF hdb hmh.symm (by omega) ?_
  intro w4 o Hd h0 h1 h2 h3 h4 h5 h6 h7
  refine hk w4 o Hd h0 h1 h2 h3 (by rw [h4]) h5 h6 (by rw [hobs];exact h7) ?_ ?_
  ·intro v hv
   rw [h4] at hv
   left;rw [hobs];exact hv
  ·rw [h4];simp [Sl.bs];exact hdb
end
theorem leN_inj:∀ {a b:List Nat},By a→By b→a.length=b.length→leN a=leN b→a=b
 | [],[],_,_,_,_=>rfl
 | [],_::_,_,_,h,_=>by simp at h
 | _::_,[],_,_,h,_=>by simp at h
 | x::r,y::s,ha,hb,hl,h=>by
  have ⟨h1,h2⟩:=ha.cons
  have ⟨h3,h4⟩:=hb.cons
  simp only [leN] at h
  have e1:x=y:=by omega
  have e2:leN r=leN s:=by omega
  rw [e1,leN_inj h2 h4 (by simpa using hl) e2]
theorem leN_split {l H:List Nat} {E:Nat} (hl:By l) (hH:By H) (hn:H.length≤l.length) (h:leN l=leN H+E*2^(8*H.length)):∃r,l=H++r∧By r∧leN r=E:=by
 have e:=List.take_append_drop H.length l
 have h1:leN (l.take H.length)+256^H.length*leN (l.drop H.length)=leN H+E*2^(8*H.length):=by
  rw [←h]
  conv=>rhs;rw [←e]
  rw [leN_append,List.length_take,Nat.min_eq_left hn]
 have hp:(2:Nat)^(8*H.length)=256^H.length:=by rw [Nat.pow_mul]
 rw [hp] at h1
 have a1:=leN_lt (hl.take H.length)
 rw [List.length_take,Nat.min_eq_left hn] at a1
 have a2:=leN_lt hH
 have hpos:0<256^H.length:=Nat.pow_pos (by decide)
 have b1:=congrArg (· % 256^H.length) h1
 have b2:=congrArg (· / 256^H.length) h1
 simp only [Nat.add_mul_mod_self_left,Nat.add_mul_mod_self_right,Nat.mod_eq_of_lt a1,Nat.mod_eq_of_lt a2] at b1
 simp only [Nat.add_mul_div_left _ _ hpos,Nat.add_mul_div_right _ _ hpos,Nat.div_eq_of_lt a1,Nat.div_eq_of_lt a2,Nat.zero_add] at b2
 refine ⟨l.drop H.length,?_,hl.drop _,b2⟩
 have:=leN_inj (hl.take H.length) hH (by rw [List.length_take,Nat.min_eq_left hn]) b1
 rw [this] at e
 exact e.symm
theorem back_of {bs:List Nat} {n:Nat} (hb:By bs) (hlen:bs.length=n/8+1) (h1:2^n≤leN bs) (h2:leN bs<2^(n+1)):backZ bs=some n:=by
 have hne:bs ≠ []:=by intro e;rw [e] at hlen;simp at hlen
 have e:=List.dropLast_concat_getLast hne
 have hL:bs.getLast? = some (bs.getLast hne):=List.getLast?_eq_some_getLast hne
 generalize bs.getLast hne=x at *
 have hd:bs.dropLast.length=n/8:=by rw [List.length_dropLast,hlen];rfl
 have hbd:By bs.dropLast:=fun y hy=>hb y (List.dropLast_subset _ hy)
 have hv:leN bs=leN bs.dropLast+256^(n/8)*x:=by
  conv=>lhs;rw [←e]
  rw [leN_append,hd]
  simp [leN]
 have hlt:=leN_lt hbd
 rw [hd] at hlt
 have hq:leN bs/256^(n/8)=x:=by rw [hv,Nat.add_mul_div_left _ _ (Nat.pow_pos (by decide)),Nat.div_eq_of_lt hlt,Nat.zero_add]
 have hp:(256:Nat)^(n/8)=2^(8*(n/8)):=by rw [Nat.pow_mul]
 rw [hp] at hq
 have hpp:=Nat.two_pow_pos (8*(n/8))
 have g1:2^(n%8)≤x:=by
  rw [←hq,Nat.le_div_iff_mul_le hpp, ←Nat.pow_add,show n%8+8*(n/8)=n by omega];exact h1
 have g2:x<2^(n%8+1):=by
  rw [←hq,Nat.div_lt_iff_lt_mul hpp, ←Nat.pow_add,show n%8+1+8*(n/8)=n+1 by omega];exact h2
 have hx0:x≠0:=by have:=Nat.two_pow_pos (n%8);omega
 unfold backZ
 rw [hL]
 simp only
 rw [if_neg hx0,log2_of g1 g2,hlen]
 congr 1
 omega
def FseOK (ol ws:List Nat):Prop:=∃cs t rest tab,fseRead ol=some (cs,t,rest)∧t≤6∧statesZ cs t=some tab∧twoStatesZ rest tab t 255=some ws
section
variable {T:Nat} {N:Nat→Nat} {pos:Nat→Nat→Nat} {tab:List Cell3}
theorem two_back (H:TabOK T tab N pos) {ws bs:List Nat} (h2:2≤ws.length) (h255:ws.length≤255) (hok:∀s∈ws,s<256∧0<N s) (hb:By bs)
  (hlen:bs.length=((encZ T N pos ws).t+(T+T))/8+1)
  (hv:leN bs=(encZ T N pos ws).V+(encZ T N pos ws).b%2^T*2^(encZ T N pos ws).t+(encZ T N pos ws).a%2^T*2^((encZ T N pos ws).t+T)+2^((encZ T N pos ws).t+(T+T))):twoStatesZ bs tab T 255=some ws:=by
 obtain ⟨⟨ja,hja,ha⟩,⟨jb,hjb,hbb⟩,h3,h4⟩:=encZ_ok H ws h2 (fun s hs=>(hok s hs).2)
 have pa:=(H.cell _ ja hja).1
 have pb:=(H.cell _ jb hjb).1
 have hdec:=decode H bs 255 ws [] h2 (fun s hs=>⟨(hok s hs).2,(hok s hs).1⟩) (by simpa using h255)
 generalize encZ T N pos ws=e at *
 have hTp:=Nat.two_pow_pos T
 have htp:=Nat.two_pow_pos e.t
 have ma:e.a%2^T=e.a-2^T:=by rw [ha,Nat.add_sub_cancel_left,Nat.add_mod_left,Nat.mod_eq_of_lt pa]
 have mb:e.b%2^T=e.b-2^T:=by rw [hbb,Nat.add_sub_cancel_left,Nat.add_mod_left,Nat.mod_eq_of_lt pb]
 have la:e.a-2^T<2^T:=by omega
 have lb:e.b-2^T<2^T:=by omega
 rw [ma,mb] at hv
 generalize e.a-2^T=a at *
 generalize e.b-2^T=b at *
 have p1:e.V+b*2^e.t<2^(e.t+T):=put_lt h3 lb
 have p2:e.V+b*2^e.t+a*2^(e.t+T)<2^(e.t+T+T):=put_lt p1 la
 rw [Nat.add_assoc e.t T T] at p2
 have hback:backZ bs=some (e.t+(T+T)):=back_of hb hlen (by omega) (by rw [Nat.pow_succ];omega)
 have r1:tkB bs T ((e.t+(T+T):Nat):Int)=a:=by
  rw [tkB_val bs T _ (by omega),show e.t+(T+T)-T=e.t+T by omega]
  have hm:leN bs%2^(e.t+T+T)=e.V+b*2^e.t+a*2^(e.t+T):=by
   rw [hv,Nat.add_assoc e.t T T,Nat.add_mod_right,Nat.mod_eq_of_lt p2]
  exact (mod_split p1 la hm).2
 have hm:leN bs%2^(e.t+T)=e.V+b*2^e.t:=by
  have h5:leN bs%2^(e.t+T+T)=e.V+b*2^e.t+a*2^(e.t+T):=by
   rw [hv,Nat.add_assoc e.t T T,Nat.add_mod_right,Nat.mod_eq_of_lt p2]
  exact (mod_split p1 la h5).1
 have r2:tkB bs T (((e.t+(T+T):Nat):Int)-T)=b:=by
  rw [show ((e.t+(T+T):Nat):Int)-T=((e.t+T:Nat):Int) by omega,tkB_val bs T _ (by omega),Nat.add_sub_cancel]
  exact (mod_split h3 lb hm).2
 have hV:=(mod_split h3 lb hm).1
 unfold twoStatesZ
 rw [hback]
 simp only
 rw [if_pos (by omega),r1,r2,show ((e.t+(T+T):Nat):Int)-T-T=((e.t:Nat):Int) by omega,hdec hV]
 simp
end
structure SW (w:World) (b:Nat) (s:FS):Prop where
 blk:Blk w b s.at
 o:Own 1 w s.out
 x:Own 1 w s.ts
 y:Own 1 w s.st
 z:Own 2 w s.tt
 bo:b∉s.out.bs
 bx:b∉s.ts.bs
 bY:b∉s.st.bs
 bz:b∉s.tt.bs
 ox:∀v∈s.out.bs,v∉s.ts.bs
 oy:∀v∈s.out.bs,v∉s.st.bs
 oz:∀v∈s.out.bs,v∉s.tt.bs
 xy:∀v∈s.ts.bs,v∉s.st.bs
 xz:∀v∈s.ts.bs,v∉s.tt.bs
 yz:∀v∈s.st.bs,v∉s.tt.bs
def SB (b:Nat) (s:FS):List Nat:=b::(s.out.bs++(s.ts.bs++(s.st.bs++s.tt.bs)))
theorem mem_SB {b v:Nat} {s:FS} : v∈SB b s↔v=b∨v∈s.out.bs∨v∈s.ts.bs∨v∈s.st.bs∨v∈s.tt.bs:=by
 unfold SB;simp only [List.mem_cons,List.mem_append]
theorem SW.lt {w:World} {b:Nat} {s:FS} (W:SW w b s):∀v∈SB b s,v<w.heap.size:=by
 intro v hv
 rcases mem_SB.mp hv with rfl|h|h|h|h
 ·exact W.blk.lt
 ·exact W.o.lt v h
 ·exact W.x.lt v h
 ·exact W.y.lt v h
 ·exact W.z.lt v h
structure ST (w w':World) (b:Nat) (s s':FS):Prop where
 sw:SW w' b s'
 fr:Fm w w' (SB b s)
 ext:∀v∈SB b s',v∈SB b s∨w.heap.size≤v
theorem ST.trans {w w1 w2:World} {b:Nat} {s s1 s2:FS} (h:ST w w1 b s s1) (h':ST w1 w2 b s1 s2):ST w w2 b s s2:=by
 refine ⟨h'.sw,h.fr.trans h'.fr h.ext,?_⟩
 intro v hv
 have:=h.fr.size
 rcases h'.ext v hv with h1|h1
 ·exact h.ext v h1
 ·right;omega
theorem SW.fm {w w':World} {b:Nat} {s:FS} (W:SW w b s) (F:Fm w w' []):ST w w' b s s :=
 ⟨⟨W.blk.fr F (by simp),W.o.fm F (by simp),W.x.fm F (by simp),W.y.fm F (by simp),W.z.fm F (by simp),W.bo,W.bx,W.bY,W.bz,W.ox,W.oy,W.oz,W.xy,W.xz,W.yz⟩,F.mono (by simp),fun v hv => .inl hv⟩
theorem SW.same {w w':World} {b:Nat} {s s':FS} (W:SW w b s) (B:Blk w' b s'.at) (F:Fm w w' [b]) (h1:s'.out=s.out) (h2:s'.ts=s.ts) (h3:s'.st=s.st) (h4:s'.tt=s.tt):ST w w' b s s':=by
 have d:∀ {l:List Nat},b∉l→∀v∈l,v ∉ [b]:=by intro l hb v hv;simp;intro e;exact hb (e▸hv)
 refine ⟨⟨B,?_,?_,?_,?_,?_,?_,?_,?_,?_,?_,?_,?_,?_,?_⟩,F.mono (fun v hv => .inl (mem_SB.mpr (.inl (by simpa using hv)))),?_⟩
 ·rw [h1];exact W.o.fm F (d W.bo)
 ·rw [h2];exact W.x.fm F (d W.bx)
 ·rw [h3];exact W.y.fm F (d W.bY)
 ·rw [h4];exact W.z.fm F (d W.bz)
 ·rw [h1];exact W.bo
 ·rw [h2];exact W.bx
 ·rw [h3];exact W.bY
 ·rw [h4];exact W.bz
 ·rw [h1,h2];exact W.ox
 ·rw [h1,h3];exact W.oy
 ·rw [h1,h4];exact W.oz
 ·rw [h2,h3];exact W.xy
 ·rw [h2,h4];exact W.xz
 ·rw [h3,h4];exact W.yz
 ·intro v hv
  unfold SB at hv ⊢
  rw [h1,h2,h3,h4] at hv
  exact .inl hv
theorem SW.out {w w':World} {b:Nat} {s s':FS} (W:SW w b s) (B:Blk w' b s'.at) (F:Fm w w' (b::s.out.bs)) (hO:Own 1 w' s'.out) (hb:b∉s'.out.bs) (hn:∀v∈s'.out.bs,v∈s.out.bs∨w.heap.size≤v) (h2:s'.ts=s.ts) (h3:s'.st=s.st) (h4:s'.tt=s.tt):ST w w' b s s':=by
 have d:∀ {l:List Nat},b∉l→(∀v∈s.out.bs,v∉l)→∀v∈l,v∉b::s.out.bs:=by
  intro l hb2 hd v hv
  simp only [List.mem_cons,not_or]
  exact ⟨fun e=>hb2 (e▸hv),fun h=>hd v h hv⟩
 have n:∀ {l:List Nat},(∀v∈s.out.bs,v∉l)→(∀v∈l,v<w.heap.size)→∀v∈s'.out.bs,v∉l:=by
  intro l h1 h2 v hv hl
  rcases hn v hv with h|h
  ·exact h1 v h hl
  ·have:=h2 v hl;omega
 refine ⟨⟨B,hO,?_,?_,?_,hb,?_,?_,?_,?_,?_,?_,?_,?_,?_⟩,F.mono ?_,?_⟩
 ·rw [h2];exact W.x.fm F (d W.bx W.ox)
 ·rw [h3];exact W.y.fm F (d W.bY W.oy)
 ·rw [h4];exact W.z.fm F (d W.bz W.oz)
 ·rw [h2];exact W.bx
 ·rw [h3];exact W.bY
 ·rw [h4];exact W.bz
 ·rw [h2];exact n W.ox W.x.lt
 ·rw [h3];exact n W.oy W.y.lt
 ·rw [h4];exact n W.oz W.z.lt
 ·rw [h2,h3];exact W.xy
 ·rw [h2,h4];exact W.xz
 ·rw [h3,h4];exact W.yz
 ·intro v hv
  simp only [List.mem_cons] at hv
  left
  rw [mem_SB]
  rcases hv with h|h
  ·exact .inl h
  ·exact .inr (.inl h)
 ·intro v hv
  rw [mem_SB] at hv ⊢
  rw [h2,h3,h4] at hv
  rcases hv with h|h|h|h|h
  ·exact .inl (.inl h)
  ·rcases hn v h with h5|h5
   ·exact .inl (.inr (.inl h5))
   ·exact .inr h5
  ·exact .inl (.inr (.inr (.inl h)))
  ·exact .inl (.inr (.inr (.inr (.inl h))))
  ·exact .inl (.inr (.inr (.inr (.inr h))))
def errAt (w:World) (g:Nat):Prop:=∃v,w.cell? ⟨g,0,none⟩=some v∧isPE v=true∧isNil v=false
structure GL (w:World):Prop where
 e3:errAt w 3
 e4:errAt w 4
 rtb:rtbAt w
 mask:maskAt w
theorem errAt.fm {w w':World} {g:Nat} {S:List Nat} (h:errAt w g) (F:Fm w w' S) (hS:g∉S):errAt w' g:=by
 obtain ⟨v,h1,h2,h3⟩:=h
 have hl:=World.block_lt_of_cell? _ _ h1
 exact ⟨v,by rw [←h1];exact cell?_of_heap (F.old g hl hS) _ _,h2,h3⟩
theorem GL.fm {w w':World} {S:List Nat} (h:GL w) (F:Fm w w' S) (hS:∀v∈S,9≤v):GL w':=by
 have n:∀g,g<9→g∉S:=fun g hg h=>by have:=hS g h;omega
 exact ⟨h.e3.fm F (n 3 (by omega)),h.e4.fm F (n 4 (by omega)),h.rtb.fm F (n 6 (by omega)),h.mask.fq (F.fq (P:=fun x=>x∈S) (fun x hx=>hx)) (n 8 (by omega))⟩
theorem GL.size {w:World} (h:GL w):9≤w.heap.size:=World.block_lt_of_cell? _ _ (h.mask 0 (by omega))
theorem ld_err {w:World} {g:Nat} {κ:Value→PT} (h:errAt w g) (hk:∀v,isPE v=true→isNil v=false→κ v w.drew):drw (ld .V ⟨g,0,none⟩ κ) w:=by
 obtain ⟨v,h1,h2,h3⟩:=h
 exact ⟨v,h1,hk v h2 h3⟩
def EG (w:World) (v:Value):Prop:=(∃i,i<3∧w.cell? ⟨i,0,none⟩=some v)∧isPE v=true
def ER (w:World) (v:Value):Prop:=EG w v∨∃a c T,v = .iface 160 (.pointer (some a))∧w.heap[a.block]? = some (.cells c T (0,0))
theorem EG.fm {w w':World} {v:Value} {S:List Nat} (h:EG w v) (F:Fm w w' S) (hS:∀v∈S,9≤v):EG w' v:=by
 obtain ⟨⟨i,hi,h1⟩,h2⟩:=h
 have hl:=World.block_lt_of_cell? _ _ h1
 refine ⟨⟨i,hi,?_⟩,h2⟩
 rw [←h1]
 exact cell?_of_heap (F.old i hl (fun h=>by have:=hS i h;omega)) _ _
theorem ld_errG {w:World} {g:Nat} {κ:Value→PT} (h:errAt w g) (hg:g<3) (hk:∀v,EG w.drew v→κ v w.drew):drw (ld .V ⟨g,0,none⟩ κ) w:=by
 obtain ⟨v,h1,h2,h3⟩:=h
 exact ⟨v,h1,hk v ⟨⟨g,hg,h1⟩,h2⟩⟩
theorem c62e {w:World} {t:ByteArray} {K:Value→PT} (hk:∀w' v,Fm w w' []→ER w' v→isPE v=true→K v w'):callP Tryd.prog 62 #[.string t] [.c .V] K w:=by
 apply q62_ok
 unfold q62 nw
 have hh:(w.alloc (.cells ⟨[.string t]⟩ 162)).heap[w.heap.size]? = some (.cells ⟨[.string t]⟩ 162 (0,0)):=by
  show (w.heap.push _)[w.heap.size]? = _
  rw [Array.getElem?_push_size]
 exact hk _ _ (Fm.refl w []).alloc (.inr ⟨⟨w.heap.size,0,none⟩,⟨[.string t]⟩,162,rfl,hh⟩) rfl
theorem ER.pe {w:World} {v:Value} (h:ER w v):isPE v=true:=by
 rcases h with h|⟨a,c,T,rfl,_⟩
 ·exact h.2
 ·rfl
theorem counts_sum {ws:List Nat} {L:Nat} (h:∀x∈ws,x<L) (nf:Nat→Int):smI (gC fun i=>ws.count i) nf L=ws.length:=by
 induction ws with
 | nil =>
  have:∀k,smI (gC fun i=>([]:List Nat).count i) nf k=0:=by
   intro k
   induction k with
   | zero=>rfl
   | succ k ih=>rw [smI,ih];simp [gC]
  exact this L
 | cons x r ih =>
  have hx:=h x (by simp)
  have ih:=ih (fun y hy=>h y (by simp [hy]))
  have:∀k,smI (gC fun i=>(x::r).count i) nf k=smI (gC fun i=>r.count i) nf k+if x<k then 1 else 0:=by
   intro k
   induction k with
   | zero=>rfl
   | succ k ihk =>
    rw [smI,smI,ihk]
    simp only [gC,List.count_cons]
    by_cases e:x=k
    ·subst e
     simp
     omega
    ·have:(x==k)=false:=by simpa using e
     rw [this]
     simp only [Bool.false_eq_true,if_false,Nat.add_zero]
     by_cases h2:x<k
     ·rw [if_pos h2,if_pos (by omega)];omega
     ·rw [if_neg h2,if_neg (by omega)];omega
  rw [this,ih,if_pos hx,List.length_cons]
theorem Normed.lt {cs:Nat→Nat} {nf:Nat→Int} {T L n m:Nat} (H:Normed cs nf T L) (hsum:smI (gC cs) (fun _=>0) L=n) (hmax:∀i,i<L→cs i≤m) (hm:m<n) (s:Nat):shareZ ((List.range L).map nf) s<2^T:=by
 by_cases hs:s<L
 ·rw [shareZ_in (by simpa using hs)]
  simp only [List.getElem_map,List.getElem_range]
  have hle:=smI_ge gS nf hs
  rw [H.sum] at hle
  by_cases he:absZ (nf s)=2^T
  ·exfalso
   have hu:=smI_upd gS nf s 0 L hs
   rw [H.sum] at hu
   have h0:smI gS (updF nf s 0) L=0:=by
    have:gS s (nf s)=absZ (nf s):=rfl
    have:gS s 0=0:=rfl
    omega
   have hz:∀j,j<L→j≠s→cs j=0:=by
    intro j hj hne
    have h1:=smI_ge gS (updF nf s 0) hj
    rw [h0] at h1
    have h2:updF nf s 0 j=nf j:=by unfold updF;rw [if_neg hne]
    rw [h2] at h1
    have h3:nf j=0:=by unfold gS absZ at h1;have:=H.ge j hj;split at h1<;>omega
    exact (H.zero j hj).mp h3
   have hall:∀k,k≤L→smI (gC cs) (fun _=>0) k≤if s<k then cs s else 0:=by
    intro k
    induction k with
    | zero=>intro _;exact Nat.zero_le _
    | succ k ih =>
     intro hk
     have ih:=ih (by omega)
     rw [smI]
     show _+cs k≤_
     by_cases e:k=s
     ·subst e
      rw [if_neg (by omega)] at ih
      rw [if_pos (by omega)];omega
     ·rw [hz k (by omega) e]
      split at ih
      ·rw [if_pos (by omega)];exact ih
      ·rw [if_neg (by omega)];exact ih
   have h5:=hall L (Nat.le_refl _)
   rw [if_pos hs,hsum] at h5
   have:=hmax s hs
   omega
  ·have:gS s (nf s)=absZ (nf s):=rfl
   omega
 ·rw [shareZ_out (by simpa using hs)]
  exact Nat.two_pow_pos _
theorem bw_at (s:FS) (so:Sl):bwC s.at 518 0 0 so=({ s with bc:=0,bn:=0,bo:=so } : FS).at:=by
 have h1:=FS.setT (s:=s) (s' := { s with bc:=0 }) (v := .int .u64 0) 6 rfl rfl rfl (by decide)
 have h2:=FS.setT (s := { s with bc:=0 }) (s' := { s with bc:=0,bn:=0 }) (v := .int .u8 0) 7 rfl rfl rfl (by decide)
 have h3:=FS.setT (s := { s with bc:=0,bn:=0 }) (s' := { s with bc:=0,bn:=0,bo:=so }) (v:=so.val) 8 rfl rfl rfl (by decide)
 rw [←h3, ←h2, ←h1]
 funext i
 unfold bwC updC
 by_cases e0:i=518
 ·subst e0;rfl
 ·by_cases e1:i=519
  ·subst e1;rfl
  ·by_cases e2:i=520
   ·subst e2;rfl
   ·rw [if_neg e0,if_neg e1,if_neg e2,if_neg e2,if_neg e1,if_neg e0]
theorem ST.drew {w w':World} {b:Nat} {s s':FS} (h:ST w w' b s s'):ST w w'.drew b s s':=h.trans (h.sw.fm (Fm.refl w' []).drew)
theorem ST.gl {w w':World} {b:Nat} {s s':FS} (h:ST w w' b s s') (G:GL w) (h9:∀v∈SB b s,9≤v):GL w'∧∀v∈SB b s',9≤v:=by
 have hs:=G.size
 refine ⟨G.fm h.fr h9,?_⟩
 intro v hv
 rcases h.ext v hv with h1|h1
 ·exact h9 v h1
 ·omega
theorem nil_cnd {x y:PT} {w:World} (h:y w):cnd (!(isNil .nilIface)) x y w:=⟨fun h=>by simp [isNil] at h,fun _=>h⟩
theorem err_cnd {v:Value} {x y:PT} {w:World} (hv:isNil v=false) (h:x w):cnd (!(isNil v)) x y w:=⟨fun _=>h,fun h=>by rw [hv] at h;simp at h⟩
def nsZ (L:Nat) (ws:List Nat):List Int:=(List.range L).map (nmZ (fun i=>ws.count i) (tlZ ws.length L) L ws.length)
def FEx (m L:Nat) (ws:List Nat):Prop:=m≠ws.length∧m≠1∧ws.length/128≤m∧2<ws.length∧nmOk (fun i=>ws.count i) (tlZ ws.length L) L ws.length
def FTot (L:Nat) (ws:List Nat) (k:Nat):Prop:=∃f t,spreadZ (nsZ L ws) (2^tlZ ws.length L) (fun _ => -1)=some (f,0)∧HBt (tlZ ws.length L) (nsZ L ws) L false t ∧
 k=(8*((t+7)/8)+(encZ (tlZ ws.length L) (shareZ (nsZ L ws)) (posZ (2^tlZ ws.length L) f) ws).t+(tlZ ws.length L+tlZ ws.length L))/8+1
def FBad (m L:Nat) (ws:List Nat):Prop:=¬FEx m L ws∨∃k,FTot L ws k∧ws.length≤k
def FGood (m L:Nat) (ws:List Nat) (k:Nat):Prop:=FEx m L ws∧FTot L ws k∧k<ws.length
theorem c84 {w:World} {b m L:Nat} {s:FS} {src:Sl} {ws:List Nat} {K:Sl×Value→PT} (W:SW w b s) (G:GL w) (h9:∀v∈SB b s,9≤v) (hsrc:Arr .u8 w src ws) (hd:∀a,src.a=some a→ws ≠ []→a.block∉SB b s)
  (hn2:2≤ws.length) (hn:ws.length≤255) (htl:s.tl=6) (hm:s.maxC=(m:Nat)) (hm0:0<m) (hmn:m≤ws.length) (hsym:s.symL=(L:Nat)) (hL1:1≤L) (hL12:L≤12) (hcnt:∀i,i<L→s.count i=(ws.count i:Nat)) (hws:∀x∈ws,x<L)
  (hmax:∀i,i<L→ws.count i≤m) (hlast:ws.count (L-1)≠0)
  (hk0:∀w' s' v,FBad m L ws→ST w w' b s s'→isPE v=true→isNil v=false→K (⟨none,0,0⟩,v) w')
  (hk1:∀w' s' o ol,FGood m L ws ol.length→ST w w' b s s'→Arr .u8 w' o ol→By ol→ol.length<ws.length→FseOK ol ws→(∀v∈o.bs,v∈SB b s')→K (o,.nilIface) w') :
  callP Tryd.prog 84 #[.slice src.a src.l src.c,.pointer (some ⟨b,0,none⟩)] [.c .S,.c .V] K w:=by
 apply q84_ok (o1:=some ⟨b,0,none⟩)
 unfold q84
 have hsl:=hsrc.len
 have hbl:=W.blk.lt
 refine cnd_d (fun h=>absurd h (by omega)) (fun _ => ?_)
 refine cnd_d (fun h=>absurd h (by omega)) (fun _ => ?_)
 refine c77 (x:=src) W.blk htl (by rw [hm];omega) (by omega) ?_
 intro w1 s1 ecount enorm ebr ebro ets est ett edt emaxC esymL etl HB1 F1 hout
 have T1:ST w w1 b s s1:=by
  rcases hout with h|⟨h1,h2,h3,h4⟩
  ·exact W.same HB1 F1 h ets est ett
  ·exact W.out HB1 (F1.mono (by intro v hv;simp at hv;simp [hv])) h3.own (fun hb=>by have:=h4 _ hb;omega) (fun v hv => .inr (h4 v hv)) ets est ett
 refine ⟨rfl,nil_cnd ⟨_,rfl,?_⟩⟩
 simp only [add_mk,Nat.zero_add]
 refine ld_b (t := .I .i64) (x:=((m:Nat):Int)) HB1 (by show some (Value.int .i64 s1.maxC)=_;rw [emaxC,hm];rfl) ?_
 refine joinP_id (cnd_d (fun h=>absurd h (by omega)) (fun _ => ?_))
 unfold q84_J0
 refine ⟨_,rfl,?_⟩
 simp only [add_mk,Nat.zero_add]
 refine st_u HB1 rfl rfl ?_
 intro w2 HB2 F2
 have HB2':=HB2.congr (FS.setT (s' := { s1 with cc:=true }) 19 rfl rfl rfl (by decide))
 refine ⟨_,rfl,?_⟩
 simp only [add_mk,Nat.zero_add]
 refine st_u HB2' rfl rfl ?_
 intro w3 HB3 F3
 have HB3':=HB3.congr (FS.setT (s' := { s1 with cc:=true,maxC:=0 }) 13 rfl rfl rfl (by decide))
 have T3:ST w w3 b s { s1 with cc:=true,maxC:=0 } := T1.trans (T1.sw.same HB3' (F2.trans F3 (fun x hx => .inl hx)) rfl rfl rfl rfl)
 have hsum:smI (gC fun i=>ws.count i) (fun _=>0) L=ws.length:=counts_sum hws _
 generalize hs3:({ s1 with cc:=true,maxC:=0 } : FS)=s3 at *
 have e3count:s3.count=s.count:=by rw [←hs3];exact ecount
 have e3sym:s3.symL=(L:Nat):=by rw [←hs3];exact esymL.trans hsym
 have e3br:s3.br=src:=by rw [←hs3];exact ebr
 have e3bro:s3.brOff=0:=by rw [←hs3];exact ebro
 have e3tl:s3.tl=6:=by rw [←hs3];exact etl
 clear hs3
 obtain ⟨G3,h93⟩:=T3.gl G h9
 have eshr:shrI .i64 ((src.l:Nat):Int) (7:Int)=((ws.length/128:Nat):Int):=by
  rw [hsl,show (7:Int)=((7:Nat):Int) from rfl,shrI_nat _ _ _ (by simp only [IntKind.bits];omega)]
 rw [eshr]
 refine cnd_d (fun hc=>ld_err G3.e4 fun v h1 h2=>hk0 _ _ v (.inl fun hE=>hE.1 (by omega)) T3.drew h1 h2) (fun hne => ?_)
 refine cnd_d (fun hc=>ld_err G3.e3 fun v h1 h2=>hk0 _ _ v (.inl fun hE=>hE.2.1 (by omega)) T3.drew h1 h2) (fun hne1 => ?_)
 refine ⟨by decide,cnd_d (fun hc=>ld_err G3.e3 fun v h1 h2=>hk0 _ _ v (.inl fun hE=>by have:=hE.2.2.1;omega) T3.drew h1 h2) (fun hne2 => ?_)⟩
 have hmlt:m<ws.length:=by omega
 have hL2:2≤L:=by
  by_cases h:2≤L
  ·exact h
  ·exfalso
   have hL:L=1:=by omega
   subst hL
   have h1:smI (gC fun i=>ws.count i) (fun _=>0) 1=ws.count 0:=by rw [smI,smI];simp [gC]
   have:=hmax 0 (by omega)
   omega
 refine c110 (n:=ws.length) (L:=L) HB3' (by rw [e3br,hsl]) e3bro e3sym e3tl hn2 (by omega) hL2 (by omega) ?_
 intro w4 T hTe hT h6 HB4 F4
 have T4:ST w w4 b s { s3 with atl:=(T:Nat) } := T3.trans (T3.sw.same HB4 F4 rfl rfl rfl rfl)
 obtain ⟨G4,h94⟩:=T4.gl G h9
 have C:CS { s3 with atl:=(T:Nat) } (fun i=>ws.count i) T L ws.length:=⟨hT,rfl,e3sym,by show s3.br.l=_;rw [e3br,hsl],e3bro,hL2,hL12,hn2,by omega,fun i hi=>by show s3.count i=_;rw [e3count];exact hcnt i hi,hsum⟩
 have hb9:9≤b:=h9 b (mem_SB.mpr (.inl rfl))
 refine c111 C HB4 G4.rtb (by omega) ?_ ?_
 ·intro w5 v nf h1 h2 h3 HB5 F5
  exact ⟨isPE.ifc h1,err_cnd h2 (hk0 _ _ v (.inl fun hE=>h3 (by rw [hTe];exact hE.2.2.2.2)) (T4.trans (T4.sw.same HB5 F5 rfl rfl rfl rfl)) h1 h2)⟩
 intro w5 nf HN hNO hNE HB5 F5
 refine ⟨rfl,nil_cnd ?_⟩
 have hnsE:(List.range L).map nf=nsZ L ws:=List.map_congr_left (fun j hj=>by rw [hNE j (List.mem_range.mp hj),hTe])
 have T5:=T4.trans (T4.sw.same (s' := { s3 with atl:=(T:Nat),norm:=nf }) HB5 F5 rfl rfl rfl rfl)
 have hnl:((List.range L).map nf).length=L:=by simp
 have H5:NS { s3 with atl:=(T:Nat),norm:=nf } ((List.range L).map nf) T L:=by
  refine ⟨hT,rfl,e3sym,hnl,hL2,by omega,?_,?_,?_⟩
  ·intro i hi;simp
  ·intro c hc
   obtain ⟨j,hj,rfl⟩:=List.mem_map.mp hc
   exact HN.ge j (List.mem_range.mp hj)
  ·rw [sumZ_map];exact HN.sum
 have hshare:∀x,x<L→ws.count x≠0→nf x≠0:=fun x hx hc h=>hc ((HN.zero x hx).mp h)
 have hlast':((List.range L).map nf).getD (L-1) 0≠0:=by
  rw [getD_Z (by omega)]
  simp only [List.getElem_map,List.getElem_range]
  exact hshare _ (by omega) hlast
 generalize hns:(List.range L).map nf=ns at *
 refine c112 (n:=ws.length) H5 hL12 hlast' HB5 T5.sw.o T5.sw.bo (by show s3.br.l=_;rw [e3br,hsl]) e3bro (by omega) ?_
 intro w6 o Hd d0 d1 d2 d3 d4 d5 HB6 F6 d7 d8
 refine ⟨rfl,nil_cnd ?_⟩
 have T56:=T5.sw.out (s' := { s3 with atl:=(T:Nat),norm:=nf,out:=o }) HB6 F6 d5.own d8 d7 rfl rfl rfl
 have T6:=T5.trans T56
 have H6:NS { s3 with atl:=(T:Nat),norm:=nf,out:=o } ns T L:=H5.congr rfl rfl rfl
 have W6:=T56.sw
 refine c113 H6 HB6 W6.x W6.y W6.z W6.bx W6.bY W6.bz W6.xy W6.xz W6.yz ?_
 intro w7 tb stb ttb capx capy capz zz f hTt g hsp HE o1 o2 o3 hcz HB7 F7 n1 n2 n3 b1 b2 b3 b4 b5 b6
 refine ⟨rfl,nil_cnd ?_⟩
 have oo:∀v∈o.bs,v<w6.heap.size:=d5.own.lt
 have T67:ST w6 w7 b { s3 with atl:=(T:Nat),norm:=nf,out:=o } { s3 with atl:=(T:Nat),norm:=nf,out:=o,ts:=⟨some ⟨tb,0,none⟩,2^T,capx⟩,st:=⟨some ⟨stb,0,none⟩,2^T,capy⟩,tt:=⟨some ⟨ttb,0,none⟩,256,capz⟩,zb:=zz } := by
  have keep:∀v∈o.bs,v∉b::(s3.ts.bs++(s3.st.bs++s3.tt.bs)):=by
   intro v hv
   simp only [List.mem_cons,List.mem_append,not_or]
   exact ⟨fun e=>W6.bo (e▸hv),W6.ox v hv,W6.oy v hv,W6.oz v hv⟩
  have c1:∀v∈o.bs,v≠tb:=by
   intro v hv e;subst e
   rcases n1 with h|h
   ·exact W6.ox _ hv h
   ·have:=oo _ hv;omega
  have c2:∀v∈o.bs,v≠stb:=by
   intro v hv e;subst e
   rcases n2 with h|h
   ·exact W6.oy _ hv h
   ·have:=oo _ hv;omega
  have c3:∀v∈o.bs,v≠ttb:=by
   intro v hv e;subst e
   rcases n3 with h|h
   ·exact W6.oz _ hv h
   ·have:=oo _ hv;omega
  refine ⟨⟨HB7,W6.o.fm F7 keep,o1,o2,o3,W6.bo,?_,?_,?_,?_,?_,?_,?_,?_,?_⟩,F7.mono ?_,?_⟩
  ·simpa [Sl.bs] using b1
  ·simpa [Sl.bs] using b2
  ·simpa [Sl.bs] using b3
  ·intro v hv;simpa [Sl.bs] using c1 v hv
  ·intro v hv;simpa [Sl.bs] using c2 v hv
  ·intro v hv;simpa [Sl.bs] using c3 v hv
  ·intro v hv;simp [Sl.bs] at hv ⊢;omega
  ·intro v hv;simp [Sl.bs] at hv ⊢;omega
  ·intro v hv;simp [Sl.bs] at hv ⊢;omega
  ·intro v hv
   left
   rw [mem_SB]
   simp only [List.mem_cons,List.mem_append] at hv
   rcases hv with h|h|h|h
   ·exact .inl h
   ·exact .inr (.inr (.inl h))
   ·exact .inr (.inr (.inr (.inl h)))
   ·exact .inr (.inr (.inr (.inr h)))
  ·intro v hv
   rw [mem_SB] at hv ⊢
   simp only [Sl.bs,List.mem_cons,List.not_mem_nil,or_false] at hv
   rcases hv with h|h|h|h|h
   ·exact .inl (.inl h)
   ·exact .inl (.inr (.inl h))
   ·subst h
    rcases n1 with h|h
    ·exact .inl (.inr (.inr (.inl h)))
    ·exact .inr h
   ·subst h
    rcases n2 with h|h
    ·exact .inl (.inr (.inr (.inr (.inl h))))
    ·exact .inr h
   ·subst h
    rcases n3 with h|h
    ·exact .inl (.inr (.inr (.inr (.inr h))))
    ·exact .inr h
 have T7:=T6.trans T67
 obtain ⟨G7,h97⟩:=T7.gl G h9
 have W7:=T67.sw
 have hN:∀x,shareZ ns x<2^T:=by
  intro x
  rw [←hns]
  exact HN.lt hsum hmax hmlt x
 obtain ⟨f2,g1,g2,g3⟩:=statesZ_some hT H5.rng H5.sum
 have hf2:f2=f:=by rw [hsp] at g1;injection g1 with g1;injection g1 with g1;exact g1.symm
 subst hf2
 have hTab:=tabOK hT H5.rng hN g3 hsp
 have hok:∀x∈ws,x<256∧0<shareZ ns x:=by
  intro x hx
  have hxL:=hws x hx
  refine ⟨by omega,?_⟩
  rw [←hns,shareZ_in (by simpa using hxL)]
  simp only [List.getElem_map,List.getElem_range]
  have h1:=hshare x hxL (by have:=List.count_pos_iff.mpr hx;omega)
  have h2:=HN.ge x hxL
  unfold absZ;split<;>omega
 have hdS:∀a,src.a=some a→ws ≠ []→a.block∉SB b { s3 with atl:=(T:Nat),norm:=nf,out:=o,ts:=⟨some ⟨tb,0,none⟩,2^T,capx⟩,st:=⟨some ⟨stb,0,none⟩,2^T,capy⟩,tt:=⟨some ⟨ttb,0,none⟩,256,capz⟩,zb:=zz } := by
  intro a ha hne hv
  have:=hsrc.old hne a ha
  rcases T7.ext _ hv with h|h
  ·exact hd a ha hne h
  ·omega
 have hA7:Arr .u8 w7 src ws:=hsrc.fr T7.fr hd
 have HO7:Vec 1 w7 o (bytes .u8 Hd):=d5.fr F7 (by
  intro v hv
  simp only [List.mem_cons,List.mem_append,not_or]
  exact ⟨fun e=>W6.bo (e▸hv),W6.ox v hv,W6.oy v hv,W6.oz v hv⟩)
 have hm8:∀v∈o.bs,9≤v:=fun v hv=>h97 v (mem_SB.mpr (.inr (.inl hv)))
 generalize hs7:({ s3 with atl:=(T:Nat),norm:=nf,out:=o,ts:=⟨some ⟨tb,0,none⟩,2^T,capx⟩,st:=⟨some ⟨stb,0,none⟩,2^T,capy⟩,tt:=⟨some ⟨ttb,0,none⟩,256,capz⟩,zb:=zz } : FS)=s7 at *
 have e7out:s7.out=o:=by rw [←hs7]
 have e7atl:s7.atl=(T:Nat):=by rw [←hs7]
 have e7st:s7.st=⟨some ⟨stb,0,none⟩,2^T,capy⟩:=by rw [←hs7]
 have e7tt:s7.tt=⟨some ⟨ttb,0,none⟩,256,capz⟩:=by rw [←hs7]
 clear hs7
 rw [←e7out] at HO7 hm8
 have bs1:∀v,v∈s7.st.bs↔v=stb:=by intro v;rw [e7st];simp [Sl.bs]
 have bs2:∀v,v∈s7.tt.bs↔v=ttb:=by intro v;rw [e7tt];simp [Sl.bs]
 refine c114 (ol0:=Hd) (src:=src) HB7 e7atl e7st e7tt hcz HO7 d1 W7.bo (by omega) HE G7.mask hA7 hok ⟨_,hTab⟩ (by omega) ⟨b2.symm,fun h=>W7.oy _ h ((bs1 _).mpr rfl)⟩ ⟨b3.symm,fun h=>W7.oz _ h ((bs2 _).mpr rfl)⟩ ⟨by omega,fun h=>by have:=hm8 8 h;omega⟩ ?_ ?_ ?_
 ·intro a ha hne
  have:=hdS a ha hne
  rw [mem_SB] at this
  exact ⟨fun e=>this (.inl e),fun e=>this (.inr (.inl e))⟩
 ·intro hs2 w8 v F8 h1 h2
  exact ⟨isPE.ifc h1,err_cnd h2 (hk0 _ _ v (.inl fun hE=>by have:=hE.2.2.2.1;omega) (T7.trans (W7.fm F8)) h1 h2)⟩
 intro hl2 w8 so ol a1 a2 a3 a4 a5 a6
 have hTot:FTot L ws ol.length:=by
  obtain ⟨t,ht1,ht2⟩:=d0
  refine ⟨f2,t,?_,?_,?_⟩
  ·rw [←hTe, ←hnsE];exact hsp
  ·rw [←hTe, ←hnsE];exact ht1
  ·rw [←hTe, ←hnsE, ←ht2];exact a4
 refine ⟨rfl,nil_cnd ⟨_,rfl,?_⟩⟩
 simp only [add_mk,Nat.zero_add]
 have HB8:=a1.blk.congr (bw_at s7 so)
 refine ld_b (t := .S) (x:=so) HB8 rfl ?_
 refine ⟨_,rfl,?_⟩
 simp only [add_mk,Nat.zero_add]
 refine st_u HB8 rfl rfl ?_
 intro w9 HB9 F9
 have HB9':=HB9.congr (FS.setT (s' := { s7 with bc:=0,bn:=0,bo:=so,out:=so }) 14 rfl rfl rfl (by decide))
 have hso:∀v∈so.bs,v ∉ [b]:=by intro v hv;simp;intro e;exact a1.dis (e▸hv)
 have V9:Vec 1 w9 so (bytes .u8 ol):=a1.vec.fr F9 hso
 have T79:ST w7 w9 b s7 { s7 with bc:=0,bn:=0,bo:=so,out:=so } := by
  refine W7.out HB9' (a6.trans F9 (by intro v hv;simp at hv;left;simp [hv])) V9.own a1.dis ?_ rfl rfl rfl
  intro v hv
  rcases a5 v hv with h|h|h
  ·subst h;exact absurd hv a1.dis
  ·exact .inl h
  ·exact .inr h
 have T9:=T7.trans T79
 obtain ⟨G9,h99⟩:=T9.gl G h9
 refine ⟨_,rfl,?_⟩
 simp only [add_mk,Nat.zero_add]
 refine ld_b (t := .S) (x:=so) HB9' rfl ?_
 have hol:so.l=ol.length:=V9.arr.len
 refine cnd_d (fun hge=>ld_err G9.e3 fun v h1 h2=>hk0 _ _ v (.inr ⟨_,hTot,by omega⟩) T9.drew h1 h2) (fun hlt => ?_)
 refine ⟨_,rfl,?_⟩
 simp only [add_mk,Nat.zero_add]
 refine ld_b (t := .S) (x:=so) HB9' rfl ?_
 obtain ⟨bs,c1,c2,c3⟩:=leN_split a2 d1 (by omega) a3
 have hbl2:bs.length=((encZ T (shareZ ns) (posZ (2^T) f2) ws).t+(T+T))/8+1:=by
  have:=congrArg List.length c1
  rw [List.length_append] at this
  omega
 refine hk1 w9 _ so ol ⟨⟨by omega,by omega,by omega,hl2,by rw [←hTe];exact hNO⟩,hTot,by omega⟩ T9 V9.arr a2 (by omega) ⟨ns,T,bs,_,by rw [c1];exact d2 bs c2,by rcases hT with h|h<;>omega,g3,two_back hTab hn2 hn hok c2 hbl2 c3⟩ ?_
 intro v hv
 exact mem_SB.mpr (.inr (.inl hv))
structure HU where
 count:Nat→Int
 hw:Nat→Int
 out:Sl
 outT:Sl
 outD:Sl
 maxDec:Int
 srcLen:Int
 msv:Int
 tl:Int
 reuse:Int
 wll:Int
 symL:Int
 maxC:Int
 cc:Bool
 atl:Int
 ptl:Int
 pt:Sl
 ct:Sl
 dt:Sl
 nodes:Sl
 t0:Sl
 t1:Sl
 t2:Sl
 t3:Sl
 fse:Option Addr
def HU.tail (s:HU):List Value := [s.out.val,s.outT.val,s.outD.val,.int .i64 s.maxDec,.int .i64 s.srcLen,.int .u8 s.msv,.int .u8 s.tl,.int .u8 s.reuse,.int .u8 s.wll,.int .u16 s.symL,.int .i64 s.maxC,.bool s.cc,.int .u8 s.atl,.int .u8 s.ptl,
 s.pt.val,s.ct.val,s.dt.val,s.nodes.val,s.t0.val,s.t1.val,s.t2.val,s.t3.val,.pointer s.fse]
def HU.at (s:HU):Cells:=fun i=>if i<256 then some (.int .u32 (s.count i)) else if i<279 then s.tail[i-256]? else if i<535 then some (.int .u8 (s.hw (i-279))) else none
theorem HU.count_at (s:HU) {i:Nat} (h:i<256):s.at i=some (.int .u32 (s.count i)):=if_pos h
theorem HU.hw_at (s:HU) {i:Nat} (h:i<256):s.at (279+i)=some (.int .u8 (s.hw i)):=by
 unfold HU.at
 rw [if_neg (by omega),if_neg (by omega),if_pos (by omega),Nat.add_sub_cancel_left]
theorem HU.setT {s s':HU} (k:Nat) {v:Value} (h1:s'.count=s.count) (h2:s'.hw=s.hw) (h3:s'.tail=s.tail.set k v) (h4:k<23):updC s.at (256+k) v=s'.at:=by
 funext i
 unfold updC HU.at
 rw [h1,h2,h3]
 by_cases e:i=256+k
 ·subst e
  rw [if_pos rfl,if_neg (by omega),if_pos (by omega),Nat.add_sub_cancel_left,List.getElem?_set_self (by exact h4)]
 ·rw [if_neg e]
  split
  ·rfl
  ·split
   ·rw [List.getElem?_set_ne (by omega)]
   ·rfl
theorem HU.setC {s:HU} {i:Nat} {x:Int} (h:i<256):updC s.at i (.int .u32 x)=({ s with count:=updF s.count i x } : HU).at:=by
 funext j
 unfold updC HU.at updF
 by_cases e:j=i
 ·subst e
  rw [if_pos rfl,if_pos h]
  simp
 ·rw [if_neg e]
  by_cases h1:j<256
  ·rw [if_pos h1,if_pos h1];simp [e]
  ·rw [if_neg h1,if_neg h1];rfl
theorem HU.setW {s:HU} {i:Nat} {x:Int} (h:i<256):updC s.at (279+i) (.int .u8 x)=({ s with hw:=updF s.hw i x } : HU).at:=by
 funext j
 unfold updC HU.at updF
 by_cases e:j=279+i
 ·subst e
  rw [if_pos rfl,if_neg (by omega),if_neg (by omega),if_pos (by omega)]
  simp
 ·rw [if_neg e]
  by_cases h1:j<256
  ·rw [if_pos h1,if_pos h1]
  ·rw [if_neg h1,if_neg h1]
   by_cases h2:j<279
   ·rw [if_pos h2,if_pos h2];rfl
   ·rw [if_neg h2,if_neg h2]
    by_cases h3:j<535
    ·rw [if_pos h3,if_pos h3]
     dsimp only
     rw [if_neg (by omega)]
    ·rw [if_neg h3,if_neg h3]
def HU.zero:HU:=⟨fun _=>0,fun _=>0,⟨none,0,0⟩,⟨none,0,0⟩,⟨none,0,0⟩,0,0,0,0,0,0,0,0,false,0,0,⟨none,0,0⟩,⟨none,0,0⟩,⟨none,0,0⟩,⟨none,0,0⟩,⟨none,0,0⟩,⟨none,0,0⟩,⟨none,0,0⟩,⟨none,0,0⟩,none⟩
theorem HU.atZ:(fun i=>(⟨z94⟩:Array Value)[i]?)=HU.zero.at:=by
 funext i
 simp only [List.getElem?_toArray]
 unfold z94 HU.at
 rw [rep_get]
 by_cases h1:i<256
 ·rw [if_pos h1,if_pos h1];rfl
 ·rw [if_neg h1,if_neg h1]
  by_cases h2:i<279
  ·rw [if_pos h2]
   obtain ⟨k,rfl⟩:∃k,i=256+k:=⟨i-256,by omega⟩
   rw [Nat.add_sub_cancel_left]
   have hk:k<23:=by omega
   have:k=0∨k=1∨k=2∨k=3∨k=4∨k=5∨k=6∨k=7∨k=8∨k=9∨k=10∨k=11∨k=12∨k=13∨k=14∨k=15∨k=16∨k=17∨k=18∨k=19∨k=20∨k=21∨k=22:=by omega
   rcases this with rfl|rfl|rfl|rfl|rfl|rfl|rfl|rfl|rfl|rfl|rfl|rfl|rfl|rfl|rfl|rfl|rfl|rfl|rfl|rfl|rfl|rfl|rfl<;>rfl
  ·rw [if_neg h2]
   obtain ⟨k,rfl⟩:∃k,i=279+k:=⟨i-279,by omega⟩
   have e:(List.replicate 3 (Value.slice none 0 0)++(List.replicate 2 (Value.int .i64 0)++(List.replicate 4 (Value.int .u8 0)++([Value.int .u16 0]++([Value.int .i64 0]++([Value.bool false]++(List.replicate 2 (Value.int .u8 0)++(List.replicate 8 (Value.slice none 0 0)++([Value.pointer none]++List.replicate 256 (Value.int .u8 0))))))))))[279+k-256]? = (List.replicate 256 (Value.int .u8 0))[k]? := by
    rw [show 279+k-256=k+23 by omega]
    rfl
   rw [e,List.getElem?_replicate]
   by_cases h3:k<256
   ·rw [if_pos h3,if_pos (by omega)];rfl
   ·rw [if_neg h3,if_neg (by omega)]
theorem field_clear {k m r a x y:Nat} (ha:a<2^k) (hx:x<2^m) (hy:y<2^r):(2^(k+m)*y+(2^k*x+a)) &&& (2^(k+m)*(2^r-1)+(2^k-1))=2^(k+m)*y+a:=by
 have hkm:2^k≤2^(k+m):=Nat.pow_le_pow_right (by omega) (by omega)
 have hp:=Nat.two_pow_pos k
 have h1:2^k*x+a<2^(k+m):=by
  have:=put_lt ha hx
  rw [Nat.mul_comm x,Nat.add_comm a] at this
  exact this
 apply Nat.eq_of_testBit_eq
 intro j
 have e1:=Nat.testBit_two_pow_mul_add y h1 j
 have e2:=Nat.testBit_two_pow_mul_add (2^r-1) (show 2^k-1<2^(k+m) by omega) j
 have e3:=Nat.testBit_two_pow_mul_add y (show a<2^(k+m) by omega) j
 rw [Nat.testBit_and,e1,e2,e3]
 by_cases hj:j<k+m
 ·rw [if_pos hj,if_pos hj,if_pos hj,Nat.testBit_two_pow_mul_add _ ha,Nat.testBit_two_pow_sub_one]
  by_cases hk:j<k
  ·rw [if_pos hk];simp [hk]
  ·rw [if_neg hk]
   have:a.testBit j=false:=Nat.testBit_lt_two_pow (Nat.lt_of_lt_of_le ha (Nat.pow_le_pow_right (by omega) (by omega)))
   simp [hk,this]
 ·rw [if_neg hj,if_neg hj,if_neg hj,Nat.testBit_two_pow_sub_one]
  by_cases hr:j-(k+m)<r
  ·simp [hr]
  ·have:y.testBit (j-(k+m))=false:=Nat.testBit_lt_two_pow (Nat.lt_of_lt_of_le hy (Nat.pow_le_pow_right (by omega) (by omega)))
   simp [hr,this]
theorem field_set {k m a x y:Nat} (ha:a<2^k) (hx:x<2^m):(2^(k+m)*y+a) ||| (2^k*x)=2^(k+m)*y+(2^k*x+a):=by
 have hkm:2^k≤2^(k+m):=Nat.pow_le_pow_right (by omega) (by omega)
 have hp:=Nat.two_pow_pos k
 have h1:2^k*x+a<2^(k+m):=by
  have:=put_lt ha hx
  rw [Nat.mul_comm x,Nat.add_comm a] at this
  exact this
 have h2:2^k*x=2^(k+m)*0+(2^k*x+0):=by simp
 apply Nat.eq_of_testBit_eq
 intro j
 have e1:=Nat.testBit_two_pow_mul_add y (show a<2^(k+m) by omega) j
 have e2:=Nat.testBit_two_pow_mul_add 0 (show 2^k*x+0<2^(k+m) by omega) j
 have e3:=Nat.testBit_two_pow_mul_add y h1 j
 rw [←h2] at e2
 rw [Nat.testBit_or,e1,e2,e3]
 by_cases hj:j<k+m
 ·rw [if_pos hj,if_pos hj,if_pos hj,Nat.testBit_two_pow_mul_add _ hp,Nat.testBit_two_pow_mul_add _ (by omega)]
  by_cases hk:j<k
  ·rw [if_pos hk,if_pos hk];simp
  ·rw [if_neg hk,if_neg hk]
   have:a.testBit j=false:=Nat.testBit_lt_two_pow (Nat.lt_of_lt_of_le ha (Nat.pow_le_pow_right (by omega) (by omega)))
   simp [this]
 ·rw [if_neg hj,if_neg hj,if_neg hj]
  simp
structure Nd where
 c:Nat
 p:Nat
 s:Nat
 b:Nat
def Nd.ok (x:Nd):Prop:=x.c<2^32∧x.p<2^16∧x.s<2^8∧x.b<2^8
def Nd.n (x:Nd):Nat:=x.c+4294967296*x.p+281474976710656*x.s+72057594037927936*x.b
theorem Nd.lt {x:Nd} (h:x.ok):x.n<2^64:=by
 obtain ⟨h1,h2,h3,h4⟩:=h
 unfold Nd.n
 omega
def Nd.v (x:Nd):Value := .int .u64 (x.n:Nat)
section
variable {w:World} {g o:Nat} {F:Cells} {x:Nd}
theorem c123 {K:Int→PT} (B:Blk w g F) (hF:F o=some x.v) (hx:x.ok) (hk:K (x.c:Nat) w):callP Tryd.prog 123 #[.pointer (some ⟨g,o,none⟩)] [.c (.I .u32)] K w:=by
 apply q123_ok
 unfold q123
 refine ld_b (t := .I .u64) (x:=((x.n:Nat):Int)) B hF ?_
 have e:IntKind.u32.wrap ((x.n:Nat):Int)=((x.c:Nat):Int):=by
  rw [show IntKind.u32.wrap ((x.n:Nat):Int)=((x.n%2^32:Nat):Int) from wrap_u (k := .u32) rfl x.n]
  obtain ⟨h1,h2,h3,h4⟩:=hx
  unfold Nd.n
  omega
 rw [e];exact hk
theorem c127 {K:Int→PT} (B:Blk w g F) (hF:F o=some x.v) (hx:x.ok) (hk:K (x.p:Nat) w):callP Tryd.prog 127 #[.pointer (some ⟨g,o,none⟩)] [.c (.I .u16)] K w:=by
 apply q127_ok
 unfold q127
 refine ld_b (t := .I .u64) (x:=((x.n:Nat):Int)) B hF ⟨by decide,?_⟩
 have e:IntKind.u16.wrap (shrI .u64 ((x.n:Nat):Int) 32)=((x.p:Nat):Int):=by
  have h:=shrI_nat .u64 x.n 32 (x.lt hx)
  rw [show (32:Int)=((32:Nat):Int) from rfl,h,show IntKind.u16.wrap ((x.n/2^32:Nat):Int)=((x.n/2^32%2^16:Nat):Int) from wrap_u (k := .u16) rfl _]
  obtain ⟨h1,h2,h3,h4⟩:=hx
  unfold Nd.n
  omega
 rw [e];exact hk
theorem c128 {K:Int→PT} (B:Blk w g F) (hF:F o=some x.v) (hx:x.ok) (hk:K (x.b:Nat) w):callP Tryd.prog 128 #[.pointer (some ⟨g,o,none⟩)] [.c (.I .u8)] K w:=by
 apply q128_ok
 unfold q128
 refine ld_b (t := .I .u64) (x:=((x.n:Nat):Int)) B hF ⟨by decide,?_⟩
 have e:IntKind.u8.wrap (shrI .u64 ((x.n:Nat):Int) 56)=((x.b:Nat):Int):=by
  have h:=shrI_nat .u64 x.n 56 (x.lt hx)
  rw [show (56:Int)=((56:Nat):Int) from rfl,h,show IntKind.u8.wrap ((x.n/2^56:Nat):Int)=((x.n/2^56%2^8:Nat):Int) from wrap_u (k := .u8) rfl _]
  obtain ⟨h1,h2,h3,h4⟩:=hx
  unfold Nd.n
  omega
 rw [e];exact hk
theorem c130 {K:Int→PT} (B:Blk w g F) (hF:F o=some x.v) (hx:x.ok) (hk:K (x.s:Nat) w):callP Tryd.prog 130 #[.pointer (some ⟨g,o,none⟩)] [.c (.I .u8)] K w:=by
 apply q130_ok
 unfold q130
 refine ld_b (t := .I .u64) (x:=((x.n:Nat):Int)) B hF ⟨by decide,?_⟩
 have e:IntKind.u8.wrap (shrI .u64 ((x.n:Nat):Int) 48)=((x.s:Nat):Int):=by
  have h:=shrI_nat .u64 x.n 48 (x.lt hx)
  rw [show (48:Int)=((48:Nat):Int) from rfl,h,show IntKind.u8.wrap ((x.n/2^48:Nat):Int)=((x.n/2^48%2^8:Nat):Int) from wrap_u (k := .u8) rfl _]
  obtain ⟨h1,h2,h3,h4⟩:=hx
  unfold Nd.n
  omega
 rw [e];exact hk
theorem setf {N M X R:Nat} {i m:Int} (hN:N<2^64) (hM:M<2^64) (hX:X<2^64) (hm:m=(M:Nat)) (hi:i=(X:Nat)) (h:(N &&& M) ||| X=R):orI .u64 (andI .u64 ((N:Nat):Int) m) i=((R:Nat):Int):=by
 subst hm hi
 rw [andI_nat (k := .u64) rfl N M hN hM,orI_nat (k := .u64) rfl _ _ (Nat.lt_of_le_of_lt Nat.and_le_left hN) hX,h]
theorem c124 {K:Unit→PT} {n:Nat} (B:Blk w g F) (hF:F o=some x.v) (hx:x.ok) (hn:n<2^32) (hk:∀w',Blk w' g (updC F o ({ x with c:=n } : Nd).v)→Fm w w' [g]→K () w'):callP Tryd.prog 124 #[.pointer (some ⟨g,o,none⟩),.int .u32 (n:Nat)] [] K w:=by
 apply q124_ok
 unfold q124
 refine ld_b (t := .I .u64) (x:=((x.n:Nat):Int)) B hF ?_
 have e:orI .u64 (andI .u64 ((x.n:Nat):Int) 18446744069414584320) (IntKind.wrap .u64 ((n:Nat):Int))=((({ x with c:=n } : Nd).n:Nat):Int):=by
  refine setf (M:=18446744069414584320) (X:=n) (x.lt hx) (by decide) (by omega) rfl (wU64 (by omega) (by omega)) ?_
  obtain ⟨h1,h2,h3,h4⟩:=hx
  have hy:x.p+65536*x.s+16777216*x.b<2^32:=by omega
  have e1:x.n=2^(0+32)*(x.p+65536*x.s+16777216*x.b)+(2^0*x.c+0):=by unfold Nd.n;omega
  have c1:=field_clear (k:=0) (m:=32) (r:=32) (a:=0) (x:=x.c) (y:=x.p+65536*x.s+16777216*x.b) (by decide) h1 hy
  have c2:=field_set (k:=0) (m:=32) (a:=0) (x:=n) (y:=x.p+65536*x.s+16777216*x.b) (by decide) hn
  rw [e1,show (18446744069414584320:Nat)=2^(0+32)*(2^32-1)+(2^0-1) from rfl,c1,show n=2^0*n by omega,c2]
  unfold Nd.n
  simp only
  omega
 rw [e]
 refine st_u B (by rw [hF];rfl) rfl hk
theorem c125 {K:Unit→PT} {n:Nat} (B:Blk w g F) (hF:F o=some x.v) (hx:x.ok) (hn:n<2^15) (hk:∀w',Blk w' g (updC F o ({ x with p:=n } : Nd).v)→Fm w w' [g]→K () w'):callP Tryd.prog 125 #[.pointer (some ⟨g,o,none⟩),.int .i16 (n:Nat)] [] K w:=by
 apply q125_ok
 unfold q125
 refine ld_b (t := .I .u64) (x:=((x.n:Nat):Int)) B hF ⟨by decide,?_⟩
 have e:orI .u64 (andI .u64 ((x.n:Nat):Int) 18446462603027808255) (shlI .u64 (IntKind.wrap .u64 (IntKind.wrap .u16 ((n:Nat):Int))) 32)=((({ x with p:=n } : Nd).n:Nat):Int):=by
  refine setf (M:=18446462603027808255) (X:=2^32*n) (x.lt hx) (by decide) (by omega) rfl ?_ ?_
  ·rw [wU16 (by omega) (by omega),wU64 (by omega) (by omega),Nat.mul_comm]
   exact shlI_nat .u64 n 32 (by decide) (by simp only [IntKind.bits];omega)
  ·obtain ⟨h1,h2,h3,h4⟩:=hx
   have hy:x.s+256*x.b<2^16:=by omega
   have e1:x.n=2^(32+16)*(x.s+256*x.b)+(2^32*x.p+x.c):=by unfold Nd.n;omega
   have c1:=field_clear (k:=32) (m:=16) (r:=16) (a:=x.c) (x:=x.p) (y:=x.s+256*x.b) h1 h2 hy
   have c2:=field_set (k:=32) (m:=16) (a:=x.c) (x:=n) (y:=x.s+256*x.b) h1 (by omega)
   rw [e1,show (18446462603027808255:Nat)=2^(32+16)*(2^16-1)+(2^32-1) from rfl,c1,c2]
   unfold Nd.n
   simp only
   omega
 rw [e]
 refine st_u B (by rw [hF];rfl) rfl hk
theorem c126 {K:Unit→PT} {n:Nat} (B:Blk w g F) (hF:F o=some x.v) (hx:x.ok) (hn:n<2^8) (hk:∀w',Blk w' g (updC F o ({ x with b:=n } : Nd).v)→Fm w w' [g]→K () w'):callP Tryd.prog 126 #[.pointer (some ⟨g,o,none⟩),.int .u8 (n:Nat)] [] K w:=by
 apply q126_ok
 unfold q126
 refine ld_b (t := .I .u64) (x:=((x.n:Nat):Int)) B hF ⟨by decide,?_⟩
 have e:orI .u64 (andI .u64 ((x.n:Nat):Int) 72057594037927935) (shlI .u64 (IntKind.wrap .u64 ((n:Nat):Int)) 56)=((({ x with b:=n } : Nd).n:Nat):Int):=by
  refine setf (M:=72057594037927935) (X:=2^56*n) (x.lt hx) (by decide) (by omega) rfl ?_ ?_
  ·rw [wU64 (by omega) (by omega),Nat.mul_comm]
   have:=shlI_u (k := .u64) rfl n 56 (by decide)
   rw [Nat.mod_eq_of_lt (by simp only [IntKind.bits];omega)] at this
   exact this
  ·obtain ⟨h1,h2,h3,h4⟩:=hx
   have ha:x.c+4294967296*x.p+281474976710656*x.s<2^56:=by omega
   have e1:x.n=2^(56+8)*0+(2^56*x.b+(x.c+4294967296*x.p+281474976710656*x.s)):=by unfold Nd.n;omega
   have c1:=field_clear (k:=56) (m:=8) (r:=0) (a:=x.c+4294967296*x.p+281474976710656*x.s) (x:=x.b) (y:=0) ha h4 (by decide)
   have c2:=field_set (k:=56) (m:=8) (a:=x.c+4294967296*x.p+281474976710656*x.s) (x:=n) (y:=0) ha hn
   rw [e1,show (72057594037927935:Nat)=2^(56+8)*(2^0-1)+(2^56-1) from rfl,c1,c2]
   unfold Nd.n
   simp only
   omega
 rw [e]
 refine st_u B (by rw [hF];rfl) rfl hk
theorem c154 {K:Int→PT} {c s:Nat} (hc:c<2^32) (hs:s<2^8) (hk:K ((⟨c,0,s,0⟩:Nd).n:Nat) w):callP Tryd.prog 154 #[.int .u32 (c:Nat),.int .u8 (s:Nat)] [.c (.I .u64)] K w:=by
 apply q154_ok
 unfold q154
 refine ⟨by decide,?_⟩
 have e:orI .u64 (IntKind.wrap .u64 ((c:Nat):Int)) (shlI .u64 (IntKind.wrap .u64 ((s:Nat):Int)) 48)=(((⟨c,0,s,0⟩:Nd).n:Nat):Int):=by
  rw [wU64 (by omega) (by omega),wU64 (by omega) (by omega)]
  have h1:shlI .u64 ((s:Nat):Int) 48=((s*2^48:Nat):Int):=shlI_nat .u64 s 48 (by decide) (by simp only [IntKind.bits];omega)
  rw [h1,orI_nat (k := .u64) rfl _ _ (by simp only [IntKind.bits];omega) (by simp only [IntKind.bits];omega)]
  have c2:=field_set (k:=48) (m:=8) (a:=c) (x:=s) (y:=0) (by omega) hs
  simp only [Nat.mul_zero,Nat.zero_add] at c2
  rw [Nat.mul_comm,c2]
  unfold Nd.n
  simp only
  omega
 rw [e]
 exact hk
end
theorem c64 {w:World} {n:Nat} {K:Int→PT} (h0:0<n) (h:n<4294967296) (hk:K (n.log2:Nat) w):callP Tryd.prog 64 #[.int .u32 n] [.c (.I .u32)] K w:=by
 apply q64_ok
 unfold q64
 refine c81 h ?_
 have hl:n.log2<32:=(Nat.log2_lt (by omega)).mpr (by omega)
 have e:lenOf n=n.log2+1:=by unfold lenOf;rw [if_neg (by omega)]
 rw [e,wI64 (by omega) (by omega),wU32 (by omega) (by omega)]
 rw [show (((n.log2+1:Nat):Int)-1)=((n.log2:Nat):Int) by omega]
 exact hk
def mB (n L:Nat):Nat:=min (n.log2+1) ((L-1).log2+2)
def otl (t n L:Nat):Nat:=min 11 (max 5 (max (if (n-1).log2≠0∧(n-1).log2-1<t then (n-1).log2-1 else t) (mB n L)))
theorem c153 {w:World} {b n L:Nat} {s:HU} {K:Int→PT} (HB:Blk w b s.at) (hn:s.srcLen=(n:Nat)) (hL:s.symL=(L:Nat)) (hn1:1≤n) (hn2:n<4294967296) (hL2:2≤L) (hL3:L≤256)
  (hk:∀m:Nat,1≤m→m≤9→(n<2^m∨L≤2^m)→m=mB n L→K (m:Nat) w):callP Tryd.prog 153 #[.pointer (some ⟨b,0,none⟩)] [.c (.I .u8)] K w:=by
 apply q153_ok
 unfold q153
 simp only [add_mk,Nat.zero_add]
 refine ld_b (t := .I .i64) (x:=((n:Nat):Int)) HB (by show some (Value.int .i64 s.srcLen)=_;rw [hn];rfl) ?_
 rw [wU32 (x:=((n:Nat):Int)) (by omega) (by omega)]
 refine c64 (by omega) hn2 ?_
 refine ld_b (t := .I .u16) (x:=((L:Nat):Int)) HB (by show some (Value.int .u16 s.symL)=_;rw [hL];rfl) ?_
 have e2:IntKind.u32.wrap (IntKind.u16.wrap (((L:Nat):Int)-1))=((L-1:Nat):Int):=by rw [wU16 (by omega) (by omega),wU32 (by omega) (by omega)];omega
 rw [e2]
 refine c64 (by omega) (by omega) ?_
 have l1:n.log2<32:=(Nat.log2_lt (by omega)).mpr (by omega)
 have l2:(L-1).log2<8:=(Nat.log2_lt (by omega)).mpr (by omega)
 have g1:n<2^(n.log2+1):=Nat.lt_log2_self
 have g2:L-1<2^((L-1).log2+1):=Nat.lt_log2_self
 rw [wU32 (x:=((n.log2:Nat):Int)+1) (by omega) (by omega),wU32 (x:=(((L-1).log2:Nat):Int)+2) (by omega) (by omega),wU8 (x:=((n.log2:Nat):Int)+1) (by omega) (by omega),wU8 (x:=(((L-1).log2:Nat):Int)+2) (by omega) (by omega)]
 refine cnd_d ?_ ?_
 ·intro hc
  have:=hk (n.log2+1) (by omega) (by omega) (.inl g1) (by unfold mB;omega)
  rw [Int.natCast_add] at this
  exact this
 ·intro hc
  have:=hk ((L-1).log2+2) (by omega) (by omega) (.inr (by rw [show (L-1).log2+2=(L-1).log2+1+1 by omega,Nat.pow_succ];omega)) (by unfold mB;omega)
  rw [Int.natCast_add] at this
  exact this
theorem c121 {w:World} {b n L t:Nat} {s:HU} {K:Unit→PT} (HB:Blk w b s.at) (hn:s.srcLen=(n:Nat)) (hL:s.symL=(L:Nat)) (htl:s.tl=(t:Nat)) (ht:t≤11) (hn1:2≤n) (hn2:n<4294967296) (hL2:2≤L) (hL3:L≤256)
  (hk:∀(w':World) (H:Nat),5≤H→H≤11→(n≤2^H∨L≤2^H)→H=otl t n L→Blk w' b ({ s with atl:=(H:Nat) } : HU).at→Fm w w' [b]→K () w') :
  callP Tryd.prog 121 #[.pointer (some ⟨b,0,none⟩)] [] K w:=by
 apply q121_ok
 unfold q121
 simp only [add_mk,Nat.zero_add]
 refine ld_b (t := .I .u8) (x:=((t:Nat):Int)) HB (by show some (Value.int .u8 s.tl)=_;rw [htl];rfl) ?_
 refine c153 HB hn hL (by omega) hn2 hL2 hL3 ?_
 intro m hm1 hm9 hm hmB
 refine ld_b (t := .I .i64) (x:=((n:Nat):Int)) HB (by show some (Value.int .i64 s.srcLen)=_;rw [hn];rfl) ?_
 have e1:IntKind.u32.wrap (IntKind.i64.wrap (((n:Nat):Int)-1))=((n-1:Nat):Int):=by rw [wI64 (by omega) (by omega),wU32 (by omega) (by omega)];omega
 rw [e1]
 refine c64 (by omega) (by omega) ?_
 have l1:(n-1).log2<32:=(Nat.log2_lt (by omega)).mpr (by omega)
 have last:∀x:Nat,otl t n L=min 11 (max 5 (max x m))→q121_J3 ⟨b,0,none⟩ K (m:Nat) (x:Nat) w:=by
  intro x hR
  have fin:∀H:Nat,5≤H→H≤11→m≤H→H=otl t n L→q121_J0 ⟨b,0,none⟩ K (H:Nat) w:=by
   intro H h1 h2 h3 h4
   have hp:2^m≤2^H:=Nat.pow_le_pow_right (by omega) h3
   unfold q121_J0
   simp only [add_mk,Nat.zero_add]
   refine st_u HB rfl rfl ?_
   intro w' HB' F'
   exact hk w' H h1 h2 (by omega) h4 (HB'.congr (HU.setT 12 rfl rfl rfl (by decide))) F'
  have s1:∀y:Nat,5≤y→m≤y→otl t n L=min 11 y→q121_J1 ⟨b,0,none⟩ K (y:Nat) w:=by
   intro y h1 h2 h3
   unfold q121_J1
   refine joinP_id (cnd_d (fun h => ?_) (fun h => ?_))
   ·exact fin 11 (by omega) (by omega) (by omega) (by omega)
   ·exact fin y h1 (by omega) h2 (by omega)
  have s2:∀y:Nat,m≤y→otl t n L=min 11 (max 5 y)→q121_J2 ⟨b,0,none⟩ K (y:Nat) w:=by
   intro y h2 h3
   unfold q121_J2
   refine joinP_id (cnd_d (fun h => ?_) (fun h => ?_))
   ·exact s1 5 (by omega) (by omega) (by omega)
   ·exact s1 y (by omega) h2 (by omega)
  unfold q121_J3
  refine joinP_id (cnd_d (fun h => ?_) (fun h => ?_))
  ·exact s2 m (by omega) (by omega)
  ·exact s2 x (by omega) (by omega)
 rw [wU8 (x:=(((n-1).log2:Nat):Int)) (by omega) (by omega)]
 refine joinP_id (cnd_d ?_ ?_)
 ·intro hc
  by_cases h:(n-1).log2=0
  ·rw [h] at hc
   have:IntKind.u8.wrap (((0:Nat):Int)-1)=255:=rfl
   rw [this] at hc
   omega
  ·rw [wU8 (by omega) (by omega)] at hc
   rw [wU8 (by omega) (by omega),show (((n-1).log2:Nat):Int)-1=(((n-1).log2-1:Nat):Int) by omega]
   refine last _ ?_
   unfold otl
   rw [if_pos ⟨h,by omega⟩,hmB]
 ·intro hc
  refine last t ?_
  unfold otl
  rw [if_neg,hmB]
  rintro ⟨h1,h2⟩
  rw [wU8 (by omega) (by omega)] at hc
  omega
end Go.Sx
