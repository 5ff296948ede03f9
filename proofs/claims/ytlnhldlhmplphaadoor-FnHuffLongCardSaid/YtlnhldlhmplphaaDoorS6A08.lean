/- Lemmas for the proof: H18 H19 H20 U1 H21 H22 H23 P09 H24 H25 H26 H27 H28 H29 H30. No conditions. -/
import Derived.Test.YtlnhldlhmplphaaDoorS6A07
set_option linter.unusedVariables false
set_option linter.unusedSimpArgs false
namespace Go.Sx
open Go Go.Proofs
set_option maxRecDepth 4000
theorem nw_n {w:World} {k:IntKind} {n:Nat} {T:TypeId} {κ:Addr→PT} (hk:∀w',Fm w w' []→w'.heap.size=w.heap.size+1→Blk w' w.heap.size (arrC k n fun _=>0)→κ ⟨w.heap.size,0,none⟩ w'):nw (List.replicate n (.int k 0)) T κ w:=by
 refine hk _ (Fm.refl w []).alloc (World.size_alloc _ _) (Blk.new.congr ?_)
 funext i
 unfold arrC
 rw [List.getElem?_toArray,List.getElem?_replicate]
theorem ixS_2 {w:World} {b l c k:Nat} {i:Int} {κ:Addr→PT} (hi:i=k) (hk:k<l) (h:κ ⟨b,k*2,none⟩ w):ixS 2 ⟨some ⟨b,0,none⟩,l,c⟩ i κ w:=by
 refine ixS_b rfl hi hk ?_
 rw [Nat.zero_add]
 exact h
section
variable {w:World} {nb cap N L M:Nat} {z:Nd} {nd:Nat→Nd}
theorem NW.lt (h:NW w nb cap z nd):nb<w.heap.size:=by
 obtain ⟨F,h1,_⟩:=h
 exact h1.lt
theorem copyW {κ:Addr→PT} {i l c:Nat} (W:NW w nb cap z nd) (hi:i<512) (hil:i<l) (hk:∀w' r,w.heap.size≤r→r<w'.heap.size→Blk w' r (oneC (nd i).v)→Fm w w' []→κ ⟨r,0,none⟩ w') :
  (ixS 1 ⟨some ⟨nb,1,none⟩,l,c⟩ (i:Int) fun (p104:Addr)=>ld (.I .u64) p104 fun (n105:Int)=>nw z196 196 fun (p106:Addr)=>st p106 (.int .u64 n105) (κ p106)) w:=by
 obtain ⟨F,h1,h2,h3,h4,h5⟩:=W
 refine ixS_o rfl hil ?_
 refine ld_b (t := .I .u64) (x:=(((nd i).n:Nat):Int)) h1 (h5 i hi).1 ?_
 refine nw_1 ?_
 intro w1 F1 hs1 HB1
 refine st_u HB1 (by rfl) rfl ?_
 intro w2 HB2 F2
 rw [oneC_upd] at HB2
 refine hk w2 _ (Nat.le_refl _) HB2.lt HB2 (F1.trans F2 ?_)
 intro v hv
 right
 simp at hv
 omega
theorem ct_rank {R100:Unit→PT} {pb:Nat} (W:NW w nb cap z nd) (HP:Blk w pb (arrC .u16 12 fun _=>0)) (hN:N≤256) (hb:∀i,i<N→(nd i).b<12)
  (d:nb≠pb) (hk:∀w',Blk w' pb (arrC .u16 12 fun r=>((cN (fun i=>(nd i).b) r N:Nat):Int))→Fm w w' [pb]→R100 () w') :
  loopP (0:Int) (q91_L10 ⟨pb,0,none⟩ R100 ⟨some ⟨nb,1,none⟩,N,cap-1⟩) w:=by
 have hpl:=HP.lt
 refine ⟨fun x w'=>∃(i:Nat),x=(i:Int)∧i≤N∧Blk w' pb (arrC .u16 12 fun r=>((cN (fun i=>(nd i).b) r i:Nat):Int))∧Fm w w' [pb],fun x _=>300-x.toNat,⟨0,rfl,Nat.zero_le _,HP,Fm.refl _ _⟩,?_⟩
 rintro x w2 ⟨i,rfl,hi,HP2,Fr2⟩
 unfold q91_L10
 refine cnd_d ?_ ?_
 ·intro hc
  have hi2:i<N:=by simp only at hc;omega
  have W2:=W.fr Fr2 (nm1 d)
  have hbi:=hb i hi2
  have hcn:=cN_le (fun i=>(nd i).b) (nd i).b i
  refine copyW W2 (by omega) hi2 ?_
  intro w3 r hr hr3 HB3 F3
  have hsz:=Fr2.size
  have HP3:=HP2.fr F3 (by simp)
  refine c128 HB3 rfl (W.ok (by omega)) ?_
  refine ixA_o rfl hbi ?_
  rw [Nat.zero_add]
  refine ld_b (t := .I .u16) (x:=((cN (fun i=>(nd i).b) (nd i).b i:Nat):Int)) HP3 (arrC_get hbi) ?_
  refine ixA_o rfl hbi ?_
  rw [Nat.zero_add]
  refine st_u HP3 (by rw [arrC_get hbi];rfl) rfl ?_
  intro w4 HP4 F4
  rw [wU16 (by omega) (by omega),arrC_upd hbi] at HP4
  rw [wI64 (by omega) (by omega)]
  refine ⟨⟨i+1,by simp,hi2,HP4.congr ?_,(Fr2.trans F3 (by simp)).trans F4 (fun x hx => .inl hx)⟩,by dsimp only;omega⟩
  congr 1
  funext r'
  unfold updF
  simp only [cN]
  by_cases e:r'=(nd i).b
  ·rw [if_pos e,if_pos e.symm,e];omega
  ·rw [if_neg e,if_neg (fun h=>e h.symm)];omega
 ·intro hc
  have hie:i=N:=by simp only at hc;omega
  subst hie
  exact hk w2 HP2 Fr2
theorem ct_vals {R112:Unit→PT} {pb vb:Nat} {nbr:Nat→Nat} (HP:Blk w pb (arrC .u16 12 fun r=>((nbr r:Nat):Int))) (HV:Blk w vb (arrC .u16 16 fun _=>0)) (d:pb≠vb) (hM:M≤11) (hn:∀r,nbr r≤256)
  (hk:∀w',Blk w' vb (arrC .u16 16 fun r=>((vR nbr M r:Nat):Int))→Fm w w' [vb]→R112 () w') :
  loopP ((0:Int),(M:Int)) (q91_L11 ⟨pb,0,none⟩ ⟨vb,0,none⟩ R112) w:=by
 refine ⟨fun x w'=>∃(j:Nat),x=((vJ nbr M j:Int),((M-j:Nat):Int))∧j≤M∧Blk w' vb (arrC .u16 16 fun r=>((if M-j<r then vR nbr M r else 0:Nat):Int))∧Fm w w' [vb],fun x _=>x.2.toNat,
  ⟨0,rfl,Nat.zero_le _,HV.congr ?_,Fm.refl _ _⟩,?_⟩
 ·congr 1
  funext r
  split
  ·unfold vR;rw [if_pos (.inr (by omega))];rfl
  ·rfl
 rintro x w2 ⟨j,rfl,hj,HV2,Fr2⟩
 unfold q91_L11
 simp only
 have hvj:=vJ_le (M:=M) hn j
 refine cnd_d ?_ ?_
 ·intro hc
  have hnr:=hn (M-j)
  refine ixA_o rfl (by omega) ?_
  rw [Nat.zero_add]
  refine st_u HV2 (by rw [arrC_get (by omega)];rfl) rfl ?_
  intro w3 HV3 F3
  rw [arrC_upd (by omega)] at HV3
  have HP3:=(HP.fr Fr2 (nm1 d)).fr F3 (nm1 d)
  refine ixA_o rfl (by omega) ?_
  rw [Nat.zero_add]
  refine ld_b (t := .I .u16) (x:=((nbr (M-j):Nat):Int)) HP3 (arrC_get (by omega)) ?_
  refine ⟨by decide,?_⟩
  have es:shrI .u16 (IntKind.u16.wrap (((vJ nbr M j:Nat):Int)+((nbr (M-j):Nat):Int))) 1=((vJ nbr M (j+1):Nat):Int):=by
   rw [wU16 (by omega) (by omega), ←Int.natCast_add,show (1:Int)=((1:Nat):Int) from rfl,shrI_nat _ _ _ (by simp only [IntKind.bits];omega),Nat.pow_one,vJ]
  rw [es,wU8 (by omega) (by omega)]
  refine ⟨⟨j+1,by rw [show ((M-j:Nat):Int)-1=((M-(j+1):Nat):Int) by omega],by omega,HV3.congr ?_,Fr2.trans F3 (fun x hx => .inl hx)⟩,by omega⟩
  congr 1
  funext r
  unfold updF
  by_cases e:r=M-j
  ·rw [if_pos e,if_pos (by omega)]
   unfold vR
   rw [if_neg (by omega),e,show M-(M-j)=j by omega]
  ·rw [if_neg e]
   show (((if M-j<r then vR nbr M r else 0):Nat):Int)=_
   by_cases e2:M-j<r
   ·rw [if_pos e2,if_pos (by omega)]
   ·rw [if_neg e2,if_neg (by omega)]
 ·intro hc
  have hje:j=M:=by omega
  subst hje
  refine hk w2 (HV2.congr ?_) Fr2
  congr 1
  funext r
  rw [Nat.sub_self]
  split
  ·rfl
  ·unfold vR;rw [if_pos (.inl (by omega))]
def LnC (L:Nat) (ln:Nat→Nat) (F:Cells):Prop:=∀i,i<L→F (i*2+1)=some (.int .u8 (ln i:Nat))
theorem ct_lens {R119:Unit→PT} {g tb capt:Nat} {s:HU} {σ:Nat→Nat} {F:Cells} (B:Blk w g s.at) (W:NW w nb cap z nd) (hct:s.ct=⟨some ⟨tb,0,none⟩,L,capt⟩) (HT:Blk w tb F) (hF:Som (capt*2) F) (hLc:L≤capt) (hN:N≤256) (hL:L≤256)
  (hsy:∀i,i<N→(nd i).s=σ i) (hσ:∀i,i<N→σ i<L) (h0:LnC L (fun _=>0) F) (dg:g≠tb) (dn:nb≠tb)
  (hk:∀w' F',Blk w' tb F'→Som (capt*2) F'→LnC L (lnS σ (fun i=>(nd i).b) N) F'→(∀k,F' (k*2)=F (k*2))→Fm w w' [tb]→R119 () w') :
  loopP (0:Int) (q91_L12 ⟨g,0,none⟩ R119 ⟨some ⟨nb,1,none⟩,N,cap-1⟩) w:=by
 refine ⟨fun x w'=>∃(i:Nat) (F':Cells),x=(i:Int)∧i≤N∧Blk w' tb F'∧Som (capt*2) F'∧LnC L (lnS σ (fun i=>(nd i).b) i) F'∧(∀k,F' (k*2)=F (k*2))∧Fm w w' [tb],fun x _=>300-x.toNat,⟨0,F,rfl,Nat.zero_le _,HT,hF,h0,fun k=>rfl,Fm.refl _ _⟩,?_⟩
 rintro x w2 ⟨i,F2,rfl,hi,HT2,hS2,hl2,he2,Fr2⟩
 unfold q91_L12
 refine cnd_d ?_ ?_
 ·intro hc
  have hi2:i<N:=by simp only at hc;omega
  have W2:=W.fr Fr2 (nm1 dn)
  have B2:=B.fr Fr2 (nm1 dg)
  have hσi:=hσ i hi2
  have hok:=W.ok (i:=i) (by omega)
  refine copyW W2 (by omega) hi2 ?_
  intro w3 r hr hr3 HB3 F3
  have hsz:=Fr2.size
  have HT3:=HT2.fr F3 (by simp)
  have B3:=B2.fr F3 (by simp)
  unfold drw
  simp only [add_mk,Nat.zero_add]
  have hat:s.at 271=some (Sl.val ⟨some ⟨tb,0,none⟩,L,capt⟩):=by show some s.ct.val=_;rw [hct]
  have hkp:∀f ∈ [((⟨g,271,none⟩:Addr),(Value.slice (some ⟨tb,0,none⟩) L capt))],w3.drew.cell? f.1=some f.2:=by
   intro f hf
   simp only [List.mem_cons,List.not_mem_nil,or_false] at hf
   subst hf
   show w3.drew.cell? ⟨g,271,none⟩=_
   rw [B3.drew.cell,hat];rfl
  refine ld_b (t := .S) (x:=⟨some ⟨tb,0,none⟩,L,capt⟩) B3.drew hat ?_
  refine c130 HB3.drew rfl hok ?_
  refine ⟨hkp,?_⟩
  refine c128 HB3.drew rfl hok ?_
  refine ⟨hkp,?_⟩
  rw [hsy i hi2]
  refine ixS_2 rfl hσi ?_
  simp only [add_mk]
  refine st_u HT3.drew (hS2 _ (by omega)) rfl ?_
  intro w4 HT4 F4
  rw [wI64 (by omega) (by omega)]
  refine ⟨⟨i+1,_,by simp,hi2,HT4,hS2.upd,?_,(fun k=>by unfold updC;rw [if_neg (by omega)];exact he2 k),(Fr2.trans F3 (by simp)).drew.trans F4 (fun x hx => .inl hx)⟩,by omega⟩
  intro k hk2
  unfold updC
  rw [lnS]
  by_cases e:k=σ i
  ·subst e;rw [if_pos rfl,updN_eq]
  ·rw [if_neg (by omega),updN_ne e];exact hl2 k hk2
 ·intro hc
  have hie:i=N:=by simp only at hc;omega
  subst hie
  exact hk w2 F2 HT2 hS2 hl2 he2 Fr2
theorem ct_codes {R134:Unit→PT} {tb vb capt:Nat} {ln V:Nat→Nat} {F:Cells} (HT:Blk w tb F) (hF:Som (capt*2) F) (hLc:L≤capt) (hL:L≤256) (hl:LnC L ln F) (h0:∀i,i<L→∃v,F (i*2)=some (.int .u16 v)) (HV:Blk w vb (arrC .u16 16 fun r=>((V r:Nat):Int))) (hV:∀r,V r≤256) (hln:∀i,i<L→ln i≤11) (d:tb≠vb)
  (hk:∀w' F',Blk w' tb F'→Som (capt*2) F'→(∀i,i<L→F' (i*2)=some (.int .u16 (V (ln i)+cN ln (ln i) i:Nat))∧F' (i*2+1)=some (.int .u8 (ln i:Nat)))→Fm w w' [tb,vb]→R134 () w') :
  loopP (0:Int) (q91_L13 ⟨vb,0,none⟩ ⟨some ⟨tb,0,none⟩,L,capt⟩ R134) w:=by
 refine ⟨fun x w'=>∃(i:Nat) (F':Cells),x=(i:Int)∧i≤L∧Blk w' tb F'∧Som (capt*2) F'∧LnC L ln F'∧(∀i,i<L→∃v,F' (i*2)=some (.int .u16 v))∧(∀k,k<i→F' (k*2)=some (.int .u16 (V (ln k)+cN ln (ln k) k:Nat)))∧Blk w' vb (arrC .u16 16 fun r=>((V r+cN ln r i:Nat):Int))∧Fm w w' [tb,vb],fun x _=>300-x.toNat,
  ⟨0,F,rfl,Nat.zero_le _,HT,hF,hl,h0,fun k hk=>absurd hk (Nat.not_lt_zero _),HV,Fm.refl _ _⟩,?_⟩
 rintro x w2 ⟨i,F2,rfl,hi,HT2,hS2,hl2,h02,hv2,HV2,Fr2⟩
 unfold q91_L13
 refine cnd_d ?_ ?_
 ·intro hc
  have hi2:i<L:=by simp only at hc;omega
  obtain ⟨v0,hv0⟩:=h02 i hi2
  have hl11:=hln i hi2
  have hVi:=hV (ln i)
  have hcn:=cN_le ln (ln i) i
  refine ixS_2 rfl hi2 ?_
  show ld (.I .u16) _ _ _
  simp only [add_mk,Nat.add_zero]
  refine ld_b (t := .I .u16) (x:=v0) HT2 (by rw [hv0];rfl) ?_
  show ld (.I .u8) _ _ _
  simp only [add_mk,Nat.zero_add]
  refine ld_b (t := .I .u8) (x:=((ln i:Nat):Int)) HT2 (by rw [hl2 i hi2];rfl) ?_
  unfold nw
  have B3:Blk (w2.alloc (.cells ⟨z140⟩ 140)) w2.heap.size fun i=>(⟨z140⟩:Array Value)[i]? := Blk.new
  have F3:Fm w2 (w2.alloc (.cells ⟨z140⟩ 140)) []:=(Fm.refl w2 []).alloc
  generalize hw3:w2.alloc (.cells ⟨z140⟩ 140)=w3 at *
  have hrl:=B3.lt
  have htl:=HT2.lt
  have hvl:=HV2.lt
  have dt:tb≠w2.heap.size:=by omega
  have dv:vb≠w2.heap.size:=by omega
  have hsz:=Fr2.size
  generalize hr:w2.heap.size=r at *
  show st _ _ (st _ _ _) _
  simp only [add_mk,Nat.add_zero,Nat.zero_add]
  refine st_u B3 (by rfl) rfl ?_
  intro w4 B4 F4
  refine st_u B4 (by rfl) rfl ?_
  intro w5 B5 F5
  refine ld_b (t := .I .u8) (x:=((ln i:Nat):Int)) B5 (by unfold updC;rw [if_pos rfl];rfl) ?_
  have F25:Fm w2 w5 [r]:=((F3.mono (S' := [r]) (by simp)).trans F4 (fun x hx => .inl hx)).trans F5 (fun x hx => .inl hx)
  have HT5:=HT2.fr F25 (nm1 dt)
  have HV5:=HV2.fr F25 (nm1 dv)
  have ea:andI .u8 ((ln i:Nat):Int) 15=((ln i:Nat):Int):=by
   have:=andI_nat (k := .u8) rfl (ln i) 15 (by simp only [IntKind.bits];omega) (by decide)
   rw [show (15:Int)=((15:Nat):Int) from rfl,this]
   congr 1
   have:=Nat.and_two_pow_sub_one_eq_mod (ln i) 4
   rw [show 2^4-1=15 from rfl] at this
   rw [this,Nat.mod_eq_of_lt (by omega)]
  rw [ea]
  refine ixA_o rfl (by omega) ?_
  rw [Nat.zero_add]
  refine ld_b (t := .I .u16) (x:=((V (ln i)+cN ln (ln i) i:Nat):Int)) HV5 (arrC_get (by omega)) ?_
  refine ixS_2 rfl hi2 ?_
  refine st_u HT5 (hS2 _ (by omega)) rfl ?_
  intro w6 HT6 F6
  refine ixA_o rfl (by omega) ?_
  rw [Nat.zero_add]
  refine st_u (HV5.fr F6 (nm1 d.symm)) (by rw [arrC_get (by omega)];rfl) rfl ?_
  intro w7 HV7 F7
  rw [wU16 (by omega) (by omega),arrC_upd (by omega)] at HV7
  rw [wI64 (by omega) (by omega)]
  refine ⟨⟨i+1,_,by simp,hi2,HT6.fr F7 (nm1 d),hS2.upd,?_,?_,?_,HV7.congr ?_,((Fr2.trans F25 (by intro v hv;right;simp at hv;omega)).trans F6 (by intro v hv;simp at hv;simp [hv])).trans F7 (by intro v hv;simp at hv;simp [hv])⟩,by omega⟩
  ·intro k hk2
   unfold updC
   rw [if_neg (by omega)];exact hl2 k hk2
  ·intro k hk2
   unfold updC
   by_cases e:k=i
   ·subst e;rw [if_pos rfl];exact ⟨_,rfl⟩
   ·rw [if_neg (by omega)];exact h02 k hk2
  ·intro k hk2
   unfold updC
   by_cases e:k=i
   ·subst e;rw [if_pos rfl]
   ·rw [if_neg (by omega)];exact hv2 k (by omega)
  ·congr 1
   funext r'
   unfold updF
   simp only [cN]
   by_cases e:r'=ln i
   ·rw [if_pos e,if_pos e.symm,e];omega
   ·rw [if_neg e,if_neg (fun h=>e h.symm)];omega
 ·intro hc
  have hie:i=L:=by simp only at hc;omega
  subst hie
  exact hk w2 F2 HT2 hS2 (fun k hk=>⟨hv2 k hk,hl2 k hk⟩) Fr2
end
theorem zrep2 (a b:Value) (n i:Nat) (h:i<n):(zrep [a,b] n)[i*2]? = some a∧(zrep [a,b] n)[i*2+1]? = some b:=by
 constructor
 ·rw [Array.getElem?_eq_getElem (by rw [zrep_size];show i*2<n*2;omega)]
  simp [zrep]
 ·rw [Array.getElem?_eq_getElem (by rw [zrep_size];show i*2+1<n*2;omega)]
  simp [zrep,Nat.mul_add_mod]
section
variable {w:World} {g L:Nat} {s:HU}
def Ze (L:Nat) (F:Cells):Prop:=∀i,i<L→F (i*2)=some (.int .u16 0)∧F (i*2+1)=some (.int .u8 0)
theorem ct_table {R4:Unit→PT} (B:Blk w g s.at) (hsy:s.symL=(L:Nat)) (hL:L≤256) (hO:Own 2 w s.ct) (hg:g∉s.ct.bs)
  (hk:∀w' tb capt F',256≤capt→Blk w' g ({ s with ct:=⟨some ⟨tb,0,none⟩,L,capt⟩ } : HU).at→Blk w' tb F'→Som (capt*2) F'→Ze L F'→(tb∈s.ct.bs∨w.heap.size≤tb)→g≠tb→Fm w w' (g::s.ct.bs)→R4 () w') :
  q91_X24 ⟨g,0,none⟩ R4 w:=by
 have hsyAt:s.at 265=some (.int .u16 (L:Nat)):=by show some (Value.int .u16 s.symL)=_;rw [hsy]
 unfold q91_X24
 simp only [add_mk,Nat.zero_add]
 refine ld_b (t := .S) (x:=s.ct) B rfl (cnd_d ?_ ?_)
 ·intro hc
  refine ld_b (t := .I .u16) (x:=((L:Nat):Int)) B hsyAt ?_
  refine ⟨L,256,rfl,rfl,hL,by omega,?_⟩
  have F1:Fm w (w.alloc (.cells (zrep z140 256) 140)) []:=(Fm.refl w []).alloc
  have B1:Blk (w.alloc (.cells (zrep z140 256) 140)) w.heap.size fun i=>(zrep z140 256)[i]? := Blk.new
  generalize w.alloc (.cells (zrep z140 256) 140)=w1 at *
  have hgl:=B.lt
  have dg:g≠w.heap.size:=by omega
  refine st_u (B.fr F1 (by simp)) rfl rfl ?_
  intro w2 B2 F2
  refine hk w2 w.heap.size 256 _ (Nat.le_refl _) (B2.congr (HU.setT 15 rfl rfl rfl (by decide))) (B1.fr F2 (nm1 dg.symm)) (fun i hi=>zrep_some z140 256 i hi) ?_ (.inr (Nat.le_refl _)) dg ((F1.mono (by simp)).trans F2 (by intro v hv;simp at hv;simp [hv]))
  intro i hi
  exact zrep2 _ _ 256 i (by omega)
 ·intro hc
  unfold drw
  refine ld_b (t := .S) (x:=s.ct) B.drew rfl ?_
  refine ld_b (t := .I .u16) (x:=((L:Nat):Int)) B.drew hsyAt ?_
  refine slc_hi (m:=L) rfl (by omega) ?_
  refine st_u B.drew rfl rfl ?_
  intro w2 B2 F2
  have ha:s.ct.a.isSome:=by
   cases h:s.ct.a with
   | none=>have:=hO.2.1 h;omega
   | some a=>rfl
  obtain ⟨tb,F,hct,HT,hS,hlc⟩:=hO.out ha rfl
  have hbs:s.ct.bs = [tb]:=by rw [hct];rfl
  have htb:tb∈s.ct.bs:=by rw [hbs];simp
  have dg:g≠tb:=fun e=>hg (e▸htb)
  have hca:s.ct.a=some ⟨tb,0,none⟩:=by rw [hct]
  rw [hca] at B2
  have B2':=B2.congr (HU.setT (s' := { s with ct:=⟨some ⟨tb,0,none⟩,L,s.ct.c⟩ }) 15 rfl rfl rfl (by decide))
  generalize hs':({ s with ct:=⟨some ⟨tb,0,none⟩,L,s.ct.c⟩ } : HU)=s' at *
  have hs'ct:s'.at 271=some (Sl.val ⟨some ⟨tb,0,none⟩,L,s.ct.c⟩):=by rw [←hs'];rfl
  refine ld_b (t := .S) (x:=⟨some ⟨tb,0,none⟩,L,s.ct.c⟩) B2' hs'ct ?_
  have hcap:256≤s.ct.c:=by omega
  have Fr0:Fm w w2 (g::s.ct.bs):=(Fm.refl w (g::s.ct.bs)).drew.trans F2 (by intro v hv;simp at hv;simp [hv])
  refine ⟨fun x w'=>∃(i:Nat) (F':Cells),x=(i:Int)∧i≤L∧Blk w' tb F'∧Som (s.ct.c*2) F'∧Ze i F'∧Fm w2 w' [tb],fun x _=>300-x.toNat,⟨0,F,rfl,Nat.zero_le _,(HT.drew).fr F2 (nm1 dg.symm),hS,fun i hi=>absurd hi (Nat.not_lt_zero _),Fm.refl _ _⟩,?_⟩
  rintro x w3 ⟨i,F3,rfl,hi,HT3,hS3,hz3,Fr3⟩
  have B3:=B2'.fr Fr3 (nm1 dg)
  unfold q91_L0
  refine cnd_d ?_ ?_
  ·intro hc2
   have hi2:i<L:=by simp only at hc2;omega
   simp only [add_mk,Nat.zero_add]
   refine ld_b (t := .S) (x:=⟨some ⟨tb,0,none⟩,L,s.ct.c⟩) B3 hs'ct ?_
   refine ixS_2 rfl hi2 ?_
   show st _ _ (st _ _ _) _
   simp only [add_mk,Nat.add_zero,Nat.zero_add]
   refine st_u HT3 (hS3 _ (by omega)) rfl ?_
   intro w4 HT4 F4
   refine st_u HT4 (hS3.upd _ (by omega)) rfl ?_
   intro w5 HT5 F5
   rw [wI64 (by omega) (by omega)]
   refine ⟨⟨i+1,_,by simp,hi2,HT5,hS3.upd.upd,?_,(Fr3.trans F4 (fun x hx => .inl hx)).trans F5 (fun x hx => .inl hx)⟩,by omega⟩
   intro k hk2
   unfold updC
   by_cases e:k=i
   ·subst e
    refine ⟨?_,if_pos rfl⟩
    rw [if_neg (by omega),if_pos rfl]
   ·rw [if_neg (by omega),if_neg (by omega),if_neg (by omega),if_neg (by omega)]
    exact hz3 k (by omega)
  ·intro hc2
   have hie:i=L:=by simp only at hc2;omega
   subst hie
   refine hk w3 tb s.ct.c F3 hcap (hs'▸B3) HT3 hS3 hz3 (.inl htb) dg (Fr0.trans Fr3 ?_)
   intro v hv
   simp at hv
   subst hv
   exact .inl (by simp [htb])
end
theorem NW.of {w:World} {nb cap L:Nat} {F:Cells} {cnt:Nat→Nat} {l:List Nat} (HB:Blk w nb F) (hS:Som cap F) (hF:Nds F) (hl:∀i (h:i<l.length),F (1+i)=some (sn cnt l[i]).v) (hok:∀i (h:i<l.length),(sn cnt l[i]).ok) (hlen:l.length≤512) :
  ∃z nd,NW w nb cap z nd∧∀i (h:i<l.length),nd i=sn cnt l[i]:=by
 have h1:∀i:Nat,∃x:Nd,(i<512→F (1+i)=some x.v∧x.ok)∧∀h:i<l.length,x=sn cnt l[i]:=by
  intro i
  by_cases h:i<l.length
  ·exact ⟨sn cnt l[i],fun _=>⟨hl i h,hok i h⟩,fun _=>rfl⟩
  ·by_cases h2:i<512
   ·obtain ⟨x,h3,h4⟩:=hF (1+i) (by omega)
    exact ⟨x,fun _=>⟨h4,h3⟩,fun h'=>absurd h' h⟩
   ·exact ⟨⟨0,0,0,0⟩,fun h'=>absurd h' h2,fun h'=>absurd h' h⟩
 obtain ⟨nd,hnd⟩:=Classical.axiomOfChoice h1
 obtain ⟨z,hz1,hz2⟩:=hF 0 (by omega)
 exact ⟨z,nd,⟨F,HB,hS,hz2,hz1,fun i hi=>(hnd i).1 hi⟩,fun i h=>(hnd i).2 h⟩
theorem NW.nds {w:World} {nb cap:Nat} {z:Nd} {nd:Nat→Nd} (W:NW w nb cap z nd):∃F,Blk w nb F∧Som cap F∧Nds F:=by
 obtain ⟨F,h1,h2,h3,h4,h5⟩:=W
 refine ⟨F,h1,h2,?_⟩
 intro i hi
 by_cases e:i=0
 ·subst e;exact ⟨z,h4,h3⟩
 ·have:=h5 (i-1) (by omega)
  rw [show 1+(i-1)=i by omega] at this
  exact ⟨_,this.2,this.1⟩
theorem Ord.sum {cnt σ:Nat→Nat} {L N:Nat} (O:Ord cnt L N σ):sF (fun j=>cnt (σ j)) 0 N=sF cnt 0 L:=by
 have h:=lnS_sum (φ:=fun x=>x) (σ:=σ) (b:=fun j=>cnt (σ j)) (L:=L) rfl O.inj O.lt
 rw [←h]
 refine sF_congr (fun i _ hi => ?_)
 by_cases h0:0<cnt i
 ·obtain ⟨j,hj,rfl⟩:=O.onto i (by omega) h0
  exact lnS_at O.inj hj
 ·rw [lnS_out (fun j hj e=>by have:=O.pos j hj;rw [e] at this;omega)];omega
theorem Ord.len {cnt σ:Nat→Nat} {L N:Nat} (O:Ord cnt L N σ):N≤sF cnt 0 L:=by
 rw [←O.sum]
 have h:∀n,n≤N→n≤sF (fun j=>cnt (σ j)) 0 n:=by
  intro n
  induction n with
  | zero=>intro _;exact Nat.zero_le _
  | succ n ih =>
   intro hn
   have h1:=ih (by omega)
   have h2:=O.pos n (by omega)
   rw [sF,Nat.zero_add];omega
 exact h N (Nat.le_refl _)
section
variable {w:World} {g nb cap L N H:Nat} {s:HU} {z:Nd} {nd:Nat→Nd} {K1:Value→PT}
theorem ct_end {tb capt:Nat} {cnt σ:Nat→Nat} {F:Cells} (B:Blk w g s.at) (hsy:s.symL=(L:Nat)) (hL:L≤256) (hat:s.atl=(H:Nat)) (hnod:s.nodes=⟨some ⟨nb,0,none⟩,513,cap⟩) (hcap:513≤cap) (hct:s.ct=⟨some ⟨tb,0,none⟩,L,capt⟩)
  (W:NW w nb cap z nd) (P:DepH (nd (N-1)).b H N (fun i=>(nd i).b)) (O:Ord cnt L N σ) (hσ:∀i,i<N→(nd i).s=σ i) (HTb:Blk w tb F) (hF:Som (capt*2) F) (hLc:L≤capt) (hz:Ze L F) (dgn:g≠nb) (dgt:g≠tb) (dnt:nb≠tb)
  (hk:∀w' M ln F' z' nd',HT cnt L M ln→(∃b,MaxR H N (fun i=>(nd i).c) (fun i=>(nd i).b) M b∧ln=lnS σ b N)→Blk w' g ({ s with atl:=(M:Nat) } : HU).at→Blk w' tb F'→Som (capt*2) F'→(∀i,i<L→F' (i*2)=some (.int .u16 (vC ln L M i:Nat))∧F' (i*2+1)=some (.int .u8 (ln i:Nat)))→NW w' nb cap z' nd'→Fm w w' [g,nb,tb]→K1 .nilIface w') :
  q91_J18 ⟨g,0,none⟩ K1 ⟨some ⟨nb,1,none⟩,512,cap-1⟩ ((N-1:Nat):Int) () w:=by
 have hn1:=P.n1
 have hn2:=P.n2
 have h11:=P.h11
 unfold q91_J18
 rw [wI64 (x:=((N-1:Nat):Int)) (by omega) (by omega)]
 obtain ⟨F0,k1,k2,k3,k4,k5⟩:=W
 have hNF:NF F0 (NB nd (fun i=>(nd i).b) N):=k5.congr (fun i hi=>by unfold NB;split<;>rfl)
 refine c129 B (by show some (Value.int .u8 s.atl)=_;rw [hat]) (by show some s.nodes.val=_;rw [hnod]) hcap k1 hNF ⟨k2,z,k4,k3⟩ P dgn ?_
 intro w1 M b F1 hM hMR hD hkr hNF1 hS1 HN1 Fr1
 obtain ⟨hS1,z1,hz1,hz2⟩:=hS1
 have W1:NW w1 nb cap z1 (NB nd b N):=⟨F1,HN1,hS1,hz2,hz1,hNF1⟩
 have hb1:∀i,i<N→(NB nd b N i).b=b i:=fun i hi=>by rw [NB_in hi]
 have hs1:∀i,i<N→(NB nd b N i).s=σ i:=fun i hi=>by rw [NB_in hi];exact hσ i hi
 have hM1:1≤M:=Nat.le_trans (hD.one 0 hn1) (hD.le 0 hn1)
 have hHT:=HT.of O hM1 (by omega) hD hkr
 have B1:=B.fr Fr1 (nm1 dgn)
 have HT1:=HTb.fr Fr1 (nm1 dnt.symm)
 generalize NB nd b N=nd1 at *
 simp only [add_mk,Nat.zero_add]
 refine st_u B1 rfl rfl ?_
 intro w2 B2 F2
 have B2':=B2.congr (HU.setT (s' := { s with atl:=(M:Nat) }) 12 rfl rfl rfl (by decide))
 have W2:=W1.fr F2 (nm1 dgn.symm)
 have HT2:=HT1.fr F2 (nm1 dgt.symm)
 have Fr2:Fm w w2 [g,nb,tb]:=(Fr1.mono (by intro v hv;simp at hv;simp [hv])).trans F2 (by intro v hv;simp at hv;simp [hv])
 refine ld_b (t := .I .u8) (x:=((M:Nat):Int)) B2' rfl ?_
 refine cnd_d (fun hc=>absurd hc (by omega)) ?_
 intro _
 refine nw_n ?_
 intro w3 F3 hs3 HP3
 have hpr:=HP3.lt
 have gl:=B2'.lt
 have nl:=W2.lt
 have tl:=HT2.lt
 have e2:=Fr2.size
 have dgp:g≠w2.heap.size:=by omega
 have dnp:nb≠w2.heap.size:=by omega
 have dtp:tb≠w2.heap.size:=by omega
 have hwp:w.heap.size≤w2.heap.size:=e2
 generalize w2.heap.size=pb at *
 refine nw_n ?_
 intro w4 F4 hs4 HV4
 have dgv:g≠w3.heap.size:=by omega
 have dnv:nb≠w3.heap.size:=by omega
 have dtv:tb≠w3.heap.size:=by omega
 have dpv:pb≠w3.heap.size:=by omega
 have hwv:w.heap.size≤w3.heap.size:=by omega
 generalize w3.heap.size=vb at *
 have F24:Fm w2 w4 []:=F3.trans F4 (by simp)
 have B4:=B2'.fr F24 (by simp)
 have W4:=W2.fr F24 (by simp)
 have HT4:=HT2.fr F24 (by simp)
 have HP4:=HP3.fr F4 (by simp)
 have Fr4:Fm w w4 [g,nb,tb]:=Fr2.trans F24 (by simp)
 have eN:IntKind.u16.wrap (((N-1:Nat):Int)+1)=((N:Nat):Int):=by rw [wU16 (by omega) (by omega)];omega
 refine joinP_id ?_
 rw [eN]
 refine slc_hi (m:=N) rfl (by show N≤cap-1;omega) ?_
 refine ct_rank W4 HP4 hn2 (fun i hi=>by have:=hD.le i hi;rw [hb1 i hi];omega) dnp ?_
 intro w5 HP5 F5
 unfold q91_J17
 refine joinP_id ?_
 refine ct_vals HP5 (HV4.fr F5 (nm1 dpv.symm)) dpv (by omega) (fun r=>Nat.le_trans (cN_le _ r N) hn2) ?_
 intro w6 HV6 F6
 have F46:Fm w4 w6 [pb,vb]:=(F5.mono (by intro v hv;simp at hv;simp [hv])).trans F6 (by intro v hv;simp at hv;simp [hv])
 have B6:=B4.fr F46 (by simp;exact ⟨dgp,dgv⟩)
 have W6:=W4.fr F46 (by simp;exact ⟨dnp,dnv⟩)
 have HT6:=HT4.fr F46 (by simp;exact ⟨dtp,dtv⟩)
 have Fr6:Fm w w6 [g,nb,tb]:=Fr4.trans F46 (by intro v hv;simp only [List.mem_cons,List.not_mem_nil,or_false] at hv;rcases hv with rfl|rfl<;>exact .inr (by assumption))
 unfold q91_J16
 refine joinP_id ?_
 rw [eN]
 refine slc_hi (m:=N) rfl (by show N≤cap-1;omega) ?_
 refine ct_lens B6 W6 hct HT6 hF hLc hn2 hL hs1 O.lt (fun i hi=>(hz i hi).2) dgt dnt ?_
 intro w7 F7c HT7 hS7 hl7 he7 F7
 have eln:lnS σ (fun i=>(nd1 i).b) N=lnS σ b N:=by
  have:∀n,n≤N→lnS σ (fun i=>(nd1 i).b) n=lnS σ b n:=by
   intro n
   induction n with
   | zero=>intro _;rfl
   | succ n ih=>intro hn;rw [lnS,lnS,ih (by omega),hb1 n (by omega)]
  exact this N (Nat.le_refl _)
 rw [eln] at hl7
 have B7:=B6.fr F7 (nm1 dgt)
 have HV7:=HV6.fr F7 (nm1 dtv.symm)
 have Fr7:Fm w w7 [g,nb,tb]:=Fr6.trans F7 (by intro v hv;simp at hv;simp [hv])
 unfold q91_J15 drw
 simp only [add_mk,Nat.zero_add]
 refine ld_b (t := .S) (x:=⟨some ⟨tb,0,none⟩,L,capt⟩) B7.drew (by show some s.ct.val=_;rw [hct];rfl) ?_
 refine ld_b (t := .I .u16) (x:=((L:Nat):Int)) B7.drew (by show some (Value.int .u16 s.symL)=_;rw [hsy];rfl) ?_
 refine slc_hi (m:=L) rfl hLc ?_
 refine joinP_id ?_
 have hVe:∀r,vR (fun r=>cN (fun i=>(nd1 i).b) r N) M r=vR (fun r=>cN (lnS σ b N) r L) M r:=fun r=>vR_congr (fun r' h1 _=>by rw [cN_congr (g:=b) (fun i hi=>hb1 i hi)];exact nb_of (M:=M) O h1) r
 refine ct_codes (ln:=lnS σ b N) (V:=fun r=>vR (fun r=>cN (fun i=>(nd1 i).b) r N) M r) HT7.drew hS7 hLc hL hl7 (fun i hi=>⟨0,by rw [he7];exact (hz i hi).1⟩) HV7.drew (fun r=>vR_le (fun r'=>Nat.le_trans (cN_le _ _ _) hn2) r) (fun i hi=>Nat.le_trans (hHT.le i hi) (by omega)) dtv ?_
 intro w8 F8c HT8 hS8 hc8 F8
 unfold q91_J14
 have F78:Fm w7 w8 [tb,vb]:=(Fm.refl w7 _).drew.trans F8 (fun x hx => .inl hx)
 have W8:=(W6.fr F7 (nm1 dnt)).fr F78 (by simp;exact ⟨dnt,dnv⟩)
 refine hk w8 M (lnS σ b N) F8c z1 nd1 hHT ⟨b,hMR,rfl⟩ (B7.fr F78 (by simp;exact ⟨dgt,dgv⟩)) HT8 hS8 ?_ W8 (Fr7.trans F78 ?_)
 ·intro i hi
  refine ⟨?_,(hc8 i hi).2⟩
  rw [(hc8 i hi).1]
  unfold vC
  rw [←hVe]
 ·intro v hv
  simp only [List.mem_cons,List.not_mem_nil,or_false] at hv
  rcases hv with rfl|rfl
  ·left;simp
  ·right;assumption
theorem ct_rank0 {R23:Int→PT} {cnt:Nat→Nat} {l:List Nat} (W:NW w nb cap z nd) (S:Srt cnt L l) (hL:L≤256) (hnd:∀i (h:i<l.length),nd i=sn cnt l[i]) (two:∃a b,a≠b∧a<L∧b<L∧0<cnt a∧0<cnt b)
  (hk:∀N,2≤N→Ord cnt L N (fun j=>l.getD j 0)→R23 ((N-1:Nat):Int) w) :
  loopP (((L-1:Nat):Nat):Int) (q91_L1 ⟨some ⟨nb,1,none⟩,512,cap-1⟩ R23) w:=by
 have hlen:=S.len
 obtain ⟨a,b,hab,ha,hb,hca,hcb⟩:=two
 obtain ⟨i1,hi1,e1⟩:=List.mem_iff_getElem.mp ((S.mem a).mpr ha)
 obtain ⟨i2,hi2,e2⟩:=List.mem_iff_getElem.mp ((S.mem b).mpr hb)
 have hi12:i1≠i2:=by intro e;subst e;exact hab (e1.symm.trans e2)
 refine ⟨fun x w'=>w'=w∧∃N:Nat,x=((N-1:Nat):Int)∧1≤N∧N≤L∧∀j (h:j<l.length),N≤j→cnt l[j]=0,fun x _=>x.toNat,⟨rfl,L,rfl,by omega,Nat.le_refl _,fun j h1 h2=>by omega⟩,?_⟩
 rintro x w2 ⟨rfl,N,rfl,hN1,hNL,hz⟩
 unfold q91_L1
 refine ixS_o rfl (by omega) ?_
 refine n123 (i:=N-1) W (by omega) (by omega) ?_
 rw [hnd (N-1) (by omega)]
 have g1:i1<N:=by
  by_cases h:i1<N
  ·exact h
  ·have:=hz i1 hi1 (by omega);rw [e1] at this;omega
 have g2:i2<N:=by
  by_cases h:i2<N
  ·exact h
  ·have:=hz i2 hi2 (by omega);rw [e2] at this;omega
 have hN2:2≤N:=by omega
 refine cnd_d ?_ ?_
 ·intro hc
  have hc0:cnt (l[N-1]'(by omega))=0:=by
   have:(((sn cnt (l[N-1]'(by omega))).c:Nat):Int)=0:=hc
   exact Int.ofNat.inj this
  rw [wU16 (by omega) (by omega)]
  refine ⟨⟨rfl,N-1,by omega,by omega,by omega,?_⟩,by dsimp only;omega⟩
  intro j hj h1
  by_cases e:j=N-1
  ·subst e;exact hc0
  ·exact hz j hj (by omega)
 ·intro hc
  have hc0:0<cnt (l[N-1]'(by omega)):=by
   apply Nat.pos_of_ne_zero
   intro h
   apply hc
   show ((cnt (l[N-1]'(by omega)):Nat):Int)=0
   rw [h];rfl
  refine hk N hN2 (Ord.of S hNL ?_ hz)
  intro j hj h1
  by_cases e:j=N-1
  ·subst e;exact hc0
  ·have:=List.pairwise_iff_getElem.mp S.dec j (N-1) hj (by omega) (by omega)
   omega
end
def LenR (cnt:Nat→Nat) (L n t M:Nat) (ln:Nat→Nat):Prop :=
 ∃(l:List Nat) (N:Nat) (c p D b cn:Nat→Nat) (lo hi tot:Nat),Srt cnt L l∧Ord cnt L N (fun j=>l.getD j 0)∧TrR N L (fun j=>cnt (l.getD j 0)) c p (L+N-1) lo hi∧TreeP N L tot c p∧DepP N L p D∧(∀i,i<N→cn i=cnt (l.getD i 0))∧DepH (D (N-1)) (otl t n L) N D∧MaxR (otl t n L) N cn D M b∧ln=lnS (fun j=>l.getD j 0) b N
section
variable {w:World} {g nb cap L n t l0:Nat} {s:HU} {cnt:Nat→Nat} {Fn:Cells} {K:Value→PT}
theorem c91 (B:Blk w g s.at) (C:SC s cnt L) (hn:s.srcLen=(n:Nat)) (htl:s.tl=(t:Nat)) (ht:t≤11) (hn2:n<4294967296) (two:∃a b,a≠b∧a<L∧b<L∧0<cnt a∧0<cnt b) (hsum:sF cnt 0 L≤n) (h8:sF cnt 0 L<832040)
  (hnod:s.nodes=⟨some ⟨nb,0,none⟩,l0,cap⟩) (hcap:513≤cap) (HN:Blk w nb Fn) (hS:Som cap Fn) (hF:Nds Fn) (dgn:g≠nb) (hO:Own 2 w s.ct) (hg:g∉s.ct.bs) (hnb:nb∉s.ct.bs)
  (hk:∀w' M ln tb capt F' Fn',HT cnt L M ln→LenR cnt L n t M ln→256≤capt→Blk w' g ({ s with atl:=(M:Nat),ct:=⟨some ⟨tb,0,none⟩,L,capt⟩,nodes:=⟨some ⟨nb,0,none⟩,513,cap⟩ } : HU).at→Blk w' tb F'→Som (capt*2) F'→(∀i,i<L→F' (i*2)=some (.int .u16 (vC ln L M i:Nat))∧F' (i*2+1)=some (.int .u8 (ln i:Nat))) →
   Blk w' nb Fn'→Som cap Fn'→Nds Fn'→(tb∈s.ct.bs∨w.heap.size≤tb)→g≠tb→nb≠tb→Fm w w' (g::nb::s.ct.bs)→K .nilIface w') :
  callP Tryd.prog 91 #[.pointer (some ⟨g,0,none⟩)] [.c .V] K w:=by
 have hL:=C.l256
 apply q91_ok
 unfold q91
 have hL2:2≤L:=by
  obtain ⟨a,b,h1,h2,h3,_⟩:=two
  omega
 have hsumge:2≤sF cnt 0 L:=by
  obtain ⟨a,b,h1,h2,h3,h4,h5⟩:=two
  have h6:sF (updN cnt a 0) 0 L+cnt a=sF cnt 0 L+0:=sF_upd (fun x=>x) cnt a 0 L h2
  have h7:=sF_mem (updN cnt a 0) 0 (n:=L) (i:=b) (Nat.zero_le _) (by omega)
  rw [updN_ne (fun e=>h1 e.symm)] at h7
  omega
 refine c121 B hn C.sym htl ht (by omega) hn2 hL2 hL ?_
 intro w1 H h5 h11 hNH hot B1 F1
 have C1:SC ({ s with atl:=(H:Nat) } : HU) cnt L:=⟨C.sym,C.l1,C.l256,C.cn,C.lt⟩
 refine c122 C1 B1 hnod hcap (HN.fr F1 (nm1 dgn.symm)) hS hF dgn ?_
 intro w2 l Fn2 S hF2 hS2 hl2 HN2 B2 F2
 have Fr2:Fm w w2 [g,nb]:=(F1.mono (by intro v hv;simp at hv;simp [hv])).trans F2 (fun x hx => .inl hx)
 have hO2:Own 2 w2 s.ct:=hO.fm Fr2 (by intro x hx;simp;exact ⟨fun e=>hg (e▸hx),fun e=>hnb (e▸hx)⟩)
 have hlen:=S.len
 have hok:∀i (h:i<l.length),(sn cnt l[i]).ok:=by
  intro i h
  have h1:=(S.mem _).mp (List.getElem_mem h)
  have h2:=C.lt _ h1
  exact ⟨by show cnt _<2^32;omega,by show 0<2^16;omega,by show l[i]<2^8;omega,by show 0<2^8;omega⟩
 refine joinP_id ?_
 refine ct_table B2 C.sym hL hO2 hg ?_
 intro w3 tb capt F3 hc3 B3 HT3 hS3 hz3 htb dgt Fr3
 have hnl:=HN2.lt
 have dnt:nb≠tb:=by
  rcases htb with h|h
  ·exact fun e=>hnb (e▸h)
  ·omega
 have HN3:=HN2.fr Fr3 (by
  intro h
  rcases List.mem_cons.mp h with h|h
  ·exact dgn h.symm
  ·exact hnb h)
 have Fr03:Fm w w3 (g::nb::s.ct.bs):=(Fr2.mono (S':=g::nb::s.ct.bs) (by intro v hv;simp at hv;rcases hv with rfl|rfl<;>simp)).trans Fr3 (by
  intro v hv
  rcases List.mem_cons.mp hv with h|h
  ·left;simp [h]
  ·left;simp [h])
 have hsz:=Fr2.size
 have htb0:tb∈s.ct.bs∨w.heap.size≤tb:=by
  rcases htb with h|h
  ·exact .inl h
  ·exact .inr (by omega)
 obtain ⟨z,nd,W3,hnd⟩:=NW.of (L:=L) HN3 hS2 hF2 hl2 hok (by omega)
 unfold q91_J23
 simp only [add_mk,Nat.zero_add]
 refine ld_b (t := .I .u16) (x:=((L:Nat):Int)) B3 (by show some (Value.int .u16 s.symL)=_;rw [C.sym];rfl) ?_
 refine ld_b (t := .I .u16) (x:=((L:Nat):Int)) B3 (by show some (Value.int .u16 s.symL)=_;rw [C.sym];rfl) ?_
 refine ld_b (t := .S) (x:=⟨some ⟨nb,0,none⟩,513,cap⟩) B3 rfl ?_
 refine slc_lh (n:=1) (m:=513) rfl rfl (by omega) hcap ?_
 have e4:(⟨slA (some ⟨nb,0,none⟩) 1 cap 1,513-1,cap-1⟩:Sl)=⟨some ⟨nb,1,none⟩,512,cap-1⟩:=by
  unfold slA
  rw [if_neg (by omega)]
  simp [add_mk]
 simp only [e4]
 refine ld_b (t := .S) (x:=⟨some ⟨nb,0,none⟩,513,cap⟩) B3 rfl ?_
 refine slc_lh (n:=0) (m:=513) rfl rfl (by omega) hcap ?_
 have e5:(⟨slA (some ⟨nb,0,none⟩) 0 cap 1,513-0,cap-0⟩:Sl)=⟨some ⟨nb,0,none⟩,513,cap⟩:=by
  unfold slA
  rw [if_neg (by omega)]
  simp [add_mk]
 simp only [e5]
 refine joinP_id ?_
 rw [wU16 (x:=((L:Nat):Int)-1) (by omega) (by omega),show ((L:Nat):Int)-1=((L-1:Nat):Int) by omega]
 refine ct_rank0 W3 S hL hnd two ?_
 intro N hN2 O
 have hNL:=O.nl
 have hg0:∀j (h:j<l.length),l.getD j 0=l[j]:=fun j h=>by rw [List.getD_eq_getElem?_getD,List.getElem?_eq_getElem h];rfl
 have hos:=O.sum
 refine tree_start (c0:=fun j=>cnt (l.getD j 0)) (σ:=fun j=>l.getD j 0) W3 hL (by rw [hos];exact h8) hN2 hNL ?_ ?_ (fun i j h1 h2=>O.dec i j h1 h2) ?_
 ·intro i hi;rw [hnd i (by omega),hg0 i (by omega)];rfl
 ·intro i hi;rw [hnd i (by omega),hg0 i (by omega)];rfl
 intro w4 z4 nd4 W4 T4 F4
 refine tree_depth W4 hL T4 ?_
 intro w5 nd5 W5 T5 F5
 have Fr35:Fm w3 w5 [nb]:=F4.trans F5 (fun x hx => .inl hx)
 have hNn:=O.len
 have hN2H:N≤2^H:=by rcases hNH with h|h<;>omega
 have P:=T5.depH hL hN2H h5 h11 O.pos (by rw [hos];exact h8)
 refine ct_end (σ:=fun j=>l.getD j 0) (B3.fr Fr35 (nm1 dgn)) C.sym hL rfl rfl hcap rfl W5 P O T5.sy (HT3.fr Fr35 (nm1 dnt.symm)) hS3 (by omega) hz3 dgn dgt dnt ?_
 intro w6 M ln F6 z6 nd6 hHT ⟨b6,hMR,hln⟩ B6 HT6 hS6 hc6 W6 Fr6
 obtain ⟨Fn6,HN6,hSn6,hF6⟩:=W6.nds
 obtain ⟨c6,p6,⟨lo6,hi6,hTr6⟩,hT6,hE6,_,_⟩:=T5.ex
 refine hk w6 M ln tb capt F6 Fn6 hHT ⟨l,N,c6,p6,fun i=>(nd5 i).b,b6,fun i=>(nd5 i).c,lo6,hi6,_,S,O,hTr6,hT6,hE6,T5.cn,by rw [←hot];exact P,by rw [←hot];exact hMR,hln⟩ hc3 (B6.congr rfl) HT6 hS6 hc6 HN6 hSn6 hF6 htb0 dgt dnt ((Fr03.trans Fr35 (by intro v hv;simp at hv;simp [hv])).trans Fr6 ?_)
 intro v hv
 simp only [List.mem_cons,List.not_mem_nil,or_false] at hv
 rcases hv with rfl|rfl|rfl
 ·left;simp
 ·left;simp
 ·rcases htb0 with h|h
  ·left;simp [h]
  ·exact .inr h
end
def U8A (w:World) (s:Sl):Prop:=∀a,s.a=some a→∀i,i<s.c→∃x:Int,w.cell? ⟨a.block,i,none⟩=some (.int .u8 x)
structure VecU (w:World) (s:Sl) (l:List Nat):Prop where
 vec:Vec 1 w s (bytes .u8 l)
 u8:U8A w s
 c63:s.c<2^63
theorem bytes_len (k:IntKind) (l:List Nat):(bytes k l).length=l.length:=by unfold bytes;rw [List.length_map]
theorem VecU.len {w:World} {s:Sl} {l:List Nat} (h:VecU w s l):s.l=l.length:=by
 have:=h.vec.len
 rw [bytes_len] at this;omega
theorem VecU.lt {w:World} {s:Sl} {l:List Nat} (h:VecU w s l):∀b∈s.bs,b<w.heap.size:=h.vec.lt
theorem U8A.fr {w w':World} {s:Sl} {S:List Nat} (h:U8A w s) (F:Fm w w' S) (hS:∀b∈s.bs,b∉S):U8A w' s:=by
 intro a ha i hi
 obtain ⟨x,hx⟩:=h a ha i hi
 have hl:=World.block_lt_of_cell? _ _ hx
 exact ⟨x,by rw [←hx];exact cell?_of_heap (F.old a.block hl (hS _ (by unfold Sl.bs;rw [ha];simp))) _ _⟩
theorem VecU.fr {w w':World} {s:Sl} {l:List Nat} {S:List Nat} (h:VecU w s l) (F:Fm w w' S) (hS:∀b∈s.bs,b∉S):VecU w' s l:=⟨h.vec.fr F hS,h.u8.fr F hS,h.c63⟩
def Held (w:World) (a0:Option Addr) (pre:List Nat):Prop:=∀a,a0=some a→∀i (h:i<pre.length),w.cell? ⟨a.block,i,none⟩=some (.int .u8 (pre[i]:Nat))
theorem VecU.held {w:World} {s:Sl} {l:List Nat} (h:VecU w s l):Held w s.a l:=by
 intro a ha i hi
 obtain ⟨h1,h2,f,h3,h4,h5⟩:=h.vec.blk a ha
 rw [h3.cell,h4 i (by rw [bytes_len];exact hi)]
 unfold bytes
 rw [List.getElem?_map,List.getElem?_eq_getElem hi];rfl
theorem Held.pre {w:World} {a0:Option Addr} {l m:List Nat} (h:Held w a0 (l++m)):Held w a0 l:=by
 intro a ha i hi
 rw [h a ha i (by rw [List.length_append];omega),List.getElem_append_left hi]
theorem Held.fr {w w':World} {a0:Option Addr} {pre:List Nat} {S:List Nat} (h:Held w a0 pre) (F:Fm w w' S) (hS:∀a,a0=some a→a.block∉S):Held w' a0 pre:=by
 intro a ha i hi
 have h1:=h a ha i hi
 have h2:=World.block_lt_of_cell? _ _ h1
 rw [←h1]
 exact cell?_of_heap (F.old a.block h2 (hS a ha)) _ _
theorem Held.vec {w w':World} {a0:Option Addr} {pre l':List Nat} {S:List Nat} {s':Sl} (h:Held w a0 pre) (H':VecU w' s' (pre++l')) (F:Fm w w' S) (hS:∀a,a0=some a→a.block∈S→a.block∈s'.bs):Held w' a0 pre:=by
 intro a ha i hi
 have h1:=h a ha i hi
 have h2:=World.block_lt_of_cell? _ _ h1
 by_cases hm:a.block∈S
 ·have h3:=hS a ha hm
  unfold Sl.bs at h3
  split at h3
  ·rename_i b hb
   simp at h3
   rw [h3]
   exact H'.held.pre b hb i hi
  ·simp at h3
 ·rw [←h1]
  exact cell?_of_heap (F.old a.block h2 hm) _ _
theorem app_vuF {T:TypeId} {s x:Sl} {κ:Sl→PT} {w:World} {l xs:List Nat} (h:VecU w s l) (hx:Has 1 w x (bytes .u8 xs)) (hb:s.l+x.l≤2^46)
  (hk:∀s' w',VecU w' s' (l++xs)→Fm w w' s'.bs→Fm w w' s.bs→(∀b∈s'.bs,b∈s.bs∨w.heap.size≤b)→κ s' w'):app z5 T 1 s x κ w:=by
 have hxl:xs.length=x.l:=by have:=hx.len;rw [bytes_len] at this;omega
 have hll:=h.len
 refine ⟨by rw [Nat.mul_one];exact hb,?_,?_⟩
 ·intro hc
  refine ⟨bytes .u8 xs,hx.len,hx.get,hx.non,hx.one,?_⟩
  cases ha:s.a with
  | some a =>
   obtain ⟨h1,h2,f,h3,h4,h5⟩:=h.vec.blk a ha
   have hu:=h.u8 a ha
   obtain ⟨ab,ao,asp⟩:=a
   simp only at h1 h2 h3 hu
   subst h1 h2
   simp only [add_mk,Nat.zero_add]
   have e1:s.l*z5.length=s.l:=by show s.l*1=s.l;omega
   rw [e1]
   have hbl:=bytes_len .u8 xs
   refine ⟨?_,?_⟩
   ·intro i hi
    exact canSt_b h3 (h5 _ (by omega))
   ·have h6:=h3.setL (o:=s.l) (xs:=bytes .u8 xs) (fun i hi=>h5 _ (by omega))
    refine hk _ _ ⟨⟨?_,?_,?_,?_⟩,?_,h.c63⟩ ?_ ?_ ?_
    ·rw [bytes_len,List.length_append];simp only;omega
    ·exact hc
    ·intro h;cases h
    ·intro a ha'
     injection ha' with ha'
     subst ha'
     refine ⟨rfl,rfl,_,h6,?_,?_⟩
     ·intro i hi
      rw [bytes_len,List.length_append] at hi
      have e:bytes .u8 (l++xs)=bytes .u8 l++bytes .u8 xs:=by simp [bytes]
      have hl1:=bytes_len .u8 l
      unfold updL
      rw [e]
      by_cases hi2:s.l≤i
      ·rw [if_pos (by omega),List.getElem?_append_right (by omega),hl1,hll]
      ·rw [if_neg (by omega),h4 i (by omega),List.getElem?_append_left (by omega)]
     ·intro i hi
      unfold updL
      split
      ·rename_i hh
       rw [List.getElem?_eq_getElem (by omega)];rfl
      ·exact h5 i hi
    ·intro a ha' i hi
     injection ha' with ha'
     subst ha'
     show ∃x:Int,_
     rw [h6.cell]
     unfold updL
     split
     ·rename_i hh
      refine ⟨(xs[i-s.l]'(by omega):Nat),?_⟩
      unfold bytes
      rw [List.getElem?_map,List.getElem?_eq_getElem (by omega)]
      rfl
     ·obtain ⟨y,hy⟩:=hu i hi
      rw [h3.cell] at hy
      exact ⟨y,hy⟩
    ·exact (Fm.refl w _).setL (.inl (by simp [Sl.bs]))
    ·exact (Fm.refl w _).setL (.inl (by unfold Sl.bs;rw [ha];simp))
    ·intro b hb'
     left
     unfold Sl.bs at hb' ⊢
     rw [ha]
     exact hb'
  | none =>
   have h0:=h.vec.non ha
   have h01:=h.vec.cap
   have hx0:x.l=0:=by omega
   have hs0:s.l=0:=by omega
   have hxs:xs = []:=List.length_eq_zero_iff.mp (by omega)
   have hl:l = []:=List.length_eq_zero_iff.mp (by omega)
   subst hxs hl
   refine hk _ _ ⟨⟨?_,?_,?_,?_⟩,?_,h.c63⟩ (Fm.refl w _) (Fm.refl w _) ?_
   ·simp [hx0,hs0,bytes]
   ·exact hc
   ·intro _;exact h0
   ·intro a ha';cases ha'
   ·intro a ha';cases ha'
   ·intro b hb';unfold Sl.bs at hb';simp at hb'
 ·intro hc
  have e0:∀n:Nat,n*z5.length=n:=fun n=>by show n*1=n;omega
  refine ⟨bytes .u8 l,bytes .u8 xs,h.vec.len,?_,?_,hx.len,hx.get,hx.non,?_⟩
  ·intro b hb' i hi
   obtain ⟨h1,h2,f,h3,h4,h5⟩:=h.vec.blk b hb'
   obtain ⟨ab,ao,asp⟩:=b
   simp only at h1 h2 h3
   subst h1 h2
   rw [add_mk,Nat.zero_add,h3.cell,h4 i hi]
  ·intro ha
   have h0:=h.vec.non ha
   have h01:=h.vec.cap
   have:l = []:=List.length_eq_zero_iff.mp (by omega)
   subst this;rfl
  ·intro c hc1 hc2
   have hl1:=bytes_len .u8 l
   have hl2:=bytes_len .u8 xs
   have B:Blk (w.drew.alloc (.cells ((bytes .u8 l).toArray++(bytes .u8 xs).toArray++zrep z5 (c-(s.l+x.l))) T)) w.drew.heap.size fun i=>((bytes .u8 l).toArray++(bytes .u8 xs).toArray++zrep z5 (c-(s.l+x.l)))[i]? := Blk.new
   have hcell:∀i,i<c→∃y:Int,((bytes .u8 l).toArray++(bytes .u8 xs).toArray++zrep z5 (c-(s.l+x.l)))[i]? = some (.int .u8 y):=by
    intro i hi
    by_cases h1:i<s.l
    ·rw [Array.getElem?_append_left (by simp only [Array.size_append,List.size_toArray];omega),Array.getElem?_append_left (by simp only [List.size_toArray];omega)]
     refine ⟨(l[i]'(by omega):Nat),?_⟩
     unfold bytes
     rw [List.getElem?_toArray,List.getElem?_map,List.getElem?_eq_getElem (by omega)];rfl
    ·by_cases h2:i<s.l+x.l
     ·rw [Array.getElem?_append_left (by simp only [Array.size_append,List.size_toArray];omega),Array.getElem?_append_right (by simp only [List.size_toArray];omega)]
      refine ⟨(xs[i-s.l]'(by omega):Nat),?_⟩
      rw [List.getElem?_toArray,List.size_toArray,hl1]
      unfold bytes
      rw [List.getElem?_map, ←hll,List.getElem?_eq_getElem (by omega)];rfl
     ·rw [Array.getElem?_append_right (by simp only [Array.size_append,List.size_toArray];omega)]
      refine ⟨0,?_⟩
      show (zrep [.int .u8 0] (c-(s.l+x.l)))[_]? = _
      rw [zrep1,if_pos (by simp only [Array.size_append,List.size_toArray];omega)]
   refine hk _ _ ⟨⟨?_,hc1,?_,?_⟩,?_,hc2⟩ (Fm.refl w _).drew.alloc ?_ ?_
   ·rw [bytes_len,List.length_append];simp only;omega
   ·intro h;cases h
   ·intro a ha'
    injection ha' with ha'
    subst ha'
    refine ⟨rfl,rfl,_,B,?_,?_⟩
    ·intro i hi
     rw [bytes_len,List.length_append] at hi
     have e:bytes .u8 (l++xs)=bytes .u8 l++bytes .u8 xs:=by simp [bytes]
     rw [Array.getElem?_append_left (by simp only [Array.size_append,List.size_toArray];omega),e]
     rw [←Array.getElem?_toList];simp
    ·intro i hi
     simp only at hi
     obtain ⟨y,hy⟩:=hcell i (by omega)
     rw [hy];rfl
   ·intro a ha' i hi
    injection ha' with ha'
    subst ha'
    obtain ⟨y,hy⟩:=hcell i hi
    exact ⟨y,by rw [←hy];exact B.cell i⟩
   ·exact (Fm.refl w _).drew.alloc
   ·intro b hb'
    right
    unfold Sl.bs at hb'
    simp at hb'
    subst hb'
    exact Nat.le_refl _
theorem app_vu {T:TypeId} {s x:Sl} {κ:Sl→PT} {w:World} {l xs:List Nat} (h:VecU w s l) (hx:Has 1 w x (bytes .u8 xs)) (hb:s.l+x.l≤2^46)
  (hk:∀s' w',VecU w' s' (l++xs)→Fm w w' s.bs→(∀b∈s'.bs,b∈s.bs∨w.heap.size≤b)→κ s' w'):app z5 T 1 s x κ w :=
 app_vuF h hx hb (fun s' w' h1 _ h2 h3=>hk s' w' h1 h2 h3)
theorem app_1uF {T T':TypeId} {s:Sl} {κ:Sl→PT} {w:World} {l:List Nat} {v:Nat} (h:VecU w s l) (hb:s.l+1≤2^46)
  (hk:∀s' w',VecU w' s' (l ++ [v])→Fm w w' s'.bs→Fm w w' s.bs→(∀b∈s'.bs,b∈s.bs∨w.heap.size≤b)→κ s' w'):nw [.int .u8 (v:Nat)] T' (fun p=>app z5 T 1 s ⟨some p,1,1⟩ κ) w:=by
 have h0:Fm w (w.alloc (.cells ⟨[.int .u8 (v:Nat)]⟩ T')) []:=(Fm.refl w []).alloc
 refine app_vuF (xs := [v]) (h.fr h0 (by simp)) ⟨rfl,?_,(fun h=>by cases h),by simp [bytes,one]⟩ hb ?_
 ·intro b hb' i hi
  injection hb' with hb'
  subst hb'
  have hi:i=0:=by simpa [bytes] using hi
  subst hi
  simp [add_mk,bytes]
 ·intro s' w' h1 h1' h2 h3
  refine hk s' w' h1 ((h0.mono (S':=s'.bs) (by simp)).trans h1' (fun b hb => .inl hb)) ((h0.mono (S':=s.bs) (by simp)).trans h2 (fun b hb => .inl hb)) ?_
  intro b hb'
  rcases h3 b hb' with h4|h4
  ·exact .inl h4
  ·right;rw [World.size_alloc] at h4;omega
theorem app_1u {T T':TypeId} {s:Sl} {κ:Sl→PT} {w:World} {l:List Nat} {v:Nat} (h:VecU w s l) (hb:s.l+1≤2^46)
  (hk:∀s' w',VecU w' s' (l ++ [v])→Fm w w' s.bs→(∀b∈s'.bs,b∈s.bs∨w.heap.size≤b)→κ s' w'):nw [.int .u8 (v:Nat)] T' (fun p=>app z5 T 1 s ⟨some p,1,1⟩ κ) w:=by
 have h0:Fm w (w.alloc (.cells ⟨[.int .u8 (v:Nat)]⟩ T')) []:=(Fm.refl w []).alloc
 refine app_vu (xs := [v]) (h.fr h0 (by simp)) ⟨rfl,?_,(fun h=>by cases h),by simp [bytes,one]⟩ hb ?_
 ·intro b hb' i hi
  injection hb' with hb'
  subst hb'
  have hi:i=0:=by simpa [bytes] using hi
  subst hi
  simp [add_mk,bytes]
 ·intro s' w' h1 h2 h3
  refine hk s' w' h1 ((h0.mono (S':=s.bs) (by simp)).trans h2 (fun b hb => .inl hb)) ?_
  intro b hb'
  rcases h3 b hb' with h4|h4
  ·exact .inl h4
  ·right;rw [World.size_alloc] at h4;omega
def b2w (M r:Nat):Nat:=if r=0∨M<r then 0 else M+1-r
theorem b2w_le (M r:Nat):b2w M r≤M:=by unfold b2w;split<;>omega
def wtF (M:Nat) (ln:Nat→Nat) (n:Nat):Nat:=b2w M (ln n)
def wtL (M:Nat) (ln:Nat→Nat) (L:Nat):List Nat:=(List.range (L-1)).map (wtF M ln)
theorem cN_count (f:Nat→Nat) (s:Nat):∀n,cN f s n=((List.range n).map f).count s
 | 0=>rfl
 | n+1=>by
  rw [cN,cN_count f s n,List.range_succ,List.map_append,List.count_append]
  simp [List.count_cons,List.count_nil]
section
variable {w:World} {g fb pb tb L M:Nat} {s:HU} {fs:FS} {ln:Nat→Nat}
theorem wr_b2w {R11:Unit→PT} (HP:Blk w pb (arrC .u8 12 fun _=>0)) (hM:M≤11) (hk:∀w',Blk w' pb (arrC .u8 12 fun r=>((b2w M r:Nat):Int))→Fm w w' [pb]→R11 () w') :
  loopP (1:Int) (q65_L0 ⟨pb,0,none⟩ (M:Int) R11) w:=by
 refine ⟨fun x w'=>∃n:Nat,x=(n:Int)∧1≤n∧n≤M+1∧Blk w' pb (arrC .u8 12 fun r=>((if r<n then b2w M r else 0:Nat):Int))∧Fm w w' [pb],fun x _=>20-x.toNat,⟨1,rfl,by omega,by omega,HP.congr ?_,Fm.refl _ _⟩,?_⟩
 ·congr 1
  funext r
  split
  ·have:r=0:=by omega
   subst this;rfl
  ·rfl
 rintro x w2 ⟨n,rfl,h1,h2,HP2,Fr2⟩
 unfold q65_L0
 rw [wU8 (x:=(M:Int)+1) (by omega) (by omega)]
 refine cnd_d ?_ ?_
 ·intro hc
  refine ixA_o rfl (by omega) ?_
  rw [Nat.zero_add]
  refine st_u HP2 (by rw [arrC_get (by omega)];rfl) rfl ?_
  intro w3 HP3 F3
  rw [wU8 (by omega) (by omega),arrC_upd (by omega)] at HP3
  rw [wU8 (by omega) (by omega)]
  refine ⟨⟨n+1,by simp,by omega,by omega,HP3.congr ?_,Fr2.trans F3 (fun x hx => .inl hx)⟩,by dsimp only;omega⟩
  congr 1
  funext r
  unfold updF
  by_cases e:r=n
  ·subst e
   rw [if_pos rfl,if_pos (by omega)]
   unfold b2w
   rw [if_neg (by omega)];omega
  ·rw [if_neg e]
   show (((if r<n then b2w M r else 0):Nat):Int)=_
   by_cases e2:r<n
   ·rw [if_pos e2,if_pos (by omega)]
   ·rw [if_neg e2,if_neg (by omega)]
 ·intro hc
  have hn:n=M+1:=by omega
  subst hn
  refine hk w2 (HP2.congr ?_) Fr2
  congr 1
  funext r
  split
  ·rfl
  ·unfold b2w;rw [if_pos (.inr (by omega))]
theorem wr_clear {R20:Unit→PT} (HB:Blk w fb fs.at) (hk:∀w' c',(∀i,i<16→c' i=0)→Blk w' fb ({ fs with count:=c' } : FS).at→Fm w w' [fb]→R20 () w') :
  loopP (0:Int) (q65_L1 ⟨some ⟨fb,0,none⟩,256,256⟩ R20 ⟨some ⟨fb,0,none⟩,16,256⟩) w:=by
 refine ⟨fun x w'=>∃(n:Nat) (c':Nat→Int),x=(n:Int)∧n≤16∧(∀i,i<n→c' i=0)∧Blk w' fb ({ fs with count:=c' } : FS).at∧Fm w w' [fb],fun x _=>20-x.toNat,⟨0,fs.count,rfl,by omega,fun i hi=>absurd hi (Nat.not_lt_zero _),HB,Fm.refl _ _⟩,?_⟩
 rintro x w2 ⟨n,c2,rfl,h1,hc2,HB2,Fr2⟩
 unfold q65_L1
 refine cnd_d ?_ ?_
 ·intro hc
  have hn:n<16:=by simp only at hc;omega
  refine ixS_o rfl (by omega) ?_
  rw [Nat.zero_add]
  refine st_u HB2 (by rw [FS.count_at _ (by omega)];rfl) rfl ?_
  intro w3 HB3 F3
  rw [FS.setC (by omega)] at HB3
  rw [wI64 (by omega) (by omega)]
  refine ⟨⟨n+1,_,by simp,hn,?_,HB3,Fr2.trans F3 (fun x hx => .inl hx)⟩,by dsimp only;omega⟩
  intro i hi
  show updF c2 n 0 i=0
  unfold updF
  split
  ·rfl
  ·exact hc2 i (by omega)
 ·intro hc
  have hn:n=16:=by simp only at hc;omega
  subst hn
  exact hk w2 c2 hc2 HB2 Fr2
theorem wr_wts {R26:Unit→PT} {capt:Nat} {F:Cells} (HP:Blk w pb (arrC .u8 12 fun r=>((b2w M r:Nat):Int))) (B:Blk w g s.at) (HB:Blk w fb fs.at) (hz:∀i,i<16→fs.count i=0) (HT:Blk w tb F) (hF:∀i,i<L→F (i*2+1)=some (.int .u8 (ln i:Nat))) (hL2:2≤L) (hL:L≤256) (hM:M≤11) (hln:∀i,i<L→ln i≤M)
  (d1:g≠pb) (d2:g≠fb) (d3:g≠tb) (d4:pb≠fb) (d5:tb≠fb)
  (hk:∀(w':World) (c' hw':Nat→Int),(∀i,i<16→c' i=(cN (wtF M ln) i (L-1):Nat))→(∀n,n<L-1→hw' n=(wtF M ln n:Nat))→Blk w' fb ({ fs with count:=c' } : FS).at→Blk w' g ({ s with hw:=hw' } : HU).at→Fm w w' [g,fb]→R26 () w') :
  loopP (0:Int) (q65_L2 ⟨some ⟨tb,0,none⟩,L,capt⟩ ⟨pb,0,none⟩ (L:Int) ⟨some ⟨g,279,none⟩,256,256⟩ ⟨some ⟨fb,0,none⟩,256,256⟩ R26) w:=by
 refine ⟨fun x w'=>∃(n:Nat) (c' hw':Nat→Int),x=(n:Int)∧n≤L-1∧(∀i,i<16→c' i=(cN (wtF M ln) i n:Nat))∧(∀k,k<n→hw' k=(wtF M ln k:Nat))∧Blk w' fb ({ fs with count:=c' } : FS).at∧Blk w' g ({ s with hw:=hw' } : HU).at∧Fm w w' [g,fb],fun x _=>300-x.toNat,
  ⟨0,fs.count,s.hw,rfl,by omega,fun i hi=>by rw [hz i hi];rfl,fun k hk=>absurd hk (Nat.not_lt_zero _),HB,B,Fm.refl _ _⟩,?_⟩
 rintro x w2 ⟨n,c2,hw2,rfl,h1,hc2,hh2,HB2,B2,Fr2⟩
 unfold q65_L2
 rw [wU16 (x:=(L:Int)-1) (by omega) (by omega),wU8 (x:=(L:Int)-1) (by omega) (by omega)]
 refine cnd_d ?_ ?_
 ·intro hc
  have hn:n<L-1:=by omega
  have hl:=hln n (by omega)
  have hwle:wtF M ln n≤11:=Nat.le_trans (b2w_le _ _) hM
  have HT2:=HT.fr Fr2 (by simp;exact ⟨d3.symm,d5⟩)
  have HP2:=HP.fr Fr2 (by simp;exact ⟨d1.symm,d4⟩)
  have ea:andI .u8 ((wtF M ln n:Nat):Int) 15=((wtF M ln n:Nat):Int):=by
   have:=andI_nat (k := .u8) rfl (wtF M ln n) 15 (by simp only [IntKind.bits];omega) (by decide)
   rw [show (15:Int)=((15:Nat):Int) from rfl,this]
   congr 1
   have:=Nat.and_two_pow_sub_one_eq_mod (wtF M ln n) 4
   rw [show 2^4-1=15 from rfl] at this
   rw [this,Nat.mod_eq_of_lt (by omega)]
  refine ixS_2 rfl (by omega) ?_
  simp only [add_mk]
  refine ld_b (t := .I .u8) (x:=((ln n:Nat):Int)) HT2 (hF n (by omega)) ?_
  refine ixA_o rfl (by omega) ?_
  rw [Nat.zero_add]
  refine ld_b (t := .I .u8) (x:=((wtF M ln n:Nat):Int)) HP2 (arrC_get (by omega)) ?_
  rw [ea]
  refine ixS_o rfl (by omega) ?_
  refine st_u B2 (by rw [HU.hw_at _ (by omega)];rfl) rfl ?_
  intro w3 B3 F3
  rw [HU.setW (by omega)] at B3
  have HB3:=HB2.fr F3 (nm1 d2.symm)
  have hcn:=cN_le (wtF M ln) (wtF M ln n) n
  refine ixS_o rfl (by omega) ?_
  rw [Nat.zero_add]
  refine ld_b (t := .I .u32) (x:=((cN (wtF M ln) (wtF M ln n) n:Nat):Int)) HB3 (by rw [FS.count_at _ (by omega)];show some (Value.int .u32 (c2 _))=_;rw [hc2 _ (by omega)];rfl) ?_
  refine ixS_o rfl (by omega) ?_
  rw [Nat.zero_add]
  refine st_u HB3 (by rw [FS.count_at _ (by omega)];rfl) rfl ?_
  intro w4 HB4 F4
  rw [wU32 (by omega) (by omega),FS.setC (by omega)] at HB4
  rw [wU8 (by omega) (by omega)]
  refine ⟨⟨n+1,_,_,by simp,hn,?_,?_,HB4,B3.fr F4 (nm1 d2),(Fr2.trans F3 (by intro v hv;simp at hv;simp [hv])).trans F4 (by intro v hv;simp at hv;simp [hv])⟩,by omega⟩
  ·intro i hi
   show updF c2 (wtF M ln n) _ i=_
   unfold updF
   rw [cN]
   by_cases e:i=wtF M ln n
   ·subst e;rw [if_pos rfl,if_pos rfl];omega
   ·rw [if_neg e,if_neg (fun h=>e h.symm),hc2 i hi];omega
  ·intro k hk2
   show updF hw2 n _ k=_
   unfold updF
   by_cases e:k=n
   ·subst e;rw [if_pos rfl]
   ·rw [if_neg e];exact hh2 k (by omega)
 ·intro hc
  have hn:n=L-1:=by omega
  subst hn
  exact hk w2 c2 hw2 hc2 hh2 HB2 B2 Fr2
theorem wr_max {R39:Int×Int→PT} {c:Nat→Nat} (HB:Blk w fb fs.at) (hc:∀i,i<16→fs.count i=(c i:Nat)) (hlt:∀i,c i<4294967296) (hex:∃i,i<16∧c i≠0)
  (hk:∀m h,h<16→c h≠0→(∀i,i<16→h<i→c i=0)→(∀i,i<16→c i≤m)→(∃i,i<16∧c i=m)→R39 (((m:Nat):Int),((h:Nat):Int)) w) :
  loopP ((0:Int),(0:Int),(0:Int)) (q65_L4 R39 ⟨some ⟨fb,0,none⟩,16,256⟩) w:=by
 refine ⟨fun x w'=>w'=w∧∃(m h n:Nat),x=((m:Int),(h:Int),(n:Int))∧n≤16∧(∀i,i<n→c i≤m)∧(((∀i,i<n→c i=0)∧m=0)∨(h<n∧c h≠0∧(∀i,i<n→h<i→c i=0)∧∃i,i<n∧c i=m)),fun x _=>20-x.2.2.toNat,⟨rfl,0,0,0,rfl,by omega,fun i hi=>absurd hi (Nat.not_lt_zero _),.inl ⟨fun i hi=>absurd hi (Nat.not_lt_zero _),rfl⟩⟩,?_⟩
 rintro x w2 ⟨rfl,m,h,n,rfl,hn,hm,hh⟩
 unfold q65_L4
 simp only
 refine cnd_d ?_ ?_
 ·intro hcn
  have hn2:n<16:=by omega
  have hl:=hlt n
  unfold q65_J3
  refine joinP_id ?_
  simp only
  rw [wI64 (by omega) (by omega)]
  refine ixS_o rfl hn2 ?_
  rw [Nat.zero_add]
  refine ld_b (t := .I .u32) (x:=((c n:Nat):Int)) HB (by rw [FS.count_at _ (by omega),hc n hn2];rfl) ?_
  refine cnd_d ?_ ?_
  ·intro h0
   have h0':c n=0:=by omega
   refine ⟨⟨rfl,m,h,n+1,by simp,hn2,?_,?_⟩,by omega⟩
   ·intro i hi
    by_cases e:i=n
    ·subst e;omega
    ·exact hm i (by omega)
   ·rcases hh with ⟨h1,h2⟩|⟨h1,h2,h3,i,h4,h5⟩
    ·left
     refine ⟨fun i hi => ?_,h2⟩
     by_cases e:i=n
     ·subst e;exact h0'
     ·exact h1 i (by omega)
    ·right
     refine ⟨by omega,h2,fun i hi hi2 => ?_,i,by omega,h5⟩
     by_cases e:i=n
     ·subst e;exact h0'
     ·exact h3 i (by omega) hi2
  ·intro h0
   have h0':c n≠0:=by omega
   rw [wU8 (x:=(n:Int)) (by omega) (by omega)]
   refine cnd_d ?_ ?_
   ·intro h1
    refine ⟨⟨rfl,c n,n,n+1,by simp,hn2,?_,.inr ⟨by omega,h0',fun i hi hi2=>by omega,n,by omega,rfl⟩⟩,by omega⟩
    intro i hi
    by_cases e:i=n
    ·subst e;omega
    ·have:=hm i (by omega);omega
   ·intro h1
    refine ⟨⟨rfl,m,n,n+1,by simp,hn2,?_,.inr ⟨by omega,h0',fun i hi hi2=>by omega,?_⟩⟩,by omega⟩
    ·intro i hi
     by_cases e:i=n
     ·subst e;omega
     ·exact hm i (by omega)
    ·rcases hh with ⟨h2,h3⟩|⟨_,_,_,i,h4,h5⟩
     ·omega
     ·exact ⟨i,by omega,h5⟩
 ·intro hcn
  have hn2:n=16:=by omega
  subst hn2
  rcases hh with ⟨h1,h2⟩|⟨h1,h2,h3,h4⟩
  ·obtain ⟨i,hi,hi2⟩:=hex
   exact absurd (h1 i hi) hi2
  ·exact hk m h h1 h2 h3 hm h4
end
def padW (W:Nat→Nat) (L n:Nat):Nat:=if n<L-1 then W n else 0
def rawB (W:Nat→Nat) (L j:Nat):Nat:=16*padW W L (2*j)+padW W L (2*j+1)
def rawT (W:Nat→Nat) (L:Nat):List Nat:=(126+L)::(List.range (L/2)).map (rawB W L)
theorem rawT_ok {W:Nat→Nat} {L:Nat} (h2:2≤L) (hW:∀n,W n≤15):weightsZ (rawT W L)=some ((List.range (L-1)).map W,(rawT W L).length):=by
 have hlen:(rawT W L).length=1+L/2:=by unfold rawT;simp;omega
 unfold weightsZ
 show (if 128≤126+L then if (rawT W L).length<1+(126+L-127+1)/2 then none else some ((List.range (126+L-127)).map (rawZ (rawT W L)),1+(126+L-127+1)/2) else _)=_
 rw [if_pos (by omega),hlen,if_neg (by omega),show 126+L-127=L-1 by omega,show (L-1+1)/2=L/2 by congr 1;omega]
 congr 2
 apply List.map_congr_left
 intro i hi
 have hi2:=List.mem_range.mp hi
 have hg:(rawT W L).getD (1+i/2) 0=rawB W L (i/2):=by
  unfold rawT
  rw [show 1+i/2=i/2+1 by omega,List.getD_cons_succ,List.getD_eq_getElem?_getD,List.getElem?_eq_getElem (by simp;omega)]
  simp
 unfold rawZ
 rw [hg]
 unfold rawB padW
 have h1:=hW (2*(i/2))
 have h3:=hW (2*(i/2)+1)
 split
 ·have e:2*(i/2)=i:=by omega
  rw [e,if_pos hi2]
  rw [e] at h1 h3
  split<;>omega
 ·have e:2*(i/2)+1=i:=by omega
  rw [e,if_pos hi2]
  rw [e] at h3
  split<;>omega
theorem rawB_lt {W:Nat→Nat} {L j:Nat} (hW:∀n,W n≤15):rawB W L j<256:=by
 have h1:=hW (2*j)
 have h2:=hW (2*j+1)
 unfold rawB padW
 split<;>split<;>omega
theorem rawT_by {W:Nat→Nat} {L:Nat} (hW:∀n,W n≤15) (hL:L≤129):By (rawT W L):=by
 intro x hx
 unfold rawT at hx
 rcases List.mem_cons.mp hx with h|h
 ·omega
 ·obtain ⟨j,_,rfl⟩:=List.mem_map.mp h
  exact rawB_lt hW
theorem or_nib {a b:Nat} (ha:a≤15) (hb:b≤15):orI .u8 (shlI .u8 ((a:Nat):Int) 4) ((b:Nat):Int)=((16*a+b:Nat):Int):=by
 rw [show (4:Int)=((4:Nat):Int) from rfl,shlI_u rfl a 4 (by decide),orI_nat rfl _ _ (by simp only [IntKind.bits];omega) (by simp only [IntKind.bits];omega)]
 have e:a*2^4%2^IntKind.bits .u8=2^4*a:=by simp only [IntKind.bits];omega
 have:=Nat.two_pow_add_eq_or_of_lt (i:=4) (b:=b) (by omega) a
 rw [e, ←this]
theorem or_128 {b:Nat} (hb:b<128):orI .u8 128 ((b:Nat):Int)=((128+b:Nat):Int):=by
 have h:=orI_nat (k := .u8) rfl 128 b (by decide) (by simp only [IntKind.bits];omega)
 have:=Nat.two_pow_add_eq_or_of_lt (i:=7) (b:=b) (by omega) 1
 rw [show (128:Int)=((128:Nat):Int) from rfl,h,show (128:Nat)=2^7*1 from rfl, ←this]
section
variable {w:World} {g L:Nat} {s:HU} {W:Nat→Nat} {pre:List Nat} {K:Value→PT}
theorem wr_raw (B:Blk w g s.at) (HO:VecU w s.out pre) (hpre:pre.length≤1000000000) (hg:g∉s.out.bs) (h2:2≤L) (hL:L≤256) (hh:∀n,n<L-1→s.hw n=(W n:Nat)) (hW:∀n,W n≤15) (E:errAt w 0)
  (hk0:129<L→∀v,EG w v→w.cell? ⟨0,0,none⟩=some v→K v w)
  (hk1:∀w' o hw',L≤129→VecU w' o (pre++rawT W L)→Blk w' g ({ s with out:=o,hw:=hw' } : HU).at→(∀v∈o.bs,v∈s.out.bs∨w.heap.size≤v)→g∉o.bs→Fm w w' (g::s.out.bs)→K .nilIface w') :
  q65_J8 (some ⟨g,0,none⟩) K (L:Int) ⟨some ⟨g,279,none⟩,256,256⟩ () w:=by
 have hgl:=B.lt
 have hol:s.out.l=pre.length:=HO.len
 unfold q65_J8
 rw [wU16 (x:=(L:Int)-1) (by omega) (by omega),wU8 (x:=(L:Int)-1) (by omega) (by omega)]
 refine cnd_d ?_ ?_
 ·intro hc
  obtain ⟨v,e1,e2,e3⟩:=E
  exact ⟨v,e1,hk0 (by omega) v ⟨⟨0,by decide,e1⟩,e2⟩ e1⟩
 ·intro hc
  refine ⟨_,rfl,?_⟩
  simp only [add_mk,Nat.zero_add]
  refine ld_b (t := .S) (x:=s.out) B rfl ?_
  rw [wU8 (by omega) (by omega),show (L:Int)-1-1=((L-2:Nat):Int) by omega,or_128 (by omega),show 128+(L-2)=126+L by omega]
  refine app_1u HO (by omega) ?_
  intro s1 w1 HO1 F1 hb1
  have B1:=B.fr F1 hg
  have hg1:g∉s1.bs:=fun h=>by
   rcases hb1 g h with h|h
   ·exact hg h
   ·omega
  rw [show (L:Int)-1=((L-1:Nat):Int) by omega]
  refine ixS_o rfl (by omega) ?_
  refine st_u B1 (by rw [HU.hw_at _ (by omega)];rfl) rfl ?_
  intro w2 B2 F2
  rw [HU.setW (by omega)] at B2
  have HO2:=HO1.fr F2 (by intro b hb;simp;exact fun e=>hg1 (e▸hb))
  have Fr2:Fm w w2 (g::s.out.bs):=(F1.mono (by intro v hv;left;simp [hv])).trans F2 (by intro v hv;simp at hv;simp [hv])
  have hhw:∀n,n<256→n<L→updF s.hw (L-1) 0 n=(padW W L n:Nat):=by
   intro n hn hn2
   unfold updF padW
   by_cases e:n=L-1
   ·rw [if_pos e,if_neg (by omega)];rfl
   ·rw [if_neg e,if_pos (by omega)];exact hh n (by omega)
  have hpw:∀n,padW W L n≤15:=by
   intro n
   unfold padW
   split
   ·exact hW n
   ·omega
  have hpz:padW W L L=0:=by unfold padW;rw [if_neg (by omega)]
  generalize updF s.hw (L-1) 0=hw2 at *
  refine joinP_id ?_
  refine ⟨fun x w'=>∃j:Nat,x.2=((2*j:Nat):Int)∧j≤L/2∧VecU w' x.1 (pre ++ [126+L]++(List.range j).map (rawB W L))∧Blk w' g ({ s with hw:=hw2 } : HU).at∧(∀v∈x.1.bs,v∈s.out.bs∨w.heap.size≤v)∧Fm w w' (g::s.out.bs),fun x _=>300-x.2.toNat,
   ⟨0,rfl,Nat.zero_le _,by simpa using HO2,B2,hb1,Fr2⟩,?_⟩
  rintro ⟨xs,xn⟩ w3 ⟨j,hxn,hj,HO3,B3,hb3,Fr3⟩
  simp only at hxn HO3 hb3
  subst hxn
  have hg3:g∉xs.bs:=fun h=>by
   rcases hb3 g h with h|h
   ·exact hg h
   ·omega
  have hxl:xs.l=pre.length+1+j:=by
   have:=HO3.len
   simp at this;omega
  unfold q65_L6
  simp only
  rw [wU16 (x:=(L:Int)-1) (by omega) (by omega),wU8 (x:=(L:Int)-1) (by omega) (by omega),wU16 (x:=(L:Int)-1) (by omega) (by omega)]
  refine cnd_d ?_ ?_
  ·intro hc2
   unfold drw
   refine ixS_o rfl (by omega) ?_
   refine ld_b (t := .I .u8) (x:=((padW W L (2*j):Nat):Int)) B3.drew (by rw [HU.hw_at _ (by omega)];show some (Value.int .u8 (hw2 _))=_;rw [hhw _ (by omega) (by omega)];rfl) ?_
   refine ⟨by decide,?_⟩
   rw [wU16 (x:=((2*j:Nat):Int)+1) (by omega) (by omega),wU16 (x:=((2*j:Nat):Int)+2) (by omega) (by omega),show ((2*j:Nat):Int)+1=((2*j+1:Nat):Int) by omega]
   refine ixS_o rfl (by omega) ?_
   refine ld_b (t := .I .u8) (x:=((padW W L (2*j+1):Nat):Int)) B3.drew (by rw [HU.hw_at _ (by omega)];show some (Value.int .u8 (hw2 _))=_;rw [hhw _ (by omega) (by omega)];rfl) ?_
   rw [or_nib (hpw _) (hpw _)]
   refine app_1u (HO3.fr (Fm.refl w3 []).drew (by simp)) (by omega) ?_
   intro s4 w4 HO4 F4 hb4
   have F34:Fm w3 w4 xs.bs:=(Fm.refl w3 xs.bs).drew.trans F4 (fun x hx => .inl hx)
   have hsz:=Fr3.size
   refine ⟨⟨j+1,by omega,by omega,?_,B3.fr F34 hg3,?_,Fr3.trans F34 ?_⟩,by omega⟩
   ·rw [show (16*padW W L (2*j)+padW W L (2*j+1):Nat)=rawB W L j from rfl,List.append_assoc (pre ++ [126+L])] at HO4
    rw [List.range_succ,List.map_append]
    exact HO4
   ·intro v hv
    rcases hb4 v hv with h|h
    ·exact hb3 v h
    ·have:w3.drew.heap.size=w3.heap.size:=rfl
     right;omega
   ·intro v hv
    rcases hb3 v hv with h|h
    ·left;simp [h]
    ·exact .inr h
  ·intro hc2
   have hje:j=L/2:=by omega
   subst hje
   unfold q65_J7
   refine ⟨_,rfl,?_⟩
   simp only [add_mk,Nat.zero_add]
   refine st_u B3 rfl rfl ?_
   intro w4 B4 F4
   have B4':=B4.congr (HU.setT (s' := { s with hw:=hw2,out:=xs }) 0 rfl rfl rfl (by decide))
   refine hk1 w4 xs hw2 (by omega) ?_ B4' hb3 hg3 (Fr3.trans F4 (by intro v hv;simp at hv;simp [hv]))
   have:=HO3.fr F4 (by intro b hb;simp;exact fun e=>hg3 (e▸hb))
   rw [List.append_assoc] at this
   exact this
end
theorem SW.fr {w w':World} {b:Nat} {s:FS} {S:List Nat} (W:SW w b s) (F:Fm w w' S) (hS:∀v∈SB b s,v∉S):SW w' b s :=
 ⟨W.blk.fr F (hS b (mem_SB.mpr (.inl rfl))),W.o.fm F (fun v hv=>hS v (mem_SB.mpr (.inr (.inl hv)))),W.x.fm F (fun v hv=>hS v (mem_SB.mpr (.inr (.inr (.inl hv))))),W.y.fm F (fun v hv=>hS v (mem_SB.mpr (.inr (.inr (.inr (.inl hv)))))),W.z.fm F (fun v hv=>hS v (mem_SB.mpr (.inr (.inr (.inr (.inr hv)))))),W.bo,W.bx,W.bY,W.bz,W.ox,W.oy,W.oz,W.xy,W.xz,W.yz⟩
theorem fseT_ok {ol ws:List Nat} (h:FseOK ol ws) (hl:ol.length<128):weightsZ (ol.length::ol)=some (ws,(ol.length::ol).length):=by
 obtain ⟨cs,t,rest,tab,h1,h2,h3,h4⟩:=h
 unfold weightsZ
 simp only
 rw [if_neg (by omega),if_neg (by simp;omega),List.take_length,h1]
 simp only
 rw [if_neg (by omega),h3]
 simp only
 rw [h4]
 simp only [List.length_cons]
 rw [Nat.add_comm]
section
variable {w:World} {g fb tb capt L M:Nat} {s:HU} {fs:FS} {ln:Nat→Nat} {pre:List Nat} {F:Cells} {K:Value→PT}
structure WT (w w':World) (g fb:Nat) (s:HU) (fs fs':FS) (o:Sl):Prop where
 sw:SW w' fb fs'
 ext:∀v∈SB fb fs',v∈SB fb fs∨w.heap.size≤v
 fr:Fm w w' (g::(s.out.bs++SB fb fs))
 new:∀v∈o.bs,v∈s.out.bs∨w.heap.size≤v
 go:g∉o.bs
 dis:∀v∈o.bs,v∉SB fb fs'
theorem c82 {K:Sl→PT} (hk:K ⟨some ⟨fb,0,none⟩,256,256⟩ w):callP Tryd.prog 82 #[.pointer (some ⟨fb,0,none⟩)] [.c .S] K w:=by
 apply q82_ok
 unfold q82
 exact slcA_all (by omega) hk
theorem c83 {K:Unit→PT} {h m:Nat} (HB:Blk w fb fs.at) (hh:h<256) (hk:∀w',Blk w' fb ({ fs with maxC:=(m:Nat),symL:=(h+1:Nat),cc := !decide (((m:Nat):Int)=0) } : FS).at→Fm w w' [fb]→K () w') :
  callP Tryd.prog 83 #[.pointer (some ⟨fb,0,none⟩),.int .u8 (h:Nat),.int .i64 (m:Nat)] [] K w:=by
 apply q83_ok
 unfold q83
 simp only [add_mk,Nat.zero_add]
 refine st_u HB rfl rfl ?_
 intro w1 HB1 F1
 have HB1':=HB1.congr (FS.setT (s' := { fs with maxC:=(m:Nat) }) 13 rfl rfl rfl (by decide))
 refine st_u HB1' rfl rfl ?_
 intro w2 HB2 F2
 rw [wU16 (x:=(h:Int)) (by omega) (by omega),wU16 (x:=(h:Int)+1) (by omega) (by omega)] at HB2
 have HB2':=HB2.congr (FS.setT (s' := { fs with maxC:=(m:Nat),symL:=(h+1:Nat) }) 16 rfl rfl (by
  have:((h:Nat):Int)+1=((h+1:Nat):Int):=by omega
  rw [this];rfl) (by decide))
 refine st_u HB2' rfl rfl ?_
 intro w3 HB3 F3
 exact hk w3 (HB3.congr (FS.setT (s' := { fs with maxC:=(m:Nat),symL:=(h+1:Nat),cc := !decide (((m:Nat):Int)=0) }) 19 rfl rfl rfl (by decide))) ((F1.trans F2 (fun x hx => .inl hx)).trans F3 (fun x hx => .inl hx))
def WMx (ws:List Nat) (m h:Nat):Prop:=h<16∧ws.count h≠0∧(∀i,i<16→h<i→ws.count i=0)∧(∀i,i<16→ws.count i≤m)∧∃i,i<16∧ws.count i=m
def FsOut (ws:List Nat) (k:Nat):Prop:=∃m h,WMx ws m h∧FGood m (h+1) ws k
def FsBad (ws:List Nat):Prop:=∃m h,WMx ws m h∧FBad m (h+1) ws
def TPl (ws:List Nat) (L:Nat):Prop:=L<3∨FsBad ws∨∃k,FsOut ws k∧L/2≤k
def TL (ws:List Nat) (L n:Nat):Prop:=(∃k,3≤L∧FsOut ws k∧k<L/2∧n=k+1)∨(TPl ws L∧L≤129∧n=1+L/2)
def TBad (ws:List Nat) (L:Nat):Prop:=TPl ws L∧129<L
theorem c65 (B:Blk w g s.at) (hsy:s.symL=(L:Nat)) (h2:2≤L) (hL:L≤256) (hat:s.atl=(M:Nat)) (hM1:1≤M) (hM:M≤11) (hfse:s.fse=some ⟨fb,0,none⟩) (SWf:SW w fb fs) (G:GL w) (E:errAt w 0) (h9:∀v∈SB fb fs,9≤v) (g9:9≤g)
  (HO:VecU w s.out pre) (o9:∀v∈s.out.bs,9≤v) (hpre:pre.length≤1000000) (HT:Blk w tb F) (hF:∀i,i<L→F (i*2+1)=some (.int .u8 (ln i:Nat))) (hln:∀i,i<L→ln i≤M)
  (dgo:g∉s.out.bs) (dgf:g∉SB fb fs) (dof:∀v∈s.out.bs,v∉SB fb fs) (dgt:g≠tb) (dto:tb∉s.out.bs) (dtf:tb∉SB fb fs)
  (hk0:TBad (wtL M ln L) L→∀w' fs' hw' v,EG w' v→w'.cell? ⟨0,0,none⟩=some v→Blk w' g ({ s with hw:=hw' } : HU).at→VecU w' s.out pre→WT w w' g fb s fs fs' s.out→K v w')
  (hk1:∀w' fs' hw' o tbl,TL (wtL M ln L) L tbl.length→By tbl→tbl.length≤129→weightsZ tbl=some (wtL M ln L,tbl.length)→VecU w' o (pre++tbl)→Blk w' g ({ s with hw:=hw',out:=o } : HU).at→WT w w' g fb s fs fs' o→K .nilIface w') :
  callP Tryd.prog 65 #[.slice (some ⟨tb,0,none⟩) L capt,.pointer (some ⟨g,0,none⟩)] [.c .V] K w:=by
 have hgl:=B.lt
 have htl:=HT.lt
 have fbm:fb∈SB fb fs:=mem_SB.mpr (.inl rfl)
 have dgfb:g≠fb:=fun e=>dgf (e▸fbm)
 have dtfb:tb≠fb:=fun e=>dtf (e▸fbm)
 have hfl:=SWf.lt fb fbm
 have hol:s.out.l=pre.length:=HO.len
 have hatc:s.at 268=some (.int .u8 (M:Nat)):=by show some (Value.int .u8 s.atl)=_;rw [hat]
 have hsyc:s.at 265=some (.int .u16 (L:Nat)):=by show some (Value.int .u16 s.symL)=_;rw [hsy]
 have hW11:∀n,wtF M ln n≤11:=fun n=>Nat.le_trans (b2w_le _ _) hM
 apply q65_ok (s0:=⟨some ⟨tb,0,none⟩,L,capt⟩)
 unfold q65
 refine nw_n ?_
 intro w1 F1 hs1 HP1
 have dgp:g≠w.heap.size:=by omega
 have dfp:w.heap.size≠fb:=by omega
 have hwp:w.heap.size≤w.heap.size:=Nat.le_refl _
 generalize hpb:w.heap.size=pb at *
 have B1:=B.fr F1 (by simp)
 refine ⟨_,rfl,?_⟩
 simp only [add_mk,Nat.zero_add]
 refine ld_b (t := .I .u8) (x:=((M:Nat):Int)) B1 hatc ?_
 refine ⟨_,rfl,?_⟩
 simp only [add_mk,Nat.zero_add]
 refine ld_b (t := .I .u16) (x:=((L:Nat):Int)) B1 hsyc ?_
 refine ⟨_,rfl,?_⟩
 simp only [add_mk,Nat.zero_add]
 refine slcA_hi (n:=256) rfl (Nat.le_refl _) (by omega) ?_
 refine ixA_o (k:=0) rfl (by omega) ?_
 refine st_u HP1 (by rw [arrC_get (by omega)];rfl) rfl ?_
 intro w2 HP2 F2
 rw [arrC_upd (by omega)] at HP2
 have HP2':Blk w2 pb (arrC .u8 12 fun _=>0):=HP2.congr (by
  congr 1
  funext i
  unfold updF
  split<;>rfl)
 refine joinP_id ?_
 refine wr_b2w HP2' hM ?_
 intro w3 HP3 F3
 have F13:Fm w w3 []:=by
  refine Fm.trans (F1.trans F2 ?_) F3 ?_
  ·intro v hv;right;simp at hv;omega
  ·intro v hv;right;simp at hv;omega
 have B3:=B.fr F13 (by simp)
 have SW3:=SWf.fm F13
 have HT3:=HT.fr F13 (by simp)
 unfold q65_J11
 refine ⟨_,rfl,?_⟩
 simp only [add_mk,Nat.zero_add]
 refine ld_b (t := .P) (x:=some ⟨fb,0,none⟩) B3 (by show some (Value.pointer s.fse)=_;rw [hfse];rfl) ?_
 refine c82 ?_
 refine slc_hi (m:=256) rfl (Nat.le_refl _) ?_
 refine joinP_id ?_
 refine slc_hi (m:=16) rfl (by show 16≤256;omega) ?_
 refine wr_clear SW3.sw.blk ?_
 intro w4 c4 hz4 HB4 F4
 unfold q65_J10
 refine joinP_id ?_
 refine wr_wts (fs := { fs with count:=c4 }) (s:=s) (HP3.fr F4 (nm1 dfp)) (B3.fr F4 (nm1 dgfb)) HB4 hz4 (HT3.fr F4 (nm1 dtfb)) hF h2 hL hM hln dgp dgfb dgt dfp dtfb ?_
 intro w5 c5 hw5 hc5 hh5 HB5 B5 F5
 have Fr5:Fm w3 w5 [g,fb]:=(F4.mono (by intro v hv;simp at hv;simp [hv])).trans F5 (fun x hx => .inl hx)
 have F05:Fm w w5 [g,fb]:=(F13.mono (by simp)).trans Fr5 (fun x hx => .inl hx)
 have HB5':Blk w5 fb ({ fs with count:=c5 } : FS).at:=HB5
 have dsb:∀v∈SB fb fs,v≠g:=fun v hv e=>dgf (e▸hv)
 have SW4:SW w5 fb { fs with count:=c5 } := by
  have d:∀ {l:List Nat},fb∉l→(∀v∈l,v∈SB fb fs)→∀v∈l,v ∉ [g,fb]:=by
   intro l hb hs v hv
   simp
   exact ⟨dsb v (hs v hv),fun e=>hb (e▸hv)⟩
  exact ⟨HB5',SWf.o.fm F05 (d SWf.bo (fun v hv=>mem_SB.mpr (.inr (.inl hv)))),SWf.x.fm F05 (d SWf.bx (fun v hv=>mem_SB.mpr (.inr (.inr (.inl hv))))),SWf.y.fm F05 (d SWf.bY (fun v hv=>mem_SB.mpr (.inr (.inr (.inr (.inl hv)))))),SWf.z.fm F05 (d SWf.bz (fun v hv=>mem_SB.mpr (.inr (.inr (.inr (.inr hv)))))),SWf.bo,SWf.bx,SWf.bY,SWf.bz,SWf.ox,SWf.oy,SWf.oz,SWf.xy,SWf.xz,SWf.yz⟩
 have HO5:VecU w5 s.out pre:=HO.fr F05 (by intro v hv;simp;exact ⟨fun e=>dgo (e▸hv),fun e=>dof v hv (e▸fbm)⟩)
 have G5:GL w5:=G.fm F05 (by intro v hv;simp at hv;rcases hv with rfl|rfl;exact g9;exact h9 _ fbm)
 have E5:errAt w5 0:=E.fm F05 (by simp;exact ⟨by omega,by have:=h9 _ fbm;omega⟩)
 have sz5:=F05.size
 have raw:TPl (wtL M ln L) L→∀(w6:World) (fs6:FS),Blk w6 g ({ s with hw:=hw5 } : HU).at→VecU w6 s.out pre→errAt w6 0→SW w6 fb fs6→(∀v∈SB fb fs6,v∈SB fb fs∨w.heap.size≤v)→Fm w w6 (g::(s.out.bs++SB fb fs))→q65_J8 (some ⟨g,0,none⟩) K (L:Int) ⟨some ⟨g,279,none⟩,256,256⟩ () w6:=by
  intro hTP w6 fs6 B6 HO6 E6 SW6 hx6 Fr6
  have dof6:∀v∈s.out.bs,v∉SB fb fs6:=by
   intro v hv h
   rcases hx6 v h with h1|h1
   ·exact dof v hv h1
   ·have:=HO.lt v hv;omega
  have sz6:=Fr6.size
  refine wr_raw (s := { s with hw:=hw5 }) (W:=wtF M ln) B6 HO6 (by omega) dgo h2 hL hh5 (fun n=>Nat.le_trans (hW11 n) (by omega)) E6 ?_ ?_
  ·intro h129 v h3 h30
   exact hk0 ⟨hTP,h129⟩ w6 fs6 hw5 v h3 h30 B6 HO6 ⟨SW6,hx6,Fr6,fun v hv => .inl hv,dgo,dof6⟩
  ·intro w7 o hw7 h129 HO7 B7 hn7 hg7 F7
   have hlen:(rawT (wtF M ln) L).length=1+L/2:=by unfold rawT;simp;omega
   have hd7:∀v∈SB fb fs6,v∉g::s.out.bs:=by
    intro v hv h
    rcases List.mem_cons.mp h with h1|h1
    ·subst h1
     rcases hx6 v hv with h3|h3
     ·exact dgf h3
     ·omega
    ·exact dof6 v h1 hv
   refine hk1 w7 fs6 hw7 o _ (.inr ⟨hTP,h129,hlen⟩) (rawT_by (fun n=>Nat.le_trans (hW11 n) (by omega)) h129) (by rw [hlen];omega) (rawT_ok h2 (fun n=>Nat.le_trans (hW11 n) (by omega))) HO7 B7 ⟨SW6.fr F7 hd7,hx6,Fr6.trans F7 ?_,?_,hg7,?_⟩
   ·intro v hv
    left
    rcases List.mem_cons.mp hv with h1|h1
    ·simp [h1]
    ·simp [h1]
   ·intro v hv
    rcases hn7 v hv with h1|h1
    ·exact .inl h1
    ·right;omega
   ·intro v hv h
    rcases hn7 v hv with h1|h1
    ·exact dof6 v h1 h
    ·have:=SW6.lt v h;omega
 have x5:∀v∈SB fb ({ fs with count:=c5 } : FS),v∈SB fb fs∨w.heap.size≤v:=fun v hv => .inl hv
 have Fr05:Fm w w5 (g::(s.out.bs++SB fb fs)):=F05.mono (by intro v hv;simp at hv;left;rcases hv with rfl|rfl<;>simp [fbm])
 unfold q65_J9
 rw [wU16 (x:=(L:Int)-1) (by omega) (by omega),wU8 (x:=(L:Int)-1) (by omega) (by omega),show (L:Int)-1=((L-1:Nat):Int) by omega]
 refine joinP_id (cnd_d ?_ (fun hc2=>raw (.inl (by omega)) w5 _ B5 HO5 E5 SW4 x5 Fr05))
 intro hc2
 have hL3:3≤L:=by omega
 have hcl:∀i,cN (wtF M ln) i (L-1)<4294967296:=fun i=>by have:=cN_le (wtF M ln) i (L-1);omega
 refine joinP_id ?_
 refine slc_hi (m:=16) rfl (by show 16≤256;omega) ?_
 refine wr_max (fs := { fs with count:=c5 }) (c:=fun i=>cN (wtF M ln) i (L-1)) HB5 hc5 hcl ?_ ?_
 ·refine ⟨wtF M ln 0,by have:=hW11 0;omega,?_⟩
  have h1:=cN_mono (wtF M ln) (wtF M ln 0) (show 1≤L-1 by omega)
  have h3:cN (wtF M ln) (wtF M ln 0) 1=1:=by rw [cN,cN,if_pos rfl]
  show cN (wtF M ln) (wtF M ln 0) (L-1)≠0
  omega
 intro m h hh16 hch htop hmax hmex
 have hcnt:∀i,cN (wtF M ln) i (L-1)=(wtL M ln L).count i:=fun i=>cN_count _ _ _
 have hwl:(wtL M ln L).length=L-1:=by simp [wtL]
 have hwm:WMx (wtL M ln L) m h:=⟨hh16,by rw [←hcnt];exact hch,fun i h1 h2=>by rw [←hcnt];exact htop i h1 h2,fun i h1=>by rw [←hcnt];exact hmax i h1,by
  obtain ⟨i,h1,h2⟩:=hmex
  exact ⟨i,h1,by rw [←hcnt];exact h2⟩⟩
 have hmem:∀x∈wtL M ln L,x≤11:=by
  intro x hx
  obtain ⟨k,_,rfl⟩:=List.mem_map.mp hx
  exact hW11 k
 have hh11:h≤11:=by
  have:(wtL M ln L).count h≠0:=by rw [←hcnt];exact hch
  exact hmem h (List.count_pos_iff.mp (by omega))
 have hmle:m≤L-1:=by
  obtain ⟨i,_,e⟩:=hmex
  rw [←e]
  exact cN_le _ _ _
 have hm0:0<m:=by have:=hmax h hh16;omega
 unfold q65_J5
 refine ⟨_,rfl,?_⟩
 simp only [add_mk,Nat.zero_add]
 refine ld_b (t := .P) (x:=some ⟨fb,0,none⟩) B5 (by show some (Value.pointer s.fse)=_;rw [hfse];rfl) ?_
 rw [wI64 (x:=(m:Int)) (by omega) (by omega)]
 refine c83 (h:=h) (m:=m) HB5 (by omega) ?_
 intro w6 HB6 F6
 have B6:=B5.fr F6 (nm1 dgfb)
 refine ⟨_,rfl,?_⟩
 simp only [add_mk,Nat.zero_add]
 refine ld_b (t := .P) (x:=some ⟨fb,0,none⟩) B6 (by show some (Value.pointer s.fse)=_;rw [hfse];rfl) ?_
 refine ⟨_,rfl,?_⟩
 simp only [add_mk,Nat.zero_add]
 refine st_u HB6 rfl rfl ?_
 intro w7 HB7 F7
 have HB7':=HB7.congr (FS.setT (s' := { fs with count:=c5,maxC:=(m:Nat),symL:=(h+1:Nat),cc := !decide (((m:Nat):Int)=0),tl:=6 }) 21 rfl rfl rfl (by decide))
 have F57:Fm w5 w7 [fb]:=F6.trans F7 (fun x hx => .inl hx)
 have ST7:=SW4.same (s' := { fs with count:=c5,maxC:=(m:Nat),symL:=(h+1:Nat),cc := !decide (((m:Nat):Int)=0),tl:=6 }) HB7' F57 rfl rfl rfl rfl
 obtain ⟨fs7,e7t,e7m,e7s,e7c,e7b,ST7⟩:∃fs7:FS,fs7.tl=6∧fs7.maxC=(m:Nat)∧fs7.symL=((h+1:Nat):Int)∧fs7.count=c5∧SB fb fs7=SB fb fs∧ST w5 w7 fb { fs with count:=c5 } fs7:=⟨({ fs with count:=c5,maxC:=(m:Nat),symL:=(h+1:Nat),cc := !decide (((m:Nat):Int)=0),tl:=6 } : FS),rfl,rfl,rfl,rfl,rfl,ST7⟩
 have B7:=B5.fr F57 (nm1 dgfb)
 have HO7:VecU w7 s.out pre:=HO5.fr F57 (by intro v hv;simp;exact fun e=>dof v hv (e▸fbm))
 have G7:GL w7:=G5.fm F57 (by intro v hv;simp at hv;subst hv;exact h9 _ fbm)
 have E7:errAt w7 0:=E5.fm F57 (by simp;have:=h9 _ fbm;omega)
 have Fr07:Fm w w7 (g::(s.out.bs++SB fb fs)):=Fr05.trans F57 (by intro v hv;simp at hv;subst hv;left;simp [fbm])
 have sz7:=Fr07.size
 unfold drw
 refine slc_hi (m:=L-1) (by rw [wU16 (x:=(L:Int)-1) (by omega) (by omega),wU8 (x:=(L:Int)-1) (by omega) (by omega)];omega) (by show L-1≤256;omega) ?_
 refine ⟨_,rfl,?_⟩
 simp only [add_mk,Nat.zero_add]
 refine ld_b (t := .P) (x:=some ⟨fb,0,none⟩) B7.drew (by show some (Value.pointer s.fse)=_;rw [hfse];rfl) ?_
 have SW7:=ST7.drew.sw
 have hsrc:Arr .u8 w7.drew ⟨some ⟨g,279,none⟩,L-1,256⟩ (wtL M ln L):=by
  refine ⟨hwl.symm,by show L-1≤256;omega,(fun h=>by cases h),?_⟩
  intro b hb i hi
  injection hb with hb
  subst hb
  rw [add_mk,B7.drew.cell,HU.hw_at _ (by omega)]
  show some (Value.int .u8 (hw5 i))=_
  rw [hh5 i (by omega)]
  simp [wtL]
 have G7d:GL w7.drew:=G7.fm (Fm.refl w7 []).drew (by simp)
 have dofx:∀ {fs':FS} {w':World},ST w7.drew w' fb fs7 fs'→∀v∈SB fb fs',v∈SB fb fs∨w.heap.size≤v:=by
  intro fs' w' T v hv
  rcases T.ext v hv with h1|h1
  ·rw [e7b] at h1;exact .inl h1
  ·have:w7.drew.heap.size=w7.heap.size:=rfl
   right;omega
 have outd:∀v∈s.out.bs,v∉SB fb fs:=dof
 refine c84 (s:=fs7) (src:=⟨some ⟨g,279,none⟩,L-1,256⟩) (ws:=wtL M ln L) (L:=h+1) (m:=m) SW7 G7d (by rw [e7b];exact h9) hsrc (by intro a ha _;injection ha with ha;subst ha;rw [e7b];exact dgf) (by omega) (by omega) e7t e7m hm0 (by omega) e7s (by omega) (by omega) (fun i hi=>by rw [e7c, ←hcnt];exact hc5 i (by omega)) ?_ (fun i hi=>by rw [←hcnt];exact hmax i (by omega)) (by rw [Nat.add_sub_cancel, ←hcnt];exact hch) ?_ ?_
 ·intro x hx
  have h11:=hmem x hx
  by_cases hlt:x<h+1
  ·exact hlt
  ·have h0:=htop x (by omega) (by omega)
   have:0<(wtL M ln L).count x:=List.count_pos_iff.mpr hx
   rw [←hcnt] at this
   have h0:cN (wtF M ln) x (L-1)=0:=h0
   omega
 ·-- not pressed
  intro w8 fs8 v hBd T8 hv1 hv2
  refine ⟨isPE.ifc hv1,?_⟩
  refine ⟨fun e=>absurd (show isNil v=true from e) (by rw [hv2];simp),fun _ => ?_⟩
  have F8:Fm w7 w8 (SB fb fs):=(Fm.refl w7 _).drew.trans (e7b▸T8.fr) (fun x hx => .inl hx)
  exact raw (.inr (.inl ⟨m,h,hwm,hBd⟩)) w8 fs8 (B7.fr F8 dgf) (HO7.fr F8 dof) (E7.fm F8 (fun h=>by have:=h9 _ h;omega)) T8.sw (dofx T8) (Fr07.trans F8 (by intro v hv;left;simp [hv]))
 ·intro w8 fs8 o ol hGd T8 ha hby hll hok hob
  have F8:Fm w7 w8 (SB fb fs):=(Fm.refl w7 _).drew.trans (e7b▸T8.fr) (fun x hx => .inl hx)
  have B8:=B7.fr F8 dgf
  have HO8:=HO7.fr F8 dof
  have E8:=E7.fm F8 (fun h=>by have:=h9 _ h;omega)
  have Fr08:Fm w w8 (g::(s.out.bs++SB fb fs)):=Fr07.trans F8 (by intro v hv;left;simp [hv])
  have x8:=dofx T8
  have sz8:=Fr08.size
  refine ⟨rfl,?_⟩
  refine ⟨fun _ => ?_,fun e=>by simp [isNil] at e⟩
  refine ⟨_,rfl,?_⟩
  simp only [add_mk,Nat.zero_add]
  refine ld_b (t := .I .u16) (x:=((L:Nat):Int)) B8 (by show some (Value.int .u16 s.symL)=_;rw [hsy];rfl) ?_
  refine ⟨by decide,?_⟩
  have esh:IntKind.i64.wrap (shrI .u16 ((L:Nat):Int) 1)=((L/2:Nat):Int):=by
   rw [show (1:Int)=((1:Nat):Int) from rfl,shrI_nat _ _ _ (by simp only [IntKind.bits];omega),Nat.pow_one,wI64 (by omega) (by omega)]
  rw [esh]
  have hoL:o.l=ol.length:=ha.len
  refine cnd_d ?_ (fun hc3=>raw (.inr (.inr ⟨_,⟨m,h,hwm,hGd⟩,by omega⟩)) w8 fs8 B8 HO8 E8 T8.sw x8 Fr08)
  intro hc3
  have dof8:∀v∈s.out.bs,v∉SB fb fs8:=by
   intro v hv h
   rcases x8 v h with h1|h1
   ·exact dof v hv h1
   ·have:=HO.lt v hv;omega
  have dg8:g∉SB fb fs8:=by
   intro h
   rcases x8 g h with h1|h1
   ·exact dgf h1
   ·omega
  refine ⟨_,rfl,?_⟩
  simp only [add_mk,Nat.zero_add]
  refine ld_b (t := .S) (x:=s.out) B8 rfl ?_
  rw [hoL,wU8 (x:=((ol.length:Nat):Int)) (by omega) (by omega)]
  refine app_1u HO8 (by omega) ?_
  intro s9 w9 HO9 F9 hb9
  have B9:=B8.fr F9 dgo
  have hg9:g∉s9.bs:=fun h=>by
   rcases hb9 g h with h|h
   ·exact dgo h
   ·have:=B8.lt;omega
  have d9f:∀v∈s9.bs,v∉SB fb fs8:=by
   intro v hv h
   rcases hb9 v hv with h1|h1
   ·exact dof8 v h1 h
   ·have:=T8.sw.lt v h;omega
  refine ⟨_,rfl,?_⟩
  simp only [add_mk,Nat.zero_add]
  refine st_u B9 rfl rfl ?_
  intro w10 B10 F10
  have B10':=B10.congr (HU.setT (s' := { s with hw:=hw5,out:=s9 }) 0 rfl rfl rfl (by decide))
  have HO10:=HO9.fr F10 (by intro v hv;simp;exact fun e=>hg9 (e▸hv))
  have F810:Fm w8 w10 (g::s.out.bs):=(F9.mono (by intro v hv;left;simp [hv])).trans F10 (by intro v hv;simp at hv;simp [hv])
  have dSB8:∀v∈SB fb fs8,v∉g::s.out.bs:=by
   intro v hv h
   rcases List.mem_cons.mp h with h1|h1
   ·exact dg8 (h1▸hv)
   ·exact dof8 v h1 hv
  have ha10:Arr .u8 w10 o ol:=ha.fr F810 (by
   intro a h1 _
   exact dSB8 _ (hob _ (by unfold Sl.bs;rw [h1];simp)))
  have SW10:=T8.sw.fr F810 dSB8
  refine ⟨_,rfl,?_⟩
  simp only [add_mk,Nat.zero_add]
  refine ld_b (t := .S) (x:=s9) B10' rfl ?_
  have h9l:s9.l=pre.length+1:=by have:=HO10.len;simp at this;omega
  refine app_vu (xs:=ol) HO10 ha10.has (by omega) ?_
  intro s11 w11 HO11 F11 hb11
  have B11:=B10'.fr F11 hg9
  have sz811:=F810.size
  have hg11:g∉s11.bs:=fun h=>by
   rcases hb11 g h with h|h
   ·exact hg9 h
   ·have:=B10'.lt;omega
  refine ⟨_,rfl,?_⟩
  simp only [add_mk,Nat.zero_add]
  refine st_u B11 rfl rfl ?_
  intro w12 B12 F12
  have B12':=B12.congr (HU.setT (s' := { s with hw:=hw5,out:=s11 }) 0 rfl rfl rfl (by decide))
  have HO12:=HO11.fr F12 (by intro v hv;simp;exact fun e=>hg11 (e▸hv))
  have F1012:Fm w10 w12 (g::s9.bs):=(F11.mono (by intro v hv;left;simp [hv])).trans F12 (by intro v hv;simp at hv;simp [hv])
  have n9:∀v∈s9.bs,v∈s.out.bs∨w.heap.size≤v:=by
   intro v hv
   rcases hb9 v hv with h1|h1
   ·exact .inl h1
   ·right;omega
  refine hk1 w12 fs8 hw5 s11 (ol.length::ol) (.inl ⟨ol.length,hL3,⟨m,h,hwm,hGd⟩,by omega,rfl⟩) ?_ ?_ (fseT_ok hok (by omega)) ?_ B12' ⟨SW10.fr F1012 ?_,x8,(Fr08.trans F810 ?_).trans F1012 ?_,?_,hg11,?_⟩
  ·intro x hx
   rcases List.mem_cons.mp hx with h1|h1
   ·omega
   ·exact hby x h1
  ·simp only [List.length_cons];omega
  ·have e:pre ++ [ol.length]++ol=pre++ol.length::ol:=by simp
   rw [e] at HO12
   exact HO12
  ·intro v hv h
   rcases List.mem_cons.mp h with h1|h1
   ·exact dg8 (h1▸hv)
   ·exact d9f v h1 hv
  ·intro v hv
   left
   rcases List.mem_cons.mp hv with h1|h1
   ·simp [h1]
   ·simp [h1]
  ·intro v hv
   rcases List.mem_cons.mp hv with h1|h1
   ·left;simp [h1]
   ·rcases n9 v h1 with h3|h3
    ·left;simp [h3]
    ·exact .inr (by omega)
  ·intro v hv
   rcases hb11 v hv with h1|h1
   ·rcases n9 v h1 with h3|h3
    ·exact .inl h3
    ·exact .inr (by omega)
   ·right;omega
  ·intro v hv h
   rcases hb11 v hv with h1|h1
   ·exact d9f v h1 h
   ·have:=SW10.lt v h;omega
end
end Go.Sx
namespace Go.Sx
open Go Go.Proofs
set_option maxRecDepth 100000
def q148_J0 (K2:Sl→PT) (x9:Sl):PT :=
 K2 x9
def q148_J1 (s0:Sl) (n1:Int) (K2:Sl→PT) (x4:Unit):PT :=
 joinP (fun R5=>cnd (decide ((0:Int)<(IntKind.wrap .i64 (n1-(IntKind.wrap .i64 ((s0.c:Int)-(s0.l:Int))))))) (slc 1 s0 none (some (s0.c:Int)) none fun (s6:Sl)=>appZ z5 5 1 s6 (IntKind.wrap .i64 (n1-(IntKind.wrap .i64 ((s0.c:Int)-(s0.l:Int))))) fun (s7:Sl)=>slc 1 s7 none (some (s0.l:Int)) none fun (s8:Sl)=>R5 s8) (R5 s0)) (q148_J0 K2)
def q148 (s0:Sl) (n1:Int) (K2:Sl→PT):PT :=
 joinP (fun R3=>cnd (decide (n1<(0:Int))) (F) (R3 ())) (q148_J1 s0 n1 K2)
def h148:Hint:=⟨(.n (.n .e 3 ([],[1,0]) .e) 7 ([(0,.c .S)],[]) .e),.e⟩
theorem q148_eq (s0:Sl) (n1:Int) (K2:Sl→PT):fnE Cx h148 [.c .S] Tryd.f148 [.v (.slice s0.a s0.l s0.c),.v (.int .i64 n1)] K2=q148 s0 n1 K2:=by kernel_rfl
theorem q148_fnok:fnOk Tryd.f148 2=true:=by kernel_rfl
theorem q148_ok (s0:Sl) (n1:Int) (K2:Sl→PT) {w:World} (h:q148 s0 n1 K2 w):Calls Tryd.prog 148 #[(.slice s0.a s0.l s0.c),(.int .i64 n1)] w fun e w'=>∃r,e = .returned (resMk [.c .S] r)∧K2 r w' :=
 of_eq Tryd.func148 q148_fnok (by kernel_rfl) (by kernel_rfl) (q148_eq s0 n1 K2) h
end Go.Sx
namespace Go.Sx
open Go Go.Proofs
set_option maxRecDepth 4000
theorem shr_b {n j:Nat} (hn:n<2^64):IntKind.u8.wrap (shrI .u64 ((n:Nat):Int) ((j:Nat):Int))=((n/2^j%256:Nat):Int):=by
 rw [shrI_nat _ _ _ (by simp only [IntKind.bits];exact hn),wrap_u (k := .u8) rfl];rfl
theorem leB_get {n k j:Nat} (h:j<k):(leB n k)[j]? = some (n/2^(8*j)%256):=by
 induction k with
 | zero=>omega
 | succ k ih =>
  rw [leB_snoc]
  by_cases e:j<k
  ·rw [List.getElem?_append_left (by rw [leB_len];exact e)]
   exact ih e
  ·have:j=k:=by omega
   subst this
   rw [List.getElem?_append_right (by rw [leB_len];omega),leB_len,Nat.sub_self,Nat.pow_mul]
   rfl
theorem andNot7 {n:Nat} (h:n<64):andNotI .u64 ((n:Nat):Int) 7=((8*(n/8):Nat):Int):=by
 have:∀m:Fin 64,andNotI .u64 (((m:Nat):Nat):Int) 7=((8*((m:Nat)/8):Nat):Int):=by decide +kernel
 exact this ⟨n,h⟩
theorem and7 {n:Nat} (h:n<2^64):andI .u64 ((n:Nat):Int) 7=((n%8:Nat):Int):=by
 have:=andI_nat (k := .u64) rfl n (2^3-1) (by simp only [IntKind.bits];omega) (by decide)
 rw [Nat.and_two_pow_sub_one_eq_mod] at this
 exact this
theorem and63w {n:Nat} (h:n<64):andI .u64 ((n:Nat):Int) 63=((n:Nat):Int):=by
 have:=andI_nat (k := .u64) rfl n (2^6-1) (by simp only [IntKind.bits];omega) (by decide)
 rw [Nat.and_two_pow_sub_one_eq_mod,Nat.mod_eq_of_lt (by omega)] at this
 exact this
theorem and63b {n:Nat} (h:n<64):andI .u8 ((n:Nat):Int) 63=((n:Nat):Int):=by
 have:=andI_nat (k := .u8) rfl n (2^6-1) (by simp only [IntKind.bits];omega) (by decide)
 rw [Nat.and_two_pow_sub_one_eq_mod,Nat.mod_eq_of_lt (by omega)] at this
 exact this
section
variable {w:World} {ob p l c n:Nat} {F:Cells}
theorem c164 {K:Unit→PT} (B:Blk w ob F) (hl:8≤l) (h7:∃x:Int,F (p+7)=some (.int .u8 x)) (hs:∀j,j<8→(F (p+j)).isSome) (hn:n<2^64)
  (hk:∀w' F',Blk w' ob F'→(∀j,j<8→F' (p+j)=some (.int .u8 (n/2^(8*j)%256:Nat)))→(∀i,i<p∨p+8≤i→F' i=F i)→Fm w w' [ob]→K () w') :
  callP Tryd.prog 164 #[.agg ⟨[]⟩,.slice (some ⟨ob,p,none⟩) l c,.int .u64 (n:Nat)] [] K w:=by
 apply q164_ok (r0:=()) (s1:=⟨some ⟨ob,p,none⟩,l,c⟩)
 unfold q164 nw
 have F0:Fm w (w.alloc (.cells ⟨[]⟩ 234)) []:=(Fm.refl w []).alloc
 have B0:=B.fr F0 (by simp)
 generalize w.alloc (.cells ⟨[]⟩ 234)=w0 at *
 obtain ⟨x7,hx7⟩:=h7
 have e0:IntKind.u8.wrap ((n:Nat):Int)=((n/2^0%256:Nat):Int):=by rw [wrap_u (k := .u8) rfl,Nat.pow_zero,Nat.div_one];rfl
 have e1:∀j:Nat,IntKind.u8.wrap (shrI .u64 ((n:Nat):Int) ((j:Nat):Int))=((n/2^j%256:Nat):Int):=fun j=>shr_b hn
 rw [e0,show (8:Int)=((8:Nat):Int) from rfl,show (16:Int)=((16:Nat):Int) from rfl,show (24:Int)=((24:Nat):Int) from rfl,show (32:Int)=((32:Nat):Int) from rfl,show (40:Int)=((40:Nat):Int) from rfl,show (48:Int)=((48:Nat):Int) from rfl,show (56:Int)=((56:Nat):Int) from rfl,e1,e1,e1,e1,e1,e1,e1]
 have sU:∀ {G:Cells} {o:Nat} {v:Value} {i:Nat},(G i).isSome→(updC G o v i).isSome:=by
  intro G o v i h
  unfold updC
  split
  ·rfl
  ·exact h
 refine ixS_o (k:=7) rfl (by omega) ?_
 refine ld_b (t := .I .u8) (x:=x7) B0 hx7 ?_
 refine ixS_o (k:=0) rfl (by omega) ?_
 refine st_u B0 (hs 0 (by omega)) rfl ?_
 intro w1 B1 F1
 refine ⟨by decide,ixS_o (k:=1) rfl (by omega) ?_⟩
 refine st_u B1 (sU (hs 1 (by omega))) rfl ?_
 intro w2 B2 F2
 refine ⟨by decide,ixS_o (k:=2) rfl (by omega) ?_⟩
 refine st_u B2 (sU (sU (hs 2 (by omega)))) rfl ?_
 intro w3 B3 F3
 refine ⟨by decide,ixS_o (k:=3) rfl (by omega) ?_⟩
 refine st_u B3 (sU (sU (sU (hs 3 (by omega))))) rfl ?_
 intro w4 B4 F4
 refine ⟨by decide,ixS_o (k:=4) rfl (by omega) ?_⟩
 refine st_u B4 (sU (sU (sU (sU (hs 4 (by omega)))))) rfl ?_
 intro w5 B5 F5
 refine ⟨by decide,ixS_o (k:=5) rfl (by omega) ?_⟩
 refine st_u B5 (sU (sU (sU (sU (sU (hs 5 (by omega))))))) rfl ?_
 intro w6 B6 F6
 refine ⟨by decide,ixS_o (k:=6) rfl (by omega) ?_⟩
 refine st_u B6 (sU (sU (sU (sU (sU (sU (hs 6 (by omega)))))))) rfl ?_
 intro w7 B7 F7
 refine ⟨by decide,ixS_o (k:=7) rfl (by omega) ?_⟩
 refine st_u B7 (sU (sU (sU (sU (sU (sU (sU (hs 7 (by omega))))))))) rfl ?_
 intro w8 B8 F8
 have tr:∀ {a b d:World},Fm a b [ob]→Fm b d [ob]→Fm a d [ob]:=fun h h'=>h.trans h' (fun x hx => .inl hx)
 refine hk w8 _ B8 ?_ ?_ (tr (tr (tr (tr (tr (tr (tr (tr (F0.mono (by simp)) F1) F2) F3) F4) F5) F6) F7) F8)
 ·intro j hj
  unfold updC
  have:j=0∨j=1∨j=2∨j=3∨j=4∨j=5∨j=6∨j=7:=by omega
  rcases this with rfl|rfl|rfl|rfl|rfl|rfl|rfl|rfl
  ·rw [if_neg (by omega),if_neg (by omega),if_neg (by omega),if_neg (by omega),if_neg (by omega),if_neg (by omega),if_neg (by omega),if_pos rfl]
  ·rw [if_neg (by omega),if_neg (by omega),if_neg (by omega),if_neg (by omega),if_neg (by omega),if_neg (by omega),if_pos rfl]
  ·rw [if_neg (by omega),if_neg (by omega),if_neg (by omega),if_neg (by omega),if_neg (by omega),if_pos rfl]
  ·rw [if_neg (by omega),if_neg (by omega),if_neg (by omega),if_neg (by omega),if_pos rfl]
  ·rw [if_neg (by omega),if_neg (by omega),if_neg (by omega),if_pos rfl]
  ·rw [if_neg (by omega),if_neg (by omega),if_pos rfl]
  ·rw [if_neg (by omega),if_pos rfl]
  ·rw [if_pos rfl]
 ·intro i hi
  unfold updC
  rw [if_neg (by omega),if_neg (by omega),if_neg (by omega),if_neg (by omega),if_neg (by omega),if_neg (by omega),if_neg (by omega),if_neg (by omega)]
end
section
variable {w:World} {ob cap n:Nat} {pl:List Nat}
theorem c161 {K:Unit→PT} (H:VecU w ⟨some ⟨ob,0,none⟩,pl.length,cap⟩ pl) (h8:pl.length+8≤cap) (hn:n<2^64) {k:Nat} (hk8:k≤8)
  (hk:∀w',VecU w' ⟨some ⟨ob,0,none⟩,pl.length+k,cap⟩ (pl++leB n k)→Fm w w' [ob]→K () w') :
  callP Tryd.prog 161 #[.slice (some ⟨ob,0,none⟩) cap cap,.int .i64 ((pl.length:Nat):Int),.int .u64 (n:Nat)] [] K w:=by
 apply q161_ok (s0:=⟨some ⟨ob,0,none⟩,cap,cap⟩)
 unfold q161 drw
 obtain ⟨h1,h2,f,h3,h4,h5⟩:=H.vec.blk _ rfl
 have hu:=H.u8 _ rfl
 simp only at hu h3
 simp only [ldL]
 refine slc_lo (n:=pl.length) rfl (by show pl.length≤cap;omega) ?_
 have ea:slA (some ⟨ob,0,none⟩) pl.length cap 1=some ⟨ob,pl.length,none⟩:=by
  unfold slA
  rw [if_neg (by omega)]
  simp [add_mk]
 simp only [ea]
 have huf:∀i,i<cap→∃x:Int,f i=some (.int .u8 x):=by
  intro i hi
  obtain ⟨x,hx⟩:=hu i hi
  rw [h3.cell] at hx
  exact ⟨x,hx⟩
 refine c164 h3.drew (by omega) (huf _ (by omega)) (fun j hj=>h5 _ (by simp only;omega)) hn ?_
 intro w1 F' B1 hF1 hF2 F1
 have F01:Fm w w1 [ob]:=(Fm.refl w [ob]).drew.trans F1 (fun x hx => .inl hx)
 refine hk w1 ⟨⟨?_,?_,?_,?_⟩,?_,H.c63⟩ F01
 ·rw [bytes_len,List.length_append,leB_len];simp only;omega
 ·show pl.length+k≤cap;omega
 ·intro h;cases h
 ·intro a ha
  injection ha with ha
  subst ha
  refine ⟨rfl,rfl,F',B1,?_,?_⟩
  ·intro i hi
   rw [bytes_len,List.length_append,leB_len] at hi
   unfold bytes
   rw [List.getElem?_map]
   by_cases h:i<pl.length
   ·rw [hF2 i (.inl h),h4 i (by rw [bytes_len];exact h),List.getElem?_append_left h]
    unfold bytes
    rw [List.getElem?_map]
   ·have e:i=pl.length+(i-pl.length):=by omega
    rw [List.getElem?_append_right (by omega),leB_get (by omega)]
    conv=>lhs;rw [e]
    rw [hF1 _ (by omega)]
    rfl
  ·intro i hi
   simp only [Nat.mul_one] at hi
   by_cases h:i<pl.length∨pl.length+8≤i
   ·rw [hF2 i h];exact h5 i (by simp only;omega)
   ·have:=hF1 (i-pl.length) (by omega)
    rw [show pl.length+(i-pl.length)=i by omega] at this
    rw [this];rfl
 ·intro a ha i hi
  injection ha with ha
  subst ha
  show ∃x:Int,_
  rw [B1.cell]
  by_cases h:i<pl.length∨pl.length+8≤i
  ·rw [hF2 i h];exact huf i hi
  ·have:=hF1 (i-pl.length) (by omega)
   rw [show pl.length+(i-pl.length)=i by omega] at this
   exact ⟨_,this⟩
end
def q3C (a b c:Value):Cells:=fun i=>match i with
 | 0=>some a
 | 1=>some b
 | 2=>some c
 | _=>none
theorem q3_0 (a b c x:Value):updC (q3C a b c) 0 x=q3C x b c:=by funext i;rcases i with _|_|_|i<;>simp [updC,q3C]
theorem q3_1 (a b c x:Value):updC (q3C a b c) 1 x=q3C a x c:=by funext i;rcases i with _|_|_|i<;>simp [updC,q3C]
theorem q3_2 (a b c x:Value):updC (q3C a b c) 2 x=q3C a b x:=by funext i;rcases i with _|_|_|i<;>simp [updC,q3C]
theorem nw_3 {w:World} {a b c:Value} {T:TypeId} {κ:Addr→PT} (hk:∀w',Fm w w' []→w'.heap.size=w.heap.size+1→Blk w' w.heap.size (q3C a b c)→κ ⟨w.heap.size,0,none⟩ w'):nw [a,b,c] T κ w :=
 hk _ (Fm.refl w []).alloc (World.size_alloc _ _) (Blk.new.congr (by funext i;rcases i with _|_|_|i<;>simp [q3C]))
section
variable {w:World} {ob cap c nb:Nat} {pl:List Nat}
theorem c149 {K:(Int×Int×Int)→PT} (H:VecU w ⟨some ⟨ob,0,none⟩,pl.length,cap⟩ pl) (h8:pl.length+8≤cap) (hcap:cap<2^63) (hn:nb<64) (hc:c<2^nb)
  (hk:∀w',VecU w' ⟨some ⟨ob,0,none⟩,pl.length+nb/8,cap⟩ (pl++leB c (nb/8))→Fm w w' [ob]→K (((c/2^(8*(nb/8)):Nat):Int),((nb%8:Nat):Int),((pl.length+nb/8:Nat):Int)) w') :
  callP Tryd.prog 149 #[.agg ⟨[.int .u64 (c:Nat),.int .u64 (nb:Nat),.int .i64 ((pl.length:Nat):Int)]⟩,.slice (some ⟨ob,0,none⟩) cap cap] [.m [(.I .u64),(.I .u64),(.I .i64)]] K w:=by
 have hc64:c<2^64:=Nat.lt_of_lt_of_le hc (Nat.pow_le_pow_right (by omega) (by omega))
 apply q149_ok (r0:=(((c:Nat):Int),((nb:Nat):Int),((pl.length:Nat):Int))) (s1:=⟨some ⟨ob,0,none⟩,cap,cap⟩)
 unfold q149
 have hol:=H.lt ob (by simp [Sl.bs])
 refine nw_3 ?_
 intro w1 F1 hs1 B1
 refine nw_3 ?_
 intro w2 F2 hs2 B2
 have d1:w.heap.size≠w1.heap.size:=by omega
 have d2:ob≠w.heap.size:=by omega
 have d3:ob≠w1.heap.size:=by omega
 have hb1:w.heap.size≤w.heap.size:=Nat.le_refl _
 have hb2:w.heap.size≤w1.heap.size:=by omega
 generalize hb:w.heap.size=b at *
 generalize w1.heap.size=b' at *
 have B1':=B1.fr F2 (by simp)
 have H2:=(H.fr F1 (by simp)).fr F2 (by simp)
 simp only [add_mk,Nat.zero_add]
 refine ld_b (t := .I .i64) (x:=((pl.length:Nat):Int)) B1' rfl ?_
 refine ld_b (t := .I .u64) (x:=((c:Nat):Int)) B1' rfl ?_
 refine c161 H2 h8 hc64 (k:=nb/8) (by omega) ?_
 intro w3 H3 F3
 have B3:=B1'.fr F3 (nm1 d2.symm)
 refine ld_b (t := .I .i64) (x:=((pl.length:Nat):Int)) B3 rfl ?_
 refine ld_b (t := .I .u64) (x:=((nb:Nat):Int)) B3 rfl ?_
 refine ⟨by decide,?_⟩
 have e1:IntKind.i64.wrap (((pl.length:Nat):Int)+IntKind.i64.wrap (shrI .u64 ((nb:Nat):Int) 3))=((pl.length+nb/8:Nat):Int):=by
  rw [show (3:Int)=((3:Nat):Int) from rfl,shrI_nat _ _ _ (by simp only [IntKind.bits];omega),show (2:Nat)^3=8 from rfl,wI64 (x:=((nb/8:Nat):Int)) (by omega) (by omega),wI64 (by omega) (by omega)]
  omega
 rw [e1]
 refine st_u B3 rfl rfl ?_
 intro w4 B4 F4
 rw [q3_2] at B4
 refine ld_b (t := .I .u64) (x:=((c:Nat):Int)) B4 rfl ?_
 refine ld_b (t := .I .u64) (x:=((nb:Nat):Int)) B4 rfl ?_
 rw [andNot7 hn,and63w (n:=8*(nb/8)) (by omega),shrI_nat _ _ _ (by simp only [IntKind.bits];exact hc64)]
 refine ⟨by omega,?_⟩
 refine st_u B4 rfl rfl ?_
 intro w5 B5 F5
 rw [q3_0] at B5
 refine ld_b (t := .I .u64) (x:=((nb:Nat):Int)) B5 rfl ?_
 rw [and7 (by omega)]
 refine st_u B5 rfl rfl ?_
 intro w6 B6 F6
 rw [q3_1] at B6
 show ld _ _ _ _
 simp only [add_mk,Nat.add_zero]
 refine ld_b (t := .I .u64) (x:=((c/2^(8*(nb/8)):Nat):Int)) B6 rfl ?_
 show ld _ _ _ _
 simp only [add_mk,Nat.zero_add]
 refine ld_b (t := .I .u64) (x:=((nb%8:Nat):Int)) B6 rfl ?_
 show ld _ _ _ _
 simp only [add_mk,Nat.zero_add]
 refine ld_b (t := .I .i64) (x:=((pl.length+nb/8:Nat):Int)) B6 rfl ?_
 have F36:Fm w3 w6 [b]:=(F4.trans F5 (fun x hx => .inl hx)).trans F6 (fun x hx => .inl hx)
 have B2':=((B2.fr F3 (nm1 d3.symm)).fr F36 (nm1 d1.symm))
 show st _ _ (st _ _ (st _ _ _)) _
 simp only [add_mk,Nat.add_zero,Nat.zero_add]
 refine st_u B2' rfl rfl ?_
 intro w7 B7 F7
 rw [q3_0] at B7
 refine st_u B7 rfl rfl ?_
 intro w8 B8 F8
 rw [q3_1] at B8
 refine st_u B8 rfl rfl ?_
 intro w9 B9 F9
 rw [q3_2] at B9
 have F69:Fm w6 w9 [b']:=(F7.trans F8 (fun x hx => .inl hx)).trans F9 (fun x hx => .inl hx)
 show ld _ _ _ _
 simp only [add_mk,Nat.add_zero]
 refine ld_b (t := .I .u64) (x:=((c/2^(8*(nb/8)):Nat):Int)) B9 rfl ?_
 show ld _ _ _ _
 simp only [add_mk,Nat.zero_add]
 refine ld_b (t := .I .u64) (x:=((nb%8:Nat):Int)) B9 rfl ?_
 show ld _ _ _ _
 simp only [add_mk,Nat.zero_add]
 refine ld_b (t := .I .i64) (x:=((pl.length+nb/8:Nat):Int)) B9 rfl ?_
 refine hk w9 ((H3.fr F36 (by simp [Sl.bs];exact d2)).fr F69 (by simp [Sl.bs];exact d3)) ((((F1.trans F2 (by simp)).mono (S' := [ob]) (by simp)).trans F3 (fun x hx => .inl hx)).trans F36 ?_ |>.trans F69 ?_)
 ·intro v hv;simp at hv;right;omega
 ·intro v hv;simp at hv;right;omega
end
theorem add_lt {bc nb x m:Nat} (h:bc<2^nb) (hx:x<2^m):bc+x*2^nb<2^(nb+m):=by
 have h1:(x+1)*2^nb≤2^m*2^nb:=Nat.mul_le_mul_right _ hx
 rw [Nat.add_mul,Nat.one_mul, ←Nat.pow_add,Nat.add_comm m nb] at h1
 omega
section
variable {w:World} {c nb v n pos:Nat}
theorem c150 {K:(Int×Int×Int)→PT} (hn:nb<64) (hc:c<2^nb) (hv:v<2^n) (hnn:nb+n≤64) (hk:∀w',Fm w w' []→K (((c+v*2^nb:Nat):Int),((nb+n:Nat):Int),((pos:Nat):Int)) w') :
  callP Tryd.prog 150 #[.agg ⟨[.int .u64 (c:Nat),.int .u64 (nb:Nat),.int .i64 (pos:Nat)]⟩,.int .u64 (v:Nat),.int .u64 (n:Nat)] [.m [(.I .u64),(.I .u64),(.I .i64)]] K w:=by
 apply q150_ok (r0:=(((c:Nat):Int),((nb:Nat):Int),((pos:Nat):Int)))
 unfold q150
 refine nw_3 ?_
 intro w1 F1 hs1 B1
 refine nw_3 ?_
 intro w2 F2 hs2 B2
 have d1:w.heap.size≠w1.heap.size:=by omega
 have hb1:w.heap.size≤w.heap.size:=Nat.le_refl _
 have hb2:w.heap.size≤w1.heap.size:=by omega
 generalize hb:w.heap.size=b at *
 generalize w1.heap.size=b' at *
 have B1':=B1.fr F2 (by simp)
 simp only [add_mk,Nat.zero_add]
 refine ld_b (t := .I .u64) (x:=((c:Nat):Int)) B1' rfl ?_
 refine ld_b (t := .I .u64) (x:=((nb:Nat):Int)) B1' rfl ?_
 rw [and63w hn,(put_bits hc hv hnn hn).1]
 refine ⟨by omega,?_⟩
 refine st_u B1' rfl rfl ?_
 intro w3 B3 F3
 rw [q3_0] at B3
 refine ld_b (t := .I .u64) (x:=((nb:Nat):Int)) B3 rfl ?_
 rw [wU64 (by omega) (by omega), ←Int.natCast_add]
 refine st_u B3 rfl rfl ?_
 intro w4 B4 F4
 rw [q3_1] at B4
 show ld _ _ _ _
 simp only [add_mk,Nat.add_zero]
 refine ld_b (t := .I .u64) (x:=((c+v*2^nb:Nat):Int)) B4 rfl ?_
 show ld _ _ _ _
 simp only [add_mk,Nat.zero_add]
 refine ld_b (t := .I .u64) (x:=((nb+n:Nat):Int)) B4 rfl ?_
 show ld _ _ _ _
 simp only [add_mk,Nat.zero_add]
 refine ld_b (t := .I .i64) (x:=((pos:Nat):Int)) B4 rfl ?_
 have F24:Fm w2 w4 [b]:=F3.trans F4 (fun x hx => .inl hx)
 have B2':=B2.fr F24 (nm1 d1.symm)
 show st _ _ (st _ _ (st _ _ _)) _
 simp only [add_mk,Nat.add_zero,Nat.zero_add]
 refine st_u B2' rfl rfl ?_
 intro w7 B7 F7
 rw [q3_0] at B7
 refine st_u B7 rfl rfl ?_
 intro w8 B8 F8
 rw [q3_1] at B8
 refine st_u B8 rfl rfl ?_
 intro w9 B9 F9
 rw [q3_2] at B9
 have F69:Fm w4 w9 [b']:=(F7.trans F8 (fun x hx => .inl hx)).trans F9 (fun x hx => .inl hx)
 show ld _ _ _ _
 simp only [add_mk,Nat.add_zero]
 refine ld_b (t := .I .u64) (x:=((c+v*2^nb:Nat):Int)) B9 rfl ?_
 show ld _ _ _ _
 simp only [add_mk,Nat.zero_add]
 refine ld_b (t := .I .u64) (x:=((nb+n:Nat):Int)) B9 rfl ?_
 show ld _ _ _ _
 simp only [add_mk,Nat.zero_add]
 refine ld_b (t := .I .i64) (x:=((pos:Nat):Int)) B9 rfl ?_
 refine hk w9 (((F1.trans F2 (by simp)).trans F24 ?_).trans F69 ?_)
 ·intro v hv;simp at hv;right;omega
 ·intro v hv;simp at hv;right;omega
end
def q2C (a b:Value):Cells:=fun i=>match i with
 | 0=>some a
 | 1=>some b
 | _=>none
theorem nw_2 {w:World} {a b:Value} {T:TypeId} {κ:Addr→PT} (hk:∀w',Fm w w' []→w'.heap.size=w.heap.size+1→Blk w' w.heap.size (q2C a b)→κ ⟨w.heap.size,0,none⟩ w'):nw [a,b] T κ w :=
 hk _ (Fm.refl w []).alloc (World.size_alloc _ _) (Blk.new.congr (by funext i;rcases i with _|_|i<;>simp [q2C]))
section
variable {w:World} {va na vb nb vc nc vd nd:Nat}
theorem c151 {K:(Int×Int)→PT} (ha:va<2^na) (hb:vb<2^nb) (hc:vc<2^nc) (hd:vd<2^nd) (la:na≤11) (lb:nb≤11) (lc:nc≤11) (ld':nd≤11)
  (hk:∀w',Fm w w' []→K (((va+vb*2^na+vc*2^(na+nb)+vd*2^(na+nb+nc):Nat):Int),((na+nb+nc+nd:Nat):Int)) w') :
  callP Tryd.prog 151 #[.agg ⟨[.int .u16 (va:Nat),.int .u8 (na:Nat)]⟩,.agg ⟨[.int .u16 (vb:Nat),.int .u8 (nb:Nat)]⟩,.agg ⟨[.int .u16 (vc:Nat),.int .u8 (nc:Nat)]⟩,.agg ⟨[.int .u16 (vd:Nat),.int .u8 (nd:Nat)]⟩] [.c (.I .u64),.c (.I .u64)] K w:=by
 have p11:∀ {v n:Nat},v<2^n→n≤11→v<2048:=fun h1 h2=>Nat.lt_of_lt_of_le h1 (Nat.pow_le_pow_right (by omega) h2:2^_≤2^11)
 have pa:=p11 ha la
 have pb:=p11 hb lb
 have pc:=p11 hc lc
 have pd:=p11 hd ld'
 apply q151_ok (r0:=(((va:Nat):Int),((na:Nat):Int))) (r1:=(((vb:Nat):Int),((nb:Nat):Int))) (r2:=(((vc:Nat):Int),((nc:Nat):Int))) (r3:=(((vd:Nat):Int),((nd:Nat):Int)))
 unfold q151
 refine nw_2 ?_
 intro w1 F1 hs1 B1
 refine nw_2 ?_
 intro w2 F2 hs2 B2
 refine nw_2 ?_
 intro w3 F3 hs3 B3
 refine nw_2 ?_
 intro w4 F4 hs4 B4
 have B1':=((B1.fr F2 (by simp)).fr F3 (by simp)).fr F4 (by simp)
 have B2':=(B2.fr F3 (by simp)).fr F4 (by simp)
 have B3':=B3.fr F4 (by simp)
 simp only [add_mk,Nat.zero_add]
 refine ld_b (t := .I .u8) (x:=((na:Nat):Int)) B1' rfl ?_
 refine ld_b (t := .I .u8) (x:=((nb:Nat):Int)) B2' rfl ?_
 refine ld_b (t := .I .u8) (x:=((nc:Nat):Int)) B3' rfl ?_
 refine ld_b (t := .I .u16) (x:=((va:Nat):Int)) B1' rfl ?_
 refine ld_b (t := .I .u16) (x:=((vb:Nat):Int)) B2' rfl ?_
 have wu:∀ {n:Nat},n<100000→IntKind.u64.wrap ((n:Nat):Int)=((n:Nat):Int):=fun h=>wU64 (by omega) (by omega)
 have e1:IntKind.u64.wrap (((na:Nat):Int)+((nb:Nat):Int))=((na+nb:Nat):Int):=by rw [←Int.natCast_add];exact wu (by omega)
 have e2:IntKind.u64.wrap (((na+nb:Nat):Int)+((nc:Nat):Int))=((na+nb+nc:Nat):Int):=by rw [←Int.natCast_add];exact wu (by omega)
 have e3:IntKind.u64.wrap (((na+nb+nc:Nat):Int)+((nd:Nat):Int))=((na+nb+nc+nd:Nat):Int):=by rw [←Int.natCast_add];exact wu (by omega)
 rw [wu (n:=na) (by omega),wu (n:=nb) (by omega),wu (n:=nc) (by omega),wu (n:=va) (by omega),wu (n:=vb) (by omega),e1,e2,and63w (n:=na) (by omega),and63w (n:=na+nb) (by omega),and63w (n:=na+nb+nc) (by omega),(put_bits ha hb (by omega) (by omega)).1]
 refine ⟨by omega,?_⟩
 refine ld_b (t := .I .u16) (x:=((vc:Nat):Int)) B3' rfl ?_
 rw [wu (n:=vc) (by omega),(put_bits (add_lt ha hb) hc (by omega) (by omega)).1]
 refine ⟨by omega,?_⟩
 refine ld_b (t := .I .u16) (x:=((vd:Nat):Int)) B4 rfl ?_
 rw [wu (n:=vd) (by omega),(put_bits (add_lt (add_lt ha hb) hc) hd (by omega) (by omega)).1]
 refine ⟨by omega,?_⟩
 unfold drw
 refine ld_b (t := .I .u8) (x:=((nd:Nat):Int)) B4.drew rfl ?_
 rw [wu (n:=nd) (by omega),e3]
 exact hk _ (((F1.trans F2 (by simp)).trans F3 (by simp)).trans F4 (by simp)).drew
end
structure TB (w:World) (tb capt:Nat) (cd ln:Nat→Nat) (x:Nat):Prop where
 lt:x<256
 hl:ln x≤11
 hc:cd x<2^ln x
 c0:w.cell? ⟨tb,x*2,none⟩=some (.int .u16 (cd x:Nat))
 c1:w.cell? ⟨tb,x*2+1,none⟩=some (.int .u8 (ln x:Nat))
theorem TB.fr {w w':World} {tb capt x:Nat} {cd ln:Nat→Nat} {S:List Nat} (h:TB w tb capt cd ln x) (F:Fm w w' S) (hS:tb∉S):TB w' tb capt cd ln x:=by
 have hl:=World.block_lt_of_cell? _ _ h.c0
 have e:=F.old tb hl hS
 exact ⟨h.lt,h.hl,h.hc,by rw [←h.c0];exact cell?_of_heap e _ _,by rw [←h.c1];exact cell?_of_heap e _ _⟩
theorem ld_cc {w:World} {t:CT} {p:Addr} {x:t.ty} {κ:t.ty→PT} (h:w.cell? p=some (t.mk x)) (hk:κ x w):ld t p κ w:=⟨x,h,hk⟩
section
variable {w:World} {b bc nb tb capt x:Nat} {so:Sl} {cd ln:Nat→Nat}
theorem c147 {K:Unit→PT} (B:Blk w b (q3C (.int .u64 (bc:Nat)) (.int .u8 (nb:Nat)) so.val)) (T:TB w tb capt cd ln x) (hb:bc<2^nb) (hn:nb≤40)
  (hk:∀w',Blk w' b (q3C (.int .u64 (bc+cd x*2^nb:Nat)) (.int .u8 (nb+ln x:Nat)) so.val)→Fm w w' [b]→K () w') :
  callP Tryd.prog 147 #[.pointer (some ⟨b,0,none⟩),.slice (some ⟨tb,0,none⟩) 256 capt,.int .u8 (x:Nat)] [] K w:=by
 have hl:=T.hl
 have hc:=T.hc
 have hx:=T.lt
 have p11:cd x<2048:=Nat.lt_of_lt_of_le hc (Nat.pow_le_pow_right (by omega) hl:2^_≤2^11)
 apply q147_ok (s1:=⟨some ⟨tb,0,none⟩,256,capt⟩)
 unfold q147
 refine ixS_2 rfl hx ?_
 show ld (.I .u16) _ _ _
 simp only [add_mk,Nat.add_zero]
 refine ld_cc (t := .I .u16) (x:=((cd x:Nat):Int)) T.c0 ?_
 show ld (.I .u8) _ _ _
 simp only [add_mk,Nat.zero_add]
 refine ld_cc (t := .I .u8) (x:=((ln x:Nat):Int)) T.c1 ?_
 refine nw_2 ?_
 intro w1 F1 hs1 B1
 have hbl:=B.lt
 have d:b≠w.heap.size:=by omega
 have hr:w.heap.size≤w.heap.size:=Nat.le_refl _
 generalize hre:w.heap.size=r at *
 have B':=B.fr F1 (by simp)
 show st _ _ (st _ _ _) _
 simp only [add_mk,Nat.add_zero,Nat.zero_add]
 refine st_u B1 rfl rfl ?_
 intro w2 B2 F2
 refine st_u B2 rfl rfl ?_
 intro w3 B3 F3
 have F13:Fm w1 w3 [r]:=F2.trans F3 (fun x hx => .inl hx)
 have B'3:=B'.fr F13 (nm1 d)
 unfold drw
 refine ld_b (t := .I .u64) (x:=((bc:Nat):Int)) B'3.drew rfl ?_
 refine ld_b (t := .I .u16) (x:=((cd x:Nat):Int)) B3.drew rfl ?_
 refine ld_b (t := .I .u8) (x:=((nb:Nat):Int)) B'3.drew rfl ?_
 rw [and63b (by omega),wU64 (x:=((cd x:Nat):Int)) (by omega) (by omega),(put_bits hb hc (by omega) (by omega)).1]
 refine ⟨by omega,?_⟩
 refine st_u B'3.drew rfl rfl ?_
 intro w4 B4 F4
 rw [q3_0] at B4
 refine joinP_id ?_
 unfold q147_J0 drw
 simp only [add_mk,Nat.zero_add]
 refine ld_b (t := .I .u8) (x:=((nb:Nat):Int)) B4.drew rfl ?_
 refine ld_b (t := .I .u8) (x:=((ln x:Nat):Int)) ((B3.drew.fr F4 (nm1 d.symm)).drew) rfl ?_
 rw [wU8 (by omega) (by omega), ←Int.natCast_add]
 refine st_u B4.drew rfl rfl ?_
 intro w5 B5 F5
 rw [q3_1] at B5
 refine hk w5 B5 (((((F1.mono (S' := [b]) (by simp)).trans F13 ?_).drew).trans F4 (fun x hx => .inl hx)).drew.trans F5 (fun x hx => .inl hx))
 intro v hv;simp at hv;right;omega
end
theorem app_1k {T T':TypeId} {s:Sl} {κ:Sl→PT} {w:World} {l:List Nat} {v:Nat} {fs:List (Addr×Value)} (h:VecU w s l) (hb:s.l+1≤2^46) (hf:∀f∈fs,w.cell? f.1=some f.2)
  (hk:∀s' w',VecU w' s' (l ++ [v])→Fm w w' s'.bs→Fm w w' s.bs→(∀b∈s'.bs,b∈s.bs∨w.heap.size≤b)→κ s' w'):nw [.int .u8 (v:Nat)] T' (fun p=>kp fs (app z5 T 1 s ⟨some p,1,1⟩ κ)) w:=by
 have:=app_1uF (T:=T) (T':=T') (v:=v) h hb hk
 refine ⟨?_,this⟩
 intro f hff
 have h1:=hf f hff
 rw [World.cell?_alloc_lt _ _ _ (World.block_lt_of_cell? _ _ h1)]
 exact h1
section
variable {w:World} {b bc nb:Nat} {so:Sl} {ol:List Nat}
theorem c162 {K:Unit→PT} (B:Blk w b (q3C (.int .u64 (bc:Nat)) (.int .u8 (nb:Nat)) so.val)) (hb:bc<2^nb) (hn:nb≤62)
  (hk:∀w',Blk w' b (q3C (.int .u64 (bc+2^nb:Nat)) (.int .u8 (nb+1:Nat)) so.val)→Fm w w' [b]→K () w') :
  callP Tryd.prog 162 #[.pointer (some ⟨b,0,none⟩),.int .u16 1,.int .u8 1] [] K w:=by
 apply q162_ok
 unfold q162 drw
 simp only [add_mk,Nat.zero_add]
 refine ld_b (t := .I .u64) (x:=((bc:Nat):Int)) B.drew rfl ?_
 refine ld_b (t := .I .u8) (x:=((nb:Nat):Int)) B.drew rfl ?_
 have hp:=(put_bits (m:=1) (x:=1) hb (by decide) (by omega) (by omega)).1
 rw [Nat.one_mul] at hp
 rw [and63b (by omega),wU64 (x:=(1:Int)) (by omega) (by omega),show (1:Int)=((1:Nat):Int) from rfl,hp]
 refine ⟨by omega,?_⟩
 refine st_u B.drew rfl rfl ?_
 intro w1 B1 F1
 rw [q3_0] at B1
 refine ld_b (t := .I .u8) (x:=((nb:Nat):Int)) B1 rfl ?_
 rw [wU8 (by omega) (by omega), ←Int.natCast_add]
 refine st_u B1 rfl rfl ?_
 intro w2 B2 F2
 rw [q3_1] at B2
 exact hk w2 B2 (((Fm.refl w [b]).drew.trans F1 (fun x hx => .inl hx)).trans F2 (fun x hx => .inl hx))
theorem c163 {K:Unit→PT} (B:Blk w b (q3C (.int .u64 (bc:Nat)) (.int .u8 (nb:Nat)) so.val)) (H:VecU w so ol) (db:b∉so.bs) (hb:bc<2^nb) (hn:nb≤64) (hol:ol.length<2^40)
  (hk:∀w' so',Blk w' b (q3C (.int .u64 0) (.int .u8 0) so'.val)→VecU w' so' (ol++leB bc ((nb+7)/8))→b∉so'.bs→Fm w w' (b::so.bs)→(∀v∈so'.bs,v∈so.bs∨w.heap.size≤v)→Held w' so.a ol→K () w') :
  callP Tryd.prog 163 #[.pointer (some ⟨b,0,none⟩)] [] K w:=by
 have hbc:bc<2^64:=Nat.lt_of_lt_of_le hb (Nat.pow_le_pow_right (by omega) hn)
 have hbl:=B.lt
 apply q163_ok
 unfold q163
 simp only [add_mk,Nat.zero_add]
 refine ld_b (t := .I .u8) (x:=((nb:Nat):Int)) B rfl ⟨by decide,?_⟩
 have en:shrI .u8 (IntKind.u8.wrap ((nb:Int)+7)) 3=(((nb+7)/8:Nat):Int):=by
  rw [wU8 (by omega) (by omega)]
  exact shrI_nat .u8 (nb+7) 3 (by simp only [IntKind.bits];omega)
 refine joinP_id ?_
 refine ⟨fun x w'=>∃(i:Nat) (so':Sl),x=(i:Int)∧i≤(nb+7)/8∧Blk w' b (q3C (.int .u64 (bc:Nat)) (.int .u8 (nb:Nat)) so'.val)∧VecU w' so' (ol++leB bc i)∧b∉so'.bs∧Fm w w' (b::so.bs)∧(∀v∈so'.bs,v∈so.bs∨w.heap.size≤v)∧Held w' so.a ol,fun x _=>20-x.toNat,⟨0,so,rfl,Nat.zero_le _,B,by simpa [leB] using H,db,Fm.refl _ _,(fun v hv => .inl hv),H.held⟩,?_⟩
 rintro x w1 ⟨i,so1,rfl,hi,B1,H1,db1,F1,N1,Hh1⟩
 have dba:∀a,so.a=some a→a.block ∉ [b]:=by
  intro a ha
  simp
  exact fun e=>db (by unfold Sl.bs;rw [ha];simp [e])
 unfold q163_L0
 rw [en]
 simp only [add_mk,Nat.zero_add]
 have hsz:=F1.size
 refine cnd_d ?_ ?_
 ·intro hc
  have hi2:i<(nb+7)/8:=by omega
  unfold drw
  refine ld_b (t := .S) (x:=so1) B1.drew rfl ?_
  refine ld_b (t := .I .u64) (x:=((bc:Nat):Int)) B1.drew rfl ?_
  have e8:IntKind.u8.wrap ((i:Int)*8)=((8*i:Nat):Int):=by rw [wU8 (by omega) (by omega)];omega
  rw [e8,shr_b hbc]
  refine ⟨by omega,?_⟩
  have hl1:=H1.len
  rw [List.length_append,leB_len] at hl1
  refine app_1k (H1.fr (Fm.refl w1 []).drew (by simp)) (by omega) ?_ ?_
  ·intro f hf
   simp only [List.mem_cons,List.not_mem_nil,or_false] at hf
   subst hf
   exact B1.drew.cell 2
  intro so2 w2 H2 F2' F2 N2
  have e9:ol++leB bc i ++ [bc/2^(8*i)%256]=ol++leB bc (i+1):=by
   rw [leB_snoc,show (256:Nat)^i=2^(8*i) by rw [Nat.pow_mul],List.append_assoc]
  rw [e9] at H2
  have B2:=B1.drew.fr F2 db1
  have db2:b∉so2.bs:=fun h=>by
   rcases N2 b h with h1|h1
   ·exact db1 h1
   ·have:=B1.drew.lt;omega
  refine st_u B2 rfl rfl ?_
  intro w3 B3 F3
  have B3':Blk w3 b (q3C (.int .u64 (bc:Nat)) (.int .u8 (nb:Nat)) so2.val):=B3.congr (q3_2 _ _ _ _)
  rw [wU8 (by omega) (by omega)]
  refine ⟨⟨i+1,so2,by simp,hi2,B3',H2.fr F3 (by intro v hv;simp;exact fun e=>db2 (e▸hv)),db2,(F1.drew.trans F2 ?_).trans F3 (by intro v hv;simp at hv;simp [hv]),?_,((Hh1.fr (Fm.refl w1 []).drew (by simp)).vec H2 F2' (fun a _ h=>h)).fr F3 dba⟩,by omega⟩
  ·intro v hv
   rcases N1 v hv with h|h
   ·left;simp [h]
   ·exact .inr h
  ·intro v hv
   rcases N2 v hv with h|h
   ·exact N1 v h
   ·have:w1.drew.heap.size=w1.heap.size:=rfl
    right;omega
 ·intro hc
  have hi2:i=(nb+7)/8:=by omega
  subst hi2
  unfold q163_J1
  simp only [add_mk,Nat.zero_add]
  refine st_u B1 rfl rfl ?_
  intro w2 B2 F2
  rw [q3_1] at B2
  refine st_u B2 rfl rfl ?_
  intro w3 B3 F3
  rw [q3_0] at B3
  have F13:Fm w1 w3 [b]:=F2.trans F3 (fun x hx => .inl hx)
  exact hk w3 so1 B3 (H1.fr F13 (by intro v hv;simp;exact fun e=>db1 (e▸hv))) db1 (F1.trans F13 (by intro v hv;simp at hv;simp [hv])) N1 (Hh1.fr F13 dba)
theorem c152 {K:Unit→PT} (B:Blk w b (q3C (.int .u64 (bc:Nat)) (.int .u8 (nb:Nat)) so.val)) (H:VecU w so ol) (db:b∉so.bs) (hb:bc<2^nb) (hn:nb≤62) (hol:ol.length<2^40)
  (hk:∀w' so',Blk w' b (q3C (.int .u64 0) (.int .u8 0) so'.val)→VecU w' so' (ol++leB (bc+2^nb) ((nb+1+7)/8))→b∉so'.bs→Fm w w' (b::so.bs)→(∀v∈so'.bs,v∈so.bs∨w.heap.size≤v)→Held w' so.a ol→K () w') :
  callP Tryd.prog 152 #[.pointer (some ⟨b,0,none⟩)] [] K w:=by
 apply q152_ok
 unfold q152
 refine c162 B hb hn ?_
 intro w1 B1 F1
 have hsz:=F1.size
 refine c163 B1 (H.fr F1 (by intro v hv;simp;exact fun e=>db (e▸hv))) db (by rw [Nat.pow_succ];omega) (by omega) hol ?_
 intro w2 so2 B2 H2 db2 F2 N2 Hh2
 refine hk w2 so2 B2 H2 db2 ((F1.mono (by intro v hv;simp at hv;simp [hv])).trans F2 (fun x hx => .inl hx)) ?_ Hh2
 intro v hv
 rcases N2 v hv with h|h
 ·exact .inl h
 ·right;omega
end
section
variable {w:World} {a:Option Addr} {cap n:Nat} {pl:List Nat}
theorem c148 {K:Sl→PT} (H:VecU w ⟨a,pl.length,cap⟩ pl) (hn:n≤2^40) (hp:pl.length≤2^40) (hcap:cap<2^63)
  (hk:∀w' a' cap',VecU w' ⟨a',pl.length,cap'⟩ pl→pl.length+n≤cap'→cap'<2^63→Fm w w' []→(∀v∈(⟨a',pl.length,cap'⟩:Sl).bs,v∈(⟨a,pl.length,cap⟩:Sl).bs∨w.heap.size≤v)→K ⟨a',pl.length,cap'⟩ w') :
  callP Tryd.prog 148 #[.slice a pl.length cap,.int .i64 ((n:Nat):Int)] [.c .S] K w:=by
 apply q148_ok (s0:=⟨a,pl.length,cap⟩)
 unfold q148
 have hcp:=H.vec.cap
 simp only at hcp
 refine joinP_id (cnd_d (fun h=>absurd h (by omega)) (fun _ => ?_))
 unfold q148_J1
 have e1:IntKind.i64.wrap ((n:Int)-IntKind.i64.wrap ((cap:Int)-(pl.length:Int)))=(n:Int)-((cap:Int)-(pl.length:Int)):=by
  rw [wI64 (x:=(cap:Int)-(pl.length:Int)) (by omega) (by omega),wI64 (by omega) (by omega)]
 refine joinP_id ?_
 simp only [e1]
 refine cnd_d ?_ ?_
 ·intro hc
  refine slc_hi (m:=cap) rfl (Nat.le_refl _) ?_
  obtain ⟨m,hm⟩:∃m:Nat,(n:Int)-((cap:Int)-(pl.length:Int))=(m:Int):=⟨((n:Int)-((cap:Int)-(pl.length:Int))).toNat,by omega⟩
  obtain ⟨os,ho1,ho2,ho3⟩:∃os:List Value,os.length=cap∧(∀b,a=some b→∀i,i<os.length→w.cell? (b.add i)=os[i]?)∧(∀i (h:i<os.length),(∃x:Int,os[i] = .int .u8 x)∧(∀h2:i<pl.length,os[i] = .int .u8 (pl[i]:Nat))):=by
   cases ha:a with
   | none =>
    have h0:=H.vec.non ha
    simp only at h0
    refine ⟨[],by simp [h0],by simp,?_⟩
    intro i h;simp at h
   | some b =>
    subst ha
    obtain ⟨h1,h2,f,h3,h4,h5⟩:=H.vec.blk b rfl
    have hu:=H.u8 b rfl
    obtain ⟨ab,ao,asp⟩:=b
    simp only at h1 h2 h3 hu h5
    subst h1 h2
    refine ⟨(List.range cap).map fun i=>(f i).getD (.int .u8 0),by simp,?_,?_⟩
    ·intro b hb i hi
     injection hb with hb
     subst hb
     have hi2:i<cap:=by simpa using hi
     rw [add_mk,Nat.zero_add,h3.cell,List.getElem?_map,List.getElem?_range hi2]
     have:=h5 i (by omega)
     obtain ⟨v,hv⟩:=Option.isSome_iff_exists.mp this
     simp [hv]
    ·intro i hi
     have hi2:i<cap:=by simpa using hi
     obtain ⟨x,hx⟩:=hu i hi2
     rw [h3.cell] at hx
     refine ⟨⟨x,by simp [hx]⟩,?_⟩
     intro h6
     have h7:=h4 i (by rw [bytes_len];exact h6)
     unfold bytes at h7
     rw [List.getElem?_map,List.getElem?_eq_getElem h6] at h7
     simp [h7]
  refine ⟨m,hm,?_,?_,os,?_,ho2,?_,?_⟩
  ·show (cap+m)*1≤2^46
   omega
  ·show cap<cap+m
   omega
  ·show os.length=cap*1
   omega
  ·intro ha
   have h0:=H.vec.non ha
   simp only at h0
   exact List.length_eq_zero_iff.mp (by omega)
  ·intro c hc1 hc2
   simp only at hc1
   have B:Blk (w.drew.alloc (.cells (os.toArray++zrep z5 m++zrep z5 (c-(cap+m))) 5)) w.drew.heap.size fun i=>(os.toArray++zrep z5 m++zrep z5 (c-(cap+m)))[i]? := Blk.new
   have hz:∀k i,i<k→(zrep z5 k)[i]? = some (.int .u8 0):=fun k i h=>by
    show (zrep [.int .u8 0] k)[i]? = _
    rw [zrep1,if_pos h]
   have hzs:∀k,(zrep z5 k).size=k:=fun k=>by rw [zrep_size];show k*1=k;omega
   have hcell:∀i,i<c→∃y:Int,(os.toArray++zrep z5 m++zrep z5 (c-(cap+m)))[i]? = some (.int .u8 y):=by
    intro i hi
    by_cases h1:i<cap
    ·rw [Array.getElem?_append_left (by simp only [Array.size_append,List.size_toArray];omega),Array.getElem?_append_left (by simp only [List.size_toArray];omega)]
     obtain ⟨⟨x,hx⟩,_⟩:=ho3 i (by omega)
     refine ⟨x,?_⟩
     rw [List.getElem?_toArray,List.getElem?_eq_getElem (by omega),hx]
    ·refine ⟨0,?_⟩
     by_cases h2:i<cap+m
     ·rw [Array.getElem?_append_left (by simp only [Array.size_append,List.size_toArray,hzs];omega),Array.getElem?_append_right (by simp only [List.size_toArray];omega)]
      exact hz _ _ (by simp only [List.size_toArray];omega)
     ·rw [Array.getElem?_append_right (by simp only [Array.size_append,List.size_toArray,hzs];omega)]
      exact hz _ _ (by simp only [Array.size_append,List.size_toArray,hzs];omega)
   refine slc_hi (m:=pl.length) rfl (by show pl.length≤c;omega) ?_
   unfold q148_J0
   refine hk _ _ c ⟨⟨?_,?_,?_,?_⟩,?_,hc2⟩ (by omega) hc2 (Fm.refl w []).drew.alloc ?_
   ·rw [bytes_len];simp
   ·show pl.length≤c;omega
   ·intro h;cases h
   ·intro b hb
    injection hb with hb
    subst hb
    refine ⟨rfl,rfl,_,B,?_,?_⟩
    ·intro i hi
     rw [bytes_len] at hi
     rw [Array.getElem?_append_left (by simp only [Array.size_append,List.size_toArray];omega),Array.getElem?_append_left (by simp only [List.size_toArray];omega),List.getElem?_toArray,List.getElem?_eq_getElem (by omega),(ho3 i (by omega)).2 hi]
     unfold bytes
     rw [List.getElem?_map,List.getElem?_eq_getElem hi];rfl
    ·intro i hi
     obtain ⟨y,hy⟩:=hcell i (by simp only at hi;omega)
     rw [hy];rfl
   ·intro b hb i hi
    injection hb with hb
    subst hb
    obtain ⟨y,hy⟩:=hcell i hi
    exact ⟨y,by rw [←hy];exact B.cell i⟩
   ·intro v hv
    right
    unfold Sl.bs at hv
    simp at hv
    subst hv
    exact Nat.le_refl _
 ·intro hc
  unfold q148_J0
  exact hk w a cap H (by omega) hcap (Fm.refl _ _) (fun v hv => .inl hv)
end
def hE (cd ln:Nat→Nat):List Nat→Nat×Nat
 | []=>(0,0)
 | x::r=>((hE cd ln r).1+cd x*2^(hE cd ln r).2,(hE cd ln r).2+ln x)
structure EB (ol:List Nat) (c nb V t:Nat):Prop where
 val:leN ol+2^(8*ol.length)*c=V
 len:8*ol.length+nb=t
 lt:c<2^nb
 by_:By ol
theorem EB.add {ol:List Nat} {c nb V t v n:Nat} (h:EB ol c nb V t) (hv:v<2^n):EB ol (c+v*2^nb) (nb+n) (V+v*2^t) (t+n) :=
 ⟨content_add ol c nb v V t h.val h.len,by have:=h.len;omega,add_lt h.lt hv,h.by_⟩
theorem EB.flush {ol:List Nat} {c nb V t:Nat} (h:EB ol c nb V t):EB (ol++leB c (nb/8)) (c/2^(8*(nb/8))) (nb%8) V t:=by
 refine ⟨content_out ol c (nb/8) V h.val,?_,?_,h.by_.app (leB_by _ _)⟩
 ·rw [List.length_append,leB_len];have:=h.len;omega
 ·rw [Nat.div_lt_iff_lt_mul (Nat.two_pow_pos _), ←Nat.pow_add,show nb%8+8*(nb/8)=nb by omega]
  exact h.lt
theorem EB.close {ol:List Nat} {c nb V t:Nat} (h:EB ol c nb V t):By (ol++leB (c+2^nb) ((nb+1+7)/8))∧leN (ol++leB (c+2^nb) ((nb+1+7)/8))=V+2^t∧(ol++leB (c+2^nb) ((nb+1+7)/8)).length=t/8+1:=by
 have hlt:=h.lt
 have hle:c+2^nb<256^((nb+1+7)/8):=by
  have h1:c+2^nb<2^(nb+1):=by rw [Nat.pow_succ];omega
  have h2:2^(nb+1)≤2^(8*((nb+1+7)/8)):=Nat.pow_le_pow_right (by omega) (by omega)
  rw [Nat.pow_mul,show (2:Nat)^8=256 from rfl] at h2
  omega
 refine ⟨h.by_.app (leB_by _ _),?_,?_⟩
 ·rw [leN_append,leB_val,Nat.mod_eq_of_lt hle,show (256:Nat)^ol.length=2^(8*ol.length) by rw [Nat.pow_mul]]
  have:=content_add ol c nb 1 V t h.val h.len
  rw [Nat.one_mul,Nat.one_mul] at this
  exact this
 ·rw [List.length_append,leB_len]
  have:=h.len
  omega
theorem hE_le {cd ln:Nat→Nat} : ∀ {xs:List Nat},(∀x∈xs,ln x≤11)→(hE cd ln xs).2≤11*xs.length
 | [],_=>Nat.le_refl _
 | x::r,h=>by
  have h1:=hE_le (cd:=cd) (xs:=r) (fun y hy=>h y (List.mem_cons_of_mem _ hy))
  have h2:=h x (List.mem_cons_self ..)
  simp only [hE,List.length_cons];omega
theorem hE_four (cd ln:Nat→Nat) (a b c d:Nat) (r:List Nat):hE cd ln (a::b::c::d::r)=((hE cd ln r).1+(cd d+cd c*2^ln d+cd b*2^(ln d+ln c)+cd a*2^(ln d+ln c+ln b))*2^(hE cd ln r).2,(hE cd ln r).2+(ln d+ln c+ln b+ln a)):=by
 have e1:hE cd ln (d::r)=((hE cd ln r).1+cd d*2^(hE cd ln r).2,(hE cd ln r).2+ln d):=rfl
 have e2:hE cd ln (c::d::r)=((hE cd ln (d::r)).1+cd c*2^(hE cd ln (d::r)).2,(hE cd ln (d::r)).2+ln c):=rfl
 have e3:hE cd ln (b::c::d::r)=((hE cd ln (c::d::r)).1+cd b*2^(hE cd ln (c::d::r)).2,(hE cd ln (c::d::r)).2+ln b):=rfl
 have e4:hE cd ln (a::b::c::d::r)=((hE cd ln (b::c::d::r)).1+cd a*2^(hE cd ln (b::c::d::r)).2,(hE cd ln (b::c::d::r)).2+ln a):=rfl
 rw [e4,e3,e2,e1]
 simp only
 generalize (hE cd ln r).1=V
 generalize (hE cd ln r).2=t
 rw [Prod.mk.injEq]
 refine ⟨?_,by omega⟩
 simp only [Nat.add_mul,Nat.pow_add,Nat.mul_assoc]
 have k1:2^t*2^ln d=2^ln d*2^t:=Nat.mul_comm _ _
 have k2:2^t*(2^ln d*2^ln c)=2^ln d*(2^ln c*2^t):=by rw [Nat.mul_left_comm,Nat.mul_comm (2^t)]
 have k3:2^t*(2^ln d*(2^ln c*2^ln b))=2^ln d*(2^ln c*(2^ln b*2^t)):=by rw [Nat.mul_left_comm,Nat.mul_left_comm (2^t),Nat.mul_comm (2^t)]
 rw [k1,k2,k3]
 omega
theorem four_lt {a b c d na nb nc nd:Nat} (ha:a<2^na) (hb:b<2^nb) (hc:c<2^nc) (hd:d<2^nd):d+c*2^nd+b*2^(nd+nc)+a*2^(nd+nc+nb)<2^(nd+nc+nb+na) :=
 add_lt (add_lt (add_lt hd hc) hb) ha
section
variable {w:World} {tb capt:Nat} {cd ln:Nat→Nat}
theorem entW {κ:Int×Int→PT} {s33:Sl} {l:List Nat} {i:Int} (h:Arr .u8 w s33 l) (n:Nat) (hi:i=n) (hn:n<l.length) (T:TB w tb capt cd ln l[n]) (hk:κ (((cd l[n]:Nat):Int),((ln l[n]:Nat):Int)) w) :
  (ixS 1 s33 i fun (p35:Addr)=>ld (.I .u8) p35 fun (n36:Int)=>ixS 2 ⟨some ⟨tb,0,none⟩,256,capt⟩ n36 fun (p37:Addr)=>ldL [(.I .u16),(.I .u8)] p37 0 κ) w:=by
 refine h.ldk n hi hn ?_
 intro p hp
 refine ld_c (t := .I .u8) (x:=((l[n]:Nat):Int)) hp ?_
 refine ixS_2 rfl T.lt ?_
 show ld (.I .u16) _ _ _
 simp only [add_mk,Nat.add_zero]
 refine ld_c (t := .I .u16) (x:=((cd l[n]:Nat):Int)) T.c0 ?_
 show ld (.I .u8) _ _ _
 simp only [add_mk,Nat.zero_add]
 exact ld_c (t := .I .u8) (x:=((ln l[n]:Nat):Int)) T.c1 hk
theorem ld3 {κ:Int×Int×Int→PT} {r:Nat} {a b c:Int} (B:Blk w r (q3C (.int .u64 a) (.int .u64 b) (.int .i64 c))) (hk:κ (a,b,c) w):ldL [(.I .u64),(.I .u64),(.I .i64)] ⟨r,0,none⟩ 0 κ w:=by
 show ld (.I .u64) _ _ _
 simp only [add_mk,Nat.add_zero]
 refine ld_b (t := .I .u64) (x:=a) B rfl ?_
 show ld (.I .u64) _ _ _
 simp only [add_mk,Nat.zero_add]
 refine ld_b (t := .I .u64) (x:=b) B rfl ?_
 show ld (.I .i64) _ _ _
 simp only [add_mk,Nat.zero_add]
 exact ld_b (t := .I .i64) (x:=c) B rfl hk
theorem st3 {κ:PT} {r:Nat} {u v x a b c:Value} (B:Blk w r (q3C u v x)) (h1:one a=true) (h2:one b=true) (h3:one c=true) (hk:∀w',Blk w' r (q3C a b c)→Fm w w' [r]→κ w'):stL ⟨r,0,none⟩ 0 [a,b,c] κ w:=by
 show st _ _ (st _ _ (st _ _ _)) _
 simp only [add_mk,Nat.add_zero,Nat.zero_add]
 refine st_u B rfl h1 ?_
 intro w7 B7 F7
 rw [q3_0] at B7
 refine st_u B7 rfl h2 ?_
 intro w8 B8 F8
 rw [q3_1] at B8
 refine st_u B8 rfl h3 ?_
 intro w9 B9 F9
 rw [q3_2] at B9
 exact hk w9 B9 ((F7.trans F8 (fun x hx => .inl hx)).trans F9 (fun x hx => .inl hx))
end
theorem drop_four {xs:List Nat} {j:Nat} (hj:1≤j) (h:4*j≤xs.length):∃a b c d,xs.drop (4*(j-1))=a::b::c::d::xs.drop (4*j):=by
 have h0:4*(j-1)<xs.length:=by omega
 refine ⟨xs[4*(j-1)],xs[4*(j-1)+1]'(by omega),xs[4*(j-1)+2]'(by omega),xs[4*(j-1)+3]'(by omega),?_⟩
 rw [List.drop_eq_getElem_cons h0,List.drop_eq_getElem_cons (i:=4*(j-1)+1) (by omega),List.drop_eq_getElem_cons (i:=4*(j-1)+1+1) (by omega),List.drop_eq_getElem_cons (i:=4*(j-1)+1+1+1) (by omega),show 4*(j-1)+1+1+1+1=4*j by omega]
section
variable {w:World} {r ob cap tb capt m k c nb:Nat} {cd ln:Nat→Nat} {pre ol xs:List Nat} {s2:Sl}
theorem c1_inner {A23:Int×Sl→PT} (hsrc:Arr .u8 w s2 xs) (hT:∀x∈xs,TB w tb capt cd ln x) (B:Blk w r (q3C (.int .u64 (c:Nat)) (.int .u64 (nb:Nat)) (.int .i64 ((pre++ol).length:Nat)))) (H:VecU w ⟨some ⟨ob,0,none⟩,(pre++ol).length,cap⟩ (pre++ol))
  (E:EB ol c nb (hE cd ln (xs.drop (4*m))).1 (hE cd ln (xs.drop (4*m))).2) (hnb:nb≤51) (hm1:1≤m) (hm:4*m≤xs.length) (hxs:xs.length≤2^30) (hk1:1≤k) (hke:k=(cap-(pre++ol).length-8)/6) (hcap:cap<2^63)
  (dr:r≠ob) (drt:r≠tb) (dot:ob≠tb) (ds:∀a,s2.a=some a→xs ≠ []→a.block ∉ [r,ob])
  (hk:∀w' j ol' c' nb',j<m→nb'≤51→EB ol' c' nb' (hE cd ln (xs.drop (4*j))).1 (hE cd ln (xs.drop (4*j))).2→VecU w' ⟨some ⟨ob,0,none⟩,(pre++ol').length,cap⟩ (pre++ol')→Blk w' r (q3C (.int .u64 (c':Nat)) (.int .u64 (nb':Nat)) (.int .i64 ((pre++ol').length:Nat)))→Fm w w' [r,ob]→A23 ((4*j:Nat)-(4:Int),⟨some ⟨ob,0,none⟩,cap,cap⟩) w') :
  loopP ((4*m:Nat)-(4:Int)) (q120_L1 s2 ⟨some ⟨tb,0,none⟩,256,capt⟩ ⟨r,0,none⟩ ((4*m:Nat)-(4:Int),⟨some ⟨ob,0,none⟩,cap,cap⟩) A23 ((pre++ol).length:Nat)) w:=by
 have hposle:(pre++ol).length≤cap:=H.vec.cap
 have hroom:(pre++ol).length+8+6*k≤cap:=by omega
 have hpl:(pre++ol).length=pre.length+ol.length:=List.length_append
 refine ⟨fun x w'=>∃(j:Nat) (ol':List Nat) (c' nb':Nat),x=(4*j:Nat)-(4:Int)∧j≤m∧m≤j+k∧ol'.length≤ol.length+6*(m-j)∧nb'≤51∧EB ol' c' nb' (hE cd ln (xs.drop (4*j))).1 (hE cd ln (xs.drop (4*j))).2∧VecU w' ⟨some ⟨ob,0,none⟩,(pre++ol').length,cap⟩ (pre++ol')∧Blk w' r (q3C (.int .u64 (c':Nat)) (.int .u64 (nb':Nat)) (.int .i64 ((pre++ol').length:Nat)))∧Fm w w' [r,ob],fun x _=>(x+4).toNat,
  ⟨m,ol,c,nb,rfl,Nat.le_refl _,by omega,by omega,hnb,E,H,B,Fm.refl _ _⟩,?_⟩
 rintro x w1 ⟨j,ol1,c1,nb1,rfl,hj,hjk,hol1,hnb1,E1,H1,B1,F1⟩
 have hpl1:(pre++ol1).length=pre.length+ol1.length:=List.length_append
 unfold q120_L1
 simp only
 have eK:quoI .i64 (IntKind.i64.wrap (IntKind.i64.wrap ((cap:Int)-((pre++ol).length:Nat))-8)) 6=((k:Nat):Int):=by
  rw [wI64 (x:=(cap:Int)-((pre++ol).length:Nat)) (by omega) (by omega),wI64 (by omega) (by omega),show (cap:Int)-((pre++ol).length:Nat)-8=((cap-(pre++ol).length-8:Nat):Int) by omega,show (6:Int)=((6:Nat):Int) from rfl,quoI_nat _ _ _ (by simp only [IntKind.bits];omega), ←hke]
 rw [eK,wI64 (x:=4*((k:Nat):Int)) (by omega) (by omega),wI64 (x:=(4*m:Nat)-(4:Int)-4*((k:Nat):Int)) (by omega) (by omega)]
 have estop:maxI ((4*m:Nat)-(4:Int)-4*((k:Nat):Int)) (-4)=((4*(m-k):Nat):Int)-4:=by
  unfold maxI
  split<;>omega
 rw [estop]
 refine cnd_d ?_ ?_
 ·intro hc
  have hj1:1≤j:=by omega
  have hjk2:m<j+k:=by omega
  have h8:(pre++ol1).length+8≤cap:=by omega
  have hlen1:=E1.len
  refine ld3 B1 ?_
  dsimp only
  refine c149 H1 h8 hcap (by omega) E1.lt ?_
  intro w2 H2 F2
  have B2:=B1.fr F2 (nm1 dr)
  refine st3 B2 rfl rfl rfl ?_
  intro w3 B3 F3
  have H3:=H2.fr F3 (by simp [Sl.bs];exact fun e=>dr e.symm)
  have F13:Fm w w3 [r,ob]:=(F1.trans F2 (by intro v hv;simp at hv;simp [hv])).trans F3 (by intro v hv;simp at hv;simp [hv])
  obtain ⟨xa,xb,xc,xd,hd⟩:=drop_four hj1 (show 4*j≤xs.length by omega)
  have hsub:=hsrc.sub (4*(j-1)) (4*j) (by omega) (by omega)
  rw [hd,show 4*j-4*(j-1)=4 by omega] at hsub
  have et:(xa::xb::xc::xd::xs.drop (4*j)).take 4 = [xa,xb,xc,xd]:=rfl
  rw [et] at hsub
  have hmem:∀x ∈ [xa,xb,xc,xd],x∈xs:=by
   intro x hx
   have h1:x∈xs.drop (4*(j-1)):=by
    rw [hd]
    simp only [List.mem_cons,List.not_mem_nil,or_false] at hx ⊢
    rcases hx with h|h|h|h<;>simp [h]
   exact List.mem_of_mem_drop h1
  have hxn:xs ≠ []:=by intro e;rw [e] at hm;simp at hm;omega
  refine slc_lh (n:=4*(j-1)) (m:=4*j) (by omega) (by rw [wI64 (by omega) (by omega)];omega) (by omega) (by have:=hsrc.cap;have:=hsrc.len;omega) ?_
  rw [show 4*j-4*(j-1)=4 by omega]
  have hsrc3:Arr .u8 w3 ⟨slA s2.a (4*(j-1)) s2.c 1,4,s2.c-4*(j-1)⟩ [xa,xb,xc,xd]:=by
   refine hsub.fr F13 ?_
   intro a ha _
   simp only at ha
   unfold slA at ha
   split at ha
   ·exact ds a ha hxn
   ·cases hs:s2.a with
    | none=>rw [hs] at ha;cases ha
    | some b =>
     rw [hs] at ha
     simp only [Option.map_some,Option.some.injEq] at ha
     have hb:=ds b hs hxn
     rw [←ha]
     have e:(b.add (4*(j-1)*1)).block=b.block:=by unfold Addr.add;split<;>rfl
     rw [e]
     exact hb
  have dtr:tb ∉ [r,ob]:=by simp;exact ⟨fun e=>drt e.symm,fun e=>dot e.symm⟩
  have T3:∀x ∈ [xa,xb,xc,xd],TB w3 tb capt cd ln x:=fun x hx=>(hT x (hmem x hx)).fr F13 dtr
  have Fd:Fm w3 w3.drew []:=(Fm.refl w3 []).drew
  have hs3d:=hsrc3.fr Fd (fun _ _ _=>by simp)
  have T3d:∀x ∈ [xa,xb,xc,xd],TB w3.drew tb capt cd ln x:=fun x hx=>(T3 x hx).fr Fd (by simp)
  have Ta:=T3d xa (by simp)
  have Tb:=T3d xb (by simp)
  have Tc:=T3d xc (by simp)
  have Td:=T3d xd (by simp)
  unfold drw
  refine ld3 B3.drew ?_
  refine entW hs3d 3 rfl (by simp) Td ?_
  refine entW hs3d 2 rfl (by simp) Tc ?_
  refine entW hs3d 1 rfl (by simp) Tb ?_
  refine entW hs3d 0 rfl (by simp) Ta ?_
  show callP _ _ _ _ _ _
  dsimp only [List.getElem_cons_succ,List.getElem_cons_zero]
  refine c151 Td.hc Tc.hc Tb.hc Ta.hc Td.hl Tc.hl Tb.hl Ta.hl ?_
  intro w4 F4
  have B4:=B3.drew.fr F4 (by simp)
  have e0:=B4.cell 0
  have e1:=B4.cell 1
  have e2:=B4.cell 2
  simp only [add_mk,Nat.zero_add,Nat.add_zero]
  refine ⟨?_,?_⟩
  ·intro f hf
   simp only [List.mem_cons,List.not_mem_nil,or_false] at hf
   rcases hf with rfl|rfl|rfl
   ·exact e0
   ·exact e1
   ·exact e2
  have E2:=E1.flush
  have hv4:=four_lt Ta.hc Tb.hc Tc.hc Td.hc
  have E3:=E2.add hv4
  rw [show (hE cd ln (xs.drop (4*j))).1+(cd xd+cd xc*2^ln xd+cd xb*2^(ln xd+ln xc)+cd xa*2^(ln xd+ln xc+ln xb))*2^(hE cd ln (xs.drop (4*j))).2=(hE cd ln (xs.drop (4*(j-1)))).1 by rw [hd,hE_four],show (hE cd ln (xs.drop (4*j))).2+(ln xd+ln xc+ln xb+ln xa)=(hE cd ln (xs.drop (4*(j-1)))).2 by rw [hd,hE_four]] at E3
  have la:=Ta.hl
  have lb:=Tb.hl
  have lc:=Tc.hl
  have ld':=Td.hl
  refine c150 (by omega) E2.lt hv4 (by omega) ?_
  intro w5 F5
  have B5:=B4.fr F5 (by simp)
  refine st3 B5 rfl rfl rfl ?_
  intro w6 B6 F6
  rw [wI64 (by omega) (by omega)]
  have F36:Fm w3 w6 [r]:=(((Fm.refl w3 []).drew.trans F4 (by simp)).trans F5 (by simp) |>.mono (by simp)).trans F6 (fun x hx => .inl hx)
  have epl:(pre++(ol1++leB c1 (nb1/8))).length=(pre++ol1).length+nb1/8:=by rw [←List.append_assoc,List.length_append,leB_len]
  have H6:=H3.fr F36 (by simp [Sl.bs];exact fun e=>dr e.symm)
  rw [←epl,List.append_assoc] at H6
  rw [←epl] at B6
  refine ⟨⟨j-1,ol1++leB c1 (nb1/8),_,_,by omega,by omega,by omega,?_,?_,E3,H6,B6,F13.trans F36 (by intro v hv;simp at hv;simp [hv])⟩,by omega⟩
  ·rw [List.length_append,leB_len];omega
  ·omega
 ·intro hc
  exact hk w1 j ol1 c1 nb1 (by omega) hnb1 E1 H1 B1 F1
end
def flagF (o:Option Value) (c:Nat):Nat:=match o with
 | some (.int .i64 p)=>if p+14≤(c:Int) then 0 else 1
 | _=>0
theorem tdiv_le0 {x:Int} (h:x<6) (h2 : -8≤x):quoI .i64 x 6≤0:=by
 unfold quoI
 by_cases h0:0≤x
 ·obtain ⟨n,rfl⟩:∃n:Nat,x=n:=⟨x.toNat,by omega⟩
  have:(n:Int).tdiv 6=0:=by
   rw [Int.tdiv_eq_ediv_of_nonneg (by omega)];omega
  rw [this,wI64 (by omega) (by omega)]
  omega
 ·obtain ⟨n,rfl⟩:∃n:Nat,x = -(n:Int):=⟨(-x).toNat,by omega⟩
  have e:((n:Int)).tdiv 6=(n:Int)/6:=Int.tdiv_eq_ediv_of_nonneg (by omega)
  rw [Int.neg_tdiv,e,wI64 (by omega) (by omega)]
  omega
section
variable {w:World} {r tb capt m:Nat} {cd ln:Nat→Nat} {pre xs:List Nat} {s2:Sl}
structure BI (w0 w:World) (r m:Nat) (bs0:List Nat) (asp:Option Addr) (cd ln:Nat→Nat) (pre xs:List Nat) (a:Option Addr) (cap:Nat) (ol:List Nat) (c nb:Nat):Prop where
 nb51:nb≤51
 e:EB ol c nb (hE cd ln (xs.drop (4*m))).1 (hE cd ln (xs.drop (4*m))).2
 h:VecU w ⟨a,(pre++ol).length,cap⟩ (pre++ol)
 cap_:cap<2^63
 b:Blk w r (q3C (.int .u64 (c:Nat)) (.int .u64 (nb:Nat)) (.int .i64 ((pre++ol).length:Nat)))
 new:∀v∈(⟨a,(pre++ol).length,cap⟩:Sl).bs,v∈bs0∨w0.heap.size≤v
 fr:Fm w0 w (r::bs0)
 held:Held w asp pre
theorem c1_outer {R21:Sl→PT} {a0 as0:Option Addr} {cap0 c0 nb0:Nat} {ol0 bs0:List Nat} (hsrc:Arr .u8 w s2 xs) (hT:∀x∈xs,TB w tb capt cd ln x) (hm:4*m≤xs.length) (hxs:xs.length≤2^30) (hpre:pre.length≤2^30)
  (I:BI w w r m bs0 as0 cd ln pre xs a0 cap0 ol0 c0 nb0) (hr:r∉bs0) (has:∀a,as0=some a→a.block≠r) (drt:r≠tb) (dot:tb∉bs0) (ds:∀a,s2.a=some a→xs ≠ []→a.block∉r::bs0)
  (hk:∀w' a cap ol c nb,BI w w' r 0 bs0 as0 cd ln pre xs a cap ol c nb→R21 ⟨a,cap,cap⟩ w') :
  loopP ((4*m:Nat)-(4:Int),(⟨a0,cap0,cap0⟩:Sl)) (q120_L2 s2 ⟨some ⟨tb,0,none⟩,256,capt⟩ ⟨r,0,none⟩ R21) w:=by
 have hrl:=I.b.lt
 refine ⟨fun x w'=>∃(m':Nat) (a:Option Addr) (cap:Nat) (ol:List Nat) (c nb:Nat),x=((4*m':Nat)-(4:Int),⟨a,cap,cap⟩)∧m'≤m∧BI w w' r m' bs0 as0 cd ln pre xs a cap ol c nb,fun x w'=>2*((x.1+4).toNat/4)+flagF (w'.cell? ⟨r,2,none⟩) x.2.c,⟨m,a0,cap0,ol0,c0,nb0,rfl,Nat.le_refl _,I⟩,?_⟩
 rintro x w1 ⟨m1,a,cap,ol,c,nb,rfl,hm1,I1⟩
 have hrc:=I1.b.cell 2
 have hposle:(pre++ol).length≤cap:=I1.h.vec.cap
 have hcap:=I1.cap_
 have hol:8*ol.length≤11*xs.length:=by
  have h1:=I1.e.len
  have h2:=hE_le (cd:=cd) (ln:=ln) (xs:=xs.drop (4*m1)) (fun x hx=>(hT x (List.mem_of_mem_drop hx)).hl)
  rw [List.length_drop] at h2
  omega
 have hpl:(pre++ol).length=pre.length+ol.length:=List.length_append
 have hsz:=I1.fr.size
 have hra:r∉(⟨a,(pre++ol).length,cap⟩:Sl).bs:=fun h=>by
  rcases I1.new r h with h1|h1
  ·exact hr h1
  ·omega
 unfold q120_L2
 simp only [add_mk,Nat.zero_add]
 have hflag:flagF (w1.cell? ⟨r,2,none⟩) cap=if (pre++ol).length+14≤cap then 0 else 1:=by
  rw [hrc]
  show (if (((pre++ol).length:Nat):Int)+14≤(cap:Int) then 0 else 1)=_
  by_cases h:(pre++ol).length+14≤cap
  ·rw [if_pos h,if_pos (by omega)]
  ·rw [if_neg h,if_neg (by omega)]
 rw [hflag]
 refine cnd_d ?_ ?_
 ·intro hc
  have hm10:1≤m1:=by omega
  have hxn:xs ≠ []:=by intro e;subst e;simp at hm;omega
  obtain ⟨x0,hx0⟩:=List.exists_mem_of_ne_nil xs hxn
  have htl:=World.block_lt_of_cell? _ _ (hT x0 hx0).c0
  simp only at htl
  refine ld_b (t := .I .i64) (x:=(((pre++ol).length:Nat):Int)) I1.b rfl ?_
  refine ⟨by decide,?_⟩
  have e1:IntKind.i64.wrap (IntKind.i64.wrap ((cap:Int)-((pre++ol).length:Nat))-8)=(cap:Int)-((pre++ol).length:Nat)-8:=by
   rw [wI64 (x:=(cap:Int)-((pre++ol).length:Nat)) (by omega) (by omega),wI64 (by omega) (by omega)]
  by_cases hk6:(pre++ol).length+14≤cap
  ·-- there is room
   have ek:quoI .i64 ((cap:Int)-((pre++ol).length:Nat)-8) 6=(((cap-(pre++ol).length-8)/6:Nat):Int):=by
    rw [show (cap:Int)-((pre++ol).length:Nat)-8=((cap-(pre++ol).length-8:Nat):Int) by omega,show (6:Int)=((6:Nat):Int) from rfl,quoI_nat _ _ _ (by simp only [IntKind.bits];omega)]
   rw [if_pos hk6]
   refine cnd_d ?_ ?_
   ·intro h
    rw [e1,ek] at h
    omega
   ·intro _
    cases ha:a with
    | none =>
     have:=I1.h.vec.non ha
     simp only at this
     omega
    | some aa =>
     subst ha
     obtain ⟨h1,h2,_⟩:=I1.h.vec.blk aa rfl
     obtain ⟨ob,ao,asp⟩:=aa
     simp only at h1 h2
     subst h1 h2
     have hob:=I1.new ob (by simp [Sl.bs])
     have dr:r≠ob:=fun e=>hra (by simp [Sl.bs,e])
     have dot1:ob≠tb:=by
      intro e
      rcases hob with h|h
      ·exact dot (e▸h)
      ·omega
     have ds1:∀a,s2.a=some a→xs ≠ []→a.block ∉ [r,ob]:=by
      intro a ha hx
      have h3:=ds a ha hx
      have h4:=hsrc.old hx a ha
      simp only [List.mem_cons,not_or,List.not_mem_nil,or_false] at h3 ⊢
      refine ⟨h3.1,?_⟩
      intro e
      rcases hob with h|h
      ·exact h3.2 (e▸h)
      ·omega
     refine c1_inner (m:=m1) (k:=(cap-(pre++ol).length-8)/6) (hsrc.fr I1.fr ds) (fun x hx=>(hT x hx).fr I1.fr (by simp;exact ⟨fun e=>drt e.symm,dot⟩)) I1.b I1.h I1.e I1.nb51 hm10 (by omega) hxs (by omega) rfl hcap dr drt dot1 ds1 ?_
     intro w2 j ol' c' nb' hj hnb' E' H' B' F'
     refine ⟨⟨j,_,cap,ol',c',nb',rfl,by omega,⟨hnb',E',H',hcap,B',?_,I1.fr.trans F' ?_,I1.held.vec (l':=ol') H' F' ?_⟩⟩,?_⟩
     ·intro v hv
      simp [Sl.bs] at hv
      subst hv
      exact hob
     ·intro v hv
      simp only [List.mem_cons,List.not_mem_nil,or_false] at hv
      rcases hv with rfl|rfl
      ·left;simp
      ·rcases hob with h|h
       ·left;simp [h]
       ·exact .inr h
     ·intro a ha hm
      simp only [List.mem_cons,List.not_mem_nil,or_false] at hm
      rcases hm with h|h
      ·exact absurd h (has a ha)
      ·simp [Sl.bs,h]
     ·have hfl:flagF (w2.cell? ⟨r,2,none⟩) cap≤1:=by
       unfold flagF
       split
       ·split<;>omega
       ·omega
      have e4:(((4*j:Nat):Int)-4+4).toNat/4=j:=by omega
      have e5:(((4*m1:Nat):Int)-4+4).toNat/4=m1:=by omega
      simp only [e4,e5]
      omega
  ·-- room is made
   rw [if_neg hk6]
   refine cnd_d ?_ ?_
   ·intro _
    refine ld_b (t := .I .i64) (x:=(((pre++ol).length:Nat):Int)) I1.b rfl ?_
    refine slc_hi (m:=(pre++ol).length) rfl hposle ?_
    refine ⟨by decide,?_⟩
    have e3:quoI .i64 ((4*m1:Nat)-(4:Int)) 4=((m1-1:Nat):Int):=by
     rw [show ((4*m1:Nat):Int)-4=((4*(m1-1):Nat):Int) by omega,show (4:Int)=((4:Nat):Int) from rfl,quoI_nat _ _ _ (by simp only [IntKind.bits];omega)]
     congr 1;omega
    have e4:IntKind.i64.wrap (IntKind.i64.wrap (IntKind.i64.wrap (((m1-1:Nat):Int)+1)*6)+8)=((6*m1+8:Nat):Int):=by
     rw [wI64 (x:=((m1-1:Nat):Int)+1) (by omega) (by omega),wI64 (x:=(((m1-1:Nat):Int)+1)*6) (by omega) (by omega),wI64 (by omega) (by omega)]
     omega
    rw [e3,e4]
    refine c148 I1.h (by omega) (by omega) hcap ?_
    intro w2 a' cap' H' hroom hcap' F' N'
    refine slc_hi (m:=cap') rfl (Nat.le_refl _) ?_
    have B':=I1.b.fr F' (by simp)
    refine ⟨⟨m1,a',cap',ol,c,nb,rfl,hm1,⟨I1.nb51,I1.e,H',hcap',B',?_,I1.fr.trans F' (by simp),I1.held.fr F' (by simp)⟩⟩,?_⟩
    ·intro v hv
     rcases N' v hv with h|h
     ·exact I1.new v h
     ·right;omega
    ·have hrc2:=B'.cell 2
     rw [hrc2]
     have:flagF (q3C (.int .u64 (c:Nat)) (.int .u64 (nb:Nat)) (.int .i64 ((pre++ol).length:Nat)) 2) cap'=0:=by
      show (if (((pre++ol).length:Nat):Int)+14≤(cap':Int) then 0 else 1)=0
      rw [if_pos (by omega)]
     simp only [this]
     omega
   ·intro h
    have:=tdiv_le0 (x:=(cap:Int)-((pre++ol).length:Nat)-8) (by omega) (by omega)
    rw [e1] at h
    exact absurd this h
 ·intro hc
  have hm10:m1=0:=by omega
  subst hm10
  exact hk w1 a cap ol c nb I1
theorem hE_drop {xs:List Nat} {i:Nat} (h:i<xs.length):hE cd ln (xs.drop i)=((hE cd ln (xs.drop (i+1))).1+cd xs[i]*2^(hE cd ln (xs.drop (i+1))).2,(hE cd ln (xs.drop (i+1))).2+ln xs[i]):=by
 rw [List.drop_eq_getElem_cons h];rfl
theorem c120 {g lct:Nat} {s:HU} {s1:Sl} {K:Sl→PT} (B:Blk w g s.at) (hct:s.ct=⟨some ⟨tb,0,none⟩,lct,capt⟩) (hcapt:256≤capt) (H:VecU w s1 pre) (hsrc:Arr .u8 w s2 xs) (hT:∀x∈xs,TB w tb capt cd ln x) (hxe:xs ≠ []) (hxs:xs.length≤2^30) (hpre:pre.length≤2^30)
  (dt:tb∉s1.bs) (ds:∀a,s2.a=some a→xs ≠ []→a.block∉s1.bs)
  (hk:∀w' so ol,By ol→leN ol=(hE cd ln xs).1+2^(hE cd ln xs).2→ol.length=(hE cd ln xs).2/8+1→VecU w' so (pre++ol)→Fm w w' s1.bs→(∀v∈so.bs,v∈s1.bs∨w.heap.size≤v)→Held w' s1.a pre→K so w') :
  callP Tryd.prog 120 #[.pointer (some ⟨g,0,none⟩),.slice s1.a s1.l s1.c,.slice s2.a s2.l s2.c] [.c .S] K w:=by
 have hsl:=hsrc.len
 have hgl:=B.lt
 have h1l:=H.len
 apply q120_ok
 unfold q120
 refine nw_3 ?_
 intro w1 F1 hs1 B1
 have dgp:g≠w.heap.size:=by omega
 have d1p:w.heap.size∉s1.bs:=fun h=>by have:=H.lt _ h;omega
 have dtp:∀x∈xs,tb≠w.heap.size:=fun x hx=>by
  have:=World.block_lt_of_cell? _ _ (hT x hx).c0
  simp only at this;omega
 have dsp:∀a,s2.a=some a→xs ≠ []→a.block≠w.heap.size:=fun a ha hx=>by
  have:=hsrc.old hx a ha;omega
 have hwp:w.heap.size≤w.heap.size:=Nat.le_refl _
 generalize hpe:w.heap.size=p at *
 have Bg:=B.fr F1 (by simp)
 have H1:=H.fr F1 (by simp)
 show stL _ _ _ _ _
 show st _ _ (st _ _ (st _ _ _)) _
 simp only [add_mk,Nat.add_zero,Nat.zero_add]
 refine st_u B1 rfl rfl ?_
 intro w2 B2 F2
 rw [q3_0] at B2
 refine st_u B2 rfl rfl ?_
 intro w3 B3 F3
 rw [q3_1] at B3
 refine st_u B3 rfl rfl ?_
 intro w4 B4 F4
 rw [q3_2] at B4
 have B4':Blk w4 p (q3C (.int .u64 ((0:Nat):Int)) (.int .u8 ((0:Nat):Int)) s1.val):=B4
 have F14:Fm w1 w4 [p]:=(F2.trans F3 (fun x hx => .inl hx)).trans F4 (fun x hx => .inl hx)
 have F04:Fm w w4 []:=F1.trans F14 (by intro v hv;right;simp at hv;omega)
 have Bg4:=B.fr F04 (by simp)
 refine ld_b (t := .S) (x:=⟨some ⟨tb,0,none⟩,lct,capt⟩) Bg4 (by show some s.ct.val=_;rw [hct];rfl) ?_
 refine slc_hi (m:=256) rfl hcapt ?_
 have e3:andI .i64 (s2.l:Int) 3=((xs.length%4:Nat):Int):=by
  have:=andI_i64 xs.length 3 (by omega) (by omega)
  rw [hsl,show (3:Int)=((3:Nat):Int) from rfl,this]
  have:=Nat.and_two_pow_sub_one_eq_mod xs.length 2
  rw [show 2^2-1=3 from rfl,show 2^2=4 from rfl] at this
  rw [this]
 have en:IntKind.i64.wrap ((s2.l:Int)-((xs.length%4:Nat):Int))=((4*(xs.length/4):Nat):Int):=by
  rw [hsl,wI64 (by omega) (by omega)];omega
 rw [e3]
 refine joinP_id ?_
 refine ⟨fun x w'=>∃(i c nb:Nat),x=(i:Int)∧i≤xs.length%4∧nb≤11*(3-i)∧EB [] c nb (hE cd ln (xs.drop (4*(xs.length/4)+i))).1 (hE cd ln (xs.drop (4*(xs.length/4)+i))).2∧Blk w' p (q3C (.int .u64 (c:Nat)) (.int .u8 (nb:Nat)) s1.val)∧Fm w w' [p],fun x _=>x.toNat,
  ⟨xs.length%4,0,0,rfl,Nat.le_refl _,Nat.zero_le _,?_,B4',F04.mono (by simp)⟩,?_⟩
 ·rw [List.drop_of_length_le (by omega)]
  exact ⟨rfl,rfl,by decide,by intro x hx;cases hx⟩
 rintro x w5 ⟨i,c,nb,rfl,hi,hnb,E5,B5,F5⟩
 unfold q120_L0
 refine cnd_d ?_ ?_
 ·intro hc
  rw [e3,en]
  have hix:4*(xs.length/4)+i-1<xs.length:=by omega
  rw [wI64 (x:=((4*(xs.length/4):Nat):Int)+(i:Int)) (by omega) (by omega),wI64 (x:=((4*(xs.length/4):Nat):Int)+(i:Int)-1) (by omega) (by omega)]
  have hxn:xs ≠ []:=by intro e;subst e;simp at hix
  have hmem:=List.getElem_mem hix
  have hT5:=(hT _ hmem).fr F5 (by simp;exact dtp _ hmem)
  have hs5:=hsrc.fr F5 (fun a ha hx=>by simp;exact dsp a ha hx)
  refine hs5.ldk (4*(xs.length/4)+i-1) (by omega) hix ?_
  intro q hq
  refine ld_c (t := .I .u8) (x:=((xs[4*(xs.length/4)+i-1]:Nat):Int)) hq ?_
  refine c147 B5 hT5 E5.lt (by omega) ?_
  intro w6 B6 F6
  rw [wI64 (by omega) (by omega)]
  have E6:=E5.add hT5.hc
  have hd:=hE_drop (cd:=cd) (ln:=ln) hix
  rw [show 4*(xs.length/4)+i-1+1=4*(xs.length/4)+i by omega] at hd
  have hl:=hT5.hl
  refine ⟨⟨i-1,_,_,by omega,by omega,?_,?_,B6,F5.trans F6 (fun x hx => .inl hx)⟩,by dsimp only;omega⟩
  ·omega
  ·rw [show 4*(xs.length/4)+(i-1)=4*(xs.length/4)+i-1 by omega,hd]
   exact E6
 ·intro hc
  have hi0:i=0:=by omega
  subst hi0
  rw [Nat.add_zero] at E5
  unfold q120_J4
  simp only [add_mk,Nat.zero_add]
  refine ld_b (t := .I .u64) (x:=((c:Nat):Int)) B5 rfl ?_
  refine ld_b (t := .I .u8) (x:=((nb:Nat):Int)) B5 rfl ?_
  refine ld_b (t := .S) (x:=s1) B5 rfl ?_
  refine nw_3 ?_
  intro w6 F6 hs6 B6
  have hp5:=B5.lt
  have drp:w5.heap.size≠p:=by omega
  have hsz5:=F5.size
  have dr1:w5.heap.size∉s1.bs:=fun h=>by have:=H.lt _ h;omega
  have drt:∀x∈xs,w5.heap.size≠tb:=fun x hx=>by
   have:=World.block_lt_of_cell? _ _ (hT x hx).c0
   simp only at this;omega
  have drs:∀a,s2.a=some a→xs ≠ []→a.block≠w5.heap.size:=fun a ha hx=>by
   have:=hsrc.old hx a ha;omega
  have hwr:w.heap.size≤w5.heap.size:=by omega
  generalize hre:w5.heap.size=r at *
  have B5':=B5.fr F6 (by simp)
  rw [wU64 (x:=((nb:Nat):Int)) (by omega) (by omega),h1l]
  refine st3 B6 rfl rfl rfl ?_
  intro w7 B7 F7
  have F67:Fm w5 w7 [r]:=(F6.mono (by simp)).trans F7 (fun x hx => .inl hx)
  have B7p:=B5.fr F67 (nm1 drp.symm)
  have F07:Fm w w7 [p,r]:=(F5.mono (by intro v hv;simp at hv;simp [hv])).trans F67 (by intro v hv;simp at hv;simp [hv])
  have F07e:Fm w w7 []:=F07.mono (by intro v hv;right;simp at hv;rcases hv with rfl|rfl<;>omega)
  refine ld_b (t := .S) (x:=s1) B7p rfl ?_
  refine ld_b (t := .S) (x:=s1) B7p rfl ?_
  refine slc_hi (m:=s1.c) rfl (Nat.le_refl _) ?_
  refine joinP_id ?_
  rw [e3,en,wI64 (by omega) (by omega)]
  have H7:VecU w7 ⟨s1.a,(pre ++ []).length,s1.c⟩ (pre ++ []):=by
   rw [List.append_nil]
   have:=H.fr F07e (by simp)
   rw [←h1l]
   exact this
  have hbse:(⟨s1.a,(pre ++ []).length,s1.c⟩:Sl).bs=s1.bs:=rfl
  obtain ⟨x0,hx0⟩:=List.exists_mem_of_ne_nil xs hxe
  refine c1_outer (m:=xs.length/4) (bs0:=s1.bs) (hsrc.fr F07e (by simp)) (fun x hx=>(hT x hx).fr F07e (by simp)) (by omega) hxs hpre ⟨by omega,E5,H7,H.c63,by rw [List.append_nil];exact B7,(fun v hv => .inl hv),Fm.refl _ _,(H.fr F07e (by simp)).held⟩ dr1 (fun a ha e=>dr1 (by unfold Sl.bs;rw [ha];simp [e])) (drt x0 hx0) dt ?_ ?_
  ·intro a ha hx
   simp only [List.mem_cons,not_or]
   exact ⟨drs a ha hx,ds a ha hx⟩
  intro w8 a cap ol c8 nb8 I8
  have e8:=I8.e
  rw [Nat.mul_zero,List.drop_zero] at e8
  have hsz8:=I8.fr.size
  have hol:8*ol.length≤11*xs.length:=by
   have h1:=e8.len
   have h2:=hE_le (cd:=cd) (ln:=ln) (xs:=xs) (fun x hx=>(hT x hx).hl)
   omega
  have hposle:(pre++ol).length≤cap:=I8.h.vec.cap
  have hcap:=I8.cap_
  have hpl:(pre++ol).length=pre.length+ol.length:=List.length_append
  have hsz7:=F07.size
  have hp7:=B7p.lt
  have hr7:=B7.lt
  have hpa:p∉(⟨a,(pre++ol).length,cap⟩:Sl).bs:=fun h=>by
   rcases I8.new p h with h1|h1
   ·exact d1p h1
   ·omega
  have B8p:=B7p.fr I8.fr (by simp;exact ⟨drp.symm,d1p⟩)
  have nbl:=I8.nb51
  unfold q120_J3 drw
  simp only [add_mk,Nat.zero_add]
  have B8:=I8.b.drew
  refine ld_b (t := .I .u64) (x:=((c8:Nat):Int)) B8 rfl ?_
  refine ld_b (t := .I .u64) (x:=((nb8:Nat):Int)) B8 rfl ?_
  refine ld_b (t := .I .i64) (x:=(((pre++ol).length:Nat):Int)) B8 rfl ?_
  refine slc_hi (m:=(pre++ol).length) rfl hposle ?_
  refine st_u B8p.drew rfl rfl ?_
  intro w9 B9 F9
  rw [q3_0] at B9
  have B9r:=B8.fr F9 (nm1 drp)
  have kr1:=B9r.cell 1
  have kr2:=B9r.cell 2
  refine ⟨?_,?_⟩
  ·intro f hf
   simp only [List.mem_cons,List.not_mem_nil,or_false] at hf
   rcases hf with rfl|rfl
   ·exact kr2
   ·exact kr1
  rw [wU8 (x:=((nb8:Nat):Int)) (by omega) (by omega)]
  refine st_u B9 rfl rfl ?_
  intro w10 B10 F10
  rw [q3_1] at B10
  have B10r:=B9r.fr F10 (nm1 drp)
  have kr3:=B10r.cell 2
  refine ⟨?_,?_⟩
  ·intro f hf
   simp only [List.mem_cons,List.not_mem_nil,or_false] at hf
   subst hf
   exact kr3
  refine st_u B10 rfl rfl ?_
  intro w11 B11 F11
  rw [q3_2] at B11
  have F811:Fm w8 w11 [p]:=(((Fm.refl w8 [p]).drew.trans F9 (fun x hx => .inl hx)).trans F10 (fun x hx => .inl hx)).trans F11 (fun x hx => .inl hx)
  have H11:=I8.h.fr F811 (by intro v hv;simp;exact fun e=>hpa (e▸hv))
  have B11':Blk w11 p (q3C (.int .u64 (c8:Nat)) (.int .u8 (nb8:Nat)) (⟨a,(pre++ol).length,cap⟩:Sl).val):=B11
  refine c152 B11' H11 hpa e8.lt (by omega) (by omega) ?_
  intro w12 so B12 H12 dp12 F12 N12 Hh12
  refine ld_b (t := .S) (x:=so) B12 rfl ?_
  obtain ⟨c1,c2,c3⟩:=e8.close
  rw [List.append_assoc] at H12
  have hsz811:=F811.size
  have F08:Fm w w8 s1.bs:=(F07e.mono (by simp)).trans I8.fr (by
   intro v hv
   rcases List.mem_cons.mp hv with h|h
   ·right;omega
   ·exact .inl h)
  have new8:∀v∈(⟨a,(pre++ol).length,cap⟩:Sl).bs,v∈s1.bs∨w.heap.size≤v:=by
   intro v hv
   rcases I8.new v hv with h|h
   ·exact .inl h
   ·right;omega
  have hheld:Held w12 s1.a pre:=by
   intro ax hax i hi
   have h1:=(I8.held.fr F811 (by intro a2 ha2;simp;exact fun e=>d1p (by unfold Sl.bs;rw [ha2];simp [e]))) ax hax i hi
   have h2:=World.block_lt_of_cell? _ _ h1
   by_cases hm:ax.block∈(⟨a,(pre++ol).length,cap⟩:Sl).bs
   ·unfold Sl.bs at hm
    split at hm
    ·rename_i b2 hb2
     simp at hm
     rw [hm]
     exact Hh12.pre b2 hb2 i hi
    ·simp at hm
   ·rw [←h1]
    refine cell?_of_heap (F12.old ax.block h2 ?_) _ _
    intro h
    rcases List.mem_cons.mp h with h|h
    ·exact d1p (by unfold Sl.bs;rw [hax];simp [h])
    ·exact hm h
  refine hk w12 so _ c1 c2 c3 H12 ((F08.trans F811 (by intro v hv;right;simp at hv;omega)).trans F12 ?_) ?_ hheld
  ·intro v hv
   rcases List.mem_cons.mp hv with h|h
   ·right;omega
   ·exact new8 v h
  ·intro v hv
   rcases N12 v hv with h|h
   ·rw [←hpe];exact new8 v h
   ·right;omega
end
def EncT (cd ln:Nat→Nat) (xs ol:List Nat):Prop:=By ol∧leN ol=(hE cd ln xs).1+2^(hE cd ln xs).2∧ol.length=(hE cd ln xs).2/8+1
section
variable {w:World} {g tb capt lct:Nat} {cd ln:Nat→Nat} {pre xs:List Nat} {s1:Sl} {s:HU}
theorem c90 {K:Sl×Value→PT} (B:Blk w g s.at) (hct:s.ct=⟨some ⟨tb,0,none⟩,lct,capt⟩) (hcapt:256≤capt) (H:VecU w s.out pre) (hsrc:Arr .u8 w s1 xs) (hT:∀x∈xs,TB w tb capt cd ln x) (hxe:xs ≠ []) (hxs:xs.length≤2^30) (hpre:pre.length≤2^30)
  (dt:tb∉s.out.bs) (ds:∀a,s1.a=some a→xs ≠ []→a.block∉s.out.bs)
  (hk:∀w' so ol,EncT cd ln xs ol→VecU w' so (pre++ol)→Fm w w' s.out.bs→(∀v∈so.bs,v∈s.out.bs∨w.heap.size≤v)→Held w' s.out.a pre→K (so,.nilIface) w') :
  callP Tryd.prog 90 #[.pointer (some ⟨g,0,none⟩),.slice s1.a s1.l s1.c] [.c .S,.c .V] K w:=by
 apply q90_ok
 unfold q90
 simp only [add_mk,Nat.zero_add]
 refine ld_b (t := .S) (x:=s.out) B rfl ?_
 refine c120 (s1:=s.out) B hct hcapt H hsrc hT hxe hxs hpre dt ds ?_
 intro w' so ol h1 h2 h3 h4 h5 h6 h7
 exact hk w' so ol ⟨h1,h2,h3⟩ h4 h5 h6 h7
end
end Go.Sx
