/- Lemmas for the proof: H25 H26 H27 H28 H29 H30 H31 H32 H33 H34 H35 H36 H37 H38 H39 H40 H41 H42. No conditions. -/
import Derived.Test.YtlnhldlhmplphaaDoorS13A08
set_option linter.unusedVariables false
set_option linter.unusedSimpArgs false
namespace Go.Sx
open Go Go.Proofs
set_option maxRecDepth 4000
theorem add_lt {bc nb x m:Nat} (h:bc<2^nb) (hx:x<2^m):bc+x*2^nb<2^(nb+m):=by
 have h1:(x+1)*2^nb≤2^m*2^nb:=Nat.mul_le_mul_right _ hx
 rw [Nat.add_mul,Nat.one_mul, ←Nat.pow_add,Nat.add_comm m nb] at h1
 omega
section
variable {w:World} {c nb v n pos:Nat}
theorem c150 {K:(Int×Int×Int)→PT} (hn:nb<64) (hc:c<2^nb) (hv:v<2^n) (hnn:nb+n≤64) (hk:∀w',Fm w w' []→K (((c+v*2^nb:Nat):Int),((nb+n:Nat):Int),((pos:Nat):Int)) w') :
  callP Tryd.prog 150 #[.agg ⟨[.int .u64 (c:Nat),.int .u64 (nb:Nat),.int .i64 (pos:Nat)]⟩,.int .u64 (v:Nat),.int .u64 (n:Nat)] [.m [(.I .u64),(.I .u64),(.I .i64)]] K w:=by
 apply q150_ok (r0:=(((c:Nat):Int),((nb:Nat):Int),((pos:Nat):Int)))
 unfold q150
 refine nw_3 ?_
 intro w1 F1 hs1 B1
 refine nw_3 ?_
 intro w2 F2 hs2 B2
 have d1:w.heap.size≠w1.heap.size:=by omega
 have hb1:w.heap.size≤w.heap.size:=Nat.le_refl _
 have hb2:w.heap.size≤w1.heap.size:=by omega
 generalize hb:w.heap.size=b at *
 generalize w1.heap.size=b' at *
 have B1':=B1.fr F2 (by simp)
 simp only [add_mk,Nat.zero_add]
 refine ld_b (t := .I .u64) (x:=((c:Nat):Int)) B1' rfl ?_
 refine ld_b (t := .I .u64) (x:=((nb:Nat):Int)) B1' rfl ?_
 rw [and63w hn,(put_bits hc hv hnn hn).1]
 refine ⟨by omega,?_⟩
 refine st_u B1' rfl rfl ?_
 intro w3 B3 F3
 rw [q3_0] at B3
 refine ld_b (t := .I .u64) (x:=((nb:Nat):Int)) B3 rfl ?_
 rw [wU64 (by omega) (by omega), ←Int.natCast_add]
 refine st_u B3 rfl rfl ?_
 intro w4 B4 F4
 rw [q3_1] at B4
 show ld _ _ _ _
 simp only [add_mk,Nat.add_zero]
 refine ld_b (t := .I .u64) (x:=((c+v*2^nb:Nat):Int)) B4 rfl ?_
 show ld _ _ _ _
 simp only [add_mk,Nat.zero_add]
 refine ld_b (t := .I .u64) (x:=((nb+n:Nat):Int)) B4 rfl ?_
 show ld _ _ _ _
 simp only [add_mk,Nat.zero_add]
 refine ld_b (t := .I .i64) (x:=((pos:Nat):Int)) B4 rfl ?_
 have F24:Fm w2 w4 [b]:=F3.trans F4 (fun x hx => .inl hx)
 have B2':=B2.fr F24 (nm1 d1.symm)
 show st _ _ (st _ _ (st _ _ _)) _
 simp only [add_mk,Nat.add_zero,Nat.zero_add]
 refine st_u B2' rfl rfl ?_
 intro w7 B7 F7
 rw [q3_0] at B7
 refine st_u B7 rfl rfl ?_
 intro w8 B8 F8
 rw [q3_1] at B8
 refine st_u B8 rfl rfl ?_
 intro w9 B9 F9
 rw [q3_2] at B9
 have F69:Fm w4 w9 [b']:=(F7.trans F8 (fun x hx => .inl hx)).trans F9 (fun x hx => .inl hx)
 show ld _ _ _ _
 simp only [add_mk,Nat.add_zero]
 refine ld_b (t := .I .u64) (x:=((c+v*2^nb:Nat):Int)) B9 rfl ?_
 show ld _ _ _ _
 simp only [add_mk,Nat.zero_add]
 refine ld_b (t := .I .u64) (x:=((nb+n:Nat):Int)) B9 rfl ?_
 show ld _ _ _ _
 simp only [add_mk,Nat.zero_add]
 refine ld_b (t := .I .i64) (x:=((pos:Nat):Int)) B9 rfl ?_
 refine hk w9 (((F1.trans F2 (by simp)).trans F24 ?_).trans F69 ?_)
 ·intro v hv;simp at hv;right;omega
 ·intro v hv;simp at hv;right;omega
end
def q2C (a b:Value):Cells:=fun i=>match i with
 | 0=>some a
 | 1=>some b
 | _=>none
theorem nw_2 {w:World} {a b:Value} {T:TypeId} {κ:Addr→PT} (hk:∀w',Fm w w' []→w'.heap.size=w.heap.size+1→Blk w' w.heap.size (q2C a b)→κ ⟨w.heap.size,0,none⟩ w'):nw [a,b] T κ w :=
 hk _ (Fm.refl w []).alloc (World.size_alloc _ _) (Blk.new.congr (by funext i;rcases i with _|_|i<;>simp [q2C]))
section
variable {w:World} {va na vb nb vc nc vd nd:Nat}
theorem c151 {K:(Int×Int)→PT} (ha:va<2^na) (hb:vb<2^nb) (hc:vc<2^nc) (hd:vd<2^nd) (la:na≤11) (lb:nb≤11) (lc:nc≤11) (ld':nd≤11)
  (hk:∀w',Fm w w' []→K (((va+vb*2^na+vc*2^(na+nb)+vd*2^(na+nb+nc):Nat):Int),((na+nb+nc+nd:Nat):Int)) w') :
  callP Tryd.prog 151 #[.agg ⟨[.int .u16 (va:Nat),.int .u8 (na:Nat)]⟩,.agg ⟨[.int .u16 (vb:Nat),.int .u8 (nb:Nat)]⟩,.agg ⟨[.int .u16 (vc:Nat),.int .u8 (nc:Nat)]⟩,.agg ⟨[.int .u16 (vd:Nat),.int .u8 (nd:Nat)]⟩] [.c (.I .u64),.c (.I .u64)] K w:=by
 have p11:∀ {v n:Nat},v<2^n→n≤11→v<2048:=fun h1 h2=>Nat.lt_of_lt_of_le h1 (Nat.pow_le_pow_right (by omega) h2:2^_≤2^11)
 have pa:=p11 ha la
 have pb:=p11 hb lb
 have pc:=p11 hc lc
 have pd:=p11 hd ld'
 apply q151_ok (r0:=(((va:Nat):Int),((na:Nat):Int))) (r1:=(((vb:Nat):Int),((nb:Nat):Int))) (r2:=(((vc:Nat):Int),((nc:Nat):Int))) (r3:=(((vd:Nat):Int),((nd:Nat):Int)))
 unfold q151
 refine nw_2 ?_
 intro w1 F1 hs1 B1
 refine nw_2 ?_
 intro w2 F2 hs2 B2
 refine nw_2 ?_
 intro w3 F3 hs3 B3
 refine nw_2 ?_
 intro w4 F4 hs4 B4
 have B1':=((B1.fr F2 (by simp)).fr F3 (by simp)).fr F4 (by simp)
 have B2':=(B2.fr F3 (by simp)).fr F4 (by simp)
 have B3':=B3.fr F4 (by simp)
 simp only [add_mk,Nat.zero_add]
 refine ld_b (t := .I .u8) (x:=((na:Nat):Int)) B1' rfl ?_
 refine ld_b (t := .I .u8) (x:=((nb:Nat):Int)) B2' rfl ?_
 refine ld_b (t := .I .u8) (x:=((nc:Nat):Int)) B3' rfl ?_
 refine ld_b (t := .I .u16) (x:=((va:Nat):Int)) B1' rfl ?_
 refine ld_b (t := .I .u16) (x:=((vb:Nat):Int)) B2' rfl ?_
 have wu:∀ {n:Nat},n<100000→IntKind.u64.wrap ((n:Nat):Int)=((n:Nat):Int):=fun h=>wU64 (by omega) (by omega)
 have e1:IntKind.u64.wrap (((na:Nat):Int)+((nb:Nat):Int))=((na+nb:Nat):Int):=by rw [←Int.natCast_add];exact wu (by omega)
 have e2:IntKind.u64.wrap (((na+nb:Nat):Int)+((nc:Nat):Int))=((na+nb+nc:Nat):Int):=by rw [←Int.natCast_add];exact wu (by omega)
 have e3:IntKind.u64.wrap (((na+nb+nc:Nat):Int)+((nd:Nat):Int))=((na+nb+nc+nd:Nat):Int):=by rw [←Int.natCast_add];exact wu (by omega)
 rw [wu (n:=na) (by omega),wu (n:=nb) (by omega),wu (n:=nc) (by omega),wu (n:=va) (by omega),wu (n:=vb) (by omega),e1,e2,and63w (n:=na) (by omega),and63w (n:=na+nb) (by omega),and63w (n:=na+nb+nc) (by omega),(put_bits ha hb (by omega) (by omega)).1]
 refine ⟨by omega,?_⟩
 refine ld_b (t := .I .u16) (x:=((vc:Nat):Int)) B3' rfl ?_
 rw [wu (n:=vc) (by omega),(put_bits (add_lt ha hb) hc (by omega) (by omega)).1]
 refine ⟨by omega,?_⟩
 refine ld_b (t := .I .u16) (x:=((vd:Nat):Int)) B4 rfl ?_
 rw [wu (n:=vd) (by omega),(put_bits (add_lt (add_lt ha hb) hc) hd (by omega) (by omega)).1]
 refine ⟨by omega,?_⟩
 unfold drw
 refine ld_b (t := .I .u8) (x:=((nd:Nat):Int)) B4.drew rfl ?_
 rw [wu (n:=nd) (by omega),e3]
 exact hk _ (((F1.trans F2 (by simp)).trans F3 (by simp)).trans F4 (by simp)).drew
end
structure TB (w:World) (tb capt:Nat) (cd ln:Nat→Nat) (x:Nat):Prop where
 lt:x<256
 hl:ln x≤11
 hc:cd x<2^ln x
 c0:w.cell? ⟨tb,x*2,none⟩=some (.int .u16 (cd x:Nat))
 c1:w.cell? ⟨tb,x*2+1,none⟩=some (.int .u8 (ln x:Nat))
theorem TB.fr {w w':World} {tb capt x:Nat} {cd ln:Nat→Nat} {S:List Nat} (h:TB w tb capt cd ln x) (F:Fm w w' S) (hS:tb∉S):TB w' tb capt cd ln x:=by
 have hl:=World.block_lt_of_cell? _ _ h.c0
 have e:=F.old tb hl hS
 exact ⟨h.lt,h.hl,h.hc,by rw [←h.c0];exact cell?_of_heap e _ _,by rw [←h.c1];exact cell?_of_heap e _ _⟩
theorem ld_cc {w:World} {t:CT} {p:Addr} {x:t.ty} {κ:t.ty→PT} (h:w.cell? p=some (t.mk x)) (hk:κ x w):ld t p κ w:=⟨x,h,hk⟩
section
variable {w:World} {b bc nb tb capt x:Nat} {so:Sl} {cd ln:Nat→Nat}
theorem c147 {K:Unit→PT} (B:Blk w b (q3C (.int .u64 (bc:Nat)) (.int .u8 (nb:Nat)) so.val)) (T:TB w tb capt cd ln x) (hb:bc<2^nb) (hn:nb≤40)
  (hk:∀w',Blk w' b (q3C (.int .u64 (bc+cd x*2^nb:Nat)) (.int .u8 (nb+ln x:Nat)) so.val)→Fm w w' [b]→K () w') :
  callP Tryd.prog 147 #[.pointer (some ⟨b,0,none⟩),.slice (some ⟨tb,0,none⟩) 256 capt,.int .u8 (x:Nat)] [] K w:=by
 have hl:=T.hl
 have hc:=T.hc
 have hx:=T.lt
 have p11:cd x<2048:=Nat.lt_of_lt_of_le hc (Nat.pow_le_pow_right (by omega) hl:2^_≤2^11)
 apply q147_ok (s1:=⟨some ⟨tb,0,none⟩,256,capt⟩)
 unfold q147
 refine ixS_2 rfl hx ?_
 show ld (.I .u16) _ _ _
 simp only [add_mk,Nat.add_zero]
 refine ld_cc (t := .I .u16) (x:=((cd x:Nat):Int)) T.c0 ?_
 show ld (.I .u8) _ _ _
 simp only [add_mk,Nat.zero_add]
 refine ld_cc (t := .I .u8) (x:=((ln x:Nat):Int)) T.c1 ?_
 refine nw_2 ?_
 intro w1 F1 hs1 B1
 have hbl:=B.lt
 have d:b≠w.heap.size:=by omega
 have hr:w.heap.size≤w.heap.size:=Nat.le_refl _
 generalize hre:w.heap.size=r at *
 have B':=B.fr F1 (by simp)
 show st _ _ (st _ _ _) _
 simp only [add_mk,Nat.add_zero,Nat.zero_add]
 refine st_u B1 rfl rfl ?_
 intro w2 B2 F2
 refine st_u B2 rfl rfl ?_
 intro w3 B3 F3
 have F13:Fm w1 w3 [r]:=F2.trans F3 (fun x hx => .inl hx)
 have B'3:=B'.fr F13 (nm1 d)
 unfold drw
 refine ld_b (t := .I .u64) (x:=((bc:Nat):Int)) B'3.drew rfl ?_
 refine ld_b (t := .I .u16) (x:=((cd x:Nat):Int)) B3.drew rfl ?_
 refine ld_b (t := .I .u8) (x:=((nb:Nat):Int)) B'3.drew rfl ?_
 rw [and63b (by omega),wU64 (x:=((cd x:Nat):Int)) (by omega) (by omega),(put_bits hb hc (by omega) (by omega)).1]
 refine ⟨by omega,?_⟩
 refine st_u B'3.drew rfl rfl ?_
 intro w4 B4 F4
 rw [q3_0] at B4
 refine joinP_id ?_
 unfold q147_J0 drw
 simp only [add_mk,Nat.zero_add]
 refine ld_b (t := .I .u8) (x:=((nb:Nat):Int)) B4.drew rfl ?_
 refine ld_b (t := .I .u8) (x:=((ln x:Nat):Int)) ((B3.drew.fr F4 (nm1 d.symm)).drew) rfl ?_
 rw [wU8 (by omega) (by omega), ←Int.natCast_add]
 refine st_u B4.drew rfl rfl ?_
 intro w5 B5 F5
 rw [q3_1] at B5
 refine hk w5 B5 (((((F1.mono (S' := [b]) (by simp)).trans F13 ?_).drew).trans F4 (fun x hx => .inl hx)).drew.trans F5 (fun x hx => .inl hx))
 intro v hv;simp at hv;right;omega
end
theorem app_1k {T T':TypeId} {s:Sl} {κ:Sl→PT} {w:World} {l:List Nat} {v:Nat} {fs:List (Addr×Value)} (h:VecU w s l) (hb:s.l+1≤2^46) (hf:∀f∈fs,w.cell? f.1=some f.2)
  (hk:∀s' w',VecU w' s' (l ++ [v])→Fm w w' s'.bs→Fm w w' s.bs→(∀b∈s'.bs,b∈s.bs∨w.heap.size≤b)→κ s' w'):nw [.int .u8 (v:Nat)] T' (fun p=>kp fs (app z5 T 1 s ⟨some p,1,1⟩ κ)) w:=by
 have:=app_1uF (T:=T) (T':=T') (v:=v) h hb hk
 refine ⟨?_,this⟩
 intro f hff
 have h1:=hf f hff
 rw [World.cell?_alloc_lt _ _ _ (World.block_lt_of_cell? _ _ h1)]
 exact h1
section
variable {w:World} {b bc nb:Nat} {so:Sl} {ol:List Nat}
theorem c162 {K:Unit→PT} (B:Blk w b (q3C (.int .u64 (bc:Nat)) (.int .u8 (nb:Nat)) so.val)) (hb:bc<2^nb) (hn:nb≤62)
  (hk:∀w',Blk w' b (q3C (.int .u64 (bc+2^nb:Nat)) (.int .u8 (nb+1:Nat)) so.val)→Fm w w' [b]→K () w') :
  callP Tryd.prog 162 #[.pointer (some ⟨b,0,none⟩),.int .u16 1,.int .u8 1] [] K w:=by
 apply q162_ok
 unfold q162 drw
 simp only [add_mk,Nat.zero_add]
 refine ld_b (t := .I .u64) (x:=((bc:Nat):Int)) B.drew rfl ?_
 refine ld_b (t := .I .u8) (x:=((nb:Nat):Int)) B.drew rfl ?_
 have hp:=(put_bits (m:=1) (x:=1) hb (by decide) (by omega) (by omega)).1
 rw [Nat.one_mul] at hp
 rw [and63b (by omega),wU64 (x:=(1:Int)) (by omega) (by omega),show (1:Int)=((1:Nat):Int) from rfl,hp]
 refine ⟨by omega,?_⟩
 refine st_u B.drew rfl rfl ?_
 intro w1 B1 F1
 rw [q3_0] at B1
 refine ld_b (t := .I .u8) (x:=((nb:Nat):Int)) B1 rfl ?_
 rw [wU8 (by omega) (by omega), ←Int.natCast_add]
 refine st_u B1 rfl rfl ?_
 intro w2 B2 F2
 rw [q3_1] at B2
 exact hk w2 B2 (((Fm.refl w [b]).drew.trans F1 (fun x hx => .inl hx)).trans F2 (fun x hx => .inl hx))
theorem c163 {K:Unit→PT} (B:Blk w b (q3C (.int .u64 (bc:Nat)) (.int .u8 (nb:Nat)) so.val)) (H:VecU w so ol) (db:b∉so.bs) (hb:bc<2^nb) (hn:nb≤64) (hol:ol.length<2^40)
  (hk:∀w' so',Blk w' b (q3C (.int .u64 0) (.int .u8 0) so'.val)→VecU w' so' (ol++leB bc ((nb+7)/8))→b∉so'.bs→Fm w w' (b::so.bs)→(∀v∈so'.bs,v∈so.bs∨w.heap.size≤v)→Held w' so.a ol→K () w') :
  callP Tryd.prog 163 #[.pointer (some ⟨b,0,none⟩)] [] K w:=by
 have hbc:bc<2^64:=Nat.lt_of_lt_of_le hb (Nat.pow_le_pow_right (by omega) hn)
 have hbl:=B.lt
 apply q163_ok
 unfold q163
 simp only [add_mk,Nat.zero_add]
 refine ld_b (t := .I .u8) (x:=((nb:Nat):Int)) B rfl ⟨by decide,?_⟩
 have en:shrI .u8 (IntKind.u8.wrap ((nb:Int)+7)) 3=(((nb+7)/8:Nat):Int):=by
  rw [wU8 (by omega) (by omega)]
  exact shrI_nat .u8 (nb+7) 3 (by simp only [IntKind.bits];omega)
 refine joinP_id ?_
 refine ⟨fun x w'=>∃(i:Nat) (so':Sl),x=(i:Int)∧i≤(nb+7)/8∧Blk w' b (q3C (.int .u64 (bc:Nat)) (.int .u8 (nb:Nat)) so'.val)∧VecU w' so' (ol++leB bc i)∧b∉so'.bs∧Fm w w' (b::so.bs)∧(∀v∈so'.bs,v∈so.bs∨w.heap.size≤v)∧Held w' so.a ol,fun x _=>20-x.toNat,⟨0,so,rfl,Nat.zero_le _,B,by simpa [leB] using H,db,Fm.refl _ _,(fun v hv => .inl hv),H.held⟩,?_⟩
 rintro x w1 ⟨i,so1,rfl,hi,B1,H1,db1,F1,N1,Hh1⟩
 have dba:∀a,so.a=some a→a.block ∉ [b]:=by
  intro a ha
  simp
  exact fun e=>db (by unfold Sl.bs;rw [ha];simp [e])
 unfold q163_L0
 rw [en]
 simp only [add_mk,Nat.zero_add]
 have hsz:=F1.size
 refine cnd_d ?_ ?_
 ·intro hc
  have hi2:i<(nb+7)/8:=by omega
  unfold drw
  refine ld_b (t := .S) (x:=so1) B1.drew rfl ?_
  refine ld_b (t := .I .u64) (x:=((bc:Nat):Int)) B1.drew rfl ?_
  have e8:IntKind.u8.wrap ((i:Int)*8)=((8*i:Nat):Int):=by rw [wU8 (by omega) (by omega)];omega
  rw [e8,shr_b hbc]
  refine ⟨by omega,?_⟩
  have hl1:=H1.len
  rw [List.length_append,leB_len] at hl1
  refine app_1k (H1.fr (Fm.refl w1 []).drew (by simp)) (by omega) ?_ ?_
  ·intro f hf
   simp only [List.mem_cons,List.not_mem_nil,or_false] at hf
   subst hf
   exact B1.drew.cell 2
  intro so2 w2 H2 F2' F2 N2
  have e9:ol++leB bc i ++ [bc/2^(8*i)%256]=ol++leB bc (i+1):=by
   rw [leB_snoc,show (256:Nat)^i=2^(8*i) by rw [Nat.pow_mul],List.append_assoc]
  rw [e9] at H2
  have B2:=B1.drew.fr F2 db1
  have db2:b∉so2.bs:=fun h=>by
   rcases N2 b h with h1|h1
   ·exact db1 h1
   ·have:=B1.drew.lt;omega
  refine st_u B2 rfl rfl ?_
  intro w3 B3 F3
  have B3':Blk w3 b (q3C (.int .u64 (bc:Nat)) (.int .u8 (nb:Nat)) so2.val):=B3.congr (q3_2 _ _ _ _)
  rw [wU8 (by omega) (by omega)]
  refine ⟨⟨i+1,so2,by simp,hi2,B3',H2.fr F3 (by intro v hv;simp;exact fun e=>db2 (e▸hv)),db2,(F1.drew.trans F2 ?_).trans F3 (by intro v hv;simp at hv;simp [hv]),?_,((Hh1.fr (Fm.refl w1 []).drew (by simp)).vec H2 F2' (fun a _ h=>h)).fr F3 dba⟩,by omega⟩
  ·intro v hv
   rcases N1 v hv with h|h
   ·left;simp [h]
   ·exact .inr h
  ·intro v hv
   rcases N2 v hv with h|h
   ·exact N1 v h
   ·have:w1.drew.heap.size=w1.heap.size:=rfl
    right;omega
 ·intro hc
  have hi2:i=(nb+7)/8:=by omega
  subst hi2
  unfold q163_J1
  simp only [add_mk,Nat.zero_add]
  refine st_u B1 rfl rfl ?_
  intro w2 B2 F2
  rw [q3_1] at B2
  refine st_u B2 rfl rfl ?_
  intro w3 B3 F3
  rw [q3_0] at B3
  have F13:Fm w1 w3 [b]:=F2.trans F3 (fun x hx => .inl hx)
  exact hk w3 so1 B3 (H1.fr F13 (by intro v hv;simp;exact fun e=>db1 (e▸hv))) db1 (F1.trans F13 (by intro v hv;simp at hv;simp [hv])) N1 (Hh1.fr F13 dba)
theorem c152 {K:Unit→PT} (B:Blk w b (q3C (.int .u64 (bc:Nat)) (.int .u8 (nb:Nat)) so.val)) (H:VecU w so ol) (db:b∉so.bs) (hb:bc<2^nb) (hn:nb≤62) (hol:ol.length<2^40)
  (hk:∀w' so',Blk w' b (q3C (.int .u64 0) (.int .u8 0) so'.val)→VecU w' so' (ol++leB (bc+2^nb) ((nb+1+7)/8))→b∉so'.bs→Fm w w' (b::so.bs)→(∀v∈so'.bs,v∈so.bs∨w.heap.size≤v)→Held w' so.a ol→K () w') :
  callP Tryd.prog 152 #[.pointer (some ⟨b,0,none⟩)] [] K w:=by
 apply q152_ok
 unfold q152
 refine c162 B hb hn ?_
 intro w1 B1 F1
 have hsz:=F1.size
 refine c163 B1 (H.fr F1 (by intro v hv;simp;exact fun e=>db (e▸hv))) db (by rw [Nat.pow_succ];omega) (by omega) hol ?_
 intro w2 so2 B2 H2 db2 F2 N2 Hh2
 refine hk w2 so2 B2 H2 db2 ((F1.mono (by intro v hv;simp at hv;simp [hv])).trans F2 (fun x hx => .inl hx)) ?_ Hh2
 intro v hv
 rcases N2 v hv with h|h
 ·exact .inl h
 ·right;omega
end
section
variable {w:World} {a:Option Addr} {cap n:Nat} {pl:List Nat}
theorem c148 {K:Sl→PT} (H:VecU w ⟨a,pl.length,cap⟩ pl) (hn:n≤2^40) (hp:pl.length≤2^40) (hcap:cap<2^63)
  (hk:∀w' a' cap',VecU w' ⟨a',pl.length,cap'⟩ pl→pl.length+n≤cap'→cap'<2^63→Fm w w' []→(∀v∈(⟨a',pl.length,cap'⟩:Sl).bs,v∈(⟨a,pl.length,cap⟩:Sl).bs∨w.heap.size≤v)→K ⟨a',pl.length,cap'⟩ w') :
  callP Tryd.prog 148 #[.slice a pl.length cap,.int .i64 ((n:Nat):Int)] [.c .S] K w:=by
 apply q148_ok (s0:=⟨a,pl.length,cap⟩)
 unfold q148
 have hcp:=H.vec.cap
 simp only at hcp
 refine joinP_id (cnd_d (fun h=>absurd h (by omega)) (fun _ => ?_))
 unfold q148_J1
 have e1:IntKind.i64.wrap ((n:Int)-IntKind.i64.wrap ((cap:Int)-(pl.length:Int)))=(n:Int)-((cap:Int)-(pl.length:Int)):=by
  rw [wI64 (x:=(cap:Int)-(pl.length:Int)) (by omega) (by omega),wI64 (by omega) (by omega)]
 refine joinP_id ?_
 simp only [e1]
 refine cnd_d ?_ ?_
 ·intro hc
  refine slc_hi (m:=cap) rfl (Nat.le_refl _) ?_
  obtain ⟨m,hm⟩:∃m:Nat,(n:Int)-((cap:Int)-(pl.length:Int))=(m:Int):=⟨((n:Int)-((cap:Int)-(pl.length:Int))).toNat,by omega⟩
  obtain ⟨os,ho1,ho2,ho3⟩:∃os:List Value,os.length=cap∧(∀b,a=some b→∀i,i<os.length→w.cell? (b.add i)=os[i]?)∧(∀i (h:i<os.length),(∃x:Int,os[i] = .int .u8 x)∧(∀h2:i<pl.length,os[i] = .int .u8 (pl[i]:Nat))):=by
   cases ha:a with
   | none =>
    have h0:=H.vec.non ha
    simp only at h0
    refine ⟨[],by simp [h0],by simp,?_⟩
    intro i h;simp at h
   | some b =>
    subst ha
    obtain ⟨h1,h2,f,h3,h4,h5⟩:=H.vec.blk b rfl
    have hu:=H.u8 b rfl
    obtain ⟨ab,ao,asp⟩:=b
    simp only at h1 h2 h3 hu h5
    subst h1 h2
    refine ⟨(List.range cap).map fun i=>(f i).getD (.int .u8 0),by simp,?_,?_⟩
    ·intro b hb i hi
     injection hb with hb
     subst hb
     have hi2:i<cap:=by simpa using hi
     rw [add_mk,Nat.zero_add,h3.cell,List.getElem?_map,List.getElem?_range hi2]
     have:=h5 i (by omega)
     obtain ⟨v,hv⟩:=Option.isSome_iff_exists.mp this
     simp [hv]
    ·intro i hi
     have hi2:i<cap:=by simpa using hi
     obtain ⟨x,hx⟩:=hu i hi2
     rw [h3.cell] at hx
     refine ⟨⟨x,by simp [hx]⟩,?_⟩
     intro h6
     have h7:=h4 i (by rw [bytes_len];exact h6)
     unfold bytes at h7
     rw [List.getElem?_map,List.getElem?_eq_getElem h6] at h7
     simp [h7]
  refine ⟨m,hm,?_,?_,os,?_,ho2,?_,?_⟩
  ·show (cap+m)*1≤2^46
   omega
  ·show cap<cap+m
   omega
  ·show os.length=cap*1
   omega
  ·intro ha
   have h0:=H.vec.non ha
   simp only at h0
   exact List.length_eq_zero_iff.mp (by omega)
  ·intro c hc1 hc2
   simp only at hc1
   have B:Blk (w.drew.alloc (.cells (os.toArray++zrep z5 m++zrep z5 (c-(cap+m))) 5)) w.drew.heap.size fun i=>(os.toArray++zrep z5 m++zrep z5 (c-(cap+m)))[i]? := Blk.new
   have hz:∀k i,i<k→(zrep z5 k)[i]? = some (.int .u8 0):=fun k i h=>by
    show (zrep [.int .u8 0] k)[i]? = _
    rw [zrep1,if_pos h]
   have hzs:∀k,(zrep z5 k).size=k:=fun k=>by rw [zrep_size];show k*1=k;omega
   have hcell:∀i,i<c→∃y:Int,(os.toArray++zrep z5 m++zrep z5 (c-(cap+m)))[i]? = some (.int .u8 y):=by
    intro i hi
    by_cases h1:i<cap
    ·rw [Array.getElem?_append_left (by simp only [Array.size_append,List.size_toArray];omega),Array.getElem?_append_left (by simp only [List.size_toArray];omega)]
     obtain ⟨⟨x,hx⟩,_⟩:=ho3 i (by omega)
     refine ⟨x,?_⟩
     rw [List.getElem?_toArray,List.getElem?_eq_getElem (by omega),hx]
    ·refine ⟨0,?_⟩
     by_cases h2:i<cap+m
     ·rw [Array.getElem?_append_left (by simp only [Array.size_append,List.size_toArray,hzs];omega),Array.getElem?_append_right (by simp only [List.size_toArray];omega)]
      exact hz _ _ (by simp only [List.size_toArray];omega)
     ·rw [Array.getElem?_append_right (by simp only [Array.size_append,List.size_toArray,hzs];omega)]
      exact hz _ _ (by simp only [Array.size_append,List.size_toArray,hzs];omega)
   refine slc_hi (m:=pl.length) rfl (by show pl.length≤c;omega) ?_
   unfold q148_J0
   refine hk _ _ c ⟨⟨?_,?_,?_,?_⟩,?_,hc2⟩ (by omega) hc2 (Fm.refl w []).drew.alloc ?_
   ·rw [bytes_len];simp
   ·show pl.length≤c;omega
   ·intro h;cases h
   ·intro b hb
    injection hb with hb
    subst hb
    refine ⟨rfl,rfl,_,B,?_,?_⟩
    ·intro i hi
     rw [bytes_len] at hi
     rw [Array.getElem?_append_left (by simp only [Array.size_append,List.size_toArray];omega),Array.getElem?_append_left (by simp only [List.size_toArray];omega),List.getElem?_toArray,List.getElem?_eq_getElem (by omega),(ho3 i (by omega)).2 hi]
     unfold bytes
     rw [List.getElem?_map,List.getElem?_eq_getElem hi];rfl
    ·intro i hi
     obtain ⟨y,hy⟩:=hcell i (by simp only at hi;omega)
     rw [hy];rfl
   ·intro b hb i hi
    injection hb with hb
    subst hb
    obtain ⟨y,hy⟩:=hcell i hi
    exact ⟨y,by rw [←hy];exact B.cell i⟩
   ·intro v hv
    right
    unfold Sl.bs at hv
    simp at hv
    subst hv
    exact Nat.le_refl _
 ·intro hc
  unfold q148_J0
  exact hk w a cap H (by omega) hcap (Fm.refl _ _) (fun v hv => .inl hv)
end
def hE (cd ln:Nat→Nat):List Nat→Nat×Nat
 | []=>(0,0)
 | x::r=>((hE cd ln r).1+cd x*2^(hE cd ln r).2,(hE cd ln r).2+ln x)
structure EB (ol:List Nat) (c nb V t:Nat):Prop where
 val:leN ol+2^(8*ol.length)*c=V
 len:8*ol.length+nb=t
 lt:c<2^nb
 by_:By ol
theorem EB.add {ol:List Nat} {c nb V t v n:Nat} (h:EB ol c nb V t) (hv:v<2^n):EB ol (c+v*2^nb) (nb+n) (V+v*2^t) (t+n) :=
 ⟨content_add ol c nb v V t h.val h.len,by have:=h.len;omega,add_lt h.lt hv,h.by_⟩
theorem EB.flush {ol:List Nat} {c nb V t:Nat} (h:EB ol c nb V t):EB (ol++leB c (nb/8)) (c/2^(8*(nb/8))) (nb%8) V t:=by
 refine ⟨content_out ol c (nb/8) V h.val,?_,?_,h.by_.app (leB_by _ _)⟩
 ·rw [List.length_append,leB_len];have:=h.len;omega
 ·rw [Nat.div_lt_iff_lt_mul (Nat.two_pow_pos _), ←Nat.pow_add,show nb%8+8*(nb/8)=nb by omega]
  exact h.lt
theorem EB.close {ol:List Nat} {c nb V t:Nat} (h:EB ol c nb V t):By (ol++leB (c+2^nb) ((nb+1+7)/8))∧leN (ol++leB (c+2^nb) ((nb+1+7)/8))=V+2^t∧(ol++leB (c+2^nb) ((nb+1+7)/8)).length=t/8+1:=by
 have hlt:=h.lt
 have hle:c+2^nb<256^((nb+1+7)/8):=by
  have h1:c+2^nb<2^(nb+1):=by rw [Nat.pow_succ];omega
  have h2:2^(nb+1)≤2^(8*((nb+1+7)/8)):=Nat.pow_le_pow_right (by omega) (by omega)
  rw [Nat.pow_mul,show (2:Nat)^8=256 from rfl] at h2
  omega
 refine ⟨h.by_.app (leB_by _ _),?_,?_⟩
 ·rw [leN_append,leB_val,Nat.mod_eq_of_lt hle,show (256:Nat)^ol.length=2^(8*ol.length) by rw [Nat.pow_mul]]
  have:=content_add ol c nb 1 V t h.val h.len
  rw [Nat.one_mul,Nat.one_mul] at this
  exact this
 ·rw [List.length_append,leB_len]
  have:=h.len
  omega
theorem hE_le {cd ln:Nat→Nat} : ∀ {xs:List Nat},(∀x∈xs,ln x≤11)→(hE cd ln xs).2≤11*xs.length
 | [],_=>Nat.le_refl _
 | x::r,h=>by
  have h1:=hE_le (cd:=cd) (xs:=r) (fun y hy=>h y (List.mem_cons_of_mem _ hy))
  have h2:=h x (List.mem_cons_self ..)
  simp only [hE,List.length_cons];omega
theorem hE_four (cd ln:Nat→Nat) (a b c d:Nat) (r:List Nat):hE cd ln (a::b::c::d::r)=((hE cd ln r).1+(cd d+cd c*2^ln d+cd b*2^(ln d+ln c)+cd a*2^(ln d+ln c+ln b))*2^(hE cd ln r).2,(hE cd ln r).2+(ln d+ln c+ln b+ln a)):=by
 have e1:hE cd ln (d::r)=((hE cd ln r).1+cd d*2^(hE cd ln r).2,(hE cd ln r).2+ln d):=rfl
 have e2:hE cd ln (c::d::r)=((hE cd ln (d::r)).1+cd c*2^(hE cd ln (d::r)).2,(hE cd ln (d::r)).2+ln c):=rfl
 have e3:hE cd ln (b::c::d::r)=((hE cd ln (c::d::r)).1+cd b*2^(hE cd ln (c::d::r)).2,(hE cd ln (c::d::r)).2+ln b):=rfl
 have e4:hE cd ln (a::b::c::d::r)=((hE cd ln (b::c::d::r)).1+cd a*2^(hE cd ln (b::c::d::r)).2,(hE cd ln (b::c::d::r)).2+ln a):=rfl
 rw [e4,e3,e2,e1]
 simp only
 generalize (hE cd ln r).1=V
 generalize (hE cd ln r).2=t
 rw [Prod.mk.injEq]
 refine ⟨?_,by omega⟩
 simp only [Nat.add_mul,Nat.pow_add,Nat.mul_assoc]
 have k1:2^t*2^ln d=2^ln d*2^t:=Nat.mul_comm _ _
 have k2:2^t*(2^ln d*2^ln c)=2^ln d*(2^ln c*2^t):=by rw [Nat.mul_left_comm,Nat.mul_comm (2^t)]
 have k3:2^t*(2^ln d*(2^ln c*2^ln b))=2^ln d*(2^ln c*(2^ln b*2^t)):=by rw [Nat.mul_left_comm,Nat.mul_left_comm (2^t),Nat.mul_comm (2^t)]
 rw [k1,k2,k3]
 omega
theorem four_lt {a b c d na nb nc nd:Nat} (ha:a<2^na) (hb:b<2^nb) (hc:c<2^nc) (hd:d<2^nd):d+c*2^nd+b*2^(nd+nc)+a*2^(nd+nc+nb)<2^(nd+nc+nb+na) :=
 add_lt (add_lt (add_lt hd hc) hb) ha
section
variable {w:World} {tb capt:Nat} {cd ln:Nat→Nat}
theorem entW {κ:Int×Int→PT} {s33:Sl} {l:List Nat} {i:Int} (h:Arr .u8 w s33 l) (n:Nat) (hi:i=n) (hn:n<l.length) (T:TB w tb capt cd ln l[n]) (hk:κ (((cd l[n]:Nat):Int),((ln l[n]:Nat):Int)) w) :
  (ixS 1 s33 i fun (p35:Addr)=>ld (.I .u8) p35 fun (n36:Int)=>ixS 2 ⟨some ⟨tb,0,none⟩,256,capt⟩ n36 fun (p37:Addr)=>ldL [(.I .u16),(.I .u8)] p37 0 κ) w:=by
 refine h.ldk n hi hn ?_
 intro p hp
 refine ld_c (t := .I .u8) (x:=((l[n]:Nat):Int)) hp ?_
 refine ixS_2 rfl T.lt ?_
 show ld (.I .u16) _ _ _
 simp only [add_mk,Nat.add_zero]
 refine ld_c (t := .I .u16) (x:=((cd l[n]:Nat):Int)) T.c0 ?_
 show ld (.I .u8) _ _ _
 simp only [add_mk,Nat.zero_add]
 exact ld_c (t := .I .u8) (x:=((ln l[n]:Nat):Int)) T.c1 hk
theorem ld3 {κ:Int×Int×Int→PT} {r:Nat} {a b c:Int} (B:Blk w r (q3C (.int .u64 a) (.int .u64 b) (.int .i64 c))) (hk:κ (a,b,c) w):ldL [(.I .u64),(.I .u64),(.I .i64)] ⟨r,0,none⟩ 0 κ w:=by
 show ld (.I .u64) _ _ _
 simp only [add_mk,Nat.add_zero]
 refine ld_b (t := .I .u64) (x:=a) B rfl ?_
 show ld (.I .u64) _ _ _
 simp only [add_mk,Nat.zero_add]
 refine ld_b (t := .I .u64) (x:=b) B rfl ?_
 show ld (.I .i64) _ _ _
 simp only [add_mk,Nat.zero_add]
 exact ld_b (t := .I .i64) (x:=c) B rfl hk
theorem st3 {κ:PT} {r:Nat} {u v x a b c:Value} (B:Blk w r (q3C u v x)) (h1:one a=true) (h2:one b=true) (h3:one c=true) (hk:∀w',Blk w' r (q3C a b c)→Fm w w' [r]→κ w'):stL ⟨r,0,none⟩ 0 [a,b,c] κ w:=by
 show st _ _ (st _ _ (st _ _ _)) _
 simp only [add_mk,Nat.add_zero,Nat.zero_add]
 refine st_u B rfl h1 ?_
 intro w7 B7 F7
 rw [q3_0] at B7
 refine st_u B7 rfl h2 ?_
 intro w8 B8 F8
 rw [q3_1] at B8
 refine st_u B8 rfl h3 ?_
 intro w9 B9 F9
 rw [q3_2] at B9
 exact hk w9 B9 ((F7.trans F8 (fun x hx => .inl hx)).trans F9 (fun x hx => .inl hx))
end
theorem drop_four {xs:List Nat} {j:Nat} (hj:1≤j) (h:4*j≤xs.length):∃a b c d,xs.drop (4*(j-1))=a::b::c::d::xs.drop (4*j):=by
 have h0:4*(j-1)<xs.length:=by omega
 refine ⟨xs[4*(j-1)],xs[4*(j-1)+1]'(by omega),xs[4*(j-1)+2]'(by omega),xs[4*(j-1)+3]'(by omega),?_⟩
 rw [List.drop_eq_getElem_cons h0,List.drop_eq_getElem_cons (i:=4*(j-1)+1) (by omega),List.drop_eq_getElem_cons (i:=4*(j-1)+1+1) (by omega),List.drop_eq_getElem_cons (i:=4*(j-1)+1+1+1) (by omega),show 4*(j-1)+1+1+1+1=4*j by omega]
section
variable {w:World} {r ob cap tb capt m k c nb:Nat} {cd ln:Nat→Nat} {pre ol xs:List Nat} {s2:Sl}
theorem c1_inner {A23:Int×Sl→PT} (hsrc:Arr .u8 w s2 xs) (hT:∀x∈xs,TB w tb capt cd ln x) (B:Blk w r (q3C (.int .u64 (c:Nat)) (.int .u64 (nb:Nat)) (.int .i64 ((pre++ol).length:Nat)))) (H:VecU w ⟨some ⟨ob,0,none⟩,(pre++ol).length,cap⟩ (pre++ol))
  (E:EB ol c nb (hE cd ln (xs.drop (4*m))).1 (hE cd ln (xs.drop (4*m))).2) (hnb:nb≤51) (hm1:1≤m) (hm:4*m≤xs.length) (hxs:xs.length≤2^30) (hk1:1≤k) (hke:k=(cap-(pre++ol).length-8)/6) (hcap:cap<2^63)
  (dr:r≠ob) (drt:r≠tb) (dot:ob≠tb) (ds:∀a,s2.a=some a→xs ≠ []→a.block ∉ [r,ob])
  (hk:∀w' j ol' c' nb',j<m→nb'≤51→EB ol' c' nb' (hE cd ln (xs.drop (4*j))).1 (hE cd ln (xs.drop (4*j))).2→VecU w' ⟨some ⟨ob,0,none⟩,(pre++ol').length,cap⟩ (pre++ol')→Blk w' r (q3C (.int .u64 (c':Nat)) (.int .u64 (nb':Nat)) (.int .i64 ((pre++ol').length:Nat)))→Fm w w' [r,ob]→A23 ((4*j:Nat)-(4:Int),⟨some ⟨ob,0,none⟩,cap,cap⟩) w') :
  loopP ((4*m:Nat)-(4:Int)) (q120_L1 s2 ⟨some ⟨tb,0,none⟩,256,capt⟩ ⟨r,0,none⟩ ((4*m:Nat)-(4:Int),⟨some ⟨ob,0,none⟩,cap,cap⟩) A23 ((pre++ol).length:Nat)) w:=by
 have hposle:(pre++ol).length≤cap:=H.vec.cap
 have hroom:(pre++ol).length+8+6*k≤cap:=by omega
 have hpl:(pre++ol).length=pre.length+ol.length:=List.length_append
 refine ⟨fun x w'=>∃(j:Nat) (ol':List Nat) (c' nb':Nat),x=(4*j:Nat)-(4:Int)∧j≤m∧m≤j+k∧ol'.length≤ol.length+6*(m-j)∧nb'≤51∧EB ol' c' nb' (hE cd ln (xs.drop (4*j))).1 (hE cd ln (xs.drop (4*j))).2∧VecU w' ⟨some ⟨ob,0,none⟩,(pre++ol').length,cap⟩ (pre++ol')∧Blk w' r (q3C (.int .u64 (c':Nat)) (.int .u64 (nb':Nat)) (.int .i64 ((pre++ol').length:Nat)))∧Fm w w' [r,ob],fun x _=>(x+4).toNat,
  ⟨m,ol,c,nb,rfl,Nat.le_refl _,by omega,by omega,hnb,E,H,B,Fm.refl _ _⟩,?_⟩
 rintro x w1 ⟨j,ol1,c1,nb1,rfl,hj,hjk,hol1,hnb1,E1,H1,B1,F1⟩
 have hpl1:(pre++ol1).length=pre.length+ol1.length:=List.length_append
 unfold q120_L1
 simp only
 have eK:quoI .i64 (IntKind.i64.wrap (IntKind.i64.wrap ((cap:Int)-((pre++ol).length:Nat))-8)) 6=((k:Nat):Int):=by
  rw [wI64 (x:=(cap:Int)-((pre++ol).length:Nat)) (by omega) (by omega),wI64 (by omega) (by omega),show (cap:Int)-((pre++ol).length:Nat)-8=((cap-(pre++ol).length-8:Nat):Int) by omega,show (6:Int)=((6:Nat):Int) from rfl,quoI_nat _ _ _ (by simp only [IntKind.bits];omega), ←hke]
 rw [eK,wI64 (x:=4*((k:Nat):Int)) (by omega) (by omega),wI64 (x:=(4*m:Nat)-(4:Int)-4*((k:Nat):Int)) (by omega) (by omega)]
 have estop:maxI ((4*m:Nat)-(4:Int)-4*((k:Nat):Int)) (-4)=((4*(m-k):Nat):Int)-4:=by
  unfold maxI
  split<;>omega
 rw [estop]
 refine cnd_d ?_ ?_
 ·intro hc
  have hj1:1≤j:=by omega
  have hjk2:m<j+k:=by omega
  have h8:(pre++ol1).length+8≤cap:=by omega
  have hlen1:=E1.len
  refine ld3 B1 ?_
  dsimp only
  refine c149 H1 h8 hcap (by omega) E1.lt ?_
  intro w2 H2 F2
  have B2:=B1.fr F2 (nm1 dr)
  refine st3 B2 rfl rfl rfl ?_
  intro w3 B3 F3
  have H3:=H2.fr F3 (by simp [Sl.bs];exact fun e=>dr e.symm)
  have F13:Fm w w3 [r,ob]:=(F1.trans F2 (by intro v hv;simp at hv;simp [hv])).trans F3 (by intro v hv;simp at hv;simp [hv])
  obtain ⟨xa,xb,xc,xd,hd⟩:=drop_four hj1 (show 4*j≤xs.length by omega)
  have hsub:=hsrc.sub (4*(j-1)) (4*j) (by omega) (by omega)
  rw [hd,show 4*j-4*(j-1)=4 by omega] at hsub
  have et:(xa::xb::xc::xd::xs.drop (4*j)).take 4 = [xa,xb,xc,xd]:=rfl
  rw [et] at hsub
  have hmem:∀x ∈ [xa,xb,xc,xd],x∈xs:=by
   intro x hx
   have h1:x∈xs.drop (4*(j-1)):=by
    rw [hd]
    simp only [List.mem_cons,List.not_mem_nil,or_false] at hx ⊢
    rcases hx with h|h|h|h<;>simp [h]
   exact List.mem_of_mem_drop h1
  have hxn:xs ≠ []:=by intro e;rw [e] at hm;simp at hm;omega
  refine slc_lh (n:=4*(j-1)) (m:=4*j) (by omega) (by rw [wI64 (by omega) (by omega)];omega) (by omega) (by have:=hsrc.cap;have:=hsrc.len;omega) ?_
  rw [show 4*j-4*(j-1)=4 by omega]
  have hsrc3:Arr .u8 w3 ⟨slA s2.a (4*(j-1)) s2.c 1,4,s2.c-4*(j-1)⟩ [xa,xb,xc,xd]:=by
   refine hsub.fr F13 ?_
   intro a ha _
   simp only at ha
   unfold slA at ha
   split at ha
   ·exact ds a ha hxn
   ·cases hs:s2.a with
    | none=>rw [hs] at ha;cases ha
    | some b =>
     rw [hs] at ha
     simp only [Option.map_some,Option.some.injEq] at ha
     have hb:=ds b hs hxn
     rw [←ha]
     have e:(b.add (4*(j-1)*1)).block=b.block:=by unfold Addr.add;split<;>rfl
     rw [e]
     exact hb
  have dtr:tb ∉ [r,ob]:=by simp;exact ⟨fun e=>drt e.symm,fun e=>dot e.symm⟩
  have T3:∀x ∈ [xa,xb,xc,xd],TB w3 tb capt cd ln x:=fun x hx=>(hT x (hmem x hx)).fr F13 dtr
  have Fd:Fm w3 w3.drew []:=(Fm.refl w3 []).drew
  have hs3d:=hsrc3.fr Fd (fun _ _ _=>by simp)
  have T3d:∀x ∈ [xa,xb,xc,xd],TB w3.drew tb capt cd ln x:=fun x hx=>(T3 x hx).fr Fd (by simp)
  have Ta:=T3d xa (by simp)
  have Tb:=T3d xb (by simp)
  have Tc:=T3d xc (by simp)
  have Td:=T3d xd (by simp)
  unfold drw
  refine ld3 B3.drew ?_
  refine entW hs3d 3 rfl (by simp) Td ?_
  refine entW hs3d 2 rfl (by simp) Tc ?_
  refine entW hs3d 1 rfl (by simp) Tb ?_
  refine entW hs3d 0 rfl (by simp) Ta ?_
  show callP _ _ _ _ _ _
  dsimp only [List.getElem_cons_succ,List.getElem_cons_zero]
  refine c151 Td.hc Tc.hc Tb.hc Ta.hc Td.hl Tc.hl Tb.hl Ta.hl ?_
  intro w4 F4
  have B4:=B3.drew.fr F4 (by simp)
  have e0:=B4.cell 0
  have e1:=B4.cell 1
  have e2:=B4.cell 2
  simp only [add_mk,Nat.zero_add,Nat.add_zero]
  refine ⟨?_,?_⟩
  ·intro f hf
   simp only [List.mem_cons,List.not_mem_nil,or_false] at hf
   rcases hf with rfl|rfl|rfl
   ·exact e0
   ·exact e1
   ·exact e2
  have E2:=E1.flush
  have hv4:=four_lt Ta.hc Tb.hc Tc.hc Td.hc
  have E3:=E2.add hv4
  rw [show (hE cd ln (xs.drop (4*j))).1+(cd xd+cd xc*2^ln xd+cd xb*2^(ln xd+ln xc)+cd xa*2^(ln xd+ln xc+ln xb))*2^(hE cd ln (xs.drop (4*j))).2=(hE cd ln (xs.drop (4*(j-1)))).1 by rw [hd,hE_four],show (hE cd ln (xs.drop (4*j))).2+(ln xd+ln xc+ln xb+ln xa)=(hE cd ln (xs.drop (4*(j-1)))).2 by rw [hd,hE_four]] at E3
  have la:=Ta.hl
  have lb:=Tb.hl
  have lc:=Tc.hl
  have ld':=Td.hl
  refine c150 (by omega) E2.lt hv4 (by omega) ?_
  intro w5 F5
  have B5:=B4.fr F5 (by simp)
  refine st3 B5 rfl rfl rfl ?_
  intro w6 B6 F6
  rw [wI64 (by omega) (by omega)]
  have F36:Fm w3 w6 [r]:=(((Fm.refl w3 []).drew.trans F4 (by simp)).trans F5 (by simp) |>.mono (by simp)).trans F6 (fun x hx => .inl hx)
  have epl:(pre++(ol1++leB c1 (nb1/8))).length=(pre++ol1).length+nb1/8:=by rw [←List.append_assoc,List.length_append,leB_len]
  have H6:=H3.fr F36 (by simp [Sl.bs];exact fun e=>dr e.symm)
  rw [←epl,List.append_assoc] at H6
  rw [←epl] at B6
  refine ⟨⟨j-1,ol1++leB c1 (nb1/8),_,_,by omega,by omega,by omega,?_,?_,E3,H6,B6,F13.trans F36 (by intro v hv;simp at hv;simp [hv])⟩,by omega⟩
  ·rw [List.length_append,leB_len];omega
  ·omega
 ·intro hc
  exact hk w1 j ol1 c1 nb1 (by omega) hnb1 E1 H1 B1 F1
end
def flagF (o:Option Value) (c:Nat):Nat:=match o with
 | some (.int .i64 p)=>if p+14≤(c:Int) then 0 else 1
 | _=>0
theorem tdiv_le0 {x:Int} (h:x<6) (h2 : -8≤x):quoI .i64 x 6≤0:=by
 unfold quoI
 by_cases h0:0≤x
 ·obtain ⟨n,rfl⟩:∃n:Nat,x=n:=⟨x.toNat,by omega⟩
  have:(n:Int).tdiv 6=0:=by
   rw [Int.tdiv_eq_ediv_of_nonneg (by omega)];omega
  rw [this,wI64 (by omega) (by omega)]
  omega
 ·obtain ⟨n,rfl⟩:∃n:Nat,x = -(n:Int):=⟨(-x).toNat,by omega⟩
  have e:((n:Int)).tdiv 6=(n:Int)/6:=Int.tdiv_eq_ediv_of_nonneg (by omega)
  rw [Int.neg_tdiv,e,wI64 (by omega) (by omega)]
  omega
section
variable {w:World} {r tb capt m:Nat} {cd ln:Nat→Nat} {pre xs:List Nat} {s2:Sl}
structure BI (w0 w:World) (r m:Nat) (bs0:List Nat) (asp:Option Addr) (cd ln:Nat→Nat) (pre xs:List Nat) (a:Option Addr) (cap:Nat) (ol:List Nat) (c nb:Nat):Prop where
 nb51:nb≤51
 e:EB ol c nb (hE cd ln (xs.drop (4*m))).1 (hE cd ln (xs.drop (4*m))).2
 h:VecU w ⟨a,(pre++ol).length,cap⟩ (pre++ol)
 cap_:cap<2^63
 b:Blk w r (q3C (.int .u64 (c:Nat)) (.int .u64 (nb:Nat)) (.int .i64 ((pre++ol).length:Nat)))
 new:∀v∈(⟨a,(pre++ol).length,cap⟩:Sl).bs,v∈bs0∨w0.heap.size≤v
 fr:Fm w0 w (r::bs0)
 held:Held w asp pre
theorem c1_outer {R21:Sl→PT} {a0 as0:Option Addr} {cap0 c0 nb0:Nat} {ol0 bs0:List Nat} (hsrc:Arr .u8 w s2 xs) (hT:∀x∈xs,TB w tb capt cd ln x) (hm:4*m≤xs.length) (hxs:xs.length≤2^30) (hpre:pre.length≤2^30)
  (I:BI w w r m bs0 as0 cd ln pre xs a0 cap0 ol0 c0 nb0) (hr:r∉bs0) (has:∀a,as0=some a→a.block≠r) (drt:r≠tb) (dot:tb∉bs0) (ds:∀a,s2.a=some a→xs ≠ []→a.block∉r::bs0)
  (hk:∀w' a cap ol c nb,BI w w' r 0 bs0 as0 cd ln pre xs a cap ol c nb→R21 ⟨a,cap,cap⟩ w') :
  loopP ((4*m:Nat)-(4:Int),(⟨a0,cap0,cap0⟩:Sl)) (q120_L2 s2 ⟨some ⟨tb,0,none⟩,256,capt⟩ ⟨r,0,none⟩ R21) w:=by
 have hrl:=I.b.lt
 refine ⟨fun x w'=>∃(m':Nat) (a:Option Addr) (cap:Nat) (ol:List Nat) (c nb:Nat),x=((4*m':Nat)-(4:Int),⟨a,cap,cap⟩)∧m'≤m∧BI w w' r m' bs0 as0 cd ln pre xs a cap ol c nb,fun x w'=>2*((x.1+4).toNat/4)+flagF (w'.cell? ⟨r,2,none⟩) x.2.c,⟨m,a0,cap0,ol0,c0,nb0,rfl,Nat.le_refl _,I⟩,?_⟩
 rintro x w1 ⟨m1,a,cap,ol,c,nb,rfl,hm1,I1⟩
 have hrc:=I1.b.cell 2
 have hposle:(pre++ol).length≤cap:=I1.h.vec.cap
 have hcap:=I1.cap_
 have hol:8*ol.length≤11*xs.length:=by
  have h1:=I1.e.len
  have h2:=hE_le (cd:=cd) (ln:=ln) (xs:=xs.drop (4*m1)) (fun x hx=>(hT x (List.mem_of_mem_drop hx)).hl)
  rw [List.length_drop] at h2
  omega
 have hpl:(pre++ol).length=pre.length+ol.length:=List.length_append
 have hsz:=I1.fr.size
 have hra:r∉(⟨a,(pre++ol).length,cap⟩:Sl).bs:=fun h=>by
  rcases I1.new r h with h1|h1
  ·exact hr h1
  ·omega
 unfold q120_L2
 simp only [add_mk,Nat.zero_add]
 have hflag:flagF (w1.cell? ⟨r,2,none⟩) cap=if (pre++ol).length+14≤cap then 0 else 1:=by
  rw [hrc]
  show (if (((pre++ol).length:Nat):Int)+14≤(cap:Int) then 0 else 1)=_
  by_cases h:(pre++ol).length+14≤cap
  ·rw [if_pos h,if_pos (by omega)]
  ·rw [if_neg h,if_neg (by omega)]
 rw [hflag]
 refine cnd_d ?_ ?_
 ·intro hc
  have hm10:1≤m1:=by omega
  have hxn:xs ≠ []:=by intro e;subst e;simp at hm;omega
  obtain ⟨x0,hx0⟩:=List.exists_mem_of_ne_nil xs hxn
  have htl:=World.block_lt_of_cell? _ _ (hT x0 hx0).c0
  simp only at htl
  refine ld_b (t := .I .i64) (x:=(((pre++ol).length:Nat):Int)) I1.b rfl ?_
  refine ⟨by decide,?_⟩
  have e1:IntKind.i64.wrap (IntKind.i64.wrap ((cap:Int)-((pre++ol).length:Nat))-8)=(cap:Int)-((pre++ol).length:Nat)-8:=by
   rw [wI64 (x:=(cap:Int)-((pre++ol).length:Nat)) (by omega) (by omega),wI64 (by omega) (by omega)]
  by_cases hk6:(pre++ol).length+14≤cap
  ·-- there is room
   have ek:quoI .i64 ((cap:Int)-((pre++ol).length:Nat)-8) 6=(((cap-(pre++ol).length-8)/6:Nat):Int):=by
    rw [show (cap:Int)-((pre++ol).length:Nat)-8=((cap-(pre++ol).length-8:Nat):Int) by omega,show (6:Int)=((6:Nat):Int) from rfl,quoI_nat _ _ _ (by simp only [IntKind.bits];omega)]
   rw [if_pos hk6]
   refine cnd_d ?_ ?_
   ·intro h
    rw [e1,ek] at h
    omega
   ·intro _
    cases ha:a with
    | none =>
     have:=I1.h.vec.non ha
     simp only at this
     omega
    | some aa =>
     subst ha
     obtain ⟨h1,h2,_⟩:=I1.h.vec.blk aa rfl
     obtain ⟨ob,ao,asp⟩:=aa
     simp only at h1 h2
     subst h1 h2
     have hob:=I1.new ob (by simp [Sl.bs])
     have dr:r≠ob:=fun e=>hra (by simp [Sl.bs,e])
     have dot1:ob≠tb:=by
      intro e
      rcases hob with h|h
      ·exact dot (e▸h)
      ·omega
     have ds1:∀a,s2.a=some a→xs ≠ []→a.block ∉ [r,ob]:=by
      intro a ha hx
      have h3:=ds a ha hx
      have h4:=hsrc.old hx a ha
      simp only [List.mem_cons,not_or,List.not_mem_nil,or_false] at h3 ⊢
      refine ⟨h3.1,?_⟩
      intro e
      rcases hob with h|h
      ·exact h3.2 (e▸h)
      ·omega
     refine c1_inner (m:=m1) (k:=(cap-(pre++ol).length-8)/6) (hsrc.fr I1.fr ds) (fun x hx=>(hT x hx).fr I1.fr (by simp;exact ⟨fun e=>drt e.symm,dot⟩)) I1.b I1.h I1.e I1.nb51 hm10 (by omega) hxs (by omega) rfl hcap dr drt dot1 ds1 ?_
     intro w2 j ol' c' nb' hj hnb' E' H' B' F'
     refine ⟨⟨j,_,cap,ol',c',nb',rfl,by omega,⟨hnb',E',H',hcap,B',?_,I1.fr.trans F' ?_,I1.held.vec (l':=ol') H' F' ?_⟩⟩,?_⟩
     ·intro v hv
      simp [Sl.bs] at hv
      subst hv
      exact hob
     ·intro v hv
      simp only [List.mem_cons,List.not_mem_nil,or_false] at hv
      rcases hv with rfl|rfl
      ·left;simp
      ·rcases hob with h|h
       ·left;simp [h]
       ·exact .inr h
     ·intro a ha hm
      simp only [List.mem_cons,List.not_mem_nil,or_false] at hm
      rcases hm with h|h
      ·exact absurd h (has a ha)
      ·simp [Sl.bs,h]
     ·have hfl:flagF (w2.cell? ⟨r,2,none⟩) cap≤1:=by
       unfold flagF
       split
       ·split<;>omega
       ·omega
      have e4:(((4*j:Nat):Int)-4+4).toNat/4=j:=by omega
      have e5:(((4*m1:Nat):Int)-4+4).toNat/4=m1:=by omega
      simp only [e4,e5]
      omega
  ·-- room is made
   rw [if_neg hk6]
   refine cnd_d ?_ ?_
   ·intro _
    refine ld_b (t := .I .i64) (x:=(((pre++ol).length:Nat):Int)) I1.b rfl ?_
    refine slc_hi (m:=(pre++ol).length) rfl hposle ?_
    refine ⟨by decide,?_⟩
    have e3:quoI .i64 ((4*m1:Nat)-(4:Int)) 4=((m1-1:Nat):Int):=by
     rw [show ((4*m1:Nat):Int)-4=((4*(m1-1):Nat):Int) by omega,show (4:Int)=((4:Nat):Int) from rfl,quoI_nat _ _ _ (by simp only [IntKind.bits];omega)]
     congr 1;omega
    have e4:IntKind.i64.wrap (IntKind.i64.wrap (IntKind.i64.wrap (((m1-1:Nat):Int)+1)*6)+8)=((6*m1+8:Nat):Int):=by
     rw [wI64 (x:=((m1-1:Nat):Int)+1) (by omega) (by omega),wI64 (x:=(((m1-1:Nat):Int)+1)*6) (by omega) (by omega),wI64 (by omega) (by omega)]
     omega
    rw [e3,e4]
    refine c148 I1.h (by omega) (by omega) hcap ?_
    intro w2 a' cap' H' hroom hcap' F' N'
    refine slc_hi (m:=cap') rfl (Nat.le_refl _) ?_
    have B':=I1.b.fr F' (by simp)
    refine ⟨⟨m1,a',cap',ol,c,nb,rfl,hm1,⟨I1.nb51,I1.e,H',hcap',B',?_,I1.fr.trans F' (by simp),I1.held.fr F' (by simp)⟩⟩,?_⟩
    ·intro v hv
     rcases N' v hv with h|h
     ·exact I1.new v h
     ·right;omega
    ·have hrc2:=B'.cell 2
     rw [hrc2]
     have:flagF (q3C (.int .u64 (c:Nat)) (.int .u64 (nb:Nat)) (.int .i64 ((pre++ol).length:Nat)) 2) cap'=0:=by
      show (if (((pre++ol).length:Nat):Int)+14≤(cap':Int) then 0 else 1)=0
      rw [if_pos (by omega)]
     simp only [this]
     omega
   ·intro h
    have:=tdiv_le0 (x:=(cap:Int)-((pre++ol).length:Nat)-8) (by omega) (by omega)
    rw [e1] at h
    exact absurd this h
 ·intro hc
  have hm10:m1=0:=by omega
  subst hm10
  exact hk w1 a cap ol c nb I1
theorem hE_drop {xs:List Nat} {i:Nat} (h:i<xs.length):hE cd ln (xs.drop i)=((hE cd ln (xs.drop (i+1))).1+cd xs[i]*2^(hE cd ln (xs.drop (i+1))).2,(hE cd ln (xs.drop (i+1))).2+ln xs[i]):=by
 rw [List.drop_eq_getElem_cons h];rfl
theorem c120 {g lct:Nat} {s:HU} {s1:Sl} {K:Sl→PT} (B:Blk w g s.at) (hct:s.ct=⟨some ⟨tb,0,none⟩,lct,capt⟩) (hcapt:256≤capt) (H:VecU w s1 pre) (hsrc:Arr .u8 w s2 xs) (hT:∀x∈xs,TB w tb capt cd ln x) (hxe:xs ≠ []) (hxs:xs.length≤2^30) (hpre:pre.length≤2^30)
  (dt:tb∉s1.bs) (ds:∀a,s2.a=some a→xs ≠ []→a.block∉s1.bs)
  (hk:∀w' so ol,By ol→leN ol=(hE cd ln xs).1+2^(hE cd ln xs).2→ol.length=(hE cd ln xs).2/8+1→VecU w' so (pre++ol)→Fm w w' s1.bs→(∀v∈so.bs,v∈s1.bs∨w.heap.size≤v)→Held w' s1.a pre→K so w') :
  callP Tryd.prog 120 #[.pointer (some ⟨g,0,none⟩),.slice s1.a s1.l s1.c,.slice s2.a s2.l s2.c] [.c .S] K w:=by
 have hsl:=hsrc.len
 have hgl:=B.lt
 have h1l:=H.len
 apply q120_ok
 unfold q120
 refine nw_3 ?_
 intro w1 F1 hs1 B1
 have dgp:g≠w.heap.size:=by omega
 have d1p:w.heap.size∉s1.bs:=fun h=>by have:=H.lt _ h;omega
 have dtp:∀x∈xs,tb≠w.heap.size:=fun x hx=>by
  have:=World.block_lt_of_cell? _ _ (hT x hx).c0
  simp only at this;omega
 have dsp:∀a,s2.a=some a→xs ≠ []→a.block≠w.heap.size:=fun a ha hx=>by
  have:=hsrc.old hx a ha;omega
 have hwp:w.heap.size≤w.heap.size:=Nat.le_refl _
 generalize hpe:w.heap.size=p at *
 have Bg:=B.fr F1 (by simp)
 have H1:=H.fr F1 (by simp)
 show stL _ _ _ _ _
 show st _ _ (st _ _ (st _ _ _)) _
 simp only [add_mk,Nat.add_zero,Nat.zero_add]
 refine st_u B1 rfl rfl ?_
 intro w2 B2 F2
 rw [q3_0] at B2
 refine st_u B2 rfl rfl ?_
 intro w3 B3 F3
 rw [q3_1] at B3
 refine st_u B3 rfl rfl ?_
 intro w4 B4 F4
 rw [q3_2] at B4
 have B4':Blk w4 p (q3C (.int .u64 ((0:Nat):Int)) (.int .u8 ((0:Nat):Int)) s1.val):=B4
 have F14:Fm w1 w4 [p]:=(F2.trans F3 (fun x hx => .inl hx)).trans F4 (fun x hx => .inl hx)
 have F04:Fm w w4 []:=F1.trans F14 (by intro v hv;right;simp at hv;omega)
 have Bg4:=B.fr F04 (by simp)
 refine ld_b (t := .S) (x:=⟨some ⟨tb,0,none⟩,lct,capt⟩) Bg4 (by show some s.ct.val=_;rw [hct];rfl) ?_
 refine slc_hi (m:=256) rfl hcapt ?_
 have e3:andI .i64 (s2.l:Int) 3=((xs.length%4:Nat):Int):=by
  have:=andI_i64 xs.length 3 (by omega) (by omega)
  rw [hsl,show (3:Int)=((3:Nat):Int) from rfl,this]
  have:=Nat.and_two_pow_sub_one_eq_mod xs.length 2
  rw [show 2^2-1=3 from rfl,show 2^2=4 from rfl] at this
  rw [this]
 have en:IntKind.i64.wrap ((s2.l:Int)-((xs.length%4:Nat):Int))=((4*(xs.length/4):Nat):Int):=by
  rw [hsl,wI64 (by omega) (by omega)];omega
 rw [e3]
 refine joinP_id ?_
 refine ⟨fun x w'=>∃(i c nb:Nat),x=(i:Int)∧i≤xs.length%4∧nb≤11*(3-i)∧EB [] c nb (hE cd ln (xs.drop (4*(xs.length/4)+i))).1 (hE cd ln (xs.drop (4*(xs.length/4)+i))).2∧Blk w' p (q3C (.int .u64 (c:Nat)) (.int .u8 (nb:Nat)) s1.val)∧Fm w w' [p],fun x _=>x.toNat,
  ⟨xs.length%4,0,0,rfl,Nat.le_refl _,Nat.zero_le _,?_,B4',F04.mono (by simp)⟩,?_⟩
 ·rw [List.drop_of_length_le (by omega)]
  exact ⟨rfl,rfl,by decide,by intro x hx;cases hx⟩
 rintro x w5 ⟨i,c,nb,rfl,hi,hnb,E5,B5,F5⟩
 unfold q120_L0
 refine cnd_d ?_ ?_
 ·intro hc
  rw [e3,en]
  have hix:4*(xs.length/4)+i-1<xs.length:=by omega
  rw [wI64 (x:=((4*(xs.length/4):Nat):Int)+(i:Int)) (by omega) (by omega),wI64 (x:=((4*(xs.length/4):Nat):Int)+(i:Int)-1) (by omega) (by omega)]
  have hxn:xs ≠ []:=by intro e;subst e;simp at hix
  have hmem:=List.getElem_mem hix
  have hT5:=(hT _ hmem).fr F5 (by simp;exact dtp _ hmem)
  have hs5:=hsrc.fr F5 (fun a ha hx=>by simp;exact dsp a ha hx)
  refine hs5.ldk (4*(xs.length/4)+i-1) (by omega) hix ?_
  intro q hq
  refine ld_c (t := .I .u8) (x:=((xs[4*(xs.length/4)+i-1]:Nat):Int)) hq ?_
  refine c147 B5 hT5 E5.lt (by omega) ?_
  intro w6 B6 F6
  rw [wI64 (by omega) (by omega)]
  have E6:=E5.add hT5.hc
  have hd:=hE_drop (cd:=cd) (ln:=ln) hix
  rw [show 4*(xs.length/4)+i-1+1=4*(xs.length/4)+i by omega] at hd
  have hl:=hT5.hl
  refine ⟨⟨i-1,_,_,by omega,by omega,?_,?_,B6,F5.trans F6 (fun x hx => .inl hx)⟩,by dsimp only;omega⟩
  ·omega
  ·rw [show 4*(xs.length/4)+(i-1)=4*(xs.length/4)+i-1 by omega,hd]
   exact E6
 ·intro hc
  have hi0:i=0:=by omega
  subst hi0
  rw [Nat.add_zero] at E5
  unfold q120_J4
  simp only [add_mk,Nat.zero_add]
  refine ld_b (t := .I .u64) (x:=((c:Nat):Int)) B5 rfl ?_
  refine ld_b (t := .I .u8) (x:=((nb:Nat):Int)) B5 rfl ?_
  refine ld_b (t := .S) (x:=s1) B5 rfl ?_
  refine nw_3 ?_
  intro w6 F6 hs6 B6
  have hp5:=B5.lt
  have drp:w5.heap.size≠p:=by omega
  have hsz5:=F5.size
  have dr1:w5.heap.size∉s1.bs:=fun h=>by have:=H.lt _ h;omega
  have drt:∀x∈xs,w5.heap.size≠tb:=fun x hx=>by
   have:=World.block_lt_of_cell? _ _ (hT x hx).c0
   simp only at this;omega
  have drs:∀a,s2.a=some a→xs ≠ []→a.block≠w5.heap.size:=fun a ha hx=>by
   have:=hsrc.old hx a ha;omega
  have hwr:w.heap.size≤w5.heap.size:=by omega
  generalize hre:w5.heap.size=r at *
  have B5':=B5.fr F6 (by simp)
  rw [wU64 (x:=((nb:Nat):Int)) (by omega) (by omega),h1l]
  refine st3 B6 rfl rfl rfl ?_
  intro w7 B7 F7
  have F67:Fm w5 w7 [r]:=(F6.mono (by simp)).trans F7 (fun x hx => .inl hx)
  have B7p:=B5.fr F67 (nm1 drp.symm)
  have F07:Fm w w7 [p,r]:=(F5.mono (by intro v hv;simp at hv;simp [hv])).trans F67 (by intro v hv;simp at hv;simp [hv])
  have F07e:Fm w w7 []:=F07.mono (by intro v hv;right;simp at hv;rcases hv with rfl|rfl<;>omega)
  refine ld_b (t := .S) (x:=s1) B7p rfl ?_
  refine ld_b (t := .S) (x:=s1) B7p rfl ?_
  refine slc_hi (m:=s1.c) rfl (Nat.le_refl _) ?_
  refine joinP_id ?_
  rw [e3,en,wI64 (by omega) (by omega)]
  have H7:VecU w7 ⟨s1.a,(pre ++ []).length,s1.c⟩ (pre ++ []):=by
   rw [List.append_nil]
   have:=H.fr F07e (by simp)
   rw [←h1l]
   exact this
  have hbse:(⟨s1.a,(pre ++ []).length,s1.c⟩:Sl).bs=s1.bs:=rfl
  obtain ⟨x0,hx0⟩:=List.exists_mem_of_ne_nil xs hxe
  refine c1_outer (m:=xs.length/4) (bs0:=s1.bs) (hsrc.fr F07e (by simp)) (fun x hx=>(hT x hx).fr F07e (by simp)) (by omega) hxs hpre ⟨by omega,E5,H7,H.c63,by rw [List.append_nil];exact B7,(fun v hv => .inl hv),Fm.refl _ _,(H.fr F07e (by simp)).held⟩ dr1 (fun a ha e=>dr1 (by unfold Sl.bs;rw [ha];simp [e])) (drt x0 hx0) dt ?_ ?_
  ·intro a ha hx
   simp only [List.mem_cons,not_or]
   exact ⟨drs a ha hx,ds a ha hx⟩
  intro w8 a cap ol c8 nb8 I8
  have e8:=I8.e
  rw [Nat.mul_zero,List.drop_zero] at e8
  have hsz8:=I8.fr.size
  have hol:8*ol.length≤11*xs.length:=by
   have h1:=e8.len
   have h2:=hE_le (cd:=cd) (ln:=ln) (xs:=xs) (fun x hx=>(hT x hx).hl)
   omega
  have hposle:(pre++ol).length≤cap:=I8.h.vec.cap
  have hcap:=I8.cap_
  have hpl:(pre++ol).length=pre.length+ol.length:=List.length_append
  have hsz7:=F07.size
  have hp7:=B7p.lt
  have hr7:=B7.lt
  have hpa:p∉(⟨a,(pre++ol).length,cap⟩:Sl).bs:=fun h=>by
   rcases I8.new p h with h1|h1
   ·exact d1p h1
   ·omega
  have B8p:=B7p.fr I8.fr (by simp;exact ⟨drp.symm,d1p⟩)
  have nbl:=I8.nb51
  unfold q120_J3 drw
  simp only [add_mk,Nat.zero_add]
  have B8:=I8.b.drew
  refine ld_b (t := .I .u64) (x:=((c8:Nat):Int)) B8 rfl ?_
  refine ld_b (t := .I .u64) (x:=((nb8:Nat):Int)) B8 rfl ?_
  refine ld_b (t := .I .i64) (x:=(((pre++ol).length:Nat):Int)) B8 rfl ?_
  refine slc_hi (m:=(pre++ol).length) rfl hposle ?_
  refine st_u B8p.drew rfl rfl ?_
  intro w9 B9 F9
  rw [q3_0] at B9
  have B9r:=B8.fr F9 (nm1 drp)
  have kr1:=B9r.cell 1
  have kr2:=B9r.cell 2
  refine ⟨?_,?_⟩
  ·intro f hf
   simp only [List.mem_cons,List.not_mem_nil,or_false] at hf
   rcases hf with rfl|rfl
   ·exact kr2
   ·exact kr1
  rw [wU8 (x:=((nb8:Nat):Int)) (by omega) (by omega)]
  refine st_u B9 rfl rfl ?_
  intro w10 B10 F10
  rw [q3_1] at B10
  have B10r:=B9r.fr F10 (nm1 drp)
  have kr3:=B10r.cell 2
  refine ⟨?_,?_⟩
  ·intro f hf
   simp only [List.mem_cons,List.not_mem_nil,or_false] at hf
   subst hf
   exact kr3
  refine st_u B10 rfl rfl ?_
  intro w11 B11 F11
  rw [q3_2] at B11
  have F811:Fm w8 w11 [p]:=(((Fm.refl w8 [p]).drew.trans F9 (fun x hx => .inl hx)).trans F10 (fun x hx => .inl hx)).trans F11 (fun x hx => .inl hx)
  have H11:=I8.h.fr F811 (by intro v hv;simp;exact fun e=>hpa (e▸hv))
  have B11':Blk w11 p (q3C (.int .u64 (c8:Nat)) (.int .u8 (nb8:Nat)) (⟨a,(pre++ol).length,cap⟩:Sl).val):=B11
  refine c152 B11' H11 hpa e8.lt (by omega) (by omega) ?_
  intro w12 so B12 H12 dp12 F12 N12 Hh12
  refine ld_b (t := .S) (x:=so) B12 rfl ?_
  obtain ⟨c1,c2,c3⟩:=e8.close
  rw [List.append_assoc] at H12
  have hsz811:=F811.size
  have F08:Fm w w8 s1.bs:=(F07e.mono (by simp)).trans I8.fr (by
   intro v hv
   rcases List.mem_cons.mp hv with h|h
   ·right;omega
   ·exact .inl h)
  have new8:∀v∈(⟨a,(pre++ol).length,cap⟩:Sl).bs,v∈s1.bs∨w.heap.size≤v:=by
   intro v hv
   rcases I8.new v hv with h|h
   ·exact .inl h
   ·right;omega
  have hheld:Held w12 s1.a pre:=by
   intro ax hax i hi
   have h1:=(I8.held.fr F811 (by intro a2 ha2;simp;exact fun e=>d1p (by unfold Sl.bs;rw [ha2];simp [e]))) ax hax i hi
   have h2:=World.block_lt_of_cell? _ _ h1
   by_cases hm:ax.block∈(⟨a,(pre++ol).length,cap⟩:Sl).bs
   ·unfold Sl.bs at hm
    split at hm
    ·rename_i b2 hb2
     simp at hm
     rw [hm]
     exact Hh12.pre b2 hb2 i hi
    ·simp at hm
   ·rw [←h1]
    refine cell?_of_heap (F12.old ax.block h2 ?_) _ _
    intro h
    rcases List.mem_cons.mp h with h|h
    ·exact d1p (by unfold Sl.bs;rw [hax];simp [h])
    ·exact hm h
  refine hk w12 so _ c1 c2 c3 H12 ((F08.trans F811 (by intro v hv;right;simp at hv;omega)).trans F12 ?_) ?_ hheld
  ·intro v hv
   rcases List.mem_cons.mp hv with h|h
   ·right;omega
   ·exact new8 v h
  ·intro v hv
   rcases N12 v hv with h|h
   ·rw [←hpe];exact new8 v h
   ·right;omega
end
def EncT (cd ln:Nat→Nat) (xs ol:List Nat):Prop:=By ol∧leN ol=(hE cd ln xs).1+2^(hE cd ln xs).2∧ol.length=(hE cd ln xs).2/8+1
section
variable {w:World} {g tb capt lct:Nat} {cd ln:Nat→Nat} {pre xs:List Nat} {s1:Sl} {s:HU}
theorem c90 {K:Sl×Value→PT} (B:Blk w g s.at) (hct:s.ct=⟨some ⟨tb,0,none⟩,lct,capt⟩) (hcapt:256≤capt) (H:VecU w s.out pre) (hsrc:Arr .u8 w s1 xs) (hT:∀x∈xs,TB w tb capt cd ln x) (hxe:xs ≠ []) (hxs:xs.length≤2^30) (hpre:pre.length≤2^30)
  (dt:tb∉s.out.bs) (ds:∀a,s1.a=some a→xs ≠ []→a.block∉s.out.bs)
  (hk:∀w' so ol,EncT cd ln xs ol→VecU w' so (pre++ol)→Fm w w' s.out.bs→(∀v∈so.bs,v∈s.out.bs∨w.heap.size≤v)→Held w' s.out.a pre→K (so,.nilIface) w') :
  callP Tryd.prog 90 #[.pointer (some ⟨g,0,none⟩),.slice s1.a s1.l s1.c] [.c .S,.c .V] K w:=by
 apply q90_ok
 unfold q90
 simp only [add_mk,Nat.zero_add]
 refine ld_b (t := .S) (x:=s.out) B rfl ?_
 refine c120 (s1:=s.out) B hct hcapt H hsrc hT hxe hxs hpre dt ds ?_
 intro w' so ol h1 h2 h3 h4 h5 h6 h7
 exact hk w' so ol ⟨h1,h2,h3⟩ h4 h5 h6 h7
end
theorem cells_ldA {w:World} {g:Nat} {F:Cells} {κ:Array Value→PT} {n:Nat} (B:Blk w g F) (hF:∀i,i<n→(F i).isSome) (hk:∀cs,κ cs w):ldA n ⟨g,0,none⟩ κ w:=by
 refine ⟨((List.range n).map fun i=>(F i).getD .nilIface).toArray,by simp,?_,hk _⟩
 intro i hi
 rw [add_mk,Nat.zero_add,B.cell]
 obtain ⟨v,hv⟩:=Option.isSome_iff_exists.mp (hF i hi)
 simp [hi,hv]
section
variable {w:World} {g:Nat} {s:HU} {s1:Sl} {xs:List Nat}
theorem cs_count {R4:Unit→PT} (B:Blk w g s.at) (hz:∀i,i<256→s.count i=0) (hsrc:Arr .u8 w s1 xs) (hby:By xs) (hxs:xs.length≤2^30) (ds:∀a,s1.a=some a→xs ≠ []→a.block≠g)
  (hk:∀(w':World) (c':Nat→Int),(∀i,i<256→c' i=(xs.count i:Nat))→Blk w' g ({ s with count:=c' } : HU).at→Fm w w' [g]→R4 () w') :
  loopP (0:Int) (q117_L0 ⟨g,0,none⟩ s1 R4) w:=by
 have hsl:=hsrc.len
 refine ⟨fun x w'=>∃(n:Nat) (c':Nat→Int),x=(n:Int)∧n≤xs.length∧(∀i,i<256→c' i=((xs.take n).count i:Nat))∧Blk w' g ({ s with count:=c' } : HU).at∧Fm w w' [g],fun x _=>xs.length-x.toNat,⟨0,s.count,rfl,Nat.zero_le _,fun i hi=>by rw [hz i hi];rfl,B,Fm.refl _ _⟩,?_⟩
 rintro x w1 ⟨n,c1,rfl,hn,hc1,B1,F1⟩
 unfold q117_L0
 refine cnd_d ?_ ?_
 ·intro hc
  have hn2:n<xs.length:=by omega
  have hx:=hby _ (List.getElem_mem hn2)
  have hs1:=hsrc.fr F1 (fun a ha hx=>by simp;exact ds a ha hx)
  refine hs1.ldk n rfl hn2 ?_
  intro q hq
  refine ld_c (t := .I .u8) (x:=((xs[n]:Nat):Int)) hq ?_
  unfold drw
  have hle:(xs.take n).count xs[n]≤n:=Nat.le_trans List.count_le_length (by simp;omega)
  refine ixA_o rfl hx ?_
  rw [Nat.zero_add]
  refine ld_b (t := .I .u32) (x:=(((xs.take n).count xs[n]:Nat):Int)) B1.drew (by rw [HU.count_at _ hx];show some (Value.int .u32 (c1 _))=_;rw [hc1 _ hx];rfl) ?_
  refine ixA_o rfl hx ?_
  rw [Nat.zero_add]
  refine st_u B1.drew (by rw [HU.count_at _ hx];rfl) rfl ?_
  intro w2 B2 F2
  rw [HU.setC hx,wU32 (by omega) (by omega)] at B2
  rw [wI64 (by omega) (by omega)]
  refine ⟨⟨n+1,_,by simp,hn2,?_,B2,F1.drew.trans F2 (fun x hx => .inl hx)⟩,by dsimp only;omega⟩
  intro i hi
  show updF c1 xs[n] _ i=_
  unfold updF
  rw [List.take_succ_eq_append_getElem hn2,List.count_append,List.count_singleton]
  by_cases e:i=xs[n]
  ·subst e;rw [if_pos rfl];simp
  ·rw [if_neg e,hc1 i hi]
   have:(xs[n]==i)=false:=by simp;exact fun h=>e h.symm
   rw [this];simp
 ·intro hc
  have hn2:n=xs.length:=by omega
  subst hn2
  rw [List.take_length] at hc1
  exact hk w1 c1 hc1 B1 F1
structure MX (c:Nat→Nat) (m L:Nat):Prop where
 l1:1≤L
 l256:L≤256
 last:c (L-1)≠0
 out:∀i,i<256→L≤i→c i=0
 le:∀i,i<256→c i≤m
 ex:∃i,i<L∧c i=m
 pos:0<m
theorem cs_max {R31:Int→PT} {c:Nat→Nat} (B:Blk w g s.at) (hc:∀i,i<256→s.count i=(c i:Nat)) (hlt:∀i,c i<4294967296) (hex:∃i,i<256∧c i≠0)
  (hk:∀w' m L,MX c m L→Blk w' g ({ s with symL:=(L:Nat) } : HU).at→Fm w w' [g]→R31 ((m:Nat):Int) w') :
  loopP ((0:Int),(0:Int)) (q117_L7 ⟨g,0,none⟩ R31 ⟨some ⟨g,0,none⟩,256,256⟩) w:=by
 refine ⟨fun x w'=>∃(m n:Nat) (y:Int),x=((m:Int),(n:Int))∧n≤256∧(∀i,i<n→c i≤m)∧Blk w' g ({ s with symL:=y } : HU).at∧Fm w w' [g]∧(((∀i,i<n→c i=0)∧m=0)∨(∃L:Nat,y=(L:Nat)∧1≤L∧L≤n∧c (L-1)≠0∧(∀i,i<n→L≤i→c i=0)∧(∃i,i<L∧c i=m)∧0<m)),fun x _=>300-x.2.toNat,
  ⟨0,0,s.symL,rfl,Nat.zero_le _,fun i hi=>absurd hi (Nat.not_lt_zero _),B,Fm.refl _ _,.inl ⟨fun i hi=>absurd hi (Nat.not_lt_zero _),rfl⟩⟩,?_⟩
 rintro x w1 ⟨m,n,y,rfl,hn,hm,B1,F1,hh⟩
 unfold q117_L7
 simp only
 refine cnd_d ?_ ?_
 ·intro hcn
  have hn2:n<256:=by omega
  have hl:=hlt n
  refine joinP_id ?_
  unfold q117_J6
  simp only
  rw [wI64 (by omega) (by omega),show (n:Int)+1=((n+1:Nat):Int) by omega]
  refine ixS_o rfl hn2 ?_
  rw [Nat.zero_add]
  refine ld_b (t := .I .u32) (x:=((c n:Nat):Int)) B1 (by rw [HU.count_at _ hn2];show some (Value.int .u32 (s.count n))=_;rw [hc n hn2];rfl) ?_
  refine cnd_d ?_ ?_
  ·intro h0
   have h0':c n=0:=by omega
   refine ⟨⟨m,n+1,y,by simp,hn2,?_,B1,F1,?_⟩,by omega⟩
   ·intro i hi
    by_cases e:i=n
    ·subst e;omega
    ·exact hm i (by omega)
   ·rcases hh with ⟨h1,h2⟩|⟨L,h1,h2,h3,h4,h5,h6,h7⟩
    ·left
     refine ⟨fun i hi => ?_,h2⟩
     by_cases e:i=n
     ·subst e;exact h0'
     ·exact h1 i (by omega)
    ·right
     refine ⟨L,h1,h2,by omega,h4,fun i hi hi2 => ?_,h6,h7⟩
     by_cases e:i=n
     ·subst e;exact h0'
     ·exact h5 i (by omega) hi2
  ·intro h0
   have h0':c n≠0:=by omega
   refine joinP_id ?_
   have fin:∀m':Nat,(∀i,i<n+1→c i≤m')→(∃i,i<n+1∧c i=m')→q117_J5 ⟨g,0,none⟩ ((m:Int),(n:Int)) (fun x40=>fun w'=>(∃(m n2:Nat) (y:Int),(x40,((n+1:Nat):Int))=((m:Int),(n2:Int))∧n2≤256∧(∀i,i<n2→c i≤m)∧Blk w' g ({ s with symL:=y } : HU).at∧Fm w w' [g]∧(((∀i,i<n2→c i=0)∧m=0)∨(∃L:Nat,y=(L:Nat)∧1≤L∧L≤n2∧c (L-1)≠0∧(∀i,i<n2→L≤i→c i=0)∧(∃i,i<L∧c i=m)∧0<m)))∧300-((n+1:Nat):Int).toNat<300-((n:Nat):Int).toNat) ((m':Nat):Int) w1:=by
    intro m' h1 h2
    unfold q117_J5
    simp only [add_mk,Nat.zero_add]
    refine st_u B1 rfl rfl ?_
    intro w2 B2 F2
    rw [wU16 (x:=(n:Int)) (by omega) (by omega),wU16 (x:=(n:Int)+1) (by omega) (by omega)] at B2
    have B2':=B2.congr (HU.setT (s' := { s with symL:=((n+1:Nat):Int) }) 9 rfl rfl (by
     rw [show ((n:Nat):Int)+1=((n+1:Nat):Int) by omega];rfl) (by decide))
    refine ⟨⟨m',n+1,_,rfl,hn2,h1,B2',F1.trans F2 (fun x hx => .inl hx),.inr ⟨n+1,rfl,by omega,Nat.le_refl _,h0',fun i hi hi2=>by omega,h2,?_⟩⟩,by omega⟩
    have:=h1 n (by omega)
    omega
   refine cnd_d ?_ ?_
   ·intro h1
    refine fin (c n) ?_ ⟨n,by omega,rfl⟩
    intro i hi
    by_cases e:i=n
    ·subst e;omega
    ·have:=hm i (by omega);omega
   ·intro h1
    refine fin m ?_ ?_
    ·intro i hi
     by_cases e:i=n
     ·subst e;omega
     ·exact hm i (by omega)
    ·rcases hh with ⟨h2,h3⟩|⟨L,_,_,h3,_,_,⟨i,h6,h7⟩,_⟩
     ·omega
     ·exact ⟨i,by omega,h7⟩
 ·intro hcn
  have hn2:n=256:=by omega
  subst hn2
  rcases hh with ⟨h1,h2⟩|⟨L,rfl,h2,h3,h4,h5,h6,h7⟩
  ·obtain ⟨i,hi,hi2⟩:=hex
   exact absurd (h1 i hi) hi2
  ·exact hk w1 m L ⟨h2,h3,h4,h5,hm,h6,h7⟩ B1 F1
theorem c117n {K:Int×Bool→PT} (B:Blk w g s.at) (hz:∀i,i<256→s.count i=0) (hpt:s.pt.l=0) (hsrc:Arr .u8 w s1 xs) (hby:By xs) (hxe:xs ≠ []) (hxs:xs.length≤2^30) (ds:∀a,s1.a=some a→xs ≠ []→a.block≠g)
  (hk:∀(w':World) (c':Nat→Int) (m L:Nat),MX (fun i=>xs.count i) m L→(∀i,i<256→c' i=(xs.count i:Nat))→Blk w' g ({ s with count:=c',symL:=(L:Nat) } : HU).at→Fm w w' [g]→K (((m:Nat):Int),false) w') :
  callP Tryd.prog 117 #[.pointer (some ⟨g,0,none⟩),.slice s1.a s1.l s1.c] [.c (.I .i64),.c .B] K w:=by
 have hlt:∀i,xs.count i<4294967296:=fun i=>Nat.lt_of_le_of_lt List.count_le_length (by omega)
 apply q117_ok
 unfold q117
 refine cells_ldA B (fun i hi=>by rw [HU.count_at _ hi];rfl) ?_
 intro cs
 refine joinP_id ?_
 refine cs_count B hz hsrc hby hxs ds ?_
 intro w1 c1 hc1 B1 F1
 unfold q117_J10
 refine joinP_id ?_
 simp only [add_mk,Nat.zero_add]
 refine ld_b (t := .S) (x:=s.pt) B1 rfl ?_
 refine cnd_d (fun h=>absurd h (by omega)) (fun _ => ?_)
 unfold q117_J9
 refine joinP_id ?_
 refine slcA_all (by omega) ?_
 obtain ⟨x0,hx0⟩:=List.exists_mem_of_ne_nil xs hxe
 refine cs_max (s := { s with count:=c1 }) (c:=fun i=>xs.count i) B1 hc1 hlt ⟨x0,hby _ hx0,?_⟩ ?_
 ·have:0<xs.count x0:=List.count_pos_iff.mpr hx0
  show xs.count x0≠0
  omega
 intro w2 m L hM B2 F2
 unfold q117_J8
 obtain ⟨i,_,hi⟩:=hM.ex
 have hmlt:=hlt i
 have hi:xs.count i=m:=hi
 rw [wI64 (x:=((m:Nat):Int)) (by omega) (by omega)]
 exact hk w2 c1 m L hM hc1 B2 (F1.trans F2 (fun x hx => .inl hx))
end
def CompOK (f:FuncId) (Enc:(Nat→Nat)→(Nat→Nat)→List Nat→List Nat→Prop) (E:Prop:=True):Prop :=
 ∀(w:World) (g tb capt lct:Nat) (cd ln:Nat→Nat) (pre xs:List Nat) (s1:Sl) (s:HU) (K:Sl×Value→PT),Blk w g s.at→s.ct=⟨some ⟨tb,0,none⟩,lct,capt⟩→256≤capt→VecU w s.out pre→Arr .u8 w s1 xs→(∀x∈xs,TB w tb capt cd ln x)→2≤xs.length→xs.length≤2^18→pre.length≤2^20→errAt w 0 →
  tb∉s.out.bs→tb≠g→g∉s.out.bs→(∀a,s1.a=some a→a.block∉g::s.out.bs)→(∀v∈s.out.bs,9≤v)→9≤g →
  (E→∀w' o v,EG w' v→Blk w' g ({ s with out:=o } : HU).at→Fm w w' (g::s.out.bs)→K (⟨none,0,0⟩,v) w') →
  (∀w' o so ol,Enc cd ln xs ol→VecU w' so (pre++ol)→Blk w' g ({ s with out:=o } : HU).at→(∀v∈so.bs,v∈s.out.bs∨w.heap.size≤v)→Fm w w' (g::s.out.bs)→Held w' s.out.a pre→K (so,.nilIface) w') →
  callP Tryd.prog f #[.pointer (some ⟨g,0,none⟩),.slice s1.a s1.l s1.c] [.c .S,.c .V] K w
theorem comp90 {E:Prop} : CompOK 90 EncT E:=by
 intro w g tb capt lct cd ln pre xs s1 s K B hct hcapt H hsrc hT h2 hxs hpre E dt dtg dg ds o9 g9 hk0 hk1
 have hxe:xs ≠ []:=by intro e;subst e;simp at h2
 refine c90 B hct hcapt H hsrc hT hxe (by omega) (by omega) dt (fun a ha _ h=>ds a ha (by simp [h])) ?_
 intro w' so ol h3 h4 h5 h6 h7
 exact hk1 w' s.out so ol h3 h4 (B.fr h5 dg) h6 (h5.mono (fun v hv => .inl (by simp [hv]))) h7
def hdr6 (a b c:Nat):List Nat := [a%256,a/256%256,b%256,b/256%256,c%256,c/256%256]
def segN (n:Nat):Nat:=(n+3)/4
def segP (xs:List Nat) (k:Nat):List Nat:=(xs.drop (k*segN xs.length)).take (segN xs.length)
def lenP (ols:List (List Nat)) (k:Nat):Nat:=(ols.getD k []).length
def Out4 (ols:List (List Nat)):List Nat:=hdr6 (lenP ols 0) (lenP ols 1) (lenP ols 2)++ols.flatten
def Enc4 (cd ln:Nat→Nat) (xs ol:List Nat):Prop:=12≤xs.length∧∃ols:List (List Nat),ols.length=4∧(∀k,k<4→EncT cd ln (segP xs k) (ols.getD k [])∧lenP ols k≤65535)∧ol=Out4 ols
theorem VecU.ptr {w:World} {s:Sl} {l:List Nat} (h:VecU w s l) (hl:l ≠ []):∃ob,s=⟨some ⟨ob,0,none⟩,l.length,s.c⟩:=by
 have h1:=h.len
 have h2:=h.vec.cap
 obtain ⟨a,sl,c⟩:=s
 simp only at h1 h2
 subst h1
 cases a with
 | none =>
  have h3:=h.vec.non rfl
  simp only at h3
  exact absurd (List.length_eq_zero_iff.mp (by omega)) hl
 | some a =>
  obtain ⟨h3,h4,_⟩:=h.vec.blk a rfl
  obtain ⟨ob,ao,asp⟩:=a
  simp only at h3 h4
  subst h3 h4
  exact ⟨ob,rfl⟩
theorem VecU.set {w:World} {ob n c i v:Nat} {l:List Nat} {κ:PT} (h:VecU w ⟨some ⟨ob,0,none⟩,n,c⟩ l) (hi:i<l.length) (hk:∀w',VecU w' ⟨some ⟨ob,0,none⟩,n,c⟩ (l.set i v)→Fm w w' [ob]→κ w'):st ⟨ob,i,none⟩ (.int .u8 (v:Nat)) κ w:=by
 obtain ⟨h1,h2,f,h3,h4,h5⟩:=h.vec.blk _ rfl
 have hu:=h.u8 _ rfl
 have hn:=h.len
 have hc:=h.vec.cap
 simp only at h3 hu hn hc h5
 refine st_u h3 (h5 i (by omega)) rfl ?_
 intro w1 B1 F1
 refine hk w1 ⟨⟨?_,hc,(fun e=>by cases e),?_⟩,?_,h.c63⟩ F1
 ·rw [bytes_len,List.length_set];simp only;omega
 ·intro a ha
  injection ha with ha
  subst ha
  refine ⟨rfl,rfl,_,B1,?_,?_⟩
  ·intro j hj
   rw [bytes_len,List.length_set] at hj
   unfold updC bytes
   rw [List.getElem?_map]
   by_cases e:j=i
   ·subst e
    rw [if_pos rfl,List.getElem?_set_self hj];rfl
   ·rw [if_neg e,List.getElem?_set_ne (fun h=>e h.symm),h4 j (by rw [bytes_len];exact hj)]
    unfold bytes
    rw [List.getElem?_map]
  ·intro j hj
   unfold updC
   split
   ·rfl
   ·exact h5 j hj
 ·intro a ha j hj
  injection ha with ha
  subst ha
  show ∃x:Int,_
  rw [B1.cell]
  unfold updC
  split
  ·exact ⟨_,rfl⟩
  ·obtain ⟨x,hx⟩:=hu j hj
   rw [h3.cell] at hx
   exact ⟨x,hx⟩
theorem out4_set {pre:List Nat} {ols:List (List Nat)} {ol:List Nat} {i:Nat} (hi:ols.length=i) (h3:i<3) (hl:ol.length≤65535) :
  ((pre++Out4 ols++ol).set (pre.length+2*i) (ol.length%256)).set (pre.length+2*i+1) (ol.length/256%256)=pre++Out4 (ols ++ [ol]):=by
 have hfl:(ols ++ [ol]).flatten=ols.flatten++ol:=by simp
 have hlow:∀k,k<i→lenP (ols ++ [ol]) k=lenP ols k:=by
  intro k hk
  unfold lenP
  rw [List.getD_eq_getElem?_getD,List.getD_eq_getElem?_getD,List.getElem?_append_left (by omega)]
 have hat:lenP (ols ++ [ol]) i=ol.length:=by
  unfold lenP
  rw [List.getD_eq_getElem?_getD,List.getElem?_append_right (by omega),hi];simp
 have hhi:∀k,i<k→lenP (ols ++ [ol]) k=0∧lenP ols k=0:=by
  intro k hk
  unfold lenP
  rw [List.getD_eq_getElem?_getD,List.getD_eq_getElem?_getD,List.getElem?_eq_none (by simp;omega),List.getElem?_eq_none (by omega)]
  exact ⟨rfl,rfl⟩
 have hz:lenP ols i=0:=by
  unfold lenP
  rw [List.getD_eq_getElem?_getD,List.getElem?_eq_none (by omega)];rfl
 rw [List.append_assoc,List.set_append_right _ _ (by omega),Nat.add_sub_cancel_left]
 rw [List.set_append_right _ _ (by omega),show pre.length+2*i+1-pre.length=2*i+1 by omega]
 congr 1
 unfold Out4
 rw [hfl]
 have:i=0∨i=1∨i=2:=by omega
 rcases this with rfl|rfl|rfl
 ·rw [hat,(hhi 1 (by omega)).1,(hhi 2 (by omega)).1,(hhi 1 (by omega)).2,(hhi 2 (by omega)).2,hz];simp [hdr6]
 ·rw [hat,hlow 0 (by omega),(hhi 2 (by omega)).1,(hhi 2 (by omega)).2,hz];simp [hdr6]
 ·rw [hat,hlow 0 (by omega),hlow 1 (by omega),hz];simp [hdr6]
theorem out4_last {pre:List Nat} {ols:List (List Nat)} {ol:List Nat} (hi:ols.length=3):pre++Out4 ols++ol=pre++Out4 (ols ++ [ol]):=by
 have hlow:∀k,k<3→lenP (ols ++ [ol]) k=lenP ols k:=by
  intro k hk
  unfold lenP
  rw [List.getD_eq_getElem?_getD,List.getD_eq_getElem?_getD,List.getElem?_append_left (by omega)]
 unfold Out4
 rw [hlow 0 (by omega),hlow 1 (by omega),hlow 2 (by omega)]
 simp
theorem segP_len {xs:List Nat} {k:Nat} (h:12≤xs.length) (hk:k<4):segP xs k ≠ []:=by
 intro e
 have h1:(segP xs k).length=0:=by rw [e];rfl
 unfold segP segN at h1
 rw [List.length_take,List.length_drop] at h1
 have:k=0∨k=1∨k=2∨k=3:=by omega
 rcases this with rfl|rfl|rfl|rfl<;>omega
theorem slA_block {a:Option Addr} {n c:Nat} {a':Addr} (h:slA a n c 1=some a'):∃a0,a=some a0∧a'.block=a0.block:=by
 unfold slA at h
 split at h
 ·exact ⟨a',h,rfl⟩
 ·cases a with
  | none=>cases h
  | some b =>
   simp only [Option.map_some,Option.some.injEq] at h
   refine ⟨b,rfl,?_⟩
   rw [←h]
   unfold Addr.add
   split<;>first|rfl|(split<;>rfl)
theorem app_6 {T T':TypeId} {s:Sl} {κ:Sl→PT} {w:World} {l:List Nat} (h:VecU w s l) (hb:s.l+6≤2^46)
  (hk:∀s' w',VecU w' s' (l ++ [0,0,0,0,0,0])→Fm w w' s'.bs→Fm w w' s.bs→(∀b∈s'.bs,b∈s.bs∨w.heap.size≤b)→κ s' w'):nw [(.int .u8 (0:Int)),(.int .u8 (0:Int)),(.int .u8 (0:Int)),(.int .u8 (0:Int)),(.int .u8 (0:Int)),(.int .u8 (0:Int))] T' (fun p=>app z5 T 1 s ⟨some p,6,6⟩ κ) w:=by
 have h0:Fm w (w.alloc (.cells ⟨[(.int .u8 (0:Int)),(.int .u8 (0:Int)),(.int .u8 (0:Int)),(.int .u8 (0:Int)),(.int .u8 (0:Int)),(.int .u8 (0:Int))]⟩ T')) []:=(Fm.refl w []).alloc
 have B0:Blk (w.alloc (.cells ⟨[(.int .u8 (0:Int)),(.int .u8 (0:Int)),(.int .u8 (0:Int)),(.int .u8 (0:Int)),(.int .u8 (0:Int)),(.int .u8 (0:Int))]⟩ T')) w.heap.size fun i=>(⟨[(.int .u8 (0:Int)),(.int .u8 (0:Int)),(.int .u8 (0:Int)),(.int .u8 (0:Int)),(.int .u8 (0:Int)),(.int .u8 (0:Int))]⟩:Array Value)[i]? := Blk.new
 refine app_vuF (xs := [0,0,0,0,0,0]) (h.fr h0 (by simp)) ⟨rfl,?_,(fun h=>by cases h),by simp [bytes,one]⟩ hb ?_
 ·intro b hb' i hi
  injection hb' with hb'
  subst hb'
  rw [add_mk,Nat.zero_add,B0.cell,List.getElem?_toArray]
  rfl
 ·intro s' w' h1 h1' h2 h3
  refine hk s' w' h1 ((h0.mono (S':=s'.bs) (by simp)).trans h1' (fun b hb => .inl hb)) ((h0.mono (S':=s.bs) (by simp)).trans h2 (fun b hb => .inl hb)) ?_
  intro b hb'
  rcases h3 b hb' with h4|h4
  ·exact .inl h4
  ·right;rw [World.size_alloc] at h4;omega
theorem comp89:CompOK 89 Enc4:=by
 intro w g tb capt lct cd ln pre xs s1 s K B hct hcapt H hsrc hT h2 hxs hpre E dt dtg dg ds o9 g9 hk0 hk1
 have hsl:=hsrc.len
 have hol:=H.len
 have hgl:=B.lt
 have hxn:xs ≠ []:=by intro e;subst e;simp at h2
 obtain ⟨x0,hx0⟩:=List.exists_mem_of_ne_nil xs hxn
 have htl:=World.block_lt_of_cell? _ _ (hT x0 hx0).c0
 simp only at htl
 apply q89_ok
 unfold q89
 refine cnd_d ?_ ?_
 ·intro _
  refine ld_errG E (by decide) ?_
  intro v h3
  exact hk0 trivial w.drew s.out v h3 B.drew (Fm.refl w _).drew
 intro hc12
 have h12:12≤xs.length:=by omega
 refine ⟨by decide,?_⟩
 simp only [add_mk,Nat.zero_add]
 refine ld_b (t := .S) (x:=s.out) B rfl ?_
 refine ld_b (t := .S) (x:=s.out) B rfl ?_
 refine app_6 H (by omega) ?_
 intro so0 w1 H1 F1' F1 N1
 have B1:=B.fr F1 dg
 refine st_u B1 rfl rfl ?_
 intro w2 B2 F2
 have B2':=B2.congr (HU.setT (s' := { s with out:=so0 }) 0 rfl rfl rfl (by decide))
 have dg0:g∉so0.bs:=fun h=>by
  rcases N1 g h with h1|h1
  ·exact dg h1
  ·omega
 have H2:=H1.fr F2 (by intro v hv;simp;exact fun e=>dg0 (e▸hv))
 have F02:Fm w w2 (g::s.out.bs):=(F1.mono (by intro v hv;left;simp [hv])).trans F2 (by intro v hv;simp at hv;simp [hv])
 have eseg:quoI .i64 (IntKind.i64.wrap ((s1.l:Int)+3)) 4=((segN xs.length:Nat):Int):=by
  rw [hsl,wI64 (by omega) (by omega),show (xs.length:Int)+3=((xs.length+3:Nat):Int) by omega,show (4:Int)=((4:Nat):Int) from rfl,quoI_nat _ _ _ (by simp only [IntKind.bits];omega)]
  rfl
 have hsg:1≤segN xs.length:=by unfold segN;omega
 have hgo:∀a,s.out.a=some a→a.block ∉ [g]:=by
  intro a ha
  simp
  exact fun e=>dg (by unfold Sl.bs;rw [ha];simp [e])
 refine joinP_id ?_
 refine ⟨fun x w'=>∃(i:Nat) (ols:List (List Nat)) (so:Sl),x.2=(i:Int)∧i≤4∧ols.length=i∧Arr .u8 w' x.1 (xs.drop (i*segN xs.length))∧(∀a,x.1.a=some a→∃a0,s1.a=some a0∧a.block=a0.block)∧Blk w' g ({ s with out:=so } : HU).at∧VecU w' so (pre++Out4 ols)∧(∀v∈so.bs,v∈s.out.bs∨w.heap.size≤v)∧Fm w w' (g::s.out.bs)∧Held w' s.out.a pre∧ols.flatten.length≤i*65535∧(∀k,k<i→EncT cd ln (segP xs k) (ols.getD k [])∧lenP ols k≤65535),fun x _=>10-x.2.toNat,
  ⟨0,[],so0,rfl,by omega,rfl,?_,(fun a ha=>⟨a,ha,rfl⟩),B2',H2,N1,F02,(H.held.vec H1 F1' (fun a _ h=>h)).fr F2 hgo,by simp,fun k hk=>absurd hk (Nat.not_lt_zero _)⟩,?_⟩
 ·rw [Nat.zero_mul,List.drop_zero]
  exact hsrc.fr F02 (fun a ha _=>ds a ha)
 rintro ⟨rs,ri⟩ w3 ⟨i,ols,so,hri,hi4,hlen,hrs,hra,B3,H3,N3,F3,Hh3,hfl,henc⟩
 simp only at hri hrs hra
 subst hri
 have sz3:=F3.size
 have dg3:g∉so.bs:=fun h=>by
  rcases N3 g h with h1|h1
  ·exact dg h1
  ·omega
 unfold q89_L2
 simp only
 rw [eseg]
 refine cnd_d ?_ ?_
 ·intro hc
  have hi:i<4:=by omega
  refine joinP_id ?_
  have hrl:=hrs.len
  have hdl:(xs.drop (i*segN xs.length)).length=xs.length-i*segN xs.length:=List.length_drop
  have part:∀td:Sl,td.a=rs.a→Arr .u8 w3 td (segP xs i)→td.l≤rs.l→(xs.drop (i*segN xs.length)).drop td.l=xs.drop ((i+1)*segN xs.length) →
    q89_J0 ⟨g,0,none⟩ K s.out (rs,(i:Int)) (q89_J1 (rs,(i:Int)) (fun s' w'=>(∃(i:Nat) (ols:List (List Nat)) (so:Sl),s'.2=(i:Int)∧i≤4∧ols.length=i∧Arr .u8 w' s'.1 (xs.drop (i*segN xs.length))∧(∀a,s'.1.a=some a→∃a0,s1.a=some a0∧a.block=a0.block)∧Blk w' g ({ s with out:=so } : HU).at∧VecU w' so (pre++Out4 ols)∧(∀v∈so.bs,v∈s.out.bs∨w.heap.size≤v)∧Fm w w' (g::s.out.bs)∧Held w' s.out.a pre∧ols.flatten.length≤i*65535∧(∀k,k<i→EncT cd ln (segP xs k) (ols.getD k [])∧lenP ols k≤65535))∧10-s'.2.toNat<10-((i:Nat):Int).toNat)) td w3:=by
   intro td hta hArr htl2 hdrop
   unfold q89_J0
   simp only [add_mk,Nat.zero_add]
   refine slc_lo (n:=td.l) rfl htl2 ?_
   have hrest:=hrs.drop td.l (by omega)
   rw [hdrop] at hrest
   refine ld_b (t := .S) (x:=so) B3 rfl ?_
   refine ld_b (t := .S) (x:=so) B3 rfl ?_
   have hT3:∀x∈segP xs i,TB w3 tb capt cd ln x:=fun x hx=>(hT x (List.mem_of_mem_drop (List.mem_of_mem_take hx))).fr F3 (by simp;exact ⟨dtg,dt⟩)
   have hcl:(pre++Out4 ols).length≤2^20+6+4*65535:=by
    have:(Out4 ols).length=6+ols.flatten.length:=by unfold Out4;rw [List.length_append];rfl
    rw [List.length_append,this]
    have:i*65535≤4*65535:=Nat.mul_le_mul_right _ hi4
    omega
   have hblk:∀a,td.a=some a→a.block∉so.bs:=by
    intro a ha h
    rw [hta] at ha
    obtain ⟨a0,e1,e2⟩:=hra a ha
    have h5:=ds a0 e1
    have h6:=hsrc.old hxn a0 e1
    rw [e2] at h
    rcases N3 _ h with h7|h7
    ·exact h5 (by simp [h7])
    ·omega
   refine c120 (s1:=so) (s2:=td) B3 hct hcapt H3 hArr hT3 (segP_len h12 hi) ?_ (by omega) ?_ (fun a ha _=>hblk a ha) ?_
   ·have:(segP xs i).length≤xs.length:=by unfold segP;rw [List.length_take,List.length_drop];omega
    omega
   ·intro h
    rcases N3 _ h with h7|h7
    ·exact dt h7
    ·omega
   intro w4 so4 ol c1 c2 c3 H4 F4 N4 Hh4
   have Hh5':Held w4 s.out.a pre:=by
    intro ax hax i hi
    have h1:=Hh3 ax hax i hi
    have h2:=World.block_lt_of_cell? _ _ h1
    by_cases hm:ax.block∈so.bs
    ·unfold Sl.bs at hm
     split at hm
     ·rename_i b2 hb2
      simp at hm
      rw [hm]
      exact Hh4.pre b2 hb2 i hi
     ·simp at hm
    ·rw [←h1]
     exact cell?_of_heap (F4.old ax.block h2 hm) _ _
   have hE:EncT cd ln (segP xs i) ol:=⟨c1,c2,c3⟩
   have B4:=B3.fr F4 dg3
   have N4':∀v∈so4.bs,v∈s.out.bs∨w.heap.size≤v:=by
    intro v hv
    rcases N4 v hv with h|h
    ·exact N3 v h
    ·right;omega
   have dg4:g∉so4.bs:=fun h=>by
    rcases N4' g h with h1|h1
    ·exact dg h1
    ·omega
   refine st_u B4 rfl rfl ?_
   intro w5 B5 F5
   have B5':=B5.congr (HU.setT (s' := { s with out:=so4 }) 0 rfl rfl rfl (by decide))
   have H5:=H4.fr F5 (by intro v hv;simp;exact fun e=>dg4 (e▸hv))
   have Hh5:=Hh5'.fr F5 hgo
   have F05:Fm w w5 (g::s.out.bs):=(F3.trans F4 (by
    intro v hv
    rcases N3 v hv with h|h
    ·left;simp [h]
    ·exact .inr h)).trans F5 (by intro v hv;simp at hv;simp [hv])
   have sz5:=F05.size
   refine ld_b (t := .S) (x:=so4) B5' rfl ?_
   have l3:=H3.len
   have l5:=H5.len
   rw [List.length_append] at l5
   have elen:IntKind.i64.wrap ((so4.l:Int)-(so.l:Int))=((ol.length:Nat):Int):=by
    have:ol.length≤11*xs.length+1:=by
     have h5:=hE_le (cd:=cd) (ln:=ln) (xs:=segP xs i) (fun x hx=>(hT3 x hx).hl)
     have:(segP xs i).length≤xs.length:=by unfold segP;rw [List.length_take,List.length_drop];omega
     omega
    rw [wI64 (by omega) (by omega)];omega
   simp only [elen]
   have E5:errAt w5 0:=E.fm F05 (by
    intro h
    rcases List.mem_cons.mp h with h1|h1
    ·omega
    ·have:=o9 _ h1;omega)
   refine cnd_d ?_ ?_
   ·intro _
    refine ld_errG E5 (by decide) ?_
    intro v h5
    exact hk0 trivial w5.drew so4 v h5 B5'.drew F05.drew
   intro h65
   have hl65:ol.length≤65535:=by omega
   have enc':∀k,k<i+1→EncT cd ln (segP xs k) ((ols ++ [ol]).getD k [])∧lenP (ols ++ [ol]) k≤65535:=by
    intro k hk
    by_cases e:k=i
    ·subst e
     have:(ols ++ [ol]).getD k []=ol:=by rw [List.getD_eq_getElem?_getD,List.getElem?_append_right (by omega),hlen];simp
     unfold lenP
     rw [this]
     exact ⟨hE,hl65⟩
    ·have:(ols ++ [ol]).getD k []=ols.getD k []:=by rw [List.getD_eq_getElem?_getD,List.getD_eq_getElem?_getD,List.getElem?_append_left (by omega)]
     have h7:=henc k (by omega)
     unfold lenP at h7 ⊢
     rw [this]
     exact h7
   have hfl':(ols ++ [ol]).flatten.length≤(i+1)*65535:=by
    have e:(ols ++ [ol]).flatten.length=ols.flatten.length+ol.length:=by simp
    rw [e,Nat.succ_mul];omega
   have hrest5:∀ {w':World} {S:List Nat},Fm w3 w' S→(∀v∈S,v=g∨v∈s.out.bs∨w.heap.size≤v)→Arr .u8 w' ⟨slA rs.a td.l rs.c 1,rs.l-td.l,rs.c-td.l⟩ (xs.drop ((i+1)*segN xs.length)):=by
    intro w' S Fx hS
    refine hrest.fr Fx ?_
    intro a ha _ h
    simp only at ha
    obtain ⟨a1,e1,e2⟩:=slA_block ha
    obtain ⟨a0,e3,e4⟩:=hra a1 e1
    have h5:=ds a0 e3
    have h6:=hsrc.old hxn a0 e3
    rw [e2,e4] at h
    rcases hS _ h with h7|h7|h7
    ·exact h5 (by simp [h7])
    ·exact h5 (by simp [h7])
    ·omega
   have Fx5:Fm w3 w5 (g::so.bs):=(F4.mono (by intro v hv;left;simp [hv])).trans F5 (by intro v hv;simp at hv;simp [hv])
   have hS5:∀v∈g::so.bs,v=g∨v∈s.out.bs∨w.heap.size≤v:=by
    intro v hv
    rcases List.mem_cons.mp hv with h|h
    ·exact .inl h
    ·exact .inr (N3 v h)
   have hptr:∀a,(⟨slA rs.a td.l rs.c 1,rs.l-td.l,rs.c-td.l⟩:Sl).a=some a→∃a0,s1.a=some a0∧a.block=a0.block:=by
    intro a ha
    obtain ⟨a1,e1,e2⟩:=slA_block ha
    obtain ⟨a0,e3,e4⟩:=hra a1 e1
    exact ⟨a0,e3,by rw [e2,e4]⟩
   refine cnd_d ?_ ?_
   ·intro hi3
    have hi3':i<3:=by omega
    have hne:pre++Out4 ols++ol ≠ []:=by
     intro e
     have:(pre++Out4 ols++ol).length=0:=by rw [e];rfl
     rw [List.length_append,List.length_append] at this
     have:(Out4 ols).length=6+ols.flatten.length:=by unfold Out4;rw [List.length_append];rfl
     omega
    obtain ⟨ob,hob⟩:=H5.ptr hne
    generalize so4.c=c4 at hob
    subst hob
    have hO4:(Out4 ols).length=6+ols.flatten.length:=by unfold Out4;rw [List.length_append];rfl
    have hbl:pre.length+2*i+1<(pre++Out4 ols++ol).length:=by rw [List.length_append,List.length_append,hO4];omega
    have hbl5:(pre++Out4 ols++ol).length≤2^30:=by rw [List.length_append];omega
    have hob4:=N4' ob (by simp [Sl.bs])
    have dgo:g≠ob:=fun e=>dg4 (by simp [Sl.bs,e])
    refine ld_b (t := .S) (x:=⟨some ⟨ob,0,none⟩,(pre++Out4 ols++ol).length,c4⟩) B5' rfl ?_
    refine ld_b (t := .S) (x:=⟨some ⟨ob,0,none⟩,(pre++Out4 ols++ol).length,c4⟩) B5' rfl ?_
    have elen':IntKind.i64.wrap ((((pre++Out4 ols++ol).length:Nat):Int)-(so.l:Int))=((ol.length:Nat):Int):=elen
    have eix:IntKind.i64.wrap (IntKind.i64.wrap ((i:Int)*2)+(s.out.l:Int))=((pre.length+2*i:Nat):Int):=by
     rw [hol,wI64 (x:=(i:Int)*2) (by omega) (by omega),wI64 (by omega) (by omega)];omega
    simp only [elen',eix]
    refine ixS_o rfl (by omega) ?_
    rw [Nat.zero_add,show IntKind.u8.wrap ((ol.length:Nat):Int)=((ol.length%256:Nat):Int) from wrap_u (k := .u8) rfl _]
    refine H5.set (by omega) ?_
    intro w6 H6 F6
    have B6:=B5'.fr F6 (nm1 dgo)
    refine ld_b (t := .S) (x:=⟨some ⟨ob,0,none⟩,(pre++Out4 ols++ol).length,c4⟩) B6 rfl ?_
    refine ⟨by decide,?_⟩
    rw [wI64 (x:=((pre.length+2*i:Nat):Int)+1) (by omega) (by omega),show ((pre.length+2*i:Nat):Int)+1=((pre.length+2*i+1:Nat):Int) by omega]
    refine ixS_o rfl (by omega) ?_
    rw [Nat.zero_add,show IntKind.u8.wrap (shrI .i64 ((ol.length:Nat):Int) 8)=((ol.length/256%256:Nat):Int) by
     rw [show (8:Int)=((8:Nat):Int) from rfl,shrI_nat _ _ _ (by simp only [IntKind.bits];omega),wrap_u (k := .u8) rfl];rfl]
    refine H6.set (by rw [List.length_set];omega) ?_
    intro w7 H7 F7
    have B7:=B6.fr F7 (nm1 dgo)
    rw [out4_set (by omega) hi3' hl65] at H7
    have F57:Fm w5 w7 [ob]:=F6.trans F7 (fun x hx => .inl hx)
    have F07:Fm w w7 (g::s.out.bs):=F05.trans F57 (by
     intro v hv
     simp at hv
     subst hv
     rcases hob4 with h|h
     ·left;simp [h]
     ·exact .inr h)
    have Fx7:Fm w3 w7 (ob::g::so.bs):=(Fx5.mono (by intro v hv;left;exact List.mem_cons_of_mem _ hv)).trans F57 (by intro v hv;simp at hv;simp [hv])
    unfold q89_J1
    simp only
    rw [wI64 (by omega) (by omega)]
    refine ⟨⟨i+1,ols ++ [ol],_,by simp,by omega,by simp [hlen],hrest5 Fx7 ?_,hptr,B7,H7,N4',F07,Hh5.vec H7 F57 (by intro a _ h;simpa [Sl.bs] using h),hfl',enc'⟩,by omega⟩
    intro v hv
    rcases List.mem_cons.mp hv with h|h
    ·rw [h];exact .inr hob4
    ·exact hS5 v h
   ·intro hi3
    have hi3':i=3:=by omega
    unfold q89_J1
    simp only
    rw [wI64 (by omega) (by omega)]
    refine ⟨⟨i+1,ols ++ [ol],so4,by simp,by omega,by simp [hlen],hrest5 Fx5 hS5,hptr,B5',?_,N4',F05,Hh5,hfl',enc'⟩,by omega⟩
    ·rw [←out4_last (by omega)]
     exact H5
  have hsegl:(segP xs i).length=min (segN xs.length) (xs.length-i*segN xs.length):=by unfold segP;rw [List.length_take,List.length_drop]
  refine joinP_id (cnd_d ?_ ?_)
  ·intro hlt
   have hA:=hrs.take (segN xs.length) (by omega)
   refine slc_hi (m:=segN xs.length) rfl (by have:=hrs.cap;omega) ?_
   refine part ⟨rs.a,segN xs.length,rs.c⟩ rfl hA (by show segN xs.length≤rs.l;omega) ?_
   rw [List.drop_drop,Nat.succ_mul]
  ·intro hge
   have hle:rs.l≤segN xs.length:=by omega
   refine part rs rfl ?_ (Nat.le_refl _) ?_
   ·have e:segP xs i=xs.drop (i*segN xs.length):=by unfold segP;exact List.take_of_length_le (by omega)
    rw [e];exact hrs
   ·rw [List.drop_of_length_le (by omega),List.drop_of_length_le (by rw [Nat.succ_mul];omega)]
 ·intro hc
  have hi:i=4:=by omega
  subst hi
  unfold q89_J3
  simp only [add_mk,Nat.zero_add]
  refine ld_b (t := .S) (x:=so) B3 rfl ?_
  exact hk1 w3 so so _ ⟨h12,ols,hlen,henc,rfl⟩ H3 B3 N3 F3 Hh3
def TbC (n:Nat) (F:Cells):Prop:=∀i,i<n→(∃v:Int,F (i*2)=some (.int .u16 v))∧∃b:Int,F (i*2+1)=some (.int .u8 b)
section
variable {w:World} {g tb l c n:Nat} {F G:Cells} {s:HU}
theorem c119 {K:Int→PT} {m:Nat} (HT:Blk w tb F) (hF:TbC n F) (hn:n≤c) (hl:n≤256) (HG:Blk w g G) (hG:∀i,i<n→∃x:Int,G i=some (.int .u32 x)) (hk:∀w' r,Fm w w' []→K r w') :
  callP Tryd.prog 119 #[.slice (some ⟨tb,0,none⟩) l c,.slice (some ⟨g,0,none⟩) n m] [.c (.I .i64)] K w:=by
 apply q119_ok (s0:=⟨some ⟨tb,0,none⟩,l,c⟩) (s1:=⟨some ⟨g,0,none⟩,n,m⟩)
 unfold q119
 refine joinP_id ?_
 refine slc_hi (m:=n) rfl hn ?_
 refine ⟨fun x w'=>∃i:Nat,x.2=(i:Int)∧i≤n∧Fm w w' [],fun x _=>300-x.2.toNat,⟨0,rfl,Nat.zero_le _,Fm.refl _ _⟩,?_⟩
 rintro ⟨x,y⟩ w1 ⟨i,hy,hi,F1⟩
 simp only at hy
 subst hy
 unfold q119_L0
 simp only
 refine cnd_d ?_ ?_
 ·intro hc
  have hi2:i<n:=by omega
  obtain ⟨⟨v,hv⟩,b,hb⟩:=hF i hi2
  obtain ⟨z,hz⟩:=hG i hi2
  have HT1:=HT.fr F1 (by simp)
  have HG1:=HG.fr F1 (by simp)
  refine ixS_2 rfl hi2 ?_
  show ld (.I .u16) _ _ _
  simp only [add_mk,Nat.add_zero]
  refine ld_b (t := .I .u16) (x:=v) HT1 hv ?_
  show ld (.I .u8) _ _ _
  simp only [add_mk,Nat.zero_add]
  refine ld_b (t := .I .u8) (x:=b) HT1 hb ?_
  refine nw_2 ?_
  intro w2 F2 hs2 B2
  have hgl:=HG1.lt
  have d:g≠w1.heap.size:=by omega
  have hsz:=F1.size
  have hr:w.heap.size≤w1.heap.size:=hsz
  generalize w1.heap.size=r at *
  show st _ _ (st _ _ _) _
  simp only [add_mk,Nat.add_zero,Nat.zero_add]
  refine st_u B2 rfl rfl ?_
  intro w3 B3 F3
  refine st_u B3 rfl rfl ?_
  intro w4 B4 F4
  unfold drw
  refine ld_b (t := .I .u8) (x:=b) B4.drew rfl ?_
  have F24:Fm w1 w4.drew [r]:=(((F2.mono (S' := [r]) (by simp)).trans F3 (fun x hx => .inl hx)).trans F4 (fun x hx => .inl hx)).drew
  refine ixS_o rfl hi2 ?_
  rw [Nat.zero_add]
  refine ld_b (t := .I .u32) (x:=z) (HG1.fr F24 (nm1 d)) hz ?_
  rw [wI64 (by omega) (by omega)]
  refine ⟨⟨i+1,by simp,hi2,F1.trans F24 (by intro v hv;right;simp at hv;omega)⟩,by omega⟩
 ·intro hc
  unfold q119_J1
  exact ⟨by decide,hk w1 _ F1⟩
end
theorem wOf_b2w {M r:Nat} (hr:r≤M):wOf (b2w M r)=if 0<r then 2^(M-r) else 0:=by
 unfold wOf b2w
 by_cases h:r=0
 ·subst h;simp
 ·rw [if_neg (by omega:¬(r=0∨M<r)),if_neg (by omega),if_pos (by omega),show M+1-r-1=M-r by omega]
theorem b2w_pos {M r:Nat} (h:0<r) (hr:r≤M):b2w M r=M+1-r:=by unfold b2w;rw [if_neg (by omega)]
theorem b2w_zero (M:Nat):b2w M 0=0:=by unfold b2w;rw [if_pos (.inl rfl)]
theorem sum_range_sF (f:Nat→Nat):∀n,((List.range n).map f).sum=sF f 0 n
 | 0=>rfl
 | n+1=>by rw [List.range_succ,List.map_append,List.sum_append,sum_range_sF f n,sF,Nat.zero_add];simp
theorem hl_ok {cnt ln:Nat→Nat} {L M used:Nat} {tbl:List Nat} (H:HT cnt L M ln) (h2:2≤L) (hL:L≤256) (hlast:0<cnt (L-1)) (two:∃a,a<L-1∧0<cnt a) (hw:weightsZ tbl=some (wtL M ln L,used)) :
  ∃f,hlZ tbl=some (f,used)∧(∀i,i<L→f i=(ln i:Nat))∧∀i,L≤i→f i=0:=by
 have hm1:=H.m1
 have hm11:=H.m11
 have hx1:0<ln (L-1):=(H.pos (L-1) (by omega)).mpr hlast
 have hxM:=H.le (L-1) (by omega)
 have hsum:wsum (wtL M ln L)+2^(M-ln (L-1))=2^M:=by
  rw [←H.kr]
  unfold wsum wtL
  rw [List.map_map,sum_range_sF]
  have e1:sF (wOf ∘ wtF M ln) 0 (L-1)=sF (fun i=>if 0<ln i then 2^(M-ln i) else 0) 0 (L-1):=sF_congr (fun i _ hi=>wOf_b2w (H.le i (by omega)))
  have e2:sF (fun i=>if 0<ln i then 2^(M-ln i) else 0) 0 L=sF (fun i=>if 0<ln i then 2^(M-ln i) else 0) 0 (L-1)+2^(M-ln (L-1)):=by
   conv=>lhs;rw [show L=L-1+1 by omega]
   rw [sF,Nat.zero_add,if_pos hx1]
  rw [e1,e2]
 have hple:2^(M-ln (L-1))≤2^(M-1):=Nat.pow_le_pow_right (by omega) (by omega)
 have hM2:2^M=2*2^(M-1):=by rw [←Nat.pow_succ',show (M-1).succ=M by omega]
 have hpp:=Nat.two_pow_pos (M-1)
 have hpl:=Nat.two_pow_pos (M-ln (L-1))
 have hlog:(wsum (wtL M ln L)).log2=M-1:=by
  have h3:(wsum (wtL M ln L)).log2<M:=(Nat.log2_lt (by omega)).mpr (by omega)
  have h4:M-1≤(wsum (wtL M ln L)).log2:=(Nat.le_log2 (by omega)).mpr (by omega)
  omega
 have hlz:lastZ (wtL M ln L)=2^(M-ln (L-1)):=by
  unfold lastZ
  rw [hlog,show M-1+1=M by omega];omega
 have hfull:fullZ (wtL M ln L)=(List.range L).map (wtF M ln):=by
  unfold fullZ wtL
  have e3:lastZ ((List.range (L-1)).map (wtF M ln))=2^(M-ln (L-1)):=hlz
  rw [e3,Nat.log2_two_pow]
  conv=>rhs;rw [show L=L-1+1 by omega,List.range_succ,List.map_append]
  congr 1
  show [M-ln (L-1)+1] = [wtF M ln (L-1)]
  unfold wtF b2w
  rw [if_neg (by omega)]
  congr 1;omega
 have hcond:(wtL M ln L).length≤255∧(∀w∈wtL M ln L,w≤12)∧wsum (wtL M ln L)≠0∧(wsum (wtL M ln L)).log2+1≤11∧lastZ (wtL M ln L)=2^(lastZ (wtL M ln L)).log2∧1<someZ (fullZ (wtL M ln L)):=by
  refine ⟨by simp [wtL];omega,?_,by omega,by omega,by rw [hlz,Nat.log2_two_pow],?_⟩
  ·intro w hw
   obtain ⟨k,_,rfl⟩:=List.mem_map.mp hw
   have:=b2w_le M (ln k)
   unfold wtF;omega
  ·rw [hfull]
   unfold someZ
   rw [List.map_map,sum_range_sF]
   obtain ⟨a,ha,hca⟩:=two
   have hpos:∀i,i<L→0<cnt i→((fun w=>if 0<w then 1 else 0) ∘ wtF M ln) i=1:=by
    intro i hi hc
    have h5:=(H.pos i hi).mpr hc
    have h6:=H.le i hi
    show (if 0<wtF M ln i then 1 else 0)=1
    rw [show wtF M ln i=M+1-ln i from b2w_pos h5 h6,if_pos (by omega)]
   have e4:sF ((fun w=>if 0<w then 1 else 0) ∘ wtF M ln) 0 L=sF ((fun w=>if 0<w then 1 else 0) ∘ wtF M ln) 0 (L-1)+1:=by
    conv=>lhs;rw [show L=L-1+1 by omega]
    rw [sF,Nat.zero_add,hpos (L-1) (by omega) hlast]
   have e5:=sF_mem ((fun w=>if 0<w then 1 else 0) ∘ wtF M ln) 0 (n:=L-1) (i:=a) (by omega) (by omega)
   rw [hpos a (by omega) hca] at e5
   omega
 refine ⟨lenF ((wsum (wtL M ln L)).log2+1) (fullZ (wtL M ln L)),?_,?_,?_⟩
 ·unfold hlZ
  rw [hw]
  simp only
  rw [if_pos hcond]
 ·intro i hi
  rw [hlog,hfull]
  unfold lenF
  rw [List.getD_eq_getElem?_getD,List.getElem?_map,List.getElem?_range hi]
  show (((if 0<wtF M ln i then M-1+1+1-wtF M ln i else 0):Nat):Int)=_
  have h6:=H.le i hi
  by_cases h0:ln i=0
  ·have hv:wtF M ln i=0:=by unfold wtF;rw [h0];exact b2w_zero M
   rw [hv,if_neg (by omega),h0]
  ·rw [show wtF M ln i=M+1-ln i from b2w_pos (by omega) h6,if_pos (by omega)]
   congr 1;omega
 ·intro i hi
  rw [hlog,hfull]
  unfold lenF
  rw [List.getD_eq_getElem?_getD,List.getElem?_eq_none (by simp;exact hi)]
  rfl
theorem sF_add (f g:Nat→Nat):∀n,sF (fun i=>f i+g i) 0 n=sF f 0 n+sF g 0 n
 | 0=>rfl
 | n+1=>by rw [sF,sF,sF,sF_add f g n];omega
theorem sF_single {g:Nat→Nat} {j:Nat} : ∀ {n:Nat},j<n→(∀i,i<n→i≠j→g i=0)→sF g 0 n=g j
 | 0,h,_=>by omega
 | n+1,h,hz=>by
  rw [sF,Nat.zero_add]
  by_cases e:j=n
  ·subst e
   rw [sF_zero (fun i hi=>hz i (by omega) (by omega)),Nat.zero_add]
  ·rw [sF_single (by omega) (fun i hi hne=>hz i (by omega) hne),hz n (by omega) (fun h'=>e h'.symm),Nat.add_zero]
theorem kraft_ranks {ln:Nat→Nat} {M:Nat} : ∀n,(∀i,i<n→ln i≤M)→sF (fun i=>if 0<ln i then 2^(M-ln i) else 0) 0 n=sF (fun j=>cN ln (M-j) n*2^j) 0 M
 | 0,_=>by
  rw [sF]
  exact (sF_zero (fun i _=>by simp [cN])).symm
 | n+1,h=>by
  rw [sF,Nat.zero_add,kraft_ranks n (fun i hi=>h i (by omega))]
  have e:sF (fun j=>cN ln (M-j) (n+1)*2^j) 0 M=sF (fun j=>cN ln (M-j) n*2^j) 0 M+sF (fun j=>(if ln n=M-j then 1 else 0)*2^j) 0 M:=by
   rw [←sF_add]
   exact sF_congr (fun i _ _=>by rw [cN,Nat.add_mul])
  rw [e]
  congr 1
  have hn:=h n (by omega)
  by_cases h0:0<ln n
  ·rw [if_pos h0,sF_single (j:=M-ln n) (by omega) (fun i hi hne=>by rw [if_neg (by omega),Nat.zero_mul])]
   rw [if_pos (by omega),Nat.one_mul]
  ·rw [if_neg h0,sF_zero (fun i hi=>by rw [if_neg (by omega),Nat.zero_mul])]
theorem sF_split (g:Nat→Nat) (a:Nat):∀b,sF g 0 (a+b)=sF g 0 a+sF g a b
 | 0=>rfl
 | b+1=>by rw [←Nat.add_assoc,sF,sF_split g a b,sF,Nat.zero_add];omega
theorem sF_dvd {g:Nat→Nat} {d a:Nat} : ∀ {n:Nat},(∀i,a≤i→i<a+n→d∣g i)→d∣sF g a n
 | 0,_=>⟨0,rfl⟩
 | n+1,h=>by
  rw [sF]
  exact Nat.dvd_add (sF_dvd (fun i h1 h2=>h i h1 (by omega))) (h (a+n) (by omega) (by omega))
theorem vJ_sum {nb:Nat→Nat} {M:Nat} (hk:sF (fun j=>nb (M-j)*2^j) 0 M=2^M):∀j,j≤M→vJ nb M j*2^j=sF (fun j=>nb (M-j)*2^j) 0 j
 | 0,_=>by simp [vJ,sF]
 | j+1,hj=>by
  have ih:=vJ_sum hk j (by omega)
  have e1:(vJ nb M j+nb (M-j))*2^j=sF (fun j=>nb (M-j)*2^j) 0 (j+1):=by rw [sF,Nat.zero_add,Nat.add_mul,ih]
  have h1:=sF_split (fun j=>nb (M-j)*2^j) (j+1) (M-(j+1))
  rw [show j+1+(M-(j+1))=M by omega,hk] at h1
  have h2:2^(j+1)∣sF (fun j=>nb (M-j)*2^j) (j+1) (M-(j+1)):=sF_dvd (fun i hi _=>Nat.dvd_mul_left_of_dvd (Nat.pow_dvd_pow 2 hi) _)
  have h3:2^(j+1)∣2^M:=Nat.pow_dvd_pow 2 hj
  have h4:2^(j+1)∣sF (fun j=>nb (M-j)*2^j) 0 (j+1):=by
   rw [h1] at h3
   exact (Nat.dvd_add_iff_left h2).mpr h3
  rw [←e1] at h4 ⊢
  obtain ⟨q,hq⟩:=h4
  have h5:vJ nb M j+nb (M-j)=2*q:=by
   have hp:=Nat.two_pow_pos j
   have:(vJ nb M j+nb (M-j))*2^j=(2*q)*2^j:=by rw [hq,Nat.pow_succ];rw [Nat.mul_comm (2^j) 2,Nat.mul_assoc,Nat.mul_assoc,Nat.mul_comm q]
   exact Nat.eq_of_mul_eq_mul_right hp this
  rw [vJ,h5,Nat.mul_div_cancel_left _ (by omega),Nat.pow_succ,Nat.mul_comm (2^j) 2, ←Nat.mul_assoc,Nat.mul_comm q 2]
theorem vJ_even {nb:Nat→Nat} {M j:Nat} (hk:sF (fun j=>nb (M-j)*2^j) 0 M=2^M) (hj:j<M):vJ nb M j+nb (M-j)=2*vJ nb M (j+1)∧vJ nb M j+nb (M-j)≤2^(M-j):=by
 have ih:=vJ_sum hk j (by omega)
 have ih1:=vJ_sum hk (j+1) (by omega)
 have e1:(vJ nb M j+nb (M-j))*2^j=sF (fun j=>nb (M-j)*2^j) 0 (j+1):=by rw [sF,Nat.zero_add,Nat.add_mul,ih]
 have hp:=Nat.two_pow_pos j
 constructor
 ·have:(vJ nb M j+nb (M-j))*2^j=(2*vJ nb M (j+1))*2^j:=by
   rw [e1, ←ih1,Nat.pow_succ,Nat.mul_comm 2,Nat.mul_assoc,Nat.mul_comm 2]
  exact Nat.eq_of_mul_eq_mul_right hp this
 ·have h1:=sF_split (fun j=>nb (M-j)*2^j) (j+1) (M-(j+1))
  rw [show j+1+(M-(j+1))=M by omega,hk] at h1
  have h2:(vJ nb M j+nb (M-j))*2^j≤2^(M-j)*2^j:=by
   rw [e1, ←Nat.pow_add,show M-j+j=M by omega];omega
  exact Nat.le_of_mul_le_mul_right h2 hp
theorem cN_lt {f:Nat→Nat} {s i n:Nat} (hi:i<n) (h:f i=s):cN f s i<cN f s n:=by
 have h1:cN f s (i+1)=cN f s i+1:=by rw [cN,if_pos h]
 have h2:=cN_mono f s (show i+1≤n by omega)
 omega
theorem vC_lt {cnt ln:Nat→Nat} {L M i:Nat} (H:HT cnt L M ln) (hi:i<L) (h0:0<ln i):vC ln L M i<2^ln i:=by
 have hle:=H.le i hi
 have hk:=(kraft_ranks (M:=M) L H.le).symm.trans H.kr
 have h1:=(vJ_even (nb:=fun r=>cN ln r L) (j:=M-ln i) hk (by omega)).2
 rw [show M-(M-ln i)=ln i by omega] at h1
 have h2:=cN_lt (f:=ln) (s:=ln i) hi rfl
 unfold vC vR
 rw [if_neg (by omega)]
 omega
theorem sF_mono_n (g:Nat→Nat) {a b:Nat} (h:a≤b):sF g 0 a≤sF g 0 b:=by
 have:=sF_split g a (b-a)
 rw [show a+(b-a)=b by omega] at this
 omega
section
variable {w:World} {g qb pl pc:Nat} {s:HU} {s1:Sl} {xs:List Nat} {Q:Cells}
def PtOK (Q:Cells) (pl:Nat) (c:Nat→Nat) (n:Nat):Prop:=∀j,j<n→c j≠0→j<pl∧∀b:Int,Q (j*2+1)=some (.int .u8 b)→b≠0
def PtNo (Q:Cells) (pl:Nat) (c:Nat→Nat) (n:Nat):Prop:=∃j,j<n∧c j≠0∧¬(j<pl∧∀b:Int,Q (j*2+1)=some (.int .u8 b)→b≠0)
def PtB (Q:Cells) (pl:Nat) (c:Nat→Nat) (n:Nat) (b:Bool):Prop:=(b=true→PtOK Q pl c n)∧(b=false→PtNo Q pl c n)
theorem cs_max2 {R31:Bool×Int→PT} {c:Nat→Nat} (B:Blk w g s.at) (hpt:s.pt=⟨some ⟨qb,0,none⟩,pl,pc⟩) (HQ:Blk w qb Q) (hQ:TbC pl Q) (d:qb≠g) (hc:∀i,i<256→s.count i=(c i:Nat)) (hlt:∀i,c i<4294967296) (hex:∃i,i<256∧c i≠0)
  (hk:∀w' (b:Bool) m L,MX c m L→(b=true→PtOK Q pl c 256)→(b=false→PtNo Q pl c 256)→Blk w' g ({ s with symL:=(L:Nat) } : HU).at→Fm w w' [g]→R31 (b,((m:Nat):Int)) w') :
  loopP (true,(0:Int),(0:Int)) (q117_L3 ⟨g,0,none⟩ R31 ⟨some ⟨g,0,none⟩,256,256⟩) w:=by
 refine ⟨fun x w'=>∃(b:Bool) (m n:Nat) (y:Int),x=(b,(m:Int),(n:Int))∧n≤256∧PtB Q pl c n b∧(∀i,i<n→c i≤m)∧Blk w' g ({ s with symL:=y } : HU).at∧Fm w w' [g]∧(((∀i,i<n→c i=0)∧m=0)∨(∃L:Nat,y=(L:Nat)∧1≤L∧L≤n∧c (L-1)≠0∧(∀i,i<n→L≤i→c i=0)∧(∃i,i<L∧c i=m)∧0<m)),fun x _=>300-x.2.2.toNat,
  ⟨true,0,0,s.symL,rfl,Nat.zero_le _,⟨fun _ j hj=>absurd hj (Nat.not_lt_zero _),fun h=>by cases h⟩,fun i hi=>absurd hi (Nat.not_lt_zero _),B,Fm.refl _ _,.inl ⟨fun i hi=>absurd hi (Nat.not_lt_zero _),rfl⟩⟩,?_⟩
 rintro x w1 ⟨b,m,n,y,rfl,hn,hb,hm,B1,F1,hh⟩
 unfold q117_L3
 simp only
 refine cnd_d ?_ ?_
 ·intro hcn
  have hn2:n<256:=by omega
  have hl:=hlt n
  refine joinP_id ?_
  unfold q117_J2
  simp only
  rw [wI64 (by omega) (by omega),show (n:Int)+1=((n+1:Nat):Int) by omega]
  refine ixS_o rfl hn2 ?_
  rw [Nat.zero_add]
  refine ld_b (t := .I .u32) (x:=((c n:Nat):Int)) B1 (by rw [HU.count_at _ hn2];show some (Value.int .u32 (s.count n))=_;rw [hc n hn2];rfl) ?_
  refine cnd_d ?_ ?_
  ·intro h0
   have h0':c n=0:=by omega
   refine ⟨⟨b,m,n+1,y,by simp,hn2,?_,?_,B1,F1,?_⟩,by omega⟩
   ·refine ⟨?_,fun hbf=>by obtain ⟨j,hj,hj2⟩:=hb.2 hbf;exact ⟨j,by omega,hj2⟩⟩
    intro hbt j hj hj0
    by_cases e:j=n
    ·subst e;exact absurd h0' hj0
    ·exact hb.1 hbt j (by omega) hj0
   ·intro i hi
    by_cases e:i=n
    ·subst e;omega
    ·exact hm i (by omega)
   ·rcases hh with ⟨h1,h2⟩|⟨L,h1,h2,h3,h4,h5,h6,h7⟩
    ·left
     refine ⟨fun i hi => ?_,h2⟩
     by_cases e:i=n
     ·subst e;exact h0'
     ·exact h1 i (by omega)
    ·right
     refine ⟨L,h1,h2,by omega,h4,fun i hi hi2 => ?_,h6,h7⟩
     by_cases e:i=n
     ·subst e;exact h0'
     ·exact h5 i (by omega) hi2
  ·intro h0
   have h0':c n≠0:=by omega
   refine joinP_id ?_
   have fin:∀m':Nat,(∀i,i<n+1→c i≤m')→(∃i,i<n+1∧c i=m')→q117_J1 ⟨g,0,none⟩ (b,(m:Int),(n:Int)) (fun x40=>fun w'=>(∃(b:Bool) (m n2:Nat) (y:Int),(x40.1,x40.2,((n+1:Nat):Int))=(b,(m:Int),(n2:Int))∧n2≤256∧PtB Q pl c n2 b∧(∀i,i<n2→c i≤m)∧Blk w' g ({ s with symL:=y } : HU).at∧Fm w w' [g]∧(((∀i,i<n2→c i=0)∧m=0)∨(∃L:Nat,y=(L:Nat)∧1≤L∧L≤n2∧c (L-1)≠0∧(∀i,i<n2→L≤i→c i=0)∧(∃i,i<L∧c i=m)∧0<m)))∧300-((n+1:Nat):Int).toNat<300-((n:Nat):Int).toNat) ((m':Nat):Int) w1:=by
    intro m' h1 h2
    unfold q117_J1
    simp only [add_mk,Nat.zero_add]
    refine st_u B1 rfl rfl ?_
    intro w2 B2 F2
    rw [wU16 (x:=(n:Int)) (by omega) (by omega),wU16 (x:=(n:Int)+1) (by omega) (by omega)] at B2
    have B2':=B2.congr (HU.setT (s' := { s with symL:=((n+1:Nat):Int) }) 9 rfl rfl (by
     rw [show ((n:Nat):Int)+1=((n+1:Nat):Int) by omega];rfl) (by decide))
    have F12:=F1.trans F2 (fun x hx => .inl hx)
    have HQ2:=HQ.fr F12 (nm1 d)
    have hpos:0<m':=by have:=h1 n (by omega);omega
    have tail:∀b':Bool,PtB Q pl c (n+1) b'→(∃(b:Bool) (m n2:Nat) (y:Int),(b',((m':Nat):Int),((n+1:Nat):Int))=(b,(m:Int),(n2:Int))∧n2≤256∧PtB Q pl c n2 b∧(∀i,i<n2→c i≤m)∧Blk w2 g ({ s with symL:=y } : HU).at∧Fm w w2 [g]∧(((∀i,i<n2→c i=0)∧m=0)∨(∃L:Nat,y=(L:Nat)∧1≤L∧L≤n2∧c (L-1)≠0∧(∀i,i<n2→L≤i→c i=0)∧(∃i,i<L∧c i=m)∧0<m)))∧300-((n+1:Nat):Int).toNat<300-((n:Nat):Int).toNat :=
     fun b' hb'=>⟨⟨b',m',n+1,_,rfl,hn2,hb',h1,B2',F12,.inr ⟨n+1,rfl,by omega,Nat.le_refl _,h0',fun i hi hi2=>by omega,h2,hpos⟩⟩,by omega⟩
    refine ld_b (t := .S) (x:=⟨some ⟨qb,0,none⟩,pl,pc⟩) B2' (by show some s.pt.val=_;rw [hpt];rfl) ?_
    refine cnd_d (fun hle=>tail false ⟨(fun h=>by cases h),fun _=>⟨n,by omega,h0',fun h=>by have:=h.1;simp only at hle;omega⟩⟩) ?_
    intro hlt2
    have hnp:n<pl:=by simp only at hlt2;omega
    refine ld_b (t := .S) (x:=⟨some ⟨qb,0,none⟩,pl,pc⟩) B2' (by show some s.pt.val=_;rw [hpt];rfl) ?_
    obtain ⟨_,bb,hbb⟩:=hQ n hnp
    refine ixS_2 rfl hnp ?_
    simp only [add_mk]
    refine ld_b (t := .I .u8) (x:=bb) HQ2 hbb ?_
    refine cnd_d (fun hz=>tail false ⟨(fun h=>by cases h),fun _=>⟨n,by omega,h0',fun h=>h.2 bb hbb hz⟩⟩) ?_
    intro hb0
    refine tail b ⟨?_,fun hbf=>by obtain ⟨j,hj,hj2⟩:=hb.2 hbf;exact ⟨j,by omega,hj2⟩⟩
    intro hbt j hj hj0
    by_cases e:j=n
    ·subst e
     refine ⟨hnp,?_⟩
     intro b' hb'
     rw [hbb] at hb'
     injection hb' with hb'
     injection hb' with _ hb'
     rw [←hb'];exact hb0
    ·exact hb.1 hbt j (by omega) hj0
   refine cnd_d ?_ ?_
   ·intro h1
    refine fin (c n) ?_ ⟨n,by omega,rfl⟩
    intro i hi
    by_cases e:i=n
    ·subst e;omega
    ·have:=hm i (by omega);omega
   ·intro h1
    refine fin m ?_ ?_
    ·intro i hi
     by_cases e:i=n
     ·subst e;omega
     ·exact hm i (by omega)
    ·rcases hh with ⟨h2,h3⟩|⟨L,_,_,h3,_,_,⟨i,h6,h7⟩,_⟩
     ·omega
     ·exact ⟨i,by omega,h7⟩
 ·intro hcn
  have hn2:n=256:=by omega
  subst hn2
  rcases hh with ⟨h1,h2⟩|⟨L,rfl,h2,h3,h4,h5,h6,h7⟩
  ·obtain ⟨i,hi,hi2⟩:=hex
   exact absurd (h1 i hi) hi2
  ·exact hk w1 b m L ⟨h2,h3,h4,h5,hm,h6,h7⟩ hb.1 hb.2 B1 F1
theorem c117t {K:Int×Bool→PT} (B:Blk w g s.at) (hz:∀i,i<256→s.count i=0) (hpt:s.pt=⟨some ⟨qb,0,none⟩,pl,pc⟩) (hpl:0<pl) (HQ:Blk w qb Q) (hQ:TbC pl Q) (d:qb≠g) (hsrc:Arr .u8 w s1 xs) (hby:By xs) (hxe:xs ≠ []) (hxs:xs.length≤2^30) (ds:∀a,s1.a=some a→xs ≠ []→a.block≠g)
  (hk:∀(w':World) (c':Nat→Int) (b:Bool) (m L:Nat),MX (fun i=>xs.count i) m L→(b=true→PtOK Q pl (fun i=>xs.count i) 256)→(b=false→PtNo Q pl (fun i=>xs.count i) 256)→(∀i,i<256→c' i=(xs.count i:Nat))→Blk w' g ({ s with count:=c',symL:=(L:Nat) } : HU).at→Fm w w' [g]→K (((m:Nat):Int),b) w') :
  callP Tryd.prog 117 #[.pointer (some ⟨g,0,none⟩),.slice s1.a s1.l s1.c] [.c (.I .i64),.c .B] K w:=by
 have hlt:∀i,xs.count i<4294967296:=fun i=>Nat.lt_of_le_of_lt List.count_le_length (by omega)
 apply q117_ok
 unfold q117
 refine cells_ldA B (fun i hi=>by rw [HU.count_at _ hi];rfl) ?_
 intro cs
 refine joinP_id ?_
 refine cs_count B hz hsrc hby hxs ds ?_
 intro w1 c1 hc1 B1 F1
 unfold q117_J10
 refine joinP_id ?_
 simp only [add_mk,Nat.zero_add]
 refine ld_b (t := .S) (x:=s.pt) B1 rfl ?_
 rw [hpt]
 refine cnd_d (fun _ => ?_) (fun h=>absurd h (by simp only;omega))
 refine joinP_id ?_
 refine slcA_all (by omega) ?_
 obtain ⟨x0,hx0⟩:=List.exists_mem_of_ne_nil xs hxe
 refine cs_max2 (s := { s with count:=c1 }) (c:=fun i=>xs.count i) B1 hpt (HQ.fr F1 (nm1 d)) hQ d hc1 hlt ⟨x0,hby _ hx0,?_⟩ ?_
 ·have:0<xs.count x0:=List.count_pos_iff.mpr hx0
  show xs.count x0≠0
  omega
 intro w2 b m L hM hP hP2 B2 F2
 unfold q117_J4
 obtain ⟨i,_,hi⟩:=hM.ex
 have hmlt:=hlt i
 have hi:xs.count i=m:=hi
 simp only
 rw [wI64 (x:=((m:Nat):Int)) (by omega) (by omega)]
 exact hk w2 c1 b m L hM hP hP2 hc1 B2 (F1.trans F2 (fun x hx => .inl hx))
end
structure Keep (w:World) (col col':Nat→Nat) (S:List Nat) (r:Nat):Prop where
 ne:∀v∈S,v<w.heap.size→col v≠r
 old:∀v,v<w.heap.size→col' v=col v
theorem Keep.out {w:World} {col col':Nat→Nat} {S:List Nat} {r v:Nat} (K:Keep w col col' S r) (hv:col v=r) (hl:v<w.heap.size):v∉S:=fun h=>K.ne v h hl hv
structure OutC (w:World) (o:Sl) (col:Nat→Nat):Prop where
 ex:∃ol,VecU w o ol
 co:∀v∈o.bs,col v=2
structure OwC (r:Nat) (w:World) (s:Sl) (col:Nat→Nat):Prop where
 own:Own 2 w s
 co:∀v∈s.bs,col v=r
def PTc (w:World) (s:Sl) (M:Nat) (ln:Nat→Nat) (L:Nat):Prop :=
 ∃qb pc Q cnt,s=⟨some ⟨qb,0,none⟩,L,pc⟩∧256≤pc∧Blk w qb Q∧(∀i,i<L→Q (i*2)=some (.int .u16 (vC ln L M i:Nat))∧Q (i*2+1)=some (.int .u8 (ln i:Nat)))∧HT cnt L M ln∧L≤256∧0<L
def NodC (w:World) (s:Sl) (col:Nat→Nat):Prop:=∃nb l cap Fn,s=⟨some ⟨nb,0,none⟩,l,cap⟩∧513≤cap∧col nb=3∧Blk w nb Fn∧Som cap Fn∧Nds Fn
def FseC (w:World) (o:Option Addr) (col:Nat→Nat):Prop:=∃fb fs,o=some ⟨fb,0,none⟩∧SW w fb fs∧∀v∈SB fb fs,col v=6
theorem SW.mv {w w':World} {b:Nat} {s:FS} {S:List Nat} (W:SW w b s) (F:Fm w w' S) (h:∀v∈SB b s,v∉S):SW w' b s :=
 ⟨W.blk.fr F (h b (mem_SB.mpr (.inl rfl))),W.o.fm F (fun v hv=>h v (mem_SB.mpr (.inr (.inl hv)))),W.x.fm F (fun v hv=>h v (mem_SB.mpr (.inr (.inr (.inl hv))))),W.y.fm F (fun v hv=>h v (mem_SB.mpr (.inr (.inr (.inr (.inl hv)))))),W.z.fm F (fun v hv=>h v (mem_SB.mpr (.inr (.inr (.inr (.inr hv)))))),
  W.bo,W.bx,W.bY,W.bz,W.ox,W.oy,W.oz,W.xy,W.xz,W.yz⟩
section
variable {w w':World} {col col':Nat→Nat} {S:List Nat} {o:Sl} {r M L:Nat} {ln:Nat→Nat} {a:Option Addr}
theorem OutC.mv (h:OutC w o col) (F:Fm w w' S) (K:Keep w col col' S 2):OutC w' o col':=by
 obtain ⟨⟨ol,h1⟩,h2⟩:=h
 have hl:=h1.lt
 exact ⟨⟨ol,h1.fr F (fun b hb=>K.out (h2 b hb) (hl b hb))⟩,fun v hv=>(K.old v (hl v hv)).trans (h2 v hv)⟩
theorem OwC.mv (h:OwC r w o col) (F:Fm w w' S) (K:Keep w col col' S r):OwC r w' o col':=by
 have hl:=h.own.lt
 exact ⟨h.own.fm F (fun b hb=>K.out (h.co b hb) (hl b hb)),fun v hv=>(K.old v (hl v hv)).trans (h.co v hv)⟩
theorem PTc.mv (h:PTc w o M ln L) (F:Fm w w' S) (hS:∀v∈o.bs,v∉S):PTc w' o M ln L:=by
 obtain ⟨qb,pc,Q,cnt,rfl,h1,h2,h3⟩:=h
 exact ⟨qb,pc,Q,cnt,rfl,h1,h2.fr F (hS qb (by simp [Sl.bs])),h3⟩
theorem NodC.mv (h:NodC w o col) (F:Fm w w' S) (K:Keep w col col' S 3):NodC w' o col':=by
 obtain ⟨nb,l,cap,Fn,rfl,h1,h2,h3,h4⟩:=h
 exact ⟨nb,l,cap,Fn,rfl,h1,(K.old nb h3.lt).trans h2,h3.fr F (K.out h2 h3.lt),h4⟩
theorem FseC.mv (h:FseC w a col) (F:Fm w w' S) (K:Keep w col col' S 6):FseC w' a col':=by
 obtain ⟨fb,fs,rfl,h1,h2⟩:=h
 have hl:=h1.lt
 exact ⟨fb,fs,rfl,h1.mv F (fun v hv=>K.out (h2 v hv) (hl v hv)),fun v hv=>(K.old v (hl v hv)).trans (h2 v hv)⟩
end
structure HW (w:World) (g:Nat) (s:HU) (col:Nat→Nat):Prop where
 blk:Blk w g s.at
 cg:col g=1
 low:∀v,v<9→col v=0
 out:OutC w s.out col
 nod:s.nodes.c<513∨NodC w s.nodes col
 ct:OwC 4 w s.ct col
 pt:OwC 5 w s.pt col
 ptv:s.pt.l=0∨∃M ln L,PTc w s.pt M ln L
 fse:s.fse=none∨FseC w s.fse col
 gl:GL w
 er:∀i,i<3→errAt w i
 mx:s.maxC=0
 cz:s.cc=true∨∀i,i<256→s.count i=0
theorem HW.nine {w:World} {g v:Nat} {s:HU} {col:Nat→Nat} (W:HW w g s col) (h:col v≠0):9≤v:=by
 rcases Nat.lt_or_ge v 9 with h1|h1
 ·exact absurd (W.low v h1) h
 ·exact h1
theorem HW.g9 {w:World} {g:Nat} {s:HU} {col:Nat→Nat} (W:HW w g s col):9≤g:=W.nine (by rw [W.cg];decide)
theorem HW.keepG {w:World} {g r:Nat} {s:HU} {col:Nat→Nat} (W:HW w g s col) (h:r≠1):Keep w col col [g] r :=
 ⟨fun v hv _ e=>by simp at hv;subst hv;exact h (e.symm.trans W.cg),fun _ _=>rfl⟩
def colN (n r:Nat) (col:Nat→Nat):Nat→Nat:=fun v=>if n≤v then r else col v
theorem colN_old {n r v:Nat} {col:Nat→Nat} (h:v<n):colN n r col v=col v:=if_neg (by omega)
theorem colN_new {n r v:Nat} {col:Nat→Nat} (h:n≤v):colN n r col v=r:=if_pos h
theorem colN_keep {w:World} {n r r':Nat} {col:Nat→Nat} (h:w.heap.size≤n):Keep w col (colN n r col) [] r':=⟨by simp,fun v hv=>colN_old (by omega)⟩
section
variable {w w':World} {g:Nat} {s s':HU} {col col':Nat→Nat} {S:List Nat}
theorem HW.same (W:HW w g s col) (B:Blk w' g s'.at) (F:Fm w w' [g]) (h1:s'.out=s.out) (h2:s'.nodes=s.nodes) (h3:s'.ct=s.ct) (h4:s'.pt=s.pt) (h5:s'.fse=s.fse) (h6:s'.maxC=0) (h7:s'.cc=true∨∀i,i<256→s'.count i=0):HW w' g s' col:=by
 have n9:∀v ∈ [g],9≤v:=by intro v hv;simp at hv;subst hv;exact W.g9
 refine ⟨B,W.cg,W.low,?_,?_,?_,?_,?_,?_,W.gl.fm F n9,?_,h6,h7⟩
 ·rw [h1];exact W.out.mv F (W.keepG (by decide))
 ·rw [h2];exact W.nod.imp id (fun h=>h.mv F (W.keepG (by decide)))
 ·rw [h3];exact W.ct.mv F (W.keepG (by decide))
 ·rw [h4];exact W.pt.mv F (W.keepG (by decide))
 ·rw [h4]
  have K:=W.keepG (r:=5) (by decide)
  exact W.ptv.imp id (fun ⟨M,ln,L,h⟩=>⟨M,ln,L,h.mv F (fun v hv=>K.out (W.pt.co v hv) (W.pt.own.lt v hv))⟩)
 ·rw [h5];exact W.fse.imp id (fun h=>h.mv F (W.keepG (by decide)))
 ·intro i hi
  exact (W.er i hi).fm F (fun h=>by have:=n9 i h;omega)
theorem HW.grow (W:HW w g s col) (F:Fm w w' []) (r:Nat):HW w' g s (colN w.heap.size r col):=by
 have hk:∀r',Keep w col (colN w.heap.size r col) [] r':=fun r'=>colN_keep (Nat.le_refl _)
 have h9:=W.gl.size
 refine ⟨W.blk.fr F (by simp),(colN_old W.blk.lt).trans W.cg,fun v hv=>(colN_old (by omega)).trans (W.low v hv),W.out.mv F (hk 2),W.nod.imp id (fun h=>h.mv F (hk 3)),W.ct.mv F (hk 4),W.pt.mv F (hk 5),W.ptv.imp id (fun ⟨M,ln,L,h⟩=>⟨M,ln,L,h.mv F (by simp)⟩),W.fse.imp id (fun h=>h.mv F (hk 6)),W.gl.fm F (by simp),fun i hi=>(W.er i hi).fm F (by simp),W.mx,W.cz⟩
end
structure SR (s s':HU):Prop where
 reuse:s'.reuse=s.reuse
 wll:s'.wll=s.wll
 pt:s'.pt=s.pt
 ptl:s'.ptl=s.ptl
 tl:s'.tl=s.tl∨(s.tl=0∧s'.tl=11)
structure HP (w:World) (g:Nat) (s:HU) (col:Nat→Nat) (n:Nat):Prop extends HW w g s col where
 o0:VecU w s.out []
 oT0:s.outT=⟨none,0,0⟩
 nodP:NodC w s.nodes col
 fseP:FseC w s.fse col
 cnt0:∀i,i<256→s.count i=0
 cc0:s.cc=false
 srcN:s.srcLen=(n:Nat)
 tlP:∃t:Nat,s.tl=(t:Nat)∧5≤t∧t≤11
theorem nwA_fs {w:World} {κ:Addr→PT} (hk:∀w',Fm w w' []→w'.heap.size=w.heap.size+1→Blk w' w.heap.size FS.zero.at→κ ⟨w.heap.size,0,none⟩ w'):nwA ⟨z134⟩ 134 κ w :=
 hk _ (Fm.refl w []).alloc (World.size_alloc _ _) (Blk.new.congr FS.atZ)
section
variable {w:World} {g t:Nat} {s:HU} {s1:Sl} {col:Nat→Nat} {K:Option Addr×Value→PT}
theorem p61_J2 (W:HW w g s col) (oT:s.outT=⟨none,0,0⟩) (o0:VecU w s.out []) (n:NodC w s.nodes col) (f:FseC w s.fse col) (c0:∀i,i<256→s.count i=0) (cc0:s.cc=false) (ht:∃t:Nat,s.tl=(t:Nat)∧5≤t∧t≤11)
  (hk:∀w' s',HP w' g s' col s1.l→SR s s'→Fm w w' [g]→K (some ⟨g,0,none⟩,.nilIface) w'):q61_J2 s1 K ⟨g,0,none⟩ () w:=by
 unfold q61_J2
 simp only [add_mk,Nat.zero_add]
 refine st_u W.blk rfl rfl ?_
 intro w1 B1 F1
 have B1':Blk w1 g ({ s with srcLen:=((s1.l:Nat):Int) } : HU).at:=B1.congr (HU.setT 4 rfl rfl rfl (by decide))
 have W1:=W.same (s' := { s with srcLen:=((s1.l:Nat):Int) }) B1' F1 rfl rfl rfl rfl rfl W.mx W.cz
 refine hk w1 _ ⟨W1,?_,oT,n.mv F1 (W.keepG (by decide)),f.mv F1 (W.keepG (by decide)),c0,cc0,rfl,ht⟩ ⟨rfl,rfl,rfl,rfl,.inl rfl⟩ F1
 exact o0.fr F1 (fun b hb=>(W.keepG (r:=2) (by decide)).out (W.out.co b hb) (o0.lt b hb))
theorem p61_J3 (W:HW w g s col) (oT:s.outT=⟨none,0,0⟩) (o0:VecU w s.out []) (n:NodC w s.nodes col) (c0:∀i,i<256→s.count i=0) (cc0:s.cc=false) (ht:∃t:Nat,s.tl=(t:Nat)∧5≤t∧t≤11)
  (hk:∀w' s' col',HP w' g s' col' s1.l→SR s s'→(∀v,v<w.heap.size→col' v=col v)→Fm w w' [g]→K (some ⟨g,0,none⟩,.nilIface) w'):q61_J3 s1 K ⟨g,0,none⟩ () w:=by
 unfold q61_J3
 simp only [add_mk,Nat.zero_add]
 refine ld_b (t := .S) (x:=s.nodes) W.blk rfl ?_
 refine slc_hi (m:=0) rfl (Nat.zero_le _) ?_
 refine st_u W.blk rfl rfl ?_
 intro w1 B1 F1
 have B1':Blk w1 g ({ s with nodes:=⟨s.nodes.a,0,s.nodes.c⟩ } : HU).at:=B1.congr (HU.setT 17 rfl rfl rfl (by decide))
 have n1:NodC w1 ⟨s.nodes.a,0,s.nodes.c⟩ col:=by
  obtain ⟨nb,l,cap,Fn,h0,h1,h2,h3,h4⟩:=n.mv F1 (W.keepG (by decide))
  rw [h0]
  exact ⟨nb,0,cap,Fn,rfl,h1,h2,h3,h4⟩
 have Ws:=W.same (s' := { s with nodes:=s.nodes,srcLen:=s.srcLen }) (w':=w) W.blk (Fm.refl w [g]) rfl rfl rfl rfl rfl W.mx W.cz
 have W1:HW w1 g ({ s with nodes:=⟨s.nodes.a,0,s.nodes.c⟩ } : HU) col:=by
  have n9:∀v ∈ [g],9≤v:=by intro v hv;simp at hv;subst hv;exact W.g9
  have K5:=W.keepG (r:=5) (by decide)
  exact ⟨B1',W.cg,W.low,W.out.mv F1 (W.keepG (by decide)),.inr n1,W.ct.mv F1 (W.keepG (by decide)),W.pt.mv F1 (W.keepG (by decide)),W.ptv.imp id (fun ⟨M,ln,L,h⟩=>⟨M,ln,L,h.mv F1 (fun v hv=>K5.out (W.pt.co v hv) (W.pt.own.lt v hv))⟩),W.fse.imp id (fun h=>h.mv F1 (W.keepG (by decide))),W.gl.fm F1 n9,fun i hi=>(W.er i hi).fm F1 (fun h=>by have:=n9 i h;omega),W.mx,W.cz⟩
 have o1:VecU w1 s.out []:=o0.fr F1 (fun b hb=>(W.keepG (r:=2) (by decide)).out (W.out.co b hb) (o0.lt b hb))
 refine joinP_id ?_
 refine ld_b (t := .P) (x:=s.fse) B1' rfl ?_
 refine ⟨fun hn => ?_,fun hs => ?_⟩
 ·have hf:s.fse=none:=by simpa using hn
  refine nwA_fs ?_
  intro w2 F2 hs2 B2
  have hgl:=W1.blk.lt
  have W2:=W1.grow F2 6
  have hr:=F1.size
  have n2:=n1.mv F2 (colN_keep (r:=6) (Nat.le_refl _))
  have o2:=o1.fr F2 (by simp)
  have hcol:∀v,v<w.heap.size→colN w1.heap.size 6 col v=col v:=fun v hv=>colN_old (by omega)
  have hnew:colN w1.heap.size 6 col w1.heap.size=6:=colN_new (Nat.le_refl _)
  have hg:g≠w1.heap.size:=by omega
  generalize colN w1.heap.size 6 col=col2 at *
  generalize w1.heap.size=fb at *
  refine st_u W2.blk rfl rfl ?_
  intro w3 B3 F3
  have B3':Blk w3 g ({ s with nodes:=⟨s.nodes.a,0,s.nodes.c⟩,fse:=some ⟨fb,0,none⟩ } : HU).at:=B3.congr (HU.setT 22 rfl rfl rfl (by decide))
  have f3:FseC w3 (some ⟨fb,0,none⟩) col2:=by
   refine ⟨fb,FS.zero,rfl,⟨B2.fr F3 (nm1 (Ne.symm hg)),Own.none,Own.none,Own.none,Own.none,by simp [Sl.bs,FS.zero],by simp [Sl.bs,FS.zero],by simp [Sl.bs,FS.zero],by simp [Sl.bs,FS.zero],by simp [Sl.bs,FS.zero],by simp [Sl.bs,FS.zero],by simp [Sl.bs,FS.zero],by simp [Sl.bs,FS.zero],by simp [Sl.bs,FS.zero],by simp [Sl.bs,FS.zero]⟩,?_⟩
   intro v hv
   have:v=fb:=by simpa [SB,Sl.bs,FS.zero] using hv
   subst this
   exact hnew
  have n9:∀v ∈ [g],9≤v:=by intro v hv;simp at hv;subst hv;exact W.g9
  have K5:=W2.keepG (r:=5) (by decide)
  have W3:HW w3 g ({ s with nodes:=⟨s.nodes.a,0,s.nodes.c⟩,fse:=some ⟨fb,0,none⟩ } : HU) col2 :=
   ⟨B3',W2.cg,W2.low,W2.out.mv F3 (W2.keepG (by decide)),W2.nod.imp id (fun h=>h.mv F3 (W2.keepG (by decide))),W2.ct.mv F3 (W2.keepG (by decide)),W2.pt.mv F3 (W2.keepG (by decide)),W2.ptv.imp id (fun ⟨M,ln,L,h⟩=>⟨M,ln,L,h.mv F3 (fun v hv=>K5.out (W2.pt.co v hv) (W2.pt.own.lt v hv))⟩),.inr f3,W2.gl.fm F3 n9,fun i hi=>(W2.er i hi).fm F3 (fun h=>by have:=n9 i h;omega),W2.mx,W2.cz⟩
  refine p61_J2 W3 oT (o2.fr F3 (fun b hb=>(W2.keepG (r:=2) (by decide)).out (W2.out.co b hb) (o2.lt b hb))) (n2.mv F3 (W2.keepG (by decide))) f3 c0 cc0 ht ?_
  intro w4 s4 H4 R4 F4
  refine hk w4 s4 col2 H4 ⟨R4.reuse,R4.wll,R4.pt,R4.ptl,R4.tl⟩ hcol ?_
  exact ((F1.trans F2 (by simp)).trans F3 (fun x hx => .inl hx)).trans F4 (fun x hx => .inl hx)
 ·have f1:FseC w1 s.fse col:=by
   rcases W1.fse with h|h
   ·simp only at h;rw [h] at hs;simp at hs
   ·exact h
  refine p61_J2 W1 oT o1 n1 f1 c0 cc0 ht ?_
  intro w4 s4 H4 R4 F4
  exact hk w4 s4 col H4 ⟨R4.reuse,R4.wll,R4.pt,R4.ptl,R4.tl⟩ (fun _ _=>rfl) (F1.trans F4 (fun x hx => .inl hx))
theorem VecU.zero {w:World} {o:Sl} {ol:List Nat} (h:VecU w o ol):VecU w ⟨o.a,0,o.c⟩ []:=by
 refine ⟨⟨rfl,Nat.zero_le _,h.vec.non,?_⟩,h.u8,h.c63⟩
 intro a ha
 obtain ⟨h1,h2,f,h3,h4,h5⟩:=h.vec.blk a ha
 exact ⟨h1,h2,f,h3,by simp [bytes],h5⟩
theorem p61_J4 (W:HW w g s col) (c0:∀i,i<256→s.count i=0) (cc0:s.cc=false) (ht:∃t:Nat,s.tl=(t:Nat)∧5≤t∧t≤11)
  (hk:∀w' s' col',HP w' g s' col' s1.l→SR s s'→(∀v,v<w.heap.size→col' v=col v)→Fm w w' [g]→K (some ⟨g,0,none⟩,.nilIface) w'):q61_J4 s1 K ⟨g,0,none⟩ () w:=by
 unfold q61_J4
 simp only [add_mk,Nat.zero_add]
 refine ld_b (t := .S) (x:=s.out) W.blk rfl ?_
 refine slc_hi (m:=0) rfl (Nat.zero_le _) ?_
 refine st_u W.blk rfl rfl ?_
 intro w1 B1 F1
 have B1':Blk w1 g ({ s with out:=⟨s.out.a,0,s.out.c⟩ } : HU).at:=B1.congr (HU.setT 0 rfl rfl rfl (by decide))
 refine st_u B1' rfl rfl ?_
 intro w2 B2 F2
 have B2':Blk w2 g ({ s with out:=⟨s.out.a,0,s.out.c⟩,outT:=⟨none,0,0⟩ } : HU).at:=B2.congr (HU.setT 1 rfl rfl rfl (by decide))
 refine st_u B2' rfl rfl ?_
 intro w3 B3 F3
 have B3':Blk w3 g ({ s with out:=⟨s.out.a,0,s.out.c⟩,outT:=⟨none,0,0⟩,outD:=⟨none,0,0⟩ } : HU).at:=B3.congr (HU.setT 2 rfl rfl rfl (by decide))
 have F13:Fm w w3 [g]:=(F1.trans F2 (fun x hx => .inl hx)).trans F3 (fun x hx => .inl hx)
 obtain ⟨⟨ol,ho⟩,hoc⟩:=W.out.mv F13 (W.keepG (by decide))
 have o3:VecU w3 ⟨s.out.a,0,s.out.c⟩ []:=ho.zero
 have n9:∀v ∈ [g],9≤v:=by intro v hv;simp at hv;subst hv;exact W.g9
 have K5:=W.keepG (r:=5) (by decide)
 have W3:HW w3 g ({ s with out:=⟨s.out.a,0,s.out.c⟩,outT:=⟨none,0,0⟩,outD:=⟨none,0,0⟩ } : HU) col :=
  ⟨B3',W.cg,W.low,⟨⟨[],o3⟩,hoc⟩,W.nod.imp id (fun h=>h.mv F13 (W.keepG (by decide))),W.ct.mv F13 (W.keepG (by decide)),W.pt.mv F13 (W.keepG (by decide)),W.ptv.imp id (fun ⟨M,ln,L,h⟩=>⟨M,ln,L,h.mv F13 (fun v hv=>K5.out (W.pt.co v hv) (W.pt.own.lt v hv))⟩),W.fse.imp id (fun h=>h.mv F13 (W.keepG (by decide))),W.gl.fm F13 n9,fun i hi=>(W.er i hi).fm F13 (fun h=>by have:=n9 i h;omega),W.mx,W.cz⟩
 refine joinP_id ?_
 refine ld_b (t := .S) (x:=s.nodes) B3' rfl ?_
 refine cnd_d ?_ ?_
 ·intro hc
  refine ⟨0,513,rfl,rfl,by omega,by omega,?_⟩
  have F4:Fm w3 (w3.alloc (.cells (zrep z196 513) 196)) []:=(Fm.refl w3 []).alloc
  have B4:Blk (w3.alloc (.cells (zrep z196 513) 196)) w3.heap.size (arrC .u64 513 fun _=>0):=Blk.new.congr (by funext i;exact zrep1 _ _ _)
  generalize w3.alloc (.cells (zrep z196 513) 196)=w4 at *
  have hgl:=W3.blk.lt
  have W4:=W3.grow F4 3
  have hr:=F13.size
  have o4:=o3.fr F4 (by simp)
  have hcol:∀v,v<w.heap.size→colN w3.heap.size 3 col v=col v:=fun v hv=>colN_old (by omega)
  have hnew:colN w3.heap.size 3 col w3.heap.size=3:=colN_new (Nat.le_refl _)
  have hg:g≠w3.heap.size:=by omega
  have hr3:w.heap.size≤w3.heap.size:=hr
  generalize colN w3.heap.size 3 col=col4 at *
  generalize w3.heap.size=nb at *
  refine st_u W4.blk rfl rfl ?_
  intro w5 B5 F5
  have B5':Blk w5 g ({ s with out:=⟨s.out.a,0,s.out.c⟩,outT:=⟨none,0,0⟩,outD:=⟨none,0,0⟩,nodes:=⟨some ⟨nb,0,none⟩,0,513⟩ } : HU).at:=B5.congr (HU.setT 17 rfl rfl rfl (by decide))
  have n5:NodC w5 ⟨some ⟨nb,0,none⟩,0,513⟩ col4:=by
   refine ⟨nb,0,513,_,rfl,Nat.le_refl _,hnew,B4.fr F5 (nm1 (Ne.symm hg)),?_,?_⟩
   ·intro i hi;rw [arrC_get hi];rfl
   ·intro i hi;exact ⟨⟨0,0,0,0⟩,⟨by decide,by decide,by decide,by decide⟩,by rw [arrC_get hi];rfl⟩
  have K5':=W4.keepG (r:=5) (by decide)
  have W5:HW w5 g ({ s with out:=⟨s.out.a,0,s.out.c⟩,outT:=⟨none,0,0⟩,outD:=⟨none,0,0⟩,nodes:=⟨some ⟨nb,0,none⟩,0,513⟩ } : HU) col4 :=
   ⟨B5',W4.cg,W4.low,W4.out.mv F5 (W4.keepG (by decide)),.inr n5,W4.ct.mv F5 (W4.keepG (by decide)),W4.pt.mv F5 (W4.keepG (by decide)),W4.ptv.imp id (fun ⟨M,ln,L,h⟩=>⟨M,ln,L,h.mv F5 (fun v hv=>K5'.out (W4.pt.co v hv) (W4.pt.own.lt v hv))⟩),W4.fse.imp id (fun h=>h.mv F5 (W4.keepG (by decide))),W4.gl.fm F5 n9,fun i hi=>(W4.er i hi).fm F5 (fun h=>by have:=n9 i h;omega),W4.mx,W4.cz⟩
  refine p61_J3 W5 rfl (o4.fr F5 (fun b hb=>(W4.keepG (r:=2) (by decide)).out (W4.out.co b hb) (o4.lt b hb))) n5 c0 cc0 ht ?_
  intro w6 s6 col6 H6 R6 hc6 F6
  have F35:Fm w w5 [g]:=(F13.trans F4 (by simp)).trans F5 (fun x hx => .inl hx)
  have:=F35.size
  exact hk w6 s6 col6 H6 ⟨R6.reuse,R6.wll,R6.pt,R6.ptl,R6.tl⟩ (fun v hv=>(hc6 v (by omega)).trans (hcol v hv)) (F35.trans F6 (fun x hx => .inl hx))
 ·intro hc
  have n3:NodC w3 s.nodes col:=by
   rcases W3.nod with h|h
   ·simp only at h;omega
   ·exact h
  refine p61_J3 W3 rfl o3 n3 c0 cc0 ht ?_
  intro w6 s6 col6 H6 R6 hc6 F6
  have:=F13.size
  exact hk w6 s6 col6 H6 ⟨R6.reuse,R6.wll,R6.pt,R6.ptl,R6.tl⟩ (fun v hv=>hc6 v (by omega)) (F13.trans F6 (fun x hx => .inl hx))
theorem p61_J5 (W:HW w g s col) (hl:s1.l<2^40) (c0:∀i,i<256→s.count i=0) (cc0:s.cc=false) (ht:∃t:Nat,s.tl=(t:Nat)∧5≤t∧t≤11)
  (hk:∀w' s' col',HP w' g s' col' s1.l→SR s s'→(∀v,v<w.heap.size→col' v=col v)→Fm w w' [g]→K (some ⟨g,0,none⟩,.nilIface) w'):q61_J5 s1 K ⟨g,0,none⟩ () w:=by
 unfold q61_J5
 simp only [add_mk,Nat.zero_add]
 refine joinP_id ?_
 refine ld_b (t := .S) (x:=s.out) W.blk rfl ?_
 refine cnd_d ?_ ?_
 ·intro hc
  refine ⟨0,s1.l,rfl,rfl,Nat.zero_le _,by omega,?_⟩
  have F3:Fm w (w.alloc (.cells (zrep z5 s1.l) 5)) []:=(Fm.refl w []).alloc
  have B3:Blk (w.alloc (.cells (zrep z5 s1.l) 5)) w.heap.size (arrC .u8 s1.l fun _=>0):=Blk.new.congr (by funext i;exact zrep1 _ _ _)
  have W4:=W.grow F3 2
  have hgl:=W.blk.lt
  have hcol:∀v,v<w.heap.size→colN w.heap.size 2 col v=col v:=fun v hv=>colN_old hv
  have hnew:colN w.heap.size 2 col w.heap.size=2:=colN_new (Nat.le_refl _)
  have hg:g≠w.heap.size:=by omega
  generalize colN w.heap.size 2 col=col4 at *
  generalize w.alloc (.cells (zrep z5 s1.l) 5)=w3 at *
  refine st_u W4.blk rfl rfl ?_
  intro w5 B5 F5
  have hov:VecU w5 ⟨some ⟨w.heap.size,0,none⟩,0,s1.l⟩ []:=by
   have B6:=B3.fr F5 (nm1 (Ne.symm hg))
   refine ⟨⟨rfl,Nat.zero_le _,(fun h=>by cases h),?_⟩,?_,by simp only;omega⟩
   ·intro a ha
    injection ha with ha
    subst ha
    exact ⟨rfl,rfl,_,B6,by simp [bytes],fun i hi=>by rw [arrC_get (by simpa using hi)];rfl⟩
   ·intro a ha i hi
    injection ha with ha
    subst ha
    exact ⟨0,by rw [B6.cell,arrC_get hi]⟩
  have B5':Blk w5 g ({ s with out:=⟨some ⟨w.heap.size,0,none⟩,0,s1.l⟩ } : HU).at:=B5.congr (HU.setT 0 rfl rfl rfl (by decide))
  have n9:∀v ∈ [g],9≤v:=by intro v hv;simp at hv;subst hv;exact W.g9
  have K5':=W4.keepG (r:=5) (by decide)
  have W5:HW w5 g ({ s with out:=⟨some ⟨w.heap.size,0,none⟩,0,s1.l⟩ } : HU) col4 :=
   ⟨B5',W4.cg,W4.low,⟨⟨[],hov⟩,by intro v hv;simp [Sl.bs] at hv;subst hv;exact hnew⟩,W4.nod.imp id (fun h=>h.mv F5 (W4.keepG (by decide))),W4.ct.mv F5 (W4.keepG (by decide)),W4.pt.mv F5 (W4.keepG (by decide)),W4.ptv.imp id (fun ⟨M,ln,L,h⟩=>⟨M,ln,L,h.mv F5 (fun v hv=>K5'.out (W4.pt.co v hv) (W4.pt.own.lt v hv))⟩),W4.fse.imp id (fun h=>h.mv F5 (W4.keepG (by decide))),W4.gl.fm F5 n9,fun i hi=>(W4.er i hi).fm F5 (fun h=>by have:=n9 i h;omega),W4.mx,W4.cz⟩
  refine p61_J4 W5 c0 cc0 ht ?_
  intro w6 s6 col6 H6 R6 hc6 F6
  have F35:Fm w w5 [g]:=(F3.mono (by simp)).trans F5 (fun x hx => .inl hx)
  have:=F35.size
  exact hk w6 s6 col6 H6 ⟨R6.reuse,R6.wll,R6.pt,R6.ptl,R6.tl⟩ (fun v hv=>(hc6 v (by omega)).trans (hcol v hv)) (F35.trans F6 (fun x hx => .inl hx))
 ·intro hc
  exact p61_J4 W c0 cc0 ht hk
theorem p61_L0 {R24:Unit→PT} (B:Blk w g s.at) (hk:∀w' c',(∀i,i<256→c' i=0)→Blk w' g ({ s with count:=c' } : HU).at→Fm w w' [g]→R24 () w'):loopP (0:Int) (q61_L0 ⟨g,0,none⟩ R24) w:=by
 refine ⟨fun x w'=>∃(i:Nat) (c:Nat→Int),x=(i:Int)∧i≤256∧(∀j,j<i→c j=0)∧Blk w' g ({ s with count:=c } : HU).at∧Fm w w' [g],fun x _=>300-x.toNat,⟨0,s.count,rfl,Nat.zero_le _,fun j hj=>absurd hj (Nat.not_lt_zero _),B,Fm.refl _ _⟩,?_⟩
 rintro x w1 ⟨i,c,rfl,hi,hz,B1,F1⟩
 unfold q61_L0
 refine cnd_d ?_ ?_
 ·intro hc
  have hi2:i<256:=by omega
  refine ixA_o rfl hi2 ?_
  rw [Nat.zero_add]
  refine st_u B1 (by rw [HU.count_at _ hi2];rfl) rfl ?_
  intro w2 B2 F2
  rw [wI64 (by omega) (by omega)]
  refine ⟨⟨i+1,updF c i 0,by simp,hi2,?_,B2.congr (HU.setC hi2),F1.trans F2 (fun x hx => .inl hx)⟩,by dsimp only;omega⟩
  intro j hj
  unfold updF
  split
  ·rfl
  ·exact hz j (by omega)
 ·intro hc
  have:i=256:=by omega
  subst this
  exact hk w1 c hz B1 F1
theorem p61_J6 (W:HW w g s col) (hl:s1.l<2^40) (ht:∃t:Nat,s.tl=(t:Nat)∧5≤t∧t≤11)
  (hk:∀w' s' col',HP w' g s' col' s1.l→SR s s'→(∀v,v<w.heap.size→col' v=col v)→Fm w w' [g]→K (some ⟨g,0,none⟩,.nilIface) w'):q61_J6 s1 K ⟨g,0,none⟩ () w:=by
 unfold q61_J6
 simp only [add_mk,Nat.zero_add]
 refine joinP_id ?_
 refine ld_b (t := .B) (x:=s.cc) W.blk rfl ?_
 refine ⟨fun hcc => ?_,fun hcc => ?_⟩
 ·refine ld_b (t := .I .i64) (x:=s.maxC) W.blk rfl ?_
  refine cnd_d ?_ (fun h=>absurd W.mx h)
  intro _
  refine joinP_id ?_
  refine p61_L0 W.blk ?_
  intro w1 c1 hz B1 F1
  unfold q61_J1
  simp only [add_mk,Nat.zero_add]
  refine st_u B1 rfl rfl ?_
  intro w2 B2 F2
  have B2':Blk w2 g ({ s with count:=c1,cc:=false } : HU).at:=B2.congr (HU.setT 11 rfl rfl rfl (by decide))
  have F12:Fm w w2 [g]:=F1.trans F2 (fun x hx => .inl hx)
  have W2:=W.same (s' := { s with count:=c1,cc:=false }) B2' F12 rfl rfl rfl rfl rfl W.mx (.inr hz)
  refine p61_J5 W2 hl hz rfl ht ?_
  intro w6 s6 col6 H6 R6 hc6 F6
  have:=F12.size
  exact hk w6 s6 col6 H6 ⟨R6.reuse,R6.wll,R6.pt,R6.ptl,R6.tl⟩ (fun v hv=>hc6 v (by omega)) (F12.trans F6 (fun x hx => .inl hx))
 ·refine p61_J5 W hl ?_ hcc ht hk
  rcases W.cz with h|h
  ·rw [h] at hcc;cases hcc
  ·exact h
theorem p61_J7 (W:HW w g s col) (hl:s1.l<2^40) (ht:s.tl=(t:Nat)) (ht2:t<256)
  (hk0:¬(5≤s.tl∧s.tl≤11)→∀w' v,ER w' v→(5≤s.tl∧s.tl≤11→EG w' v)→HW w' g s col→Fm w w' [g]→K (none,v) w')
  (hk:∀w' s' col',HP w' g s' col' s1.l→SR s s'→(∀v,v<w.heap.size→col' v=col v)→Fm w w' [g]→K (some ⟨g,0,none⟩,.nilIface) w'):q61_J7 s1 K ⟨g,0,none⟩ () w:=by
 have htat:s.at 262=some (.int .u8 ((t:Nat):Int)):=by show some (Value.int .u8 s.tl)=_;rw [ht]
 unfold q61_J7
 simp only [add_mk,Nat.zero_add]
 have err:¬(5≤t∧t≤11)→∀w' v,Fm w w' []→ER w' v→isPE v=true→K (none,v) w':=by
  intro hn w' v F hv _
  exact hk0 (by omega) w' v hv (fun h=>absurd (by omega) hn) (W.same (W.blk.fr F (by simp)) (F.mono (by simp)) rfl rfl rfl rfl rfl W.mx W.cz) (F.mono (by simp))
 refine ld_b (t := .I .u8) (x:=((t:Nat):Int)) W.blk htat ?_
 refine cnd_d (fun h=>c62e (err (by omega))) ?_
 intro h11
 refine ld_b (t := .I .u8) (x:=((t:Nat):Int)) W.blk htat ?_
 refine cnd_d (fun h=>c62e (err (by omega))) ?_
 intro h5
 refine joinP_id ?_
 have fin:∀w1 m,Blk w1 g ({ s with maxDec:=m } : HU).at→Fm w w1 [g]→q61_J6 s1 K ⟨g,0,none⟩ () w1:=by
  intro w1 m B1 F1
  have W1:=W.same (s' := { s with maxDec:=m }) B1 F1 rfl rfl rfl rfl rfl W.mx W.cz
  refine p61_J6 W1 hl ⟨t,ht,by omega,by omega⟩ ?_
  intro w6 s6 col6 H6 R6 hc6 F6
  have:=F1.size
  exact hk w6 s6 col6 H6 ⟨R6.reuse,R6.wll,R6.pt,R6.ptl,R6.tl⟩ (fun v hv=>hc6 v (by omega)) (F1.trans F6 (fun x hx => .inl hx))
 have set:st ⟨g,259,none⟩ (.int .i64 (262143:Int)) (q61_J6 s1 K ⟨g,0,none⟩ ()) w:=by
  refine st_u W.blk rfl rfl ?_
  intro w1 B1 F1
  exact fin w1 _ (B1.congr (HU.setT (s' := { s with maxDec:=262143 }) 3 rfl rfl rfl (by decide))) F1
 refine ld_b (t := .I .i64) (x:=s.maxDec) W.blk rfl ?_
 refine cnd_d (fun _=>set) ?_
 intro _
 refine ld_b (t := .I .i64) (x:=s.maxDec) W.blk rfl ?_
 refine cnd_d (fun _=>set) ?_
 intro _
 exact fin w s.maxDec W.blk (Fm.refl _ _)
theorem p61_J8 (W:HW w g s col) (hl:s1.l<2^40) (ht:s.tl=(t:Nat)) (ht2:t<256)
  (hk0:¬(s.tl=0∨(5≤s.tl∧s.tl≤11))→∀w' s' v,ER w' v→(s.tl=0∨(5≤s.tl∧s.tl≤11)→EG w' v)→HW w' g s' col→SR s s'→s'.outT=s.outT→Fm w w' [g]→K (none,v) w')
  (hk:∀w' s' col',HP w' g s' col' s1.l→SR s s'→(∀v,v<w.heap.size→col' v=col v)→Fm w w' [g]→K (some ⟨g,0,none⟩,.nilIface) w'):q61_J8 s1 K ⟨g,0,none⟩ () w:=by
 have htat:s.at 262=some (.int .u8 ((t:Nat):Int)):=by show some (Value.int .u8 s.tl)=_;rw [ht]
 unfold q61_J8
 simp only [add_mk,Nat.zero_add]
 refine joinP_id ?_
 refine ld_b (t := .I .u8) (x:=((t:Nat):Int)) W.blk htat ?_
 refine cnd_d ?_ ?_
 ·intro h0
  refine st_u W.blk rfl rfl ?_
  intro w1 B1 F1
  have B1':Blk w1 g ({ s with tl:=11 } : HU).at:=B1.congr (HU.setT 6 rfl rfl rfl (by decide))
  have W1:=W.same (s' := { s with tl:=11 }) B1' F1 rfl rfl rfl rfl rfl W.mx W.cz
  have hs0:s.tl=0:=by rw [ht];exact h0
  refine p61_J7 W1 hl (t:=11) rfl (by omega) ?_ ?_
  ·intro hn w2 v hv hv2 W2 F2
   exact hk0 (absurd ⟨show (5:Int)≤11 by decide,show (11:Int)≤11 by decide⟩ hn) w2 _ v hv (fun _=>hv2 ⟨show (5:Int)≤11 by decide,show (11:Int)≤11 by decide⟩) W2 ⟨rfl,rfl,rfl,rfl,.inr ⟨hs0,rfl⟩⟩ rfl (F1.trans F2 (fun x hx => .inl hx))
  ·intro w6 s6 col6 H6 R6 hc6 F6
   have:=F1.size
   refine hk w6 s6 col6 H6 ⟨R6.reuse,R6.wll,R6.pt,R6.ptl,.inr ⟨hs0,?_⟩⟩ (fun v hv=>hc6 v (by omega)) (F1.trans F6 (fun x hx => .inl hx))
   rcases R6.tl with h|h
   ·exact h
   ·exact h.2
 ·intro h0
  refine p61_J7 W hl ht ht2 ?_ hk
  intro hn w2 v hv hv2 W2 F2
  exact hk0 (fun h=>h.elim (fun e=>absurd (ht▸e) h0) hn) w2 _ v hv (fun h=>hv2 (h.elim (fun e=>absurd (ht▸e) h0) id)) W2 ⟨rfl,rfl,rfl,rfl,.inl rfl⟩ rfl F2
theorem c61 (W:HW w g s col) (ht:s.tl=(t:Nat)) (ht2:t<256)
  (hk0:(262143<s1.l∨¬(s.tl=0∨(5≤s.tl∧s.tl≤11)))→∀w' s' v,ER w' v→(s.tl=0∨(5≤s.tl∧s.tl≤11)→EG w' v)→HW w' g s' col→SR s s'→s'.outT=s.outT→Fm w w' [g]→K (none,v) w')
  (hk:s1.l≤262143→∀w' s' col',HP w' g s' col' s1.l→SR s s'→(∀v,v<w.heap.size→col' v=col v)→Fm w w' [g]→K (some ⟨g,0,none⟩,.nilIface) w') :
  callP Tryd.prog 61 #[.pointer (some ⟨g,0,none⟩),.slice s1.a s1.l s1.c] [.c .P,.c .V] K w:=by
 apply q61_ok
 unfold q61
 refine cnd_d ?_ ?_
 ·intro hbig
  refine ld_errG (W.er 2 (by decide)) (by decide) ?_
  intro v hv
  have F:Fm w w.drew []:=(Fm.refl w []).drew
  exact hk0 (.inl (by omega)) _ s v (.inl hv) (fun _=>hv) (W.same (W.blk.fr F (by simp)) (F.mono (by simp)) rfl rfl rfl rfl rfl W.mx W.cz) ⟨rfl,rfl,rfl,rfl,.inl rfl⟩ rfl (F.mono (by simp))
 ·intro hsm
  have hl:s1.l≤262143:=by omega
  refine joinP_id ?_
  refine ⟨fun h=>by simp at h,fun _ => ?_⟩
  unfold q61_J9
  simp only [add_mk,Nat.zero_add]
  refine joinP_id ?_
  refine ld_b (t := .I .u8) (x:=s.msv) W.blk rfl ?_
  refine cnd_d ?_ ?_
  ·intro h0
   refine st_u W.blk rfl rfl ?_
   intro w1 B1 F1
   have B1':Blk w1 g ({ s with msv:=255 } : HU).at:=B1.congr (HU.setT 5 rfl rfl rfl (by decide))
   have W1:=W.same (s' := { s with msv:=255 }) B1' F1 rfl rfl rfl rfl rfl W.mx W.cz
   refine p61_J8 W1 (by omega) ht ht2 ?_ ?_
   ·intro hn w2 s2 v hv hv2 W2 R2 e2 F2
    exact hk0 (.inr hn) w2 s2 v hv hv2 W2 ⟨R2.reuse,R2.wll,R2.pt,R2.ptl,R2.tl⟩ e2 (F1.trans F2 (fun x hx => .inl hx))
   ·intro w6 s6 col6 H6 R6 hc6 F6
    have:=F1.size
    exact hk hl w6 s6 col6 H6 ⟨R6.reuse,R6.wll,R6.pt,R6.ptl,R6.tl⟩ (fun v hv=>hc6 v (by omega)) (F1.trans F6 (fun x hx => .inl hx))
  ·intro h0
   exact p61_J8 W (by omega) ht ht2 (fun h=>hk0 (.inr h)) (hk hl)
end
def own (c:Nat):Prop:=1≤c∧c≤6
structure GoW (w w':World) (col col':Nat→Nat):Prop where
 fr:∃S,Fm w w' S∧∀v∈S,v<w.heap.size→own (col v)
 old:∀v,v<w.heap.size→¬own (col v)→col' v=col v
theorem GoW.of {w w':World} {col col':Nat→Nat} {S:List Nat} (F:Fm w w' S) (hS:∀v∈S,v<w.heap.size→own (col v)) (hc:∀v,v<w.heap.size→col' v=col v):GoW w w' col col':=⟨⟨S,F,hS⟩,fun v hv _=>hc v hv⟩
theorem GoW.refl (w:World) (col:Nat→Nat):GoW w w col col:=⟨⟨[],Fm.refl _ _,by simp⟩,fun _ _ _=>rfl⟩
theorem GoW.trans {w w1 w2:World} {col col1 col2:Nat→Nat} (h:GoW w w1 col col1) (h':GoW w1 w2 col1 col2):GoW w w2 col col2:=by
 obtain ⟨⟨S,F,hS⟩,hc⟩:=h
 obtain ⟨⟨S',F',hS'⟩,hc'⟩:=h'
 have hs:=F.size
 have key:∀v∈S',v<w.heap.size→own (col v):=by
  intro v hv hl
  refine Classical.byContradiction fun hn => ?_
  have h1:=hS' v hv (by omega)
  rw [hc v hl hn] at h1
  exact hn h1
 refine ⟨⟨S++S',(F.mono (S':=S++S') (fun b hb => .inl (List.mem_append_left _ hb))).trans F' (fun b hb => .inl (List.mem_append_right _ hb)),?_⟩,?_⟩
 ·intro v hv hl
  rcases List.mem_append.mp hv with h1|h1
  ·exact hS v h1 hl
  ·exact key v h1 hl
 ·intro v hl hn
  have h1:=hc v hl hn
  rw [←h1]
  exact hc' v (by omega) (by rw [h1];exact hn)
theorem GoW.arr {w w':World} {col col':Nat→Nat} {k:IntKind} {s:Sl} {xs:List Nat} (h:GoW w w' col col') (A:Arr k w s xs) (hf:∀a,s.a=some a→xs ≠ []→¬own (col a.block)):Arr k w' s xs:=by
 obtain ⟨⟨S,F,hS⟩,_⟩:=h
 refine A.fr F ?_
 intro a ha hx hm
 exact hf a ha hx (hS _ hm (A.old hx a ha))
theorem GoW.far {w w':World} {col col':Nat→Nat} {k:IntKind} {s:Sl} {xs:List Nat} (h:GoW w w' col col') (A:Arr k w s xs) (hf:∀a,s.a=some a→xs ≠ []→¬own (col a.block)):∀a,s.a=some a→xs ≠ []→¬own (col' a.block):=by
 intro a ha hx
 rw [h.old _ (A.old hx a ha) (hf a ha hx)]
 exact hf a ha hx
section
variable {w:World} {g n:Nat} {s:HU} {s1:Sl} {xs:List Nat} {col:Nat→Nat}
theorem PTc.tb {w:World} {o:Sl} {M L:Nat} {ln:Nat→Nat} (h:PTc w o M ln L):∃qb pc,o=⟨some ⟨qb,0,none⟩,L,pc⟩∧256≤pc∧(∀x,x<L→0<ln x→TB w qb pc (vC ln L M) ln x)∧∃Q,Blk w qb Q∧TbC L Q∧(∀i,i<L→Q (i*2+1)=some (.int .u8 (ln i:Nat)))∧L≤256∧0<L:=by
 obtain ⟨qb,pc,Q,cnt,h0,h1,h2,h3,h4,h5,h6⟩:=h
 refine ⟨qb,pc,h0,h1,?_,Q,h2,fun i hi=>⟨⟨_,(h3 i hi).1⟩,⟨_,(h3 i hi).2⟩⟩,fun i hi=>(h3 i hi).2,h5,h6⟩
 intro x hx h0
 have h7:=h4.le x hx
 have h8:=h4.m11
 exact ⟨by omega,by omega,vC_lt h4 hx h0,(h2.cell _).trans (h3 x hx).1,(h2.cell _).trans (h3 x hx).2⟩
theorem cs_maxE {R31:Int→PT} (B:Blk w g s.at) (hc:∀i,i<256→s.count i=0) (hk:∀w',Fm w w' [g]→Blk w' g s.at→R31 0 w') :
  loopP ((0:Int),(0:Int)) (q117_L7 ⟨g,0,none⟩ R31 ⟨some ⟨g,0,none⟩,256,256⟩) w:=by
 refine ⟨fun x w'=>∃n:Nat,x=(0,(n:Int))∧n≤256∧w'=w,fun x _=>300-x.2.toNat,⟨0,rfl,Nat.zero_le _,rfl⟩,?_⟩
 rintro x w1 ⟨n,rfl,hn,rfl⟩
 unfold q117_L7
 simp only
 refine cnd_d ?_ ?_
 ·intro hcn
  have hn2:n<256:=by omega
  refine joinP_id ?_
  unfold q117_J6
  simp only
  rw [wI64 (by omega) (by omega),show (n:Int)+1=((n+1:Nat):Int) by omega]
  refine ixS_o rfl hn2 ?_
  rw [Nat.zero_add]
  refine ld_b (t := .I .u32) (x:=(0:Int)) B (by rw [HU.count_at _ hn2,hc n hn2];rfl) ?_
  refine cnd_d (fun _ => ?_) (fun h=>absurd rfl h)
  exact ⟨⟨n+1,rfl,hn2,rfl⟩,by omega⟩
 ·intro hcn
  exact hk w1 (Fm.refl _ _) B
theorem cs_max2E {R31:Bool×Int→PT} (B:Blk w g s.at) (hc:∀i,i<256→s.count i=0) (hk:∀w' b,Fm w w' [g]→Blk w' g s.at→R31 (b,0) w') :
  loopP (true,(0:Int),(0:Int)) (q117_L3 ⟨g,0,none⟩ R31 ⟨some ⟨g,0,none⟩,256,256⟩) w:=by
 refine ⟨fun x w'=>∃n:Nat,x=(true,0,(n:Int))∧n≤256∧w'=w,fun x _=>300-x.2.2.toNat,⟨0,rfl,Nat.zero_le _,rfl⟩,?_⟩
 rintro x w1 ⟨n,rfl,hn,rfl⟩
 unfold q117_L3
 simp only
 refine cnd_d ?_ ?_
 ·intro hcn
  have hn2:n<256:=by omega
  refine joinP_id ?_
  unfold q117_J2
  simp only
  rw [wI64 (by omega) (by omega),show (n:Int)+1=((n+1:Nat):Int) by omega]
  refine ixS_o rfl hn2 ?_
  rw [Nat.zero_add]
  refine ld_b (t := .I .u32) (x:=(0:Int)) B (by rw [HU.count_at _ hn2,hc n hn2];rfl) ?_
  refine cnd_d (fun _ => ?_) (fun h=>absurd rfl h)
  exact ⟨⟨n+1,rfl,hn2,rfl⟩,by omega⟩
 ·intro hcn
  exact hk w1 true (Fm.refl _ _) B
theorem c117e {K:Int×Bool→PT} (B:Blk w g s.at) (hz:∀i,i<256→s.count i=0) (hsrc:Arr .u8 w s1 [])
  (hk:∀(w':World) (c':Nat→Int) (b:Bool),(∀i,i<256→c' i=0)→Blk w' g ({ s with count:=c' } : HU).at→Fm w w' [g]→K (0,b) w') :
  callP Tryd.prog 117 #[.pointer (some ⟨g,0,none⟩),.slice s1.a s1.l s1.c] [.c (.I .i64),.c .B] K w:=by
 apply q117_ok
 unfold q117
 refine cells_ldA B (fun i hi=>by rw [HU.count_at _ hi];rfl) ?_
 intro cs
 refine joinP_id ?_
 refine cs_count (xs := []) B hz hsrc (by intro x hx;cases hx) (by simp) (by intro a _ h;exact absurd rfl h) ?_
 intro w1 c1 hc1 B1 F1
 have hc0:∀i,i<256→c1 i=0:=fun i hi=>by rw [hc1 i hi];rfl
 unfold q117_J10
 refine joinP_id ?_
 simp only [add_mk,Nat.zero_add]
 refine ld_b (t := .S) (x:=s.pt) B1 rfl ?_
 refine cnd_d (fun _ => ?_) (fun _ => ?_)
 ·refine joinP_id ?_
  refine slcA_all (by omega) ?_
  refine cs_max2E (s := { s with count:=c1 }) B1 hc0 ?_
  intro w2 b F2 B2
  unfold q117_J4
  simp only
  rw [wI64 (x:=(0:Int)) (by omega) (by omega)]
  exact hk w2 c1 b hc0 B2 (F1.trans F2 (fun x hx => .inl hx))
 ·unfold q117_J9
  refine joinP_id ?_
  refine slcA_all (by omega) ?_
  refine cs_maxE (s := { s with count:=c1 }) B1 hc0 ?_
  intro w2 F2 B2
  unfold q117_J8
  rw [wI64 (x:=(0:Int)) (by omega) (by omega)]
  exact hk w2 c1 false hc0 B2 (F1.trans F2 (fun x hx => .inl hx))
theorem c117p {K:Int×Bool→PT} (W:HW w g s col) (hz:∀i,i<256→s.count i=0) (hsrc:Arr .u8 w s1 xs) (hby:By xs) (hxs:xs.length≤2^30) (ds:∀a,s1.a=some a→xs ≠ []→¬own (col a.block))
  (hk0:xs = []→∀(w':World) (c':Nat→Int) (b:Bool),Blk w' g ({ s with count:=c' } : HU).at→Fm w w' [g]→K (0,b) w')
  (hk:∀(w':World) (c':Nat→Int) (b:Bool) (m L:Nat),xs ≠ []→MX (fun i=>xs.count i) m L→(b=true→0<s.pt.l∧∀M ln L',PTc w s.pt M ln L'→∀x∈xs,x<L'∧0<ln x)→(b=false→s.pt.l=0∨∀M ln L',PTc w s.pt M ln L'→∃x∈xs,¬(x<L'∧0<ln x))→(∀i,i<256→c' i=(xs.count i:Nat))→Blk w' g ({ s with count:=c',symL:=(L:Nat) } : HU).at→Fm w w' [g]→K (((m:Nat):Int),b) w') :
  callP Tryd.prog 117 #[.pointer (some ⟨g,0,none⟩),.slice s1.a s1.l s1.c] [.c (.I .i64),.c .B] K w:=by
 have dg:∀a,s1.a=some a→xs ≠ []→a.block≠g:=by
  intro a ha hx e
  refine ds a ha hx ?_
  rw [e,W.cg]
  exact ⟨by decide,by decide⟩
 by_cases hxe:xs = []
 ·subst hxe
  refine c117e W.blk hz hsrc ?_
  intro w' c' b _ B F
  exact hk0 rfl w' c' b B F
 ·by_cases hp:s.pt.l=0
  ·refine c117n W.blk hz hp hsrc hby hxe hxs dg ?_
   intro w' c' m L hM hc B F
   exact hk w' c' false m L hxe hM (fun h=>by cases h) (fun _ => .inl hp) hc B F
  ·obtain ⟨M,ln,L0,hP⟩:∃M ln L,PTc w s.pt M ln L:=by
    rcases W.ptv with h|h
    ·exact absurd h hp
    ·exact h
   obtain ⟨qb,pc,e,h256,hTB,Q,HQ,hQ,hQ2,hL1,hL2⟩:=hP.tb
   have hqg:qb≠g:=by
    intro e2
    have h5:=W.pt.co qb (by rw [e];simp [Sl.bs])
    rw [e2,W.cg] at h5
    cases h5
   refine c117t W.blk hz e hL2 HQ hQ hqg hsrc hby hxe hxs dg ?_
   intro w' c' b m L hM hb hbf hc B F
   have same:∀M' ln' L',PTc w s.pt M' ln' L'→L'=L0∧∀i,i<L0→ln' i=ln i:=by
    intro M' ln' L' hP'
    obtain ⟨qb',pc',e',_,_,Q',HQ',_,hQ2',_,_⟩:=hP'.tb
    rw [e] at e'
    injection e' with e1 e2 e3
    injection e1 with e1
    injection e1 with e1
    subst e1
    refine ⟨e2.symm,?_⟩
    intro i hi
    have h1:=hQ2 i hi
    have h2:=hQ2' i (by omega)
    rw [←HQ.cell] at h1
    rw [←HQ'.cell,h1] at h2
    injection h2 with h2
    injection h2 with _ h2
    omega
   refine hk w' c' b m L hxe hM ?_ ?_ hc B F
   ·intro hbt
    refine ⟨by rw [e];exact hL2,?_⟩
    intro M' ln' L' hP' x hx
    obtain ⟨eL,eln⟩:=same M' ln' L' hP'
    have h1:=hb hbt x (hby x hx) (by have:0<xs.count x:=List.count_pos_iff.mpr hx;show xs.count x≠0;omega)
    have h2:=h1.2 _ (hQ2 x h1.1)
    rw [eL,eln x h1.1]
    exact ⟨h1.1,by omega⟩
   ·intro hbf'
    right
    intro M' ln' L' hP'
    obtain ⟨eL,eln⟩:=same M' ln' L' hP'
    obtain ⟨j,hj,hj0,hj2⟩:=hbf hbf'
    have hj0:xs.count j≠0:=hj0
    refine ⟨j,List.count_pos_iff.mp (by omega),?_⟩
    rintro ⟨h1,h2⟩
    rw [eL] at h1
    rw [eln j h1] at h2
    refine hj2 ⟨h1,?_⟩
    intro b' hb'
    rw [hQ2 j h1] at hb'
    injection hb' with hb'
    injection hb' with _ hb'
    omega
end
structure HQ (w:World) (g:Nat) (s:HU) (col:Nat→Nat) (n:Nat) (cnt:Nat→Nat) (L:Nat) (pre:List Nat):Prop extends HW w g s col where
 oP:VecU w s.out pre
 nodP:NodC w s.nodes col
 fseP:FseC w s.fse col
 srcN:s.srcLen=(n:Nat)
 tlP:∃t:Nat,s.tl=(t:Nat)∧5≤t∧t≤11
 sc:SC s cnt L
 ccT:s.cc=true
 wl:s.wll=0
theorem HW.n9 {w:World} {g:Nat} {s:HU} {col:Nat→Nat} {S:List Nat} (W:HW w g s col) (hS:∀v∈S,v<w.heap.size→own (col v)):∀v∈S,9≤v:=by
 intro v hv
 have h9:=W.gl.size
 rcases Nat.lt_or_ge v w.heap.size with h|h
 ·have h1:=(hS v hv h).1
  exact W.nine (by omega)
 ·omega
structure Mv (w w':World) (col col':Nat→Nat) (S:List Nat):Prop where
 fr:Fm w w' S
 own_:∀v∈S,v<w.heap.size→own (col v)
 old:∀v,v<w.heap.size→col' v=col v
theorem Mv.go {w w':World} {col col':Nat→Nat} {S:List Nat} (M:Mv w w' col col' S):GoW w w' col col':=GoW.of M.fr M.own_ M.old
theorem Mv.keep {w w':World} {col col':Nat→Nat} {S:List Nat} {r:Nat} (M:Mv w w' col col' S) (h:∀v∈S,v<w.heap.size→col v≠r):Keep w col col' S r:=⟨h,M.old⟩
section
variable {w w':World} {g n L:Nat} {s s':HU} {col col':Nat→Nat} {S:List Nat} {cnt:Nat→Nat} {pre pre':List Nat}
theorem HQ.mv (Q:HQ w g s col n cnt L pre) (M:Mv w w' col col' S) (B:Blk w' g s'.at) (ho:VecU w' s'.out pre') (hoc:∀v∈s'.out.bs,col' v=2) (hn:NodC w' s'.nodes col') (hf:FseC w' s'.fse col') (hct:OwC 4 w' s'.ct col')
  (hp:∀v∈S,v<w.heap.size→col v≠5) (hpt:s'.pt=s.pt) (hsrc:s'.srcLen=s.srcLen) (htl:s'.tl=s.tl) (hsy:s'.symL=s.symL) (hco:s'.count=s.count) (hcc:s'.cc=s.cc) (hmx:s'.maxC=s.maxC) (hwl:s'.wll=s.wll) :
  HQ w' g s' col' n cnt L pre':=by
 have h9:=Q.gl.size
 have n9:=Q.toHW.n9 M.own_
 have K5:=M.keep hp
 have sc':SC s' cnt L:=⟨hsy.trans Q.sc.sym,Q.sc.l1,Q.sc.l256,fun i hi=>by rw [hco];exact Q.sc.cn i hi,Q.sc.lt⟩
 refine ⟨⟨B,(M.old g Q.blk.lt).trans Q.cg,fun v hv=>(M.old v (by omega)).trans (Q.low v hv),⟨⟨_,ho⟩,hoc⟩,.inr hn,hct,?_,?_,.inr hf,Q.gl.fm M.fr n9,fun i hi=>(Q.er i hi).fm M.fr (fun h=>by have:=n9 i h;omega),hmx.trans Q.mx,.inl (hcc.trans Q.ccT)⟩,ho,hn,hf,hsrc.trans Q.srcN,?_,sc',hcc.trans Q.ccT,hwl.trans Q.wl⟩
 ·rw [hpt];exact Q.pt.mv M.fr K5
 ·rw [hpt]
  exact Q.ptv.imp id (fun ⟨M1,ln,L,h⟩=>⟨M1,ln,L,h.mv M.fr (fun v hv=>K5.out (Q.pt.co v hv) (Q.pt.own.lt v hv))⟩)
 ·rw [htl];exact Q.tlP
theorem HQ.ownG (Q:HQ w g s col n cnt L pre):own (col g):=by rw [Q.cg];exact ⟨by decide,by decide⟩
theorem HW.g9l {w:World} {g:Nat} {s:HU} {col:Nat→Nat} (W:HW w g s col):∀v ∈ [g],9≤v:=by intro v hv;simp at hv;subst hv;exact W.g9
theorem HQ.g9l (Q:HQ w g s col n cnt L pre):∀v ∈ [g],9≤v:=Q.toHW.g9l
theorem HQ.mvG (Q:HQ w g s col n cnt L pre) (F:Fm w w' [g]):Mv w w' col col [g]:=⟨F,by intro v hv _;simp at hv;subst hv;exact Q.ownG,fun _ _=>rfl⟩
theorem HQ.out2 (Q:HQ w g s col n cnt L pre):∀v∈s.out.bs,col v=2:=Q.out.co
theorem HQ.self (Q:HQ w g s col n cnt L pre) (F:Fm w w' [g]) (B:Blk w' g s'.at) (ho:s'.out=s.out) (hn:s'.nodes=s.nodes) (hf:s'.fse=s.fse) (hct:s'.ct=s.ct) (hpt:s'.pt=s.pt) (hsrc:s'.srcLen=s.srcLen) (htl:s'.tl=s.tl) (hsy:s'.symL=s.symL) (hco:s'.count=s.count) (hcc:s'.cc=s.cc) (hmx:s'.maxC=s.maxC) (hwl:s'.wll=s.wll) :
  HQ w' g s' col n cnt L pre:=by
 refine Q.mv (Q.mvG F) B ?_ ?_ ?_ ?_ ?_ ?_ hpt hsrc htl hsy hco hcc hmx hwl
 ·rw [ho];exact Q.oP.fr F (fun b hb=>(Q.keepG (r:=2) (by decide)).out (Q.out2 b hb) (Q.oP.lt b hb))
 ·rw [ho];exact Q.out2
 ·rw [hn];exact Q.nodP.mv F (Q.keepG (by decide))
 ·rw [hf];exact Q.fseP.mv F (Q.keepG (by decide))
 ·rw [hct];exact Q.ct.mv F (Q.keepG (by decide))
 ·intro v hv _ e;simp at hv;subst hv;rw [Q.cg] at e;cases e
theorem HQ.ptG {M1 L1:Nat} {ln:Nat→Nat} (Q:HQ w g s col n cnt L pre) (F:Fm w w' [g]) (h:PTc w s.pt M1 ln L1):PTc w' s.pt M1 ln L1 :=
 h.mv F (fun v hv=>(Q.keepG (r:=5) (by decide)).out (Q.pt.co v hv) (Q.pt.own.lt v hv))
theorem HQ.ctG {M1 L1:Nat} {ln:Nat→Nat} (Q:HQ w g s col n cnt L pre) (F:Fm w w' [g]) (h:PTc w s.ct M1 ln L1):PTc w' s.ct M1 ln L1 :=
 h.mv F (fun v hv=>(Q.keepG (r:=4) (by decide)).out (Q.ct.co v hv) (Q.ct.own.lt v hv))
end
def EncLe (Enc:(Nat→Nat)→(Nat→Nat)→List Nat→List Nat→Prop):Prop:=∀cd ln xs ol,Enc cd ln xs ol→(∀x∈xs,ln x≤11)→xs.length≤2^18→ol.length≤2^19
theorem encLe90:EncLe EncT:=by
 intro cd ln xs ol h h1 h2
 have:=hE_le (cd:=cd) h1
 rw [h.2.2]
 omega
theorem encLe89:EncLe Enc4:=by
 rintro cd ln xs ol ⟨h12,ols,h4,hk,rfl⟩ h1 h2
 have e:∀l:List (List Nat),l.length=4→l.flatten.length=lenP l 0+lenP l 1+lenP l 2+lenP l 3:=by
  intro l hl
  match l,hl with
  | [a,b,c,d],_=>simp [lenP];omega
 unfold Out4
 rw [List.length_append,e ols h4]
 have k0:=(hk 0 (by omega)).2
 have k1:=(hk 1 (by omega)).2
 have k2:=(hk 2 (by omega)).2
 have k3:=(hk 3 (by omega)).2
 simp only [hdr6,List.length_cons,List.length_nil]
 omega
section
variable {w:World} {g n L M1 L1:Nat} {s s2:HU} {s1:Sl} {xs pre:List Nat} {col:Nat→Nat} {cnt ln:Nat→Nat} {fc:FuncId} {Enc:(Nat→Nat)→(Nat→Nat)→List Nat→List Nat→Prop} {K:Sl×Value→PT}
theorem comp_core {E:Prop} (hC:CompOK fc Enc E) (hfn:hasFn Tryd.prog fc=true) (Q:HQ w g s col n cnt L pre) (w2:World) (F2:Fm w w2 [g]) (B:Blk w2 g s2.at) (e:s2.out=s.out) (hP:PTc w2 s2.ct M1 ln L1) (hcol:∀v∈s2.ct.bs,v<w.heap.size∧col v≠1∧col v≠2)
  (hx:∀x∈xs,x<L1∧0<ln x) (hsrc:Arr .u8 w s1 xs) (hf:∀a,s1.a=some a→xs ≠ []→¬own (col a.block)) (h2:2≤xs.length) (hxs:xs.length≤2^18) (hpre:pre.length≤2^20)
  (hk0:E→∀w' o v,EG w' v→Blk w' g ({ s2 with out:=o } : HU).at→Fm w w' (g::s.out.bs)→K (⟨none,0,0⟩,v) w')
  (hk1:∀w' o so ol,Enc (vC ln L1 M1) ln xs ol→VecU w' so (pre++ol)→Blk w' g ({ s2 with out:=o } : HU).at→(∀v∈so.bs,v∈s.out.bs∨w.heap.size≤v)→Fm w w' (g::s.out.bs)→Held w' s.out.a pre→K (so,.nilIface) w') :
  callV Tryd.prog (.func (.func fc) #[.pointer (some ⟨g,0,none⟩)] #[]) #[.slice s1.a s1.l s1.c] [.c .S,.c .V] K w2:=by
 obtain ⟨qb,pc,e1,h256,hTB,_⟩:=hP.tb
 have hxe:xs ≠ []:=by intro e;subst e;simp at h2
 have hqb:qb∈s2.ct.bs:=by rw [e1];simp [Sl.bs]
 obtain ⟨hql,hq1,hq2⟩:=hcol qb hqb
 have hne:∀v∈s.out.bs,v≠g:=by intro v hv e;subst e;have:=Q.out2 v hv;rw [Q.cg] at this;cases this
 have n1:∀v∈s.out.bs,v ∉ [g]:=fun v hv=>nm1 (hne v hv)
 have hsz:=F2.size
 refine ⟨fc,_,_,rfl,hfn,?_⟩
 have H:=hC w2 g qb pc L1 (vC ln L1 M1) ln pre xs s1 s2 K B e1 h256 (by rw [e];exact Q.oP.fr F2 n1) (hsrc.fr F2 ?_) (fun x hx'=>hTB x (hx x hx').1 (hx x hx').2) h2 hxs hpre ((Q.er 0 (by decide)).fm F2 ?_)
  (by rw [e];intro h;exact hq2 (Q.out2 qb h)) (by intro h;subst h;exact hq1 Q.cg) (by rw [e];intro h;exact hne g h rfl) ?_ ?_ Q.g9 ?_ ?_
 ·exact H
 ·intro a ha hx' hm
  simp at hm
  exact hf a ha hx' (by rw [hm];exact Q.ownG)
 ·intro h;simp at h;have:=Q.g9;omega
 ·intro a ha hm
  rw [e] at hm
  refine hf a ha hxe ?_
  rcases List.mem_cons.mp hm with h|h
  ·rw [h];exact Q.ownG
  ·rw [Q.out2 _ h];exact ⟨by decide,by decide⟩
 ·rw [e]
  intro v hv
  exact Q.nine (by rw [Q.out2 v hv];decide)
 ·intro hE w' o v hv B' F'
  rw [e] at F'
  exact hk0 hE w' o v hv B' ((F2.mono (by simp)).trans F' (fun b hb => .inl hb))
 ·intro w' o so ol hE hv B' hn F' hh
  rw [e] at F' hn hh
  refine hk1 w' o so ol hE hv B' ?_ ((F2.mono (by simp)).trans F' (fun b hb => .inl hb)) hh
  intro v hv
  rcases hn v hv with h|h
  ·exact .inl h
  ·right;omega
end
end Go.Sx
