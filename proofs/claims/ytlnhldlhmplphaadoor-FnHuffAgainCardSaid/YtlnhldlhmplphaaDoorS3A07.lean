/- Lemmas for the proof: U1 H21 H22 H23 H39 H43 H47 Z3 Z6 H57 X34 X35 X36 X37 X38 X39 X40 X41. No conditions. -/
import Derived.Test.YtlnhldlhmplphaaDoorS3A06
set_option linter.unusedVariables false
set_option linter.unusedSimpArgs false
namespace Go.Sx
open Go Go.Proofs
set_option maxRecDepth 4000
def U8A (w:World) (s:Sl):Prop:=∀a,s.a=some a→∀i,i<s.c→∃x:Int,w.cell? ⟨a.block,i,none⟩=some (.int .u8 x)
structure VecU (w:World) (s:Sl) (l:List Nat):Prop where
 vec:Vec 1 w s (bytes .u8 l)
 u8:U8A w s
 c63:s.c<2^63
theorem bytes_len (k:IntKind) (l:List Nat):(bytes k l).length=l.length:=by unfold bytes;rw [List.length_map]
theorem VecU.len {w:World} {s:Sl} {l:List Nat} (h:VecU w s l):s.l=l.length:=by
 have:=h.vec.len
 rw [bytes_len] at this;omega
theorem VecU.lt {w:World} {s:Sl} {l:List Nat} (h:VecU w s l):∀b∈s.bs,b<w.heap.size:=h.vec.lt
theorem U8A.fr {w w':World} {s:Sl} {S:List Nat} (h:U8A w s) (F:Fm w w' S) (hS:∀b∈s.bs,b∉S):U8A w' s:=by
 intro a ha i hi
 obtain ⟨x,hx⟩:=h a ha i hi
 have hl:=World.block_lt_of_cell? _ _ hx
 exact ⟨x,by rw [←hx];exact cell?_of_heap (F.old a.block hl (hS _ (by unfold Sl.bs;rw [ha];simp))) _ _⟩
theorem VecU.fr {w w':World} {s:Sl} {l:List Nat} {S:List Nat} (h:VecU w s l) (F:Fm w w' S) (hS:∀b∈s.bs,b∉S):VecU w' s l:=⟨h.vec.fr F hS,h.u8.fr F hS,h.c63⟩
theorem app_vuF {T:TypeId} {s x:Sl} {κ:Sl→PT} {w:World} {l xs:List Nat} (h:VecU w s l) (hx:Has 1 w x (bytes .u8 xs)) (hb:s.l+x.l≤2^46)
  (hk:∀s' w',VecU w' s' (l++xs)→Fm w w' s'.bs→Fm w w' s.bs→(∀b∈s'.bs,b∈s.bs∨w.heap.size≤b)→κ s' w'):app z5 T 1 s x κ w:=by
 have hxl:xs.length=x.l:=by have:=hx.len;rw [bytes_len] at this;omega
 have hll:=h.len
 refine ⟨by rw [Nat.mul_one];exact hb,?_,?_⟩
 ·intro hc
  refine ⟨bytes .u8 xs,hx.len,hx.get,hx.non,hx.one,?_⟩
  cases ha:s.a with
  | some a =>
   obtain ⟨h1,h2,f,h3,h4,h5⟩:=h.vec.blk a ha
   have hu:=h.u8 a ha
   obtain ⟨ab,ao,asp⟩:=a
   simp only at h1 h2 h3 hu
   subst h1 h2
   simp only [add_mk,Nat.zero_add]
   have e1:s.l*z5.length=s.l:=by show s.l*1=s.l;omega
   rw [e1]
   have hbl:=bytes_len .u8 xs
   refine ⟨?_,?_⟩
   ·intro i hi
    exact canSt_b h3 (h5 _ (by omega))
   ·have h6:=h3.setL (o:=s.l) (xs:=bytes .u8 xs) (fun i hi=>h5 _ (by omega))
    refine hk _ _ ⟨⟨?_,?_,?_,?_⟩,?_,h.c63⟩ ?_ ?_ ?_
    ·rw [bytes_len,List.length_append];simp only;omega
    ·exact hc
    ·intro h;cases h
    ·intro a ha'
     injection ha' with ha'
     subst ha'
     refine ⟨rfl,rfl,_,h6,?_,?_⟩
     ·intro i hi
      rw [bytes_len,List.length_append] at hi
      have e:bytes .u8 (l++xs)=bytes .u8 l++bytes .u8 xs:=by simp [bytes]
      have hl1:=bytes_len .u8 l
      unfold updL
      rw [e]
      by_cases hi2:s.l≤i
      ·rw [if_pos (by omega),List.getElem?_append_right (by omega),hl1,hll]
      ·rw [if_neg (by omega),h4 i (by omega),List.getElem?_append_left (by omega)]
     ·intro i hi
      unfold updL
      split
      ·rename_i hh
       rw [List.getElem?_eq_getElem (by omega)];rfl
      ·exact h5 i hi
    ·intro a ha' i hi
     injection ha' with ha'
     subst ha'
     show ∃x:Int,_
     rw [h6.cell]
     unfold updL
     split
     ·rename_i hh
      refine ⟨(xs[i-s.l]'(by omega):Nat),?_⟩
      unfold bytes
      rw [List.getElem?_map,List.getElem?_eq_getElem (by omega)]
      rfl
     ·obtain ⟨y,hy⟩:=hu i hi
      rw [h3.cell] at hy
      exact ⟨y,hy⟩
    ·exact (Fm.refl w _).setL (.inl (by simp [Sl.bs]))
    ·exact (Fm.refl w _).setL (.inl (by unfold Sl.bs;rw [ha];simp))
    ·intro b hb'
     left
     unfold Sl.bs at hb' ⊢
     rw [ha]
     exact hb'
  | none =>
   have h0:=h.vec.non ha
   have h01:=h.vec.cap
   have hx0:x.l=0:=by omega
   have hs0:s.l=0:=by omega
   have hxs:xs = []:=List.length_eq_zero_iff.mp (by omega)
   have hl:l = []:=List.length_eq_zero_iff.mp (by omega)
   subst hxs hl
   refine hk _ _ ⟨⟨?_,?_,?_,?_⟩,?_,h.c63⟩ (Fm.refl w _) (Fm.refl w _) ?_
   ·simp [hx0,hs0,bytes]
   ·exact hc
   ·intro _;exact h0
   ·intro a ha';cases ha'
   ·intro a ha';cases ha'
   ·intro b hb';unfold Sl.bs at hb';simp at hb'
 ·intro hc
  have e0:∀n:Nat,n*z5.length=n:=fun n=>by show n*1=n;omega
  refine ⟨bytes .u8 l,bytes .u8 xs,h.vec.len,?_,?_,hx.len,hx.get,hx.non,?_⟩
  ·intro b hb' i hi
   obtain ⟨h1,h2,f,h3,h4,h5⟩:=h.vec.blk b hb'
   obtain ⟨ab,ao,asp⟩:=b
   simp only at h1 h2 h3
   subst h1 h2
   rw [add_mk,Nat.zero_add,h3.cell,h4 i hi]
  ·intro ha
   have h0:=h.vec.non ha
   have h01:=h.vec.cap
   have:l = []:=List.length_eq_zero_iff.mp (by omega)
   subst this;rfl
  ·intro c hc1 hc2
   have hl1:=bytes_len .u8 l
   have hl2:=bytes_len .u8 xs
   have B:Blk (w.drew.alloc (.cells ((bytes .u8 l).toArray++(bytes .u8 xs).toArray++zrep z5 (c-(s.l+x.l))) T)) w.drew.heap.size fun i=>((bytes .u8 l).toArray++(bytes .u8 xs).toArray++zrep z5 (c-(s.l+x.l)))[i]? := Blk.new
   have hcell:∀i,i<c→∃y:Int,((bytes .u8 l).toArray++(bytes .u8 xs).toArray++zrep z5 (c-(s.l+x.l)))[i]? = some (.int .u8 y):=by
    intro i hi
    by_cases h1:i<s.l
    ·rw [Array.getElem?_append_left (by simp only [Array.size_append,List.size_toArray];omega),Array.getElem?_append_left (by simp only [List.size_toArray];omega)]
     refine ⟨(l[i]'(by omega):Nat),?_⟩
     unfold bytes
     rw [List.getElem?_toArray,List.getElem?_map,List.getElem?_eq_getElem (by omega)];rfl
    ·by_cases h2:i<s.l+x.l
     ·rw [Array.getElem?_append_left (by simp only [Array.size_append,List.size_toArray];omega),Array.getElem?_append_right (by simp only [List.size_toArray];omega)]
      refine ⟨(xs[i-s.l]'(by omega):Nat),?_⟩
      rw [List.getElem?_toArray,List.size_toArray,hl1]
      unfold bytes
      rw [List.getElem?_map, ←hll,List.getElem?_eq_getElem (by omega)];rfl
     ·rw [Array.getElem?_append_right (by simp only [Array.size_append,List.size_toArray];omega)]
      refine ⟨0,?_⟩
      show (zrep [.int .u8 0] (c-(s.l+x.l)))[_]? = _
      rw [zrep1,if_pos (by simp only [Array.size_append,List.size_toArray];omega)]
   refine hk _ _ ⟨⟨?_,hc1,?_,?_⟩,?_,hc2⟩ (Fm.refl w _).drew.alloc ?_ ?_
   ·rw [bytes_len,List.length_append];simp only;omega
   ·intro h;cases h
   ·intro a ha'
    injection ha' with ha'
    subst ha'
    refine ⟨rfl,rfl,_,B,?_,?_⟩
    ·intro i hi
     rw [bytes_len,List.length_append] at hi
     have e:bytes .u8 (l++xs)=bytes .u8 l++bytes .u8 xs:=by simp [bytes]
     rw [Array.getElem?_append_left (by simp only [Array.size_append,List.size_toArray];omega),e]
     rw [←Array.getElem?_toList];simp
    ·intro i hi
     simp only at hi
     obtain ⟨y,hy⟩:=hcell i (by omega)
     rw [hy];rfl
   ·intro a ha' i hi
    injection ha' with ha'
    subst ha'
    obtain ⟨y,hy⟩:=hcell i hi
    exact ⟨y,by rw [←hy];exact B.cell i⟩
   ·exact (Fm.refl w _).drew.alloc
   ·intro b hb'
    right
    unfold Sl.bs at hb'
    simp at hb'
    subst hb'
    exact Nat.le_refl _
theorem app_vu {T:TypeId} {s x:Sl} {κ:Sl→PT} {w:World} {l xs:List Nat} (h:VecU w s l) (hx:Has 1 w x (bytes .u8 xs)) (hb:s.l+x.l≤2^46)
  (hk:∀s' w',VecU w' s' (l++xs)→Fm w w' s.bs→(∀b∈s'.bs,b∈s.bs∨w.heap.size≤b)→κ s' w'):app z5 T 1 s x κ w :=
 app_vuF h hx hb (fun s' w' h1 _ h2 h3=>hk s' w' h1 h2 h3)
theorem app_1uF {T T':TypeId} {s:Sl} {κ:Sl→PT} {w:World} {l:List Nat} {v:Nat} (h:VecU w s l) (hb:s.l+1≤2^46)
  (hk:∀s' w',VecU w' s' (l ++ [v])→Fm w w' s'.bs→Fm w w' s.bs→(∀b∈s'.bs,b∈s.bs∨w.heap.size≤b)→κ s' w'):nw [.int .u8 (v:Nat)] T' (fun p=>app z5 T 1 s ⟨some p,1,1⟩ κ) w:=by
 have h0:Fm w (w.alloc (.cells ⟨[.int .u8 (v:Nat)]⟩ T')) []:=(Fm.refl w []).alloc
 refine app_vuF (xs := [v]) (h.fr h0 (by simp)) ⟨rfl,?_,(fun h=>by cases h),by simp [bytes,one]⟩ hb ?_
 ·intro b hb' i hi
  injection hb' with hb'
  subst hb'
  have hi:i=0:=by simpa [bytes] using hi
  subst hi
  simp [add_mk,bytes]
 ·intro s' w' h1 h1' h2 h3
  refine hk s' w' h1 ((h0.mono (S':=s'.bs) (by simp)).trans h1' (fun b hb => .inl hb)) ((h0.mono (S':=s.bs) (by simp)).trans h2 (fun b hb => .inl hb)) ?_
  intro b hb'
  rcases h3 b hb' with h4|h4
  ·exact .inl h4
  ·right;rw [World.size_alloc] at h4;omega
theorem app_1u {T T':TypeId} {s:Sl} {κ:Sl→PT} {w:World} {l:List Nat} {v:Nat} (h:VecU w s l) (hb:s.l+1≤2^46)
  (hk:∀s' w',VecU w' s' (l ++ [v])→Fm w w' s.bs→(∀b∈s'.bs,b∈s.bs∨w.heap.size≤b)→κ s' w'):nw [.int .u8 (v:Nat)] T' (fun p=>app z5 T 1 s ⟨some p,1,1⟩ κ) w:=by
 have h0:Fm w (w.alloc (.cells ⟨[.int .u8 (v:Nat)]⟩ T')) []:=(Fm.refl w []).alloc
 refine app_vu (xs := [v]) (h.fr h0 (by simp)) ⟨rfl,?_,(fun h=>by cases h),by simp [bytes,one]⟩ hb ?_
 ·intro b hb' i hi
  injection hb' with hb'
  subst hb'
  have hi:i=0:=by simpa [bytes] using hi
  subst hi
  simp [add_mk,bytes]
 ·intro s' w' h1 h2 h3
  refine hk s' w' h1 ((h0.mono (S':=s.bs) (by simp)).trans h2 (fun b hb => .inl hb)) ?_
  intro b hb'
  rcases h3 b hb' with h4|h4
  ·exact .inl h4
  ·right;rw [World.size_alloc] at h4;omega
def b2w (M r:Nat):Nat:=if r=0∨M<r then 0 else M+1-r
theorem b2w_le (M r:Nat):b2w M r≤M:=by unfold b2w;split<;>omega
def wtF (M:Nat) (ln:Nat→Nat) (n:Nat):Nat:=b2w M (ln n)
def wtL (M:Nat) (ln:Nat→Nat) (L:Nat):List Nat:=(List.range (L-1)).map (wtF M ln)
theorem cN_count (f:Nat→Nat) (s:Nat):∀n,cN f s n=((List.range n).map f).count s
 | 0=>rfl
 | n+1=>by
  rw [cN,cN_count f s n,List.range_succ,List.map_append,List.count_append]
  simp [List.count_cons,List.count_nil]
section
variable {w:World} {g fb pb tb L M:Nat} {s:HU} {fs:FS} {ln:Nat→Nat}
theorem wr_b2w {R11:Unit→PT} (HP:Blk w pb (arrC .u8 12 fun _=>0)) (hM:M≤11) (hk:∀w',Blk w' pb (arrC .u8 12 fun r=>((b2w M r:Nat):Int))→Fm w w' [pb]→R11 () w') :
  loopP (1:Int) (q65_L0 ⟨pb,0,none⟩ (M:Int) R11) w:=by
 refine ⟨fun x w'=>∃n:Nat,x=(n:Int)∧1≤n∧n≤M+1∧Blk w' pb (arrC .u8 12 fun r=>((if r<n then b2w M r else 0:Nat):Int))∧Fm w w' [pb],fun x _=>20-x.toNat,⟨1,rfl,by omega,by omega,HP.congr ?_,Fm.refl _ _⟩,?_⟩
 ·congr 1
  funext r
  split
  ·have:r=0:=by omega
   subst this;rfl
  ·rfl
 rintro x w2 ⟨n,rfl,h1,h2,HP2,Fr2⟩
 unfold q65_L0
 rw [wU8 (x:=(M:Int)+1) (by omega) (by omega)]
 refine cnd_d ?_ ?_
 ·intro hc
  refine ixA_o rfl (by omega) ?_
  rw [Nat.zero_add]
  refine st_u HP2 (by rw [arrC_get (by omega)];rfl) rfl ?_
  intro w3 HP3 F3
  rw [wU8 (by omega) (by omega),arrC_upd (by omega)] at HP3
  rw [wU8 (by omega) (by omega)]
  refine ⟨⟨n+1,by simp,by omega,by omega,HP3.congr ?_,Fr2.trans F3 (fun x hx => .inl hx)⟩,by dsimp only;omega⟩
  congr 1
  funext r
  unfold updF
  by_cases e:r=n
  ·subst e
   rw [if_pos rfl,if_pos (by omega)]
   unfold b2w
   rw [if_neg (by omega)];omega
  ·rw [if_neg e]
   show (((if r<n then b2w M r else 0):Nat):Int)=_
   by_cases e2:r<n
   ·rw [if_pos e2,if_pos (by omega)]
   ·rw [if_neg e2,if_neg (by omega)]
 ·intro hc
  have hn:n=M+1:=by omega
  subst hn
  refine hk w2 (HP2.congr ?_) Fr2
  congr 1
  funext r
  split
  ·rfl
  ·unfold b2w;rw [if_pos (.inr (by omega))]
theorem wr_clear {R20:Unit→PT} (HB:Blk w fb fs.at) (hk:∀w' c',(∀i,i<16→c' i=0)→Blk w' fb ({ fs with count:=c' } : FS).at→Fm w w' [fb]→R20 () w') :
  loopP (0:Int) (q65_L1 ⟨some ⟨fb,0,none⟩,256,256⟩ R20 ⟨some ⟨fb,0,none⟩,16,256⟩) w:=by
 refine ⟨fun x w'=>∃(n:Nat) (c':Nat→Int),x=(n:Int)∧n≤16∧(∀i,i<n→c' i=0)∧Blk w' fb ({ fs with count:=c' } : FS).at∧Fm w w' [fb],fun x _=>20-x.toNat,⟨0,fs.count,rfl,by omega,fun i hi=>absurd hi (Nat.not_lt_zero _),HB,Fm.refl _ _⟩,?_⟩
 rintro x w2 ⟨n,c2,rfl,h1,hc2,HB2,Fr2⟩
 unfold q65_L1
 refine cnd_d ?_ ?_
 ·intro hc
  have hn:n<16:=by simp only at hc;omega
  refine ixS_o rfl (by omega) ?_
  rw [Nat.zero_add]
  refine st_u HB2 (by rw [FS.count_at _ (by omega)];rfl) rfl ?_
  intro w3 HB3 F3
  rw [FS.setC (by omega)] at HB3
  rw [wI64 (by omega) (by omega)]
  refine ⟨⟨n+1,_,by simp,hn,?_,HB3,Fr2.trans F3 (fun x hx => .inl hx)⟩,by dsimp only;omega⟩
  intro i hi
  show updF c2 n 0 i=0
  unfold updF
  split
  ·rfl
  ·exact hc2 i (by omega)
 ·intro hc
  have hn:n=16:=by simp only at hc;omega
  subst hn
  exact hk w2 c2 hc2 HB2 Fr2
theorem wr_wts {R26:Unit→PT} {capt:Nat} {F:Cells} (HP:Blk w pb (arrC .u8 12 fun r=>((b2w M r:Nat):Int))) (B:Blk w g s.at) (HB:Blk w fb fs.at) (hz:∀i,i<16→fs.count i=0) (HT:Blk w tb F) (hF:∀i,i<L→F (i*2+1)=some (.int .u8 (ln i:Nat))) (hL2:2≤L) (hL:L≤256) (hM:M≤11) (hln:∀i,i<L→ln i≤M)
  (d1:g≠pb) (d2:g≠fb) (d3:g≠tb) (d4:pb≠fb) (d5:tb≠fb)
  (hk:∀(w':World) (c' hw':Nat→Int),(∀i,i<16→c' i=(cN (wtF M ln) i (L-1):Nat))→(∀n,n<L-1→hw' n=(wtF M ln n:Nat))→Blk w' fb ({ fs with count:=c' } : FS).at→Blk w' g ({ s with hw:=hw' } : HU).at→Fm w w' [g,fb]→R26 () w') :
  loopP (0:Int) (q65_L2 ⟨some ⟨tb,0,none⟩,L,capt⟩ ⟨pb,0,none⟩ (L:Int) ⟨some ⟨g,279,none⟩,256,256⟩ ⟨some ⟨fb,0,none⟩,256,256⟩ R26) w:=by
 refine ⟨fun x w'=>∃(n:Nat) (c' hw':Nat→Int),x=(n:Int)∧n≤L-1∧(∀i,i<16→c' i=(cN (wtF M ln) i n:Nat))∧(∀k,k<n→hw' k=(wtF M ln k:Nat))∧Blk w' fb ({ fs with count:=c' } : FS).at∧Blk w' g ({ s with hw:=hw' } : HU).at∧Fm w w' [g,fb],fun x _=>300-x.toNat,
  ⟨0,fs.count,s.hw,rfl,by omega,fun i hi=>by rw [hz i hi];rfl,fun k hk=>absurd hk (Nat.not_lt_zero _),HB,B,Fm.refl _ _⟩,?_⟩
 rintro x w2 ⟨n,c2,hw2,rfl,h1,hc2,hh2,HB2,B2,Fr2⟩
 unfold q65_L2
 rw [wU16 (x:=(L:Int)-1) (by omega) (by omega),wU8 (x:=(L:Int)-1) (by omega) (by omega)]
 refine cnd_d ?_ ?_
 ·intro hc
  have hn:n<L-1:=by omega
  have hl:=hln n (by omega)
  have hwle:wtF M ln n≤11:=Nat.le_trans (b2w_le _ _) hM
  have HT2:=HT.fr Fr2 (by simp;exact ⟨d3.symm,d5⟩)
  have HP2:=HP.fr Fr2 (by simp;exact ⟨d1.symm,d4⟩)
  have ea:andI .u8 ((wtF M ln n:Nat):Int) 15=((wtF M ln n:Nat):Int):=by
   have:=andI_nat (k := .u8) rfl (wtF M ln n) 15 (by simp only [IntKind.bits];omega) (by decide)
   rw [show (15:Int)=((15:Nat):Int) from rfl,this]
   congr 1
   have:=Nat.and_two_pow_sub_one_eq_mod (wtF M ln n) 4
   rw [show 2^4-1=15 from rfl] at this
   rw [this,Nat.mod_eq_of_lt (by omega)]
  refine ixS_2 rfl (by omega) ?_
  simp only [add_mk]
  refine ld_b (t := .I .u8) (x:=((ln n:Nat):Int)) HT2 (hF n (by omega)) ?_
  refine ixA_o rfl (by omega) ?_
  rw [Nat.zero_add]
  refine ld_b (t := .I .u8) (x:=((wtF M ln n:Nat):Int)) HP2 (arrC_get (by omega)) ?_
  rw [ea]
  refine ixS_o rfl (by omega) ?_
  refine st_u B2 (by rw [HU.hw_at _ (by omega)];rfl) rfl ?_
  intro w3 B3 F3
  rw [HU.setW (by omega)] at B3
  have HB3:=HB2.fr F3 (nm1 d2.symm)
  have hcn:=cN_le (wtF M ln) (wtF M ln n) n
  refine ixS_o rfl (by omega) ?_
  rw [Nat.zero_add]
  refine ld_b (t := .I .u32) (x:=((cN (wtF M ln) (wtF M ln n) n:Nat):Int)) HB3 (by rw [FS.count_at _ (by omega)];show some (Value.int .u32 (c2 _))=_;rw [hc2 _ (by omega)];rfl) ?_
  refine ixS_o rfl (by omega) ?_
  rw [Nat.zero_add]
  refine st_u HB3 (by rw [FS.count_at _ (by omega)];rfl) rfl ?_
  intro w4 HB4 F4
  rw [wU32 (by omega) (by omega),FS.setC (by omega)] at HB4
  rw [wU8 (by omega) (by omega)]
  refine ⟨⟨n+1,_,_,by simp,hn,?_,?_,HB4,B3.fr F4 (nm1 d2),(Fr2.trans F3 (by intro v hv;simp at hv;simp [hv])).trans F4 (by intro v hv;simp at hv;simp [hv])⟩,by omega⟩
  ·intro i hi
   show updF c2 (wtF M ln n) _ i=_
   unfold updF
   rw [cN]
   by_cases e:i=wtF M ln n
   ·subst e;rw [if_pos rfl,if_pos rfl];omega
   ·rw [if_neg e,if_neg (fun h=>e h.symm),hc2 i hi];omega
  ·intro k hk2
   show updF hw2 n _ k=_
   unfold updF
   by_cases e:k=n
   ·subst e;rw [if_pos rfl]
   ·rw [if_neg e];exact hh2 k (by omega)
 ·intro hc
  have hn:n=L-1:=by omega
  subst hn
  exact hk w2 c2 hw2 hc2 hh2 HB2 B2 Fr2
theorem wr_max {R39:Int×Int→PT} {c:Nat→Nat} (HB:Blk w fb fs.at) (hc:∀i,i<16→fs.count i=(c i:Nat)) (hlt:∀i,c i<4294967296) (hex:∃i,i<16∧c i≠0)
  (hk:∀m h,h<16→c h≠0→(∀i,i<16→h<i→c i=0)→(∀i,i<16→c i≤m)→(∃i,i<16∧c i=m)→R39 (((m:Nat):Int),((h:Nat):Int)) w) :
  loopP ((0:Int),(0:Int),(0:Int)) (q65_L4 R39 ⟨some ⟨fb,0,none⟩,16,256⟩) w:=by
 refine ⟨fun x w'=>w'=w∧∃(m h n:Nat),x=((m:Int),(h:Int),(n:Int))∧n≤16∧(∀i,i<n→c i≤m)∧(((∀i,i<n→c i=0)∧m=0)∨(h<n∧c h≠0∧(∀i,i<n→h<i→c i=0)∧∃i,i<n∧c i=m)),fun x _=>20-x.2.2.toNat,⟨rfl,0,0,0,rfl,by omega,fun i hi=>absurd hi (Nat.not_lt_zero _),.inl ⟨fun i hi=>absurd hi (Nat.not_lt_zero _),rfl⟩⟩,?_⟩
 rintro x w2 ⟨rfl,m,h,n,rfl,hn,hm,hh⟩
 unfold q65_L4
 simp only
 refine cnd_d ?_ ?_
 ·intro hcn
  have hn2:n<16:=by omega
  have hl:=hlt n
  unfold q65_J3
  refine joinP_id ?_
  simp only
  rw [wI64 (by omega) (by omega)]
  refine ixS_o rfl hn2 ?_
  rw [Nat.zero_add]
  refine ld_b (t := .I .u32) (x:=((c n:Nat):Int)) HB (by rw [FS.count_at _ (by omega),hc n hn2];rfl) ?_
  refine cnd_d ?_ ?_
  ·intro h0
   have h0':c n=0:=by omega
   refine ⟨⟨rfl,m,h,n+1,by simp,hn2,?_,?_⟩,by omega⟩
   ·intro i hi
    by_cases e:i=n
    ·subst e;omega
    ·exact hm i (by omega)
   ·rcases hh with ⟨h1,h2⟩|⟨h1,h2,h3,i,h4,h5⟩
    ·left
     refine ⟨fun i hi => ?_,h2⟩
     by_cases e:i=n
     ·subst e;exact h0'
     ·exact h1 i (by omega)
    ·right
     refine ⟨by omega,h2,fun i hi hi2 => ?_,i,by omega,h5⟩
     by_cases e:i=n
     ·subst e;exact h0'
     ·exact h3 i (by omega) hi2
  ·intro h0
   have h0':c n≠0:=by omega
   rw [wU8 (x:=(n:Int)) (by omega) (by omega)]
   refine cnd_d ?_ ?_
   ·intro h1
    refine ⟨⟨rfl,c n,n,n+1,by simp,hn2,?_,.inr ⟨by omega,h0',fun i hi hi2=>by omega,n,by omega,rfl⟩⟩,by omega⟩
    intro i hi
    by_cases e:i=n
    ·subst e;omega
    ·have:=hm i (by omega);omega
   ·intro h1
    refine ⟨⟨rfl,m,n,n+1,by simp,hn2,?_,.inr ⟨by omega,h0',fun i hi hi2=>by omega,?_⟩⟩,by omega⟩
    ·intro i hi
     by_cases e:i=n
     ·subst e;omega
     ·exact hm i (by omega)
    ·rcases hh with ⟨h2,h3⟩|⟨_,_,_,i,h4,h5⟩
     ·omega
     ·exact ⟨i,by omega,h5⟩
 ·intro hcn
  have hn2:n=16:=by omega
  subst hn2
  rcases hh with ⟨h1,h2⟩|⟨h1,h2,h3,h4⟩
  ·obtain ⟨i,hi,hi2⟩:=hex
   exact absurd (h1 i hi) hi2
  ·exact hk m h h1 h2 h3 hm h4
end
def padW (W:Nat→Nat) (L n:Nat):Nat:=if n<L-1 then W n else 0
def rawB (W:Nat→Nat) (L j:Nat):Nat:=16*padW W L (2*j)+padW W L (2*j+1)
def rawT (W:Nat→Nat) (L:Nat):List Nat:=(126+L)::(List.range (L/2)).map (rawB W L)
theorem rawT_ok {W:Nat→Nat} {L:Nat} (h2:2≤L) (hW:∀n,W n≤15):weightsZ (rawT W L)=some ((List.range (L-1)).map W,(rawT W L).length):=by
 have hlen:(rawT W L).length=1+L/2:=by unfold rawT;simp;omega
 unfold weightsZ
 show (if 128≤126+L then if (rawT W L).length<1+(126+L-127+1)/2 then none else some ((List.range (126+L-127)).map (rawZ (rawT W L)),1+(126+L-127+1)/2) else _)=_
 rw [if_pos (by omega),hlen,if_neg (by omega),show 126+L-127=L-1 by omega,show (L-1+1)/2=L/2 by congr 1;omega]
 congr 2
 apply List.map_congr_left
 intro i hi
 have hi2:=List.mem_range.mp hi
 have hg:(rawT W L).getD (1+i/2) 0=rawB W L (i/2):=by
  unfold rawT
  rw [show 1+i/2=i/2+1 by omega,List.getD_cons_succ,List.getD_eq_getElem?_getD,List.getElem?_eq_getElem (by simp;omega)]
  simp
 unfold rawZ
 rw [hg]
 unfold rawB padW
 have h1:=hW (2*(i/2))
 have h3:=hW (2*(i/2)+1)
 split
 ·have e:2*(i/2)=i:=by omega
  rw [e,if_pos hi2]
  rw [e] at h1 h3
  split<;>omega
 ·have e:2*(i/2)+1=i:=by omega
  rw [e,if_pos hi2]
  rw [e] at h3
  split<;>omega
theorem rawB_lt {W:Nat→Nat} {L j:Nat} (hW:∀n,W n≤15):rawB W L j<256:=by
 have h1:=hW (2*j)
 have h2:=hW (2*j+1)
 unfold rawB padW
 split<;>split<;>omega
theorem rawT_by {W:Nat→Nat} {L:Nat} (hW:∀n,W n≤15) (hL:L≤129):By (rawT W L):=by
 intro x hx
 unfold rawT at hx
 rcases List.mem_cons.mp hx with h|h
 ·omega
 ·obtain ⟨j,_,rfl⟩:=List.mem_map.mp h
  exact rawB_lt hW
theorem or_nib {a b:Nat} (ha:a≤15) (hb:b≤15):orI .u8 (shlI .u8 ((a:Nat):Int) 4) ((b:Nat):Int)=((16*a+b:Nat):Int):=by
 rw [show (4:Int)=((4:Nat):Int) from rfl,shlI_u rfl a 4 (by decide),orI_nat rfl _ _ (by simp only [IntKind.bits];omega) (by simp only [IntKind.bits];omega)]
 have e:a*2^4%2^IntKind.bits .u8=2^4*a:=by simp only [IntKind.bits];omega
 have:=Nat.two_pow_add_eq_or_of_lt (i:=4) (b:=b) (by omega) a
 rw [e, ←this]
theorem or_128 {b:Nat} (hb:b<128):orI .u8 128 ((b:Nat):Int)=((128+b:Nat):Int):=by
 have h:=orI_nat (k := .u8) rfl 128 b (by decide) (by simp only [IntKind.bits];omega)
 have:=Nat.two_pow_add_eq_or_of_lt (i:=7) (b:=b) (by omega) 1
 rw [show (128:Int)=((128:Nat):Int) from rfl,h,show (128:Nat)=2^7*1 from rfl, ←this]
section
variable {w:World} {g L:Nat} {s:HU} {W:Nat→Nat} {pre:List Nat} {K:Value→PT}
theorem wr_raw (B:Blk w g s.at) (HO:VecU w s.out pre) (hpre:pre.length≤1000000000) (hg:g∉s.out.bs) (h2:2≤L) (hL:L≤256) (hh:∀n,n<L-1→s.hw n=(W n:Nat)) (hW:∀n,W n≤15) (E:errAt w 0)
  (hk0:129<L→∀v,EG w v→w.cell? ⟨0,0,none⟩=some v→K v w)
  (hk1:∀w' o hw',L≤129→VecU w' o (pre++rawT W L)→Blk w' g ({ s with out:=o,hw:=hw' } : HU).at→(∀v∈o.bs,v∈s.out.bs∨w.heap.size≤v)→g∉o.bs→Fm w w' (g::s.out.bs)→K .nilIface w') :
  q65_J8 (some ⟨g,0,none⟩) K (L:Int) ⟨some ⟨g,279,none⟩,256,256⟩ () w:=by
 have hgl:=B.lt
 have hol:s.out.l=pre.length:=HO.len
 unfold q65_J8
 rw [wU16 (x:=(L:Int)-1) (by omega) (by omega),wU8 (x:=(L:Int)-1) (by omega) (by omega)]
 refine cnd_d ?_ ?_
 ·intro hc
  obtain ⟨v,e1,e2,e3⟩:=E
  exact ⟨v,e1,hk0 (by omega) v ⟨⟨0,by decide,e1⟩,e2⟩ e1⟩
 ·intro hc
  refine ⟨_,rfl,?_⟩
  simp only [add_mk,Nat.zero_add]
  refine ld_b (t := .S) (x:=s.out) B rfl ?_
  rw [wU8 (by omega) (by omega),show (L:Int)-1-1=((L-2:Nat):Int) by omega,or_128 (by omega),show 128+(L-2)=126+L by omega]
  refine app_1u HO (by omega) ?_
  intro s1 w1 HO1 F1 hb1
  have B1:=B.fr F1 hg
  have hg1:g∉s1.bs:=fun h=>by
   rcases hb1 g h with h|h
   ·exact hg h
   ·omega
  rw [show (L:Int)-1=((L-1:Nat):Int) by omega]
  refine ixS_o rfl (by omega) ?_
  refine st_u B1 (by rw [HU.hw_at _ (by omega)];rfl) rfl ?_
  intro w2 B2 F2
  rw [HU.setW (by omega)] at B2
  have HO2:=HO1.fr F2 (by intro b hb;simp;exact fun e=>hg1 (e▸hb))
  have Fr2:Fm w w2 (g::s.out.bs):=(F1.mono (by intro v hv;left;simp [hv])).trans F2 (by intro v hv;simp at hv;simp [hv])
  have hhw:∀n,n<256→n<L→updF s.hw (L-1) 0 n=(padW W L n:Nat):=by
   intro n hn hn2
   unfold updF padW
   by_cases e:n=L-1
   ·rw [if_pos e,if_neg (by omega)];rfl
   ·rw [if_neg e,if_pos (by omega)];exact hh n (by omega)
  have hpw:∀n,padW W L n≤15:=by
   intro n
   unfold padW
   split
   ·exact hW n
   ·omega
  have hpz:padW W L L=0:=by unfold padW;rw [if_neg (by omega)]
  generalize updF s.hw (L-1) 0=hw2 at *
  refine joinP_id ?_
  refine ⟨fun x w'=>∃j:Nat,x.2=((2*j:Nat):Int)∧j≤L/2∧VecU w' x.1 (pre ++ [126+L]++(List.range j).map (rawB W L))∧Blk w' g ({ s with hw:=hw2 } : HU).at∧(∀v∈x.1.bs,v∈s.out.bs∨w.heap.size≤v)∧Fm w w' (g::s.out.bs),fun x _=>300-x.2.toNat,
   ⟨0,rfl,Nat.zero_le _,by simpa using HO2,B2,hb1,Fr2⟩,?_⟩
  rintro ⟨xs,xn⟩ w3 ⟨j,hxn,hj,HO3,B3,hb3,Fr3⟩
  simp only at hxn HO3 hb3
  subst hxn
  have hg3:g∉xs.bs:=fun h=>by
   rcases hb3 g h with h|h
   ·exact hg h
   ·omega
  have hxl:xs.l=pre.length+1+j:=by
   have:=HO3.len
   simp at this;omega
  unfold q65_L6
  simp only
  rw [wU16 (x:=(L:Int)-1) (by omega) (by omega),wU8 (x:=(L:Int)-1) (by omega) (by omega),wU16 (x:=(L:Int)-1) (by omega) (by omega)]
  refine cnd_d ?_ ?_
  ·intro hc2
   unfold drw
   refine ixS_o rfl (by omega) ?_
   refine ld_b (t := .I .u8) (x:=((padW W L (2*j):Nat):Int)) B3.drew (by rw [HU.hw_at _ (by omega)];show some (Value.int .u8 (hw2 _))=_;rw [hhw _ (by omega) (by omega)];rfl) ?_
   refine ⟨by decide,?_⟩
   rw [wU16 (x:=((2*j:Nat):Int)+1) (by omega) (by omega),wU16 (x:=((2*j:Nat):Int)+2) (by omega) (by omega),show ((2*j:Nat):Int)+1=((2*j+1:Nat):Int) by omega]
   refine ixS_o rfl (by omega) ?_
   refine ld_b (t := .I .u8) (x:=((padW W L (2*j+1):Nat):Int)) B3.drew (by rw [HU.hw_at _ (by omega)];show some (Value.int .u8 (hw2 _))=_;rw [hhw _ (by omega) (by omega)];rfl) ?_
   rw [or_nib (hpw _) (hpw _)]
   refine app_1u (HO3.fr (Fm.refl w3 []).drew (by simp)) (by omega) ?_
   intro s4 w4 HO4 F4 hb4
   have F34:Fm w3 w4 xs.bs:=(Fm.refl w3 xs.bs).drew.trans F4 (fun x hx => .inl hx)
   have hsz:=Fr3.size
   refine ⟨⟨j+1,by omega,by omega,?_,B3.fr F34 hg3,?_,Fr3.trans F34 ?_⟩,by omega⟩
   ·rw [show (16*padW W L (2*j)+padW W L (2*j+1):Nat)=rawB W L j from rfl,List.append_assoc (pre ++ [126+L])] at HO4
    rw [List.range_succ,List.map_append]
    exact HO4
   ·intro v hv
    rcases hb4 v hv with h|h
    ·exact hb3 v h
    ·have:w3.drew.heap.size=w3.heap.size:=rfl
     right;omega
   ·intro v hv
    rcases hb3 v hv with h|h
    ·left;simp [h]
    ·exact .inr h
  ·intro hc2
   have hje:j=L/2:=by omega
   subst hje
   unfold q65_J7
   refine ⟨_,rfl,?_⟩
   simp only [add_mk,Nat.zero_add]
   refine st_u B3 rfl rfl ?_
   intro w4 B4 F4
   have B4':=B4.congr (HU.setT (s' := { s with hw:=hw2,out:=xs }) 0 rfl rfl rfl (by decide))
   refine hk1 w4 xs hw2 (by omega) ?_ B4' hb3 hg3 (Fr3.trans F4 (by intro v hv;simp at hv;simp [hv]))
   have:=HO3.fr F4 (by intro b hb;simp;exact fun e=>hg3 (e▸hb))
   rw [List.append_assoc] at this
   exact this
end
theorem SW.fr {w w':World} {b:Nat} {s:FS} {S:List Nat} (W:SW w b s) (F:Fm w w' S) (hS:∀v∈SB b s,v∉S):SW w' b s :=
 ⟨W.blk.fr F (hS b (mem_SB.mpr (.inl rfl))),W.o.fm F (fun v hv=>hS v (mem_SB.mpr (.inr (.inl hv)))),W.x.fm F (fun v hv=>hS v (mem_SB.mpr (.inr (.inr (.inl hv))))),W.y.fm F (fun v hv=>hS v (mem_SB.mpr (.inr (.inr (.inr (.inl hv)))))),W.z.fm F (fun v hv=>hS v (mem_SB.mpr (.inr (.inr (.inr (.inr hv)))))),W.bo,W.bx,W.bY,W.bz,W.ox,W.oy,W.oz,W.xy,W.xz,W.yz⟩
theorem fseT_ok {ol ws:List Nat} (h:FseOK ol ws) (hl:ol.length<128):weightsZ (ol.length::ol)=some (ws,(ol.length::ol).length):=by
 obtain ⟨cs,t,rest,tab,h1,h2,h3,h4⟩:=h
 unfold weightsZ
 simp only
 rw [if_neg (by omega),if_neg (by simp;omega),List.take_length,h1]
 simp only
 rw [if_neg (by omega),h3]
 simp only
 rw [h4]
 simp only [List.length_cons]
 rw [Nat.add_comm]
section
variable {w:World} {g fb tb capt L M:Nat} {s:HU} {fs:FS} {ln:Nat→Nat} {pre:List Nat} {F:Cells} {K:Value→PT}
structure WT (w w':World) (g fb:Nat) (s:HU) (fs fs':FS) (o:Sl):Prop where
 sw:SW w' fb fs'
 ext:∀v∈SB fb fs',v∈SB fb fs∨w.heap.size≤v
 fr:Fm w w' (g::(s.out.bs++SB fb fs))
 new:∀v∈o.bs,v∈s.out.bs∨w.heap.size≤v
 go:g∉o.bs
 dis:∀v∈o.bs,v∉SB fb fs'
theorem c82 {K:Sl→PT} (hk:K ⟨some ⟨fb,0,none⟩,256,256⟩ w):callP Tryd.prog 82 #[.pointer (some ⟨fb,0,none⟩)] [.c .S] K w:=by
 apply q82_ok
 unfold q82
 exact slcA_all (by omega) hk
theorem c83 {K:Unit→PT} {h m:Nat} (HB:Blk w fb fs.at) (hh:h<256) (hk:∀w',Blk w' fb ({ fs with maxC:=(m:Nat),symL:=(h+1:Nat),cc := !decide (((m:Nat):Int)=0) } : FS).at→Fm w w' [fb]→K () w') :
  callP Tryd.prog 83 #[.pointer (some ⟨fb,0,none⟩),.int .u8 (h:Nat),.int .i64 (m:Nat)] [] K w:=by
 apply q83_ok
 unfold q83
 simp only [add_mk,Nat.zero_add]
 refine st_u HB rfl rfl ?_
 intro w1 HB1 F1
 have HB1':=HB1.congr (FS.setT (s' := { fs with maxC:=(m:Nat) }) 13 rfl rfl rfl (by decide))
 refine st_u HB1' rfl rfl ?_
 intro w2 HB2 F2
 rw [wU16 (x:=(h:Int)) (by omega) (by omega),wU16 (x:=(h:Int)+1) (by omega) (by omega)] at HB2
 have HB2':=HB2.congr (FS.setT (s' := { fs with maxC:=(m:Nat),symL:=(h+1:Nat) }) 16 rfl rfl (by
  have:((h:Nat):Int)+1=((h+1:Nat):Int):=by omega
  rw [this];rfl) (by decide))
 refine st_u HB2' rfl rfl ?_
 intro w3 HB3 F3
 exact hk w3 (HB3.congr (FS.setT (s' := { fs with maxC:=(m:Nat),symL:=(h+1:Nat),cc := !decide (((m:Nat):Int)=0) }) 19 rfl rfl rfl (by decide))) ((F1.trans F2 (fun x hx => .inl hx)).trans F3 (fun x hx => .inl hx))
def WMx (ws:List Nat) (m h:Nat):Prop:=h<16∧ws.count h≠0∧(∀i,i<16→h<i→ws.count i=0)∧(∀i,i<16→ws.count i≤m)∧∃i,i<16∧ws.count i=m
def FsOut (ws:List Nat) (k:Nat):Prop:=∃m h,WMx ws m h∧FGood m (h+1) ws k
def FsBad (ws:List Nat):Prop:=∃m h,WMx ws m h∧FBad m (h+1) ws
def TPl (ws:List Nat) (L:Nat):Prop:=L<3∨FsBad ws∨∃k,FsOut ws k∧L/2≤k
def TL (ws:List Nat) (L n:Nat):Prop:=(∃k,3≤L∧FsOut ws k∧k<L/2∧n=k+1)∨(TPl ws L∧L≤129∧n=1+L/2)
def TBad (ws:List Nat) (L:Nat):Prop:=TPl ws L∧129<L
theorem c65 (B:Blk w g s.at) (hsy:s.symL=(L:Nat)) (h2:2≤L) (hL:L≤256) (hat:s.atl=(M:Nat)) (hM1:1≤M) (hM:M≤11) (hfse:s.fse=some ⟨fb,0,none⟩) (SWf:SW w fb fs) (G:GL w) (E:errAt w 0) (h9:∀v∈SB fb fs,9≤v) (g9:9≤g)
  (HO:VecU w s.out pre) (o9:∀v∈s.out.bs,9≤v) (hpre:pre.length≤1000000) (HT:Blk w tb F) (hF:∀i,i<L→F (i*2+1)=some (.int .u8 (ln i:Nat))) (hln:∀i,i<L→ln i≤M)
  (dgo:g∉s.out.bs) (dgf:g∉SB fb fs) (dof:∀v∈s.out.bs,v∉SB fb fs) (dgt:g≠tb) (dto:tb∉s.out.bs) (dtf:tb∉SB fb fs)
  (hk0:TBad (wtL M ln L) L→∀w' fs' hw' v,EG w' v→w'.cell? ⟨0,0,none⟩=some v→Blk w' g ({ s with hw:=hw' } : HU).at→VecU w' s.out pre→WT w w' g fb s fs fs' s.out→K v w')
  (hk1:∀w' fs' hw' o tbl,TL (wtL M ln L) L tbl.length→By tbl→tbl.length≤129→weightsZ tbl=some (wtL M ln L,tbl.length)→VecU w' o (pre++tbl)→Blk w' g ({ s with hw:=hw',out:=o } : HU).at→WT w w' g fb s fs fs' o→K .nilIface w') :
  callP Tryd.prog 65 #[.slice (some ⟨tb,0,none⟩) L capt,.pointer (some ⟨g,0,none⟩)] [.c .V] K w:=by
 have hgl:=B.lt
 have htl:=HT.lt
 have fbm:fb∈SB fb fs:=mem_SB.mpr (.inl rfl)
 have dgfb:g≠fb:=fun e=>dgf (e▸fbm)
 have dtfb:tb≠fb:=fun e=>dtf (e▸fbm)
 have hfl:=SWf.lt fb fbm
 have hol:s.out.l=pre.length:=HO.len
 have hatc:s.at 268=some (.int .u8 (M:Nat)):=by show some (Value.int .u8 s.atl)=_;rw [hat]
 have hsyc:s.at 265=some (.int .u16 (L:Nat)):=by show some (Value.int .u16 s.symL)=_;rw [hsy]
 have hW11:∀n,wtF M ln n≤11:=fun n=>Nat.le_trans (b2w_le _ _) hM
 apply q65_ok (s0:=⟨some ⟨tb,0,none⟩,L,capt⟩)
 unfold q65
 refine nw_n ?_
 intro w1 F1 hs1 HP1
 have dgp:g≠w.heap.size:=by omega
 have dfp:w.heap.size≠fb:=by omega
 have hwp:w.heap.size≤w.heap.size:=Nat.le_refl _
 generalize hpb:w.heap.size=pb at *
 have B1:=B.fr F1 (by simp)
 refine ⟨_,rfl,?_⟩
 simp only [add_mk,Nat.zero_add]
 refine ld_b (t := .I .u8) (x:=((M:Nat):Int)) B1 hatc ?_
 refine ⟨_,rfl,?_⟩
 simp only [add_mk,Nat.zero_add]
 refine ld_b (t := .I .u16) (x:=((L:Nat):Int)) B1 hsyc ?_
 refine ⟨_,rfl,?_⟩
 simp only [add_mk,Nat.zero_add]
 refine slcA_hi (n:=256) rfl (Nat.le_refl _) (by omega) ?_
 refine ixA_o (k:=0) rfl (by omega) ?_
 refine st_u HP1 (by rw [arrC_get (by omega)];rfl) rfl ?_
 intro w2 HP2 F2
 rw [arrC_upd (by omega)] at HP2
 have HP2':Blk w2 pb (arrC .u8 12 fun _=>0):=HP2.congr (by
  congr 1
  funext i
  unfold updF
  split<;>rfl)
 refine joinP_id ?_
 refine wr_b2w HP2' hM ?_
 intro w3 HP3 F3
 have F13:Fm w w3 []:=by
  refine Fm.trans (F1.trans F2 ?_) F3 ?_
  ·intro v hv;right;simp at hv;omega
  ·intro v hv;right;simp at hv;omega
 have B3:=B.fr F13 (by simp)
 have SW3:=SWf.fm F13
 have HT3:=HT.fr F13 (by simp)
 unfold q65_J11
 refine ⟨_,rfl,?_⟩
 simp only [add_mk,Nat.zero_add]
 refine ld_b (t := .P) (x:=some ⟨fb,0,none⟩) B3 (by show some (Value.pointer s.fse)=_;rw [hfse];rfl) ?_
 refine c82 ?_
 refine slc_hi (m:=256) rfl (Nat.le_refl _) ?_
 refine joinP_id ?_
 refine slc_hi (m:=16) rfl (by show 16≤256;omega) ?_
 refine wr_clear SW3.sw.blk ?_
 intro w4 c4 hz4 HB4 F4
 unfold q65_J10
 refine joinP_id ?_
 refine wr_wts (fs := { fs with count:=c4 }) (s:=s) (HP3.fr F4 (nm1 dfp)) (B3.fr F4 (nm1 dgfb)) HB4 hz4 (HT3.fr F4 (nm1 dtfb)) hF h2 hL hM hln dgp dgfb dgt dfp dtfb ?_
 intro w5 c5 hw5 hc5 hh5 HB5 B5 F5
 have Fr5:Fm w3 w5 [g,fb]:=(F4.mono (by intro v hv;simp at hv;simp [hv])).trans F5 (fun x hx => .inl hx)
 have F05:Fm w w5 [g,fb]:=(F13.mono (by simp)).trans Fr5 (fun x hx => .inl hx)
 have HB5':Blk w5 fb ({ fs with count:=c5 } : FS).at:=HB5
 have dsb:∀v∈SB fb fs,v≠g:=fun v hv e=>dgf (e▸hv)
 have SW4:SW w5 fb { fs with count:=c5 } := by
  have d:∀ {l:List Nat},fb∉l→(∀v∈l,v∈SB fb fs)→∀v∈l,v ∉ [g,fb]:=by
   intro l hb hs v hv
   simp
   exact ⟨dsb v (hs v hv),fun e=>hb (e▸hv)⟩
  exact ⟨HB5',SWf.o.fm F05 (d SWf.bo (fun v hv=>mem_SB.mpr (.inr (.inl hv)))),SWf.x.fm F05 (d SWf.bx (fun v hv=>mem_SB.mpr (.inr (.inr (.inl hv))))),SWf.y.fm F05 (d SWf.bY (fun v hv=>mem_SB.mpr (.inr (.inr (.inr (.inl hv)))))),SWf.z.fm F05 (d SWf.bz (fun v hv=>mem_SB.mpr (.inr (.inr (.inr (.inr hv)))))),SWf.bo,SWf.bx,SWf.bY,SWf.bz,SWf.ox,SWf.oy,SWf.oz,SWf.xy,SWf.xz,SWf.yz⟩
 have HO5:VecU w5 s.out pre:=HO.fr F05 (by intro v hv;simp;exact ⟨fun e=>dgo (e▸hv),fun e=>dof v hv (e▸fbm)⟩)
 have G5:GL w5:=G.fm F05 (by intro v hv;simp at hv;rcases hv with rfl|rfl;exact g9;exact h9 _ fbm)
 have E5:errAt w5 0:=E.fm F05 (by simp;exact ⟨by omega,by have:=h9 _ fbm;omega⟩)
 have sz5:=F05.size
 have raw:TPl (wtL M ln L) L→∀(w6:World) (fs6:FS),Blk w6 g ({ s with hw:=hw5 } : HU).at→VecU w6 s.out pre→errAt w6 0→SW w6 fb fs6→(∀v∈SB fb fs6,v∈SB fb fs∨w.heap.size≤v)→Fm w w6 (g::(s.out.bs++SB fb fs))→q65_J8 (some ⟨g,0,none⟩) K (L:Int) ⟨some ⟨g,279,none⟩,256,256⟩ () w6:=by
  intro hTP w6 fs6 B6 HO6 E6 SW6 hx6 Fr6
  have dof6:∀v∈s.out.bs,v∉SB fb fs6:=by
   intro v hv h
   rcases hx6 v h with h1|h1
   ·exact dof v hv h1
   ·have:=HO.lt v hv;omega
  have sz6:=Fr6.size
  refine wr_raw (s := { s with hw:=hw5 }) (W:=wtF M ln) B6 HO6 (by omega) dgo h2 hL hh5 (fun n=>Nat.le_trans (hW11 n) (by omega)) E6 ?_ ?_
  ·intro h129 v h3 h30
   exact hk0 ⟨hTP,h129⟩ w6 fs6 hw5 v h3 h30 B6 HO6 ⟨SW6,hx6,Fr6,fun v hv => .inl hv,dgo,dof6⟩
  ·intro w7 o hw7 h129 HO7 B7 hn7 hg7 F7
   have hlen:(rawT (wtF M ln) L).length=1+L/2:=by unfold rawT;simp;omega
   have hd7:∀v∈SB fb fs6,v∉g::s.out.bs:=by
    intro v hv h
    rcases List.mem_cons.mp h with h1|h1
    ·subst h1
     rcases hx6 v hv with h3|h3
     ·exact dgf h3
     ·omega
    ·exact dof6 v h1 hv
   refine hk1 w7 fs6 hw7 o _ (.inr ⟨hTP,h129,hlen⟩) (rawT_by (fun n=>Nat.le_trans (hW11 n) (by omega)) h129) (by rw [hlen];omega) (rawT_ok h2 (fun n=>Nat.le_trans (hW11 n) (by omega))) HO7 B7 ⟨SW6.fr F7 hd7,hx6,Fr6.trans F7 ?_,?_,hg7,?_⟩
   ·intro v hv
    left
    rcases List.mem_cons.mp hv with h1|h1
    ·simp [h1]
    ·simp [h1]
   ·intro v hv
    rcases hn7 v hv with h1|h1
    ·exact .inl h1
    ·right;omega
   ·intro v hv h
    rcases hn7 v hv with h1|h1
    ·exact dof6 v h1 h
    ·have:=SW6.lt v h;omega
 have x5:∀v∈SB fb ({ fs with count:=c5 } : FS),v∈SB fb fs∨w.heap.size≤v:=fun v hv => .inl hv
 have Fr05:Fm w w5 (g::(s.out.bs++SB fb fs)):=F05.mono (by intro v hv;simp at hv;left;rcases hv with rfl|rfl<;>simp [fbm])
 unfold q65_J9
 rw [wU16 (x:=(L:Int)-1) (by omega) (by omega),wU8 (x:=(L:Int)-1) (by omega) (by omega),show (L:Int)-1=((L-1:Nat):Int) by omega]
 refine joinP_id (cnd_d ?_ (fun hc2=>raw (.inl (by omega)) w5 _ B5 HO5 E5 SW4 x5 Fr05))
 intro hc2
 have hL3:3≤L:=by omega
 have hcl:∀i,cN (wtF M ln) i (L-1)<4294967296:=fun i=>by have:=cN_le (wtF M ln) i (L-1);omega
 refine joinP_id ?_
 refine slc_hi (m:=16) rfl (by show 16≤256;omega) ?_
 refine wr_max (fs := { fs with count:=c5 }) (c:=fun i=>cN (wtF M ln) i (L-1)) HB5 hc5 hcl ?_ ?_
 ·refine ⟨wtF M ln 0,by have:=hW11 0;omega,?_⟩
  have h1:=cN_mono (wtF M ln) (wtF M ln 0) (show 1≤L-1 by omega)
  have h3:cN (wtF M ln) (wtF M ln 0) 1=1:=by rw [cN,cN,if_pos rfl]
  show cN (wtF M ln) (wtF M ln 0) (L-1)≠0
  omega
 intro m h hh16 hch htop hmax hmex
 have hcnt:∀i,cN (wtF M ln) i (L-1)=(wtL M ln L).count i:=fun i=>cN_count _ _ _
 have hwl:(wtL M ln L).length=L-1:=by simp [wtL]
 have hwm:WMx (wtL M ln L) m h:=⟨hh16,by rw [←hcnt];exact hch,fun i h1 h2=>by rw [←hcnt];exact htop i h1 h2,fun i h1=>by rw [←hcnt];exact hmax i h1,by
  obtain ⟨i,h1,h2⟩:=hmex
  exact ⟨i,h1,by rw [←hcnt];exact h2⟩⟩
 have hmem:∀x∈wtL M ln L,x≤11:=by
  intro x hx
  obtain ⟨k,_,rfl⟩:=List.mem_map.mp hx
  exact hW11 k
 have hh11:h≤11:=by
  have:(wtL M ln L).count h≠0:=by rw [←hcnt];exact hch
  exact hmem h (List.count_pos_iff.mp (by omega))
 have hmle:m≤L-1:=by
  obtain ⟨i,_,e⟩:=hmex
  rw [←e]
  exact cN_le _ _ _
 have hm0:0<m:=by have:=hmax h hh16;omega
 unfold q65_J5
 refine ⟨_,rfl,?_⟩
 simp only [add_mk,Nat.zero_add]
 refine ld_b (t := .P) (x:=some ⟨fb,0,none⟩) B5 (by show some (Value.pointer s.fse)=_;rw [hfse];rfl) ?_
 rw [wI64 (x:=(m:Int)) (by omega) (by omega)]
 refine c83 (h:=h) (m:=m) HB5 (by omega) ?_
 intro w6 HB6 F6
 have B6:=B5.fr F6 (nm1 dgfb)
 refine ⟨_,rfl,?_⟩
 simp only [add_mk,Nat.zero_add]
 refine ld_b (t := .P) (x:=some ⟨fb,0,none⟩) B6 (by show some (Value.pointer s.fse)=_;rw [hfse];rfl) ?_
 refine ⟨_,rfl,?_⟩
 simp only [add_mk,Nat.zero_add]
 refine st_u HB6 rfl rfl ?_
 intro w7 HB7 F7
 have HB7':=HB7.congr (FS.setT (s' := { fs with count:=c5,maxC:=(m:Nat),symL:=(h+1:Nat),cc := !decide (((m:Nat):Int)=0),tl:=6 }) 21 rfl rfl rfl (by decide))
 have F57:Fm w5 w7 [fb]:=F6.trans F7 (fun x hx => .inl hx)
 have ST7:=SW4.same (s' := { fs with count:=c5,maxC:=(m:Nat),symL:=(h+1:Nat),cc := !decide (((m:Nat):Int)=0),tl:=6 }) HB7' F57 rfl rfl rfl rfl
 obtain ⟨fs7,e7t,e7m,e7s,e7c,e7b,ST7⟩:∃fs7:FS,fs7.tl=6∧fs7.maxC=(m:Nat)∧fs7.symL=((h+1:Nat):Int)∧fs7.count=c5∧SB fb fs7=SB fb fs∧ST w5 w7 fb { fs with count:=c5 } fs7:=⟨({ fs with count:=c5,maxC:=(m:Nat),symL:=(h+1:Nat),cc := !decide (((m:Nat):Int)=0),tl:=6 } : FS),rfl,rfl,rfl,rfl,rfl,ST7⟩
 have B7:=B5.fr F57 (nm1 dgfb)
 have HO7:VecU w7 s.out pre:=HO5.fr F57 (by intro v hv;simp;exact fun e=>dof v hv (e▸fbm))
 have G7:GL w7:=G5.fm F57 (by intro v hv;simp at hv;subst hv;exact h9 _ fbm)
 have E7:errAt w7 0:=E5.fm F57 (by simp;have:=h9 _ fbm;omega)
 have Fr07:Fm w w7 (g::(s.out.bs++SB fb fs)):=Fr05.trans F57 (by intro v hv;simp at hv;subst hv;left;simp [fbm])
 have sz7:=Fr07.size
 unfold drw
 refine slc_hi (m:=L-1) (by rw [wU16 (x:=(L:Int)-1) (by omega) (by omega),wU8 (x:=(L:Int)-1) (by omega) (by omega)];omega) (by show L-1≤256;omega) ?_
 refine ⟨_,rfl,?_⟩
 simp only [add_mk,Nat.zero_add]
 refine ld_b (t := .P) (x:=some ⟨fb,0,none⟩) B7.drew (by show some (Value.pointer s.fse)=_;rw [hfse];rfl) ?_
 have SW7:=ST7.drew.sw
 have hsrc:Arr .u8 w7.drew ⟨some ⟨g,279,none⟩,L-1,256⟩ (wtL M ln L):=by
  refine ⟨hwl.symm,by show L-1≤256;omega,(fun h=>by cases h),?_⟩
  intro b hb i hi
  injection hb with hb
  subst hb
  rw [add_mk,B7.drew.cell,HU.hw_at _ (by omega)]
  show some (Value.int .u8 (hw5 i))=_
  rw [hh5 i (by omega)]
  simp [wtL]
 have G7d:GL w7.drew:=G7.fm (Fm.refl w7 []).drew (by simp)
 have dofx:∀ {fs':FS} {w':World},ST w7.drew w' fb fs7 fs'→∀v∈SB fb fs',v∈SB fb fs∨w.heap.size≤v:=by
  intro fs' w' T v hv
  rcases T.ext v hv with h1|h1
  ·rw [e7b] at h1;exact .inl h1
  ·have:w7.drew.heap.size=w7.heap.size:=rfl
   right;omega
 have outd:∀v∈s.out.bs,v∉SB fb fs:=dof
 refine c84 (s:=fs7) (src:=⟨some ⟨g,279,none⟩,L-1,256⟩) (ws:=wtL M ln L) (L:=h+1) (m:=m) SW7 G7d (by rw [e7b];exact h9) hsrc (by intro a ha _;injection ha with ha;subst ha;rw [e7b];exact dgf) (by omega) (by omega) e7t e7m hm0 (by omega) e7s (by omega) (by omega) (fun i hi=>by rw [e7c, ←hcnt];exact hc5 i (by omega)) ?_ (fun i hi=>by rw [←hcnt];exact hmax i (by omega)) (by rw [Nat.add_sub_cancel, ←hcnt];exact hch) ?_ ?_
 ·intro x hx
  have h11:=hmem x hx
  by_cases hlt:x<h+1
  ·exact hlt
  ·have h0:=htop x (by omega) (by omega)
   have:0<(wtL M ln L).count x:=List.count_pos_iff.mpr hx
   rw [←hcnt] at this
   have h0:cN (wtF M ln) x (L-1)=0:=h0
   omega
 ·-- not pressed
  intro w8 fs8 v hBd T8 hv1 hv2
  refine ⟨isPE.ifc hv1,?_⟩
  refine ⟨fun e=>absurd (show isNil v=true from e) (by rw [hv2];simp),fun _ => ?_⟩
  have F8:Fm w7 w8 (SB fb fs):=(Fm.refl w7 _).drew.trans (e7b▸T8.fr) (fun x hx => .inl hx)
  exact raw (.inr (.inl ⟨m,h,hwm,hBd⟩)) w8 fs8 (B7.fr F8 dgf) (HO7.fr F8 dof) (E7.fm F8 (fun h=>by have:=h9 _ h;omega)) T8.sw (dofx T8) (Fr07.trans F8 (by intro v hv;left;simp [hv]))
 ·intro w8 fs8 o ol hGd T8 ha hby hll hok hob
  have F8:Fm w7 w8 (SB fb fs):=(Fm.refl w7 _).drew.trans (e7b▸T8.fr) (fun x hx => .inl hx)
  have B8:=B7.fr F8 dgf
  have HO8:=HO7.fr F8 dof
  have E8:=E7.fm F8 (fun h=>by have:=h9 _ h;omega)
  have Fr08:Fm w w8 (g::(s.out.bs++SB fb fs)):=Fr07.trans F8 (by intro v hv;left;simp [hv])
  have x8:=dofx T8
  have sz8:=Fr08.size
  refine ⟨rfl,?_⟩
  refine ⟨fun _ => ?_,fun e=>by simp [isNil] at e⟩
  refine ⟨_,rfl,?_⟩
  simp only [add_mk,Nat.zero_add]
  refine ld_b (t := .I .u16) (x:=((L:Nat):Int)) B8 (by show some (Value.int .u16 s.symL)=_;rw [hsy];rfl) ?_
  refine ⟨by decide,?_⟩
  have esh:IntKind.i64.wrap (shrI .u16 ((L:Nat):Int) 1)=((L/2:Nat):Int):=by
   rw [show (1:Int)=((1:Nat):Int) from rfl,shrI_nat _ _ _ (by simp only [IntKind.bits];omega),Nat.pow_one,wI64 (by omega) (by omega)]
  rw [esh]
  have hoL:o.l=ol.length:=ha.len
  refine cnd_d ?_ (fun hc3=>raw (.inr (.inr ⟨_,⟨m,h,hwm,hGd⟩,by omega⟩)) w8 fs8 B8 HO8 E8 T8.sw x8 Fr08)
  intro hc3
  have dof8:∀v∈s.out.bs,v∉SB fb fs8:=by
   intro v hv h
   rcases x8 v h with h1|h1
   ·exact dof v hv h1
   ·have:=HO.lt v hv;omega
  have dg8:g∉SB fb fs8:=by
   intro h
   rcases x8 g h with h1|h1
   ·exact dgf h1
   ·omega
  refine ⟨_,rfl,?_⟩
  simp only [add_mk,Nat.zero_add]
  refine ld_b (t := .S) (x:=s.out) B8 rfl ?_
  rw [hoL,wU8 (x:=((ol.length:Nat):Int)) (by omega) (by omega)]
  refine app_1u HO8 (by omega) ?_
  intro s9 w9 HO9 F9 hb9
  have B9:=B8.fr F9 dgo
  have hg9:g∉s9.bs:=fun h=>by
   rcases hb9 g h with h|h
   ·exact dgo h
   ·have:=B8.lt;omega
  have d9f:∀v∈s9.bs,v∉SB fb fs8:=by
   intro v hv h
   rcases hb9 v hv with h1|h1
   ·exact dof8 v h1 h
   ·have:=T8.sw.lt v h;omega
  refine ⟨_,rfl,?_⟩
  simp only [add_mk,Nat.zero_add]
  refine st_u B9 rfl rfl ?_
  intro w10 B10 F10
  have B10':=B10.congr (HU.setT (s' := { s with hw:=hw5,out:=s9 }) 0 rfl rfl rfl (by decide))
  have HO10:=HO9.fr F10 (by intro v hv;simp;exact fun e=>hg9 (e▸hv))
  have F810:Fm w8 w10 (g::s.out.bs):=(F9.mono (by intro v hv;left;simp [hv])).trans F10 (by intro v hv;simp at hv;simp [hv])
  have dSB8:∀v∈SB fb fs8,v∉g::s.out.bs:=by
   intro v hv h
   rcases List.mem_cons.mp h with h1|h1
   ·exact dg8 (h1▸hv)
   ·exact dof8 v h1 hv
  have ha10:Arr .u8 w10 o ol:=ha.fr F810 (by
   intro a h1 _
   exact dSB8 _ (hob _ (by unfold Sl.bs;rw [h1];simp)))
  have SW10:=T8.sw.fr F810 dSB8
  refine ⟨_,rfl,?_⟩
  simp only [add_mk,Nat.zero_add]
  refine ld_b (t := .S) (x:=s9) B10' rfl ?_
  have h9l:s9.l=pre.length+1:=by have:=HO10.len;simp at this;omega
  refine app_vu (xs:=ol) HO10 ha10.has (by omega) ?_
  intro s11 w11 HO11 F11 hb11
  have B11:=B10'.fr F11 hg9
  have sz811:=F810.size
  have hg11:g∉s11.bs:=fun h=>by
   rcases hb11 g h with h|h
   ·exact hg9 h
   ·have:=B10'.lt;omega
  refine ⟨_,rfl,?_⟩
  simp only [add_mk,Nat.zero_add]
  refine st_u B11 rfl rfl ?_
  intro w12 B12 F12
  have B12':=B12.congr (HU.setT (s' := { s with hw:=hw5,out:=s11 }) 0 rfl rfl rfl (by decide))
  have HO12:=HO11.fr F12 (by intro v hv;simp;exact fun e=>hg11 (e▸hv))
  have F1012:Fm w10 w12 (g::s9.bs):=(F11.mono (by intro v hv;left;simp [hv])).trans F12 (by intro v hv;simp at hv;simp [hv])
  have n9:∀v∈s9.bs,v∈s.out.bs∨w.heap.size≤v:=by
   intro v hv
   rcases hb9 v hv with h1|h1
   ·exact .inl h1
   ·right;omega
  refine hk1 w12 fs8 hw5 s11 (ol.length::ol) (.inl ⟨ol.length,hL3,⟨m,h,hwm,hGd⟩,by omega,rfl⟩) ?_ ?_ (fseT_ok hok (by omega)) ?_ B12' ⟨SW10.fr F1012 ?_,x8,(Fr08.trans F810 ?_).trans F1012 ?_,?_,hg11,?_⟩
  ·intro x hx
   rcases List.mem_cons.mp hx with h1|h1
   ·omega
   ·exact hby x h1
  ·simp only [List.length_cons];omega
  ·have e:pre ++ [ol.length]++ol=pre++ol.length::ol:=by simp
   rw [e] at HO12
   exact HO12
  ·intro v hv h
   rcases List.mem_cons.mp h with h1|h1
   ·exact dg8 (h1▸hv)
   ·exact d9f v h1 hv
  ·intro v hv
   left
   rcases List.mem_cons.mp hv with h1|h1
   ·simp [h1]
   ·simp [h1]
  ·intro v hv
   rcases List.mem_cons.mp hv with h1|h1
   ·left;simp [h1]
   ·rcases n9 v h1 with h3|h3
    ·left;simp [h3]
    ·exact .inr (by omega)
  ·intro v hv
   rcases hb11 v hv with h1|h1
   ·rcases n9 v h1 with h3|h3
    ·exact .inl h3
    ·exact .inr (by omega)
   ·right;omega
  ·intro v hv h
   rcases hb11 v hv with h1|h1
   ·exact d9f v h1 h
   ·have:=SW10.lt v h;omega
end
theorem SW.mv {w w':World} {b:Nat} {s:FS} {S:List Nat} (W:SW w b s) (F:Fm w w' S) (h:∀v∈SB b s,v∉S):SW w' b s :=
 ⟨W.blk.fr F (h b (mem_SB.mpr (.inl rfl))),W.o.fm F (fun v hv=>h v (mem_SB.mpr (.inr (.inl hv)))),W.x.fm F (fun v hv=>h v (mem_SB.mpr (.inr (.inr (.inl hv))))),W.y.fm F (fun v hv=>h v (mem_SB.mpr (.inr (.inr (.inr (.inl hv)))))),W.z.fm F (fun v hv=>h v (mem_SB.mpr (.inr (.inr (.inr (.inr hv)))))),
  W.bo,W.bx,W.bY,W.bz,W.ox,W.oy,W.oz,W.xy,W.xz,W.yz⟩
theorem VecU.nil {w:World} : VecU w ⟨none,0,0⟩ []:=⟨Vec.nil,(by intro a h;cases h),by decide⟩
theorem c47 {w:World} {s0:Sl} {xs:List Nat} {K:Sl→PT} (A:Arr .u8 w s0 xs) (hxs:xs.length≤2^40) (hk:∀w' s',VecU w' s' xs→Fm w w' []→(∀b∈s'.bs,w.heap.size≤b)→K s' w') :
  callP Tryd.prog 47 #[.slice s0.a s0.l s0.c] [.c .S] K w:=by
 apply q47_ok
 unfold q47 nw
 have F1:Fm w (w.alloc (.cells ⟨[]⟩ 5)) []:=(Fm.refl w []).alloc
 have B1:Blk (w.alloc (.cells ⟨[]⟩ 5)) w.heap.size fun i=>(⟨[]⟩:Array Value)[i]? := Blk.new
 have V1:VecU (w.alloc (.cells ⟨[]⟩ 5)) ⟨some ⟨w.heap.size,0,none⟩,0,0⟩ []:=by
  refine ⟨⟨rfl,Nat.le_refl _,fun _=>rfl,?_⟩,?_,show (0:Nat)<2^63 by decide⟩
  ·intro a ha
   injection ha with ha
   subst ha
   exact ⟨rfl,rfl,_,B1,by simp [bytes],by simp⟩
  ·intro a ha i hi
   exact absurd hi (Nat.not_lt_zero _)
 have A1:=A.fr F1 (by simp)
 refine app_vu (xs:=xs) V1 A1.has (by rw [A.len];simp only;omega) ?_
 intro s' w' h1 h2 h3
 rw [List.nil_append] at h1
 have F2:Fm w w' []:=F1.trans h2 (by intro b hb;right;simp [Sl.bs] at hb;omega)
 refine hk w' s' h1 F2 ?_
 intro b hb
 rcases h3 b hb with h|h
 ·simp [Sl.bs] at h;omega
 ·rw [World.size_alloc] at h;omega
end Go.Sx
namespace Go.Sx
open Go Go.Proofs Go.ChangeShapes Go.WideShapes Go.ChangeAt Go.RowKit Go.Proofs.YtlnhldlhmplphaaDoor
set_option maxRecDepth 100000
def mask32:List Int := [0,1,3,7,15,31,63,127,255,511,1023,2047,4095,8191,16383,32767,65535,65535,65535,65535,65535,65535,65535,65535,65535,65535,0,0,0,0,0,0]
theorem bytes_in {H:Type} {enc:TypeId×Value→H} {W:World} {v:Value} {d:DataW H} {p:List MemPlace} (h:DataW.Trod enc Tryd.prog W 0 (fun _=>true) true 22 v d p) (hv:∃a l c,v = .slice a l c) :
  ∃(s:Sl) (xs:List Nat),v = .slice s.a s.l s.c∧Arr .u8 W s xs∧By xs:=by
 obtain ⟨n,hn⟩:=h
 obtain ⟨a0,l0,c0,rfl⟩:=hv
 rcases open_ints Tryd.underlying22 Tryd.underlying5 (by kernel_rfl) hn with ⟨e,_⟩|⟨a,len,cap,zs,e,_,hl,_,hzl,_,hcell,hwf⟩
 ·have e:Value.slice a0 l0 c0 = .slice none 0 0:=by simpa [Value.cells] using e
  injection e with e1 e2 e3
  subst e1 e2 e3
  exact ⟨⟨none,0,0⟩,[],rfl,⟨rfl,Nat.le_refl _,fun _=>rfl,(by intro b hb;cases hb)⟩,by intro x hx;cases hx⟩
 ·have e:Value.slice a0 l0 c0 = .slice (some a) len cap:=by simpa [Value.cells] using e
  injection e with e1 e2 e3
  subst e1 e2 e3
  simp only [if_true] at hzl
  have hz:∀i (hi:i<zs.length),0≤zs[i]∧zs[i]<256:=by
   intro i hi
   have:=bounds_u8 (hwf _ (List.getElem_mem hi))
   omega
  refine ⟨⟨some a,l0,c0⟩,(zs.take l0).map Int.toNat,rfl,⟨?_,hl,(fun h=>by cases h),?_⟩,?_⟩
  ·rw [List.length_map,List.length_take];simp only;omega
  ·intro b hb i hi
   injection hb with hb
   subst hb
   rw [List.length_map,List.length_take] at hi
   have hi2:i<zs.length:=by omega
   rw [hcell i hi2]
   have h1:=hz i hi2
   have h2:zs.getD i 0=zs[i]:=by rw [List.getD_eq_getElem?_getD,List.getElem?_eq_getElem hi2];rfl
   rw [h2,List.getElem_map,List.getElem_take,Int.toNat_of_nonneg h1.1]
  ·intro x hx
   obtain ⟨z,hz1,rfl⟩:=List.mem_map.mp hx
   obtain ⟨i,hi,e⟩:=List.mem_iff_getElem.mp (List.mem_of_mem_take hz1)
   have:=hz i hi
   rw [e] at this
   omega
theorem slice_in {H:Type} {enc:TypeId×Value→H} {W:World} {t e:TypeId} {v:Value} {d:DataW H} {p:List MemPlace} {base:Nat} (ht:Tryd.prog.underlying t=some (.slice e)) (ok:Value.okWide Tryd.prog W .any base t v) (h:DataW.Trod enc Tryd.prog W 0 (fun _=>true) true t v d p):∃a l c,v = .slice a l c:=by
 unfold Value.okWide at ok
 simp only [ht] at ok
 unfold Cell.okWide at ok
 cases v<;>simp [Value.cells,Cell.ok,ht] at ok ⊢
def laid3:List (String×DataW Unit) := [("io.ErrUnexpectedEOF",Rows.laid_io_ErrUnexpectedEOF),("pub-pemmican/pub/compress/fse.bitMask16",Rows.laid_pub_pemmican_pub_compress_fse_bitMask16),("pub-pemmican/pub/compress/fse.rtbTable",Rows.laid_pub_pemmican_pub_compress_fse_rtbTable),("pub-pemmican/pub/compress/fse.ErrIncompressible",Rows.laid_pub_pemmican_pub_compress_fse_ErrIncompressible),("pub-pemmican/pub/compress/fse.ErrUseRLE",Rows.laid_pub_pemmican_pub_compress_fse_ErrUseRLE),("pub-pemmican/pub/compress/huff0.ErrIncompressible",Rows.laid_pub_pemmican_pub_compress_huff0_ErrIncompressible),("pub-pemmican/pub/compress/huff0.ErrTooBig",Rows.laid_pub_pemmican_pub_compress_huff0_ErrTooBig)]
theorem gl_of_laid {W:World} (h:laidMetH Tryd.prog laid3 W):GL W∧errAt W 0:=by
 rw [MakeChecks.laidMetH_plain _ _ _ (by kernel_rfl)] at h
 have e0:=err_of_laid h (.tail _ (.tail _ (.tail _ (.tail _ (.tail _ (.head _)))))) (g:=0) (by kernel_rfl) (by kernel_rfl)
 have e3:=err_of_laid h (.tail _ (.tail _ (.tail _ (.head _)))) (g:=3) (by kernel_rfl) (by kernel_rfl)
 have e4:=err_of_laid h (.tail _ (.tail _ (.tail _ (.tail _ (.head _))))) (g:=4) (by kernel_rfl) (by kernel_rfl)
 have em:=nums_of_laid (zs:=mask32) (k := .u16) (t:=240) (e:=81) (m:=32) h (.tail _ (.head _)) (g:=8) (by kernel_rfl) (by kernel_rfl) (by kernel_rfl) (by kernel_rfl) (by kernel_rfl) rfl
 have er:=nums_of_laid (zs:=rtbZ) (k := .u32) (t:=207) (e:=79) (m:=8) h (.tail _ (.tail _ (.head _))) (g:=6) (by kernel_rfl) (by kernel_rfl) (by kernel_rfl) (by kernel_rfl) (by kernel_rfl) rfl
 have ee:∀ {g:Nat},(∃a c T,W.cell? ⟨g,0,none⟩=some (.iface 160 (.pointer (some a)))∧W.heap[a.block]? = some (.cells c T (0,0)))→errAt W g:=fun ⟨a,c,T,h1,_⟩=>⟨_,h1,rfl,rfl⟩
 refine ⟨⟨ee e3,ee e4,?_,?_⟩,ee e0⟩
 ·intro k hk
  exact er k hk
 ·intro n hn
  rw [em n (by omega)]
  have:∀m:Fin 17,mask32.getD (m:Nat) 0=((2^(m:Nat)-1:Nat):Int):=by decide
  rw [this ⟨n,by omega⟩]
theorem door_met3 (os:Os) (args:Array Value):laidMetH Tryd.prog laid3 ((World.doorLaid Tryd.prog 4000 os).forCall (fun _ _=>0) ⟨#[],args,[]⟩).memory :=
 laidMetH_of_parts3 (fuel:=8) (laidMet_of_run' 8 (by kernel_rfl) (by kernel_rfl)) (by kernel_rfl) (by kernel_rfl)
end Go.Sx
namespace Go.Sx
open Go Go.Proofs
set_option maxRecDepth 4000
theorem VecU.fresh {w:World} {p:Nat} {f:Cells} (B:Blk w p f):VecU w ⟨some ⟨p,0,none⟩,0,0⟩ []:=by
 refine ⟨⟨rfl,Nat.le_refl _,fun _=>rfl,?_⟩,?_,show (0:Nat)<2^63 by decide⟩
 ·intro a ha
  injection ha with ha
  subst ha
  exact ⟨rfl,rfl,_,B,by simp [bytes],by simp⟩
 ·intro a ha i hi
  exact absurd hi (Nat.not_lt_zero _)
theorem shift_in (V v x n k q:Nat) (hx:x=V/2^q%2^k) (hv:v%2^n=V/2^(q+k)%2^n) :
  (v*2^k+x)%2^(n+k)=V/2^q%2^(n+k):=by
 have hk:=Nat.two_pow_pos k
 have hlt:x<2^k:=hx▸Nat.mod_lt _ hk
 rw [Nat.add_comm n k,Nat.pow_add,Nat.mod_mul,Nat.mod_mul (a:=2^k) (x:=V/2^q),Nat.div_div_eq_div_mul, ←Nat.pow_add]
 rw [show (v*2^k+x)%2^k=x by rw [Nat.mul_comm,Nat.mul_add_mod,Nat.mod_eq_of_lt hlt]]
 rw [show (v*2^k+x)/2^k=v by rw [Nat.mul_comm,Nat.mul_add_div hk,Nat.div_eq_of_lt hlt,Nat.add_zero]]
 rw [hv, ←hx]
theorem shl_or {v x k:Nat} (hk:k≤64) (hx:x<2^k):orI .u64 (shlI .u64 (v:Int) (k:Int)) (x:Int)=((v*2^k%2^64+x:Nat):Int)∧v*2^k%2^64+x<2^64∧v*2^k%2^64+x=(v*2^k+x)%2^64:=by
 have e:(2:Nat)^64=2^(64-k)*2^k:=by rw [←Nat.pow_add,show 64-k+k=64 by omega]
 have e2:v*2^k%2^64=v%2^(64-k)*2^k:=by rw [e,Nat.mul_mod_mul_right]
 have h1:v%2^(64-k)<2^(64-k):=Nat.mod_lt _ (Nat.two_pow_pos _)
 have h2:v%2^(64-k)*2^k+x<2^64:=by
  have:=Nat.mul_le_mul_right (2^k) h1
  rw [e]
  rw [Nat.succ_mul] at this
  omega
 have hp:2^k≤2^64:=Nat.pow_le_pow_right (by omega) hk
 refine ⟨?_,by rw [e2];exact h2,?_⟩
 ·rw [shlI_u (k := .u64) rfl v k (by simp only [IntKind.bits];omega)]
  simp only [IntKind.bits]
  rw [orI_nat (k := .u64) rfl _ _ (by simp only [IntKind.bits];omega) (by simp only [IntKind.bits];omega),e2,Nat.or_comm,or_add hx,Nat.add_comm]
 ·have h3:v*2^k%2^64+x<2^64:=by rw [e2];exact h2
  rw [←Nat.mod_add_mod,Nat.mod_eq_of_lt h3]
theorem or4 {a b c d:Nat} (ha:a<256) (hb:b<256) (hc:c<256) (hd:d<256) :
  orI .u32 (orI .u32 (orI .u32 (IntKind.wrap .u32 (a:Int)) (shlI .u32 (IntKind.wrap .u32 (b:Int)) (8:Int))) (shlI .u32 (IntKind.wrap .u32 (c:Int)) (16:Int))) (shlI .u32 (IntKind.wrap .u32 (d:Int)) (24:Int))
   = ((a+b*2^8+c*2^16+d*2^24:Nat):Int):=by
 have s:∀x k:Nat,x<256→k≤24→shlI .u32 (IntKind.wrap .u32 (x:Int)) (k:Int)=((x*2^k:Nat):Int):=by
  intro x k hx hk
  rw [wU32 (by omega) (by omega),shlI_u (k := .u32) rfl x k (by simp only [IntKind.bits];omega)]
  simp only [IntKind.bits]
  have h2:2^k≤2^24:=Nat.pow_le_pow_right (by omega) hk
  have h3:x*2^k≤255*2^24:=Nat.mul_le_mul (by omega) h2
  rw [Nat.mod_eq_of_lt (by omega)]
 have s1:shlI .u32 (IntKind.wrap .u32 (b:Int)) (8:Int)=_:=s b 8 hb (by omega)
 have s2:shlI .u32 (IntKind.wrap .u32 (c:Int)) (16:Int)=_:=s c 16 hc (by omega)
 have s3:shlI .u32 (IntKind.wrap .u32 (d:Int)) (24:Int)=_:=s d 24 hd (by omega)
 rw [s1,s2,s3,wU32 (by omega) (by omega)]
 rw [orI_nat (k := .u32) rfl _ _ (by simp only [IntKind.bits];omega) (by simp only [IntKind.bits];omega),or_add (by omega)]
 rw [orI_nat (k := .u32) rfl _ _ (by simp only [IntKind.bits];omega) (by simp only [IntKind.bits];omega),or_add (by omega)]
 rw [orI_nat (k := .u32) rfl _ _ (by simp only [IntKind.bits];omega) (by simp only [IntKind.bits];omega),or_add (by omega)]
theorem or8 {a b c d e f g h:Nat} (ha:a<256) (hb:b<256) (hc:c<256) (hd:d<256) (he:e<256) (hf:f<256) (hg:g<256) (hh:h<256) :
  orI .u64 (orI .u64 (orI .u64 (orI .u64 (orI .u64 (orI .u64 (orI .u64 (IntKind.wrap .u64 (a:Int)) (shlI .u64 (IntKind.wrap .u64 (b:Int)) (8:Int))) (shlI .u64 (IntKind.wrap .u64 (c:Int)) (16:Int))) (shlI .u64 (IntKind.wrap .u64 (d:Int)) (24:Int))) (shlI .u64 (IntKind.wrap .u64 (e:Int)) (32:Int))) (shlI .u64 (IntKind.wrap .u64 (f:Int)) (40:Int))) (shlI .u64 (IntKind.wrap .u64 (g:Int)) (48:Int))) (shlI .u64 (IntKind.wrap .u64 (h:Int)) (56:Int))
   = ((a+b*2^8+c*2^16+d*2^24+e*2^32+f*2^40+g*2^48+h*2^56:Nat):Int):=by
 have s:∀x k:Nat,x<256→k≤56→shlI .u64 (IntKind.wrap .u64 (x:Int)) (k:Int)=((x*2^k:Nat):Int):=by
  intro x k hx hk
  rw [wU64 (by omega) (by omega),shlI_u (k := .u64) rfl x k (by simp only [IntKind.bits];omega)]
  simp only [IntKind.bits]
  have h2:2^k≤2^56:=Nat.pow_le_pow_right (by omega) hk
  have h3:x*2^k≤255*2^56:=Nat.mul_le_mul (by omega) h2
  rw [Nat.mod_eq_of_lt (by omega)]
 have s1:shlI .u64 (IntKind.wrap .u64 (b:Int)) (8:Int)=_:=s b 8 hb (by omega)
 have s2:shlI .u64 (IntKind.wrap .u64 (c:Int)) (16:Int)=_:=s c 16 hc (by omega)
 have s3:shlI .u64 (IntKind.wrap .u64 (d:Int)) (24:Int)=_:=s d 24 hd (by omega)
 have s4:shlI .u64 (IntKind.wrap .u64 (e:Int)) (32:Int)=_:=s e 32 he (by omega)
 have s5:shlI .u64 (IntKind.wrap .u64 (f:Int)) (40:Int)=_:=s f 40 hf (by omega)
 have s6:shlI .u64 (IntKind.wrap .u64 (g:Int)) (48:Int)=_:=s g 48 hg (by omega)
 have s7:shlI .u64 (IntKind.wrap .u64 (h:Int)) (56:Int)=_:=s h 56 hh (by omega)
 rw [s1,s2,s3,s4,s5,s6,s7,wU64 (by omega) (by omega)]
 have st:∀x y k:Nat,x<2^k→y<256→k≤56→orI .u64 (x:Int) ((y*2^k:Nat):Int)=((x+y*2^k:Nat):Int):=by
  intro x y k hx hy hk
  have h2:2^k≤2^56:=Nat.pow_le_pow_right (by omega) hk
  have h3:y*2^k≤255*2^56:=Nat.mul_le_mul (by omega) h2
  rw [orI_nat (k := .u64) rfl _ _ (by simp only [IntKind.bits];omega) (by simp only [IntKind.bits];omega),or_add hx]
 rw [st _ _ 8 (by omega) hb (by omega),st _ _ 16 (by omega) hc (by omega),st _ _ 24 (by omega) hd (by omega),st _ _ 32 (by omega) he (by omega),st _ _ 40 (by omega) hf (by omega),
  st _ _ 48 (by omega) hg (by omega),st _ _ 56 (by omega) hh (by omega)]
theorem le4 {l:List Nat} (o:Nat) (h:By l):l.getD o 0+l.getD (o+1) 0*2^8+l.getD (o+2) 0*2^16+l.getD (o+3) 0*2^24=leN l/2^(8*o)%2^32:=by
 have g0:=leN_get o h
 have g1:=leN_get (o+1) h
 have g2:=leN_get (o+2) h
 have g3:=leN_get (o+3) h
 rw [Nat.pow_add, ←Nat.div_div_eq_div_mul] at g1 g2 g3
 rw [←g0, ←g1, ←g2, ←g3,Nat.pow_mul,show (2:Nat)^8=256 from rfl]
 generalize leN l/256^o=U
 omega
theorem le8 {l:List Nat} (o:Nat) (h:By l):l.getD o 0+l.getD (o+1) 0*2^8+l.getD (o+2) 0*2^16+l.getD (o+3) 0*2^24+l.getD (o+4) 0*2^32+l.getD (o+5) 0*2^40+l.getD (o+6) 0*2^48+l.getD (o+7) 0*2^56=leN l/2^(8*o)%2^64:=by
 have a:=le4 o h
 have b:=le4 (o+4) h
 rw [show 8*(o+4)=8*o+32 by omega,Nat.pow_add, ←Nat.div_div_eq_div_mul,show o+4+1=o+5 from rfl,show o+4+2=o+6 from rfl,show o+4+3=o+7 from rfl] at b
 generalize leN l/2^(8*o)=U at *
 omega
def FS.br4 (s:FS) (i:Sl) (off v r:Nat):FS := { s with bIn:=i,bOff:=off,bVal:=v,bRead:=r }
structure RB (w:World) (b:Nat) (s:FS) (i:Sl) (l:List Nat) (off v r:Nat):Prop where
 blk:Blk w b (s.br4 i off v r).at
 arr:Arr .u8 w i l
 u8:By l
 len:l.length<2^20
 dis:∀a,i.a=some a→l ≠ []→a.block≠b
 of:off≤l.length
 rd:r≤64
 v64:v<2^64
 val:v%2^(64-r)=leN l/2^(8*off)%2^(64-r)
theorem RB.fr {w w':World} {b:Nat} {s:FS} {i:Sl} {l:List Nat} {off v r:Nat} {S:List Nat} (H:RB w b s i l off v r) (F:Fm w w' S) (h1:b∉S) (h2:∀a,i.a=some a→l ≠ []→a.block∉S):RB w' b s i l off v r :=
 ⟨H.blk.fr F h1,H.arr.fr F h2,H.u8,H.len,H.dis,H.of,H.rd,H.v64,H.val⟩
theorem RB.drew {w:World} {b:Nat} {s:FS} {i:Sl} {l:List Nat} {off v r:Nat} (H:RB w b s i l off v r):RB w.drew b s i l off v r :=
 H.fr (Fm.refl w []).drew (by simp) (by simp)
theorem RB.mk' {w w':World} {b:Nat} {s:FS} {i:Sl} {l:List Nat} {off v r off' v' r':Nat} (H:RB w b s i l off v r) (B:Blk w' b (s.br4 i off' v' r').at) (F:Fm w w' [b]) (h1:off'≤l.length) (h2:r'≤64) (h3:v'<2^64)
  (h4:v'%2^(64-r')=leN l/2^(8*off')%2^(64-r')):RB w' b s i l off' v' r' :=
 ⟨B,H.arr.fr F (by intro a ha hl;simpa using H.dis a ha hl),H.u8,H.len,H.dis,h1,h2,h3,h4⟩
theorem and63' {n:Nat} (h:n<256):andI .u8 (n:Int) 63=((n%64:Nat):Int):=by
 have:=andI_nat (k := .u8) rfl n 63 (by simp only [IntKind.bits];omega) (by decide)
 have e:n &&& 63=n%64:=Nat.and_two_pow_sub_one_eq_mod n 6
 rw [e] at this
 exact this
theorem take_val {V v r n o:Nat} (hr:r+n≤64) (hv:v%2^(64-r)=V/2^o%2^(64-r)) :
  v*2^r%2^64/2^(64-n)=V/2^(o+(64-r)-n)%2^n:=by
 have e1:(2:Nat)^64=2^(64-r)*2^r:=by rw [←Nat.pow_add,show 64-r+r=64 by omega]
 have e2:(2:Nat)^(64-n)=2^(64-r-n)*2^r:=by rw [←Nat.pow_add,show 64-r-n+r=64-n by omega]
 rw [e1,Nat.mul_mod_mul_right,e2,Nat.mul_div_mul_right _ _ (Nat.two_pow_pos r),hv]
 rw [show (2:Nat)^(64-r)=2^(64-r-n)*2^n by rw [←Nat.pow_add,show 64-r-n+n=64-r by omega]]
 rw [Nat.mod_mul_right_div_self,Nat.div_div_eq_div_mul, ←Nat.pow_add,show o+(64-r)-n=o+(64-r-n) by omega]
theorem c133 {w:World} {b:Nat} {s:FS} {i:Sl} {l:List Nat} {off v r n:Nat} {K:Int→PT} (H:RB w b s i l off v r) (hn:0<n) (hn2:n≤16) (hr:r+n≤64)
  (hk:∀w',RB w' b s i l off v (r+n)→Fm w w' [b]→K ((tkB l n ((8*off+(64-r):Nat):Int):Nat):Int) w') :
  callP Tryd.prog 133 #[.pointer (some ⟨b,514,none⟩),.int .u8 n] [.c (.I .u16)] K w:=by
 apply q133_ok
 unfold q133 drw
 simp only [add_mk]
 have B:=H.blk.drew
 refine ld_b (t := .I .u64) (x:=(v:Int)) B rfl ?_
 refine ld_b (t := .I .u8) (x:=(r:Int)) B rfl ?_
 have er:andI .u8 (r:Int) 63=(r:Int):=by rw [and63' (by omega),Nat.mod_eq_of_lt (by omega)]
 have en:andI .u8 (IntKind.wrap .u8 ((64:Int)-(n:Int))) 63=((64-n:Nat):Int):=by
  rw [wU8 (by omega) (by omega),show (64:Int)-(n:Int)=((64-n:Nat):Int) by omega,and63' (by omega),Nat.mod_eq_of_lt (by omega)]
 rw [er,en]
 refine ⟨by omega,by omega,?_⟩
 refine ld_b (t := .I .u8) (x:=(r:Int)) B rfl ?_
 rw [wU8 (by omega) (by omega), ←Int.natCast_add]
 refine st_u B rfl rfl ?_
 intro w' B' F'
 have F:Fm w w' [b]:=((Fm.refl w [b]).drew).trans F' (fun x hx => .inl hx)
 have B2:Blk w' b (s.br4 i off v (r+n)).at:=B'.congr (FS.setT 5 rfl rfl rfl (by decide))
 have hv:=take_val hr H.val
 rw [shlI_u (k := .u64) rfl v r (by simp only [IntKind.bits];omega)]
 simp only [IntKind.bits]
 rw [shrI_nat .u64 _ (64-n) (by simp only [IntKind.bits];exact Nat.mod_lt _ (by decide)),hv, ←tkB_val l n _ (by omega)]
 have hlt:=tkB_lt l n ((8*off+(64-r):Nat):Int)
 have hp:2^n≤2^16:=Nat.pow_le_pow_right (by omega) hn2
 rw [wU16 (by omega) (by omega)]
 refine hk w' (H.mk' B2 F H.of hr H.v64 ?_) F
 have e:(2:Nat)^(64-r)=2^(64-(r+n))*2^n:=by rw [←Nat.pow_add,show 64-(r+n)+n=64-r by omega]
 have h1:=H.val
 rw [e] at h1
 have h2:=congrArg (· % 2^(64-(r+n))) h1
 simp only [Nat.mod_mul_right_mod] at h2
 exact h2
theorem c132 {w:World} {b:Nat} {s:FS} {i:Sl} {l:List Nat} {off v r n:Nat} {K:Int→PT} (H:RB w b s i l off v r) (hn2:n≤16) (hr:r+n≤64)
  (hk:∀w',RB w' b s i l off v (r+n)→Fm w w' [b]→K ((tkB l n ((8*off+(64-r):Nat):Int):Nat):Int) w') :
  callP Tryd.prog 132 #[.pointer (some ⟨b,514,none⟩),.int .u8 n] [.c (.I .u16)] K w:=by
 apply q132_ok
 unfold q132
 refine cnd_d ?_ ?_
 ·intro hc
  have:n=0:=by omega
  subst this
  exact hk w H (Fm.refl w _)
 ·intro hc
  simp only [add_mk]
  refine ld_b (t := .I .u8) (x:=(r:Int)) H.blk rfl (cnd_d (fun h=>by omega) fun _ => ?_)
  exact c133 H (by omega) hn2 hr hk
theorem c134 {w:World} {b:Nat} {s:FS} {i:Sl} {l:List Nat} {off v r:Nat} {K:Bool→PT} (H:RB w b s i l off v r)
  (hk:K (decide (8*off+(64-r)=0)) w) :
  callP Tryd.prog 134 #[.pointer (some ⟨b,514,none⟩)] [.c .B] K w:=by
 apply q134_ok
 unfold q134 q134_J0
 have hr:=H.rd
 simp only [add_mk]
 refine joinP_id (ld_b (t := .I .u8) (x:=(r:Int)) H.blk rfl (cnd_d (fun h => ?_) fun h => ?_))
 ·refine ld_b (t := .I .u64) (x:=(off:Int)) H.blk rfl ?_
  rw [show decide ((off:Int)=0)=decide (8*off+(64-r)=0) by
   by_cases h0:off=0
   ·rw [decide_eq_true (by omega),decide_eq_true (by omega)]
   ·rw [decide_eq_false (by omega),decide_eq_false (by omega)]]
  exact hk
 ·rw [show decide (8*off+(64-r)=0)=false from decide_eq_false (by omega)] at hk
  exact hk
theorem nw_x {cs:List Value} {T:TypeId} {κ:Addr→PT} {w:World} (hk:∀p w',Fm w w' []→Blk w' p (fun i=>(⟨cs⟩:Array Value)[i]?)→w.heap.size≤p→κ ⟨p,0,none⟩ w'):nw cs T κ w :=
 hk _ _ (Fm.refl w []).alloc Blk.new (Nat.le_refl _)
theorem c100 {w:World} {s:Sl} {n:Nat} {K:Sl→PT} (hn:n≤s.l) (hk:∀w',Fm w w' []→K ⟨slA s.a n s.c 1,s.l-n,s.c-n⟩ w'):callP Tryd.prog 100 #[.agg ⟨[.slice s.a s.l s.c,.int .i64 n]⟩] [.c .S] K w:=by
 apply q100_ok (r0:=(s,(n:Int)))
 unfold q100
 refine nw_x ?_
 intro p w' F B _
 refine ld_b (x:=s) B rfl ?_
 rw [add_mk]
 refine ld_b (t := .I .i64) (x:=(n:Int)) B rfl ?_
 exact slc_lo rfl hn (hk _ F)
theorem c94 {w:World} {s:Sl} {l:List Nat} {n:Nat} {K:Int→PT} (A:Arr .u8 w s l) (hl:By l) (hn:n+4≤l.length)
  (hk:∀w',Fm w w' []→K ((leN l/2^(8*n)%2^32:Nat):Int) w'):callP Tryd.prog 94 #[.agg ⟨[.slice s.a s.l s.c,.int .i64 n]⟩] [.c (.I .u32)] K w:=by
 apply q94_ok (r0:=(s,(n:Int)))
 unfold q94
 have hsl:=A.len
 refine nw_x ?_
 intro p w' F B _
 refine ld_b (x:=s) B rfl ?_
 rw [add_mk]
 refine ld_b (t := .I .i64) (x:=(n:Int)) B rfl ?_
 refine slc_lo rfl (by omega) ?_
 have hcap:=A.cap
 refine slc_hi (m:=4) rfl (by simp only;omega) ?_
 have A':=A.fr F (by simp)
 have A4:=(A'.drop n (by omega)).take 4 (by simp;omega)
 have hlen:((l.drop n).take 4).length=4:=by simp;omega
 have g:∀k (h:k<((l.drop n).take 4).length),((l.drop n).take 4)[k]=l.getD (n+k) 0:=by
  intro k hk
  rw [hlen] at hk
  simp only [List.getElem_take,List.getElem_drop]
  rw [getD_in (by omega)]
 have lt:∀k,l.getD k 0<256:=by
  intro k
  by_cases hk:k<l.length
  ·rw [getD_in hk];exact hl _ (List.getElem_mem _)
  ·rw [getD_out (by omega)];omega
 refine A4.ldk 3 rfl (by omega) fun p hp=>ld_c (t := .I .u8) hp ?_
 refine A4.ldk 2 rfl (by omega) fun p hp=>ld_c (t := .I .u8) hp ?_
 refine A4.ldk 1 rfl (by omega) fun p hp=>ld_c (t := .I .u8) hp ?_
 refine A4.ldk 0 rfl (by omega) fun p hp=>ld_c (t := .I .u8) hp ?_
 refine ⟨by decide,by decide,by decide,?_⟩
 rw [g,g,g,g,Nat.add_zero,or4 (lt _) (lt _) (lt _) (lt _),le4 n hl]
 exact hk _ F
theorem getD_lt {l:List Nat} (hl:By l) (k:Nat):l.getD k 0<256:=by
 by_cases hk:k<l.length
 ·rw [getD_in hk];exact hl _ (List.getElem_mem _)
 ·rw [getD_out (by omega)];omega
theorem leN_dropR {l:List Nat} (hl:By l) (k:Nat) (hk:k≤l.length):leN (l.drop k)=leN l/2^(8*k):=by
 have h1:leN (l.take k++l.drop k)=leN l:=by rw [List.take_append_drop]
 rw [leN_append] at h1
 have h2:leN (l.take k)<256^(l.take k).length:=leN_lt (fun x hx=>hl x (List.mem_of_mem_take hx))
 rw [List.length_take,Nat.min_eq_left hk] at h1 h2
 rw [Nat.pow_mul,show (2:Nat)^8=256 from rfl, ←h1,Nat.mul_comm,Nat.add_mul_div_right _ _ (Nat.pow_pos (by omega)),Nat.div_eq_of_lt h2,Nat.zero_add]
structure Fil (w:World) (b:Nat) (s:FS) (i:Sl) (l:List Nat) (left:Nat) (w':World) (off v r:Nat):Prop where
 rb:RB w' b s i l off v r
 lf:8*off+(64-r)=left
 fm:Fm w w' [b]
theorem fill4 {w:World} {b:Nat} {s:FS} {i:Sl} {l:List Nat} {off v r:Nat} {K:Unit→PT} (H:RB w b s i l off v r) (ho:4≤off) (hr:32≤r)
  (hk:∀w' v',Fil w b s i l (8*off+(64-r)) w' (off-4) v' (r-32)→K () w') :
  (drw<|ld .S ⟨b,514,none⟩ fun (s3:Sl)=>ld (.I .u64) (Addr.add ⟨b,514,none⟩ 1) fun (n4:Int)=>slc 1 s3 (some (IntKind.wrap .u64 (n4-(4:Int)))) none none fun (s5:Sl)=>slc 1 s5 none (some (4:Int)) none fun (s6:Sl)=>drw<|ixS 1 s6 (0:Int) fun (p7:Addr)=>ld (.I .u8) p7 fun (n8:Int)=>ixS 1 s6 (1:Int) fun (p9:Addr)=>ld (.I .u8) p9 fun (n10:Int)=>req (0≤(8:Int))<|ixS 1 s6 (2:Int) fun (p11:Addr)=>ld (.I .u8) p11 fun (n12:Int)=>req (0≤(16:Int))<|ixS 1 s6 (3:Int) fun (p13:Addr)=>ld (.I .u8) p13 fun (n14:Int)=>req (0≤(24:Int))<|ld (.I .u64) (Addr.add ⟨b,514,none⟩ 2) fun (n15:Int)=>req (0≤(32:Int))<|st (Addr.add ⟨b,514,none⟩ 2) (.int .u64 (orI .u64 (shlI .u64 n15 (32:Int)) (IntKind.wrap .u64 (orI .u32 (orI .u32 (orI .u32 (IntKind.wrap .u32 n8) (shlI .u32 (IntKind.wrap .u32 n10) (8:Int))) (shlI .u32 (IntKind.wrap .u32 n12) (16:Int))) (shlI .u32 (IntKind.wrap .u32 n14) (24:Int))))))<|ld (.I .u8) (Addr.add ⟨b,514,none⟩ 3) fun (n16:Int)=>st (Addr.add ⟨b,514,none⟩ 3) (.int .u8 (IntKind.wrap .u8 (n16-(32:Int))))<|ld (.I .u64) (Addr.add ⟨b,514,none⟩ 1) fun (n17:Int)=>st (Addr.add ⟨b,514,none⟩ 1) (.int .u64 (IntKind.wrap .u64 (n17-(4:Int))))<|K ()) w:=by
 unfold drw
 simp only [add_mk]
 have hlen:=H.len
 have hof:=H.of
 have hrd:=H.rd
 have A:=H.arr
 have hsl:=A.len
 have hcap:=A.cap
 have B:=H.blk.drew
 refine ld_b (t := .S) (x:=i) B rfl ?_
 refine ld_b (t := .I .u64) (x:=(off:Int)) B rfl ?_
 refine slc_lo (n:=off-4) (by rw [wU64 (by omega) (by omega)];omega) (by omega) ?_
 refine slc_hi (m:=4) rfl (by simp only;omega) ?_
 have A':Arr .u8 w.drew.drew i l:=(A.fr (Fm.refl w []).drew (by simp)).fr (Fm.refl _ []).drew (by simp)
 have A4:=(A'.drop (off-4) (by omega)).take 4 (by simp;omega)
 have B2:=B.drew
 have hl4:((l.drop (off-4)).take 4).length=4:=by simp;omega
 have g:∀k (h:k<((l.drop (off-4)).take 4).length),((l.drop (off-4)).take 4)[k]=l.getD (off-4+k) 0:=by
  intro k hk
  rw [hl4] at hk
  simp only [List.getElem_take,List.getElem_drop]
  rw [getD_in (by omega)]
 have lt:=getD_lt H.u8
 refine A4.ldk 0 rfl (by omega) fun p hp=>ld_c (t := .I .u8) hp ?_
 refine A4.ldk 1 rfl (by omega) fun p hp=>ld_c (t := .I .u8) hp ⟨by decide,?_⟩
 refine A4.ldk 2 rfl (by omega) fun p hp=>ld_c (t := .I .u8) hp ⟨by decide,?_⟩
 refine A4.ldk 3 rfl (by omega) fun p hp=>ld_c (t := .I .u8) hp ⟨by decide,?_⟩
 refine ld_b (t := .I .u64) (x:=(v:Int)) B2 rfl ⟨by decide,?_⟩
 rw [g,g,g,g,or4 (lt _) (lt _) (lt _) (lt _),Nat.add_zero,le4 _ H.u8]
 have hx:leN l/2^(8*(off-4))%2^32<2^32:=Nat.mod_lt _ (by decide)
 have hE:=shift_in (leN l) v _ (64-r) 32 (8*(off-4)) rfl (by rw [show 8*(off-4)+32=8*off by omega];exact H.val)
 generalize leN l/2^(8*(off-4))%2^32=x at *
 rw [wU64 (by omega) (by omega)]
 have hS:=shl_or (v:=v) (x:=x) (k:=32) (by omega) hx
 rw [show orI .u64 (shlI .u64 (v:Int) (32:Int)) (x:Int)=_ from hS.1]
 obtain ⟨_,hS2,hS3⟩:=hS
 generalize v*2^32%2^64+x=v' at *
 refine st_u B2 rfl rfl ?_
 intro w2 B3 F3
 have B4:Blk w2 b (s.br4 i off v' r).at:=B3.congr (FS.setT 4 rfl rfl rfl (by decide))
 refine ld_b (t := .I .u8) (x:=(r:Int)) B4 rfl ?_
 rw [wU8 (by omega) (by omega),show (r:Int)-32=((r-32:Nat):Int) by omega]
 refine st_u B4 rfl rfl ?_
 intro w3 B5 F5
 have B6:Blk w3 b (s.br4 i off v' (r-32)).at:=B5.congr (FS.setT 5 rfl rfl rfl (by decide))
 refine ld_b (t := .I .u64) (x:=(off:Int)) B6 rfl ?_
 rw [wU64 (by omega) (by omega),show (off:Int)-4=((off-4:Nat):Int) by omega]
 refine st_u B6 rfl rfl ?_
 intro w4 B7 F7
 have B8:Blk w4 b (s.br4 i (off-4) v' (r-32)).at:=B7.congr (FS.setT 3 rfl rfl rfl (by decide))
 have F:Fm w w4 [b]:=(((Fm.refl w [b]).drew.drew.trans F3 (fun x hx => .inl hx)).trans F5 (fun x hx => .inl hx)).trans F7 (fun x hx => .inl hx)
 refine hk w4 v' ⟨H.mk' B8 F (by omega) (by omega) hS2 ?_,by omega,F⟩
 rw [show 64-(r-32)=64-r+32 by omega,hS3, ←hE]
 rw [show (2:Nat)^64=2^(64-r+32)*2^(r-32) by rw [←Nat.pow_add,show 64-r+32+(r-32)=64 by omega],Nat.mod_mul_right_mod]
theorem c102 {w:World} {b:Nat} {s:FS} {i:Sl} {l:List Nat} {off v r:Nat} {K:Unit→PT} (H:RB w b s i l off v r) (ho:4≤off)
  (hk:∀w' off' v' r',Fil w b s i l (8*off+(64-r)) w' off' v' r'→r'≤32→off≤off'+4→K () w') :
  callP Tryd.prog 102 #[.pointer (some ⟨b,514,none⟩)] [] K w:=by
 apply q102_ok
 unfold q102
 have hr:=H.rd
 refine ld_b (t := .I .u8) (x:=(r:Int)) H.blk rfl (cnd_d (fun h => ?_) fun h => ?_)
 ·exact hk w off v r ⟨H,rfl,Fm.refl w _⟩ (by omega) (by omega)
 ·exact fill4 H ho (by omega) fun w' v' F=>hk w' _ v' _ F (by omega) (by omega)
theorem c107 {w:World} {b:Nat} {s:FS} {i:Sl} {l:List Nat} {off v r:Nat} {K:Unit→PT} (H:RB w b s i l off v r)
  (hk:∀w' off' v' r',Fil w b s i l (8*off+(64-r)) w' off' v' r'→(r'≤32∨off'=0)→K () w') :
  callP Tryd.prog 107 #[.pointer (some ⟨b,514,none⟩)] [] K w:=by
 apply q107_ok
 unfold q107
 have hr:=H.rd
 refine ld_b (t := .I .u8) (x:=(r:Int)) H.blk rfl (cnd_d (fun h => ?_) fun h => ?_)
 ·exact hk w off v r ⟨H,rfl,Fm.refl w _⟩ (.inl (by omega))
 ·refine ld_b (t := .I .u64) (x:=(off:Int)) H.blk rfl (cnd_d (fun ho => ?_) fun ho => ?_)
  ·exact fill4 H (by omega) (by omega) fun w' v' F=>hk w' _ v' _ F (.inl (by omega))
  ·refine ⟨fun _ w'=>∃off' v' r',Fil w b s i l (8*off+(64-r)) w' off' v' r'∧8*off'≤r',fun _ w'=>match w'.cell? ⟨b,515,none⟩ with|some (.int _ x)=>x.toNat|_=>0,⟨off,v,r,⟨H,rfl,Fm.refl w _⟩,by omega⟩,?_⟩
   rintro _ w1 ⟨o1,v1,r1,⟨H1,L1,F1⟩,hr1⟩
   unfold q107_L0
   simp only [add_mk]
   have hrd:=H1.rd
   have hof:=H1.of
   have hlen:=H1.len
   have hsl:=H1.arr.len
   refine ld_b (t := .I .u64) (x:=(o1:Int)) H1.blk rfl (cnd_d (fun hc => ?_) fun hc => ?_)
   ·unfold drw
    have H2:=H1.drew
    refine ld_b (t := .I .u64) (x:=(v1:Int)) H2.blk rfl ⟨by decide,?_⟩
    refine ld_b (t := .S) (x:=i) H2.blk rfl ?_
    refine ld_b (t := .I .u64) (x:=(o1:Int)) H2.blk rfl ?_
    refine H2.arr.ldk (o1-1) (by rw [wU64 (by omega) (by omega)];omega) (by omega) fun p hp=>ld_c (t := .I .u8) hp ?_
    have hb:l[o1-1]=leN l/2^(8*(o1-1))%2^8:=by
     rw [Nat.pow_mul,show (2:Nat)^8=256 from rfl,leN_get _ H.u8,getD_in (by omega)]
    have hE:=shift_in (leN l) v1 l[o1-1] (64-r1) 8 (8*(o1-1)) hb (by rw [show 8*(o1-1)+8=8*o1 by omega];exact H1.val)
    have hx:l[o1-1]<2^8:=by rw [hb];exact Nat.mod_lt _ (by decide)
    generalize l[o1-1]=x at *
    rw [wU64 (by omega) (by omega)]
    have hS:=shl_or (v:=v1) (x:=x) (k:=8) (by omega) hx
    rw [show orI .u64 (shlI .u64 (v1:Int) (8:Int)) (x:Int)=_ from hS.1]
    obtain ⟨_,hS2,hS3⟩:=hS
    generalize v1*2^8%2^64+x=v' at *
    refine st_u H2.blk rfl rfl ?_
    intro w2 B3 F3
    have B4:Blk w2 b (s.br4 i o1 v' r1).at:=B3.congr (FS.setT 4 rfl rfl rfl (by decide))
    refine ld_b (t := .I .u8) (x:=(r1:Int)) B4 rfl ?_
    rw [wU8 (by omega) (by omega),show (r1:Int)-8=((r1-8:Nat):Int) by omega]
    refine st_u B4 rfl rfl ?_
    intro w3 B5 F5
    have B6:Blk w3 b (s.br4 i o1 v' (r1-8)).at:=B5.congr (FS.setT 5 rfl rfl rfl (by decide))
    refine ld_b (t := .I .u64) (x:=(o1:Int)) B6 rfl ?_
    rw [wU64 (by omega) (by omega),show (o1:Int)-1=((o1-1:Nat):Int) by omega]
    refine st_u B6 rfl rfl ?_
    intro w4 B7 F7
    have B8:Blk w4 b (s.br4 i (o1-1) v' (r1-8)).at:=B7.congr (FS.setT 3 rfl rfl rfl (by decide))
    have F:Fm w1 w4 [b]:=(((Fm.refl w1 [b]).drew.trans F3 (fun x hx => .inl hx)).trans F5 (fun x hx => .inl hx)).trans F7 (fun x hx => .inl hx)
    refine ⟨⟨o1-1,v',r1-8,⟨H1.mk' B8 F (by omega) (by omega) hS2 ?_,by omega,F1.trans F (fun x hx => .inl hx)⟩,by omega⟩,?_⟩
    ·rw [show 64-(r1-8)=64-r1+8 by omega,hS3, ←hE]
     rw [show (2:Nat)^64=2^(64-r1+8)*2^(r1-8) by rw [←Nat.pow_add,show 64-r1+8+(r1-8)=64 by omega],Nat.mod_mul_right_mod]
    ·rw [B8.cell,H1.blk.cell]
     show ((o1-1:Nat):Int).toNat<((o1:Nat):Int).toNat
     omega
   ·exact hk w1 o1 v1 r1 ⟨H1,L1,F1⟩ (.inr (by omega))
theorem c155 {w:World} {x:Sl} {m:List Nat} {K:Int→PT} (A:Arr .u8 w x m) (hm:By m) (h8:8≤m.length) (hk:∀w',Fm w w' []→K ((leN m%2^64:Nat):Int) w'):callP Tryd.prog 155 #[.agg ⟨[]⟩,.slice x.a x.l x.c] [.c (.I .u64)] K w:=by
 apply q155_ok (r0:=())
 unfold q155
 refine nw_x ?_
 intro p w' F B _
 have A1:=A.fr F (by simp)
 have lt:=getD_lt hm
 have g:∀k (h:k<m.length),m[k]=m.getD k 0:=fun k h=>(getD_in h).symm
 refine A1.ldk 7 rfl (by omega) fun p hp=>ld_c (t := .I .u8) hp ?_
 unfold drw
 have A2:=A1.fr (Fm.refl w' []).drew (by simp)
 refine A2.ldk 0 rfl (by omega) fun p hp=>ld_c (t := .I .u8) hp ?_
 refine A2.ldk 1 rfl (by omega) fun p hp=>ld_c (t := .I .u8) hp ⟨by decide,?_⟩
 refine A2.ldk 2 rfl (by omega) fun p hp=>ld_c (t := .I .u8) hp ⟨by decide,?_⟩
 refine A2.ldk 3 rfl (by omega) fun p hp=>ld_c (t := .I .u8) hp ⟨by decide,?_⟩
 refine A2.ldk 4 rfl (by omega) fun p hp=>ld_c (t := .I .u8) hp ⟨by decide,?_⟩
 refine A2.ldk 5 rfl (by omega) fun p hp=>ld_c (t := .I .u8) hp ⟨by decide,?_⟩
 refine A2.ldk 6 rfl (by omega) fun p hp=>ld_c (t := .I .u8) hp ⟨by decide,?_⟩
 refine A2.ldk 7 rfl (by omega) fun p hp=>ld_c (t := .I .u8) hp ⟨by decide,?_⟩
 rw [g,g,g,g,g,g,g,g,or8 (lt _) (lt _) (lt _) (lt _) (lt _) (lt _) (lt _) (lt _)]
 have h:=le8 0 hm
 simp only [Nat.zero_add,Nat.mul_zero,Nat.pow_zero,Nat.div_one] at h
 rw [h]
 exact hk _ F.drew
theorem c131 {w:World} {b:Nat} {s:FS} {i:Sl} {l:List Nat} {off v:Nat} {K:Unit→PT} (H:RB w b s i l off v 64) (ho:8≤off)
  (hk:∀w' v',Fil w b s i l (8*off) w' (off-8) v' 0→K () w') :
  callP Tryd.prog 131 #[.pointer (some ⟨b,514,none⟩)] [] K w:=by
 apply q131_ok
 unfold q131 drw ldL
 simp only [add_mk]
 have hlen:=H.len
 have hof:=H.of
 have A:=H.arr
 have hsl:=A.len
 have hcap:=A.cap
 have B:=H.blk.drew
 refine ld_b (t := .S) (x:=i) B rfl ?_
 refine ld_b (t := .I .u64) (x:=(off:Int)) B rfl ?_
 refine slc_lo (n:=off-8) (by rw [wU64 (by omega) (by omega)];omega) (by omega) ?_
 have A':Arr .u8 w.drew i l:=A.fr (Fm.refl w []).drew (by simp)
 refine c155 (A'.drop (off-8) (by omega)) (fun x hx=>H.u8 x (List.mem_of_mem_drop hx)) (by simp;omega) ?_
 intro w2 F2
 rw [leN_dropR H.u8 _ (by omega)]
 have B2:=B.fr F2 (by simp)
 refine st_u B2 rfl rfl ?_
 intro w3 B3 F3
 have B4:Blk w3 b (s.br4 i off (leN l/2^(8*(off-8))%2^64) 64).at:=B3.congr (FS.setT 4 rfl rfl rfl (by decide))
 refine st_u B4 rfl rfl ?_
 intro w4 B5 F5
 have B6:Blk w4 b (s.br4 i off (leN l/2^(8*(off-8))%2^64) 0).at:=B5.congr (FS.setT 5 rfl rfl rfl (by decide))
 refine ld_b (t := .I .u64) (x:=(off:Int)) B6 rfl ?_
 rw [wU64 (by omega) (by omega),show (off:Int)-8=((off-8:Nat):Int) by omega]
 refine st_u B6 rfl rfl ?_
 intro w5 B7 F7
 have B8:Blk w5 b (s.br4 i (off-8) (leN l/2^(8*(off-8))%2^64) 0).at:=B7.congr (FS.setT 3 rfl rfl rfl (by decide))
 have F:Fm w w5 [b]:=(((((Fm.refl w []).drew.trans F2 (by simp)).mono (S' := [b]) (by simp)).trans F3 (fun x hx => .inl hx)).trans F5 (fun x hx => .inl hx)).trans F7 (fun x hx => .inl hx)
 refine hk w5 _ ⟨H.mk' B8 F (by omega) (by omega) (Nat.mod_lt _ (by decide)) ?_,by omega,F⟩
 simp
theorem c99 {w:World} {b:Nat} {s:FS} {i:Sl} {l:List Nat} {left:Nat} {K:Value→PT} (HB:Blk w b s.at) (A:Arr .u8 w i l) (hl:By l) (hlen:l.length<2^20) (hd:∀a,i.a=some a→l ≠ []→a.block≠b)
  (hb:backZ l=some left) (hk:∀w' off v r,Fil w b s i l left w' off v r→(r≤40∨off=0)→K .nilIface w') :
  callP Tryd.prog 99 #[.pointer (some ⟨b,514,none⟩),.slice i.a i.l i.c] [.c .V] K w:=by
 apply q99_ok
 unfold q99
 have hsl:=A.len
 have hne:l ≠ []:=by intro e;subst e;simp [backZ] at hb
 have hpos:=List.length_pos_iff.mpr hne
 have hlast:l.getLast? = some l[l.length-1]:=by rw [List.getLast?_eq_getElem?,List.getElem?_eq_getElem (by omega)]
 unfold backZ at hb
 rw [hlast] at hb
 simp only at hb
 have hx:l[l.length-1]<256:=hl _ (List.getElem_mem _)
 have hx0:l[l.length-1]≠0:=by
  intro e;rw [if_pos e] at hb;cases hb
 rw [if_neg hx0] at hb
 injection hb with hb
 have hlg:(l[l.length-1]).log2<8:=(Nat.log2_lt hx0).mpr hx
 refine cnd_d (fun h=>by omega) fun _ => ?_
 simp only [add_mk]
 refine st_u HB rfl rfl ?_
 intro w1 B1 F1
 have B1':Blk w1 b ({ s with bIn:=i } : FS).at:=B1.congr (FS.setT 2 rfl rfl rfl (by decide))
 rw [wU64 (by omega) (by omega)]
 refine st_u B1' rfl rfl ?_
 intro w2 B2 F2
 have B2':Blk w2 b ({ s with bIn:=i,bOff:=i.l } : FS).at:=B2.congr (FS.setT 3 rfl rfl rfl (by decide))
 have F12:Fm w w2 [b]:=F1.trans F2 (fun x hx => .inl hx)
 have hS:∀a,i.a=some a→l ≠ []→a.block ∉ [b]:=by intro a ha h;simpa using hd a ha h
 have A2:=A.fr F12 hS
 refine A2.ldk (l.length-1) (by rw [wI64 (by omega) (by omega)];omega) (by omega) fun p hp=>ld_c (t := .I .u8) hp ?_
 refine cnd_d (fun h=>by omega) fun _ => ?_
 refine st_u B2' rfl rfl ?_
 intro w3 B3 F3
 have B3':Blk w3 b ({ s with bIn:=i,bOff:=i.l,bRead:=64 } : FS).at:=B3.congr (FS.setT 5 rfl rfl rfl (by decide))
 refine st_u B3' rfl rfl ?_
 intro w4 B4 F4
 have e4:({ s with bIn:=i,bOff:=i.l,bRead:=64,bVal:=0 } : FS)=s.br4 i l.length 0 64:=by unfold FS.br4;rw [hsl];rfl
 have B4':Blk w4 b (s.br4 i l.length 0 64).at:=e4▸B4.congr (FS.setT (s':=({ s with bIn:=i,bOff:=i.l,bRead:=64,bVal:=0 } : FS)) 4 rfl rfl rfl (by decide))
 have F04:Fm w w4 [b]:=(F12.trans F3 (fun x hx => .inl hx)).trans F4 (fun x hx => .inl hx)
 have H4:RB w4 b s i l l.length 0 64:=⟨B4',A.fr F04 hS,hl,hlen,hd,Nat.le_refl _,Nat.le_refl _,by decide,by simp [Nat.mod_one]⟩
 have tail:∀w5 off v r,Fil w b s i l (8*l.length) w5 off v r→r≤56→(r≤32∨off=0)→q99_J0 ⟨b,514,none⟩ K ((l[l.length-1]:Nat):Int) () w5:=by
  intro w5 off v r H5 hr hr2
  unfold q99_J0 drw
  simp only [add_mk]
  have H6:=H5.rb.drew
  refine ld_b (t := .I .u8) (x:=(r:Int)) H6.blk rfl ?_
  rw [wU32 (by omega) (by omega)]
  refine c98 (by omega) (by omega) ?_
  refine ⟨?_,?_⟩
  ·intro f hf
   simp only [List.mem_cons,List.not_mem_nil,or_false] at hf
   subst hf
   exact H6.blk.cell 517
  generalize hg:(l[l.length-1]).log2=gb at *
  rw [wU8 (x:=((gb:Nat):Int)) (by omega) (by omega),wU8 (x:=(8:Int)-_) (by omega) (by omega),wU8 (by omega) (by omega),show (r:Int)+(8-(gb:Int))=((r+(8-gb):Nat):Int) by omega]
  refine st_u H6.blk rfl rfl ?_
  intro w7 B7 F7
  have B7':Blk w7 b (s.br4 i off v (r+(8-gb))).at:=B7.congr (FS.setT 5 rfl rfl rfl (by decide))
  have hrd:=H5.rb.rd
  have hlf:=H5.lf
  refine hk w7 off v (r+(8-gb)) ⟨H6.mk' B7' F7 H6.of (by omega) H6.v64 ?_,by omega,(H5.fm.drew).trans F7 (fun x hx => .inl hx)⟩ (by omega)
  have e:(2:Nat)^(64-r)=2^(64-(r+(8-gb)))*2^(8-gb):=by rw [←Nat.pow_add,show 64-(r+(8-gb))+(8-gb)=64-r by omega]
  have h1:=H6.val
  rw [e] at h1
  have h2:=congrArg (· % 2^(64-(r+(8-gb)))) h1
  simp only [Nat.mod_mul_right_mod] at h2
  exact h2
 refine joinP_id (cnd_d (fun h8 => ?_) fun h8 => ?_)
 ·refine c131 H4 (by omega) ?_
  intro w5 v' H5
  exact tail w5 _ v' 0 ⟨H5.rb,H5.lf,F04.trans H5.fm (fun x hx => .inl hx)⟩ (by omega) (by omega)
 ·refine c107 H4 ?_
  intro w5 o5 v5 r5 H5 h5
  refine c107 H5.rb ?_
  intro w6 o6 v6 r6 H6 h6
  have l5:=H5.lf
  have l6:=H6.lf
  have r6:=H6.rb.rd
  refine tail w6 o6 v6 _ ⟨H6.rb,by omega,(F04.trans H5.fm (fun x hx => .inl hx)).trans H6.fm (fun x hx => .inl hx)⟩ ?_ h6
  omega
theorem c108 {w:World} {b:Nat} {s:FS} {i:Sl} {l:List Nat} {off v r:Nat} {K:Value→PT} (H:RB w b s i l off v r)
  (hk:∀w',Blk w' b (s.br4 ⟨none,0,0⟩ off v r).at→Fm w w' [b]→K .nilIface w') :
  callP Tryd.prog 108 #[.pointer (some ⟨b,514,none⟩)] [.c .V] K w:=by
 apply q108_ok
 unfold q108
 have hr:=H.rd
 refine st_u H.blk rfl rfl ?_
 intro w2 B2 F2
 have B2':Blk w2 b (s.br4 ⟨none,0,0⟩ off v r).at:=B2.congr (FS.setT 2 rfl rfl rfl (by decide))
 simp only [add_mk]
 refine ld_b (t := .I .u8) (x:=(r:Int)) B2' rfl (cnd_d (fun h=>by omega) fun _=>hk w2 B2' F2)
def dcC (x b:Nat) (dt:Sl):Cells:=fun i=>match i with
 | 0=>some (.int .u16 x)
 | 1=>some (.pointer (some ⟨b,514,none⟩))
 | 2=>some dt.val
 | _=>none
theorem dcC0 (x y b:Nat) (dt:Sl):updC (dcC x b dt) 0 (.int .u16 (y:Nat))=dcC y b dt:=by
 funext i;rcases i with _|_|_|i<;>simp [updC,dcC]
structure DT (w:World) (dt:Sl) (tb:Nat) (tab:List Cell3):Prop where
 eq:dt.a=some ⟨tb,0,none⟩
 len:dt.l=tab.length
 blk:∃f,Blk w tb f∧∀i (h:i<tab.length),f (i*3)=some (.int .u16 tab[i].2.2)∧f (i*3+1)=some (.int .u8 (tab[i].1:Nat))∧f (i*3+2)=some (.int .u8 (tab[i].2.1:Nat))
theorem DT.fr {w w':World} {dt:Sl} {tb:Nat} {tab:List Cell3} {S:List Nat} (H:DT w dt tb tab) (F:Fm w w' S) (h:tb∉S):DT w' dt tb tab:=by
 obtain ⟨f,B,hf⟩:=H.blk
 exact ⟨H.eq,H.len,f,B.fr F h,hf⟩
theorem c101 {w:World} {b d:Nat} {s:FS} {i:Sl} {l:List Nat} {off v r T:Nat} {dt:Sl} {f:Cells} {K:Unit→PT} (H:RB w b s i l off v r) (hd:Blk w d f) (hf0:(f 0).isSome) (hf1:(f 1).isSome) (hf2:(f 2).isSome) (hf3:∀i,3≤i→f i=none) (hdb:d≠b) (hdi:∀a,i.a=some a→l ≠ []→a.block≠d)
  (hT:T≤16) (hr:r+T≤64)
  (hk:∀w',RB w' b s i l off v (r+T)→Blk w' d (dcC (tkB l T ((8*off+(64-r):Nat):Int)) b dt)→Fm w w' [b,d]→K () w') :
  callP Tryd.prog 101 #[.pointer (some ⟨d,0,none⟩),.pointer (some ⟨b,514,none⟩),.slice dt.a dt.l dt.c,.int .u8 T] [] K w:=by
 apply q101_ok
 unfold q101
 simp only [add_mk,Nat.zero_add]
 refine st_u hd hf2 rfl ?_
 intro w1 B1 F1
 refine st_u B1 (by unfold updC;rw [if_neg (by decide)];exact hf1) rfl ?_
 intro w2 B2 F2
 have F02:Fm w w2 [d]:=F1.trans F2 (fun x hx => .inl hx)
 refine c132 (H.fr F02 (by simp;exact fun e=>hdb e.symm) (by intro a ha h;simpa using hdi a ha h)) hT hr ?_
 intro w3 H3 F3
 have B3:=B2.fr F3 (by simpa using hdb)
 refine st_u B3 (by unfold updC;rw [if_neg (by decide),if_neg (by decide)];exact hf0) rfl ?_
 intro w4 B4 F4
 refine hk w4 (H3.fr F4 (by simp;exact fun e=>hdb e.symm) (by intro a ha h;simpa using hdi a ha h)) (B4.congr ?_) ?_
 ·funext j
  rcases j with _|_|_|j
  ·simp [updC,dcC]
  ·simp [updC,dcC]
  ·simp [updC,dcC,Sl.val]
  ·simp [updC,dcC];exact hf3 _ (by omega)
 ·exact ((F02.mono (S' := [b,d]) (by intro x hx;left;simp at hx;simp [hx])).trans F3 (by intro x hx;left;simp at hx;simp [hx])).trans F4 (by intro x hx;left;simp at hx;simp [hx])
structure DS (w:World) (b d tb:Nat) (s:FS) (i:Sl) (l:List Nat) (off v r:Nat) (dt:Sl) (tab:List Cell3) (x:Nat):Prop where
 rb:RB w b s i l off v r
 dc:Blk w d (dcC x b dt)
 dt:DT w dt tb tab
 db:d≠b
 tbb:tb≠b
 tbd:tb≠d
 di:∀a,i.a=some a→l ≠ []→a.block≠d
theorem c106 {w:World} {b d tb:Nat} {s:FS} {i:Sl} {l:List Nat} {off v r:Nat} {dt:Sl} {tab:List Cell3} {x:Nat} {K:Int→PT} (hd:Blk w d (dcC x b dt)) (ht:DT w dt tb tab) (hx:x<tab.length) (hk:∀w',Fm w w' []→K (tab[x].1:Nat) w') :
  callP Tryd.prog 106 #[.pointer (some ⟨d,0,none⟩)] [.c (.I .u8)] K w:=by
 apply q106_ok
 unfold q106 drw
 simp only [add_mk,Nat.zero_add]
 refine ld_b (t := .S) (x:=dt) hd.drew rfl ?_
 refine ld_b (t := .I .u16) (x:=(x:Int)) hd.drew rfl ?_
 obtain ⟨f,B,hf⟩:=ht.blk
 refine ixS_b ht.eq rfl (by rw [ht.len];exact hx) ?_
 simp only [add_mk,Nat.zero_add]
 refine ld_b (t := .I .u8) (x:=((tab[x].1:Nat):Int)) B.drew (hf x hx).2.1 ?_
 exact hk _ (Fm.refl w []).drew
theorem c105 {w:World} {b d tb:Nat} {s:FS} {i:Sl} {l:List Nat} {off v r:Nat} {dt:Sl} {tab:List Cell3} {x:Nat} {K:Bool→PT} (H:DS w b d tb s i l off v r dt tab x) (hx:x<tab.length)
  (hk:∀w',Fm w w' []→K (decide (8*off+(64-r)=0)&&decide (0<tab[x].2.1)) w') :
  callP Tryd.prog 105 #[.pointer (some ⟨d,0,none⟩)] [.c .B] K w:=by
 apply q105_ok
 unfold q105 q105_J0 drw
 simp only [add_mk,Nat.zero_add]
 refine joinP_id ?_
 refine ld_b (t := .P) (x:=some ⟨b,514,none⟩) H.dc.drew rfl ?_
 refine c134 H.rb.drew ?_
 by_cases h0:8*off+(64-r)=0
 ·rw [decide_eq_true h0] at hk ⊢
  refine ⟨fun _ => ?_,fun h=>by simp at h⟩
  refine ld_b (t := .S) (x:=dt) H.dc.drew rfl ?_
  refine ld_b (t := .I .u16) (x:=(x:Int)) H.dc.drew rfl ?_
  obtain ⟨f,B,hf⟩:=H.dt.blk
  refine ixS_b H.dt.eq rfl (by rw [H.dt.len];exact hx) ?_
  simp only [add_mk,Nat.zero_add]
  refine ld_b (t := .I .u8) (x:=((tab[x].2.1:Nat):Int)) B.drew (hf x hx).2.2 ?_
  have:=hk _ (Fm.refl w []).drew
  rw [show decide ((0:Int)<((tab[x].2.1:Nat):Int))=(true&&decide (0<tab[x].2.1)) by
   by_cases hz:0<tab[x].2.1
   ·rw [decide_eq_true (by omega),decide_eq_true hz];rfl
   ·rw [decide_eq_false (by omega),decide_eq_false hz];rfl]
  exact this
 ·rw [decide_eq_false h0] at hk ⊢
  refine ⟨fun h=>by simp at h,fun _ => ?_⟩
  exact hk _ (Fm.refl w []).drew
theorem DS.step {w w':World} {b d tb:Nat} {s:FS} {i:Sl} {l:List Nat} {off v r:Nat} {dt:Sl} {tab:List Cell3} {x y r':Nat} (H:DS w b d tb s i l off v r dt tab x) (F:Fm w w' [b,d]) (R:RB w' b s i l off v r') (D:Blk w' d (dcC y b dt)) :
  DS w' b d tb s i l off v r' dt tab y :=
 ⟨R,D,H.dt.fr F (by simp;exact ⟨H.tbb,H.tbd⟩),H.db,H.tbb,H.tbd,H.di⟩
theorem c104 {w:World} {b d tb:Nat} {s:FS} {i:Sl} {l:List Nat} {off v r:Nat} {dt:Sl} {tab:List Cell3} {x y:Nat} {K:Int→PT} (H:DS w b d tb s i l off v r dt tab x) (hx:x<tab.length) (hn:tab[x].2.1≤16) (hr:r+tab[x].2.1≤64)
  (hy:tab[x].2.2+(tkB l tab[x].2.1 ((8*off+(64-r):Nat):Int):Nat)=(y:Nat)) (hy2:y<65536)
  (hk:∀w',DS w' b d tb s i l off v (r+tab[x].2.1) dt tab y→Fm w w' [b,d]→K (tab[x].1:Nat) w') :
  callP Tryd.prog 104 #[.pointer (some ⟨d,0,none⟩)] [.c (.I .u8)] K w:=by
 apply q104_ok
 unfold q104 drw
 simp only [add_mk,Nat.zero_add]
 refine ld_b (t := .S) (x:=dt) H.dc.drew rfl ?_
 refine ld_b (t := .I .u16) (x:=(x:Int)) H.dc.drew rfl ?_
 refine ixS_b H.dt.eq rfl (by rw [H.dt.len];exact hx) ?_
 simp only [add_mk,Nat.zero_add]
 refine ld_b (t := .P) (x:=some ⟨b,514,none⟩) H.dc.drew.drew rfl ?_
 obtain ⟨f,B,hf⟩:=H.dt.blk
 obtain ⟨f0,f1,f2⟩:=hf x hx
 refine ld_b (t := .I .u8) (x:=((tab[x].2.1:Nat):Int)) B.drew.drew f2 ?_
 refine c132 H.rb.drew.drew hn hr ?_
 intro w2 H2 F2
 have F02:Fm w w2 [b]:=((Fm.refl w [b]).drew.drew).trans F2 (fun x hx => .inl hx)
 have B2:=B.fr F02 (by simpa using H.tbb)
 refine ld_b (t := .I .u16) (x:=tab[x].2.2) B2 f0 ?_
 rw [hy,wU16 (by omega) (by omega)]
 have D2:=H.dc.fr F02 (by simpa using H.db)
 refine st_u D2 rfl rfl ?_
 intro w3 B3 F3
 rw [dcC0] at B3
 have F03:Fm w w3 [b,d]:=(F02.mono (S' := [b,d]) (by intro x hx;left;simp at hx;simp [hx])).trans F3 (by intro x hx;left;simp at hx;simp [hx])
 have B4:=B2.fr F3 (by simpa using H.tbd)
 refine ld_b (t := .I .u8) (x:=((tab[x].1:Nat):Int)) B4 f1 ?_
 exact hk w3 (H.step F03 (H2.fr F3 (by simp;exact fun e=>H.db e.symm) (by intro a ha h;simpa using H.di a ha h)) B3) F03
theorem c103 {w:World} {b d tb:Nat} {s:FS} {i:Sl} {l:List Nat} {off v r:Nat} {dt:Sl} {tab:List Cell3} {x y:Nat} {K:Int→PT} (H:DS w b d tb s i l off v r dt tab x) (hx:x<tab.length) (hn0:0<tab[x].2.1) (hn:tab[x].2.1≤16) (hr:r+tab[x].2.1≤64)
  (hy:tab[x].2.2+(tkB l tab[x].2.1 ((8*off+(64-r):Nat):Int):Nat)=(y:Nat)) (hy2:y<65536)
  (hk:∀w',DS w' b d tb s i l off v (r+tab[x].2.1) dt tab y→Fm w w' [b,d]→K (tab[x].1:Nat) w') :
  callP Tryd.prog 103 #[.pointer (some ⟨d,0,none⟩)] [.c (.I .u8)] K w:=by
 apply q103_ok
 unfold q103 drw
 simp only [add_mk,Nat.zero_add]
 refine ld_b (t := .S) (x:=dt) H.dc.drew rfl ?_
 refine ld_b (t := .I .u16) (x:=(x:Int)) H.dc.drew rfl ?_
 refine ixS_b H.dt.eq rfl (by rw [H.dt.len];exact hx) ?_
 obtain ⟨f,B,hf⟩:=H.dt.blk
 obtain ⟨f0,f1,f2⟩:=hf x hx
 unfold ldL ldL ldL
 simp only [add_mk,Nat.zero_add]
 refine ld_b (t := .I .u16) (x:=tab[x].2.2) B.drew f0 ?_
 refine ld_b (t := .I .u8) (x:=((tab[x].1:Nat):Int)) B.drew f1 ?_
 refine ld_b (t := .I .u8) (x:=((tab[x].2.1:Nat):Int)) B.drew f2 ?_
 refine nw_x ?_
 intro p w1 F1 B1 hp
 have F01:Fm w w1 []:=(Fm.refl w []).drew.trans F1 (by simp)
 have hlt:=B.lt
 have hlt2:=H.dc.lt
 have hlt3:=H.rb.blk.lt
 have hp:w.heap.size≤p:=hp
 refine ⟨?_,?_⟩
 ·have Bt:=B.fr F01 (by simp)
  have Bd:=H.dc.fr F01 (by simp)
  intro g hg
  simp only [List.mem_cons,List.not_mem_nil,or_false] at hg
  rcases hg with rfl|rfl|rfl|rfl|rfl
  ·exact (Bt.cell _).trans f0
  ·exact (Bt.cell _).trans f1
  ·exact (Bt.cell _).trans f2
  ·exact Bd.cell 0
  ·exact Bd.cell 2
 unfold stL stL stL stL
 simp only [add_mk,Nat.zero_add]
 refine st_u B1 rfl rfl ?_
 intro w2 B2 F2
 refine st_u B2 rfl rfl ?_
 intro w3 B3 F3
 refine st_u B3 rfl rfl ?_
 intro w4 B4 F4
 have F04:Fm w w4 []:=((F01.trans F2 (by intro x hx;right;simp at hx;omega)).trans F3 (by intro x hx;right;simp at hx;omega)).trans F4 (by intro x hx;right;simp at hx;omega)
 have F05:Fm w w4.drew []:=F04.drew
 have B5:=B4.drew
 have D5:=H.dc.fr F05 (by simp)
 refine ld_b (t := .P) (x:=some ⟨b,514,none⟩) D5 rfl ?_
 refine ld_b (t := .I .u8) (x:=((tab[x].2.1:Nat):Int)) B5 rfl ?_
 refine c133 (H.rb.fr F05 (by simp) (by simp)) hn0 hn hr ?_
 intro w6 H6 F6
 have B6:=B5.fr F6 (by simp;omega)
 refine ld_b (t := .I .u16) (x:=tab[x].2.2) B6 rfl ?_
 rw [hy,wU16 (by omega) (by omega)]
 have D6:=D5.fr F6 (by simpa using H.db)
 refine st_u D6 rfl rfl ?_
 intro w7 B7 F7
 rw [dcC0] at B7
 have F06:Fm w w6 [b]:=(F05.mono (S' := [b]) (by simp)).trans F6 (fun x hx => .inl hx)
 have F07:Fm w w7 [b,d]:=(F06.mono (S' := [b,d]) (by intro x hx;left;simp at hx;simp [hx])).trans F7 (by intro x hx;left;simp at hx;simp [hx])
 have B8:=B6.fr F7 (by simp;omega)
 refine ld_b (t := .I .u8) (x:=((tab[x].1:Nat):Int)) B8 rfl ?_
 exact hk w7 (H.step F07 (H6.fr F7 (by simp;exact fun e=>H.db e.symm) (by intro a ha h;simpa using H.di a ha h)) B7) F07
inductive WhZ (l:List Nat) (tab:List Cell3):Nat→Nat→Nat→Prop
 | fin (a b:Nat) (h:a<tab.length) (hb:b<tab.length):0<tab[a].2.1→WhZ l tab 0 a b
 | step (left a b y:Nat) (h:a<tab.length) (hb:b<tab.length):0<tab[a].2.1→tab[a].2.1≤left→tab[a].2.2+(tkB l tab[a].2.1 (left:Int):Nat)=(y:Nat)→y<tab.length→WhZ l tab (left-tab[a].2.1) b y→WhZ l tab left a b
structure TW (l:List Nat) (tab:List Cell3) (lim left a c:Nat) (pre R:List Nat):Prop where
 two:twoZ l tab lim (left:Int) a c pre=some R
 wh:WhZ l tab left a c
theorem WhZ.lt {l:List Nat} {tab:List Cell3} {left a b:Nat} (h:WhZ l tab left a b):a<tab.length∧b<tab.length:=by
 cases h with
 | fin _ _ h1 h2 _=>exact ⟨h1,h2⟩
 | step _ _ _ _ h1 h2=>exact ⟨h1,h2⟩
theorem WhZ.pos {l:List Nat} {tab:List Cell3} {left a b:Nat} (H:WhZ l tab left a b) (h:a<tab.length):0<tab[a].2.1:=by
 cases H with
 | fin _ _ _ _ h=>exact h
 | step _ _ _ _ _ _ h=>exact h
theorem TW.step {l:List Nat} {tab:List Cell3} {lim left a c:Nat} {pre R:List Nat} (H:TW l tab lim left a c pre R) (h0:0<left) :
  ∃(h:a<tab.length) (y:Nat),0<tab[a].2.1∧tab[a].2.1≤left∧tab[a].2.2+(tkB l tab[a].2.1 (left:Int):Nat)=(y:Nat)∧y<tab.length∧TW l tab lim (left-tab[a].2.1) c y (pre ++ [tab[a].1%256]) R:=by
 obtain ⟨h1,h2⟩:=H
 cases h2 with
 | fin=>omega
 | step _ _ _ y h hb p1 p2 p3 p4 p5 =>
  refine ⟨h,y,p1,p2,p3,p4,?_,p5⟩
  rw [twoZ] at h1
  split at h1
  ·cases h1
  ·rw [List.getElem?_eq_getElem h] at h1
   simp only at h1
   rw [if_neg (by omega),if_neg (by omega),p3,Int.toNat_natCast] at h1
   rw [show ((left-tab[a].2.1:Nat):Int)=(left:Int)-(tab[a].2.1:Nat) by omega]
   exact h1
theorem TW.fin {l:List Nat} {tab:List Cell3} {lim a c:Nat} {pre R:List Nat} (H:TW l tab lim 0 a c pre R) :
  ∃(h:a<tab.length) (hc:c<tab.length),0<tab[a].2.1∧R=pre ++ [tab[a].1%256] ++ [tab[c].1%256]∧R.length≤lim:=by
 obtain ⟨h1,h2⟩:=H
 have hlt:=h2.lt
 have hp:0<tab[a].2.1:=by
  cases h2 with
  | fin _ _ _ _ h=>exact h
  | step _ _ _ y h hb p1 p2 p3 p4 p5=>omega
 refine ⟨hlt.1,hlt.2,hp,?_⟩
 rw [twoZ] at h1
 split at h1
 ·cases h1
 ·rw [List.getElem?_eq_getElem hlt.1,List.getElem?_eq_getElem hlt.2] at h1
  simp only at h1
  rw [if_pos (by omega)] at h1
  split at h1
  ·cases h1
  ·injection h1 with h1
   subst h1
   exact ⟨rfl,by simp;omega⟩
theorem twoZ_len (l:List Nat) (tab:List Cell3) (lim:Nat) (left:Int) (a c:Nat) (pre R:List Nat) (h:twoZ l tab lim left a c pre=some R):pre.length+2≤R.length∧R.length≤lim:=by
 fun_induction twoZ l tab lim left a c pre
 all_goals first
  | (cases h;done)
  | (injection h with h;subst h;simp only [List.length_append,List.length_cons,List.length_nil];omega)
  | (rename_i ih;have:=ih h;simp only [List.length_append,List.length_cons,List.length_nil] at this;omega)
theorem TW.len {l:List Nat} {tab:List Cell3} {lim left a c:Nat} {pre R:List Nat} (H:TW l tab lim left a c pre R):pre.length+2≤R.length∧R.length≤lim:=twoZ_len _ _ _ _ _ _ _ _ H.two
structure TabB (tab:List Cell3):Prop where
 len:tab.length≤64
 sym:∀i (h:i<tab.length),tab[i].1<256
 bit:∀i (h:i<tab.length),tab[i].2.1≤6
structure DW (w:World) (b d1 d2 tb:Nat) (s:FS) (i:Sl) (l:List Nat) (dt:Sl) (tab:List Cell3) (R:List Nat) (off v r a c:Nat) (pre:List Nat):Prop where
 rb:RB w b s i l off v r
 c1:Blk w d1 (dcC a b dt)
 c2:Blk w d2 (dcC c b dt)
 dt:DT w dt tb tab
 tw:TW l tab 255 (8*off+(64-r)) a c pre R
 tB:TabB tab
 n1:d1≠b
 n2:d2≠b
 n12:d1≠d2
 nt:tb≠b∧tb≠d1∧tb≠d2
 ni:∀a,i.a=some a→l ≠ []→a.block≠d1∧a.block≠d2
theorem DW.fr {w w':World} {b d1 d2 tb:Nat} {s:FS} {i:Sl} {l:List Nat} {dt:Sl} {tab:List Cell3} {R:List Nat} {off v r a c:Nat} {pre:List Nat} {S:List Nat} (H:DW w b d1 d2 tb s i l dt tab R off v r a c pre) (F:Fm w w' S)
  (h1:b∉S) (h2:d1∉S) (h3:d2∉S) (h4:tb∉S) (h5:∀a,i.a=some a→l ≠ []→a.block∉S):DW w' b d1 d2 tb s i l dt tab R off v r a c pre :=
 ⟨H.rb.fr F h1 h5,H.c1.fr F h2,H.c2.fr F h3,H.dt.fr F h4,H.tw,H.tB,H.n1,H.n2,H.n12,H.nt,H.ni⟩
theorem DW.fil {w w':World} {b d1 d2 tb:Nat} {s:FS} {i:Sl} {l:List Nat} {dt:Sl} {tab:List Cell3} {R:List Nat} {off v r a c off' v' r':Nat} {pre:List Nat} (H:DW w b d1 d2 tb s i l dt tab R off v r a c pre) (F:Fil w b s i l (8*off+(64-r)) w' off' v' r') :
  DW w' b d1 d2 tb s i l dt tab R off' v' r' a c pre :=
 ⟨F.rb,H.c1.fr F.fm (by simpa using H.n1),H.c2.fr F.fm (by simpa using H.n2),H.dt.fr F.fm (by simpa using H.nt.1),by rw [F.lf];exact H.tw,H.tB,H.n1,H.n2,H.n12,H.nt,H.ni⟩
theorem DW.ds1 {w:World} {b d1 d2 tb:Nat} {s:FS} {i:Sl} {l:List Nat} {dt:Sl} {tab:List Cell3} {R:List Nat} {off v r a c:Nat} {pre:List Nat} (H:DW w b d1 d2 tb s i l dt tab R off v r a c pre) :
  DS w b d1 tb s i l off v r dt tab a:=⟨H.rb,H.c1,H.dt,H.n1,H.nt.1,H.nt.2.1,fun x hx hl=>(H.ni x hx hl).1⟩
theorem DW.step {w:World} {b d1 d2 tb:Nat} {s:FS} {i:Sl} {l:List Nat} {dt:Sl} {tab:List Cell3} {R:List Nat} {off v r a c:Nat} {pre:List Nat} (H:DW w b d1 d2 tb s i l dt tab R off v r a c pre) (h0:0<8*off+(64-r)) (hr:r+6≤64∨off=0) {K:Int→PT}
  (hk:∀w' x r' y,x<256→DW w' b d2 d1 tb s i l dt tab R off v r' c y (pre ++ [x])→r'≤r+6→8*off+(64-r')<8*off+(64-r)→Fm w w' [b,d1]→K (x:Nat) w') :
  callP Tryd.prog 103 #[.pointer (some ⟨d1,0,none⟩)] [.c (.I .u8)] K w∧callP Tryd.prog 104 #[.pointer (some ⟨d1,0,none⟩)] [.c (.I .u8)] K w:=by
 obtain ⟨ha,y,p1,p2,p3,p4,p5⟩:=H.tw.step h0
 have hb6:=H.tB.bit a ha
 have hs:=H.tB.sym a ha
 have hl:=H.tB.len
 have hrd:=H.rb.rd
 have hr2:r+tab[a].2.1≤64:=by omega
 have go:∀w',DS w' b d1 tb s i l off v (r+tab[a].2.1) dt tab y→Fm w w' [b,d1]→K (tab[a].1:Nat) w':=by
  intro w' D F
  rw [Nat.mod_eq_of_lt hs] at p5
  refine hk w' tab[a].1 (r+tab[a].2.1) y hs ⟨D.rb,H.c2.fr F ?_,D.dc,D.dt,?_,H.tB,H.n2,H.n1,fun e=>H.n12 e.symm,⟨H.nt.1,H.nt.2.2,H.nt.2.1⟩,fun x hx hl=>⟨(H.ni x hx hl).2,(H.ni x hx hl).1⟩⟩ (by omega) (by omega) F
  ·simp;exact ⟨H.n2,fun e=>H.n12 e.symm⟩
  ·rw [show 8*off+(64-(r+tab[a].2.1))=8*off+(64-r)-tab[a].2.1 by omega];exact p5
 exact ⟨c103 H.ds1 ha p1 (by omega) hr2 p3 (by omega) go,c104 H.ds1 ha (by omega) hr2 p3 (by omega) go⟩
def hwC (G:Cells) (o:Nat) (f:Nat→Int):Cells:=fun j=>if o≤j∧j<o+256 then some (.int .u8 (f (j-o))) else G j
def OA (w:World) (g o:Nat) (G:Cells) (out:List Nat):Prop:=∃f:Nat→Int,Blk w g (hwC G o f)∧∀i (h:i<out.length),f i=(out[i]:Nat)
theorem OA.fr {w w':World} {g o:Nat} {G:Cells} {out:List Nat} {S:List Nat} (H:OA w g o G out) (F:Fm w w' S) (h:g∉S):OA w' g o G out:=by
 obtain ⟨f,B,hf⟩:=H;exact ⟨f,B.fr F h,hf⟩
theorem app_oa {w:World} {g o n:Nat} {G:Cells} {out ys:List Nat} {x:Sl} {κ:Sl→PT} (H:OA w g o G out) (hx:Has 1 w x (bytes .u8 ys)) (hn:out.length+ys.length≤256) (hn':n=out.length)
  (hk:∀w',OA w' g o G (out++ys)→Fm w w' [g]→κ ⟨some ⟨g,o,none⟩,(out++ys).length,256⟩ w'):app z5 5 1 ⟨some ⟨g,o,none⟩,n,256⟩ x κ w:=by
 subst hn'
 obtain ⟨f,B,hf⟩:=H
 have hxl:x.l=ys.length:=by have:=hx.len;simpa [bytes] using this.symm
 refine ⟨by rw [hxl];simp only;omega,fun _ => ?_,fun h=>by simp only at h;omega⟩
 refine ⟨bytes .u8 ys,hx.len,hx.get,hx.non,hx.one,?_⟩
 simp only [add_mk,show (z5:List Value).length=1 from rfl,Nat.mul_one]
 have hs:∀i,i<(bytes .u8 ys).length→(hwC G o f (o+out.length+i)).isSome:=by
  intro i hi
  simp only [bytes,List.length_map] at hi
  unfold hwC;rw [if_pos (by omega)];rfl
 refine ⟨fun i hi=>canSt_b B (hs i hi),?_⟩
 have B2:=B.setL (o:=o+out.length) (xs:=bytes .u8 ys) hs
 have F2:Fm w (setL w ⟨g,o+out.length,none⟩ 0 (bytes .u8 ys)) [g]:=(Fm.refl w [g]).setL (.inl (by simp))
 have e:(⟨some ⟨g,o,none⟩,out.length+x.l,256⟩:Sl)=⟨some ⟨g,o,none⟩,(out++ys).length,256⟩:=by rw [hxl,List.length_append]
 rw [e]
 refine hk _ ⟨fun i=>if out.length≤i∧i<out.length+ys.length then (ys.getD (i-out.length) 0:Nat) else f i,B2.congr ?_,?_⟩ F2
 ·funext j
  unfold updL hwC
  simp only [bytes,List.length_map]
  by_cases h1:o+out.length≤j∧j<o+out.length+ys.length
  ·rw [if_pos h1,if_pos (by omega),if_pos (by omega),List.getElem?_map,List.getElem?_eq_getElem (by omega),getD_in (by omega)]
   have:j-(o+out.length)=j-o-out.length:=by omega
   simp only [this,Option.map_some]
  ·rw [if_neg h1]
   by_cases h2:o≤j∧j<o+256
   ·rw [if_pos h2,if_pos h2,if_neg (by omega)]
   ·rw [if_neg h2,if_neg h2]
 ·intro i hi
  rw [List.length_append] at hi
  simp only
  by_cases h1:out.length≤i
  ·rw [if_pos (by omega),List.getElem_append_right h1,getD_in (by omega)]
  ·rw [if_neg (by omega),List.getElem_append_left (by omega),hf i (by omega)]
def oS (g o n:Nat):Sl:=⟨some ⟨g,o,none⟩,n,256⟩
def FS.wo (s:FS) (g o n:Nat):FS := { s with out:=oS g o n }
structure Ap (b d1 d2 tb g ts:Nat) (i:Sl) (l:List Nat):Prop where
 gb:g≠b
 g1:g≠d1
 g2:g≠d2
 gt:g≠tb
 gts:g≠ts
 tsb:ts≠b
 ts1:ts≠d1
 ts2:ts≠d2
 tst:ts≠tb
 gi:∀a,i.a=some a→l ≠ []→a.block≠g∧a.block≠ts
theorem Ap.sw {b d1 d2 tb g ts:Nat} {i:Sl} {l:List Nat} (A:Ap b d1 d2 tb g ts i l):Ap b d2 d1 tb g ts i l :=
 ⟨A.gb,A.g2,A.g1,A.gt,A.gts,A.tsb,A.ts2,A.ts1,A.tst,A.gi⟩
theorem put_out {w:World} {b d1 d2 tb g o ts k:Nat} {s:FS} {i:Sl} {l:List Nat} {dt:Sl} {tab:List Cell3} {R:List Nat} {off v r a c:Nat} {pre out:List Nat} (ys:List Nat) {G:Cells} {κ:PT} (hkl:k=ys.length)
  (H:DW w b d1 d2 tb (s.wo g o out.length) i l dt tab R off v r a c pre) (HO:OA w g o G out) (A:Ap b d1 d2 tb g ts i l) (hn:out.length+ys.length≤256)
  (hk:∀w',DW w' b d1 d2 tb (s.wo g o (out++ys).length) i l dt tab R off v r a c pre→OA w' g o G (out++ys)→Fm w w' [b,g]→κ w') :
  (nw (bytes .u8 ys) 5 fun p=>kp [(⟨b,526,none⟩,.slice (oS g o out.length).a (oS g o out.length).l (oS g o out.length).c)]<|app z5 5 1 (oS g o out.length) ⟨some p,k,k⟩ fun s'=>st ⟨b,526,none⟩ (.slice s'.a s'.l s'.c)<|κ) w:=by
 subst hkl
 refine nw_x ?_
 intro p w1 F1 B1 hp
 have H1:=H.fr F1 (by simp) (by simp) (by simp) (by simp) (by simp)
 refine ⟨?_,?_⟩
 ·intro f hf
  simp only [List.mem_cons,List.not_mem_nil,or_false] at hf
  subst hf
  exact H1.rb.blk.cell 526
 ·refine app_oa (HO.fr F1 (by simp)) (ys:=ys) ⟨by simp [bytes],?_,(fun h=>by cases h),?_⟩ hn rfl ?_
  ·intro q hq j hj
   injection hq with hq
   subst hq
   rw [add_mk,Nat.zero_add,B1.cell]
   simp
  ·intro x hx
   simp only [bytes,List.mem_map] at hx
   obtain ⟨y,_,rfl⟩:=hx
   rfl
  ·intro w2 HO2 F2
   have hgi:∀a,i.a=some a→l ≠ []→a.block ∉ [g]:=by intro a ha hl;simpa using (A.gi a ha hl).1
   have H2:=H1.fr F2 (by simp;exact fun e=>A.gb e.symm) (by simp;exact fun e=>A.g1 e.symm) (by simp;exact fun e=>A.g2 e.symm) (by simp;exact fun e=>A.gt e.symm) hgi
   refine st_u H2.rb.blk rfl rfl ?_
   intro w3 B3 F3
   have B3':Blk w3 b ((s.wo g o (out++ys).length).br4 i off v r).at:=B3.congr (FS.setT 14 rfl rfl rfl (by decide))
   have hbi:∀a,i.a=some a→l ≠ []→a.block ∉ [b]:=by intro a ha hl;simpa using H.rb.dis a ha hl
   have R3:RB w3 b (s.wo g o (out++ys).length) i l off v r:=⟨B3',H2.rb.arr.fr F3 hbi,H2.rb.u8,H2.rb.len,H2.rb.dis,H2.rb.of,H2.rb.rd,H2.rb.v64,H2.rb.val⟩
   refine hk w3 ⟨R3,H2.c1.fr F3 (by simpa using H.n1),H2.c2.fr F3 (by simpa using H.n2),H2.dt.fr F3 (by simpa using H.nt.1),H.tw,H.tB,H.n1,H.n2,H.n12,H.nt,H.ni⟩ (HO2.fr F3 (by simpa using A.gb)) ?_
   exact ((F1.mono (S' := [b,g]) (by simp)).trans F2 (by intro x hx;left;simp at hx;simp [hx])).trans F3 (by intro x hx;left;simp at hx;simp [hx])
theorem d80_J3 {w:World} {b:Nat} {s:FS} {i:Sl} {l:List Nat} {off v r:Nat} {K:Value→PT} (H:RB w b s i l off v r)
  (hk:∀w',Blk w' b (s.br4 ⟨none,0,0⟩ off v r).at→Fm w w' [b]→K .nilIface w'):q80_J3 ⟨b,0,none⟩ K () w:=by
 unfold q80_J3
 simp only [add_mk,Nat.zero_add]
 exact c108 H hk
theorem d80_L2 {w w0:World} {b d1 d2 tb g o ts q:Nat} {s:FS} {i:Sl} {l:List Nat} {dt:Sl} {tab:List Cell3} {R:List Nat} {off v r a c:Nat} {pre:List Nat} {G:Cells} {K:Value→PT}
  (H:DW w b d1 d2 tb (s.wo g o pre.length) i l dt tab R off v r a c pre) (HO:OA w g o G pre) (A:Ap b d1 d2 tb g ts i l) (hlim:s.lim=255) (F0:Fm w0 w [b,d1,d2,g,q])
  (hk:∀w' off' v' r',Blk w' b ((s.wo g o R.length).br4 ⟨none,0,0⟩ off' v' r').at→OA w' g o G R→Fm w0 w' [b,d1,d2,g,q]→K .nilIface w') :
  joinP (fun R57=>loopP () (q80_L2 ⟨b,0,none⟩ K ⟨d1,0,none⟩ ⟨d2,0,none⟩ R57)) (q80_J3 ⟨b,0,none⟩ K) w:=by
 refine joinP_id ?_
 refine ⟨fun _ w'=>∃off v r a c pre,DW w' b d1 d2 tb (s.wo g o pre.length) i l dt tab R off v r a c pre∧OA w' g o G pre∧Fm w0 w' [b,d1,d2,g,q],
  fun _ w'=>match w'.cell? ⟨b,526,none⟩ with|some (.slice _ n _)=>256-n|_=>0,⟨off,v,r,a,c,pre,H,HO,F0⟩,?_⟩
 clear H HO F0
 rintro _ w1 ⟨off,v,r,a,c,pre,H,HO,F0⟩
 have hlen:=H.tw.len
 unfold q80_L2
 simp only [add_mk,Nat.zero_add]
 have hlt:=H.tw.wh.lt
 refine c105 H.ds1 hlt.1 ?_
 intro w2 F2
 have H2:=H.fr F2 (by simp) (by simp) (by simp) (by simp) (by simp)
 have HO2:=HO.fr F2 (by simp)
 have F02:Fm w0 w2 [b,d1,d2,g,q]:=F0.trans F2 (by simp)
 have last:∀ {w3:World} {e1 e2 off v r a c:Nat} {pre:List Nat} ,(e1=d1∧e2=d2∨e1=d2∧e2=d1)→DW w3 b e1 e2 tb (s.wo g o pre.length) i l dt tab R off v r a c pre→OA w3 g o G pre→Fm w0 w3 [b,d1,d2,g,q]→8*off+(64-r)=0 →
   (drw<|ld .S ⟨b,526,none⟩ fun (s61:Sl)=>callP Tryd.prog 106 #[(.pointer (some ⟨e1,0,none⟩))] [.c (.I .u8)] fun (r62:Int)=>kp [(⟨b,526,none⟩,(.slice s61.a s61.l s61.c))]<|callP Tryd.prog 106 #[(.pointer (some ⟨e2,0,none⟩))] [.c (.I .u8)] fun (r63:Int)=>kp [(⟨b,526,none⟩,(.slice s61.a s61.l s61.c))]<|nw [(.int .u8 r62),(.int .u8 r63)] 5 fun (p64:Addr)=>kp [(⟨b,526,none⟩,(.slice s61.a s61.l s61.c))]<|app z5 5 1 s61 ⟨(some p64),2,2⟩ fun (s65:Sl)=>st ⟨b,526,none⟩ (.slice s65.a s65.l s65.c)<|q80_J3 ⟨b,0,none⟩ K ()) w3:=by
  intro w3 e1 e2 off v r a c pre he H HO F0 h0
  have A':Ap b e1 e2 tb g ts i l:=by rcases he with ⟨rfl,rfl⟩|⟨rfl,rfl⟩;exact A;exact A.sw
  have hlen:=H.tw.len
  have htw:=H.tw
  rw [h0] at htw
  obtain ⟨ha,hc,p1,p2,p3⟩:=htw.fin
  rw [Nat.mod_eq_of_lt (H.tB.sym a ha),Nat.mod_eq_of_lt (H.tB.sym c hc),List.append_assoc] at p2
  unfold drw
  have F4:=(Fm.refl w3 []).drew
  have H4:=H.fr F4 (by simp) (by simp) (by simp) (by simp) (by simp)
  have HO4:=HO.fr F4 (by simp)
  refine ld_b (t := .S) (x:=oS g o pre.length) H4.rb.blk rfl ?_
  refine c106 (b:=b) (s:=s) (i:=i) (l:=l) (off:=off) (v:=v) (r:=r) H4.c1 H4.dt ha ?_
  intro w5 F5
  have H5:=H4.fr F5 (by simp) (by simp) (by simp) (by simp) (by simp)
  have HO5:=HO4.fr F5 (by simp)
  refine ⟨by intro f hf;simp only [List.mem_cons,List.not_mem_nil,or_false] at hf;subst hf;exact H5.rb.blk.cell 526,?_⟩
  refine c106 (b:=b) (s:=s) (i:=i) (l:=l) (off:=off) (v:=v) (r:=r) H5.c2 H5.dt hc ?_
  intro w6 F6
  have H6:=H5.fr F6 (by simp) (by simp) (by simp) (by simp) (by simp)
  have HO6:=HO5.fr F6 (by simp)
  refine ⟨by intro f hf;simp only [List.mem_cons,List.not_mem_nil,or_false] at hf;subst hf;exact H6.rb.blk.cell 526,?_⟩
  have F06:Fm w0 w6 [b,d1,d2,g,q]:=((F0.trans F4 (by simp)).trans F5 (by simp)).trans F6 (by simp)
  refine put_out [tab[a].1,tab[c].1] rfl H6 HO6 A' (by simp;omega) ?_
  intro w7 H7 HO7 F7
  have F07:Fm w0 w7 [b,d1,d2,g,q]:=F06.trans F7 (by intro x hx;left;simp at hx;rcases hx with rfl|rfl<;>simp)
  have e:pre ++ [tab[a].1,tab[c].1]=R:=by rw [p2];rfl
  rw [e] at H7 HO7
  refine d80_J3 H7.rb ?_
  intro w8 B8 F8
  exact hk w8 _ _ _ B8 (HO7.fr F8 (by simpa using A.gb)) (F07.trans F8 (by intro x hx;left;simp at hx;subst hx;simp))
 by_cases h0:8*off+(64-r)=0
 ·have htw:=H.tw
  rw [h0] at htw
  obtain ⟨ha,hc,p1,p2,p3⟩:=htw.fin
  rw [decide_eq_true h0,decide_eq_true p1]
  exact ⟨fun _=>last (.inl ⟨rfl,rfl⟩) H2 HO2 F02 h0,fun h=>by simp at h⟩
 ·rw [decide_eq_false h0]
  refine ⟨fun h=>by simp at h,fun _ => ?_⟩
  refine c107 H2.rb ?_
  intro w3 o3 v3 r3 H3f h3r
  have H3:=H2.fil H3f
  have l3:=H3f.lf
  have HO3:=HO2.fr H3f.fm (by simpa using A.gb)
  have F03:Fm w0 w3 [b,d1,d2,g,q]:=F02.trans H3f.fm (by intro x hx;left;simp at hx;subst hx;simp)
  unfold drw
  have F4:=(Fm.refl w3 []).drew
  have H4:=H3.fr F4 (by simp) (by simp) (by simp) (by simp) (by simp)
  have HO4:=HO3.fr F4 (by simp)
  refine ld_b (t := .S) (x:=oS g o pre.length) H4.rb.blk rfl ?_
  refine (H4.step (by omega) (by omega) ?_).2
  intro w5 x r5 y hx H5 hr5 hl5 F5
  have hsub:∀z ∈ [b,d1],z ∈ [b,d1,d2,g,q]∨w0.heap.size≤z:=by intro z hz;left;simp at hz;rcases hz with rfl|rfl<;>simp
  have F05:Fm w0 w5 [b,d1,d2,g,q]:=(F03.trans F4 (by simp)).trans F5 hsub
  have HO5:=HO4.fr F5 (by simp;exact ⟨A.gb,A.g1⟩)
  refine ⟨by intro f hf;simp only [List.mem_cons,List.not_mem_nil,or_false] at hf;subst hf;exact H5.rb.blk.cell 526,?_⟩
  have hlen5:=H5.tw.len
  simp only [List.length_append,List.length_cons,List.length_nil] at hlen5
  refine put_out [x] rfl H5 HO5 A.sw (by simp;omega) ?_
  intro w6 H6 HO6 F6
  have F06:Fm w0 w6 [b,d1,d2,g,q]:=F05.trans F6 (by intro x hx;left;simp at hx;rcases hx with rfl|rfl<;>simp)
  have hlt6:=H6.tw.wh.lt
  refine c105 H6.ds1 hlt6.1 ?_
  intro w7 F7
  have H7:=H6.fr F7 (by simp) (by simp) (by simp) (by simp) (by simp)
  have HO7:=HO6.fr F7 (by simp)
  have F07:Fm w0 w7 [b,d1,d2,g,q]:=F06.trans F7 (by simp)
  by_cases h7:8*o3+(64-r5)=0
  ·have htw:=H7.tw
   rw [h7] at htw
   obtain ⟨ha,hc,p1,p2,p3⟩:=htw.fin
   rw [decide_eq_true h7,decide_eq_true p1]
   exact ⟨fun _=>last (.inr ⟨rfl,rfl⟩) H7 HO7 F07 h7,fun h=>by simp at h⟩
  ·rw [decide_eq_false h7]
   refine ⟨fun h=>by simp at h,fun _ => ?_⟩
   have F8:=(Fm.refl w7 []).drew
   have H8:=H7.fr F8 (by simp) (by simp) (by simp) (by simp) (by simp)
   have HO8:=HO7.fr F8 (by simp)
   refine ld_b (t := .S) (x:=oS g o (pre ++ [x]).length) H8.rb.blk rfl ?_
   have hbig:r5+6≤64∨o3=0:=by
    rcases h3r with h|h
    ·left;omega
    ·exact .inr h
   refine (H8.step (by omega) hbig ?_).2
   intro w9 x9 r9 y9 hx9 H9 hr9 hl9 F9
   have F09:Fm w0 w9 [b,d1,d2,g,q]:=(F07.trans F8 (by simp)).trans F9 (by intro z hz;left;simp at hz;rcases hz with rfl|rfl<;>simp)
   have HO9:=HO8.fr F9 (by simp;exact ⟨A.gb,A.g2⟩)
   refine ⟨by intro f hf;simp only [List.mem_cons,List.not_mem_nil,or_false] at hf;subst hf;exact H9.rb.blk.cell 526,?_⟩
   have hlen9:=H9.tw.len
   simp only [List.length_append,List.length_cons,List.length_nil] at hlen9
   refine put_out [x9] rfl H9 HO9 A (by simp;omega) ?_
   intro w10 H10 HO10 F10
   have F010:Fm w0 w10 [b,d1,d2,g,q]:=F09.trans F10 (by intro x hx;left;simp at hx;rcases hx with rfl|rfl<;>simp)
   have F11:=(Fm.refl w10 []).drew
   have H11:=H10.fr F11 (by simp) (by simp) (by simp) (by simp) (by simp)
   have HO11:=HO10.fr F11 (by simp)
   refine ld_b (t := .S) (x:=oS g o (pre ++ [x] ++ [x9]).length) H11.rb.blk rfl ?_
   refine ld_b (t := .I .i64) (x:=255) H11.rb.blk (by show some (Value.int .i64 s.lim)=_;rw [hlim];rfl) ?_
   refine cnd_d (fun h => ?_) fun _ => ?_
   ·exfalso
    simp only [oS,List.length_append,List.length_cons,List.length_nil] at h
    omega
   ·refine ⟨⟨_,_,_,_,_,_,H11,HO11,F010.trans F11 (by simp)⟩,?_⟩
    rw [show w10.drew.cell? ⟨b,526,none⟩=_ from H11.rb.blk.cell 526,show w1.cell? ⟨b,526,none⟩=_ from H.rb.blk.cell 526]
    show 256-(pre ++ [x] ++ [x9]).length<256-pre.length
    simp only [List.length_append,List.length_cons,List.length_nil]
    omega
def TM (w:World) (ts:Nat) (pre:List Nat):Prop:=∃f:Cells,Blk w ts f∧(∀i (h:i<pre.length),f i=some (.int .u8 (pre[i]:Nat)))∧∀i,i<256→(f i).isSome
theorem TM.fr {w w':World} {ts:Nat} {pre:List Nat} {S:List Nat} (H:TM w ts pre) (F:Fm w w' S) (h:ts∉S):TM w' ts pre:=by
 obtain ⟨f,B,h1,h2⟩:=H;exact ⟨f,B.fr F h,h1,h2⟩
theorem TM.put {w:World} {ts n j c x:Nat} {pre:List Nat} {i:Int} {κ:PT} (H:TM w ts pre) (hi:i=((pre.length:Nat):Int)) (hp:pre.length<256)
  (hk:∀w',TM w' ts (pre ++ [x])→Fm w w' [ts]→κ w'):ixS 1 ⟨some ⟨ts,0,none⟩,256,c⟩ i (fun p=>st p (.int .u8 (x:Nat)) κ) w:=by
 obtain ⟨f,B,h1,h2⟩:=H
 refine ixS_o hi hp ?_
 rw [Nat.zero_add]
 refine st_u B (h2 _ hp) rfl ?_
 intro w' B' F'
 refine hk w' ⟨_,B',?_,?_⟩ F'
 ·intro k hk
  simp only [List.length_append,List.length_cons,List.length_nil] at hk
  unfold updC
  by_cases e:k=pre.length
  ·subst e;simp
  ·rw [if_neg e,List.getElem_append_left (by omega)];exact h1 k (by omega)
 ·intro k hk
  unfold updC
  split
  ·rfl
  ·exact h2 k hk
theorem d80_J4 {w w0:World} {b d1 d2 tb g o ts cc:Nat} {s:FS} {i:Sl} {l:List Nat} {dt:Sl} {tab:List Cell3} {R:List Nat} {off v r a c:Nat} {pre:List Nat} {G:Cells} {K:Value→PT}
  (H:DW w b d1 d2 tb (s.wo g o 0) i l dt tab R off v r a c pre) (HO:OA w g o G []) (HT:TM w ts pre) (A:Ap b d1 d2 tb g ts i l) (hlim:s.lim=255) (hcc:256≤cc) (F0:Fm w0 w [b,d1,d2,g,ts])
  (hk:∀w' off' v' r',Blk w' b ((s.wo g o R.length).br4 ⟨none,0,0⟩ off' v' r').at→OA w' g o G R→TM w' ts []→Fm w0 w' [b,d1,d2,g,ts]→K .nilIface w') :
  q80_J4 ⟨b,0,none⟩ K ⟨d1,0,none⟩ ⟨d2,0,none⟩ ⟨some ⟨ts,0,none⟩,256,cc⟩ ((pre.length:Nat):Int) w:=by
 unfold q80_J4 drw
 simp only [add_mk,Nat.zero_add]
 have hlen:=H.tw.len
 have F1:=(Fm.refl w []).drew
 have H1:=H.fr F1 (by simp) (by simp) (by simp) (by simp) (by simp)
 have HO1:=HO.fr F1 (by simp)
 have HT1:=HT.fr F1 (by simp)
 refine ld_b (t := .S) (x:=oS g o 0) H1.rb.blk rfl ?_
 refine slc_hi (m:=pre.length) rfl (by simp only;omega) ?_
 obtain ⟨f,B,h1,h2⟩:=HT1
 refine app_oa HO1 (ys:=pre) ⟨by simp [bytes],?_,(fun h=>by cases h),?_⟩ (by simp;omega) rfl ?_
 ·intro q hq j hj
  injection hq with hq
  subst hq
  simp only [bytes,List.length_map] at hj
  rw [add_mk,Nat.zero_add,B.cell,h1 j hj]
  simp [bytes,hj]
 ·intro x hx
  simp only [bytes,List.mem_map] at hx
  obtain ⟨y,_,rfl⟩:=hx
  rfl
 ·intro w2 HO2 F2
  rw [List.nil_append] at HO2 ⊢
  have hgi:∀a,i.a=some a→l ≠ []→a.block ∉ [g]:=by intro a ha hl;simpa using (A.gi a ha hl).1
  have H2:=H1.fr F2 (by simp;exact fun e=>A.gb e.symm) (by simp;exact fun e=>A.g1 e.symm) (by simp;exact fun e=>A.g2 e.symm) (by simp;exact fun e=>A.gt e.symm) hgi
  refine st_u H2.rb.blk rfl rfl ?_
  intro w3 B3 F3
  have B3':Blk w3 b ((s.wo g o pre.length).br4 i off v r).at:=B3.congr (FS.setT 14 rfl rfl rfl (by decide))
  have hbi:∀a,i.a=some a→l ≠ []→a.block ∉ [b]:=by intro a ha hl;simpa using H.rb.dis a ha hl
  have R3:RB w3 b (s.wo g o pre.length) i l off v r:=⟨B3',H2.rb.arr.fr F3 hbi,H2.rb.u8,H2.rb.len,H2.rb.dis,H2.rb.of,H2.rb.rd,H2.rb.v64,H2.rb.val⟩
  have H3:DW w3 b d1 d2 tb (s.wo g o pre.length) i l dt tab R off v r a c pre:=⟨R3,H2.c1.fr F3 (by simpa using H.n1),H2.c2.fr F3 (by simpa using H.n2),H2.dt.fr F3 (by simpa using H.nt.1),H.tw,H.tB,H.n1,H.n2,H.n12,H.nt,H.ni⟩
  refine d80_L2 (q:=b) H3 (HO2.fr F3 (by simpa using A.gb)) A hlim (Fm.refl w3 _) ?_
  intro w' off' v' r' B' O' F'
  have HT3:TM w3 ts []:=⟨f,(B.fr F2 (by simpa using A.gts.symm)).fr F3 (by simpa using A.tsb),by simp,h2⟩
  refine hk w' off' v' r' B' O' (HT3.fr F' (by simp;exact ⟨A.tsb,A.ts1,A.ts2,A.gts.symm,A.tsb⟩)) ?_
  exact (((F0.trans F1 (by simp)).trans F2 (by intro x hx;left;simp at hx;simp [hx])).trans F3 (by intro x hx;left;simp at hx;simp [hx])).trans F' (by intro x hx;left;simp at hx;rcases hx with rfl|rfl|rfl|rfl|rfl<;>simp)
theorem d80_L0 {w w0:World} {b d1 d2 tb g o ts cc:Nat} {s:FS} {i:Sl} {l:List Nat} {dt:Sl} {tab:List Cell3} {R:List Nat} {off v r a c:Nat} {G:Cells} {K:Value→PT}
  (H:DW w b d1 d2 tb (s.wo g o 0) i l dt tab R off v r a c []) (HO:OA w g o G []) (HT:TM w ts []) (A:Ap b d1 d2 tb g ts i l) (hlim:s.lim=255) (hcc:256≤cc) (F0:Fm w0 w [b,d1,d2,g,ts])
  (hk:∀w' off' v' r',Blk w' b ((s.wo g o R.length).br4 ⟨none,0,0⟩ off' v' r').at→OA w' g o G R→TM w' ts []→Fm w0 w' [b,d1,d2,g,ts]→K .nilIface w') :
  loopP (0:Int) (q80_L0 ⟨b,0,none⟩ K ⟨d1,0,none⟩ ⟨d2,0,none⟩ ⟨some ⟨ts,0,none⟩,256,cc⟩ (q80_J4 ⟨b,0,none⟩ K ⟨d1,0,none⟩ ⟨d2,0,none⟩ ⟨some ⟨ts,0,none⟩,256,cc⟩)) w:=by
 refine ⟨fun x w'=>∃off v r a c pre,x=((pre.length:Nat):Int)∧DW w' b d1 d2 tb (s.wo g o 0) i l dt tab R off v r a c pre∧OA w' g o G []∧TM w' ts pre∧Fm w0 w' [b,d1,d2,g,ts],
  fun x _=>256-x.toNat,⟨off,v,r,a,c,[],rfl,H,HO,HT,F0⟩,?_⟩
 clear H HO HT F0
 rintro _ w1 ⟨off,v,r,a,c,pre,rfl,H,HO,HT,F0⟩
 have hlen:=H.tw.len
 unfold q80_L0
 simp only [add_mk,Nat.zero_add]
 refine ld_b (t := .I .u64) (x:=(off:Int)) H.rb.blk rfl (cnd_d (fun h8 => ?_) fun _ => ?_)
 ·have sb:∀ {w2 w3:World},Fm w0 w2 [b,d1,d2,g,ts]→Fm w2 w3 [b]→Fm w0 w3 [b,d1,d2,g,ts]:=fun F1 F2=>F1.trans F2 (by intro x hx;left;simp at hx;simp [hx])
  have s1:∀ {w2 w3:World},Fm w0 w2 [b,d1,d2,g,ts]→Fm w2 w3 [b,d1]→Fm w0 w3 [b,d1,d2,g,ts]:=fun F1 F2=>F1.trans F2 (by intro x hx;left;simp at hx;rcases hx with rfl|rfl<;>simp)
  have s2:∀ {w2 w3:World},Fm w0 w2 [b,d1,d2,g,ts]→Fm w2 w3 [b,d2]→Fm w0 w3 [b,d1,d2,g,ts]:=fun F1 F2=>F1.trans F2 (by intro x hx;left;simp at hx;rcases hx with rfl|rfl<;>simp)
  have st:∀ {w2 w3:World},Fm w0 w2 [b,d1,d2,g,ts]→Fm w2 w3 [ts]→Fm w0 w3 [b,d1,d2,g,ts]:=fun F1 F2=>F1.trans F2 (by intro x hx;left;simp at hx;simp [hx])
  have hti:∀a,i.a=some a→l ≠ []→a.block ∉ [ts]:=by intro a ha hl;simpa using (A.gi a ha hl).2
  have tD:∀ {w2 w3:World} {e1 e2 off v r a c:Nat} {pre:List Nat},(e1=d1∧e2=d2∨e1=d2∧e2=d1)→DW w2 b e1 e2 tb (s.wo g o 0) i l dt tab R off v r a c pre→Fm w2 w3 [ts]→DW w3 b e1 e2 tb (s.wo g o 0) i l dt tab R off v r a c pre:=by
   intro w2 w3 e1 e2 off v r a c pre he H F
   refine H.fr F (by simp;exact fun e=>A.tsb e.symm) ?_ ?_ (by simp;exact fun e=>A.tst e.symm) hti
   ·rcases he with ⟨rfl,rfl⟩|⟨rfl,rfl⟩<;>simp
    ·exact fun e=>A.ts1 e.symm
    ·exact fun e=>A.ts2 e.symm
   ·rcases he with ⟨rfl,rfl⟩|⟨rfl,rfl⟩<;>simp
    ·exact fun e=>A.ts2 e.symm
    ·exact fun e=>A.ts1 e.symm
  have o1:g ∉ [b,d1]:=by simp;exact ⟨A.gb,A.g1⟩
  have o2:g ∉ [b,d2]:=by simp;exact ⟨A.gb,A.g2⟩
  have ot:g ∉ [ts]:=by simpa using A.gts
  have t1:ts ∉ [b,d1]:=by simp;exact ⟨A.tsb,A.ts1⟩
  have t2:ts ∉ [b,d2]:=by simp;exact ⟨A.tsb,A.ts2⟩
  have hl0:=H.rb.rd
  refine c102 H.rb (by omega) ?_
  intro w2 o2' v2 r2 H2f hr2 ho2
  have H2:=H.fil H2f
  have l2:=H2f.lf
  have F2:=sb F0 H2f.fm
  refine (H2.step (by omega) (by omega) ?_).1
  intro w3 x3 r3 y3 hx3 H3 hr3 hl3 F3'
  have F3:=s1 F2 F3'
  have n3:=H3.tw.len
  simp only [List.length_append,List.length_cons,List.length_nil] at n3
  refine ((HT.fr H2f.fm (by simpa using A.tsb)).fr F3' t1).put (n:=0) (j:=0) (by rw [wU8 (by omega) (by omega)];omega) (by omega) ?_
  intro w4 HT4 F4'
  have F4:=st F3 F4'
  have H4:=tD (.inr ⟨rfl,rfl⟩) H3 F4'
  refine (H4.step (by omega) (by omega) ?_).1
  intro w5 x5 r5 y5 hx5 H5 hr5 hl5 F5'
  have F5:=s2 F4 F5'
  have n5:=H5.tw.len
  simp only [List.length_append,List.length_cons,List.length_nil] at n5
  refine (HT4.fr F5' t2).put (n:=0) (j:=0) (by rw [wU8 (by omega) (by omega)];simp) (by simp;omega) ?_
  intro w6 HT6 F6'
  have F6:=st F5 F6'
  have H6:=tD (.inl ⟨rfl,rfl⟩) H5 F6'
  refine c102 H6.rb (by omega) ?_
  intro w7 o7 v7 r7 H7f hr7 ho7
  have H7:=H6.fil H7f
  have l7:=H7f.lf
  have F7:=sb F6 H7f.fm
  refine (H7.step (by omega) (by omega) ?_).1
  intro w8 x8 r8 y8 hx8 H8 hr8 hl8 F8'
  have F8:=s1 F7 F8'
  have n8:=H8.tw.len
  simp only [List.length_append,List.length_cons,List.length_nil] at n8
  refine ((HT6.fr H7f.fm (by simpa using A.tsb)).fr F8' t1).put (n:=0) (j:=0) (by rw [wU8 (by omega) (by omega)];simp) (by simp;omega) ?_
  intro w9 HT9 F9'
  have F9:=st F8 F9'
  have H9:=tD (.inr ⟨rfl,rfl⟩) H8 F9'
  refine (H9.step (by omega) (by omega) ?_).1
  intro w10 x10 r10 y10 hx10 H10 hr10 hl10 F10'
  have F10:=s2 F9 F10'
  have n10:=H10.tw.len
  simp only [List.length_append,List.length_cons,List.length_nil] at n10
  refine (HT9.fr F10' t2).put (n:=0) (j:=0) (by rw [wU8 (by omega) (by omega)];simp) (by simp;omega) ?_
  intro w11 HT11 F11'
  have F11:=st F10 F11'
  have H11:=tD (.inl ⟨rfl,rfl⟩) H10 F11'
  have e4:IntKind.u8.wrap (((pre.length:Nat):Int)+4)=(((pre ++ [x3] ++ [x5] ++ [x8] ++ [x10]).length:Nat):Int):=by
   rw [wU8 (by omega) (by omega)];simp
  rw [e4]
  refine cnd_d (fun h => ?_) fun _ => ?_
  ·exfalso;simp at h;omega
  ·have HO11:=((((((((HO.fr H2f.fm (by simpa using A.gb)).fr F3' o1).fr F4' ot).fr F5' o2).fr F6' ot).fr H7f.fm (by simpa using A.gb)).fr F8' o1).fr F9' ot).fr F10' o2 |>.fr F11' ot
   refine ⟨⟨_,_,_,_,_,_,rfl,H11,HO11,HT11,F11⟩,?_⟩
   rw [Int.toNat_natCast,Int.toNat_natCast]
   simp;omega
 ·exact d80_J4 H HO HT A hlim hcc F0 hk
theorem d80_L1 {w w0:World} {b d1 d2 tb g o ts cc:Nat} {s:FS} {i:Sl} {l:List Nat} {dt:Sl} {tab:List Cell3} {R:List Nat} {off v r a c:Nat} {G:Cells} {K:Value→PT}
  (H:DW w b d1 d2 tb (s.wo g o 0) i l dt tab R off v r a c []) (HO:OA w g o G []) (HT:TM w ts []) (A:Ap b d1 d2 tb g ts i l) (hlim:s.lim=255) (hcc:256≤cc) (F0:Fm w0 w [b,d1,d2,g,ts])
  (hk:∀w' off' v' r',Blk w' b ((s.wo g o R.length).br4 ⟨none,0,0⟩ off' v' r').at→OA w' g o G R→TM w' ts []→Fm w0 w' [b,d1,d2,g,ts]→K .nilIface w') :
  loopP (0:Int) (q80_L1 ⟨b,0,none⟩ K ⟨d1,0,none⟩ ⟨d2,0,none⟩ ⟨some ⟨ts,0,none⟩,256,cc⟩ (q80_J4 ⟨b,0,none⟩ K ⟨d1,0,none⟩ ⟨d2,0,none⟩ ⟨some ⟨ts,0,none⟩,256,cc⟩)) w:=by
 refine ⟨fun x w'=>∃off v r a c pre,x=((pre.length:Nat):Int)∧DW w' b d1 d2 tb (s.wo g o 0) i l dt tab R off v r a c pre∧OA w' g o G []∧TM w' ts pre∧Fm w0 w' [b,d1,d2,g,ts],
  fun x _=>256-x.toNat,⟨off,v,r,a,c,[],rfl,H,HO,HT,F0⟩,?_⟩
 clear H HO HT F0
 rintro _ w1 ⟨off,v,r,a,c,pre,rfl,H,HO,HT,F0⟩
 have hlen:=H.tw.len
 unfold q80_L1
 simp only [add_mk,Nat.zero_add]
 refine ld_b (t := .I .u64) (x:=(off:Int)) H.rb.blk rfl (cnd_d (fun h8 => ?_) fun _ => ?_)
 ·have sb:∀ {w2 w3:World},Fm w0 w2 [b,d1,d2,g,ts]→Fm w2 w3 [b]→Fm w0 w3 [b,d1,d2,g,ts]:=fun F1 F2=>F1.trans F2 (by intro x hx;left;simp at hx;simp [hx])
  have s1:∀ {w2 w3:World},Fm w0 w2 [b,d1,d2,g,ts]→Fm w2 w3 [b,d1]→Fm w0 w3 [b,d1,d2,g,ts]:=fun F1 F2=>F1.trans F2 (by intro x hx;left;simp at hx;rcases hx with rfl|rfl<;>simp)
  have s2:∀ {w2 w3:World},Fm w0 w2 [b,d1,d2,g,ts]→Fm w2 w3 [b,d2]→Fm w0 w3 [b,d1,d2,g,ts]:=fun F1 F2=>F1.trans F2 (by intro x hx;left;simp at hx;rcases hx with rfl|rfl<;>simp)
  have st:∀ {w2 w3:World},Fm w0 w2 [b,d1,d2,g,ts]→Fm w2 w3 [ts]→Fm w0 w3 [b,d1,d2,g,ts]:=fun F1 F2=>F1.trans F2 (by intro x hx;left;simp at hx;simp [hx])
  have hti:∀a,i.a=some a→l ≠ []→a.block ∉ [ts]:=by intro a ha hl;simpa using (A.gi a ha hl).2
  have tD:∀ {w2 w3:World} {e1 e2 off v r a c:Nat} {pre:List Nat},(e1=d1∧e2=d2∨e1=d2∧e2=d1)→DW w2 b e1 e2 tb (s.wo g o 0) i l dt tab R off v r a c pre→Fm w2 w3 [ts]→DW w3 b e1 e2 tb (s.wo g o 0) i l dt tab R off v r a c pre:=by
   intro w2 w3 e1 e2 off v r a c pre he H F
   refine H.fr F (by simp;exact fun e=>A.tsb e.symm) ?_ ?_ (by simp;exact fun e=>A.tst e.symm) hti
   ·rcases he with ⟨rfl,rfl⟩|⟨rfl,rfl⟩<;>simp
    ·exact fun e=>A.ts1 e.symm
    ·exact fun e=>A.ts2 e.symm
   ·rcases he with ⟨rfl,rfl⟩|⟨rfl,rfl⟩<;>simp
    ·exact fun e=>A.ts2 e.symm
    ·exact fun e=>A.ts1 e.symm
  have o1:g ∉ [b,d1]:=by simp;exact ⟨A.gb,A.g1⟩
  have o2:g ∉ [b,d2]:=by simp;exact ⟨A.gb,A.g2⟩
  have ot:g ∉ [ts]:=by simpa using A.gts
  have t1:ts ∉ [b,d1]:=by simp;exact ⟨A.tsb,A.ts1⟩
  have t2:ts ∉ [b,d2]:=by simp;exact ⟨A.tsb,A.ts2⟩
  have hl0:=H.rb.rd
  refine c102 H.rb (by omega) ?_
  intro w2 o2' v2 r2 H2f hr2 ho2
  have H2:=H.fil H2f
  have l2:=H2f.lf
  have F2:=sb F0 H2f.fm
  refine (H2.step (by omega) (by omega) ?_).2
  intro w3 x3 r3 y3 hx3 H3 hr3 hl3 F3'
  have F3:=s1 F2 F3'
  have n3:=H3.tw.len
  simp only [List.length_append,List.length_cons,List.length_nil] at n3
  refine ((HT.fr H2f.fm (by simpa using A.tsb)).fr F3' t1).put (n:=0) (j:=0) (by rw [wU8 (by omega) (by omega)];omega) (by omega) ?_
  intro w4 HT4 F4'
  have F4:=st F3 F4'
  have H4:=tD (.inr ⟨rfl,rfl⟩) H3 F4'
  refine (H4.step (by omega) (by omega) ?_).2
  intro w5 x5 r5 y5 hx5 H5 hr5 hl5 F5'
  have F5:=s2 F4 F5'
  have n5:=H5.tw.len
  simp only [List.length_append,List.length_cons,List.length_nil] at n5
  refine (HT4.fr F5' t2).put (n:=0) (j:=0) (by rw [wU8 (by omega) (by omega)];simp) (by simp;omega) ?_
  intro w6 HT6 F6'
  have F6:=st F5 F6'
  have H6:=tD (.inl ⟨rfl,rfl⟩) H5 F6'
  refine c102 H6.rb (by omega) ?_
  intro w7 o7 v7 r7 H7f hr7 ho7
  have H7:=H6.fil H7f
  have l7:=H7f.lf
  have F7:=sb F6 H7f.fm
  refine (H7.step (by omega) (by omega) ?_).2
  intro w8 x8 r8 y8 hx8 H8 hr8 hl8 F8'
  have F8:=s1 F7 F8'
  have n8:=H8.tw.len
  simp only [List.length_append,List.length_cons,List.length_nil] at n8
  refine ((HT6.fr H7f.fm (by simpa using A.tsb)).fr F8' t1).put (n:=0) (j:=0) (by rw [wU8 (by omega) (by omega)];simp) (by simp;omega) ?_
  intro w9 HT9 F9'
  have F9:=st F8 F9'
  have H9:=tD (.inr ⟨rfl,rfl⟩) H8 F9'
  refine (H9.step (by omega) (by omega) ?_).2
  intro w10 x10 r10 y10 hx10 H10 hr10 hl10 F10'
  have F10:=s2 F9 F10'
  have n10:=H10.tw.len
  simp only [List.length_append,List.length_cons,List.length_nil] at n10
  refine (HT9.fr F10' t2).put (n:=0) (j:=0) (by rw [wU8 (by omega) (by omega)];simp) (by simp;omega) ?_
  intro w11 HT11 F11'
  have F11:=st F10 F11'
  have H11:=tD (.inl ⟨rfl,rfl⟩) H10 F11'
  have e4:IntKind.u8.wrap (((pre.length:Nat):Int)+4)=(((pre ++ [x3] ++ [x5] ++ [x8] ++ [x10]).length:Nat):Int):=by
   rw [wU8 (by omega) (by omega)];simp
  rw [e4]
  refine cnd_d (fun h => ?_) fun _ => ?_
  ·exfalso;simp at h;omega
  ·have HO11:=((((((((HO.fr H2f.fm (by simpa using A.gb)).fr F3' o1).fr F4' ot).fr F5' o2).fr F6' ot).fr H7f.fm (by simpa using A.gb)).fr F8' o1).fr F9' ot).fr F10' o2 |>.fr F11' ot
   refine ⟨⟨_,_,_,_,_,_,rfl,H11,HO11,HT11,F11⟩,?_⟩
   rw [Int.toNat_natCast,Int.toNat_natCast]
   simp;omega
 ·exact d80_J4 H HO HT A hlim hcc F0 hk
theorem c80 {w:World} {b tb g o ts cc:Nat} {s:FS} {l:List Nat} {p T:Nat} {tab:List Cell3} {R:List Nat} {G:Cells} {K:Value→PT}
  (HB:Blk w b (s.wo g o 0).at) (A:Arr .u8 w s.br l) (hl:By l) (hlen:l.length<2^20) (hoff:s.brOff=(p:Nat)) (hp:p≤l.length) (hT:s.atl=(T:Nat)) (hT6:T≤6) (ht:DT w s.dt tb tab) (tB:TabB tab)
  (hts:s.ts=⟨some ⟨ts,0,none⟩,s.ts.l,cc⟩) (hcc:256≤cc) (HTs:TM w ts []) (HO:OA w g o G []) (hlim:s.lim=255)
  (left:Nat) (hbk:backZ (l.drop p)=some left) (hge:2*T≤left) (htw:TW (l.drop p) tab 255 (left-T-T) (tkB (l.drop p) T left) (tkB (l.drop p) T ((left:Int)-T)) [] R)
  (d1:g≠b) (d2:g≠tb) (d3:g≠ts) (d4:ts≠b) (d5:ts≠tb) (d6:tb≠b) (d7:∀a,s.br.a=some a→l ≠ []→a.block≠b∧a.block≠g∧a.block≠ts)
  (hk:∀w' off' v' r',Blk w' b ((s.wo g o R.length).br4 ⟨none,0,0⟩ off' v' r').at→OA w' g o G R→TM w' ts []→Fm w w' [b,g,ts]→K .nilIface w') :
  callP Tryd.prog 80 #[.pointer (some ⟨b,0,none⟩)] [.c .V] K w:=by
 apply q80_ok
 unfold q80
 simp only [add_mk,Nat.zero_add]
 refine ld2_b (t := .S) (u := .I .i64) (x:=s.br) (y:=(p:Int)) HB rfl (by show some (Value.int .i64 s.brOff)=_;rw [hoff];rfl) ?_
 have hsl:=A.len
 refine c100 (s:=s.br) (n:=p) (by omega) ?_
 intro w1 F1
 have A1:=(A.fr F1 (by simp)).drop p hp
 have hby:By (l.drop p):=fun x hx=>hl x (List.mem_of_mem_drop hx)
 have hne:l.drop p ≠ []→l ≠ []:=by intro h e;subst e;simp at h
 generalize hi:(⟨slA s.br.a p s.br.c 1,s.br.l-p,s.br.c-p⟩:Sl)=i at *
 have hia:∀a,i.a=some a→∃a',s.br.a=some a'∧a.block=a'.block:=by
  intro a ha
  subst hi
  simp only [slA] at ha
  split at ha
  ·exact ⟨a,ha,rfl⟩
  ·cases hb:s.br.a with
   | none=>rw [hb] at ha;cases ha
   | some a' =>
    rw [hb] at ha
    injection ha with ha
    subst ha
    refine ⟨a',rfl,?_⟩
    unfold Addr.add;split<;>rfl
 have hid:∀a,i.a=some a→l.drop p ≠ []→a.block≠b∧a.block≠g∧a.block≠ts:=by
  intro a ha h
  obtain ⟨a',h1,h2⟩:=hia a ha
  rw [h2];exact d7 a' h1 (hne h)
 refine c99 (HB.fr F1 (by simp)) A1 hby (by rw [List.length_drop];omega) (fun a ha h=>(hid a ha h).1) hbk ?_
 intro w2 off v r H2 hr40
 have F02:Fm w w2 [b]:=(F1.mono (S' := [b]) (by simp)).trans H2.fm (fun x hx => .inl hx)
 refine ⟨rfl,fun h=>by simp [isNil] at h,fun _ => ?_⟩
 refine nw_x ?_
 intro p1 w3 F3 B3 hp1
 refine nw_x ?_
 intro p2 w4 F4 B4 hp2
 unfold drw
 have hs2:=F02.size
 have hs3:=F3.size
 have hp21:p2≠p1:=by have:=B3.lt;omega
 have F05:Fm w w4.drew [b]:=((F02.trans F3 (by simp)).trans F4 (by simp)).drew
 have F25:Fm w2 w4.drew []:=(F3.trans F4 (by simp)).drew
 have old:∀x,x<w.heap.size→x≠p1∧x≠p2:=by intro x hx;constructor<;>omega
 have hbl:=HB.lt
 have hio:∀a,i.a=some a→l.drop p ≠ []→a.block≠p1∧a.block≠p2:=by
  intro a ha h
  exact old _ (by have:=(A1.old h a ha);have:=F1.size;obtain ⟨a',h1,h2⟩:=hia a ha;rw [h2];exact A.old (hne h) a' h1)
 have R5:RB w4.drew b (s.wo g o 0) i (l.drop p) off v r:=H2.rb.fr F25 (by simp) (by simp)
 have C1:=B3.fr (F4.drew) (by simp)
 have C2:=B4.drew
 refine ld_b (t := .S) (x:=s.dt) R5.blk rfl ?_
 refine ld_b (t := .I .u8) (x:=(T:Int)) R5.blk (by show some (Value.int .u8 s.atl)=_;rw [hT];rfl) ?_
 have hlf:=H2.lf
 have hrd:=H2.rb.rd
 have z0:∀j,3≤j→(⟨z185⟩:Array Value)[j]? = none:=by intro j hj;rw [Array.getElem?_eq_none];exact hj
 have hrT:r+T≤64∧r+T+T≤64:=by omega
 refine c101 R5 C1 rfl rfl rfl z0 (old b hbl).1.symm (fun a ha h=>(hio a ha h).1) (by omega) (by omega) ?_
 intro w6 R6 D6 F6
 have R7:=R6.drew
 refine ld_b (t := .S) (x:=s.dt) R7.blk rfl ?_
 refine ld_b (t := .I .u8) (x:=(T:Int)) R7.blk (by show some (Value.int .u8 s.atl)=_;rw [hT];rfl) ?_
 have C2':=(C2.fr F6 (by simp;exact ⟨(old b hbl).2.symm,hp21⟩)).drew
 refine c101 R7 C2' rfl rfl rfl z0 (old b hbl).2.symm (fun a ha h=>(hio a ha h).2) (by omega) (by omega) ?_
 intro w8 R8 D8 F8
 have F08:Fm w w8 [b]:=((F05.trans F6 (by intro x hx;simp at hx;rcases hx with rfl|rfl;exact .inl (by simp);right;omega)).drew).trans F8 (by intro x hx;simp at hx;rcases hx with rfl|rfl;exact .inl (by simp);right;omega)
 have D6':Blk w8 p1 _:=D6.drew.fr F8 (by simp;exact ⟨(old b hbl).1.symm,fun e=>hp21 e.symm⟩)
 rw [hlf] at D6'
 rw [show 8*off+(64-(r+T))=left-T by omega,show ((left-T:Nat):Int)=(left:Int)-T by omega] at D8
 refine ld_b (t := .S) (x:=s.ts) R8.blk rfl ?_
 refine slc_hi (m:=256) rfl (by rw [hts];exact hcc) ?_
 rw [show (⟨s.ts.a,256,s.ts.c⟩:Sl)=⟨some ⟨ts,0,none⟩,256,cc⟩ by rw [hts]]
 have tB1:tb<w.heap.size:=by obtain ⟨_,h,_⟩:=ht.blk;exact h.lt
 have sB1:ts<w.heap.size:=by obtain ⟨_,h,_⟩:=HTs;exact h.lt
 have gB1:g<w.heap.size:=by obtain ⟨_,h,_⟩:=HO;exact h.lt
 have hDW:DW w8 b p1 p2 tb (s.wo g o 0) i (l.drop p) s.dt tab R off v (r+T+T) (tkB (l.drop p) T left) (tkB (l.drop p) T ((left:Int)-T)) [] :=
  ⟨R8,D6',D8,ht.fr F08 (by simpa using d6),by rw [show 8*off+(64-(r+T+T))=left-T-T by omega];exact htw,tB,(old b hbl).1.symm,(old b hbl).2.symm,fun e=>hp21 e.symm,⟨d6,(old tb tB1).1,(old tb tB1).2⟩,hio⟩
 have hAp:Ap b p1 p2 tb g ts i (l.drop p):=⟨d1,(old g gB1).1,(old g gB1).2,d2,d3,d4,(old ts sB1).1,(old ts sB1).2,d5,fun a ha h=>(hid a ha h).2⟩
 have F08':Fm w w8 [b,p1,p2,g,ts]:=F08.mono (by intro x hx;left;simp at hx;simp [hx])
 have hk':∀w' off' v' r',Blk w' b ((s.wo g o R.length).br4 ⟨none,0,0⟩ off' v' r').at→OA w' g o G R→TM w' ts []→Fm w w' [b,p1,p2,g,ts]→K .nilIface w':=by
  intro w' o' v' r' B' O' T' F'
  refine hk w' o' v' r' B' O' T' (F'.mono ?_)
  intro x hx
  simp at hx
  rcases hx with rfl|rfl|rfl|rfl|rfl
  ·left;simp
  ·right;omega
  ·right;omega
  ·left;simp
  ·left;simp
 refine joinP_id (ld_b (t := .B) (x:=s.zb) R8.blk rfl ⟨fun _ => ?_,fun _ => ?_⟩)
 ·exact d80_L0 hDW (HO.fr F08 (by simpa using d1)) (HTs.fr F08 (by simpa using d4)) hAp hlim hcc F08' hk'
 ·exact d80_L1 hDW (HO.fr F08 (by simpa using d1)) (HTs.fr F08 (by simpa using d4)) hAp hlim hcc F08' hk'
theorem allocF {w:World} {b o n bytes:Nat} {f:Cells} {s:Sl} {zs:List Value} {T:TypeId} {κ:PT} {ni ni2:Int} (H:Blk w b f) (hf:f o=some s.val) (hc:s.c<n) (hn:ni=(n:Nat)) (hn2:ni2=(n:Nat)) (hby:n*bytes≤2^47)
  (hk:∀w' p,w.heap.size≤p→p≠b→Blk w' p (fun j=>(zrep zs n)[j]?)→Blk w' b (updC f o (Sl.val ⟨some ⟨p,0,none⟩,n,n⟩))→Fm w w' [b]→κ w') :
  (joinP (fun (R:Unit→PT)=>ld .S ⟨b,o,none⟩ fun (s4:Sl)=>cnd (decide ((s4.c:Int)<ni)) (mks zs T bytes ni2 ni2 fun (s5:Sl)=>st ⟨b,o,none⟩ (.slice s5.a s5.l s5.c)<|R ()) (R ()))
   (fun _=>ld .S ⟨b,o,none⟩ fun (s7:Sl)=>slc zs.length s7 none (some ni) none fun (s8:Sl)=>st ⟨b,o,none⟩ (.slice s8.a s8.l s8.c)<|κ)) w:=by
 subst hn hn2
 have hbl:=H.lt
 refine joinP_id ?_
 refine ld_b (t := .S) (x:=s) H hf (cnd_d (fun _ => ?_) fun h=>by omega)
 refine ⟨n,n,rfl,rfl,Nat.le_refl _,hby,?_⟩
 have F1:Fm w (w.alloc (.cells (zrep zs n) T)) []:=(Fm.refl w []).alloc
 have B1:Blk (w.alloc (.cells (zrep zs n) T)) w.heap.size fun i=>(zrep zs n)[i]? := Blk.new
 generalize w.alloc (.cells (zrep zs n) T)=w1 at *
 refine st_u (H.fr F1 (by simp)) (by rw [hf];rfl) rfl ?_
 intro w2 B2 F2
 have ho:updC f o (.slice (some ⟨w.heap.size,0,none⟩) n n) o=some (Sl.val ⟨some ⟨w.heap.size,0,none⟩,n,n⟩):=if_pos rfl
 refine ld_b (t := .S) (x:=⟨some ⟨w.heap.size,0,none⟩,n,n⟩) B2 ho ?_
 refine slc_hi (m:=n) rfl (Nat.le_refl _) ?_
 refine st_u B2 (by rw [ho];rfl) rfl ?_
 intro w3 B3 F3
 have hne:w.heap.size≠b:=by omega
 refine hk w3 w.heap.size (Nat.le_refl _) hne ((B1.fr F2 (by simpa using hne)).fr F3 (by simpa using hne)) (B3.congr ?_) (((F1.mono (S' := [b]) (by simp)).trans F2 (fun x hx => .inl hx)).trans F3 (fun x hx => .inl hx))
 funext i;unfold updC;split<;>rfl
def dtC (N:Nat) (ns sy nb:Nat→Int):Cells:=fun j=>if j<N*3 then (if j%3=0 then some (.int .u16 (ns (j/3))) else if j%3=1 then some (.int .u8 (sy (j/3))) else some (.int .u8 (nb (j/3)))) else none
theorem dtC_0 {N k:Nat} (ns sy nb:Nat→Int) (h:k<N):dtC N ns sy nb (k*3)=some (.int .u16 (ns k)):=by
 unfold dtC
 rw [if_pos (by omega),if_pos (by omega),show k*3/3=k by omega]
theorem dtC_1 {N k:Nat} (ns sy nb:Nat→Int) (h:k<N):dtC N ns sy nb (k*3+1)=some (.int .u8 (sy k)):=by
 unfold dtC
 rw [if_pos (by omega),if_neg (by omega),if_pos (by omega),show (k*3+1)/3=k by omega]
theorem dtC_2 {N k:Nat} (ns sy nb:Nat→Int) (h:k<N):dtC N ns sy nb (k*3+2)=some (.int .u8 (nb k)):=by
 unfold dtC
 rw [if_pos (by omega),if_neg (by omega),if_neg (by omega),show (k*3+2)/3=k by omega]
theorem dtC_u0 {N k:Nat} (ns sy nb:Nat→Int) (v:Int) (h:k<N):updC (dtC N ns sy nb) (k*3) (.int .u16 v)=dtC N (updF ns k v) sy nb:=by
 funext j;unfold updC dtC updF
 by_cases e:j=k*3
 ·subst e;rw [if_pos rfl,if_pos (by omega),if_pos (by omega),if_pos (by omega)]
 ·rw [if_neg e]
  by_cases h1:j<N*3
  ·rw [if_pos h1,if_pos h1]
   by_cases h2:j%3=0
   ·rw [if_pos h2,if_pos h2,if_neg (by omega)]
   ·rw [if_neg h2,if_neg h2]
  ·rw [if_neg h1,if_neg h1]
theorem dtC_u1 {N k:Nat} (ns sy nb:Nat→Int) (v:Int) (h:k<N):updC (dtC N ns sy nb) (k*3+1) (.int .u8 v)=dtC N ns (updF sy k v) nb:=by
 funext j;unfold updC dtC updF
 by_cases e:j=k*3+1
 ·subst e;rw [if_pos rfl,if_pos (by omega),if_neg (by omega),if_pos (by omega),if_pos (by omega)]
 ·rw [if_neg e]
  by_cases h1:j<N*3
  ·rw [if_pos h1,if_pos h1]
   by_cases h2:j%3=0
   ·rw [if_pos h2,if_pos h2]
   ·rw [if_neg h2,if_neg h2]
    by_cases h3:j%3=1
    ·rw [if_pos h3,if_pos h3,if_neg (by omega)]
    ·rw [if_neg h3,if_neg h3]
  ·rw [if_neg h1,if_neg h1]
theorem dtC_u2 {N k:Nat} (ns sy nb:Nat→Int) (v:Int) (h:k<N):updC (dtC N ns sy nb) (k*3+2) (.int .u8 v)=dtC N ns sy (updF nb k v):=by
 funext j;unfold updC dtC updF
 by_cases e:j=k*3+2
 ·subst e;rw [if_pos rfl,if_pos (by omega),if_neg (by omega),if_neg (by omega),if_pos (by omega)]
 ·rw [if_neg e]
  by_cases h1:j<N*3
  ·rw [if_pos h1,if_pos h1]
   by_cases h2:j%3=0
   ·rw [if_pos h2,if_pos h2]
   ·rw [if_neg h2,if_neg h2]
    by_cases h3:j%3=1
    ·rw [if_pos h3,if_pos h3]
    ·rw [if_neg h3,if_neg h3,if_neg (by omega)]
  ·rw [if_neg h1,if_neg h1]
theorem z180_at (N:Nat):(fun j=>(zrep z180 N)[j]?)=dtC N (fun _=>0) (fun _=>0) (fun _=>0):=by
 funext j
 have hl:(z180:List Value).length=3:=rfl
 unfold dtC
 by_cases h:j<N*3
 ·rw [if_pos h,Array.getElem?_eq_getElem (by rw [zrep_size,hl];exact h)]
  simp only [zrep,Array.getElem_map,Array.getElem_range,hl]
  have h3:j%3<3:=Nat.mod_lt _ (by omega)
  by_cases h0:j%3=0
  ·rw [h0,if_pos rfl];rfl
  ·rw [if_neg h0]
   by_cases h1:j%3=1
   ·rw [h1,if_pos rfl];rfl
   ·rw [if_neg h1,show j%3=2 by omega];rfl
 ·rw [if_neg h,Array.getElem?_eq_none (by rw [zrep_size,hl];omega)]
def FS.tb3 (s:FS) (N tb ts sb:Nat):FS := { s with dt:=⟨some ⟨tb,0,none⟩,N,N⟩,ts:=⟨some ⟨ts,0,none⟩,256,256⟩,st:=⟨some ⟨sb,0,none⟩,256,256⟩ }
theorem c96 {T:Nat} (hT:LogOK T) {w:World} {b:Nat} {s:FS} {K:Unit→PT} (HB:Blk w b s.at) (hatl:s.atl=(T:Nat)) (h1:s.dt.c=0) (h2:s.ts.c=0) (h3:s.st.c=0)
  (hk:∀w' tb ts sb F G,w.heap.size≤tb→w.heap.size≤ts→w.heap.size≤sb→tb≠ts→tb≠sb→ts≠sb→Blk w' tb (dtC (2^T) (fun _=>0) (fun _=>0) (fun _=>0))→Blk w' ts F→Som 256 F→Blk w' sb G→Som 256 G→Blk w' b (s.tb3 (2^T) tb ts sb).at→Fm w w' [b]→K () w') :
  callP Tryd.prog 96 #[.pointer (some ⟨b,0,none⟩)] [] K w:=by
 apply q96_ok
 unfold q96 q96_J2 q96_J1 q96_J0
 have hTp:=hT.pow
 have e1:shlI .i64 1 ((T:Nat):Int)=((2^T:Nat):Int):=by rcases hT with rfl|rfl<;>rfl
 have hbl:=HB.lt
 simp only [add_mk,Nat.zero_add]
 refine ld_b (t := .I .u8) (x:=((T:Nat):Int)) HB (by show some (Value.int .u8 s.atl)=_;rw [hatl];rfl) ⟨by omega,?_⟩
 rw [e1]
 refine allocF (zs:=z180) (n:=2^T) HB rfl (by omega) rfl rfl (by omega) ?_
 intro w2 tb htb ntb T2 B2 F2
 rw [z180_at] at T2
 have B2':Blk w2 b ({ s with dt:=⟨some ⟨tb,0,none⟩,2^T,2^T⟩ } : FS).at:=B2.congr (FS.setT 12 rfl rfl rfl (by decide))
 have htl2:=T2.lt
 refine allocF (zs:=z5) (n:=256) B2' rfl (by show s.ts.c<256;omega) rfl rfl (by omega) ?_
 intro w3 ts hts nts T3 B3 F3
 have B3':Blk w3 b ({ s with dt:=⟨some ⟨tb,0,none⟩,2^T,2^T⟩,ts:=⟨some ⟨ts,0,none⟩,256,256⟩ } : FS).at:=B3.congr (FS.setT 9 rfl rfl rfl (by decide))
 have htl3:=T3.lt
 have hs2:=F2.size
 have hs3:=F3.size
 refine allocF (zs:=z81) (n:=256) B3' rfl (by show s.st.c<256;omega) rfl rfl (by omega) ?_
 intro w4 sb hsb nsb T4 B4 F4
 have B4':Blk w4 b (s.tb3 (2^T) tb ts sb).at:=B4.congr (FS.setT 10 rfl rfl rfl (by decide))
 exact hk w4 tb ts sb _ _ htb (by omega) (by omega) (by omega) (by omega) (by omega) ((T2.fr F3 (by simpa using ntb)).fr F4 (by simpa using ntb)) (T3.fr F4 (by simpa using nts)) (fun i hi=>zrep_some z5 256 i (by simpa [z5] using hi)) T4 (fun i hi=>zrep_some z81 256 i (by simpa [z81] using hi)) B4'
  ((F2.trans F3 (fun x hx => .inl hx)).trans F4 (fun x hx => .inl hx))
structure ND (S:FS) (cs:List Int) (T L:Nat):Prop where
 log:LogOK T
 atl:S.atl=(T:Nat)
 symL:S.symL=(L:Nat)
 len:cs.length=L
 l256:L≤256
 nrm:∀i (h:i<cs.length),S.norm i=cs[i]
 rng:∀c∈cs, -1≤c
 lt:∀c∈cs,c<((2^T:Nat):Int)
 sum:sumZ cs=2^T
theorem ND.at {S:FS} {cs:List Int} {T L i:Nat} (h:ND S cs T L) (hi:i<cs.length):S.at (256+i)=some (.int .i16 cs[i]):=by
 have:=h.l256
 have:=h.len
 rw [FS.norm_at _ (by omega),h.nrm i hi]
theorem ND.bnd {S:FS} {cs:List Int} {T L i:Nat} (h:ND S cs T L) (hi:i<cs.length) : -1≤cs[i]∧cs[i]≤64:=by
 have h1:=h.rng _ (List.getElem_mem hi)
 have h2:=absZ_le_sum hi
 have h3:=h.sum
 have h4:=h.log.pow
 unfold absZ at h2
 split at h2<;>omega
theorem ND.symAt {S:FS} {cs:List Int} {T L:Nat} (H:ND S cs T L):S.at 528=some (.int .u16 (L:Nat)):=by show some (Value.int .u16 S.symL)=_;rw [H.symL]
theorem ND.atlAt {S:FS} {cs:List Int} {T L:Nat} (H:ND S cs T L):S.at 529=some (.int .u8 (T:Nat)):=by show some (Value.int .u8 S.atl)=_;rw [H.atl]
theorem ND.zb {S:FS} {cs:List Int} {T L:Nat} (H:ND S cs T L) (z:Bool):ND { S with zb:=z } cs T L:=⟨H.log,H.atl,H.symL,H.len,H.l256,H.nrm,H.rng,H.lt,H.sum⟩
def LayD (N:Nat) (sy φ:Nat→Int):Prop:=∀p,p<N→0≤φ p→sy p=φ p
theorem LayD.upd {N k:Nat} {sy φ:Nat→Int} {v:Int} (h:LayD N sy φ):LayD N (updF sy k v) (updF φ k v):=by
 intro q hq
 unfold updF
 split
 ·exact fun _=>rfl
 ·exact h q hq
section
variable {T L:Nat} {w:World} {b tb sb:Nat} {S:FS} {cs:List Int} {F:Cells}
theorem dt1 {K:Int→PT} (H:ND S cs T L) (hdt:S.dt=⟨some ⟨tb,0,none⟩,2^T,2^T⟩) (HB:Blk w b S.at) (HT:Blk w tb (dtC (2^T) (fun _=>0) (fun _=>0) (fun _=>0))) (HS:Blk w sb F) (hF:Som 256 F) (dbt:b≠tb) (dbs:b≠sb) (dts:tb≠sb)
  (hk:∀w' e φ sy F' z,e≤2^T→lowZ cs 0 (2^T) (fun _ => -1)=(φ,e)→LayD (2^T) sy φ→Blk w' b ({ S with zb:=z } : FS).at→Blk w' tb (dtC (2^T) (fun _=>0) sy (fun _=>0))→Blk w' sb F'→Som 256 F'→(∀j (h:j<cs.length),F' j=some (.int .u16 (absZ cs[j]:Nat)))→Fm w w' [b,tb,sb]→K (IntKind.u32.wrap ((e:Int)-1)) w') :
  loopP (IntKind.u32.wrap (((2^T:Nat):Int)-1),(0:Int)) (q79_L3 ⟨b,0,none⟩ ⟨some ⟨sb,0,none⟩,256,256⟩ K (T:Nat) ⟨some ⟨b,256,none⟩,L,256⟩) w:=by
 have hTp:=H.log.pow
 have hlen:=H.len
 have hl:=H.l256
 have hsum:=H.sum
 have hlow0:lowN cs≤2^T:=by have:=symsZ_len cs H.rng 0;omega
 refine ⟨fun x w'=>∃(e i:Nat) (φ sy:Nat→Int) (F':Cells) (z:Bool),x=(IntKind.u32.wrap ((e:Int)-1),(i:Int))∧i≤L∧e≤2^T∧lowN (cs.drop i)≤e∧lowZ (cs.drop i) i e φ=lowZ cs 0 (2^T) (fun _ => -1)∧LayD (2^T) sy φ∧Blk w' b ({ S with zb:=z } : FS).at ∧
   Blk w' tb (dtC (2^T) (fun _=>0) sy (fun _=>0))∧Blk w' sb F'∧Som 256 F'∧(∀j (h:j<cs.length),j<i→F' j=some (.int .u16 (absZ cs[j]:Nat)))∧Fm w w' [b,tb,sb],fun x _=>L-x.2.toNat,
  ⟨2^T,0,_,_,F,S.zb,rfl,Nat.zero_le _,Nat.le_refl _,hlow0,rfl,?_,HB,HT,HS,hF,?_,Fm.refl _ _⟩,?_⟩
 ·intro p hp h0;simp at h0
 ·intro j _ hj;omega
 rintro x w2 ⟨e,i,φ,sy,F2,z,rfl,hi,he,hln,hlow,hLy,HB2,HT2,HS2,hF2,hF2v,Fr⟩
 unfold q79_L3
 simp only
 refine cnd_d ?_ ?_
 ·intro hc
  have hi3:i<cs.length:=by omega
  have hbn:=H.bnd hi3
  refine joinP_id ?_
  unfold q79_X2 q79_J1
  simp only [add_mk,Nat.zero_add]
  refine ixS_o rfl (by omega) ?_
  refine ld_b (t := .I .i16) (x:=cs[i]) HB2 ((H.zb z).at hi3) ?_
  have e8:IntKind.u8.wrap (i:Int)=(i:Int):=wU8 (by omega) (by omega)
  have e64:IntKind.i64.wrap ((i:Int)+1)=((i+1:Nat):Int):=by rw [wI64 (by omega) (by omega)];omega
  rw [e8,e64]
  rw [drop_cons hi3,lowZ] at hlow
  have hN:lowN (cs[i]::cs.drop (i+1))=lowN (cs.drop (i+1))+if cs[i] = -1 then 1 else 0:=by unfold lowN;rw [List.countP_cons];simp
  rw [drop_cons hi3,hN] at hln
  refine cnd_d ?_ ?_
  ·intro hm1
   rw [if_pos hm1] at hln
   rw [if_pos ⟨hm1,by omega⟩] at hlow
   refine ld_b (t := .S) (x:=⟨some ⟨tb,0,none⟩,2^T,2^T⟩) HB2 (by show some (S.dt.val)=_;rw [hdt];rfl) ?_
   refine ixS_b (k:=e-1) rfl (by rw [wU32 (by omega) (by omega)];omega) (by simp only;omega) ?_
   simp only [add_mk,Nat.zero_add]
   refine st_u HT2 (by rw [dtC_1 _ _ _ (by omega)];rfl) rfl ?_
   intro w3 HT3 F3
   rw [dtC_u1 _ _ _ _ (by omega)] at HT3
   have HS3:=HS2.fr F3 (nm1 dts.symm)
   have HB3:=HB2.fr F3 (nm1 dbt)
   refine ixS_o rfl (by omega) ?_
   rw [Nat.zero_add]
   refine st_u HS3 (hF2 _ (by omega)) rfl ?_
   intro w4 HS4 F4
   have e5:IntKind.u32.wrap (IntKind.u32.wrap ((e:Int)-1)-1)=IntKind.u32.wrap (((e-1:Nat):Int)-1):=by
    rw [wU32 (x:=(e:Int)-1) (by omega) (by omega),show ((e-1:Nat):Int)=(e:Int)-1 by omega]
   rw [e5]
   refine ⟨⟨e-1,i+1,updF φ (e-1) i,updF sy (e-1) i,_,z,rfl,by omega,by omega,by omega,hlow,hLy.upd,HB3.fr F4 (nm1 dbs),HT3.fr F4 (nm1 dts),HS4,hF2.upd,?_,?_⟩,?_⟩
   ·intro j hj hji
    unfold updC
    by_cases ej:j=i
    ·subst ej
     rw [if_pos rfl,hm1];rfl
    ·rw [if_neg ej];exact hF2v j hj (by omega)
   ·exact (Fr.trans F3 (by intro v hv;simp at hv;simp [hv])).trans F4 (by intro v hv;simp at hv;simp [hv])
   ·simp only [Int.toNat_natCast];omega
  ·intro hm1
   rw [if_neg hm1] at hln
   rw [if_neg (fun h=>hm1 h.1)] at hlow
   refine joinP_id ?_
   have go:∀w3 z',Blk w3 b ({ S with zb:=z' } : FS).at→Fm w2 w3 [b]→∀(R:Int→PT),(∀w4 F4,Blk w4 b ({ S with zb:=z' } : FS).at→Blk w4 tb (dtC (2^T) (fun _=>0) sy (fun _=>0))→Blk w4 sb F4→Som 256 F4→(∀j (h:j<cs.length),j<i+1→F4 j=some (.int .u16 (absZ cs[j]:Nat)))→Fm w w4 [b,tb,sb]→R (IntKind.u32.wrap ((e:Int)-1)) w4) →
     q79_J0 ⟨some ⟨sb,0,none⟩,256,256⟩ (IntKind.u32.wrap ((e:Int)-1),(i:Int)) R cs[i] () w3:=by
    intro w3 z' HB3 F3 R hR
    unfold q79_J0
    refine ixS_o rfl (by omega) ?_
    rw [Nat.zero_add]
    have HS3:=HS2.fr F3 (nm1 dbs.symm)
    refine st_u HS3 (hF2 _ (by omega)) rfl ?_
    intro w4 HS4 F4
    refine hR w4 _ (HB3.fr F4 (nm1 dbs)) ((HT2.fr F3 (nm1 dbt.symm)).fr F4 (nm1 dts)) HS4 hF2.upd ?_ ((Fr.trans F3 (by intro v hv;simp at hv;simp [hv])).trans F4 (by intro v hv;simp at hv;simp [hv]))
    intro j hj hji
    unfold updC
    by_cases ej:j=i
    ·subst ej
     rw [if_pos rfl,wU16 (by omega) (by omega)]
     unfold absZ
     rw [if_neg (by omega),Int.toNat_of_nonneg (by omega)]
    ·rw [if_neg ej];exact hF2v j hj (by omega)
   refine cnd_d (fun _ => ?_) fun _ => ?_
   ·refine st_u HB2 rfl rfl ?_
    intro w3 HB3 F3
    refine go w3 true (HB3.congr (FS.setT 18 rfl rfl rfl (by decide))) F3 _ ?_
    intro w4 F4 HB4 HT4 HS4 hF4 hv4 Fr4
    exact ⟨⟨e,i+1,φ,sy,F4,true,rfl,by omega,he,by omega,hlow,hLy,HB4,HT4,HS4,hF4,hv4,Fr4⟩,by simp only [Int.toNat_natCast];omega⟩
   ·refine go w2 z HB2 (Fm.refl _ _) _ ?_
    intro w4 F4 HB4 HT4 HS4 hF4 hv4 Fr4
    exact ⟨⟨e,i+1,φ,sy,F4,z,rfl,by omega,he,by omega,hlow,hLy,HB4,HT4,HS4,hF4,hv4,Fr4⟩,by simp only [Int.toNat_natCast];omega⟩
 ·intro hc
  have hi2:i=cs.length:=by omega
  rw [hi2,List.drop_length,lowZ] at hlow
  exact hk w2 e φ sy F2 z he hlow.symm hLy HB2 HT2 HS2 hF2 (fun j hj=>hF2v j hj (by omega)) Fr
end
end Go.Sx
