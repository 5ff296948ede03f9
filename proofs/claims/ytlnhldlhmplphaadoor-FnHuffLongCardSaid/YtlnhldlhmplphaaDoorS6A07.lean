/- Lemmas for the proof: H4 H5 H6 H7 H8 H9 H10 H11 H12 H13 H14 H15 H16 H17. No conditions. -/
import Derived.Test.YtlnhldlhmplphaaDoorS6A06
set_option linter.unusedVariables false
set_option linter.unusedSimpArgs false
namespace Go.Sx
open Go Go.Proofs
set_option maxRecDepth 4000
def bk (cnt:Nat→Nat) (i:Nat):Nat:=(cnt i+1).log2
def eqN (cnt:Nat→Nat) (n h:Nat):Nat:=(List.range n).countP fun i=>decide (bk cnt i=h)
def abN (cnt:Nat→Nat) (n h:Nat):Nat:=(List.range n).countP fun i=>decide (h≤bk cnt i)
theorem abN_split (cnt:Nat→Nat) (n h:Nat):abN cnt n h=eqN cnt n h+abN cnt n (h+1):=by
 unfold abN eqN
 induction n with
 | zero=>rfl
 | succ n ih =>
  rw [List.range_succ,List.countP_append,List.countP_append,List.countP_append,ih,List.countP_singleton,List.countP_singleton,List.countP_singleton]
  simp only [decide_eq_true_eq]
  split<;>split<;>split<;>omega
theorem abN_anti (cnt:Nat→Nat) (n:Nat) {a b:Nat} (h:a≤b):abN cnt n b≤abN cnt n a:=by
 induction b with
 | zero=>have:a=0:=(by omega);subst this;exact Nat.le_refl _
 | succ b ih =>
  by_cases e:a=b+1
  ·subst e;exact Nat.le_refl _
  ·have:=ih (by omega)
   have:=abN_split cnt n b
   omega
theorem abN_le (cnt:Nat→Nat) (n h:Nat):abN cnt n h≤n:=by
 unfold abN
 exact Nat.le_trans List.countP_le_length (by simp)
theorem eqN_succ (cnt:Nat→Nat) (n h:Nat):eqN cnt (n+1) h=eqN cnt n h+if bk cnt n=h then 1 else 0:=by
 unfold eqN
 rw [List.range_succ,List.countP_append,List.countP_singleton]
 simp
theorem eqN_mono (cnt:Nat→Nat) (h:Nat) {m n:Nat} (hm:m≤n):eqN cnt m h≤eqN cnt n h:=by
 induction n with
 | zero=>have:m=0:=(by omega);subst this;exact Nat.le_refl _
 | succ n ih =>
  by_cases e:m=n+1
  ·subst e;exact Nat.le_refl _
  ·have:=ih (by omega)
   rw [eqN_succ];omega
theorem bk_lt {cnt:Nat→Nat} {a b:Nat} (h:bk cnt a<bk cnt b):cnt a<cnt b:=by
 unfold bk at h
 by_cases h1:cnt a<cnt b
 ·exact h1
 ·exfalso
  have h2:2^(cnt b+1).log2≤cnt b+1:=Nat.log2_self_le (by omega)
  have:=(Nat.le_log2 (n:=cnt a+1) (by omega)).mpr (show 2^(cnt b+1).log2≤cnt a+1 by omega)
  omega
structure Bks (cnt:Nat→Nat) (n:Nat) (l:Nat→List Nat):Prop where
 perm:∀h,(l h).Perm ((List.range n).filter fun i=>decide (bk cnt i=h))
 sort:∀h,(l h).Pairwise fun a b=>cnt b<cnt a∨(cnt b=cnt a∧a<b)
theorem Bks.len {cnt:Nat→Nat} {n:Nat} {l:Nat→List Nat} (B:Bks cnt n l) (h:Nat):(l h).length=eqN cnt n h:=by
 rw [(B.perm h).length_eq]
 unfold eqN
 rw [List.countP_eq_length_filter]
theorem Bks.mem {cnt:Nat→Nat} {n h a:Nat} {l:Nat→List Nat} (B:Bks cnt n l):a∈l h↔a<n∧bk cnt a=h:=by
 rw [(B.perm h).mem_iff,List.mem_filter,List.mem_range,decide_eq_true_eq]
theorem Bks.zero (cnt:Nat→Nat):Bks cnt 0 (fun _ => []):=⟨fun h=>by simp,fun h=>List.Pairwise.nil⟩
theorem Bks.ins {cnt:Nat→Nat} {n j:Nat} {l:Nat→List Nat} (B:Bks cnt n l) (hj:j≤(l (bk cnt n)).length) (h1:∀h:0<j,cnt n≤cnt ((l (bk cnt n))[j-1]'(by omega))) (h2:∀i (h:i<(l (bk cnt n)).length),j≤i→cnt (l (bk cnt n))[i]<cnt n) :
  Bks cnt (n+1) (fun h=>if h=bk cnt n then (l h).take j++n::(l h).drop j else l h):=by
 refine ⟨?_,?_⟩
 ·intro h
  rw [List.range_succ,List.filter_append]
  by_cases e:h=bk cnt n
  ·subst e
   rw [if_pos rfl]
   have e2 : [n].filter (fun i=>decide (bk cnt i=bk cnt n)) = [n]:=by simp
   rw [e2]
   refine List.perm_middle.trans ?_
   rw [List.take_append_drop]
   exact ((B.perm _).cons n).trans (List.perm_append_singleton _ _).symm
  ·have e2 : [n].filter (fun i=>decide (bk cnt i=h)) = []:=by simp;omega
   rw [if_neg e,e2,List.append_nil]
   exact B.perm h
 ·intro h
  by_cases e:h=bk cnt n
  ·subst e
   rw [if_pos rfl]
   have hs:=B.sort (bk cnt n)
   have hs2:=hs
   rw [←List.take_append_drop j (l (bk cnt n)),List.pairwise_append] at hs2
   obtain ⟨p1,p2,p3⟩:=hs2
   have tn:∀a∈l (bk cnt n),a<n:=fun a ha=>(B.mem.mp ha).1
   have t1:∀a∈(l (bk cnt n)).take j,cnt n≤cnt a:=by
    intro a ha
    obtain ⟨i,hi,rfl⟩:=List.mem_iff_getElem.mp ha
    rw [List.length_take] at hi
    rw [List.getElem_take]
    have h3:=h1 (by omega)
    by_cases e:i=j-1
    ·subst e;exact h3
    ·have:=List.pairwise_iff_getElem.mp hs i (j-1) (by omega) (by omega) (by omega)
     omega
   have t2:∀a∈(l (bk cnt n)).drop j,cnt a<cnt n:=by
    intro a ha
    obtain ⟨i,hi,rfl⟩:=List.mem_iff_getElem.mp ha
    rw [List.length_drop] at hi
    rw [List.getElem_drop]
    exact h2 _ (by omega) (by omega)
   rw [List.pairwise_append,List.pairwise_cons]
   refine ⟨p1,⟨fun a ha => .inl (t2 a ha),p2⟩,?_⟩
   intro a ha b hb
   rcases List.mem_cons.mp hb with rfl|hb
   ·have h8:=t1 a ha
    have h9:=tn a (List.mem_of_mem_take ha)
    omega
   ·exact p3 a ha b hb
  ·rw [if_neg e]
   exact B.sort h
def catB (l:Nat→List Nat):Nat→List Nat
 | 0 => []
 | h+1=>l h++catB l h
theorem catB_mem {cnt:Nat→Nat} {n:Nat} {l:Nat→List Nat} (B:Bks cnt n l) {a:Nat} : ∀ {h:Nat},a∈catB l h↔a<n∧bk cnt a<h
 | 0=>by simp [catB]
 | h+1=>by rw [catB,List.mem_append,B.mem,catB_mem B];omega
theorem catB_len {cnt:Nat→Nat} {n:Nat} {l:Nat→List Nat} (B:Bks cnt n l):∀h,(catB l h).length+abN cnt n h=n
 | 0=>by
  unfold abN
  simp [catB]
 | h+1=>by
  have h1:=catB_len B h
  have h2:=abN_split cnt n h
  rw [catB,List.length_append,B.len];omega
theorem catB_sort {cnt:Nat→Nat} {n:Nat} {l:Nat→List Nat} (B:Bks cnt n l):∀h,(catB l h).Pairwise fun a b=>cnt b<cnt a∨(cnt b=cnt a∧a<b)
 | 0=>List.Pairwise.nil
 | h+1=>by
  rw [catB,List.pairwise_append]
  refine ⟨B.sort h,catB_sort B h,?_⟩
  intro a ha b hb
  have h1:=B.mem.mp ha
  have h2:=(catB_mem B).mp hb
  exact .inl (bk_lt (by omega))
theorem catB_nodup {cnt:Nat→Nat} {n:Nat} {l:Nat→List Nat} (B:Bks cnt n l):∀h,(catB l h).Nodup
 | 0=>List.nodup_nil
 | h+1=>by
  rw [catB,List.nodup_append]
  refine ⟨(B.perm h).nodup_iff.mpr (List.nodup_range.filter _),catB_nodup B h,?_⟩
  intro a ha b hb e
  have h1:=B.mem.mp ha
  have h2:=(catB_mem B).mp hb
  subst e;omega
structure Srt (cnt:Nat→Nat) (L:Nat) (σ:List Nat):Prop where
 len:σ.length=L
 mem:∀a,a∈σ↔a<L
 nd:σ.Nodup
 dec:σ.Pairwise fun a b=>cnt b<cnt a∨(cnt b=cnt a∧a<b)
theorem Bks.srt {cnt:Nat→Nat} {L:Nat} {l:Nat→List Nat} (B:Bks cnt L l) (hc:∀i,i<L→bk cnt i<19):Srt cnt L (catB l 19):=by
 have h0:abN cnt L 19=0:=by
  unfold abN
  rw [List.countP_eq_zero]
  intro a ha
  have:=hc a (List.mem_range.mp ha)
  simp;omega
 refine ⟨by have:=catB_len B 19;omega,?_,catB_nodup B 19,catB_sort B 19⟩
 intro a
 rw [catB_mem B]
 constructor
 ·intro h;exact h.1
 ·intro h;exact ⟨h,hc a h⟩
theorem and31 {n:Nat} (h:n<32):andI .u32 (n:Int) 31=(n:Int):=by
 have:=andI_nat (k := .u32) rfl n (2^5-1) (by simp only [IntKind.bits];omega) (by decide)
 rw [Nat.and_two_pow_sub_one_eq_mod,Nat.mod_eq_of_lt (by omega)] at this
 exact this
theorem and511 {n:Nat} (h:n<4294967296):andI .u32 (n:Int) 511=((n%512:Nat):Int):=by
 have:=andI_nat (k := .u32) rfl n (2^9-1) (by simp only [IntKind.bits];omega) (by decide)
 rw [Nat.and_two_pow_sub_one_eq_mod] at this
 exact this
def oneC (v:Value):Cells:=fun i=>match i with
 | 0=>some v
 | _=>none
theorem oneC_upd (v u:Value):updC (oneC v) 0 u=oneC u:=by funext i;rcases i with _|i<;>simp [updC,oneC]
theorem nw_1 {w:World} {κ:Addr→PT} (hk:∀w',Fm w w' []→w'.heap.size=w.heap.size+1→Blk w' w.heap.size (oneC (.int .u64 0))→κ ⟨w.heap.size,0,none⟩ w'):nw z196 196 κ w :=
 hk _ (Fm.refl w []).alloc (World.size_alloc _ _) (Blk.new.congr (by funext i;rcases i with _|i<;>simp [oneC,z196]))
theorem nw_rk {w:World} {κ:Addr→PT} (hk:∀w',Fm w w' []→w'.heap.size=w.heap.size+1→Blk w' w.heap.size (arrC .u32 64 fun _=>0)→κ ⟨w.heap.size,0,none⟩ w'):nw z229 229 κ w:=by
 refine hk _ (Fm.refl w []).alloc (World.size_alloc _ _) (Blk.new.congr ?_)
 funext i
 unfold z229 arrC
 rw [List.getElem?_toArray,List.getElem?_replicate]
def Nds (F:Cells):Prop:=∀i,i<513→∃x:Nd,x.ok∧F i=some x.v
theorem Nds.upd {F:Cells} {o:Nat} {x:Nd} (h:Nds F) (hx:x.ok):Nds (updC F o x.v):=by
 intro i hi
 unfold updC
 split
 ·exact ⟨x,hx,rfl⟩
 ·exact h i hi
def sn (cnt:Nat→Nat) (i:Nat):Nd:=⟨cnt i,0,i,0⟩
def prevI (pos:Nat):Nat:=if pos=0 then 511 else pos-1
theorem prevI_and {pos:Nat} (h:pos<400):andI .u32 (IntKind.u32.wrap ((pos:Int)-1)) 511=((prevI pos:Nat):Int):=by
 unfold prevI
 split
 ·subst_vars;rfl
 ·rw [wU32 (by omega) (by omega),show (pos:Int)-1=((pos-1:Nat):Int) by omega,and511 (by omega),Nat.mod_eq_of_lt (by omega)]
section
variable {w:World} {b nb cap L:Nat} {s:HU} {cnt:Nat→Nat} {Fn:Cells}
structure SC (s:HU) (cnt:Nat→Nat) (L:Nat):Prop where
 sym:s.symL=(L:Nat)
 l1:1≤L
 l256:L≤256
 cn:∀i,i<L→s.count i=(cnt i:Nat)
 lt:∀i,i<L→cnt i<2^18
theorem SC.symAt (C:SC s cnt L):s.at 265=some (.int .u16 (L:Nat)):=by show some (Value.int .u16 s.symL)=_;rw [C.sym]
theorem SC.cntAt (C:SC s cnt L) {i:Nat} (hi:i<L):s.at i=some (.int .u32 (cnt i:Nat)):=by
 have:=C.l256
 rw [HU.count_at s (by omega),C.cn i hi]
theorem SC.bk (C:SC s cnt L) {i:Nat} (hi:i<L):bk cnt i<19:=by
 have:=C.lt i hi
 unfold Go.Sx.bk
 exact (Nat.log2_lt (by omega)).mpr (by omega)
theorem SC.ab19 (C:SC s cnt L):abN cnt L 19=0:=by
 unfold abN
 rw [List.countP_eq_zero]
 intro a ha
 have:=C.bk (List.mem_range.mp ha)
 simp;omega
def Bcells (cnt:Nat→Nat) (L:Nat) (l:Nat→List Nat) (F:Cells):Prop:=∀h,h<19→∀j (hj:j<(l h).length),F (1+(abN cnt L (h+1)+j))=some (sn cnt (l h)[j]).v
theorem sort_one {n rb:Nat} {f:Nat→Int} {l:Nat→List Nat} {κ:Unit→PT} (C:SC s cnt L) (HB:Blk w b s.at) (HN:Blk w nb Fn) (hS:Som cap Fn) (hcap:513≤cap) (hF:Nds Fn) (HR:Blk w rb (arrC .u32 64 f)) (hn:n<L)
  (hb:Bks cnt n l) (hcell:Bcells cnt L l Fn) (f0:∀r,r≤19→f (r*2)=(abN cnt L r:Nat)) (f1:∀h,h<19→f ((h+1)*2+1)=((abN cnt L (h+1)+eqN cnt n h:Nat):Int)) (dbn:b≠nb) (dbr:b≠rb) (dnr:nb≠rb)
  (hk:∀w' l' (f':Nat→Int) F',Bks cnt (n+1) l'→Bcells cnt L l' F'→Nds F'→Som cap F'→(∀r,r≤19→f' (r*2)=(abN cnt L r:Nat))→(∀h,h<19→f' ((h+1)*2+1)=((abN cnt L (h+1)+eqN cnt (n+1) h:Nat):Int))→Blk w' nb F'→Blk w' rb (arrC .u32 64 f')→Fm w w' [nb,rb]→κ () w') :
  joinP (q122_X6 ⟨some ⟨nb,1,none⟩,512,cap-1⟩ ⟨rb,0,none⟩ ⟨some ⟨b,0,none⟩,L,256⟩ (n:Int)) κ w:=by
 have hL:=C.l256
 have hc18:=C.lt n hn
 have hbk:=C.bk hn
 refine joinP_id ?_
 unfold q122_X6
 refine ixS_o rfl hn ?_
 rw [Nat.zero_add]
 refine ld_b (t := .I .u32) (x:=((cnt n:Nat):Int)) HB (C.cntAt hn) ?_
 rw [wU32 (x:=((cnt n:Nat):Int)+1) (by omega) (by omega),show ((cnt n:Nat):Int)+1=((cnt n+1:Nat):Int) by omega]
 refine c64 (by omega) (by omega) ?_
 have hlog:(cnt n+1).log2=bk cnt n:=rfl
 rw [hlog]
 have er:andI .u32 (IntKind.u32.wrap (((bk cnt n:Nat):Int)+1)) 31=((bk cnt n+1:Nat):Int):=by
  rw [wU32 (by omega) (by omega),show ((bk cnt n:Nat):Int)+1=((bk cnt n+1:Nat):Int) by omega,and31 (by omega)]
 rw [er]
 have hcur:=f1 _ hbk
 have hbase:=f0 (bk cnt n+1) (by omega)
 have hlen:=hb.len (bk cnt n)
 have hpos:abN cnt L (bk cnt n+1)+eqN cnt n (bk cnt n)<L:=by
  have h1:=abN_split cnt L (bk cnt n)
  have h2:=eqN_mono cnt (bk cnt n) (show n+1≤L by omega)
  have h3:=eqN_succ cnt n (bk cnt n)
  rw [if_pos rfl] at h3
  have h4:=abN_le cnt L (bk cnt n)
  omega
 have hoth:∀h j,h<19→h≠bk cnt n→j<(l h).length→abN cnt L (h+1)+j<abN cnt L (bk cnt n+1)∨abN cnt L (bk cnt n+1)+eqN cnt n (bk cnt n)<abN cnt L (h+1)+j:=by
  intro h j hh hne hj
  rw [hb.len] at hj
  have e1:=eqN_mono cnt h (show n≤L by omega)
  have e2:=abN_split cnt L h
  have e3:=abN_split cnt L (bk cnt n)
  have e4:=eqN_mono cnt (bk cnt n) (show n+1≤L by omega)
  have e5:=eqN_succ cnt n (bk cnt n)
  rw [if_pos rfl] at e5
  rcases Nat.lt_or_gt_of_ne hne with h1|h1
  ·right
   have:=abN_anti cnt L (show h+1≤bk cnt n by omega)
   omega
  ·left
   have:=abN_anti cnt L (show bk cnt n+1≤h by omega)
   omega
 have heq:∀h,eqN cnt (n+1) h=eqN cnt n h+if bk cnt n=h then 1 else 0:=eqN_succ cnt n
 have hcl:=hcell _ hbk
 have hins:=fun j a b c=>hb.ins (j:=j) a b c
 have hsn:∀i,i<L→(sn cnt i).ok:=fun i hi=>⟨by show cnt i<2^32;have:=C.lt i hi;omega,by show 0<2^16;decide,by show i<2^8;omega,by show 0<2^8;decide⟩
 have hlm:∀a∈l (bk cnt n),a<L:=fun a ha=>by have:=hb.mem.mp ha;omega
 refine ixA_b (k:=bk cnt n+1) rfl (by omega) ?_
 simp only [add_mk,Nat.zero_add]
 refine ld_b (t := .I .u32) (x:=((abN cnt L (bk cnt n+1)+eqN cnt n (bk cnt n):Nat):Int)) HR (by rw [arrC_get (by omega),hcur];rfl) ?_
 refine ixA_b (k:=bk cnt n+1) rfl (by omega) ?_
 simp only [add_mk,Nat.zero_add]
 refine ld_b (t := .I .u32) (x:=((abN cnt L (bk cnt n+1)+eqN cnt n (bk cnt n):Nat):Int)) HR (by rw [arrC_get (by omega),hcur];rfl) ?_
 refine ixA_b (k:=bk cnt n+1) rfl (by omega) ?_
 simp only [add_mk,Nat.zero_add]
 refine st_u HR (by rw [arrC_get (by omega)];rfl) rfl ?_
 intro w1 HR1 F1
 rw [arrC_upd (by omega)] at HR1
 have HN1:=HN.fr F1 (nm1 dnr)
 generalize hB:abN cnt L (bk cnt n+1)=B at *
 generalize hK:eqN cnt n (bk cnt n)=k at *
 rw [wU32 (x:=((B+k:Nat):Int)+1) (by omega) (by omega)] at HR1
 rw [prevI_and (by omega)]
 have hp512:∀p,p<400→prevI p<512:=by intro p hp;unfold prevI;split<;>omega
 refine ixS_o rfl (hp512 _ (by omega)) ?_
 obtain ⟨x0,hx0,hx0c⟩:=hF (1+prevI (B+k)) (by have:=hp512 (B+k) (by omega);omega)
 refine ld_b (t := .I .u64) (x:=((x0.n:Nat):Int)) HN1 hx0c ?_
 refine nw_1 ?_
 intro w2 F2 hs2 B2
 have hnl:=HN1.lt
 have hrl:=HR1.lt
 have dpn:nb≠w1.heap.size:=by omega
 have dpr:rb≠w1.heap.size:=by omega
 have hpb:=F1.size
 generalize w1.heap.size=pb at *
 refine st_u B2 rfl rfl ?_
 intro w3 B3 F3
 rw [oneC_upd] at B3
 have HN3:=(HN1.fr F2 (by simp)).fr F3 (nm1 dpn)
 have HR3:=(HR1.fr F2 (by simp)).fr F3 (nm1 dpr)
 have F03:Fm w w3 [nb,rb,pb]:=((F1.mono (S' := [nb,rb,pb]) (by intro v hv;simp at hv;simp [hv])).trans F2 (by simp)).trans F3 (by intro v hv;simp at hv;simp [hv])
 refine ⟨fun x w'=>∃(j:Nat) (F':Cells),x=((B+j:Nat):Int)∧j≤k∧Blk w' nb F'∧Nds F'∧Som cap F'∧Blk w' rb (arrC .u32 64 (updF f ((bk cnt n+1)*2+1) (((B+k:Nat):Int)+1)))∧(∀q,q<1+B∨1+(B+k)<q→F' q=Fn q)∧(∀i (h:i<(l (bk cnt n)).length),i<j→F' (1+(B+i))=some (sn cnt (l (bk cnt n))[i]).v) ∧
   (∀i (h:i<(l (bk cnt n)).length),j≤i→F' (1+(B+(i+1)))=some (sn cnt (l (bk cnt n))[i]).v∧cnt (l (bk cnt n))[i]<cnt n)∧(∀h:0<j,∃h':j-1<(l (bk cnt n)).length,cnt n≤cnt (l (bk cnt n))[j-1])∧Fm w w' [nb,rb,pb],?_,?_⟩
 ·rintro x w4 ⟨j,F4,rfl,hj,HN4,hN4,hS4,HR4,hq4,hi4,hr4,hm4,Fr4⟩
  unfold q122_J4
  rw [wU8 (x:=(n:Int)) (by omega) (by omega)]
  refine c154 (by omega) (by omega) ?_
  rw [and511 (by omega),Nat.mod_eq_of_lt (by omega)]
  refine ixS_o rfl (by omega) ?_
  refine st_u HN4 (hS4 _ (by omega)) rfl ?_
  intro w5 HN5 F5
  have hj2:j≤(l (bk cnt n)).length:=by omega
  have hnb:Bks cnt (n+1) (fun h=>if h=bk cnt n then (l h).take j++n::(l h).drop j else l h):=hins j hj2 (fun h=>(hm4 h).choose_spec) (fun i h hji=>(hr4 i h hji).2)
  refine hk w5 _ _ _ hnb ?_ (hN4.upd (hsn n hn)) hS4.upd ?_ ?_ HN5 (HR4.fr F5 (nm1 dnr.symm)) ?_
  ·intro h hh i hi
   unfold updC
   by_cases e:h=bk cnt n
   ·subst e
    simp only [if_true] at hi ⊢
    rw [hB]
    rw [List.length_append,List.length_take,List.length_cons,List.length_drop,Nat.min_eq_left hj2] at hi
    by_cases e2:i<j
    ·rw [if_neg (by omega)]
     have:((l (bk cnt n)).take j++n::(l (bk cnt n)).drop j)[i]'(by rw [List.length_append,List.length_take,List.length_cons,List.length_drop,Nat.min_eq_left hj2];exact hi)=(l (bk cnt n))[i]'(by omega):=by
      rw [List.getElem_append_left (by rw [List.length_take];omega),List.getElem_take]
     rw [this]
     exact hi4 i (by omega) e2
    ·by_cases e3:i=j
     ·subst e3
      rw [if_pos rfl]
      have:((l (bk cnt n)).take i++n::(l (bk cnt n)).drop i)[i]'(by rw [List.length_append,List.length_take,List.length_cons,List.length_drop,Nat.min_eq_left hj2];exact hi)=n:=by
       rw [List.getElem_append_right (by rw [List.length_take];omega)]
       simp [Nat.min_eq_left hj2]
      rw [this]
     ·rw [if_neg (by omega)]
      have:((l (bk cnt n)).take j++n::(l (bk cnt n)).drop j)[i]'(by rw [List.length_append,List.length_take,List.length_cons,List.length_drop,Nat.min_eq_left hj2];exact hi)=(l (bk cnt n))[i-1]'(by omega):=by
       rw [List.getElem_append_right (by rw [List.length_take];omega)]
       simp only [List.length_take,Nat.min_eq_left hj2]
       rw [List.getElem_cons,dif_neg (by omega),List.getElem_drop]
       congr 1;omega
      rw [this]
      have:=(hr4 (i-1) (by omega) (by omega)).1
      rw [show i-1+1=i by omega] at this
      exact this
   ·simp only [if_neg e] at hi ⊢
    have ho:=hoth h i hh e hi
    rw [if_neg (by omega),hq4 _ (by omega)]
    exact hcell h hh i hi
  ·intro r hr
   unfold updF
   rw [if_neg (by omega)]
   exact f0 r hr
  ·intro h hh
   unfold updF
   rw [heq]
   by_cases e:h=bk cnt n
   ·subst e
    rw [if_pos rfl,if_pos rfl,hB,hK];omega
   ·rw [if_neg (by omega),if_neg (fun e2=>e e2.symm)]
    exact f1 h hh
  ·refine (Fr4.trans F5 (by intro v hv;simp at hv;simp [hv])).mono ?_
   intro v hv
   simp only [List.mem_cons,List.not_mem_nil,or_false] at hv
   rcases hv with rfl|rfl|rfl
   ·left;simp
   ·left;simp
   ·right
    exact hpb
 ·refine ⟨fun x w'=>∃(j:Nat) (F':Cells) (x':Nd),x=((B+j:Nat):Int)∧j≤k∧Blk w' nb F'∧Nds F'∧Som cap F'∧Blk w' rb (arrC .u32 64 (updF f ((bk cnt n+1)*2+1) (((B+k:Nat):Int)+1)))∧(∀q,q<1+B∨1+(B+k)<q→F' q=Fn q)∧(∀i (h:i<(l (bk cnt n)).length),i<j→F' (1+(B+i))=some (sn cnt (l (bk cnt n))[i]).v) ∧
   (∀i (h:i<(l (bk cnt n)).length),j≤i→F' (1+(B+(i+1)))=some (sn cnt (l (bk cnt n))[i]).v∧cnt (l (bk cnt n))[i]<cnt n)∧x'.ok∧F' (1+prevI (B+j))=some x'.v∧Blk w' pb (oneC x'.v)∧Fm w w' [nb,rb,pb],fun x _=>x.toNat,
   ⟨k,Fn,x0,rfl,Nat.le_refl _,HN3,hF,hS,HR3,fun q _=>rfl,fun i h _=>hcl i h,fun i h hji=>by omega,hx0,hx0c,B3,F03⟩,?_⟩
  rintro x w4 ⟨j,F4,x4,rfl,hj,HN4,hN4,hS4,HR4,hq4,hi4,hr4,hx4,hx4c,HP4,Fr4⟩
  unfold q122_L3
  rw [er]
  refine ixA_b (k:=bk cnt n+1) rfl (by omega) ?_
  simp only [add_mk,Nat.zero_add]
  refine ld_b (t := .I .u32) (x:=((B:Nat):Int)) HR4 (by rw [arrC_get (by omega)];unfold updF;rw [if_neg (by omega),hbase];rfl) ?_
  refine cnd_d ?_ ?_
  ·intro hc
   have hj0:0<j:=by omega
   have hj1:j-1<(l (bk cnt n)).length:=by omega
   have hpv:prevI (B+j)=B+(j-1):=by unfold prevI;rw [if_neg (by omega)];omega
   have hx4e:x4.v=(sn cnt (l (bk cnt n))[j-1]).v:=by
    have h1:=hi4 (j-1) hj1 (by omega)
    rw [hpv,h1] at hx4c
    injection hx4c with h2
    exact h2.symm
   have hso:=hsn _ (hlm _ (List.getElem_mem hj1))
   rw [hx4e] at HP4
   refine c123 HP4 rfl hso ?_
   refine cnd_d ?_ ?_
   ·intro hc2
    refine ld_b (t := .I .u64) (x:=(((sn cnt (l (bk cnt n))[j-1]).n:Nat):Int)) HP4 rfl ?_
    rw [and511 (by omega),Nat.mod_eq_of_lt (by omega)]
    refine ixS_o rfl (by omega) ?_
    refine st_u HN4 (hS4 _ (by omega)) rfl ?_
    intro w5 HN5 F5
    rw [wU32 (x:=((B+j:Nat):Int)-1) (by omega) (by omega),show ((B+j:Nat):Int)-1=((B+(j-1):Nat):Int) by omega,prevI_and (by omega)]
    refine ixS_o rfl (hp512 _ (by omega)) ?_
    have hNd5:Nds (updC F4 (1+(B+j)) (.int .u64 (((sn cnt (l (bk cnt n))[j-1]).n:Nat):Int))):=hN4.upd hso
    obtain ⟨x5,hx5,hx5c⟩:=hNd5 (1+prevI (B+(j-1))) (by have:=hp512 (B+(j-1)) (by omega);omega)
    refine ld_b (t := .I .u64) (x:=((x5.n:Nat):Int)) HN5 hx5c ?_
    refine st_u (HP4.fr F5 (nm1 dpn.symm)) rfl rfl ?_
    intro w6 HP6 F6
    rw [oneC_upd] at HP6
    refine ⟨⟨j-1,_,x5,rfl,by omega,HN5.fr F6 (nm1 dpn),hNd5,hS4.upd,(HR4.fr F5 (nm1 dnr.symm)).fr F6 (nm1 dpr),?_,?_,?_,hx5,hx5c,HP6,(Fr4.trans F5 (by intro v hv;simp at hv;simp [hv])).trans F6 (by intro v hv;simp at hv;simp [hv])⟩,by first|omega|(dsimp only;omega)⟩
    ·intro q hq
     unfold updC
     rw [if_neg (by omega)]
     exact hq4 q hq
    ·intro i h hi
     unfold updC
     rw [if_neg (by omega)]
     exact hi4 i h (by omega)
    ·intro i h hi
     unfold updC
     by_cases e:i=j-1
     ·subst e
      rw [if_pos (by omega)]
      refine ⟨rfl,?_⟩
      have:((cnt (l (bk cnt n))[j-1]:Nat):Int)<((cnt n:Nat):Int):=hc2
      omega
     ·rw [if_neg (by omega)]
      exact hr4 i h (by omega)
   ·intro hc2
    refine ⟨j,F4,rfl,hj,HN4,hN4,hS4,HR4,hq4,hi4,hr4,fun _=>⟨hj1,?_⟩,Fr4⟩
    have:¬((cnt (l (bk cnt n))[j-1]:Nat):Int)<((cnt n:Nat):Int):=hc2
    omega
  ·intro hc
   exact ⟨j,F4,rfl,hj,HN4,hN4,hS4,HR4,hq4,hi4,hr4,fun h=>by omega,Fr4⟩
end
section
variable {w:World} {b nb cap L:Nat} {s:HU} {cnt:Nat→Nat} {Fn:Cells}
theorem c122 {K:Unit→PT} {l0:Nat} (C:SC s cnt L) (HB:Blk w b s.at) (hnod:s.nodes=⟨some ⟨nb,0,none⟩,l0,cap⟩) (hcap:513≤cap) (HN:Blk w nb Fn) (hS:Som cap Fn) (hF:Nds Fn) (dbn:b≠nb)
  (hk:∀w' σ F',Srt cnt L σ→Nds F'→Som cap F'→(∀i (h:i<σ.length),F' (1+i)=some (sn cnt σ[i]).v)→Blk w' nb F'→Blk w' b ({ s with nodes:=⟨some ⟨nb,0,none⟩,513,cap⟩ } : HU).at→Fm w w' [b,nb]→K () w') :
  callP Tryd.prog 122 #[.pointer (some ⟨b,0,none⟩)] [] K w:=by
 apply q122_ok
 unfold q122
 have hL:=C.l256
 have hL1:=C.l1
 have hbl:=HB.lt
 have hnl:=HN.lt
 simp only [add_mk,Nat.zero_add]
 refine ld_b (t := .S) (x:=⟨some ⟨nb,0,none⟩,l0,cap⟩) HB (by show some s.nodes.val=_;rw [hnod];rfl) ?_
 refine slc_hi (m:=513) rfl hcap ?_
 refine st_u HB rfl rfl ?_
 intro w1 HB1 F1
 have HB1':=HB1.congr (HU.setT (s' := { s with nodes:=⟨some ⟨nb,0,none⟩,513,cap⟩ }) 17 rfl rfl rfl (by decide))
 have C1:SC ({ s with nodes:=⟨some ⟨nb,0,none⟩,513,cap⟩ } : HU) cnt L:=⟨C.sym,C.l1,C.l256,C.cn,C.lt⟩
 have HN1:=HN.fr F1 (nm1 dbn.symm)
 generalize ({ s with nodes:=⟨some ⟨nb,0,none⟩,513,cap⟩ } : HU)=s1 at *
 refine slc_lh (n:=1) (m:=513) rfl rfl (by omega) hcap ?_
 have e4:(⟨slA (some ⟨nb,0,none⟩) 1 cap 1,513-1,cap-1⟩:Sl)=⟨some ⟨nb,1,none⟩,512,cap-1⟩:=by
  unfold slA
  rw [if_neg (by omega)]
  simp [add_mk]
 simp only [e4]
 refine nw_rk ?_
 intro w2 F2 hs2 HR2
 have hb1:=HB1'.lt
 have hn1:=HN1.lt
 have dbr:b≠w1.heap.size:=by omega
 have dnr:nb≠w1.heap.size:=by omega
 have hrb:=F1.size
 generalize w1.heap.size=rb at *
 have HB2:=HB1'.fr F2 (by simp)
 have HN2:=HN1.fr F2 (by simp)
 have F02:Fm w w2 [b,nb,rb]:=(F1.mono (by intro v hv;simp at hv;simp [hv])).trans F2 (by simp)
 refine joinP_id ?_
 unfold drw
 refine ld_b (t := .I .u16) (x:=((L:Nat):Int)) HB2.drew C1.symAt ?_
 refine slcA_hi rfl hL (by omega) ?_
 refine ⟨fun x w'=>∃(i:Nat) (f:Nat→Int),x=(i:Int)∧i≤L∧(∀r,r<32→f (r*2)=(eqN cnt i r:Nat)∧f (r*2+1)=0)∧Blk w' rb (arrC .u32 64 f)∧Fm w2 w' [rb],fun x _=>L-x.toNat,
  ⟨0,_,rfl,Nat.zero_le _,fun r _=>⟨rfl,rfl⟩,HR2.drew,(Fm.refl _ _).drew⟩,?_⟩
 rintro x w3 ⟨i,f,rfl,hi,hf,HR3,Fr3⟩
 unfold q122_L0
 refine cnd_d ?_ ?_
 ·intro hc
  have hi2:i<L:=by simp only at hc;omega
  have HB3:=HB2.fr Fr3 (nm1 dbr)
  have hcl:=C1.lt i hi2
  refine ixS_o rfl hi2 ?_
  rw [Nat.zero_add]
  refine ld_b (t := .I .u32) (x:=((cnt i:Nat):Int)) HB3 (C1.cntAt hi2) ?_
  rw [wU32 (x:=((cnt i:Nat):Int)+1) (by omega) (by omega),show ((cnt i:Nat):Int)+1=((cnt i+1:Nat):Int) by omega]
  refine c64 (by omega) (by omega) ?_
  have hbk:=C1.bk hi2
  have hbk2:(cnt i+1).log2=bk cnt i:=rfl
  rw [hbk2,and31 (by omega)]
  refine ixA_b (k:=bk cnt i) rfl (by omega) ?_
  rw [Nat.zero_add]
  refine ld_b (t := .I .u32) (x:=((eqN cnt i (bk cnt i):Nat):Int)) HR3 (by rw [arrC_get (by omega),(hf _ (by omega)).1];rfl) ?_
  refine ixA_b (k:=bk cnt i) rfl (by omega) ?_
  rw [Nat.zero_add]
  refine st_u HR3 (by rw [arrC_get (by omega)];rfl) rfl ?_
  intro w4 HR4 F4
  rw [arrC_upd (by omega)] at HR4
  have hle:eqN cnt i (bk cnt i)≤i:=by unfold eqN;exact Nat.le_trans List.countP_le_length (by simp)
  rw [wU32 (x:=((eqN cnt i (bk cnt i):Nat):Int)+1) (by omega) (by omega)] at HR4
  rw [wI64 (x:=(i:Int)+1) (by omega) (by omega)]
  refine ⟨⟨i+1,_,by simp,by omega,?_,HR4,Fr3.trans F4 (fun x hx => .inl hx)⟩,by first|omega|(dsimp only;omega)|(simp only [];omega)⟩
  intro r hr
  unfold updF
  rw [eqN_succ]
  refine ⟨?_,?_⟩
  ·by_cases e:bk cnt i=r
   ·subst e;rw [if_pos rfl,if_pos rfl];omega
   ·rw [if_neg (by omega),if_neg e];exact (hf r hr).1
  ·rw [if_neg (by omega)];exact (hf r hr).2
 ·intro hc
  have hi2:i=L:=by simp only at hc;omega
  subst hi2
  have h19:=C1.ab19
  have h20:eqN cnt i 19=0∧abN cnt i 20=0:=by have h:abN cnt i 19=eqN cnt i 19+abN cnt i 20:=abN_split cnt i 19;omega
  unfold q122_J10
  refine joinP_id ?_
  refine ⟨fun x w'=>∃(y:Nat) (f:Nat→Int),x=(y:Int)∧y≤19∧(∀r,r≤19→f (r*2)=((if y≤r then abN cnt i r else eqN cnt i r:Nat):Int))∧(∀r,r<32→f (r*2+1)=0)∧Blk w' rb (arrC .u32 64 f)∧Fm w2 w' [rb],fun x _=>x.toNat,
   ⟨19,f,rfl,Nat.le_refl _,?_,fun r hr=>(hf r hr).2,HR3,Fr3⟩,?_⟩
  ·intro r hr
   rw [(hf r (by omega)).1]
   split
   ·have:r=19:=by omega
    subst this;omega
   ·rfl
  rintro x w4 ⟨y,f4,rfl,hy,hb4,hc4,HR4,Fr4⟩
  unfold q122_L1
  refine cnd_d ?_ ?_
  ·intro hc2
   unfold drw
   have e1:IntKind.i64.wrap ((y:Int)-1)=((y-1:Nat):Int):=by rw [wI64 (by omega) (by omega)];omega
   rw [e1]
   have hsp:=abN_split cnt i (y-1)
   rw [show y-1+1=y by omega] at hsp
   have hle:=abN_le cnt i (y-1)
   have v1:=hb4 (y-1) (by omega)
   have v2:=hb4 y (by omega)
   rw [if_neg (by omega)] at v1
   rw [if_pos (by omega)] at v2
   refine ixA_b (k:=y-1) rfl (by omega) ?_
   rw [Nat.zero_add]
   refine ld_b (t := .I .u32) (x:=((eqN cnt i (y-1):Nat):Int)) HR4.drew (by rw [arrC_get (by omega),v1];rfl) ?_
   refine ixA_b (k:=y) rfl (by omega) ?_
   rw [Nat.zero_add]
   refine ld_b (t := .I .u32) (x:=((abN cnt i y:Nat):Int)) HR4.drew (by rw [arrC_get (by omega),v2];rfl) ?_
   refine ixA_b (k:=y-1) rfl (by omega) ?_
   rw [Nat.zero_add]
   refine st_u HR4.drew (by rw [arrC_get (by omega)];rfl) rfl ?_
   intro w5 HR5 F5
   rw [arrC_upd (by omega),wU32 (by omega) (by omega)] at HR5
   refine ⟨⟨y-1,_,rfl,by omega,?_,?_,HR5,Fr4.drew.trans F5 (fun x hx => .inl hx)⟩,by first|omega|(dsimp only;omega)|(simp only [];omega)⟩
   ·intro r hr
    unfold updF
    by_cases e:r=y-1
    ·subst e;rw [if_pos rfl,if_pos (Nat.le_refl _)];omega
    ·rw [if_neg (by omega),hb4 r hr]
     by_cases e2:y≤r
     ·rw [if_pos e2,if_pos (by omega)]
     ·rw [if_neg e2,if_neg (by omega)]
   ·intro r hr
    unfold updF
    rw [if_neg (by omega)]
    exact hc4 r hr
  ·intro hc2
   have hy0:y=0:=by omega
   subst hy0
   simp only [Nat.zero_le,if_true] at hb4
   unfold q122_J9
   refine joinP_id ?_
   refine ⟨0,19,32,rfl,⟨rfl,by omega⟩,rfl,?_⟩
   refine ⟨fun x w'=>∃(y:Nat) (f:Nat→Int),x=(y:Int)∧y≤19∧(∀r,r≤19→f (r*2)=(abN cnt i r:Nat))∧(∀r,r<32→f (r*2+1)=((if r<y then abN cnt i r else 0:Nat):Int))∧Blk w' rb (arrC .u32 64 f)∧Fm w2 w' [rb],fun x _=>19-x.toNat,
    ⟨0,f4,rfl,Nat.zero_le _,hb4,fun r hr=>by rw [hc4 r hr];rfl,HR4,Fr4⟩,?_⟩
   rintro x w5 ⟨y,f5,rfl,hy,hb5,hc5,HR5,Fr5⟩
   unfold q122_L2
   refine cnd_d ?_ ?_
   ·intro hc3
    have hy2:y<19:=by simp only at hc3;omega
    refine ixA_b (k:=y) rfl (by omega) ?_
    rw [Nat.zero_add]
    refine ld_b (t := .I .u32) (x:=((abN cnt i y:Nat):Int)) HR5 (by rw [arrC_get (by omega),hb5 y hy];rfl) ?_
    refine ixA_b (k:=y) rfl (by omega) ?_
    simp only [add_mk,Nat.zero_add]
    refine st_u HR5 (by rw [arrC_get (by omega)];rfl) rfl ?_
    intro w6 HR6 F6
    rw [arrC_upd (by omega)] at HR6
    rw [wI64 (x:=(y:Int)+1) (by omega) (by omega)]
    refine ⟨⟨y+1,_,by simp,by omega,?_,?_,HR6,Fr5.trans F6 (fun x hx => .inl hx)⟩,by first|omega|(dsimp only;omega)⟩
    ·intro r hr
     unfold updF
     rw [if_neg (by omega)]
     exact hb5 r hr
    ·intro r hr
     unfold updF
     by_cases e:r=y
     ·subst e;rw [if_pos rfl,if_pos (by omega)]
     ·rw [if_neg (by omega),hc5 r hr]
      by_cases e2:r<y
      ·rw [if_pos e2,if_pos (by omega)]
      ·rw [if_neg e2,if_neg (by omega)]
   ·intro hc3
    have hy2:y=19:=by simp only at hc3;omega
    subst hy2
    have HB5:=HB2.fr Fr5 (nm1 dbr)
    have HN5:=HN2.fr Fr5 (nm1 dnr)
    have F05:Fm w w5 [b,nb,rb]:=F02.trans Fr5 (by intro v hv;simp at hv;simp [hv])
    unfold q122_J8 drw
    simp only [add_mk,Nat.zero_add]
    refine ld_b (t := .I .u16) (x:=((i:Nat):Int)) HB5.drew C1.symAt ?_
    refine slcA_hi rfl hL (by omega) ?_
    refine ⟨fun x w'=>∃(n:Nat) (l:Nat→List Nat) (f:Nat→Int) (F':Cells),x=(n:Int)∧n≤i∧Bks cnt n l∧Bcells cnt i l F'∧Nds F'∧Som cap F'∧(∀r,r≤19→f (r*2)=(abN cnt i r:Nat))∧(∀h,h<19→f ((h+1)*2+1)=((abN cnt i (h+1)+eqN cnt n h:Nat):Int))∧Blk w' nb F'∧Blk w' rb (arrC .u32 64 f)∧Fm w w' [b,nb,rb]∧Fm w5 w' [nb,rb],fun x _=>i-x.toNat,
     ⟨0,fun _ => [],f5,Fn,rfl,Nat.zero_le _,Bks.zero cnt,(fun h _ j hj=>absurd hj (Nat.not_lt_zero _)),hF,hS,hb5,?_,HN5.drew,HR5.drew,F05.drew,(Fm.refl _ _).drew⟩,?_⟩
    ·intro h hh
     have e0:eqN cnt 0 h=0:=rfl
     rw [hc5 (h+1) (by omega),e0]
     by_cases e:h+1<19
     ·rw [if_pos e];rfl
     ·rw [if_neg e,show h+1=19 by omega,h19]
    rintro x w6 ⟨n,l,f6,F6,rfl,hn,hbk,hcell,hN6,hS6,g0,g1,HN6,HR6,Fr6,Fr56⟩
    unfold q122_L7
    refine cnd_d ?_ ?_
    ·intro hc4
     have hn2:n<i:=by simp only at hc4;omega
     refine sort_one C1 (HB5.fr Fr56 (by simp;exact ⟨dbn,dbr⟩)) HN6 hS6 hcap hN6 HR6 hn2 hbk hcell g0 g1 dbn dbr dnr ?_
     intro w7 l7 f7 F7 hbk7 hcell7 hN7 hS7 g07 g17 HN7 HR7 Fr7
     unfold q122_J5
     rw [wI64 (x:=(n:Int)+1) (by omega) (by omega)]
     refine ⟨⟨n+1,l7,f7,F7,by simp,by omega,hbk7,hcell7,hN7,hS7,g07,g17,HN7,HR7,Fr6.trans Fr7 ?_,Fr56.trans Fr7 (fun x hx => .inl hx)⟩,by first|omega|(dsimp only;omega)|(simp only [];omega)⟩
     intro v hv;simp only [List.mem_cons,List.not_mem_nil,or_false] at hv;left;rcases hv with rfl|rfl<;>simp
    ·intro hc4
     have hn2:n=i:=by simp only at hc4;omega
     subst hn2
     have hsrt:=hbk.srt (fun j hj=>C1.bk hj)
     have hcat:∀h,h≤19→∀j (hj:j<(catB l h).length),F6 (1+(abN cnt n h+j))=some (sn cnt (catB l h)[j]).v:=by
      intro h
      induction h with
      | zero=>intro _ j hj;simp [catB] at hj
      | succ h ih =>
       intro hh j hj
       simp only [catB] at hj ⊢
       by_cases e:j<(l h).length
       ·rw [List.getElem_append_left e]
        exact hcell h (by omega) j e
       ·rw [List.getElem_append_right (by omega)]
        rw [List.length_append] at hj
        have h1:=ih (by omega) (j-(l h).length) (by omega)
        have h2:=abN_split cnt n h
        have h3:=hbk.len h
        rw [show abN cnt n h+(j-(l h).length)=abN cnt n (h+1)+j by omega] at h1
        exact h1
     refine hk w6 _ F6 hsrt hN6 hS6 ?_ HN6 (HB5.fr Fr56 (by simp;exact ⟨dbn,dbr⟩)) ?_
     ·intro j hj
      have:=hcat 19 (Nat.le_refl _) j hj
      rw [h19,Nat.zero_add] at this
      exact this
     ·refine Fr6.mono ?_
      intro v hv
      simp only [List.mem_cons,List.not_mem_nil,or_false] at hv
      rcases hv with rfl|rfl|rfl
      ·left;simp
      ·left;simp
      ·right;exact hrb
end
def sF (g:Nat→Nat) (a:Nat):Nat→Nat
 | 0=>0
 | n+1=>sF g a n+g (a+n)
theorem sF_congr {g h:Nat→Nat} {a:Nat} : ∀ {n:Nat},(∀i,a≤i→i<a+n→g i=h i)→sF g a n=sF h a n
 | 0,_=>rfl
 | n+1,e=>by rw [sF,sF,sF_congr (fun i h1 h2=>e i h1 (by omega)),e (a+n) (by omega) (by omega)]
theorem sF_front (g:Nat→Nat) (a:Nat):∀n,sF g a (n+1)=g a+sF g (a+1) n
 | 0=>by simp [sF]
 | n+1=>by
  rw [sF,sF_front g a n,sF]
  rw [show a+1+n=a+(n+1) by omega];omega
theorem sF_mem (g:Nat→Nat) (a:Nat):∀ {n i:Nat},a≤i→i<a+n→g i≤sF g a n
 | 0,i,h1,h2=>by omega
 | n+1,i,h1,h2=>by
  rw [sF]
  by_cases e:i=a+n
  ·subst e;omega
  ·have:=sF_mem g a (n:=n) h1 (by omega);omega
def updN (f:Nat→Nat) (o v:Nat):Nat→Nat:=fun i=>if i=o then v else f i
theorem updN_eq (f:Nat→Nat) (o v:Nat):updN f o v o=v:=if_pos rfl
theorem updN_ne {f:Nat→Nat} {o v i:Nat} (h:i≠o):updN f o v i=f i:=if_neg h
structure PK (N L tot:Nat) (c p:Nat→Nat) (P:List Nat) (k lo hi:Nat):Prop where
 n2:2≤N
 nl:N≤L
 ll:lo≤N
 h1:L≤hi
 h2:hi≤k
 len:P.length+lo=N+(hi-L)
 k2:2*(k-L)≤P.length
 k3:P.length≤2*(k-L)+2
 par:∀t (h:t<P.length),p P[t]=L+t/2
 srt:∀t t' (h:t≤t') (h':t'<P.length),c P[t]≤c P[t']
 low:∀x∈P,∀y,(y<lo∨(hi≤y∧y<k))→c x≤c y
 mkd:∀v,L≤v→v<k→∃(h:2*(v-L)+1<P.length),c v=c (P[2*(v-L)])+c (P[2*(v-L)+1])
 mem:∀x,x∈P↔(lo≤x∧x<N)∨(L≤x∧x<hi)
 late:∀t (h:t<P.length),L≤P[t]→2*(P[t]-L)+2≤t
 pla:∀i j,lo≤i→i≤j→j<N→p j≤p i
 pia:∀u v,L≤u→u≤v→v<hi→p u≤p v
 kr:∀g:Nat→Nat,sF (fun i=>g (p i)) lo (N-lo)+sF (fun v=>g (p v)) L (hi-L)=sF (fun t=>g (L+t/2)) 0 P.length
 lsrt:∀i j,i≤j→j<N→c j≤c i
 isrt:∀u v,L≤u→u≤v→v<k→c u≤c v
 tot_:sF c 0 lo+sF c hi (k-hi)+sF (fun t=>c (P.getD t 0)) (2*(k-L)) (P.length-2*(k-L))=tot
section
variable {N L tot:Nat} {c p:Nat→Nat} {P:List Nat} {k lo hi:Nat}
theorem PK.start (h2:2≤N) (hl:N≤L) (hs:∀i j,i≤j→j<N→c j≤c i):PK N L (sF c 0 N) c p [] L N L:=by
 refine ⟨h2,hl,Nat.le_refl _,Nat.le_refl _,Nat.le_refl _,by simp,by simp,by simp,?_,?_,?_,?_,?_,?_,?_,?_,?_,hs,?_,?_⟩
 ·intro t h;simp at h
 ·intro t t' _ h;simp at h
 ·intro x hx;simp at hx
 ·intro v h1 h2;omega
 ·intro x
  constructor
  ·intro h;simp at h
  ·rintro (⟨h1,h2⟩|⟨h1,h2⟩)<;>omega
 ·intro t h;simp at h
 ·intro i j h1 h2 h3;omega
 ·intro u v h1 h2 h3;omega
 ·intro g;simp [sF]
 ·intro u v h1 h2 h3;omega
 ·simp [sF]
theorem PK.pickL (H:PK N L tot c p P k lo hi) (hlo:0<lo) (hm:P.length≤2*(k-L)+1) (hmin:hi<k→c (lo-1)≤c hi) :
  PK N L tot c (updN p (lo-1) (L+P.length/2)) (P ++ [lo-1]) k (lo-1) hi:=by
 have hn2:=H.n2
 have hnl:=H.nl
 have hll:=H.ll
 have hh1:=H.h1
 have hh2:=H.h2
 have hlen:=H.len
 have hk2:=H.k2
 have hk3:=H.k3
 have hx:lo-1∉P:=by
  intro h
  rcases (H.mem _).mp h with ⟨h1,h2⟩|⟨h1,h2⟩<;>omega
 have hp:∀y∈P,updN p (lo-1) (L+P.length/2) y=p y:=fun y hy=>updN_ne (fun e=>hx (e▸hy))
 have hlast:∀y∈P,c y≤c (lo-1):=fun y hy=>H.low y hy _ (.inl (by omega))
 have hpar:∀y∈P,p y≤L+P.length/2:=by
  intro y hy
  obtain ⟨t,ht,rfl⟩:=List.mem_iff_getElem.mp hy
  rw [H.par t ht];omega
 have hpl:(P ++ [lo-1]).length=P.length+1:=by rw [List.length_append,List.length_singleton]
 refine ⟨hn2,hnl,by omega,hh1,hh2,by rw [hpl];omega,by rw [hpl];omega,by rw [hpl];omega,?_,?_,?_,?_,?_,?_,?_,?_,?_,H.lsrt,H.isrt,?_⟩
 ·intro t ht
  rw [hpl] at ht
  by_cases e:t<P.length
  ·rw [List.getElem_append_left e,hp _ (List.getElem_mem e)]
   exact H.par t e
  ·have:t=P.length:=by omega
   subst this
   rw [List.getElem_concat_length rfl,updN_eq]
 ·intro t t' htt ht'
  rw [hpl] at ht'
  by_cases e:t'<P.length
  ·rw [List.getElem_append_left e,List.getElem_append_left (by omega)]
   exact H.srt t t' htt e
  ·have:t'=P.length:=by omega
   subst this
   rw [List.getElem_concat_length rfl]
   by_cases e2:t<P.length
   ·rw [List.getElem_append_left e2]
    exact hlast _ (List.getElem_mem e2)
   ·have:t=P.length:=by omega
    subst this
    rw [List.getElem_concat_length rfl]
    exact Nat.le_refl _
 ·intro x hx2 y hy
  rcases List.mem_append.mp hx2 with h|h
  ·exact H.low x h y (by omega)
  ·have hx3:x=lo-1:=by simpa using h
   subst hx3
   rcases hy with h3|⟨h3,h4⟩
   ·exact H.lsrt y (lo-1) (by omega) (by omega)
   ·exact Nat.le_trans (hmin (by omega)) (H.isrt hi y hh1 h3 h4)
 ·intro v h3 h4
  obtain ⟨h5,h6⟩:=H.mkd v h3 h4
  refine ⟨by rw [hpl];omega,?_⟩
  rw [List.getElem_append_left (by omega),List.getElem_append_left (by omega)]
  exact h6
 ·intro x
  rw [List.mem_append,H.mem,List.mem_singleton]
  omega
 ·intro t ht hLt
  rw [hpl] at ht
  by_cases e:t<P.length
  ·rw [List.getElem_append_left e] at hLt ⊢
   exact H.late t e hLt
  ·have:t=P.length:=by omega
   subst this
   rw [List.getElem_concat_length rfl] at hLt
   omega
 ·intro i j h3 h4 h5
  by_cases e:j=lo-1
  ·have:i=lo-1:=by omega
   subst this;subst e;exact Nat.le_refl _
  ·rw [updN_ne (i:=j) e]
   by_cases e2:i=lo-1
   ·subst e2;rw [updN_eq]
    exact hpar j ((H.mem j).mpr (.inl (by omega)))
   ·rw [updN_ne e2]
    exact H.pla i j (by omega) h4 h5
 ·intro u v h3 h4 h5
  rw [updN_ne (by omega),updN_ne (by omega)]
  exact H.pia u v h3 h4 h5
 ·intro g
  rw [hpl,sF, ←H.kr g,show N-(lo-1)=N-lo+1 by omega,sF_front,updN_eq,show lo-1+1=lo by omega,Nat.zero_add]
  have e1:sF (fun i=>g (updN p (lo-1) (L+P.length/2) i)) lo (N-lo)=sF (fun i=>g (p i)) lo (N-lo):=sF_congr (fun i h3 h4=>by rw [updN_ne (by omega)])
  have e2:sF (fun i=>g (updN p (lo-1) (L+P.length/2) i)) L (hi-L)=sF (fun i=>g (p i)) L (hi-L):=sF_congr (fun i h3 h4=>by rw [updN_ne (by omega)])
  rw [e1,e2];omega
 ·rw [hpl,show P.length+1-2*(k-L)=P.length-2*(k-L)+1 by omega,sF]
  have e1:sF (fun t=>c ((P ++ [lo-1]).getD t 0)) (2*(k-L)) (P.length-2*(k-L))=sF (fun t=>c (P.getD t 0)) (2*(k-L)) (P.length-2*(k-L)):=by
   refine sF_congr (fun i h3 h4 => ?_)
   rw [List.getD_eq_getElem?_getD,List.getElem?_append_left (by omega), ←List.getD_eq_getElem?_getD]
  have e2:(P ++ [lo-1]).getD (2*(k-L)+(P.length-2*(k-L))) 0=lo-1:=by
   rw [show 2*(k-L)+(P.length-2*(k-L))=P.length by omega,List.getD_eq_getElem?_getD,List.getElem?_append_right (by omega)]
   simp
  rw [e1,e2, ←H.tot_]
  have e3:sF c 0 lo=sF c 0 (lo-1)+c (lo-1):=by
   conv=>lhs;rw [show lo=lo-1+1 by omega,sF]
   rw [Nat.zero_add]
  omega
theorem PK.pickI (H:PK N L tot c p P k lo hi) (hhi:hi<k) (hm:P.length≤2*(k-L)+1) (hmin:0<lo→c hi≤c (lo-1)) :
  PK N L tot c (updN p hi (L+P.length/2)) (P ++ [hi]) k lo (hi+1):=by
 have hn2:=H.n2
 have hnl:=H.nl
 have hll:=H.ll
 have hh1:=H.h1
 have hh2:=H.h2
 have hlen:=H.len
 have hk2:=H.k2
 have hk3:=H.k3
 have hx:hi∉P:=by
  intro h
  rcases (H.mem _).mp h with ⟨h1,h2⟩|⟨h1,h2⟩<;>omega
 have hp:∀y∈P,updN p hi (L+P.length/2) y=p y:=fun y hy=>updN_ne (fun e=>hx (e▸hy))
 have hlast:∀y∈P,c y≤c hi:=fun y hy=>H.low y hy _ (.inr (by omega))
 have hpar:∀y∈P,p y≤L+P.length/2:=by
  intro y hy
  obtain ⟨t,ht,rfl⟩:=List.mem_iff_getElem.mp hy
  rw [H.par t ht];omega
 have hpl:(P ++ [hi]).length=P.length+1:=by rw [List.length_append,List.length_singleton]
 refine ⟨hn2,hnl,hll,by omega,by omega,by rw [hpl];omega,by rw [hpl];omega,by rw [hpl];omega,?_,?_,?_,?_,?_,?_,?_,?_,?_,H.lsrt,H.isrt,?_⟩
 ·intro t ht
  rw [hpl] at ht
  by_cases e:t<P.length
  ·rw [List.getElem_append_left e,hp _ (List.getElem_mem e)]
   exact H.par t e
  ·have:t=P.length:=by omega
   subst this
   rw [List.getElem_concat_length rfl,updN_eq]
 ·intro t t' htt ht'
  rw [hpl] at ht'
  by_cases e:t'<P.length
  ·rw [List.getElem_append_left e,List.getElem_append_left (by omega)]
   exact H.srt t t' htt e
  ·have:t'=P.length:=by omega
   subst this
   rw [List.getElem_concat_length rfl]
   by_cases e2:t<P.length
   ·rw [List.getElem_append_left e2]
    exact hlast _ (List.getElem_mem e2)
   ·have:t=P.length:=by omega
    subst this
    rw [List.getElem_concat_length rfl]
    exact Nat.le_refl _
 ·intro x hx2 y hy
  rcases List.mem_append.mp hx2 with h|h
  ·exact H.low x h y (by omega)
  ·have hx3:x=hi:=by simpa using h
   subst hx3
   rcases hy with h3|⟨h3,h4⟩
   ·exact Nat.le_trans (hmin (by omega)) (H.lsrt y (lo-1) (by omega) (by omega))
   ·exact H.isrt x y hh1 (by omega) h4
 ·intro v h3 h4
  obtain ⟨h5,h6⟩:=H.mkd v h3 h4
  refine ⟨by rw [hpl];omega,?_⟩
  rw [List.getElem_append_left (by omega),List.getElem_append_left (by omega)]
  exact h6
 ·intro x
  rw [List.mem_append,H.mem,List.mem_singleton]
  omega
 ·intro t ht hLt
  rw [hpl] at ht
  by_cases e:t<P.length
  ·rw [List.getElem_append_left e] at hLt ⊢
   exact H.late t e hLt
  ·have:t=P.length:=by omega
   subst this
   rw [List.getElem_concat_length rfl]
   omega
 ·intro i j h3 h4 h5
  rw [updN_ne (by omega),updN_ne (by omega)]
  exact H.pla i j h3 h4 h5
 ·intro u v h3 h4 h5
  by_cases e:v=hi
  ·subst e
   rw [updN_eq]
   by_cases e2:u=v
   ·subst e2;rw [updN_eq];exact Nat.le_refl _
   ·rw [updN_ne e2]
    exact hpar u ((H.mem u).mpr (.inr (by omega)))
  ·rw [updN_ne (i:=v) e,updN_ne (by omega)]
   exact H.pia u v h3 h4 (by omega)
 ·intro g
  rw [hpl,sF, ←H.kr g,show hi+1-L=hi-L+1 by omega,sF,show L+(hi-L)=hi by omega,updN_eq,Nat.zero_add]
  have e1:sF (fun i=>g (updN p hi (L+P.length/2) i)) lo (N-lo)=sF (fun i=>g (p i)) lo (N-lo):=sF_congr (fun i h3 h4=>by rw [updN_ne (by omega)])
  have e2:sF (fun i=>g (updN p hi (L+P.length/2) i)) L (hi-L)=sF (fun i=>g (p i)) L (hi-L):=sF_congr (fun i h3 h4=>by rw [updN_ne (by omega)])
  rw [e1,e2];omega
 ·rw [hpl,show P.length+1-2*(k-L)=P.length-2*(k-L)+1 by omega,sF]
  have e1:sF (fun t=>c ((P ++ [hi]).getD t 0)) (2*(k-L)) (P.length-2*(k-L))=sF (fun t=>c (P.getD t 0)) (2*(k-L)) (P.length-2*(k-L)):=by
   refine sF_congr (fun i h3 h4 => ?_)
   rw [List.getD_eq_getElem?_getD,List.getElem?_append_left (by omega), ←List.getD_eq_getElem?_getD]
  have e2:(P ++ [hi]).getD (2*(k-L)+(P.length-2*(k-L))) 0=hi:=by
   rw [show 2*(k-L)+(P.length-2*(k-L))=P.length by omega,List.getD_eq_getElem?_getD,List.getElem?_append_right (by omega)]
   simp
  rw [e1,e2, ←H.tot_]
  have e3:sF c hi (k-hi)=c hi+sF c (hi+1) (k-(hi+1)):=by
   conv=>lhs;rw [show k-hi=k-(hi+1)+1 by omega,sF_front]
  omega
theorem PK.make (H:PK N L tot c p P k lo hi) (hm:P.length=2*(k-L)+2) :
  PK N L tot (updN c k (c (P[2*(k-L)]'(by omega))+c (P[2*(k-L)+1]'(by omega)))) p P (k+1) lo hi:=by
 have hn2:=H.n2
 have hnl:=H.nl
 have hll:=H.ll
 have hh1:=H.h1
 have hh2:=H.h2
 have hlen:=H.len
 have hkP:∀x∈P,x≠k:=by
  intro x hx e
  rcases (H.mem x).mp hx with ⟨h1,h2⟩|⟨h1,h2⟩<;>omega
 have hcP:∀ {v:Nat},∀x∈P,updN c k v x=c x:=fun x hx=>updN_ne (hkP x hx)
 generalize hv:c (P[2*(k-L)]'(by omega))+c (P[2*(k-L)+1]'(by omega))=v
 have hbig:∀x∈P,c x≤v:=by
  intro x hx
  obtain ⟨t,ht,rfl⟩:=List.mem_iff_getElem.mp hx
  have:=H.srt t (2*(k-L)+1) (by omega) (by omega)
  omega
 refine ⟨hn2,hnl,hll,hh1,by omega,hlen,by omega,by omega,H.par,?_,?_,?_,H.mem,H.late,H.pla,H.pia,H.kr,?_,?_,?_⟩
 ·intro t t' htt ht'
  rw [hcP _ (List.getElem_mem _),hcP _ (List.getElem_mem _)]
  exact H.srt t t' htt ht'
 ·intro x hx y hy
  rw [hcP x hx]
  by_cases e:y=k
  ·subst e;rw [updN_eq];exact hbig x hx
  ·rw [updN_ne e]
   exact H.low x hx y (by omega)
 ·intro u h3 h4
  by_cases e:u=k
  ·subst e
   refine ⟨by omega,?_⟩
   rw [updN_eq,hcP _ (List.getElem_mem _),hcP _ (List.getElem_mem _)]
   exact hv.symm
  ·obtain ⟨h5,h6⟩:=H.mkd u h3 (by omega)
   refine ⟨h5,?_⟩
   rw [updN_ne e,hcP _ (List.getElem_mem _),hcP _ (List.getElem_mem _)]
   exact h6
 ·intro i j h3 h4
  rw [updN_ne (by omega),updN_ne (by omega)]
  exact H.lsrt i j h3 h4
 ·intro u w h3 h4 h5
  by_cases e:w=k
  ·subst e
   rw [updN_eq]
   by_cases e2:u=w
   ·subst e2;rw [updN_eq];exact Nat.le_refl _
   ·rw [updN_ne e2]
    obtain ⟨h6,h7⟩:=H.mkd u h3 (by omega)
    rw [h7]
    have a1:=H.srt (2*(u-L)) (2*(w-L)) (by omega) (by omega)
    have a2:=H.srt (2*(u-L)+1) (2*(w-L)+1) (by omega) (by omega)
    omega
  ·rw [updN_ne (i:=w) e,updN_ne (by omega)]
   exact H.isrt u w h3 h4 (by omega)
 ·have ht:=H.tot_
  rw [hm,show 2*(k-L)+2-2*(k-L)=2 by omega] at ht
  rw [hm,show 2*(k+1-L)=2*(k-L)+2 by omega,Nat.sub_self,show k+1-hi=k-hi+1 by omega]
  simp only [sF,Nat.add_zero,Nat.zero_add] at ht ⊢
  rw [show hi+(k-hi)=k by omega,updN_eq]
  have e1:sF (updN c k v) 0 lo=sF c 0 lo:=sF_congr (fun i h3 h4=>updN_ne (by omega))
  have e2:sF (updN c k v) hi (k-hi)=sF c hi (k-hi):=sF_congr (fun i h3 h4=>updN_ne (by omega))
  have g1:P.getD (2*(k-L)) 0=P[2*(k-L)]'(by omega):=getD_in (by omega)
  have g2:P.getD (2*(k-L)+1) 0=P[2*(k-L)+1]'(by omega):=getD_in (by omega)
  rw [g1,g2] at ht
  rw [e1,e2];omega
theorem PK.le (H:PK N L tot c p P k lo hi) {y:Nat} (hy:y<lo∨(hi≤y∧y<k)):c y≤tot:=by
 have ht:=H.tot_
 rcases hy with h|⟨h1,h2⟩
 ·have:=sF_mem c 0 (n:=lo) (i:=y) (by omega) (by omega);omega
 ·have:=sF_mem c hi (n:=k-hi) (i:=y) h1 (by omega);omega
structure TreeP (N L tot:Nat) (c p:Nat→Nat):Prop where
 n2:2≤N
 nl:N≤L
 pl:∀i,i<N→L≤p i∧p i≤L+N-2
 pla:∀i j,i≤j→j<N→p j≤p i
 pin:∀v,L≤v→v<L+N-2→v<p v∧p v≤L+N-2
 pia:∀u v,L≤u→u≤v→v<L+N-2→p u≤p v
 kr:∀g:Nat→Nat,sF (fun i=>g (p i)) 0 N+sF (fun v=>g (p v)) L (N-2)=2*sF g L (N-1)
 fibL:∀i,i<N→p i<L+N-2→c (p i)+c i≤c (p (p i))
 fibI:∀v,L≤v→v<L+N-2→p v<L+N-2→c (p v)+c v≤c (p (p v))
 up:∀i,i<N→c i≤c (p i)
 root:c (L+N-2)=tot
 lsrt:∀i j,i≤j→j<N→c j≤c i
theorem sF_half (g:Nat→Nat) (L:Nat):∀n,sF (fun t=>g (L+t/2)) 0 (2*n)=2*sF g L n
 | 0=>rfl
 | n+1=>by
  rw [show 2*(n+1)=2*n+1+1 by omega,sF,sF,sF_half g L n,sF]
  simp only [Nat.zero_add]
  rw [show 2*n/2=n by omega,show (2*n+1)/2=n by omega]
  omega
theorem PK.tree (H:PK N L tot c p P k lo hi) (hk:k=L+N-1) (hm:P.length=2*(k-L)):TreeP N L tot c p:=by
 have hn2:=H.n2
 have hnl:=H.nl
 have hll:=H.ll
 have hh1:=H.h1
 have hh2:=H.h2
 have hlen:=H.len
 have hlo:lo=0:=by
  by_cases h:lo=0
  ·exact h
  ·exfalso
   have hR:L+N-2∈P:=(H.mem _).mpr (.inr (by omega))
   obtain ⟨t,ht,he⟩:=List.mem_iff_getElem.mp hR
   have:=H.late t ht (by rw [he];omega)
   rw [he] at this
   omega
 have hhi:hi=L+N-2:=by omega
 subst hlo
 have hparP:∀x∈P,L≤p x∧p x≤L+N-2:=by
  intro x hx
  obtain ⟨t,ht,rfl⟩:=List.mem_iff_getElem.mp hx
  rw [H.par t ht];omega
 have hfib:∀x∈P,p x<L+N-2→c (p x)+c x≤c (p (p x)):=by
  intro x hx hpx
  obtain ⟨t,ht,rfl⟩:=List.mem_iff_getElem.mp hx
  have h1:=H.par t ht
  have hv:p P[t]∈P:=(H.mem _).mpr (.inr (by omega))
  obtain ⟨t',ht',he⟩:=List.mem_iff_getElem.mp hv
  have hlate:=H.late t' ht' (by rw [he];omega)
  rw [he,h1] at hlate
  have h3:=H.par t' ht'
  rw [he] at h3
  obtain ⟨h5,h6⟩:=H.mkd (p (p P[t])) (by omega) (by omega)
  have hu:p (p P[t])-L=t'/2:=by omega
  rw [h6]
  simp only [hu]
  rcases (show t'=2*(t'/2)∨t'=2*(t'/2)+1 by omega) with h|h
  ·have e1:P[2*(t'/2)]'(by omega)=p P[t]:=by rw [←he];congr 1;omega
   have:=H.srt t (2*(t'/2)+1) (by omega) (by omega)
   rw [e1];omega
  ·have e1:P[2*(t'/2)+1]'(by omega)=p P[t]:=by rw [←he];congr 1;omega
   have:=H.srt t (2*(t'/2)) (by omega) (by omega)
   rw [e1];omega
 refine ⟨hn2,hnl,fun i hi=>hparP i ((H.mem i).mpr (.inl (by omega))),fun i j h3 h4=>H.pla i j (Nat.zero_le _) h3 h4,?_,fun u v h3 h4 h5=>H.pia u v h3 h4 (by omega),?_,fun i hi=>hfib i ((H.mem i).mpr (.inl (by omega))),fun v h3 h4=>hfib v ((H.mem v).mpr (.inr (by omega))),?_,?_,H.lsrt⟩
 ·intro v h3 h4
  have hv:v∈P:=(H.mem v).mpr (.inr (by omega))
  refine ⟨?_,(hparP v hv).2⟩
  obtain ⟨t,ht,rfl⟩:=List.mem_iff_getElem.mp hv
  have:=H.late t ht h3
  rw [H.par t ht];omega
 ·intro g
  have:=H.kr g
  rw [hm,show 2*(k-L)=2*(N-1) by omega,sF_half,Nat.sub_zero,show hi-L=N-2 by omega] at this
  exact this
 ·intro i hi
  obtain ⟨t,ht,he⟩:=List.mem_iff_getElem.mp ((H.mem i).mpr (.inl (by omega)))
  have h1:=H.par t ht
  rw [he] at h1
  obtain ⟨h5,h6⟩:=H.mkd (p i) (by omega) (by omega)
  have hu:p i-L=t/2:=by omega
  rw [h6]
  simp only [hu]
  rcases (show t=2*(t/2)∨t=2*(t/2)+1 by omega) with h|h
  ·have e0:2*(t/2)=t:=by omega
   have e1:P[2*(t/2)]'(by omega)=i:=by simp only [e0];exact he
   rw [e1];omega
  ·have e0:2*(t/2)+1=t:=by omega
   have e1:P[2*(t/2)+1]'(by omega)=i:=by simp only [e0];exact he
   rw [e1];omega
 ·have ht:=H.tot_
  rw [hm,Nat.sub_self,show k-hi=1 by omega] at ht
  simp only [sF,Nat.add_zero,Nat.zero_add] at ht
  rw [hhi] at ht
  exact ht
end
def fibo:Nat→Nat
 | 0=>0
 | 1=>1
 | n+2=>fibo (n+1)+fibo n
theorem fibo_mono (n:Nat):fibo n≤fibo (n+1):=by
 match n with
 | 0=>decide
 | 1=>decide
 | n+2 =>
  show fibo (n+2)≤fibo (n+2)+fibo (n+1)
  omega
theorem fibo_le {m n:Nat} (h:m≤n):fibo m≤fibo n:=by
 induction n with
 | zero=>have:m=0:=(by omega);subst this;exact Nat.le_refl _
 | succ n ih =>
  by_cases e:m=n+1
  ·subst e;exact Nat.le_refl _
  ·exact Nat.le_trans (ih (by omega)) (fibo_mono n)
structure DepP (N L:Nat) (p D:Nat→Nat):Prop where
 root:D (L+N-2)=0
 inn:∀v,L≤v→v<L+N-2→D v=D (p v)+1
 leaf:∀i,i<N→D i=D (p i)+1
section
variable {N L tot:Nat} {c p D:Nat→Nat}
theorem TreeP.antiI (H:TreeP N L tot c p) (E:DepP N L p D):∀n u v,L≤u→u≤v→v≤L+N-2→L+N-2-u≤n→D v≤D u
 | 0,u,v,h1,h2,h3,h4=>by
  have:u=v:=by omega
  subst this;exact Nat.le_refl _
 | n+1,u,v,h1,h2,h3,h4=>by
  by_cases e:v=L+N-2
  ·rw [e,E.root];exact Nat.zero_le _
  ·have hu:=H.pin u h1 (by omega)
   have hv:=H.pin v (by omega) (by omega)
   have:=H.antiI E n (p u) (p v) (by omega) (H.pia u v h1 h2 (by omega)) hv.2 (by omega)
   rw [E.inn u h1 (by omega),E.inn v (by omega) (by omega)]
   omega
theorem TreeP.mono (H:TreeP N L tot c p) (E:DepP N L p D) {i j:Nat} (h:i≤j) (hj:j<N):D i≤D j:=by
 rw [E.leaf i (by omega),E.leaf j hj]
 have hi:=H.pl i (by omega)
 have hjj:=H.pl j hj
 have:=H.antiI E (L+N) (p j) (p i) hjj.1 (H.pla i j h hj) hi.2 (by omega)
 omega
theorem TreeP.kraft (H:TreeP N L tot c p) (E:DepP N L p D) {M:Nat} (hM:∀v,L≤v→v≤L+N-2→D v<M):sF (fun i=>2^(M-D i)) 0 N=2^M:=by
 have hn:=H.n2
 have hk:=H.kr (fun v=>2^(M-D v-1))
 have e1:sF (fun i=>2^(M-D (p i)-1)) 0 N=sF (fun i=>2^(M-D i)) 0 N:=by
  refine sF_congr (fun i h1 h2 => ?_)
  rw [E.leaf i (by omega),Nat.sub_sub]
 have e2:sF (fun v=>2^(M-D (p v)-1)) L (N-2)=sF (fun v=>2^(M-D v)) L (N-2):=by
  refine sF_congr (fun i h1 h2 => ?_)
  rw [E.inn i h1 (by omega),Nat.sub_sub]
 have e3:∀n,n≤N-1→2*sF (fun v=>2^(M-D v-1)) L n=sF (fun v=>2^(M-D v)) L n:=by
  intro n
  induction n with
  | zero=>intro _;rfl
  | succ n ih =>
   intro hh
   have:=hM (L+n) (by omega) (by omega)
   rw [sF,sF,Nat.mul_add,ih (by omega), ←Nat.pow_succ',show (M-D (L+n)-1).succ=M-D (L+n) by omega]
 simp only at hk
 rw [e1,e2,e3 _ (Nat.le_refl _),show N-1=N-2+1 by omega,sF,show L+(N-2)=L+N-2 by omega,E.root,Nat.sub_zero] at hk
 omega
theorem TreeP.fibI' (H:TreeP N L tot c p) (E:DepP N L p D):∀n v x,L≤v→v≤L+N-2→L+N-2-v≤n→(∀ _:v<L+N-2,c v+x≤c (p v))→(v=L+N-2→x≤c v)→fibo (D v+1)*c v+fibo (D v)*x≤tot
 | 0,v,x,h1,h2,h3,h4,h5=>by
  have e:v=L+N-2:=by omega
  subst e
  rw [E.root,H.root]
  simp [fibo]
 | n+1,v,x,h1,h2,h3,h4,h5=>by
  by_cases e:v=L+N-2
  ·subst e
   rw [E.root,H.root]
   simp [fibo]
  ·have hp:=H.pin v h1 (by omega)
   have h6:=h4 (by omega)
   have ih:=H.fibI' E n (p v) (c v) (by omega) hp.2 (by omega) (fun hlt=>H.fibI v h1 (by omega) hlt) (fun _=>by omega)
   rw [E.inn v h1 (by omega)]
   have h7:fibo (D (p v)+1)*(c v+x)≤fibo (D (p v)+1)*c (p v):=Nat.mul_le_mul_left _ h6
   rw [Nat.mul_add] at h7
   have h8:fibo (D (p v)+1+1)*c v=fibo (D (p v)+1)*c v+fibo (D (p v))*c v:=by
    rw [←Nat.add_mul];rfl
   rw [h8]
   omega
theorem TreeP.deep (H:TreeP N L tot c p) (E:DepP N L p D) {i:Nat} (hi:i<N) (hc:0<c i) (ht:tot<832040):D i≤29:=by
 have hp:=H.pl i hi
 have hup:=H.up i hi
 have h1:=H.fibI' E (L+N) (p i) (c i) hp.1 hp.2 (by omega) (fun hlt=>H.fibL i hi hlt) (fun e=>hup)
 rw [E.leaf i hi]
 by_cases h:D (p i)+1≤29
 ·exact h
 ·exfalso
  have h4:fibo 30≤fibo (D (p i)+1):=fibo_le (by omega)
  have h5:fibo (D (p i)+1)*1≤fibo (D (p i)+1)*c (p i):=Nat.mul_le_mul_left _ (by omega)
  have h6:fibo 30=832040:=by decide
  omega
end
theorem sF_upd (φ:Nat→Nat) (b:Nat→Nat) (q v:Nat):∀n,q<n→sF (fun i=>φ (updN b q v i)) 0 n+φ (b q)=sF (fun i=>φ (b i)) 0 n+φ v
 | 0,h=>by omega
 | n+1,h=>by
  rw [sF,sF,Nat.zero_add]
  by_cases e:q=n
  ·subst e
   have:sF (fun i=>φ (updN b q v i)) 0 q=sF (fun i=>φ (b i)) 0 q:=sF_congr (fun i h1 h2=>by rw [updN_ne (by omega)])
   rw [this,updN_eq];omega
  ·have:=sF_upd φ b q v n (by omega)
   rw [updN_ne (i:=n) (fun h=>e h.symm)];omega
def krS (H:Nat) (b:Nat→Nat) (N:Nat):Nat:=sF (fun i=>2^(H-b i)) 0 N
def m0S (H:Nat) (b:Nat→Nat) (N:Nat):Nat:=sF (fun i=>if b i=H then 1 else 0) 0 N
theorem krS_upd (H:Nat) (b:Nat→Nat) (q v:Nat) {N:Nat} (h:q<N):krS H (updN b q v) N+2^(H-b q)=krS H b N+2^(H-v):=sF_upd (fun x=>2^(H-x)) b q v N h
theorem m0S_upd (H:Nat) (b:Nat→Nat) (q v:Nat) {N:Nat} (h:q<N):m0S H (updN b q v) N+(if b q=H then 1 else 0)=m0S H b N+(if v=H then 1 else 0):=sF_upd (fun x=>if x=H then 1 else 0) b q v N h
theorem m0S_pos {H N:Nat} {b:Nat→Nat} (h:0<m0S H b N):∃i,i<N∧b i=H:=by
 unfold m0S at h
 induction N with
 | zero=>simp [sF] at h
 | succ n ih =>
  rw [sF,Nat.zero_add] at h
  by_cases e:b n=H
  ·exact ⟨n,by omega,e⟩
  ·rw [if_neg e,Nat.add_zero] at h
   obtain ⟨i,h1,h2⟩:=ih h
   exact ⟨i,by omega,h2⟩
theorem krS_all {H N:Nat} {b:Nat→Nat} (h:∀i,i<N→b i=H):krS H b N=N:=by
 unfold krS
 induction N with
 | zero=>rfl
 | succ n ih =>
  rw [sF,ih (fun i hi=>h i (by omega)),Nat.zero_add,h n (by omega),Nat.sub_self]
theorem krS_div {H N k:Nat} {b:Nat→Nat} (hb:∀i,i<N→b i≤H) (h:∀i,i<N→b i=H∨b i+k≤H):∃Q,krS H b N=m0S H b N+2^k*Q:=by
 unfold krS m0S
 induction N with
 | zero=>exact ⟨0,by simp [sF]⟩
 | succ n ih =>
  obtain ⟨Q,hQ⟩:=ih (fun i hi=>hb i (by omega)) (fun i hi=>h i (by omega))
  rw [sF,sF,Nat.zero_add,hQ]
  rcases h n (by omega) with h1|h1
  ·refine ⟨Q,?_⟩
   rw [if_pos h1,h1,Nat.sub_self];omega
  ·by_cases hk:b n=H
   ·refine ⟨Q,?_⟩
    rw [if_pos hk,hk,Nat.sub_self];omega
   ·refine ⟨Q+2^(H-b n-k),?_⟩
    rw [if_neg hk,Nat.mul_add, ←Nat.pow_add,show k+(H-b n-k)=H-b n by omega];omega
theorem cut_kr {Lg H N:Nat} {D:Nat→Nat} (hH:H≤Lg) (hD:∀i,i<N→D i≤Lg) :
  2^(Lg-H)*krS H (fun i=>if H<D i then H else D i) N=sF (fun i=>2^(Lg-D i)) 0 N+sF (fun i=>if H<D i then 2^(Lg-H)-2^(Lg-D i) else 0) 0 N:=by
 unfold krS
 induction N with
 | zero=>simp [sF]
 | succ n ih =>
  rw [sF,sF,sF,Nat.mul_add,ih (fun i hi=>hD i (by omega)),Nat.zero_add]
  have hn:=hD n (by omega)
  by_cases e:H<D n
  ·simp only [if_pos e]
   have:2^(Lg-D n)≤2^(Lg-H):=Nat.pow_le_pow_right (by omega) (by omega)
   rw [Nat.sub_self,Nat.pow_zero,Nat.mul_one];omega
  ·simp only [if_neg e]
   rw [←Nat.pow_add,show Lg-H+(H-D n)=Lg-D n by omega];omega
structure DLs (H N:Nat) (b:Nat→Nat):Prop where
 one:∀i,i<N→1≤b i
 le:∀i,i<N→b i≤H
 mono:∀i j,i≤j→j<N→b i≤b j
def noS:Nat:=4042322160
def RL (H N:Nat) (b rk:Nat→Nat):Prop:=∀r,1≤r→r≤12→(rk r=noS∧∀i,i<N→b i+r≠H)∨(rk r<N∧b (rk r)+r=H∧∀i,rk r<i→i<N→b i+r≠H)
structure RepP (H N:Nat) (b b' rk rk':Nat→Nat) (k:Nat):Prop where
 dl:DLs H N b'
 rl:RL H N b' rk'
 kr:krS H b' N+2^(k-1)=krS H b N
 m0:m0S H b' N=m0S H b N+if k=1 then 1 else 0
theorem rep_step {H N k:Nat} {b rk:Nat→Nat} (hN:N≤256) (hd:DLs H N b) (hr:RL H N b rk) (hk1:1≤k) (hk:k≤12) (hne:rk k≠noS) :
  RepP H N b (updN b (rk k) (b (rk k)+1)) rk
   (updN (if 1≤k-1∧rk (k-1)=noS then updN rk (k-1) (rk k) else rk) k (if rk k=0 then noS else if b (rk k-1)+k=H then rk k-1 else noS)) k:=by
 rcases hr k hk1 hk with ⟨h,_⟩|⟨h1,h2,h3⟩
 ·exact absurd h hne
 generalize hp:rk k=p at *
 have hb1:=hd.one p h1
 have hnext:∀i,p<i→i<N→b p+1≤b i:=by
  intro i hi hiN
  have:=hd.mono p i (by omega) hiN
  have:=h3 i hi hiN
  omega
 refine ⟨⟨?_,?_,?_⟩,?_,?_,?_⟩
 ·intro i hi
  unfold updN
  split
  ·omega
  ·exact hd.one i hi
 ·intro i hi
  unfold updN
  split
  ·omega
  ·exact hd.le i hi
 ·intro i j hij hj
  unfold updN
  have:=hd.mono i j hij hj
  split<;>split
  ·omega
  ·have:=hnext j (by omega) hj;omega
  ·subst_vars;omega
  ·omega
 ·intro r hr1 hr12
  by_cases e:r=k
  ·subst e
   rw [updN_eq]
   by_cases e0:p=0
   ·rw [if_pos e0]
    left
    refine ⟨rfl,?_⟩
    intro i hi
    unfold updN
    split
    ·omega
    ·exact h3 i (by omega) hi
   ·rw [if_neg e0]
    by_cases e1:b (p-1)+r=H
    ·rw [if_pos e1]
     right
     refine ⟨by omega,?_,?_⟩
     ·rw [updN_ne (by omega)];exact e1
     ·intro i hi hiN
      unfold updN
      split
      ·omega
      ·exact h3 i (by omega) hiN
    ·rw [if_neg e1]
     left
     refine ⟨rfl,?_⟩
     intro i hi
     unfold updN
     split
     ·omega
     ·rename_i hne2
      by_cases hlt:i<p
      ·have a1:=hd.mono i (p-1) (by omega) (by omega)
       have a2:=hd.mono (p-1) p (by omega) h1
       omega
      ·exact h3 i (by omega) hi
  ·rw [updN_ne e]
   by_cases e2:r=k-1
   ·subst e2
    by_cases e3:rk (k-1)=noS
    ·rw [if_pos ⟨hr1,e3⟩,updN_eq]
     rcases hr (k-1) hr1 hr12 with ⟨_,h5⟩|⟨h5,_⟩
     ·right
      refine ⟨h1,by rw [updN_eq];omega,?_⟩
      intro i hi hiN
      rw [updN_ne (by omega)]
      exact h5 i hiN
     ·unfold noS at e3;omega
    ·rw [if_neg (fun h=>e3 h.2)]
     rcases hr (k-1) hr1 hr12 with ⟨h4,_⟩|⟨h4,h5,h6⟩
     ·exact absurd h4 e3
     ·right
      have hgt:p<rk (k-1):=by
       by_cases hc:rk (k-1)≤p
       ·have:=hd.mono _ p hc h1;omega
       ·omega
      refine ⟨h4,by rw [updN_ne (by omega)];exact h5,?_⟩
      intro i hi hiN
      rw [updN_ne (by omega)]
      exact h6 i hi hiN
   ·have e4:(if 1≤k-1∧rk (k-1)=noS then updN rk (k-1) p else rk) r=rk r:=by
     split
     ·rw [updN_ne e2]
     ·rfl
    rw [e4]
    rcases hr r hr1 hr12 with ⟨h4,h5⟩|⟨h4,h5,h6⟩
    ·left
     refine ⟨h4,?_⟩
     intro i hi
     unfold updN
     split
     ·omega
     ·exact h5 i hi
    ·right
     have hne3:rk r≠p:=by intro e5;rw [e5] at h5;omega
     refine ⟨h4,by rw [updN_ne hne3];exact h5,?_⟩
     intro i hi hiN
     unfold updN
     split
     ·omega
     ·exact h6 i hi hiN
 ·have:=krS_upd H b p (b p+1) h1
  have e1:H-b p=k-1+1:=by omega
  have e2:H-(b p+1)=k-1:=by omega
  rw [e1,e2,Nat.pow_succ] at this
  omega
 ·have:=m0S_upd H b p (b p+1) h1
  rw [if_neg (by omega)] at this
  rw [Nat.add_zero] at this
  rw [this]
  by_cases e:k=1
  ·rw [if_pos e,if_pos (by omega)]
  ·rw [if_neg e,if_neg (by omega)]
def SomZ (n:Nat) (F:Cells):Prop:=Som n F∧∃z:Nd,z.ok∧F 0=some z.v
theorem SomZ.upd {n q:Nat} {F:Cells} {v:Value} (h:SomZ n F):SomZ n (updC F (1+q) v):=by
 obtain ⟨h1,z,h2,h3⟩:=h
 exact ⟨h1.upd,z,h2,by unfold updC;rw [if_neg (by omega)];exact h3⟩
def updD (nd:Nat→Nd) (q:Nat) (x:Nd):Nat→Nd:=fun i=>if i=q then x else nd i
def NF (F:Cells) (nd:Nat→Nd):Prop:=∀i,i<512→F (1+i)=some (nd i).v∧(nd i).ok
theorem NF.upd {F:Cells} {nd:Nat→Nd} {q:Nat} {x:Nd} (h:NF F nd) (hx:x.ok):NF (updC F (1+q) x.v) (updD nd q x):=by
 intro i hi
 unfold updC updD
 by_cases e:i=q
 ·subst e;rw [if_pos rfl,if_pos rfl];exact ⟨rfl,hx⟩
 ·rw [if_neg (by omega),if_neg e];exact h i hi
theorem NF.congr {F:Cells} {nd nd':Nat→Nd} (h:NF F nd) (e:∀i,i<512→nd i=nd' i):NF F nd':=fun i hi=>by rw [←e i hi];exact h i hi
def NB (nd:Nat→Nd) (b:Nat→Nat) (N:Nat):Nat→Nd:=fun i=>if i<N then { nd i with b:=b i } else nd i
theorem NB_in {nd:Nat→Nd} {b:Nat→Nat} {N i:Nat} (h:i<N):NB nd b N i = { nd i with b:=b i } := if_pos h
theorem NB_upd (nd:Nat→Nd) (b:Nat→Nat) {N q:Nat} (v:Nat) (h:q<N):updD (NB nd b N) q { NB nd b N q with b:=v } = NB nd (updN b q v) N:=by
 funext i
 unfold updD NB updN
 by_cases e:i=q
 ·subst e;rw [if_pos rfl,if_pos h,if_pos h,if_pos rfl]
 ·rw [if_neg e,if_neg e]
theorem NF.setB {F:Cells} {nd:Nat→Nd} {b:Nat→Nat} {N q v:Nat} (h:NF F (NB nd b N)) (hq:q<N) (hN:N≤512) (hv:v<256):NF (updC F (1+q) ({ NB nd b N q with b:=v } : Nd).v) (NB nd (updN b q v) N):=by
 obtain ⟨o1,o2,o3,o4⟩:=(h q (by omega)).2
 rw [←NB_upd nd b v hq]
 exact h.upd ⟨o1,o2,o3,hv⟩
theorem RL.congr {H N:Nat} {b rk rk':Nat→Nat} (h:RL H N b rk) (e:∀r,1≤r→rk' r=rk r):RL H N b rk':=by
 intro r h1 h2
 rw [e r h1]
 exact h r h1 h2
theorem arrC_nat {k:IntKind} {n o v:Nat} {f:Nat→Nat} (h:o<n):updC (arrC k n fun i=>((f i:Nat):Int)) o (.int k (v:Nat))=arrC k n fun i=>((updN f o v i:Nat):Int):=by
 rw [arrC_upd h]
 congr 1
 funext i
 unfold updF updN
 split<;>rfl
section
variable {w:World} {nb pb cap H N:Nat} {nd:Nat→Nd} {b rk:Nat→Nat} {F:Cells}
theorem rep_walk {A:Int→PT} {tc:Int} {k:Nat} (HN:Blk w nb F) (hF:NF F (NB nd b N)) (hS:SomZ cap F) (hcap:513≤cap) (HR:Blk w pb (arrC .u32 13 fun i=>((rk i:Nat):Int))) (d:nb≠pb) (hN:N≤256) (hH:H≤11) (hd:DLs H N b) (hr:RL H N b rk) (hk1:1≤k) (hk:k≤12) (hne:rk k≠noS)
  (htc : -1000000≤tc) (htc2:tc≤1000000)
  (hA:∀w' b' rk' F',RepP H N b b' rk rk' k→(∀i,b i=H→i<N→b' i=H)→b'=updN b (rk k) (b (rk k)+1)→rk k<N→NF F' (NB nd b' N)→SomZ cap F'→Blk w' nb F'→Blk w' pb (arrC .u32 13 fun i=>((rk' i:Nat):Int))→Fm w w' [nb,pb]→A (tc-((2^(k-1):Nat):Int)) w') :
  q129_J11 (H:Int) ⟨some ⟨nb,1,none⟩,512,cap-1⟩ ⟨pb,0,none⟩ tc A (k:Int) w:=by
 have hstep:=rep_step hN hd hr hk1 hk hne
 obtain ⟨hp1,hp2,hp3⟩:rk k<N∧b (rk k)+k=H∧∀i,rk k<i→i<N→b i+k≠H:=by
  rcases hr k hk1 hk with ⟨h,_⟩|h
  ·exact absurd h hne
  ·exact h
 have hbp:=hd.one _ hp1
 have hA':=fun w' rk' F' h1 h2 h3 h4 h5 h6=>hA w' (updN b (rk k) (b (rk k)+1)) rk' F' h1 (fun i hi hiN=>by
  unfold updN
  split
  ·subst_vars;omega
  ·exact hi) rfl hp1 h2 h3 h4 h5 h6
 have ek:IntKind.u8.wrap ((k:Int)-1)=((k-1:Nat):Int):=by rw [wU8 (by omega) (by omega)];omega
 have hpk:2^(k-1)≤2^11:=Nat.pow_le_pow_right (by omega) (by omega)
 have esh:shlI .i64 1 ((k-1:Nat):Int)=((2^(k-1):Nat):Int):=by
  have:=shlI_nat .i64 1 (k-1) (by simp only [IntKind.bits];omega) (by rw [Nat.one_mul];exact Nat.lt_of_le_of_lt hpk (by decide))
  rw [Nat.one_mul] at this
  exact this
 have hnn:(0:Int)≤((2^(k-1):Nat):Int):=Int.natCast_nonneg _
 have etc:IntKind.i64.wrap (tc-((2^(k-1):Nat):Int))=tc-((2^(k-1):Nat):Int):=wI64 (by omega) (by omega)
 unfold q129_J11
 rw [ek]
 refine ⟨by omega,?_⟩
 have rest:∀(w1:World) (rk1:Nat→Nat),rk1 k=rk k→(∀r,1≤r→r≠k→rk1 r=(if 1≤k-1∧rk (k-1)=noS then updN rk (k-1) (rk k) else rk) r)→Blk w1 pb (arrC .u32 13 fun i=>((rk1 i:Nat):Int))→Blk w1 nb F→Fm w w1 [nb,pb]→q129_J10 (H:Int) ⟨some ⟨nb,1,none⟩,512,cap-1⟩ ⟨pb,0,none⟩ tc A (k:Int) () w1:=by
  intro w1 rk1 e1 e2 HR1 HN1 F1
  unfold q129_J10 drw
  rw [ek,esh,etc]
  have eH:IntKind.u8.wrap ((H:Int)-(k:Int))=((H-k:Nat):Int):=by rw [wU8 (by omega) (by omega)];omega
  rw [eH]
  refine ixA_o rfl (by omega) ?_
  rw [Nat.zero_add]
  refine ld_b (t := .I .u32) (x:=((rk k:Nat):Int)) HR1.drew (by rw [arrC_get (by omega),e1];rfl) ?_
  refine ixS_o rfl (by omega) ?_
  refine ixA_o rfl (by omega) ?_
  rw [Nat.zero_add]
  refine ld_b (t := .I .u32) (x:=((rk k:Nat):Int)) HR1.drew (by rw [arrC_get (by omega),e1];rfl) ?_
  refine ixS_o rfl (by omega) ?_
  obtain ⟨f1,f2⟩:=hF (rk k) (by omega)
  refine c128 HN1.drew f1 f2 ?_
  have eb:(NB nd b N (rk k)).b=b (rk k):=by rw [NB_in hp1]
  rw [eb,wU8 (x:=(1:Int)+((b (rk k):Nat):Int)) (by omega) (by omega),show (1:Int)+((b (rk k):Nat):Int)=((b (rk k)+1:Nat):Int) by omega]
  refine ⟨?_,?_⟩
  ·intro f hf
   simp only [List.mem_cons,List.not_mem_nil,or_false] at hf
   subst hf
   show w1.drew.cell? ⟨pb,k,none⟩=_
   rw [HR1.drew.cell,arrC_get (by omega),e1]
  refine c126 HN1.drew f1 f2 (by omega) ?_
  intro w2 HN2 F2
  have hF2:NF (updC F (1+rk k) ({ NB nd b N (rk k) with b:=b (rk k)+1 } : Nd).v) (NB nd (updN b (rk k) (b (rk k)+1)) N):=hF.setB hp1 (by omega) (by omega)
  have HR2:=HR1.drew.fr F2 (nm1 d.symm)
  have F02:Fm w w2 [nb,pb]:=F1.drew.trans F2 (by intro v hv;simp at hv;simp [hv])
  refine ixA_o rfl (by omega) ?_
  rw [Nat.zero_add]
  refine ld_b (t := .I .u32) (x:=((rk k:Nat):Int)) HR2 (by rw [arrC_get (by omega),e1];rfl) ?_
  refine cnd_d ?_ ?_
  ·intro hc
   have h0:rk k=0:=by omega
   rw [if_pos h0] at hstep
   refine ixA_o rfl (by omega) ?_
   rw [Nat.zero_add]
   refine st_u HR2 (by rw [arrC_get (by omega)];rfl) rfl ?_
   intro w3 HR3 F3
   rw [show (4042322160:Int)=((noS:Nat):Int) from rfl,arrC_nat (by omega)] at HR3
   refine hA' w3 (updN rk1 k noS) _ ⟨hstep.dl,hstep.rl.congr ?_,hstep.kr,hstep.m0⟩ hF2 hS.upd (HN2.fr F3 (nm1 d)) HR3 (F02.trans F3 (by intro v hv;simp at hv;simp [hv]))
   intro r hr1
   unfold updN
   by_cases e:r=k
   ·rw [if_pos e,if_pos e]
   ·rw [if_neg e,if_neg e];exact e2 r hr1 e
  ·intro hc
   have h0:rk k≠0:=by omega
   rw [if_neg h0] at hstep
   refine ixA_o rfl (by omega) ?_
   rw [Nat.zero_add]
   refine ld_b (t := .I .u32) (x:=((rk k:Nat):Int)) HR2 (by rw [arrC_get (by omega),e1];rfl) ?_
   refine ixA_o rfl (by omega) ?_
   rw [Nat.zero_add]
   refine st_u HR2 (by rw [arrC_get (by omega)];rfl) rfl ?_
   intro w3 HR3 F3
   rw [wU32 (by omega) (by omega),show ((rk k:Nat):Int)-1=((rk k-1:Nat):Int) by omega,arrC_nat (by omega)] at HR3
   have HN3:=HN2.fr F3 (nm1 d)
   have F03:Fm w w3 [nb,pb]:=F02.trans F3 (by intro v hv;simp at hv;simp [hv])
   refine ixA_o rfl (by omega) ?_
   rw [Nat.zero_add]
   refine ld_b (t := .I .u32) (x:=((rk k-1:Nat):Int)) HR3 (by rw [arrC_get (by omega),updN_eq];rfl) ?_
   refine ixS_o rfl (by omega) ?_
   obtain ⟨g1,g2⟩:=hF2 (rk k-1) (by omega)
   refine c128 HN3 g1 g2 ?_
   have eb2:(NB nd (updN b (rk k) (b (rk k)+1)) N (rk k-1)).b=b (rk k-1):=by
    rw [NB_in (by omega)]
    exact updN_ne (by omega)
   rw [eb2]
   have hle:=hd.mono (rk k-1) (rk k) (by omega) hp1
   refine cnd_nd ?_ ?_
   ·intro hc2
    have h1:¬b (rk k-1)+k=H:=by omega
    rw [if_neg h1] at hstep
    refine ixA_o rfl (by omega) ?_
    rw [Nat.zero_add]
    refine st_u HR3 (by rw [arrC_get (by omega)];rfl) rfl ?_
    intro w4 HR4 F4
    rw [show (4042322160:Int)=((noS:Nat):Int) from rfl,arrC_nat (by omega)] at HR4
    refine hA' w4 _ _ ⟨hstep.dl,hstep.rl.congr ?_,hstep.kr,hstep.m0⟩ hF2 hS.upd (HN3.fr F4 (nm1 d)) HR4 (F03.trans F4 (by intro v hv;simp at hv;simp [hv]))
    intro r hr1
    unfold updN
    by_cases e:r=k
    ·rw [if_pos e,if_pos e]
    ·rw [if_neg e,if_neg e,if_neg e];exact e2 r hr1 e
   ·intro hc2
    have h1:b (rk k-1)+k=H:=by omega
    rw [if_pos h1] at hstep
    refine hA' w3 _ _ ⟨hstep.dl,hstep.rl.congr ?_,hstep.kr,hstep.m0⟩ hF2 hS.upd HN3 HR3 F03
    intro r hr1
    unfold updN
    by_cases e:r=k
    ·rw [if_pos e,if_pos e]
    ·rw [if_neg e,if_neg e];exact e2 r hr1 e
 refine joinP_id ?_
 refine ixA_o (k:=k-1) rfl (by omega) ?_
 rw [Nat.zero_add]
 refine ld_b (t := .I .u32) (x:=((rk (k-1):Nat):Int)) HR (arrC_get (by omega)) ?_
 refine cnd_d ?_ ?_
 ·intro hc
  have h1:rk (k-1)=noS:=by unfold noS;omega
  refine ixA_o rfl (by omega) ?_
  rw [Nat.zero_add]
  refine ld_b (t := .I .u32) (x:=((rk k:Nat):Int)) HR (arrC_get (by omega)) ?_
  refine ixA_o (k:=k-1) rfl (by omega) ?_
  rw [Nat.zero_add]
  refine st_u HR (by rw [arrC_get (by omega)];rfl) rfl ?_
  intro w1 HR1 F1
  rw [arrC_nat (by omega)] at HR1
  refine rest w1 _ (updN_ne (by omega)) ?_ HR1 (HN.fr F1 (nm1 d)) (F1.mono (by intro v hv;simp at hv;simp [hv]))
  intro r hr1 hrk
  by_cases e:1≤k-1
  ·rw [if_pos ⟨e,h1⟩]
  ·rw [if_neg (fun h=>e h.1),updN_ne (by omega)]
 ·intro hc
  have h1:¬rk (k-1)=noS:=by unfold noS;omega
  refine rest w rk rfl ?_ HR HN (Fm.refl _ _)
  intro r hr1 hrk
  rw [if_neg (fun h=>h1 h.2)]
end
structure PayI (H N m:Nat) (b:Nat→Nat) (tc:Int):Prop where
 dl:DLs H N b
 kr:(krS H b N:Int)=((2^H:Nat):Int)+tc
 lt:tc<(m0S H b N:Int)
 ge:0≤(m0S H b N:Int)+tc
 top:∀i,m<i→i<N→b i=H
 ex:tc≠0→∃i,i<N∧b i<H
theorem m0S_le (H:Nat) (b:Nat→Nat):∀N,m0S H b N≤N
 | 0=>Nat.le_refl _
 | n+1=>by
  have:=m0S_le H b n
  unfold m0S at this ⊢
  rw [sF]
  split<;>omega
theorem pay_step {H N m k:Nat} {b b' rk rk':Nat→Nat} {tc:Int} (hN:N≤2^H) (hN2:N≤256) (I:PayI H N m b tc) (R:RepP H N b b' rk rk' k) (hr:RL H N b rk) (h0:0<tc) (hk1:1≤k) (hk12:k≤12) (hp:rk k<N) (hpk:b (rk k)+k=H) (hb':∀i,b i=H→i<N→b' i=H) (hbp:b' (rk k)=b (rk k)+1)
  (hc:k≤tc.toNat.log2+1∨∀r,1≤r→r<k→rk r=noS):PayI H N m b' (tc-((2^(k-1):Nat):Int)):=by
 have hkr:=I.kr
 have hkr2:=R.kr
 have hm:=R.m0
 have hlt:=I.lt
 have hpp:=Nat.two_pow_pos (k-1)
 have hlog:2^tc.toNat.log2≤tc.toNat:=Nat.log2_self_le (by omega)
 have hcase:((2^(k-1):Nat):Int)≤tc∨(2≤k∧tc+((2^(k-1):Nat):Int)≤(m0S H b N:Int)):=by
  rcases hc with h|h
  ·left
   have:2^(k-1)≤2^tc.toNat.log2:=Nat.pow_le_pow_right (by omega) (by omega)
   omega
  ·by_cases hk2:2≤k
   ·right
    refine ⟨hk2,?_⟩
    obtain ⟨Q,hQ⟩:=krS_div (k:=k) I.dl.le (fun i hi=>by
     by_cases e:b i=H
     ·exact .inl e
     ·right
      have hle:=I.dl.le i hi
      by_cases e2:b i+k≤H
      ·exact e2
      ·exfalso
       have hr1:=h (H-b i) (by omega) (by omega)
       rcases hr (H-b i) (by omega) (by omega) with ⟨_,h5⟩|⟨h5,_⟩
       ·exact h5 i hi (by omega)
       ·unfold noS at hr1;have:=I.dl.le i hi;omega)
    have hH:2^H=2^k*2^(H-k):=by rw [←Nat.pow_add,show k+(H-k)=H by omega]
    have hk2':2^k=2*2^(k-1):=by rw [←Nat.pow_succ',show (k-1).succ=k by omega]
    have hlt2:2^k*Q<2^k*2^(H-k):=by rw [←hH];omega
    have hQP:Q<2^(H-k):=Nat.lt_of_mul_lt_mul_left hlt2
    have hle2:2^k*(Q+1)≤2^k*2^(H-k):=Nat.mul_le_mul_left _ hQP
    rw [←hH,Nat.mul_add,Nat.mul_one] at hle2
    omega
   ·left
    have hk:k=1:=by omega
    subst hk
    simp only [Nat.sub_self,Nat.pow_zero]
    omega
 have hm2:m0S H b N≤m0S H b' N:=by rw [hm];split<;>omega
 refine ⟨R.dl,by omega,by omega,?_,fun i h1 h2=>hb' i (I.top i h1 h2) h2,?_⟩
 ·rcases hcase with h|⟨_,h⟩
  ·have:=I.ge;omega
  ·omega
 ·intro hne
  by_cases hneg:tc-((2^(k-1):Nat):Int)<0
  ·rcases hcase with h|⟨hk2,_⟩
   ·omega
   ·exact ⟨rk k,hp,by omega⟩
  ·apply Classical.byContradiction
   intro hno
   have hall:∀i,i<N→b' i=H:=by
    intro i hi
    have h1:=R.dl.le i hi
    by_cases e:b' i=H
    ·exact e
    ·exact absurd ⟨i,hi,by omega⟩ hno
   have:=krS_all hall
   omega
def dnK (cn rk:Nat→Nat):Nat→Nat
 | 0=>0
 | 1=>1
 | k+2=>if rk (k+2)=noS then dnK cn rk (k+1) else if rk (k+1)=noS then k+2 else if ((cn (rk (k+2)):Nat):Int)≤IntKind.u32.wrap (2*((cn (rk (k+1)):Nat):Int)) then k+2 else dnK cn rk (k+1)
def upK (rk:Nat→Nat):Nat→Nat→Nat
 | 0,k=>k
 | f+1,k=>if k≤11∧rk k=noS then upK rk f (k+1) else k
def upJ (rk:Nat→Nat) (k:Nat):Nat:=upK rk (13-k) k
theorem upJ_step {rk:Nat→Nat} {k:Nat} (h:k≤11) (h2:rk k=noS):upJ rk k=upJ rk (k+1):=by
 unfold upJ
 rw [show 13-k=13-(k+1)+1 by omega,upK,if_pos ⟨h,h2⟩]
theorem upJ_stop {rk:Nat→Nat} {k:Nat} (h2:rk k≠noS):upJ rk k=k:=by
 unfold upJ
 cases 13-k with
 | zero=>rfl
 | succ f=>rw [upK,if_neg (fun h=>h2 h.2)]
inductive PayR (H N:Nat) (cn:Nat→Nat):(Nat→Nat)→Int→(Nat→Nat)→Int→Prop
 | stop {b:Nat→Nat} {tc:Int} : tc≤0→PayR H N cn b tc b tc
 | step {b rk b':Nat→Nat} {tc tc':Int} {k:Nat} : 0<tc→tc.toNat.log2<8→RL H N b rk→1≤k→k≤12→k=upJ rk (dnK cn rk (tc.toNat.log2+1))→PayR H N cn (updN b (rk k) (b (rk k)+1)) (tc-((2^(k-1):Nat):Int)) b' tc'→PayR H N cn b tc b' tc'
section
variable {w:World} {nb pb cap H N m:Nat} {nd:Nat→Nd} {b rk:Nat→Nat} {F:Cells}
structure PayW (w0 w:World) (nb pb cap N:Nat) (nd:Nat→Nd) (b rk:Nat→Nat) (F:Cells):Prop where
 n:Blk w nb F
 nf:NF F (NB nd b N)
 som:SomZ cap F
 r:Blk w pb (arrC .u32 13 fun i=>((rk i:Nat):Int))
 fr:Fm w0 w [nb,pb]
theorem ph_pay {w0:World} {R43:Int→PT} {tc:Int} (hcap:513≤cap) (d:nb≠pb) (hN:N≤256) (hNH:N≤2^H) (hH:H≤11) (W:PayW w0 w nb pb cap N nd b rk F) (hr:RL H N b rk) (I:PayI H N m b tc) (h0:0≤tc)
  (hk:∀w' b' rk' F' tc',tc'≤0→PayW w0 w' nb pb cap N nd b' rk' F'→RL H N b' rk'→PayI H N m b' tc'→PayR H N (fun i=>(nd i).c) b tc b' tc'→R43 tc' w') :
  loopP tc (q129_L13 (H:Int) ⟨some ⟨nb,1,none⟩,512,cap-1⟩ ⟨pb,0,none⟩ R43) w:=by
 refine ⟨fun x w'=>∃(b' rk':Nat→Nat) (F':Cells),PayW w0 w' nb pb cap N nd b' rk' F'∧RL H N b' rk'∧PayI H N m b' x∧(∀b9 t9,PayR H N (fun i=>(nd i).c) b' x b9 t9→PayR H N (fun i=>(nd i).c) b tc b9 t9),fun x _=>x.toNat,⟨b,rk,F,W,hr,I,fun _ _ h=>h⟩,?_⟩
 rintro x w2 ⟨b2,rk2,F2,W2,hr2,I2,X2⟩
 unfold q129_L13
 refine cnd_d ?_ ?_
 ·intro hc
  have hm:=m0S_le H b2 N
  have hlt:=I2.lt
  have hx:x=((x.toNat:Nat):Int):=by omega
  obtain ⟨i0,hi0,hi0b⟩:=I2.ex (by omega)
  have hb1:=I2.dl.one i0 hi0
  have hr0:rk2 (H-b2 i0)≠noS:=by
   rcases hr2 (H-b2 i0) (by omega) (by omega) with ⟨_,h5⟩|⟨h5,_⟩
   ·exact absurd (show b2 i0+(H-b2 i0)=H by omega) (h5 i0 hi0)
   ·unfold noS;omega
  generalize hr0e:H-b2 i0=r0 at *
  have hr01:1≤r0:=by omega
  have hr011:r0≤11:=by omega
  have hlg:x.toNat.log2<8:=(Nat.log2_lt (by omega)).mpr (by omega)
  rw [show IntKind.u32.wrap x=((x.toNat:Nat):Int) by rw [wU32 (by omega) (by omega)];exact hx]
  refine c64 (by omega) (by omega) ?_
  have rkv:∀r,1≤r→r≤12→rk2 r=noS∨rk2 r<N:=by
   intro r h1 h2
   rcases hr2 r h1 h2 with ⟨h,_⟩|⟨h,_⟩
   ·exact .inl h
   ·exact .inr h
  have hpay:=fun k h1 h2 h3 h4=>rep_walk (A:=fun s' w'=>(∃(b' rk':Nat→Nat) (F':Cells),PayW w0 w' nb pb cap N nd b' rk' F'∧RL H N b' rk'∧PayI H N m b' s'∧(∀b9 t9,PayR H N (fun i=>(nd i).c) b' s' b9 t9→PayR H N (fun i=>(nd i).c) b tc b9 t9))∧s'.toNat<x.toNat) (tc:=x) (k:=k) W2.n W2.nf W2.som hcap W2.r d hN hH I2.dl hr2 h1 h2 h3 (by omega) (by omega) h4
  refine ⟨fun k w'=>w'=w2∧∃k':Nat,k=(k':Int)∧1≤k'∧k'≤12∧((rk2 k'≠noS∧k'≤x.toNat.log2+1)∨(∀r,1≤r→r≤k'→rk2 r=noS))∧k'=dnK (fun i=>(nd i).c) rk2 (x.toNat.log2+1),?_,?_⟩
  ·rintro k w3 ⟨rfl,k',rfl,hk1,hk12,hkk,hdn⟩
   unfold q129_J12
   refine ⟨fun k w'=>w'=w3∧∃k2:Nat,k=(k2:Int)∧1≤k2∧k2≤12∧rk2 k2≠noS∧(k2≤x.toNat.log2+1∨∀r,1≤r→r<k2→rk2 r=noS)∧k2=upJ rk2 k',?_,?_⟩
   ·rintro k w4 ⟨rfl,k2,rfl,g1,g2,g3,g4,g5⟩
    refine hpay k2 g1 g2 g3 ?_
    intro w5 b5 rk5 F5 hR hbH hbp hpN hF5 hS5 HN5 HR5 Fr5
    have hp2:b2 (rk2 k2)+k2=H:=by
     rcases hr2 k2 g1 g2 with ⟨h,_⟩|⟨_,h,_⟩
     ·exact absurd h g3
     ·exact h
    refine ⟨⟨b5,rk5,F5,⟨HN5,hF5,hS5,HR5,W2.fr.trans Fr5 (fun x hx => .inl hx)⟩,hR.rl,pay_step hNH hN I2 hR hr2 hc g1 g2 hpN hp2 hbH (by rw [hbp,updN_eq]) g4,fun b9 t9 h9=>X2 b9 t9 (.step hc hlg hr2 g1 g2 (by rw [←hdn];exact g5) (by rw [←hbp];exact h9))⟩,?_⟩
    have:=Nat.two_pow_pos (k2-1)
    omega
   ·refine ⟨fun k w'=>w'=w3∧∃k2:Nat,k=(k2:Int)∧1≤k2∧k2≤12∧((rk2 k2≠noS∧k2≤x.toNat.log2+1)∨(∀r,1≤r→r<k2→rk2 r=noS))∧upJ rk2 k'=upJ rk2 k2,fun k _=>13-k.toNat,⟨rfl,k',rfl,hk1,hk12,?_,rfl⟩,?_⟩
    ·rcases hkk with h|h
     ·exact .inl h
     ·exact .inr (fun r h1 h2=>h r h1 (by omega))
    rintro k w4 ⟨rfl,k2,rfl,g1,g2,g3,g5⟩
    have hk11:k2≤11:=by
     rcases g3 with ⟨_,h⟩|h
     ·omega
     ·by_cases hh:r0<k2
      ·exact absurd (h r0 hr01 hh) hr0
      ·omega
    unfold q129_L9
    refine cnd_d (fun _ => ?_) (fun h=>absurd h (by omega))
    refine ixA_o rfl (by omega) ?_
    rw [Nat.zero_add]
    refine ld_b (t := .I .u32) (x:=((rk2 k2:Nat):Int)) W2.r (arrC_get (by omega)) ?_
    refine cnd_d ?_ ?_
    ·intro hn
     have hn2:rk2 k2=noS:=by unfold noS;omega
     rw [wU8 (x:=(k2:Int)+1) (by omega) (by omega)]
     refine ⟨⟨rfl,k2+1,by simp,by omega,by omega,.inr ?_,by rw [g5];exact upJ_step hk11 hn2⟩,by dsimp only;omega⟩
     intro r h1 h2
     rcases g3 with ⟨h,_⟩|h
     ·exact absurd hn2 h
     ·by_cases e:r=k2
      ·subst e;exact hn2
      ·exact h r h1 (by omega)
    ·intro hn
     have hn2:rk2 k2≠noS:=by unfold noS;omega
     refine ⟨rfl,k2,rfl,g1,g2,hn2,?_,by rw [g5,upJ_stop hn2]⟩
     rcases g3 with ⟨_,h⟩|h
     ·exact .inl h
     ·exact .inr h
  ·refine ⟨fun k w'=>w'=w2∧∃k':Nat,k=(k':Int)∧1≤k'∧k'≤x.toNat.log2+1∧(rk2 k'≠noS∨(∀r,k'<r→r≤x.toNat.log2+1→rk2 r=noS))∧dnK (fun i=>(nd i).c) rk2 (x.toNat.log2+1)=dnK (fun i=>(nd i).c) rk2 k',fun k _=>k.toNat,⟨rfl,x.toNat.log2+1,?_,by omega,by omega,.inr (fun r h1 h2=>by omega),rfl⟩,?_⟩
   ·rw [wU8 (x:=((x.toNat.log2:Nat):Int)) (by omega) (by omega),wU8 (by omega) (by omega)];omega
   rintro k w3 ⟨rfl,k',rfl,hk1,hkl,hkk,hdn⟩
   unfold q129_L8
   have out:rk2 k'≠noS→dnK (fun i=>(nd i).c) rk2 k'=k'→(w3=w3∧∃k2:Nat,(k':Int)=(k2:Int)∧1≤k2∧k2≤12∧((rk2 k2≠noS∧k2≤x.toNat.log2+1)∨(∀r,1≤r→r≤k2→rk2 r=noS))∧k2=dnK (fun i=>(nd i).c) rk2 (x.toNat.log2+1)):=fun h h'=>⟨rfl,k',rfl,hk1,by omega,.inl ⟨h,hkl⟩,by rw [hdn,h']⟩
   have un:1<k'→dnK (fun i=>(nd i).c) rk2 k'=if rk2 k'=noS then dnK (fun i=>(nd i).c) rk2 (k'-1) else if rk2 (k'-1)=noS then k' else if (((nd (rk2 k')).c:Nat):Int)≤IntKind.u32.wrap (2*(((nd (rk2 (k'-1))).c:Nat):Int)) then k' else dnK (fun i=>(nd i).c) rk2 (k'-1):=by
    intro h
    obtain ⟨q,rfl⟩:∃q,k'=q+2:=⟨k'-2,by omega⟩
    rw [dnK]
    rfl
   refine cnd_d ?_ ?_
   ·intro hc1
    have e1:IntKind.u8.wrap ((k':Int)-1)=((k'-1:Nat):Int):=by rw [wU8 (by omega) (by omega)];omega
    refine joinP_id ?_
    unfold q129_X7 q129_J6
    rw [e1]
    refine ixA_o rfl (by omega) ?_
    rw [Nat.zero_add]
    refine ld_b (t := .I .u32) (x:=((rk2 k':Nat):Int)) W2.r (arrC_get (by omega)) ?_
    refine ixA_o (k:=k'-1) rfl (by omega) ?_
    rw [Nat.zero_add]
    refine ld_b (t := .I .u32) (x:=((rk2 (k'-1):Nat):Int)) W2.r (arrC_get (by omega)) ?_
    refine cnd_d ?_ ?_
    ·intro hn
     have hn2:rk2 k'=noS:=by unfold noS;omega
     refine ⟨⟨rfl,k'-1,rfl,by omega,by omega,.inr ?_,by rw [hdn,un (by omega),if_pos hn2]⟩,by dsimp only;omega⟩
     intro r h1 h2
     rcases hkk with h|h
     ·exact absurd hn2 h
     ·by_cases e:r=k'
      ·subst e;exact hn2
      ·exact h r (by omega) h2
    ·intro hn
     have hn2:rk2 k'≠noS:=by unfold noS;omega
     refine cnd_d (fun h6=>out hn2 (by rw [un (by omega),if_neg hn2,if_pos (by unfold noS;omega)])) ?_
     intro hl
     have hl2:rk2 (k'-1)≠noS:=by unfold noS;omega
     have v1:=rkv k' hk1 (by omega)
     have v2:=rkv (k'-1) (by omega) (by omega)
     refine ixS_o rfl (by omega) ?_
     obtain ⟨f1,f2⟩:=W2.nf (rk2 k') (by omega)
     refine c123 W2.n f1 f2 ?_
     refine ixS_o rfl (by omega) ?_
     obtain ⟨g1,g2⟩:=W2.nf (rk2 (k'-1)) (by omega)
     refine c123 W2.n g1 g2 ?_
     have ec:∀i,i<N→(NB nd b2 N i).c=(nd i).c:=fun i hi=>by rw [NB_in hi]
     rw [ec _ (by omega),ec _ (by omega)]
     refine cnd_d (fun h6=>out hn2 (by rw [un (by omega),if_neg hn2,if_neg hl2,if_pos h6])) (fun h6 => ?_)
     exact ⟨⟨rfl,k'-1,rfl,by omega,by omega,.inl hl2,by rw [hdn,un (by omega),if_neg hn2,if_neg hl2,if_neg h6]⟩,by dsimp only;omega⟩
   ·intro hc1
    have hk:k'=1:=by omega
    subst hk
    by_cases hn:rk2 1=noS
    ·refine ⟨rfl,1,rfl,by omega,by omega,.inr ?_,by rw [hdn];rfl⟩
     intro r h1 h2
     have:r=1:=by omega
     subst this;exact hn
    ·exact out hn rfl
 ·intro hc
  exact hk w2 b2 rk2 F2 x (by omega) W2 hr2 I2 (X2 _ _ (.stop (by omega)))
end
def RL1 (H N:Nat) (b rk:Nat→Nat):Prop:=(rk 1=noS∧∀i,i<N→b i+1≠H)∨(rk 1<N∧b (rk 1)+1=H∧∀i,rk 1<i→i<N→b i+1≠H)
structure BackI (H N n:Nat) (b rk:Nat→Nat) (tc:Int):Prop where
 dl:DLs H N b
 kr:(krS H b N:Int)=((2^H:Nat):Int)+tc
 le:tc≤0
 ge:0≤(m0S H b N:Int)+tc
 ex:tc≠0→∃i,i<N∧b i<H
 rl:RL1 H N b rk
 top:rk 1=noS→n<N∧∀i,n<i→i<N→b i=H
theorem back_step {H N n q:Nat} {b rk:Nat→Nat} {tc:Int} (hN:N≤256) (hH:5≤H) (I:BackI H N n b rk tc) (h0:tc<0) (hq:q<N) (hqb:b q=H) (hpre:∀i,i<q→b i+1≤H) :
  BackI H N n (updN b q (H-1)) (updN rk 1 q) (tc+1):=by
 have hk:=krS_upd H b q (H-1) hq
 have hm:=m0S_upd H b q (H-1) hq
 rw [hqb,Nat.sub_self,show H-(H-1)=1 by omega] at hk
 rw [if_pos hqb,if_neg (by omega)] at hm
 have hkr:=I.kr
 have hge:=I.ge
 obtain ⟨i0,hi0,hi0b⟩:=I.ex (by omega)
 have hi0q:i0<q:=by
  by_cases h:i0<q
  ·exact h
  ·have:=I.dl.mono q i0 (by omega) hi0;omega
 refine ⟨⟨?_,?_,?_⟩,by omega,by omega,by omega,?_,?_,?_⟩
 ·intro i hi
  unfold updN
  split
  ·omega
  ·exact I.dl.one i hi
 ·intro i hi
  unfold updN
  split
  ·omega
  ·exact I.dl.le i hi
 ·intro i j hij hj
  unfold updN
  have:=I.dl.mono i j hij hj
  split<;>split
  ·omega
  ·subst_vars;omega
  ·subst_vars
   have:=hpre i (by omega);omega
  ·omega
 ·intro _
  exact ⟨q,hq,by rw [updN_eq];omega⟩
 ·right
  rw [updN_eq]
  refine ⟨hq,by rw [updN_eq];omega,?_⟩
  intro i hi hiN
  rw [updN_ne (by omega)]
  have:=I.dl.mono q i (by omega) hiN
  omega
 ·intro h
  rw [updN_eq] at h
  unfold noS at h
  omega
inductive BackR (H N:Nat):(Nat→Nat)→Int→(Nat→Nat)→Prop
 | stop {b:Nat→Nat} {tc:Int} : 0≤tc→BackR H N b tc b
 | step {b b':Nat→Nat} {tc:Int} {q:Nat} : tc<0→q<N→b q=H→(∀i,i<q→b i+1≤H)→BackR H N (updN b q (H-1)) (tc+1) b'→BackR H N b tc b'
section
variable {w:World} {nb pb cap H N m:Nat} {nd:Nat→Nd} {b rk:Nat→Nat} {F:Cells}
theorem ph_back {w0:World} {R24:Unit→PT} {tc:Int} (hcap:513≤cap) (d:nb≠pb) (hN:N≤256) (hH5:5≤H) (hH:H≤11) (W:PayW w0 w nb pb cap N nd b rk F) (I:BackI H N m b rk tc) (hm:m<N)
  (hk:∀w' b' rk' F',PayW w0 w' nb pb cap N nd b' rk' F'→DLs H N b'→krS H b' N=2^H→BackR H N b tc b'→R24 () w') :
  q129_J18 (H:Int) ⟨some ⟨nb,1,none⟩,512,cap-1⟩ (m:Int) R24 ⟨pb,0,none⟩ tc w:=by
 unfold q129_J18
 refine ⟨fun x w'=>∃(n:Nat) (b' rk':Nat→Nat) (F':Cells),x.2=(n:Int)∧n<N∧PayW w0 w' nb pb cap N nd b' rk' F'∧BackI H N n b' rk' x.1∧(∀b9,BackR H N b' x.1 b9→BackR H N b tc b9),fun x _=>(-x.1).toNat,⟨m,b,rk,F,rfl,hm,W,I,fun _ h=>h⟩,?_⟩
 rintro ⟨x,xn⟩ w2 ⟨n,b2,rk2,F2,hxn,hn,W2,I2,X2⟩
 simp only at hxn I2 X2
 subst hxn
 unfold q129_L17
 simp only
 refine cnd_d ?_ ?_
 ·intro hc
  have hm0:0<m0S H b2 N:=by have:=I2.ge;omega
  obtain ⟨j,hj,hjb⟩:=m0S_pos hm0
  obtain ⟨i0,hi0,hi0b⟩:=I2.ex (by omega)
  have fin:∀(w3 w4:World) (q:Nat) (F4:Cells),PayW w0 w3 nb pb cap N nd b2 rk2 F2→q<N→b2 q=H→(∀i,i<q→b2 i+1≤H)→F4=updC F2 (1+q) ({ NB nd b2 N q with b:=H-1 } : Nd).v→Blk w4 nb F4→Blk w4 pb (arrC .u32 13 fun i=>((updN rk2 1 q i:Nat):Int))→Fm w3 w4 [nb,pb] →
    (∃(n':Nat) (b' rk':Nat→Nat) (F':Cells),((n:Nat):Int)=(n':Int)∧n'<N∧PayW w0 w4 nb pb cap N nd b' rk' F'∧BackI H N n' b' rk' (x+1)∧(∀b9,BackR H N b' (x+1) b9→BackR H N b tc b9))∧(-(x+1)).toNat<(-x).toNat:=by
   rintro w3 w4 q F4 W3 hq hqb hpre rfl HN4 HR4 Fr4
   exact ⟨⟨n,_,_,_,rfl,hn,⟨HN4,W3.nf.setB hq (by omega) (by omega),W3.som.upd,HR4,W3.fr.trans Fr4 (fun x hx => .inl hx)⟩,back_step hN hH5 I2 hc hq hqb hpre,fun b9 h9=>X2 b9 (.step hc hq hqb hpre h9)⟩,by omega⟩
  have hx1:IntKind.i64.wrap (x+1)=x+1:=by
   have hle:=m0S_le H b2 N
   have:=I2.ge
   exact wI64 (by omega) (by omega)
  have hH1:IntKind.u8.wrap (((H:Nat):Int)-1)=((H-1:Nat):Int):=by rw [wU8 (by omega) (by omega)];omega
  refine joinP_id ?_
  refine ixA_o (k:=1) rfl (by omega) ?_
  rw [Nat.zero_add]
  refine ld_b (t := .I .u32) (x:=((rk2 1:Nat):Int)) W2.r (arrC_get (by omega)) ?_
  refine cnd_d ?_ ?_
  ·intro h1
   have hns:rk2 1=noS:=by unfold noS;omega
   obtain ⟨hnN,htop⟩:=I2.top hns
   refine ⟨fun y w'=>w'=w2∧∃n2:Nat,y=(n2:Int)∧n2<N∧b2 n2<H∧∀i,n2<i→i<N→b2 i=H,?_,?_⟩
   ·rintro y w3 ⟨rfl,n2,rfl,hn2,hb2,ht2⟩
    unfold q129_J15
    have hjn:n2<j:=by
     by_cases h:n2<j
     ·exact h
     ·have:=I2.dl.mono j n2 (by omega) hn2;omega
    have hq:n2+1<N:=by omega
    have hqb:=ht2 (n2+1) (by omega) hq
    have en:IntKind.u32.wrap ((n2:Int)+1)=((n2+1:Nat):Int):=by rw [wU32 (by omega) (by omega)];omega
    rw [en]
    unfold drw
    refine ixS_o rfl (by omega) ?_
    refine ixS_o rfl (by omega) ?_
    obtain ⟨f1,f2⟩:=W2.nf (n2+1) (by omega)
    refine c128 W2.n.drew f1 f2 ?_
    have eb:(NB nd b2 N (n2+1)).b=H:=by rw [NB_in hq];exact hqb
    rw [eb,hH1]
    refine c126 W2.n.drew f1 f2 (by omega) ?_
    intro w4 HN4 F4
    refine ixA_o (k:=1) rfl (by omega) ?_
    rw [Nat.zero_add]
    refine st_u (W2.r.drew.fr F4 (nm1 d.symm)) (by rw [arrC_get (by omega)];rfl) rfl ?_
    intro w5 HR5 F5
    rw [arrC_nat (by omega)] at HR5
    have hpre:∀i,i<n2+1→b2 i+1≤H:=by
     intro i hi
     have:=I2.dl.mono i n2 (by omega) hn2;omega
    have R:=back_step hN hH5 I2 hc hq hqb hpre
    rw [hx1]
    refine ⟨⟨n2,_,_,_,rfl,hn2,⟨HN4.fr F5 (nm1 d),W2.nf.setB hq (by omega) (by omega),W2.som.upd,HR5,(W2.fr.drew.trans F4 (by intro v hv;simp at hv;simp [hv])).trans F5 (by intro v hv;simp at hv;simp [hv])⟩,⟨R.dl,R.kr,R.le,R.ge,R.ex,R.rl,?_⟩,fun b9 h9=>X2 b9 (.step hc hq hqb hpre h9)⟩,by dsimp only;omega⟩
    intro h
    rw [updN_eq] at h
    unfold noS at h
    omega
   ·refine ⟨fun y w'=>w'=w2∧∃n2:Nat,y=(n2:Int)∧n2<N∧∀i,n2<i→i<N→b2 i=H,fun y _=>y.toNat,⟨rfl,n,rfl,hnN,htop⟩,?_⟩
    rintro y w3 ⟨rfl,n2,rfl,hn2,ht2⟩
    unfold q129_L14
    refine ixS_o rfl (by omega) ?_
    obtain ⟨f1,f2⟩:=W2.nf n2 (by omega)
    refine c128 W2.n f1 f2 ?_
    have eb:(NB nd b2 N n2).b=b2 n2:=by rw [NB_in hn2]
    rw [eb]
    have hi0n:i0≤n2:=by
     by_cases h:i0≤n2
     ·exact h
     ·have:=ht2 i0 (by omega) hi0;omega
    refine cnd_d ?_ ?_
    ·intro h2
     have hne:i0≠n2:=by intro e;subst e;omega
     rw [wU32 (by omega) (by omega)]
     refine ⟨⟨rfl,n2-1,by omega,by omega,?_⟩,by dsimp only;omega⟩
     intro i hi hiN
     by_cases e:i=n2
     ·subst e;omega
     ·exact ht2 i (by omega) hiN
    ·intro h2
     have:=I2.dl.le n2 hn2
     exact ⟨rfl,n2,rfl,hn2,by omega,ht2⟩
  ·intro h1
   have hns:rk2 1≠noS:=by unfold noS;omega
   rcases I2.rl with ⟨h,_⟩|⟨hp,hpb,hp2⟩
   ·exact absurd h hns
   unfold q129_J16
   simp only
   have hjp:rk2 1<j:=by
    by_cases h:rk2 1<j
    ·exact h
    ·have:=I2.dl.mono j (rk2 1) (by omega) hp;omega
   have hq:rk2 1+1<N:=by omega
   have hqb:b2 (rk2 1+1)=H:=by
    have h3:=I2.dl.mono (rk2 1) (rk2 1+1) (by omega) hq
    have h4:=I2.dl.le _ hq
    have h5:=hp2 (rk2 1+1) (by omega) hq
    omega
   have hpre:∀i,i<rk2 1+1→b2 i+1≤H:=by
    intro i hi
    have:=I2.dl.mono i (rk2 1) (by omega) hp;omega
   have en:IntKind.u32.wrap (((rk2 1:Nat):Int)+1)=((rk2 1+1:Nat):Int):=by rw [wU32 (by omega) (by omega)];omega
   unfold drw
   refine ixA_o (k:=1) rfl (by omega) ?_
   rw [Nat.zero_add]
   refine ld_b (t := .I .u32) (x:=((rk2 1:Nat):Int)) W2.r.drew (arrC_get (by omega)) ?_
   rw [en]
   refine ixS_o rfl (by omega) ?_
   refine ixA_o (k:=1) rfl (by omega) ?_
   rw [Nat.zero_add]
   refine ld_b (t := .I .u32) (x:=((rk2 1:Nat):Int)) W2.r.drew (arrC_get (by omega)) ?_
   rw [en]
   refine ixS_o rfl (by omega) ?_
   obtain ⟨f1,f2⟩:=W2.nf (rk2 1+1) (by omega)
   refine c128 W2.n.drew f1 f2 ?_
   have eb:(NB nd b2 N (rk2 1+1)).b=H:=by rw [NB_in hq];exact hqb
   rw [eb,hH1]
   refine ⟨?_,?_⟩
   ·intro f hf
    simp only [List.mem_cons,List.not_mem_nil,or_false] at hf
    subst hf
    show w2.drew.cell? ⟨pb,1,none⟩=_
    rw [W2.r.drew.cell,arrC_get (by omega)]
   refine c126 W2.n.drew f1 f2 (by omega) ?_
   intro w4 HN4 F4
   have HR4:=W2.r.drew.fr F4 (nm1 d.symm)
   refine ixA_o (k:=1) rfl (by omega) ?_
   rw [Nat.zero_add]
   refine ld_b (t := .I .u32) (x:=((rk2 1:Nat):Int)) HR4 (arrC_get (by omega)) ?_
   rw [en]
   refine ixA_o (k:=1) rfl (by omega) ?_
   rw [Nat.zero_add]
   refine st_u HR4 (by rw [arrC_get (by omega)];rfl) rfl ?_
   intro w5 HR5 F5
   rw [arrC_nat (by omega)] at HR5
   rw [hx1]
   exact fin w2 w5 (rk2 1+1) _ W2 hq hqb hpre rfl (HN4.fr F5 (nm1 d)) HR5 (((Fm.refl w2 [nb,pb]).drew.trans F4 (by intro v hv;simp at hv;simp [hv])).trans F5 (by intro v hv;simp at hv;simp [hv]))
 ·intro hc
  have h0:x=0:=by have:=I2.le;omega
  refine hk w2 b2 rk2 F2 W2 I2.dl ?_ (X2 _ (.stop (by omega)))
  have:=I2.kr
  omega
theorem ph_rank {R32:Unit→PT} (HN:Blk w nb F) (hF:NF F (NB nd b N)) (HR:Blk w pb (arrC .u32 13 fun i=>((rk i:Nat):Int))) (d:nb≠pb) (hN:N≤256) (hH:H≤11) (hd:DLs H N b) (hns:∀r,1≤r→r≤12→rk r=noS) (hm:m<N) (htop:∀i,m<i→i<N→b i=H)
  (hk:∀w' rk',RL H N b rk'→Blk w' nb F→Blk w' pb (arrC .u32 13 fun i=>((rk' i:Nat):Int))→Fm w w' [pb]→R32 () w') :
  loopP ((H:Int),(m:Int)) (q129_L5 (H:Int) ⟨some ⟨nb,1,none⟩,512,cap-1⟩ ⟨pb,0,none⟩ R32) w:=by
 refine ⟨fun x w'=>∃(p cur:Nat) (rk':Nat→Nat),x=((cur:Int),(p:Int)-1)∧p≤m+1∧cur≤H∧(∀i,p≤i→i<N→cur≤b i)∧(cur=H∨∃i,p≤i∧i<N∧b i=cur) ∧
   (∀r,1≤r→r≤12→(rk' r=noS∧∀i,p≤i→i<N→b i+r≠H)∨(rk' r<N∧p≤rk' r∧b (rk' r)+r=H∧∀i,rk' r<i→i<N→b i+r≠H))∧Blk w' nb F∧Blk w' pb (arrC .u32 13 fun i=>((rk' i:Nat):Int))∧Fm w w' [pb],fun x _=>(x.2+1).toNat,
  ⟨m+1,H,rk,by rw [show ((m+1:Nat):Int)-1=(m:Int) by omega],Nat.le_refl _,Nat.le_refl _,fun i h1 h2=>by rw [htop i (by omega) h2];exact Nat.le_refl _,.inl rfl,fun r h1 h2 => .inl ⟨hns r h1 h2,fun i h3 h4=>by rw [htop i (by omega) h4];omega⟩,HN,HR,Fm.refl _ _⟩,?_⟩
 rintro x w2 ⟨p,cur,rk2,rfl,hp,hcH,hcur,hcur2,hrk,HN2,HR2,Fr⟩
 unfold q129_L5
 simp only
 refine cnd_d ?_ ?_
 ·intro hc
  have hq:p-1<N:=by omega
  have epos:((p:Int)-1)=((p-1:Nat):Int):=by omega
  have e64:IntKind.i64.wrap ((p:Int)-1-1)=((p-1:Nat):Int)-1:=by rw [wI64 (by omega) (by omega)];omega
  refine joinP_id ?_
  unfold q129_X4 q129_J3
  simp only
  rw [e64,epos]
  refine ixS_o rfl (by omega) ?_
  obtain ⟨f1,f2⟩:=hF (p-1) (by omega)
  refine c128 HN2 f1 f2 ?_
  have eb:(NB nd b N (p-1)).b=b (p-1):=by rw [NB_in hq]
  have hle:=hd.le _ hq
  have hone:=hd.one _ hq
  rw [eb]
  refine cnd_d ?_ ?_
  ·intro h1
   have hbe:b (p-1)=cur:=by
    rcases hcur2 with h|⟨i,h2,h3,h4⟩
    ·omega
    ·have:=hd.mono (p-1) i (by omega) h3;omega
   refine ⟨⟨p-1,cur,rk2,rfl,by omega,hcH,?_,?_,?_,HN2,HR2,Fr⟩,by omega⟩
   ·intro i h2 h3
    by_cases e:i=p-1
    ·subst e;omega
    ·exact hcur i (by omega) h3
   ·exact .inr ⟨p-1,Nat.le_refl _,hq,hbe⟩
   ·intro r hr1 hr2
    rcases hrk r hr1 hr2 with ⟨h2,h3⟩|⟨h2,h3,h4,h5⟩
    ·left
     refine ⟨h2,?_⟩
     intro i h6 h7
     by_cases e:i=p-1
     ·subst e
      rcases hcur2 with h|⟨i2,g1,g2,g3⟩
      ·omega
      ·have:=h3 i2 g1 g2;omega
     ·exact h3 i (by omega) h7
    ·exact .inr ⟨h2,by omega,h4,h5⟩
  ·intro h1
   have hlt:b (p-1)<cur:=by omega
   refine ixS_o rfl (by omega) ?_
   refine c128 HN2 f1 f2 ?_
   rw [eb]
   have ei:IntKind.u8.wrap ((H:Int)-((b (p-1):Nat):Int))=((H-b (p-1):Nat):Int):=by rw [wU8 (by omega) (by omega)];omega
   rw [ei]
   refine ixA_o rfl (by omega) ?_
   rw [Nat.zero_add]
   refine st_u HR2 (by rw [arrC_get (by omega)];rfl) rfl ?_
   intro w3 HR3 F3
   rw [wU32 (x:=((p-1:Nat):Int)) (by omega) (by omega),arrC_nat (by omega)] at HR3
   refine ⟨⟨p-1,b (p-1),_,rfl,by omega,by omega,?_,.inr ⟨p-1,Nat.le_refl _,hq,rfl⟩,?_,HN2.fr F3 (nm1 d),HR3,Fr.trans F3 (fun x hx => .inl hx)⟩,by omega⟩
   ·intro i h2 h3
    exact hd.mono (p-1) i h2 h3
   ·intro r hr1 hr2
    by_cases e:r=H-b (p-1)
    ·right
     subst e
     rw [updN_eq]
     refine ⟨hq,Nat.le_refl _,by omega,?_⟩
     intro i h2 h3
     have:=hcur i (by omega) h3
     omega
    ·rw [updN_ne e]
     rcases hrk r hr1 hr2 with ⟨h2,h3⟩|⟨h2,h3,h4,h5⟩
     ·left
      refine ⟨h2,?_⟩
      intro i h6 h7
      by_cases e2:i=p-1
      ·subst e2;omega
      ·exact h3 i (by omega) h7
     ·exact .inr ⟨h2,by omega,h4,h5⟩
 ·intro hc
  have hp0:p=0:=by omega
  subst hp0
  refine hk w2 rk2 ?_ HN2 HR2 Fr
  intro r hr1 hr2
  rcases hrk r hr1 hr2 with ⟨h2,h3⟩|⟨h2,h3,h4,h5⟩
  ·exact .inl ⟨h2,fun i hi=>h3 i (by omega) hi⟩
  ·exact .inr ⟨h2,h4,h5⟩
end
def cutG (Lg H:Nat) (D:Nat→Nat) (i:Nat):Nat:=if H<D i then 2^(Lg-H)-2^(Lg-D i) else 0
def cutD (H:Nat) (D:Nat→Nat) (i:Nat):Nat:=if H<D i then H else D i
def cutP (H:Nat) (D:Nat→Nat) (p i:Nat):Nat:=if p<i∧H<D i then H else D i
theorem sF_zero {g:Nat→Nat} : ∀ {n:Nat},(∀i,i<n→g i=0)→sF g 0 n=0
 | 0,_=>rfl
 | n+1,h=>by rw [sF,Nat.zero_add,h n (by omega),sF_zero (fun i hi=>h i (by omega))]
theorem sF_le_mul {g:Nat→Nat} {M:Nat} : ∀ {n:Nat},(∀i,i<n→g i≤M)→sF g 0 n≤n*M
 | 0,_=>by simp [sF]
 | n+1,h=>by
  rw [sF,Nat.zero_add,Nat.succ_mul]
  have:=sF_le_mul (n:=n) (fun i hi=>h i (by omega))
  have:=h n (by omega)
  omega
theorem sF_le_sF {g h:Nat→Nat} : ∀ {n:Nat},(∀i,i<n→g i≤h i)→sF g 0 n≤sF h 0 n
 | 0,_=>Nat.le_refl _
 | n+1,hh=>by
  rw [sF,sF,Nat.zero_add]
  have:=sF_le_sF (n:=n) (fun i hi=>hh i (by omega))
  have:=hh n (by omega)
  omega
theorem sF_mul (g:Nat→Nat) (M:Nat):∀n,sF (fun i=>M*g i) 0 n=M*sF g 0 n
 | 0=>rfl
 | n+1=>by rw [sF,sF,Nat.mul_add,sF_mul g M n]
theorem cutG_le {Lg H N:Nat} {D:Nat→Nat} (i:Nat):cutG Lg H D i≤2^(Lg-H):=by
 unfold cutG
 split
 ·exact Nat.sub_le _ _
 ·exact Nat.zero_le _
section
variable {Lg H N:Nat} {D:Nat→Nat}
structure DepH (Lg H N:Nat) (D:Nat→Nat):Prop where
 n1:1≤N
 n2:N≤256
 n3:N≤2^H
 h5:5≤H
 h11:H≤11
 one:∀i,i<N→1≤D i
 le:∀i,i<N→D i≤29
 mono:∀i j,i≤j→j<N→D i≤D j
 kr:sF (fun i=>2^(32-D i)) 0 N=2^32
 lg:D (N-1)=Lg
theorem DepH.leL (h:DepH Lg H N D) {i:Nat} (hi:i<N):D i≤Lg:=by
 have:=h.mono i (N-1) (by omega) (by have:=h.n1;omega)
 rw [h.lg] at this;exact this
theorem DepH.l29 (h:DepH Lg H N D):Lg≤29:=by
 have:=h.le (N-1) (by have:=h.n1;omega)
 rw [h.lg] at this;exact this
theorem DepH.krL (h:DepH Lg H N D):sF (fun i=>2^(Lg-D i)) 0 N=2^Lg:=by
 have h29:=h.l29
 have e:sF (fun i=>2^(32-D i)) 0 N=2^(32-Lg)*sF (fun i=>2^(Lg-D i)) 0 N:=by
  rw [←sF_mul]
  refine sF_congr (fun i _ hi => ?_)
  have:=h.leL (show i<N by omega)
  rw [←Nat.pow_add,show 32-Lg+(Lg-D i)=32-D i by omega]
 have e2:(2:Nat)^32=2^(32-Lg)*2^Lg:=by rw [←Nat.pow_add,show 32-Lg+Lg=32 by omega]
 rw [h.kr,e2] at e
 exact (Nat.eq_of_mul_eq_mul_left (Nat.two_pow_pos _) e).symm
theorem DepH.d0 (h:DepH Lg H N D):D 0≤H:=by
 by_cases hh:D 0≤H
 ·exact hh
 ·exfalso
  have h1:sF (fun i=>2^(32-D i)) 0 N≤N*2^(31-H):=sF_le_mul (fun i hi=>by
   have:=h.mono 0 i (by omega) hi
   exact Nat.pow_le_pow_right (by omega) (by omega))
  have h2:N*2^(31-H)≤2^H*2^(31-H):=Nat.mul_le_mul_right _ h.n3
  rw [←Nat.pow_add,show H+(31-H)=31 by have:=h.h11;omega] at h2
  have:=h.kr
  have h3:(2:Nat)^31<2^32:=by decide
  omega
theorem DepH.cut (h:DepH Lg H N D) (hl:H<Lg):∃tc:Nat,sF (cutG Lg H D) 0 N=2^(Lg-H)*tc∧krS H (cutD H D) N=2^H+tc∧tc<m0S H (cutD H D) N:=by
 have hn1:=h.n1
 have hk:=cut_kr (N:=N) (D:=D) (H:=H) (Lg:=Lg) (by omega) (fun i hi=>h.leL hi)
 rw [h.krL] at hk
 change 2^(Lg-H)*krS H (cutD H D) N=2^Lg+sF (cutG Lg H D) 0 N at hk
 have e2:(2:Nat)^Lg=2^(Lg-H)*2^H:=by rw [←Nat.pow_add,show Lg-H+H=Lg by omega]
 have hp:=Nat.two_pow_pos (Lg-H)
 have hle:2^H≤krS H (cutD H D) N:=by
  rw [e2] at hk
  exact (Nat.mul_le_mul_left_iff hp).1 (Nat.le.intro hk.symm)
 obtain ⟨tc,htc⟩:∃tc,krS H (cutD H D) N=2^H+tc:=⟨_,(Nat.add_sub_cancel' hle).symm⟩
 have hs:sF (cutG Lg H D) 0 N=2^(Lg-H)*tc:=by
  rw [htc,Nat.mul_add,e2] at hk;exact (Nat.add_left_cancel hk).symm
 refine ⟨tc,hs,htc,?_⟩
 have hlt:sF (cutG Lg H D) 0 N<2^(Lg-H)*m0S H (cutD H D) N:=by
  obtain ⟨n,rfl⟩:∃n,N=n+1:=⟨N-1,by omega⟩
  have hDn:D n=Lg:=by have:=h.lg;simpa using this
  unfold m0S
  rw [sF,sF,Nat.zero_add,Nat.mul_add]
  have h1:sF (cutG Lg H D) 0 n≤2^(Lg-H)*sF (fun i=>if cutD H D i=H then 1 else 0) 0 n:=by
   rw [←sF_mul]
   refine sF_le_sF (fun i hi => ?_)
   unfold cutG cutD
   split
   ·rw [if_pos rfl,Nat.mul_one];exact Nat.sub_le _ _
   ·exact Nat.zero_le _
  have h2:cutG Lg H D n<2^(Lg-H):=by
   unfold cutG
   rw [if_pos (by omega)]
   have:=Nat.two_pow_pos (Lg-D n)
   omega
  have h3:cutD H D n=H:=by unfold cutD;rw [if_pos (by omega)]
  rw [if_pos h3]
  omega
 exact Nat.lt_of_mul_lt_mul_left (Nat.lt_of_le_of_lt (Nat.le_of_eq hs.symm) hlt)
theorem DepH.dls (h:DepH Lg H N D):DLs H N (cutD H D):=by
 have h5:=h.h5
 refine ⟨?_,?_,?_⟩
 ·intro i hi;unfold cutD;split
  ·omega
  ·exact h.one i hi
 ·intro i hi;unfold cutD;split<;>omega
 ·intro i j hij hj
  have:=h.mono i j hij hj
  unfold cutD;split<;>split<;>omega
theorem DepH.ex (h:DepH Lg H N D) (hl:H<Lg):∃i,i<N∧cutD H D i<H:=by
 apply Classical.byContradiction
 intro hno
 obtain ⟨tc,h1,h2,h3⟩:=h.cut hl
 have hall:∀i,i<N→cutD H D i=H:=by
  intro i hi
  have:=h.dls.le i hi
  by_cases e:cutD H D i=H
  ·exact e
  ·exact absurd ⟨i,hi,by omega⟩ hno
 have h4:=krS_all hall
 have h5:=h.n3
 have h6:sF (cutG Lg H D) 0 N=0:=by
  have:tc=0:=by omega
  rw [h1,this,Nat.mul_zero]
 have hn1:=h.n1
 have h7:=sF_mem (cutG Lg H D) 0 (n:=N) (i:=N-1) (by omega) (by omega)
 have h8:0<cutG Lg H D (N-1):=by
  unfold cutG
  rw [h.lg,if_pos hl,Nat.sub_self]
  have:2^1≤2^(Lg-H):=Nat.pow_le_pow_right (by omega) (by omega)
  omega
 omega
end
theorem slcA_all {w:World} {b o m:Nat} {κ:Sl→PT} (hm:0<m) (h:κ ⟨some ⟨b,o,none⟩,m,m⟩ w):slcA 1 m ⟨b,o,none⟩ none none none κ w:=by
 refine ⟨0,m,m,rfl,rfl,rfl,?_⟩
 rw [if_neg (by omega),Nat.zero_mul,add_mk,Nat.add_zero,Nat.sub_zero]
 exact h
theorem nw_r13 {w:World} {κ:Addr→PT} (hk:∀w',Fm w w' []→w'.heap.size=w.heap.size+1→Blk w' w.heap.size (arrC .u32 13 fun _=>0)→κ ⟨w.heap.size,0,none⟩ w'):nw z233 233 κ w:=by
 refine hk _ (Fm.refl w []).alloc (World.size_alloc _ _) (Blk.new.congr ?_)
 funext i
 unfold z233 arrC
 rw [List.getElem?_toArray,List.getElem?_replicate]
def MaxR (H N:Nat) (cn D:Nat→Nat) (M:Nat) (b:Nat→Nat):Prop :=
 (D (N-1)≤H∧M=D (N-1)∧b=D)∨(H<D (N-1)∧M=H∧∃(tc:Nat) (b7:Nat→Nat) (tc7:Int),krS H (cutD H D) N=2^H+tc∧PayR H N cn (cutD H D) (tc:Int) b7 tc7∧BackR H N b7 tc7 b)
section
variable {w:World} {g nb pb cap H N m Lg:Nat} {nd:Nat→Nd} {D:Nat→Nat} {F:Cells} {s:HU}
theorem c129 {K:Int→PT} {l0:Nat} (B:Blk w g s.at) (hat:s.at 268=some (.int .u8 (H:Nat))) (hnod:s.at 273=some (Sl.val ⟨some ⟨nb,0,none⟩,l0,cap⟩)) (hcap:513≤cap)
  (HN:Blk w nb F) (hF:NF F (NB nd D N)) (hS:SomZ cap F) (P:DepH Lg H N D) (dgn:g≠nb)
  (hk:∀w' H' b' F',H'≤H→MaxR H N (fun i=>(nd i).c) D H' b'→DLs H' N b'→krS H' b' N=2^H'→NF F' (NB nd b' N)→SomZ cap F'→Blk w' nb F'→Fm w w' [nb]→K ((H':Nat):Int) w') :
  callP Tryd.prog 129 #[.pointer (some ⟨g,0,none⟩),.int .i64 ((N-1:Nat):Int)] [.c (.I .u8)] K w:=by
 apply q129_ok
 unfold q129
 have hn1:=P.n1
 have hn2:=P.n2
 have hn3:=P.n3
 have h5:=P.h5
 have h11:=P.h11
 have h29:=P.l29
 simp only [add_mk,Nat.zero_add]
 refine ld_b (t := .I .u8) (x:=((H:Nat):Int)) B hat ?_
 refine ld_b (t := .S) (x:=⟨some ⟨nb,0,none⟩,l0,cap⟩) B (by rw [hnod];rfl) ?_
 refine slc_lh (n:=1) (m:=513) rfl rfl (by omega) hcap ?_
 have e4:(⟨slA (some ⟨nb,0,none⟩) 1 cap 1,513-1,cap-1⟩:Sl)=⟨some ⟨nb,1,none⟩,512,cap-1⟩:=by
  unfold slA
  rw [if_neg (by omega)]
  simp [add_mk]
 simp only [e4]
 refine ixS_o (k:=N-1) rfl (by omega) ?_
 obtain ⟨f1,f2⟩:=hF (N-1) (by omega)
 refine c128 HN f1 f2 ?_
 have eb:(NB nd D N (N-1)).b=Lg:=by rw [NB_in (by omega)];exact P.lg
 rw [eb]
 refine cnd_d ?_ ?_
 ·intro hc
  have hl:Lg≤H:=by omega
  refine hk w Lg D F hl (.inl ⟨by rw [P.lg];exact hl,P.lg.symm,rfl⟩) ⟨P.one,fun i hi=>P.leL hi,P.mono⟩ P.krL hF hS HN (Fm.refl _ _)
 intro hc
 have hl:H<Lg:=by omega
 have eLH:IntKind.u8.wrap ((Lg:Int)-(H:Int))=((Lg-H:Nat):Int):=by rw [wU8 (by omega) (by omega)];omega
 have esh:∀a,a≤29→shlI .i64 1 ((a:Nat):Int)=((2^a:Nat):Int):=by
  intro a ha
  have:=shlI_nat .i64 1 a (by simp only [IntKind.bits];omega) (by rw [Nat.one_mul];exact Nat.lt_of_le_of_lt (Nat.pow_le_pow_right (by omega) ha) (by decide))
  rw [Nat.one_mul] at this
  exact this
 have hp24:2^(Lg-H)≤2^24:=Nat.pow_le_pow_right (by omega) (by omega)
 have hp24':(2:Nat)^24=16777216:=by decide
 have htot:sF (cutG Lg H D) 0 N≤N*2^(Lg-H):=sF_le_mul (fun i hi=>cutG_le (N:=N) i)
 have htot2:N*2^(Lg-H)≤256*2^(Lg-H):=Nat.mul_le_mul_right _ hn2
 rw [eLH]
 refine ⟨by omega,?_⟩
 rw [wU32 (x:=((N-1:Nat):Int)) (by omega) (by omega)]
 obtain ⟨tc,ht1,ht2,ht3⟩:=P.cut hl
 refine joinP_id ?_
 refine ⟨fun x w'=>∃(p a:Nat) (F':Cells),x=((a:Int),(p:Int))∧p<N∧a+sF (cutG Lg H D) 0 (p+1)=sF (cutG Lg H D) 0 N∧(∀i,p<i→i<N→H<D i)∧NF F' (NB nd (cutP H D p) N)∧SomZ cap F'∧Blk w' nb F'∧Fm w w' [nb],fun x _=>x.2.toNat,
  ⟨N-1,0,F,rfl,by omega,by rw [Nat.sub_add_cancel hn1,Nat.zero_add],fun i h1 h2=>by omega,hF.congr (fun i hi=>by
   unfold NB cutP
   split
   ·rw [if_neg (by omega)]
   ·rfl),hS,HN,Fm.refl _ _⟩,?_⟩
 rintro x w2 ⟨p,a,F2,rfl,hp,ha,hab,hF2,hS2,HN2,Fr2⟩
 unfold q129_L0
 simp only
 refine ixS_o rfl (by omega) ?_
 obtain ⟨g1,g2⟩:=hF2 p (by omega)
 refine c128 HN2 g1 g2 ?_
 have ebp:(NB nd (cutP H D p) N p).b=D p:=by rw [NB_in hp];show cutP H D p p=_;unfold cutP;rw [if_neg (by omega)]
 rw [ebp]
 have hpl:=P.leL hp
 refine cnd_d ?_ ?_
 ·intro hc2
  have hcp:H<D p:=by omega
  have hp0:p≠0:=by intro e;subst e;have:=P.d0;omega
  refine ixS_o rfl (by omega) ?_
  refine c128 HN2 g1 g2 ?_
  rw [ebp]
  have eLD:IntKind.u8.wrap ((Lg:Int)-((D p:Nat):Int))=((Lg-D p:Nat):Int):=by rw [wU8 (by omega) (by omega)];omega
  rw [eLD,eLH,esh _ (by omega),esh _ (by omega)]
  refine ⟨by omega,?_⟩
  refine ixS_o rfl (by omega) ?_
  refine c126 HN2 g1 g2 (by omega) ?_
  intro w3 HN3 F3
  rw [sF,Nat.zero_add] at ha
  have hg:cutG Lg H D p=2^(Lg-H)-2^(Lg-D p):=by unfold cutG;rw [if_pos hcp]
  have hle:2^(Lg-D p)≤2^(Lg-H):=Nat.pow_le_pow_right (by omega) (by omega)
  generalize 2^(Lg-H)=A at *
  generalize 2^(Lg-D p)=A2 at *
  rw [wI64 (x:=((A:Nat):Int)-((A2:Nat):Int)) (by omega) (by omega),wI64 (by omega) (by omega),wU32 (by omega) (by omega)]
  refine ⟨⟨p-1,a+cutG Lg H D p,_,?_,by omega,?_,?_,(hF2.setB hp (by omega) (by omega)).congr ?_,hS2.upd,HN3,Fr2.trans F3 (fun x hx => .inl hx)⟩,by omega⟩
  ·rw [hg]
   congr 1
   ·omega
   ·omega
  ·rw [show p-1+1=p by omega];omega
  ·intro i h1 h2
   by_cases e:i=p
   ·subst e;omega
   ·exact hab i (by omega) h2
  ·intro i hi
   unfold NB
   split
   ·unfold updN cutP
    by_cases e:i=p
    ·subst e;rw [if_pos rfl,if_pos ⟨by omega,hcp⟩]
    ·rw [if_neg e]
     by_cases e2:p<i
     ·by_cases e3:H<D i
      ·rw [if_pos ⟨e2,e3⟩,if_pos ⟨by omega,e3⟩]
      ·rw [if_neg (fun h=>e3 h.2),if_neg (fun h=>e3 h.2)]
     ·rw [if_neg (fun h=>e2 h.1),if_neg (fun h=>e2 (by omega))]
   ·rfl
 ·intro hc2
  have hcp:D p≤H:=by omega
  have hz:sF (cutG Lg H D) 0 (p+1)=0:=sF_zero (fun i hi=>by
   have:=P.mono i p (by omega) hp
   unfold cutG
   rw [if_neg (by omega)])
  have hat:a=2^(Lg-H)*tc:=by omega
  have eF2:NF F2 (NB nd (cutD H D) N):=hF2.congr (fun i hi=>by
   unfold NB
   split
   ·have h1:cutP H D p i=cutD H D i:=by
     unfold cutP cutD
     by_cases e:p<i
     ·by_cases e3:H<D i
      ·rw [if_pos ⟨e,e3⟩,if_pos e3]
      ·rw [if_neg (fun h=>e3 h.2),if_neg e3]
     ·have:=P.mono i p (by omega) hp
      rw [if_neg (fun h=>e h.1),if_neg (by omega)]
    rw [h1]
   ·rfl)
  have hd:=P.dls
  obtain ⟨i0,hi0,hi0b⟩:=P.ex hl
  unfold q129_J23
  refine ⟨fun y w'=>w'=w2∧∃m:Nat,y=(m:Int)∧m<N∧cutD H D m<H∧∀i,m<i→i<N→cutD H D i=H,?_,?_⟩
  ·rintro y w3 ⟨rfl,m,rfl,hm,hmb,htop⟩
   unfold q129_J22
   rw [eLH]
   refine ⟨by omega,?_⟩
   refine ⟨fun _ w'=>∃b' F',MaxR H N (fun i=>(nd i).c) D H b'∧DLs H N b'∧krS H b' N=2^H∧NF F' (NB nd b' N)∧SomZ cap F'∧Blk w' nb F'∧Fm w3 w' [nb],?_,?_⟩
   ·rintro _ w4 ⟨b4,F4,k0,k1,k2,k3,k4,k5,k6⟩
    unfold q129_J21
    exact hk w4 H b4 F4 (Nat.le_refl _) k0 k1 k2 k3 k4 k5 (Fr2.trans k6 (fun x hx => .inl hx))
   refine nw_r13 ?_
   intro w4 F4 hs4 HR4
   have hnl:=HN2.lt
   have dnr:nb≠w3.heap.size:=by omega
   have hrb:w3.heap.size≤w3.heap.size:=Nat.le_refl _
   generalize hrbe:w3.heap.size=rb at *
   have HN4:=HN2.fr F4 (by simp)
   refine joinP_id ?_
   refine slcA_all (by omega) ?_
   refine ⟨fun x w'=>∃(k:Nat) (f:Nat→Int),x=(k:Int)∧k≤13∧(∀i,i<k→f i=((noS:Nat):Int))∧Blk w' rb (arrC .u32 13 f)∧Fm w4 w' [rb],fun x _=>13-x.toNat,⟨0,_,rfl,by omega,fun i hi=>absurd hi (Nat.not_lt_zero _),HR4,Fm.refl _ _⟩,?_⟩
   rintro x w5 ⟨k,f,rfl,hk13,hf,HR5,Fr5⟩
   unfold q129_L2
   refine cnd_d ?_ ?_
   ·intro hc3
    have hk2:k<13:=by simp only at hc3;omega
    refine ixA_o rfl hk2 ?_
    rw [Nat.zero_add]
    refine st_u HR5 (by rw [arrC_get (by omega)];rfl) rfl ?_
    intro w6 HR6 F6
    rw [arrC_upd (by omega)] at HR6
    rw [wI64 (by omega) (by omega)]
    refine ⟨⟨k+1,_,by simp,by omega,?_,HR6,Fr5.trans F6 (fun x hx => .inl hx)⟩,by dsimp only;omega⟩
    intro i hi
    unfold updF
    by_cases e:i=k
    ·subst e;rw [if_pos rfl];rfl
    ·rw [if_neg e];exact hf i (by omega)
   ·intro hc3
    have hk2:k=13:=by simp only at hc3;omega
    subst hk2
    have HN5:=HN4.fr Fr5 (nm1 dnr)
    have HR5':Blk w5 rb (arrC .u32 13 fun i=>(((fun _=>noS) i:Nat):Int)):=HR5.congr (by
     funext i
     unfold arrC
     split
     ·rw [hf i (by omega)]
     ·rfl)
    unfold q129_J20
    refine joinP_id ?_
    rw [wI64 (x:=((m:Nat):Int)) (by omega) (by omega)]
    refine ph_rank HN5 eF2 HR5' dnr hn2 h11 hd (fun _ _ _=>rfl) hm htop ?_
    intro w6 rk6 hrl HN6 HR6 Fr6
    unfold q129_J19
    refine joinP_id ?_
    have hshr:shrI .i64 ((a:Nat):Int) (IntKind.u8.wrap ((Lg:Int)-(H:Int)))=((tc:Nat):Int):=by
     rw [eLH,shrI_nat _ _ _ (by simp only [IntKind.bits];omega),hat,Nat.mul_div_cancel_left _ (Nat.two_pow_pos _)]
    rw [hshr]
    have W6:PayW w5 w6 nb rb cap N nd (cutD H D) rk6 F2:=⟨HN6,eF2,hS2,HR6,Fr6.mono (by intro v hv;simp at hv;simp [hv])⟩
    have I6:PayI H N m (cutD H D) (tc:Int):=⟨hd,by rw [ht2];push_cast;rfl,by omega,by omega,htop,fun _=>⟨m,hm,hmb⟩⟩
    refine ph_pay hcap dnr hn2 hn3 h11 W6 hrl I6 (by omega) ?_
    intro w7 b7 rk7 F7 tc7 h7 W7 hrl7 I7 hR7
    have B7:BackI H N m b7 rk7 tc7:=⟨I7.dl,I7.kr,h7,I7.ge,I7.ex,hrl7 1 (Nat.le_refl _) (by omega),fun _=>⟨hm,I7.top⟩⟩
    refine ph_back hcap dnr hn2 h5 h11 W7 B7 hm ?_
    intro w8 b8 rk8 F8 W8 hd8 hk8 hR8
    refine ⟨b8,F8,.inr ⟨by rw [P.lg];exact hl,rfl,tc,b7,tc7,ht2,hR7,hR8⟩,hd8,hk8,W8.nf,W8.som,W8.n,?_⟩
    refine Fm.trans ((F4.mono (S' := [nb]) ?_).trans Fr5 ?_) W8.fr ?_
    ·intro v hv;simp at hv
    ·intro v hv;simp only [List.mem_cons,List.not_mem_nil,or_false] at hv;subst hv;right;omega
    ·intro v hv
     simp only [List.mem_cons,List.not_mem_nil,or_false] at hv
     rcases hv with rfl|rfl
     ·left;simp
     ·right;omega
  ·refine ⟨fun y w'=>w'=w2∧∃m:Nat,y=(m:Int)∧m<N∧(∀i,m<i→i<N→cutD H D i=H),fun y _=>y.toNat,⟨rfl,p,rfl,hp,?_⟩,?_⟩
   ·intro i h1 h2
    unfold cutD;rw [if_pos (hab i h1 h2)]
   rintro y w3 ⟨rfl,m,rfl,hm,htop⟩
   unfold q129_L1
   refine ixS_o rfl (by omega) ?_
   obtain ⟨k1,k2⟩:=eF2 m (by omega)
   refine c128 HN2 k1 k2 ?_
   have ebm:(NB nd (cutD H D) N m).b=cutD H D m:=by rw [NB_in hm]
   rw [ebm]
   have hmle:=hd.le m hm
   refine cnd_d ?_ ?_
   ·intro hc3
    have hmH:cutD H D m=H:=by omega
    have hm0:i0<m:=by
     by_cases e:i0<m
     ·exact e
     ·have:=hd.mono m i0 (by omega) hi0;omega
    rw [wU32 (by omega) (by omega)]
    refine ⟨⟨rfl,m-1,by omega,by omega,?_⟩,by dsimp only;omega⟩
    intro i h1 h2
    by_cases e:i=m
    ·subst e;exact hmH
    ·exact htop i (by omega) h2
   ·intro hc3
    exact ⟨rfl,m,rfl,hm,by omega,htop⟩
end
def NW (w:World) (nb cap:Nat) (z:Nd) (nd:Nat→Nd):Prop:=∃F,Blk w nb F∧Som cap F∧F 0=some z.v∧z.ok∧NF F nd
def setC (nd:Nat→Nd) (i v:Nat):Nat→Nd:=updD nd i { nd i with c:=v }
def setP (nd:Nat→Nd) (i v:Nat):Nat→Nd:=updD nd i { nd i with p:=v }
def setB (nd:Nat→Nd) (i v:Nat):Nat→Nd:=updD nd i { nd i with b:=v }
section
variable {nd:Nat→Nd} {i v j:Nat}
theorem setC_c:(setC nd i v j).c=if j=i then v else (nd j).c:=by unfold setC updD;split<;>rfl
theorem setC_p:(setC nd i v j).p=(nd j).p:=by
 unfold setC updD;split
 ·subst_vars;rfl
 ·rfl
theorem setC_s:(setC nd i v j).s=(nd j).s:=by
 unfold setC updD;split
 ·subst_vars;rfl
 ·rfl
theorem setP_p:(setP nd i v j).p=if j=i then v else (nd j).p:=by unfold setP updD;split<;>rfl
theorem setP_c:(setP nd i v j).c=(nd j).c:=by
 unfold setP updD;split
 ·subst_vars;rfl
 ·rfl
theorem setP_s:(setP nd i v j).s=(nd j).s:=by
 unfold setP updD;split
 ·subst_vars;rfl
 ·rfl
theorem setB_b:(setB nd i v j).b=if j=i then v else (nd j).b:=by unfold setB updD;split<;>rfl
theorem setB_p:(setB nd i v j).p=(nd j).p:=by
 unfold setB updD;split
 ·subst_vars;rfl
 ·rfl
theorem setB_s:(setB nd i v j).s=(nd j).s:=by
 unfold setB updD;split
 ·subst_vars;rfl
 ·rfl
end
section
variable {w:World} {nb cap i:Nat} {z:Nd} {nd:Nat→Nd}
theorem NW.fr {w':World} {S:List Nat} (h:NW w nb cap z nd) (f:Fm w w' S) (hs:nb∉S):NW w' nb cap z nd:=by
 obtain ⟨F,h1,h2⟩:=h
 exact ⟨F,h1.fr f hs,h2⟩
theorem NW.drew (h:NW w nb cap z nd):NW w.drew nb cap z nd:=by
 obtain ⟨F,h1,h2⟩:=h
 exact ⟨F,h1.drew,h2⟩
theorem NW.ok (h:NW w nb cap z nd) (hi:i<512):(nd i).ok:=by
 obtain ⟨F,h1,h2,h3,h4,h5⟩:=h
 exact (h5 i hi).2
theorem n123 {K:Int→PT} {o:Nat} (h:NW w nb cap z nd) (hi:i<512) (ho:o=i+1) (hk:K ((nd i).c:Nat) w):callP Tryd.prog 123 #[.pointer (some ⟨nb,o,none⟩)] [.c (.I .u32)] K w:=by
 obtain ⟨F,h1,h2,h3,h4,h5⟩:=h
 subst ho
 rw [Nat.add_comm]
 exact c123 h1 (h5 i hi).1 (h5 i hi).2 hk
theorem n127 {K:Int→PT} {o:Nat} (h:NW w nb cap z nd) (hi:i<512) (ho:o=i+1) (hk:K ((nd i).p:Nat) w):callP Tryd.prog 127 #[.pointer (some ⟨nb,o,none⟩)] [.c (.I .u16)] K w:=by
 obtain ⟨F,h1,h2,h3,h4,h5⟩:=h
 subst ho
 rw [Nat.add_comm]
 exact c127 h1 (h5 i hi).1 (h5 i hi).2 hk
theorem n128 {K:Int→PT} {o:Nat} (h:NW w nb cap z nd) (hi:i<512) (ho:o=i+1) (hk:K ((nd i).b:Nat) w):callP Tryd.prog 128 #[.pointer (some ⟨nb,o,none⟩)] [.c (.I .u8)] K w:=by
 obtain ⟨F,h1,h2,h3,h4,h5⟩:=h
 subst ho
 rw [Nat.add_comm]
 exact c128 h1 (h5 i hi).1 (h5 i hi).2 hk
theorem n124 {K:Unit→PT} {o n:Nat} (h:NW w nb cap z nd) (hi:i<512) (ho:o=i+1) (hn:n<2^32) (hk:∀w',NW w' nb cap z (setC nd i n)→Fm w w' [nb]→K () w'):callP Tryd.prog 124 #[.pointer (some ⟨nb,o,none⟩),.int .u32 (n:Nat)] [] K w:=by
 obtain ⟨F,h1,h2,h3,h4,h5⟩:=h
 subst ho
 rw [Nat.add_comm]
 obtain ⟨k1,k2⟩:=h5 i hi
 refine c124 h1 k1 k2 hn ?_
 intro w' HB hf
 exact hk w' ⟨_,HB,h2.upd,by unfold updC;rw [if_neg (by omega)];exact h3,h4,h5.upd ⟨hn,k2.2.1,k2.2.2.1,k2.2.2.2⟩⟩ hf
theorem n125 {K:Unit→PT} {o n:Nat} (h:NW w nb cap z nd) (hi:i<512) (ho:o=i+1) (hn:n<2^15) (hk:∀w',NW w' nb cap z (setP nd i n)→Fm w w' [nb]→K () w'):callP Tryd.prog 125 #[.pointer (some ⟨nb,o,none⟩),.int .i16 (n:Nat)] [] K w:=by
 obtain ⟨F,h1,h2,h3,h4,h5⟩:=h
 subst ho
 rw [Nat.add_comm]
 obtain ⟨k1,k2⟩:=h5 i hi
 refine c125 h1 k1 k2 hn ?_
 intro w' HB hf
 exact hk w' ⟨_,HB,h2.upd,by unfold updC;rw [if_neg (by omega)];exact h3,h4,h5.upd ⟨k2.1,(by show n<2^16;omega),k2.2.2.1,k2.2.2.2⟩⟩ hf
theorem n126 {K:Unit→PT} {o n:Nat} (h:NW w nb cap z nd) (hi:i<512) (ho:o=i+1) (hn:n<2^8) (hk:∀w',NW w' nb cap z (setB nd i n)→Fm w w' [nb]→K () w'):callP Tryd.prog 126 #[.pointer (some ⟨nb,o,none⟩),.int .u8 (n:Nat)] [] K w:=by
 obtain ⟨F,h1,h2,h3,h4,h5⟩:=h
 subst ho
 rw [Nat.add_comm]
 obtain ⟨k1,k2⟩:=h5 i hi
 refine c126 h1 k1 k2 hn ?_
 intro w' HB hf
 exact hk w' ⟨_,HB,h2.upd,by unfold updC;rw [if_neg (by omega)];exact h3,h4,h5.upd ⟨k2.1,k2.2.1,k2.2.2.1,hn⟩⟩ hf
theorem z123 {K:Int→PT} (h:NW w nb cap z nd) (hk:K (z.c:Nat) w):callP Tryd.prog 123 #[.pointer (some ⟨nb,0,none⟩)] [.c (.I .u32)] K w:=by
 obtain ⟨F,h1,h2,h3,h4,h5⟩:=h
 exact c123 h1 h3 h4 hk
theorem z124 {K:Unit→PT} {n:Nat} (h:NW w nb cap z nd) (hn:n<2^32) (hk:∀w',NW w' nb cap { z with c:=n } nd→Fm w w' [nb]→K () w'):callP Tryd.prog 124 #[.pointer (some ⟨nb,0,none⟩),.int .u32 (n:Nat)] [] K w:=by
 obtain ⟨F,h1,h2,h3,h4,h5⟩:=h
 refine c124 h1 h3 h4 hn ?_
 intro w' HB hf
 refine hk w' ⟨_,HB,h2.upd,by unfold updC;rw [if_pos rfl],⟨hn,h4.2.1,h4.2.2.1,h4.2.2.2⟩,?_⟩ hf
 intro i hi
 unfold updC
 rw [if_neg (by omega)]
 exact h5 i hi
end
structure CN (N L k:Nat) (c:Nat→Nat) (nd:Nat→Nd):Prop where
 cl:∀i,i<N→(nd i).c=c i
 ci:∀v,L≤v→v<k→(nd v).c=c v
 un:∀v,k≤v→v≤L+N-2→(nd v).c=1073741824
section
variable {w:World} {nb cap N L tot k lo hi:Nat} {z:Nd} {nd:Nat→Nd} {c p:Nat→Nat} {P:List Nat}
theorem PK.first (H:PK N L tot c p P k lo hi) (h:0<P.length):∃i,i<N∧p i=L:=by
 have h1:=H.par 0 h
 have hnl:=H.nl
 rcases (H.mem P[0]).mp (List.getElem_mem h) with ⟨_,h2⟩|⟨h2,_⟩
 ·exact ⟨P[0],h2,by rw [h1];omega⟩
 ·have:=H.late 0 h h2;omega
theorem PK.fin (H:PK N L tot c p P k lo hi) (hk:k=L+N-1) (hm:P.length=2*(k-L)):lo=0∧hi=L+N-2:=by
 have hn2:=H.n2
 have hnl:=H.nl
 have hll:=H.ll
 have hh1:=H.h1
 have hh2:=H.h2
 have hlen:=H.len
 have hlo:lo=0:=by
  by_cases h:lo=0
  ·exact h
  ·exfalso
   have hR:L+N-2∈P:=(H.mem _).mpr (.inr (by omega))
   obtain ⟨t,ht,he⟩:=List.mem_iff_getElem.mp hR
   have:=H.late t ht (by rw [he];omega)
   rw [he] at this
   omega
 exact ⟨hlo,by omega⟩
theorem pickW {X Y:PT} {x y:Int} (W:NW w nb cap z nd) (hz:z.c=2147483648) (H:PK N L tot c p P k lo hi) (C:CN N L k c nd) (hL:L≤256) (htot:tot<832040) (hm1:2*(k-L)≤P.length) (hm:P.length≤2*(k-L)+1) (hkr:k≤L+N-2) (hx:x=(lo:Int)-1) (hy:y=hi)
  (hA:0<lo→(hi<k→c (lo-1)<c hi)→X w) (hB:hi<k→(0<lo→c hi≤c (lo-1))→Y w) :
  (ixS 1 ⟨some ⟨nb,0,none⟩,513,cap⟩ (IntKind.wrap .i16 (x+(1:Int))) fun (p51:Addr)=>ixS 1 ⟨some ⟨nb,0,none⟩,513,cap⟩ (IntKind.wrap .i16 (y+(1:Int))) fun (p52:Addr)=>callP Tryd.prog 123 #[(.pointer (some p51))] [.c (.I .u32)] fun (r53:Int)=>callP Tryd.prog 123 #[(.pointer (some p52))] [.c (.I .u32)] fun (r54:Int)=>cnd (decide (r53<r54)) X Y) w:=by
 have hn2:=H.n2
 have hnl:=H.nl
 have hll:=H.ll
 have hh1:=H.h1
 have hh2:=H.h2
 have hlen:=H.len
 subst hx hy
 rw [show (lo:Int)-1+1=(lo:Int) by omega,wI16 (x:=(lo:Int)) (by omega) (by omega),wI16 (x:=(hi:Int)+1) (by omega) (by omega),show (hi:Int)+1=((hi+1:Nat):Int) by omega]
 refine ixS_o rfl (by omega) ?_
 refine ixS_o rfl (by omega) ?_
 rw [Nat.zero_add,Nat.zero_add]
 have hhc:hi<k→(nd hi).c=c hi:=fun h=>C.ci hi hh1 h
 have hhu:¬hi<k→(nd hi).c=1073741824:=fun h=>C.un hi (by omega) (by omega)
 by_cases h0:lo=0
 ·subst h0
  refine z123 W ?_
  refine n123 (i:=hi) W (by omega) rfl ?_
  rw [hz]
  have hhk:hi<k:=by
   by_cases h:hi<k
   ·exact h
   ·omega
  have hle:=H.le (y:=hi) (.inr ⟨Nat.le_refl _,hhk⟩)
  refine cnd_d ?_ ?_
  ·intro hc;rw [hhc hhk] at hc;omega
  ·intro _;exact hB hhk (fun h=>absurd h (Nat.lt_irrefl _))
 ·refine n123 (i:=lo-1) W (by omega) (by omega) ?_
  refine n123 (i:=hi) W (by omega) rfl ?_
  rw [C.cl (lo-1) (by omega)]
  have hle:=H.le (y:=lo-1) (.inl (by omega))
  refine cnd_d ?_ ?_
  ·intro hc
   refine hA (by omega) (fun h => ?_)
   rw [hhc h] at hc
   omega
  ·intro hc
   have hhk:hi<k:=by
    by_cases h:hi<k
    ·exact h
    ·rw [hhu h] at hc;omega
   rw [hhc hhk] at hc
   exact hB hhk (fun _=>by omega)
def Pick (c:Nat→Nat) (k lo hi x lo' hi':Nat):Prop:=(x=lo-1∧0<lo∧lo'=lo-1∧hi'=hi∧(hi<k→c (lo-1)<c hi))∨(x=hi∧hi<k∧lo'=lo∧hi'=hi+1∧(0<lo→c hi≤c (lo-1)))
inductive TrR (N L:Nat) (c0:Nat→Nat):(Nat→Nat)→(Nat→Nat)→Nat→Nat→Nat→Prop
 | start:TrR N L c0 (updN c0 L (c0 (N-1)+c0 (N-2))) (updN (updN (fun _=>0) (N-1) L) (N-2) L) (L+1) (N-2) L
 | step {c p:Nat→Nat} {k lo hi x1 lo1 hi1 x2 lo2 hi2:Nat} : TrR N L c0 c p k lo hi→Pick c k lo hi x1 lo1 hi1→Pick c k lo1 hi1 x2 lo2 hi2→TrR N L c0 (updN c k (c x1+c x2)) (updN (updN p x1 k) x2 k) (k+1) lo2 hi2
structure TI (N L tot k lo hi:Nat) (c0 σ:Nat→Nat) (nd:Nat→Nd):Prop where
 ex:∃(c p:Nat→Nat) (P:List Nat),PK N L tot c p P k lo hi∧CN N L k c nd∧(∀x∈P,(nd x).p=p x)∧P.length=2*(k-L)∧(∀i,i<N→c i=c0 i)∧TrR N L c0 c p k lo hi
 sy:∀i,i<N→(nd i).s=σ i
 k1:L<k
 k2:k≤L+N-1
theorem mkW {A:PT} {x1 x2:Nat} {i1 i2:Int} (W:NW w nb cap z nd) (h1:x1<512) (h2:x2<512) (hk:k<512) (e1:i1=x1) (e2:i2=x2) (hs:(nd x1).c+(nd x2).c<4294967296)
  (hA:∀w',NW w' nb cap z (setP (setP (setC nd k ((nd x1).c+(nd x2).c)) x1 k) x2 k)→Fm w w' [nb]→A w') :
  (ixS 1 ⟨some ⟨nb,1,none⟩,512,cap-1⟩ (k:Int) fun (p62:Addr)=>ixS 1 ⟨some ⟨nb,0,none⟩,513,cap⟩ (IntKind.wrap .i16 (i1+(1:Int))) fun (p63:Addr)=>ixS 1 ⟨some ⟨nb,0,none⟩,513,cap⟩ (IntKind.wrap .i16 (i2+(1:Int))) fun (p64:Addr)=>callP Tryd.prog 123 #[(.pointer (some p63))] [.c (.I .u32)] fun (r65:Int)=>callP Tryd.prog 123 #[(.pointer (some p64))] [.c (.I .u32)] fun (r66:Int)=>callP Tryd.prog 124 #[(.pointer (some p62)),(.int .u32 (IntKind.wrap .u32 (r65+r66)))] [] fun (r67:Unit)=>ixS 1 ⟨some ⟨nb,0,none⟩,513,cap⟩ (IntKind.wrap .i16 (i1+(1:Int))) fun (p68:Addr)=>callP Tryd.prog 125 #[(.pointer (some p68)),(.int .i16 (k:Int))] [] fun (r69:Unit)=>ixS 1 ⟨some ⟨nb,0,none⟩,513,cap⟩ (IntKind.wrap .i16 (i2+(1:Int))) fun (p70:Addr)=>callP Tryd.prog 125 #[(.pointer (some p70)),(.int .i16 (k:Int))] [] fun (r71:Unit)=>A) w:=by
 subst e1 e2
 rw [wI16 (x:=(x1:Int)+1) (by omega) (by omega),wI16 (x:=(x2:Int)+1) (by omega) (by omega),show (x1:Int)+1=((x1+1:Nat):Int) by omega,show (x2:Int)+1=((x2+1:Nat):Int) by omega]
 refine ixS_o rfl (by omega) ?_
 refine ixS_o rfl (by omega) ?_
 refine ixS_o rfl (by omega) ?_
 refine n123 (i:=x1) W h1 (by omega) ?_
 refine n123 (i:=x2) W h2 (by omega) ?_
 rw [wU32 (by omega) (by omega), ←Int.natCast_add]
 refine n124 (i:=k) W hk (by omega) hs ?_
 intro w1 W1 F1
 refine ixS_o rfl (by omega) ?_
 refine n125 (i:=x1) W1 h1 (by omega) (by omega) ?_
 intro w2 W2 F2
 refine ixS_o rfl (by omega) ?_
 refine n125 (i:=x2) W2 h2 (by omega) (by omega) ?_
 intro w3 W3 F3
 exact hA w3 W3 ((F1.trans F2 (fun x hx => .inl hx)).trans F3 (fun x hx => .inl hx))
theorem CN.make {x1 x2 v:Nat} (C:CN N L k c nd) (hn:N≤L) (h:L≤k):CN N L (k+1) (updN c k v) (setP (setP (setC nd k v) x1 k) x2 k):=by
 refine ⟨?_,?_,?_⟩
 ·intro i hi
  rw [setP_c,setP_c,setC_c,if_neg (by omega),updN_ne (by omega)]
  exact C.cl i hi
 ·intro u h1 h2
  rw [setP_c,setP_c,setC_c]
  by_cases e:u=k
  ·subst e;rw [if_pos rfl,updN_eq]
  ·rw [if_neg e,updN_ne e];exact C.ci u h1 (by omega)
 ·intro u h1 h2
  rw [setP_c,setP_c,setC_c,if_neg (by omega)]
  exact C.un u (by omega) h2
theorem par_make {x1 x2 v q1 q2:Nat} (hpa:∀x∈P,(nd x).p=p x) (n1:x1∉P) (n2:x2∉P) (n12:x1≠x2) (e1:q1=k) (e2:q2=k):∀x∈P ++ [x1] ++ [x2],(setP (setP (setC nd k v) x1 k) x2 k x).p=updN (updN p x1 q1) x2 q2 x:=by
 intro x hx
 subst e1 e2
 rw [setP_p,setP_p,setC_p]
 unfold updN
 simp only [List.mem_append,List.mem_singleton] at hx
 by_cases e:x=x2
 ·rw [if_pos e,if_pos e]
 ·rw [if_neg e,if_neg e]
  by_cases e3:x=x1
  ·rw [if_pos e3,if_pos e3]
  ·rw [if_neg e3,if_neg e3]
   rcases hx with (hx|hx)|hx
   ·exact hpa x hx
   ·exact absurd hx e3
   ·exact absurd hx e
end
section
variable {N L tot k lo hi x lo' hi':Nat} {c p:Nat→Nat} {P:List Nat} {nd:Nat→Nd} {c0 σ:Nat→Nat}
theorem PK.pick (H:PK N L tot c p P k lo hi) (hm:P.length≤2*(k-L)+1) (hp:Pick c k lo hi x lo' hi'):PK N L tot c (updN p x (L+P.length/2)) (P ++ [x]) k lo' hi':=by
 rcases hp with ⟨rfl,h1,rfl,rfl,h2⟩|⟨rfl,h1,rfl,rfl,h2⟩
 ·exact H.pickL h1 hm (fun h=>Nat.le_of_lt (h2 h))
 ·exact H.pickI h1 hm h2
theorem PK.fresh (H:PK N L tot c p P k lo hi) (hp:Pick c k lo hi x lo' hi'):x∉P:=by
 have hll:=H.ll
 have hnl:=H.nl
 have hh1:=H.h1
 intro h
 have:=(H.mem x).mp h
 rcases hp with ⟨h1,h2,_⟩|⟨h1,h2,_⟩<;>omega
theorem PK.inb (H:PK N L tot c p P k lo hi) (hp:Pick c k lo hi x lo' hi'):x<k∧(x<N∨L≤x)∧c x≤tot:=by
 have hll:=H.ll
 have hnl:=H.nl
 have hh1:=H.h1
 have hh2:=H.h2
 rcases hp with ⟨h1,h2,_⟩|⟨h1,h2,_⟩
 ·exact ⟨by omega,.inl (by omega),H.le (.inl (by omega))⟩
 ·exact ⟨by omega,.inr (by omega),H.le (.inr (by omega))⟩
theorem PK.start1 (h2:2≤N) (hl:N≤L) (hs:∀i j,i≤j→j<N→c j≤c i):PK N L (sF c 0 N) (updN c L (c (N-1)+c (N-2))) (updN (updN p (N-1) L) (N-2) L) [N-1,N-2] (L+1) (N-2) L:=by
 have K0:=PK.start (p:=p) h2 hl hs
 have K1:=K0.pick (by simp) (.inl ⟨rfl,by omega,rfl,rfl,fun h=>absurd h (Nat.lt_irrefl _)⟩)
 have K2:=K1.pick (by simp) (.inl ⟨rfl,by omega,rfl,rfl,fun h=>absurd h (Nat.lt_irrefl _)⟩)
 have K3:=K2.make (by simp)
 simp only [Nat.sub_self,Nat.mul_zero,List.nil_append,List.length_nil,Nat.zero_div,Nat.add_zero,List.length_singleton,List.cons_append,List.getElem_cons_zero,Nat.zero_add,List.getElem_cons_succ,show (1:Nat)/2=0 from rfl,show N-1-1=N-2 by omega] at K3
 exact K3
theorem TI.start (h2:2≤N) (hl:N≤L) (hs:∀i j,i≤j→j<N→c0 j≤c0 i) (h3:∀i,i<N→(nd i).c=c0 i) (h4:(nd L).c=c0 (N-1)+c0 (N-2)) (h5:(nd (N-1)).p=L) (h6:(nd (N-2)).p=L)
  (h7:∀v,L+1≤v→v≤L+N-2→(nd v).c=1073741824) (h8:∀i,i<N→(nd i).s=σ i):TI N L (sF c0 0 N) (L+1) (N-2) L c0 σ nd:=by
 refine ⟨⟨_,_,_,PK.start1 (p:=fun _=>0) h2 hl hs,⟨?_,?_,h7⟩,?_,?_,?_⟩,h8,by omega,by omega⟩
 ·intro i hi;rw [updN_ne (by omega)];exact h3 i hi
 ·intro v h9 h10
  have:v=L:=by omega
  subst this
  rw [updN_eq];exact h4
 ·intro x hx
  simp only [List.mem_cons,List.not_mem_nil,or_false] at hx
  rcases hx with rfl|rfl
  ·rw [updN_ne (by omega),updN_eq];exact h5
  ·rw [updN_eq];exact h6
 ·simp only [List.length_cons,List.length_nil];omega
 ·exact ⟨fun i hi=>by rw [updN_ne (by omega)],.start⟩
def TrM (N L tot:Nat) (c0 σ:Nat→Nat) (nd:Nat→Nd):Prop:=∃c p,(∃lo hi,TrR N L c0 c p (L+N-1) lo hi)∧(∀i,i<N→(nd i).c=c0 i)∧TreeP N L tot c p∧(∀i,i<N→c i=c0 i)∧(∀i,i<N→(nd i).p=p i)∧(∀v,L≤v→v<L+N-2→(nd v).p=p v)∧(∃i,i<N∧p i=L)∧(∀i,i<N→(nd i).s=σ i)
theorem TI.fin (H:TI N L tot (L+N-1) lo hi c0 σ nd):TrM N L tot c0 σ nd:=by
 obtain ⟨c,p,P,h1,h2,h3,h4,h5,h6⟩:=H.ex
 have hn:=h1.n2
 have hl:=h1.nl
 obtain ⟨e1,e2⟩:=h1.fin rfl h4
 subst e1 e2
 refine ⟨c,p,⟨_,_,h6⟩,fun i hi=>(h2.cl i hi).trans (h5 i hi),h1.tree rfl h4,h5,fun i hi=>h3 i ((h1.mem i).mpr (.inl (by omega))),fun v h6 h7=>h3 v ((h1.mem v).mpr (.inr (by omega))),h1.first (by omega),H.sy⟩
end
section
variable {w:World} {nb cap N L tot:Nat} {z:Nd} {nd:Nat→Nd} {c0 σ:Nat→Nat}
theorem tb_loop {R47:Unit→PT} (W:NW w nb cap z nd) (hz:z.c=2147483648) (hL:L≤256) (htot:tot<832040) (hn2:2≤N) (hnl:N≤L) (I:TI N L tot (L+1) (N-2) L c0 σ nd)
  (hk:∀w' nd',NW w' nb cap z nd'→TrM N L tot c0 σ nd'→Fm w w' [nb]→R47 () w') :
  loopP (((L+1:Nat):Int),((N-2:Nat):Int)-1,((L:Nat):Int)) (q91_L7 (L:Int) ⟨some ⟨nb,1,none⟩,512,cap-1⟩ ⟨some ⟨nb,0,none⟩,513,cap⟩ ((N-1:Nat):Int) R47) w:=by
 refine ⟨fun x w'=>∃(k lo hi:Nat) (nd':Nat→Nd),x=((k:Int),(lo:Int)-1,(hi:Int))∧NW w' nb cap z nd'∧TI N L tot k lo hi c0 σ nd'∧Fm w w' [nb],fun x _=>600-x.1.toNat,⟨L+1,N-2,L,nd,rfl,W,I,Fm.refl _ _⟩,?_⟩
 rintro x w2 ⟨k,lo,hi,nd2,rfl,W2,I2,Fr⟩
 have hk1:=I2.k1
 have hk2:=I2.k2
 unfold q91_L7
 simp only
 rw [wI16 (x:=(L:Int)) (by omega) (by omega),wI16 (x:=((N-1:Nat):Int)) (by omega) (by omega),wI16 (x:=(L:Int)+((N-1:Nat):Int)) (by omega) (by omega),wI16 (by omega) (by omega)]
 refine cnd_d ?_ ?_
 ·intro hc
  obtain ⟨c,p,P,h1,h2,h3,h4,h5,hTr⟩:=I2.ex
  have hll:=h1.ll
  have hh2:=h1.h2
  have hh1:=h1.h1
  have step:∀x1 lo1 hi1,Pick c k lo hi x1 lo1 hi1→q91_J5 ⟨some ⟨nb,1,none⟩,512,cap-1⟩ ⟨some ⟨nb,0,none⟩,513,cap⟩ ((k:Int),(lo:Int)-1,(hi:Int)) (fun s' w'=>(∃(k lo hi:Nat) (nd':Nat→Nd),s'=((k:Int),(lo:Int)-1,(hi:Int))∧NW w' nb cap z nd'∧TI N L tot k lo hi c0 σ nd'∧Fm w w' [nb])∧600-s'.1.toNat<600-k) ((lo1:Int)-1,(hi1:Int),(x1:Int)) w2.drew:=by
   intro x1 lo1 hi1 p1
   have K1:=h1.pick (by omega) p1
   have f1:=h1.fresh p1
   have b1:=h1.inb p1
   have hP1:(P ++ [x1]).length=P.length+1:=by rw [List.length_append,List.length_singleton]
   have hl1:=K1.ll
   have hlen1:=K1.len
   have step2:∀x2 lo2 hi2,Pick c k lo1 hi1 x2 lo2 hi2→q91_J3 ⟨some ⟨nb,1,none⟩,512,cap-1⟩ ⟨some ⟨nb,0,none⟩,513,cap⟩ ((k:Int),(lo:Int)-1,(hi:Int)) (fun s' w'=>(∃(k lo hi:Nat) (nd':Nat→Nd),s'=((k:Int),(lo:Int)-1,(hi:Int))∧NW w' nb cap z nd'∧TI N L tot k lo hi c0 σ nd'∧Fm w w' [nb])∧600-s'.1.toNat<600-k) ((lo1:Int)-1,(hi1:Int),(x1:Int)) ((lo2:Int)-1,(hi2:Int),(x2:Int)) w2.drew.drew:=by
    intro x2 lo2 hi2 p2
    have K2:=K1.pick (by rw [hP1];omega) p2
    have f2:=K1.fresh p2
    have b2:=K1.inb p2
    have hP2:(P ++ [x1] ++ [x2]).length=P.length+2:=by rw [List.length_append,List.length_singleton,hP1]
    have hne:x1≠x2:=by intro e;subst e;exact f2 (by simp)
    have f2':x2∉P:=fun h=>f2 (by simp [h])
    have hcx:∀x,x<k→(x<N∨L≤x)→(nd2 x).c=c x:=by
     intro x hx h
     rcases h with h|h
     ·exact h2.cl x h
     ·exact h2.ci x h hx
    have hc1:=hcx x1 b1.1 b1.2.1
    have hc2:=hcx x2 b2.1 b2.2.1
    unfold q91_J3 drw
    simp only
    refine mkW (k:=k) W2.drew.drew.drew (by omega) (by omega) (by omega) rfl rfl (by omega) ?_
    intro w3 W3 F3
    rw [wI16 (by omega) (by omega)]
    refine ⟨⟨k+1,lo2,hi2,_,by simp,W3,⟨⟨_,_,P ++ [x1] ++ [x2],K2.make (by rw [hP2];omega),?_,par_make h3 f1 f2' hne (by omega) (by rw [hP1];omega),by rw [hP2];omega,?_,?_⟩,?_,by omega,by omega⟩,Fr.drew.drew.drew.trans F3 (fun x hx => .inl hx)⟩,by omega⟩
    ·have e1:(P ++ [x1] ++ [x2])[2*(k-L)]'(by rw [hP2];omega)=x1:=by
      rw [List.getElem_append_left (by rw [hP1];omega)]
      simp only [←h4]
      exact List.getElem_concat_length rfl _
     have e2:(P ++ [x1] ++ [x2])[2*(k-L)+1]'(by rw [hP2];omega)=x2:=by
      have:2*(k-L)+1=(P ++ [x1]).length:=by rw [hP1];omega
      simp only [this]
      exact List.getElem_concat_length rfl _
     rw [e1,e2,hc1,hc2]
     exact h2.make hnl (by omega)
    ·intro i hi
     rw [updN_ne (by omega)]
     exact h5 i hi
    ·have e1:(P ++ [x1] ++ [x2])[2*(k-L)]'(by rw [hP2];omega)=x1:=by
      rw [List.getElem_append_left (by rw [hP1];omega)]
      simp only [←h4]
      exact List.getElem_concat_length rfl _
     have e2:(P ++ [x1] ++ [x2])[2*(k-L)+1]'(by rw [hP2];omega)=x2:=by
      have:2*(k-L)+1=(P ++ [x1]).length:=by rw [hP1];omega
      simp only [this]
      exact List.getElem_concat_length rfl _
     have q1:L+P.length/2=k:=by omega
     have q2:L+(P ++ [x1]).length/2=k:=by rw [hP1];omega
     rw [e1,e2,q1,q2]
     exact hTr.step p1 p2
    ·intro i hi
     rw [setP_s,setP_s,setC_s]
     exact I2.sy i hi
   unfold q91_J5
   refine joinP_id ?_
   unfold q91_X4 drw
   simp only
   refine pickW W2.drew.drew hz K1 ⟨h2.cl,h2.ci,h2.un⟩ hL htot (by rw [hP1];omega) (by rw [hP1];omega) (by omega) rfl rfl ?_ ?_
   ·intro h6 h7
    have hs:=step2 (lo1-1) (lo1-1) hi1 (.inl ⟨rfl,h6,rfl,rfl,h7⟩)
    rw [wI16 (x:=(lo1:Int)-1-1) (by omega) (by omega),show (lo1:Int)-1=((lo1-1:Nat):Int) by omega]
    rw [show (lo1:Int)-1=((lo1-1:Nat):Int) by omega] at hs
    exact hs
   ·intro h6 h7
    have hs:=step2 hi1 lo1 (hi1+1) (.inr ⟨rfl,h6,rfl,rfl,h7⟩)
    have:=K1.h2
    rw [wI16 (x:=(hi1:Int)+1) (by omega) (by omega)]
    exact hs
  refine joinP_id ?_
  unfold q91_X6 drw
  simp only
  refine pickW W2.drew hz h1 h2 hL htot (by omega) (by omega) (by omega) rfl rfl ?_ ?_
  ·intro h6 h7
   have hs:=step (lo-1) (lo-1) hi (.inl ⟨rfl,h6,rfl,rfl,h7⟩)
   rw [wI16 (x:=(lo:Int)-1-1) (by omega) (by omega),show (lo:Int)-1=((lo-1:Nat):Int) by omega]
   rw [show (lo:Int)-1=((lo-1:Nat):Int) by omega] at hs
   exact hs
  ·intro h6 h7
   have hs:=step hi lo (hi+1) (.inr ⟨rfl,h6,rfl,rfl,h7⟩)
   rw [wI16 (x:=(hi:Int)+1) (by omega) (by omega)]
   exact hs
 ·intro hc
  have hke:k=L+N-1:=by omega
  subst hke
  exact hk w2 nd2 W2 I2.fin Fr
end
section
variable {w:World} {nb cap N L:Nat} {z:Nd} {nd:Nat→Nd} {c0 σ:Nat→Nat} {p0:Addr} {K1:Value→PT}
theorem tree_start (W:NW w nb cap z nd) (hL:L≤256) (htot:sF c0 0 N<832040) (hn2:2≤N) (hnl:N≤L) (hc:∀i,i<N→(nd i).c=c0 i) (hsy:∀i,i<N→(nd i).s=σ i) (hs:∀i j,i≤j→j<N→c0 j≤c0 i)
  (hk:∀w' z' nd',NW w' nb cap z' nd'→TrM N L (sF c0 0 N) c0 σ nd'→Fm w w' [nb]→q91_J20 p0 K1 (L:Int) ⟨some ⟨nb,1,none⟩,512,cap-1⟩ ((N-1:Nat):Int) () w') :
  q91_J22 p0 K1 (L:Int) ⟨some ⟨nb,1,none⟩,512,cap-1⟩ ⟨some ⟨nb,0,none⟩,513,cap⟩ ((N-1:Nat):Int) w:=by
 have hm:∀i,i<N→c0 i≤sF c0 0 N:=fun i hi=>sF_mem c0 0 (by omega) (by omega)
 have m1:=hm (N-1) (by omega)
 have m2:=hm (N-2) (by omega)
 unfold q91_J22 drw
 rw [wI16 (x:=(L:Int)) (by omega) (by omega),wI16 (x:=((N-1:Nat):Int)) (by omega) (by omega),wI16 (x:=((N-1:Nat):Int)-1) (by omega) (by omega),show ((N-1:Nat):Int)-1=((N-2:Nat):Int) by omega]
 refine ixS_o rfl (by omega) ?_
 refine ixS_o rfl (by omega) ?_
 refine ixS_o rfl (by omega) ?_
 refine n123 (i:=N-1) W.drew (by omega) (by omega) ?_
 refine n123 (i:=N-2) W.drew (by omega) (by omega) ?_
 rw [hc _ (by omega),hc _ (by omega),wU32 (by omega) (by omega), ←Int.natCast_add]
 refine n124 (i:=L) W.drew (by omega) (by omega) (by omega) ?_
 intro w1 W1 F1
 refine ixS_o rfl (by omega) ?_
 refine n125 (i:=N-1) W1 (by omega) (by omega) (by omega) ?_
 intro w2 W2 F2
 refine ixS_o rfl (by omega) ?_
 refine n125 (i:=N-2) W2 (by omega) (by omega) (by omega) ?_
 intro w3 W3 F3
 have Fr3:Fm w w3 [nb]:=(((Fm.refl w [nb]).drew.trans F1 (fun x hx => .inl hx)).trans F2 (fun x hx => .inl hx)).trans F3 (fun x hx => .inl hx)
 generalize hnd1:setP (setP (setC nd L (c0 (N-1)+c0 (N-2))) (N-1) L) (N-2) L=nd1 at *
 have a1:∀i,i<N→(nd1 i).c=c0 i:=by
  intro i hi
  rw [←hnd1,setP_c,setP_c,setC_c,if_neg (by omega)]
  exact hc i hi
 have a2:(nd1 L).c=c0 (N-1)+c0 (N-2):=by rw [←hnd1,setP_c,setP_c,setC_c,if_pos rfl]
 have a3:(nd1 (N-1)).p=L:=by rw [←hnd1,setP_p,if_neg (by omega),setP_p,if_pos rfl]
 have a4:(nd1 (N-2)).p=L:=by rw [←hnd1,setP_p,if_pos rfl]
 have a5:∀i,i<N→(nd1 i).s=σ i:=by
  intro i hi
  rw [←hnd1,setP_s,setP_s,setC_s]
  exact hsy i hi
 refine joinP_id ?_
 refine ⟨fun x w'=>∃(j:Nat) (nd':Nat→Nd),x=(j:Int)∧L+1≤j∧j≤L+N-1∧NW w' nb cap z nd'∧(∀v,L+1≤v→v<j→(nd' v).c=1073741824)∧(∀i,i≤L→nd' i=nd1 i)∧Fm w w' [nb],fun x _=>600-x.toNat,
  ⟨L+1,nd1,by rw [wI16 (by omega) (by omega)];omega,Nat.le_refl _,by omega,W3,fun v h1 h2=>by omega,fun i hi=>rfl,Fr3⟩,?_⟩
 rintro x w4 ⟨j,nd4,rfl,hj1,hj2,W4,hun,hold,Fr4⟩
 unfold q91_L2
 rw [wI16 (x:=(L:Int)) (by omega) (by omega),wI16 (x:=((N-1:Nat):Int)) (by omega) (by omega),wI16 (x:=(L:Int)+((N-1:Nat):Int)) (by omega) (by omega),wI16 (x:=(L:Int)+((N-1:Nat):Int)-1) (by omega) (by omega)]
 refine cnd_d ?_ ?_
 ·intro hcj
  refine ixS_o rfl (by omega) ?_
  rw [show (1073741824:Int)=((1073741824:Nat):Int) from rfl]
  refine n124 (i:=j) W4 (by omega) (by omega) (by omega) ?_
  intro w5 W5 F5
  rw [wI16 (by omega) (by omega)]
  refine ⟨⟨j+1,_,by simp,by omega,by omega,W5,?_,?_,Fr4.trans F5 (fun x hx => .inl hx)⟩,by dsimp only;omega⟩
  ·intro v h1 h2
   rw [setC_c]
   by_cases e:v=j
   ·rw [if_pos e]
   ·rw [if_neg e];exact hun v h1 (by omega)
  ·intro i hi
   unfold setC updD
   rw [if_neg (by omega)]
   exact hold i hi
 ·intro hcj
  have hje:j=L+N-1:=by omega
  subst hje
  unfold q91_J21
  refine ixS_o (k:=0) rfl (by omega) ?_
  rw [Nat.add_zero,show (2147483648:Int)=((2147483648:Nat):Int) from rfl]
  refine z124 W4 (by omega) ?_
  intro w5 W5 F5
  refine joinP_id ?_
  rw [wI16 (x:=(L:Int)) (by omega) (by omega),wI16 (x:=((N-1:Nat):Int)) (by omega) (by omega),wI16 (x:=(L:Int)+1) (by omega) (by omega),wI16 (x:=((N-1:Nat):Int)-2) (by omega) (by omega),show (L:Int)+1=((L+1:Nat):Int) by omega,show ((N-1:Nat):Int)-2=((N-2:Nat):Int)-1 by omega]
  refine tb_loop (σ:=σ) W5 rfl hL htot hn2 hnl (TI.start hn2 hnl hs ?_ ?_ ?_ ?_ ?_ ?_) ?_
  ·intro i hi;rw [hold i (by omega)];exact a1 i hi
  ·rw [hold L (Nat.le_refl _)];exact a2
  ·rw [hold _ (by omega)];exact a3
  ·rw [hold _ (by omega)];exact a4
  ·intro v h1 h2;exact hun v h1 (by omega)
  ·intro i hi;rw [hold i (by omega)];exact a5 i hi
  ·intro w6 nd6 W6 T6 F6
   exact hk w6 _ nd6 W6 T6 ((Fr4.trans F5 (fun x hx => .inl hx)).trans F6 (fun x hx => .inl hx))
theorem setB_c {nd:Nat→Nd} {i v j:Nat} : (setB nd i v j).c=(nd j).c:=by
 unfold setB updD;split
 ·subst_vars;rfl
 ·rfl
structure TD (N L tot:Nat) (c0 σ:Nat→Nat) (nd:Nat→Nd):Prop where
 ex:∃c p,(∃lo hi,TrR N L c0 c p (L+N-1) lo hi)∧TreeP N L tot c p∧DepP N L p (fun i=>(nd i).b)∧(∀i,i<N→c i=c0 i)∧∃i,i<N∧p i=L
 sy:∀i,i<N→(nd i).s=σ i
 cn:∀i,i<N→(nd i).c=c0 i
theorem tree_depth {tot:Nat} (W:NW w nb cap z nd) (hL:L≤256) (T:TrM N L tot c0 σ nd)
  (hk:∀w' nd',NW w' nb cap z nd'→TD N L tot c0 σ nd'→Fm w w' [nb]→q91_J18 p0 K1 ⟨some ⟨nb,1,none⟩,512,cap-1⟩ ((N-1:Nat):Int) () w') :
  q91_J20 p0 K1 (L:Int) ⟨some ⟨nb,1,none⟩,512,cap-1⟩ ((N-1:Nat):Int) () w:=by
 obtain ⟨c,p,hTr,hcn,T,hcc,hpl,hpi,hfi,hsy⟩:=T
 have hn2:=T.n2
 have hnl:=T.nl
 unfold q91_J20
 rw [wI16 (x:=(L:Int)) (by omega) (by omega),wI16 (x:=((N-1:Nat):Int)) (by omega) (by omega),wI16 (x:=(L:Int)+((N-1:Nat):Int)) (by omega) (by omega),wI16 (x:=(L:Int)+((N-1:Nat):Int)-1) (by omega) (by omega),show (L:Int)+((N-1:Nat):Int)-1=((L+N-2:Nat):Int) by omega]
 refine ixS_o rfl (by omega) ?_
 rw [show (0:Int)=((0:Nat):Int) from rfl]
 refine n126 (i:=L+N-2) W (by omega) (by omega) (by omega) ?_
 intro w1 W1 F1
 refine joinP_id ?_
 refine ⟨fun x w'=>∃(v:Nat) (nd':Nat→Nd),x=(v:Int)-1∧L≤v∧v≤L+N-2∧NW w' nb cap z nd'∧(nd' (L+N-2)).b=0∧(∀u,v≤u→u<L+N-2→(nd' u).b+u≤L+N-2∧(nd' u).b=(nd' (p u)).b+1)∧(∀i,(nd' i).p=(nd i).p∧(nd' i).s=(nd i).s∧(nd' i).c=(nd i).c)∧Fm w w' [nb],fun x _=>(x+1).toNat,
  ⟨L+N-2,_,by rw [wI16 (by omega) (by omega)],by omega,Nat.le_refl _,W1,by rw [setB_b,if_pos rfl],fun u h1 h2=>by omega,fun i=>⟨setB_p,setB_s,setB_c⟩,F1⟩,?_⟩
 rintro x w2 ⟨v,nd2,rfl,hv1,hv2,W2,hr2,hd2,ho2,Fr2⟩
 unfold q91_L8
 rw [wI16 (x:=(L:Int)) (by omega) (by omega)]
 have hble:∀u,v≤u→u≤L+N-2→(nd2 u).b+u≤L+N-2:=by
  intro u h1 h2
  by_cases e:u=L+N-2
  ·subst e;omega
  ·exact (hd2 u h1 (by omega)).1
 refine cnd_d ?_ ?_
 ·intro hc
  have hq:L≤v-1:=by omega
  have hpq:=T.pin (v-1) hq (by omega)
  have epq:(nd2 (v-1)).p=p (v-1):=by rw [(ho2 _).1];exact hpi (v-1) hq (by omega)
  rw [show (v:Int)-1=((v-1:Nat):Int) by omega]
  unfold drw
  refine ixS_o rfl (by omega) ?_
  refine ixS_o rfl (by omega) ?_
  refine n127 (i:=v-1) W2.drew (by omega) (by omega) ?_
  rw [epq]
  refine ixS_o rfl (by omega) ?_
  refine n128 (i:=p (v-1)) W2.drew (by omega) (by omega) ?_
  have hb:=hble (p (v-1)) (by omega) hpq.2
  rw [wU8 (by omega) (by omega),show (((nd2 (p (v-1))).b:Nat):Int)+1=(((nd2 (p (v-1))).b+1:Nat):Int) by omega]
  refine n126 (i:=v-1) W2.drew (by omega) (by omega) (by omega) ?_
  intro w3 W3 F3
  rw [wI16 (by omega) (by omega)]
  refine ⟨⟨v-1,_,rfl,hq,by omega,W3,?_,?_,?_,Fr2.drew.trans F3 (fun x hx => .inl hx)⟩,by dsimp only;omega⟩
  ·rw [setB_b,if_neg (by omega)];exact hr2
  ·intro u h1 h2
   by_cases e:u=v-1
   ·subst e
    rw [setB_b,if_pos rfl,setB_b,if_neg (by omega)]
    exact ⟨by omega,rfl⟩
   ·have hpu:=T.pin u (by omega) h2
    rw [setB_b,if_neg e,setB_b,if_neg (by omega)]
    exact hd2 u (by omega) h2
  ·intro i
   rw [setB_p,setB_s,setB_c]
   exact ho2 i
 ·intro hc
  have hve:v=L:=by omega
  subst hve
  unfold q91_J19
  refine joinP_id ?_
  refine ⟨fun x w'=>∃(i:Nat) (nd':Nat→Nd),x=(i:Int)∧i≤N∧NW w' nb cap z nd'∧(∀u,v≤u→(nd' u).b=(nd2 u).b)∧(∀j,j<i→(nd' j).b=(nd2 (p j)).b+1)∧(∀i,(nd' i).p=(nd i).p∧(nd' i).s=(nd i).s∧(nd' i).c=(nd i).c)∧Fm w w' [nb],fun x _=>300-x.toNat,
   ⟨0,nd2,rfl,by omega,W2,fun u _=>rfl,fun j hj=>absurd hj (Nat.not_lt_zero _),ho2,Fr2⟩,?_⟩
  rintro x w3 ⟨i,nd3,rfl,hi,W3,hb3,hd3,ho3,Fr3⟩
  unfold q91_L9
  refine cnd_d ?_ ?_
  ·intro hc2
   have hi2:i<N:=by omega
   have hpq:=T.pl i hi2
   have epq:(nd3 i).p=p i:=by rw [(ho3 _).1];exact hpl i hi2
   unfold drw
   refine ixS_o rfl (by omega) ?_
   refine ixS_o rfl (by omega) ?_
   refine n127 (i:=i) W3.drew (by omega) (by omega) ?_
   rw [epq]
   refine ixS_o rfl (by omega) ?_
   refine n128 (i:=p i) W3.drew (by omega) (by omega) ?_
   have hb:=hble (p i) hpq.1 hpq.2
   rw [hb3 _ hpq.1]
   rw [wU8 (by omega) (by omega),show (((nd2 (p i)).b:Nat):Int)+1=(((nd2 (p i)).b+1:Nat):Int) by omega]
   refine n126 (i:=i) W3.drew (by omega) (by omega) (by omega) ?_
   intro w4 W4 F4
   rw [wU16 (by omega) (by omega)]
   refine ⟨⟨i+1,_,by simp,by omega,W4,?_,?_,?_,Fr3.drew.trans F4 (fun x hx => .inl hx)⟩,by dsimp only;omega⟩
   ·intro u hu
    rw [setB_b,if_neg (by omega)];exact hb3 u hu
   ·intro j hj
    rw [setB_b]
    by_cases e:j=i
    ·subst e;rw [if_pos rfl]
    ·rw [if_neg e];exact hd3 j (by omega)
   ·intro j
    rw [setB_p,setB_s,setB_c]
    exact ho3 j
  ·intro hc2
   have hie:i=N:=by omega
   subst hie
   refine hk w3 nd3 W3 ⟨⟨c,p,hTr,T,⟨?_,?_,?_⟩,hcc,hfi⟩,fun j hj=>by rw [(ho3 j).2.1];exact hsy j hj,fun j hj=>by rw [(ho3 j).2.2];exact hcn j hj⟩ Fr3
   ·show (nd3 _).b=0
    rw [hb3 _ (by omega)];exact hr2
   ·intro u h1 h2
    have hpu:=T.pin u h1 h2
    show (nd3 _).b=(nd3 _).b+1
    rw [hb3 _ h1,hb3 _ (by omega)]
    exact (hd2 u h1 h2).2
   ·intro j hj
    show (nd3 _).b=(nd3 _).b+1
    rw [hb3 _ (T.pl j hj).1]
    exact hd3 j hj
end
theorem TD.depH {N L H tot:Nat} {c0 σ:Nat→Nat} {nd:Nat→Nd} (T:TD N L tot c0 σ nd) (hL:L≤256) (hNH:N≤2^H) (h5:5≤H) (h11:H≤11) (hpos:∀i,i<N→0<c0 i) (htot:tot<832040) :
  DepH (nd (N-1)).b H N (fun i=>(nd i).b):=by
 obtain ⟨⟨c,p,_,T,E,hcc,⟨i1,hi1,hp1⟩⟩,hsy,_⟩:=T
 have hn2:=T.n2
 have hnl:=T.nl
 have hdeep:∀i,i<N→(nd i).b≤29:=fun i hi=>T.deep E hi (by rw [hcc i hi];exact hpos i hi) htot
 have hint:∀v,L≤v→v≤L+N-2→(nd v).b<32:=by
  intro v h1 h2
  have h3:(nd v).b≤(nd L).b:=T.antiI E (L+N) L v (Nat.le_refl _) h1 h2 (by omega)
  have h4:(nd i1).b=(nd (p i1)).b+1:=E.leaf i1 hi1
  have h6:=hdeep i1 hi1
  rw [hp1] at h4
  omega
 refine ⟨by omega,by omega,hNH,h5,h11,?_,hdeep,fun i j h1 h2=>T.mono E h1 h2,T.kraft E hint,rfl⟩
 intro i hi
 have:(nd i).b=(nd (p i)).b+1:=E.leaf i hi
 show 1≤(nd i).b
 omega
def cN (f:Nat→Nat) (s:Nat):Nat→Nat
 | 0=>0
 | i+1=>cN f s i+if f i=s then 1 else 0
theorem cN_le (f:Nat→Nat) (s:Nat):∀i,cN f s i≤i
 | 0=>Nat.le_refl _
 | i+1=>by
  have:=cN_le f s i
  rw [cN];split<;>omega
theorem cN_mono (f:Nat→Nat) (s:Nat) {a b:Nat} (h:a≤b):cN f s a≤cN f s b:=by
 induction b with
 | zero=>have:a=0:=(by omega);subst this;exact Nat.le_refl _
 | succ b ih =>
  by_cases e:a=b+1
  ·subst e;exact Nat.le_refl _
  ·have:=ih (by omega)
   rw [cN];omega
theorem cN_sF (f:Nat→Nat) (s:Nat):∀n,cN f s n=sF (fun i=>if f i=s then 1 else 0) 0 n
 | 0=>rfl
 | n+1=>by rw [cN,sF,cN_sF f s n,Nat.zero_add]
theorem cN_congr {f g:Nat→Nat} {s:Nat} : ∀ {n:Nat},(∀i,i<n→f i=g i)→cN f s n=cN g s n
 | 0,_=>rfl
 | n+1,h=>by rw [cN,cN,cN_congr (n:=n) (fun i hi=>h i (by omega)),h n (by omega)]
def lnS (σ b:Nat→Nat):Nat→Nat→Nat
 | 0=>fun _=>0
 | j+1=>updN (lnS σ b j) (σ j) (b j)
theorem lnS_out {σ b:Nat→Nat} {i:Nat} : ∀ {n:Nat},(∀j,j<n→σ j≠i)→lnS σ b n i=0
 | 0,_=>rfl
 | n+1,h=>by
  rw [lnS,updN_ne (fun e=>h n (by omega) e.symm)]
  exact lnS_out (fun j hj=>h j (by omega))
theorem lnS_at {σ b:Nat→Nat} {j:Nat} : ∀ {n:Nat},(∀i j,i<n→j<n→σ i=σ j→i=j)→j<n→lnS σ b n (σ j)=b j
 | 0,_,h=>by omega
 | n+1,hi,h=>by
  rw [lnS]
  by_cases e:j=n
  ·subst e;rw [updN_eq]
  ·rw [updN_ne (fun he=>e (hi j n (by omega) (by omega) he))]
   exact lnS_at (fun i j h1 h2 he=>hi i j (by omega) (by omega) he) (by omega)
theorem lnS_sum {σ b φ:Nat→Nat} {L:Nat} (h0:φ 0=0):∀ {n:Nat},(∀i j,i<n→j<n→σ i=σ j→i=j)→(∀j,j<n→σ j<L)→sF (fun i=>φ (lnS σ b n i)) 0 L=sF (fun j=>φ (b j)) 0 n
 | 0,_,_=>by
  rw [sF]
  exact sF_zero (fun i hi=>h0)
 | n+1,hi,hl=>by
  have h1:=sF_upd φ (lnS σ b n) (σ n) (b n) L (hl n (by omega))
  rw [lnS_out (fun j hj he=>by have:=hi j n (by omega) (by omega) he;omega),h0,Nat.add_zero,lnS_sum h0 (fun i j h1 h2 he=>hi i j (by omega) (by omega) he) (fun j hj=>hl j (by omega))] at h1
  rw [sF,Nat.zero_add]
  exact h1
def vJ (nb:Nat→Nat) (M:Nat):Nat→Nat
 | 0=>0
 | j+1=>(vJ nb M j+nb (M-j))/2
def vR (nb:Nat→Nat) (M r:Nat):Nat:=if r=0∨M<r then 0 else vJ nb M (M-r)
theorem vJ_le {nb:Nat→Nat} {M:Nat} (h:∀r,nb r≤256):∀j,vJ nb M j≤256
 | 0=>by simp [vJ]
 | j+1=>by
  have:=vJ_le (M:=M) h j
  have:=h (M-j)
  rw [vJ];omega
theorem vR_le {nb:Nat→Nat} {M:Nat} (h:∀r,nb r≤256) (r:Nat):vR nb M r≤256:=by
 unfold vR;split
 ·omega
 ·exact vJ_le h _
theorem vJ_congr {nb nb':Nat→Nat} {M:Nat} (h:∀r,1≤r→r≤M→nb r=nb' r):∀j,j≤M→vJ nb M j=vJ nb' M j
 | 0,_=>rfl
 | j+1,hj=>by rw [vJ,vJ,vJ_congr h j (by omega),h (M-j) (by omega) (by omega)]
theorem vR_congr {nb nb':Nat→Nat} {M:Nat} (h:∀r,1≤r→r≤M→nb r=nb' r) (r:Nat):vR nb M r=vR nb' M r:=by
 unfold vR
 split
 ·rfl
 ·exact vJ_congr h _ (by omega)
def vC (ln:Nat→Nat) (L M i:Nat):Nat:=vR (fun r=>cN ln r L) M (ln i)+cN ln (ln i) i
structure HT (cnt:Nat→Nat) (L M:Nat) (ln:Nat→Nat):Prop where
 pos:∀i,i<L→(0<ln i↔0<cnt i)
 le:∀i,i<L→ln i≤M
 m1:1≤M
 m11:M≤11
 kr:sF (fun i=>if 0<ln i then 2^(M-ln i) else 0) 0 L=2^M
 mono:∀i j,i<L→j<L→0<cnt j→cnt j<cnt i→ln i≤ln j
structure Ord (cnt:Nat→Nat) (L N:Nat) (σ:Nat→Nat):Prop where
 nl:N≤L
 lt:∀j,j<N→σ j<L
 inj:∀i j,i<N→j<N→σ i=σ j→i=j
 onto:∀i,i<L→0<cnt i→∃j,j<N∧σ j=i
 pos:∀j,j<N→0<cnt (σ j)
 dec:∀i j,i≤j→j<N→cnt (σ j)≤cnt (σ i)
theorem HT.of {cnt σ b:Nat→Nat} {L N M:Nat} (O:Ord cnt L N σ) (hm1:1≤M) (hm:M≤11) (D:DLs M N b) (hk:krS M b N=2^M):HT cnt L M (lnS σ b N):=by
 have hat:∀j,j<N→lnS σ b N (σ j)=b j:=fun j hj=>lnS_at O.inj hj
 have hz:∀i,i<L→cnt i=0→lnS σ b N i=0:=fun i hi h0=>lnS_out (fun j hj e=>by have:=O.pos j hj;rw [e] at this;omega)
 refine ⟨?_,?_,hm1,hm,?_,?_⟩
 ·intro i hi
  constructor
  ·intro h
   apply Classical.byContradiction
   intro h0
   have:=hz i hi (by omega)
   omega
  ·intro h
   obtain ⟨j,hj,rfl⟩:=O.onto i hi h
   rw [hat j hj]
   exact D.one j hj
 ·intro i hi
  by_cases h:0<cnt i
  ·obtain ⟨j,hj,rfl⟩:=O.onto i hi h
   rw [hat j hj];exact D.le j hj
  ·rw [hz i hi (by omega)];exact Nat.zero_le _
 ·have h1:=lnS_sum (φ:=fun x=>if 0<x then 2^(M-x) else 0) (σ:=σ) (b:=b) (L:=L) (by simp) O.inj O.lt
  rw [h1, ←hk]
  unfold krS
  refine sF_congr (fun i _ hi => ?_)
  exact if_pos (D.one i (by omega))
 ·intro i j hi hj h1 h2
  obtain ⟨a,ha,rfl⟩:=O.onto i hi (by omega)
  obtain ⟨c,hc,rfl⟩:=O.onto j hj h1
  rw [hat a ha,hat c hc]
  by_cases h:a≤c
  ·exact D.mono a c h hc
  ·have:=O.dec c a (by omega) ha;omega
theorem nb_of {cnt σ b:Nat→Nat} {L N M r:Nat} (O:Ord cnt L N σ) (hr:1≤r):cN b r N=cN (lnS σ b N) r L:=by
 have h1:=lnS_sum (φ:=fun x=>if x=r then 1 else 0) (σ:=σ) (b:=b) (L:=L) (by rw [if_neg (by omega)]) O.inj O.lt
 rw [cN_sF,cN_sF]
 exact h1.symm
theorem Ord.of {cnt:Nat→Nat} {L N:Nat} {l:List Nat} (S:Srt cnt L l) (hN:N≤L) (hp:∀j (h:j<l.length),j<N→0<cnt l[j]) (hz:∀j (h:j<l.length),N≤j→cnt l[j]=0):Ord cnt L N (fun j=>l.getD j 0):=by
 have hg:∀j (h:j<l.length),l.getD j 0=l[j]:=fun j h=>by rw [List.getD_eq_getElem?_getD,List.getElem?_eq_getElem h];rfl
 have hl:=S.len
 refine ⟨hN,?_,?_,?_,?_,?_⟩
 ·intro j hj
  show l.getD j 0<L
  rw [hg j (by omega)]
  exact (S.mem _).mp (List.getElem_mem _)
 ·intro i j hi hj e
  have e:l.getD i 0=l.getD j 0:=e
  rw [hg i (by omega),hg j (by omega)] at e
  exact (List.getElem_inj S.nd).mp e
 ·intro i hi hc
  obtain ⟨j,hj,e⟩:=List.mem_iff_getElem.mp ((S.mem i).mpr hi)
  refine ⟨j,?_,by show l.getD j 0=i;rw [hg j hj];exact e⟩
  by_cases h:j<N
  ·exact h
  ·have:=hz j hj (by omega)
   rw [e] at this;omega
 ·intro j hj
  show 0<cnt (l.getD j 0)
  rw [hg j (by omega)]
  exact hp j (by omega) hj
 ·intro i j hij hj
  show cnt (l.getD j 0)≤cnt (l.getD i 0)
  rw [hg i (by omega),hg j (by omega)]
  by_cases e:i=j
  ·subst e;exact Nat.le_refl _
  ·have:=List.pairwise_iff_getElem.mp S.dec i j (by omega) (by omega) (by omega)
   omega
end Go.Sx
