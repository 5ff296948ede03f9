/- Lemmas for the proof: Y5 X32 X33 H1 H2 H3 H4 H5 H6 H7 H8 H9 H10 H11 H12. No conditions. -/
import Derived.Test.YtlnhldlhmplphaaDoorS13A06
set_option linter.unusedVariables false
set_option linter.unusedSimpArgs false
namespace Go.Sx
open Go Go.Proofs
set_option maxRecDepth 4000
theorem leN_inj:∀ {a b:List Nat},By a→By b→a.length=b.length→leN a=leN b→a=b
 | [],[],_,_,_,_=>rfl
 | [],_::_,_,_,h,_=>by simp at h
 | _::_,[],_,_,h,_=>by simp at h
 | x::r,y::s,ha,hb,hl,h=>by
  have ⟨h1,h2⟩:=ha.cons
  have ⟨h3,h4⟩:=hb.cons
  simp only [leN] at h
  have e1:x=y:=by omega
  have e2:leN r=leN s:=by omega
  rw [e1,leN_inj h2 h4 (by simpa using hl) e2]
theorem leN_split {l H:List Nat} {E:Nat} (hl:By l) (hH:By H) (hn:H.length≤l.length) (h:leN l=leN H+E*2^(8*H.length)):∃r,l=H++r∧By r∧leN r=E:=by
 have e:=List.take_append_drop H.length l
 have h1:leN (l.take H.length)+256^H.length*leN (l.drop H.length)=leN H+E*2^(8*H.length):=by
  rw [←h]
  conv=>rhs;rw [←e]
  rw [leN_append,List.length_take,Nat.min_eq_left hn]
 have hp:(2:Nat)^(8*H.length)=256^H.length:=by rw [Nat.pow_mul]
 rw [hp] at h1
 have a1:=leN_lt (hl.take H.length)
 rw [List.length_take,Nat.min_eq_left hn] at a1
 have a2:=leN_lt hH
 have hpos:0<256^H.length:=Nat.pow_pos (by decide)
 have b1:=congrArg (· % 256^H.length) h1
 have b2:=congrArg (· / 256^H.length) h1
 simp only [Nat.add_mul_mod_self_left,Nat.add_mul_mod_self_right,Nat.mod_eq_of_lt a1,Nat.mod_eq_of_lt a2] at b1
 simp only [Nat.add_mul_div_left _ _ hpos,Nat.add_mul_div_right _ _ hpos,Nat.div_eq_of_lt a1,Nat.div_eq_of_lt a2,Nat.zero_add] at b2
 refine ⟨l.drop H.length,?_,hl.drop _,b2⟩
 have:=leN_inj (hl.take H.length) hH (by rw [List.length_take,Nat.min_eq_left hn]) b1
 rw [this] at e
 exact e.symm
theorem back_of {bs:List Nat} {n:Nat} (hb:By bs) (hlen:bs.length=n/8+1) (h1:2^n≤leN bs) (h2:leN bs<2^(n+1)):backZ bs=some n:=by
 have hne:bs ≠ []:=by intro e;rw [e] at hlen;simp at hlen
 have e:=List.dropLast_concat_getLast hne
 have hL:bs.getLast? = some (bs.getLast hne):=List.getLast?_eq_some_getLast hne
 generalize bs.getLast hne=x at *
 have hd:bs.dropLast.length=n/8:=by rw [List.length_dropLast,hlen];rfl
 have hbd:By bs.dropLast:=fun y hy=>hb y (List.dropLast_subset _ hy)
 have hv:leN bs=leN bs.dropLast+256^(n/8)*x:=by
  conv=>lhs;rw [←e]
  rw [leN_append,hd]
  simp [leN]
 have hlt:=leN_lt hbd
 rw [hd] at hlt
 have hq:leN bs/256^(n/8)=x:=by rw [hv,Nat.add_mul_div_left _ _ (Nat.pow_pos (by decide)),Nat.div_eq_of_lt hlt,Nat.zero_add]
 have hp:(256:Nat)^(n/8)=2^(8*(n/8)):=by rw [Nat.pow_mul]
 rw [hp] at hq
 have hpp:=Nat.two_pow_pos (8*(n/8))
 have g1:2^(n%8)≤x:=by
  rw [←hq,Nat.le_div_iff_mul_le hpp, ←Nat.pow_add,show n%8+8*(n/8)=n by omega];exact h1
 have g2:x<2^(n%8+1):=by
  rw [←hq,Nat.div_lt_iff_lt_mul hpp, ←Nat.pow_add,show n%8+1+8*(n/8)=n+1 by omega];exact h2
 have hx0:x≠0:=by have:=Nat.two_pow_pos (n%8);omega
 unfold backZ
 rw [hL]
 simp only
 rw [if_neg hx0,log2_of g1 g2,hlen]
 congr 1
 omega
def FseOK (ol ws:List Nat):Prop:=∃cs t rest tab,fseRead ol=some (cs,t,rest)∧t≤6∧statesZ cs t=some tab∧twoStatesZ rest tab t 255=some ws
section
variable {T:Nat} {N:Nat→Nat} {pos:Nat→Nat→Nat} {tab:List Cell3}
theorem two_back (H:TabOK T tab N pos) {ws bs:List Nat} (h2:2≤ws.length) (h255:ws.length≤255) (hok:∀s∈ws,s<256∧0<N s) (hb:By bs)
  (hlen:bs.length=((encZ T N pos ws).t+(T+T))/8+1)
  (hv:leN bs=(encZ T N pos ws).V+(encZ T N pos ws).b%2^T*2^(encZ T N pos ws).t+(encZ T N pos ws).a%2^T*2^((encZ T N pos ws).t+T)+2^((encZ T N pos ws).t+(T+T))):twoStatesZ bs tab T 255=some ws:=by
 obtain ⟨⟨ja,hja,ha⟩,⟨jb,hjb,hbb⟩,h3,h4⟩:=encZ_ok H ws h2 (fun s hs=>(hok s hs).2)
 have pa:=(H.cell _ ja hja).1
 have pb:=(H.cell _ jb hjb).1
 have hdec:=decode H bs 255 ws [] h2 (fun s hs=>⟨(hok s hs).2,(hok s hs).1⟩) (by simpa using h255)
 generalize encZ T N pos ws=e at *
 have hTp:=Nat.two_pow_pos T
 have htp:=Nat.two_pow_pos e.t
 have ma:e.a%2^T=e.a-2^T:=by rw [ha,Nat.add_sub_cancel_left,Nat.add_mod_left,Nat.mod_eq_of_lt pa]
 have mb:e.b%2^T=e.b-2^T:=by rw [hbb,Nat.add_sub_cancel_left,Nat.add_mod_left,Nat.mod_eq_of_lt pb]
 have la:e.a-2^T<2^T:=by omega
 have lb:e.b-2^T<2^T:=by omega
 rw [ma,mb] at hv
 generalize e.a-2^T=a at *
 generalize e.b-2^T=b at *
 have p1:e.V+b*2^e.t<2^(e.t+T):=put_lt h3 lb
 have p2:e.V+b*2^e.t+a*2^(e.t+T)<2^(e.t+T+T):=put_lt p1 la
 rw [Nat.add_assoc e.t T T] at p2
 have hback:backZ bs=some (e.t+(T+T)):=back_of hb hlen (by omega) (by rw [Nat.pow_succ];omega)
 have r1:tkB bs T ((e.t+(T+T):Nat):Int)=a:=by
  rw [tkB_val bs T _ (by omega),show e.t+(T+T)-T=e.t+T by omega]
  have hm:leN bs%2^(e.t+T+T)=e.V+b*2^e.t+a*2^(e.t+T):=by
   rw [hv,Nat.add_assoc e.t T T,Nat.add_mod_right,Nat.mod_eq_of_lt p2]
  exact (mod_split p1 la hm).2
 have hm:leN bs%2^(e.t+T)=e.V+b*2^e.t:=by
  have h5:leN bs%2^(e.t+T+T)=e.V+b*2^e.t+a*2^(e.t+T):=by
   rw [hv,Nat.add_assoc e.t T T,Nat.add_mod_right,Nat.mod_eq_of_lt p2]
  exact (mod_split p1 la h5).1
 have r2:tkB bs T (((e.t+(T+T):Nat):Int)-T)=b:=by
  rw [show ((e.t+(T+T):Nat):Int)-T=((e.t+T:Nat):Int) by omega,tkB_val bs T _ (by omega),Nat.add_sub_cancel]
  exact (mod_split h3 lb hm).2
 have hV:=(mod_split h3 lb hm).1
 unfold twoStatesZ
 rw [hback]
 simp only
 rw [if_pos (by omega),r1,r2,show ((e.t+(T+T):Nat):Int)-T-T=((e.t:Nat):Int) by omega,hdec hV]
 simp
end
structure SW (w:World) (b:Nat) (s:FS):Prop where
 blk:Blk w b s.at
 o:Own 1 w s.out
 x:Own 1 w s.ts
 y:Own 1 w s.st
 z:Own 2 w s.tt
 bo:b∉s.out.bs
 bx:b∉s.ts.bs
 bY:b∉s.st.bs
 bz:b∉s.tt.bs
 ox:∀v∈s.out.bs,v∉s.ts.bs
 oy:∀v∈s.out.bs,v∉s.st.bs
 oz:∀v∈s.out.bs,v∉s.tt.bs
 xy:∀v∈s.ts.bs,v∉s.st.bs
 xz:∀v∈s.ts.bs,v∉s.tt.bs
 yz:∀v∈s.st.bs,v∉s.tt.bs
def SB (b:Nat) (s:FS):List Nat:=b::(s.out.bs++(s.ts.bs++(s.st.bs++s.tt.bs)))
theorem mem_SB {b v:Nat} {s:FS} : v∈SB b s↔v=b∨v∈s.out.bs∨v∈s.ts.bs∨v∈s.st.bs∨v∈s.tt.bs:=by
 unfold SB;simp only [List.mem_cons,List.mem_append]
theorem SW.lt {w:World} {b:Nat} {s:FS} (W:SW w b s):∀v∈SB b s,v<w.heap.size:=by
 intro v hv
 rcases mem_SB.mp hv with rfl|h|h|h|h
 ·exact W.blk.lt
 ·exact W.o.lt v h
 ·exact W.x.lt v h
 ·exact W.y.lt v h
 ·exact W.z.lt v h
structure ST (w w':World) (b:Nat) (s s':FS):Prop where
 sw:SW w' b s'
 fr:Fm w w' (SB b s)
 ext:∀v∈SB b s',v∈SB b s∨w.heap.size≤v
theorem ST.trans {w w1 w2:World} {b:Nat} {s s1 s2:FS} (h:ST w w1 b s s1) (h':ST w1 w2 b s1 s2):ST w w2 b s s2:=by
 refine ⟨h'.sw,h.fr.trans h'.fr h.ext,?_⟩
 intro v hv
 have:=h.fr.size
 rcases h'.ext v hv with h1|h1
 ·exact h.ext v h1
 ·right;omega
theorem SW.fm {w w':World} {b:Nat} {s:FS} (W:SW w b s) (F:Fm w w' []):ST w w' b s s :=
 ⟨⟨W.blk.fr F (by simp),W.o.fm F (by simp),W.x.fm F (by simp),W.y.fm F (by simp),W.z.fm F (by simp),W.bo,W.bx,W.bY,W.bz,W.ox,W.oy,W.oz,W.xy,W.xz,W.yz⟩,F.mono (by simp),fun v hv => .inl hv⟩
theorem SW.same {w w':World} {b:Nat} {s s':FS} (W:SW w b s) (B:Blk w' b s'.at) (F:Fm w w' [b]) (h1:s'.out=s.out) (h2:s'.ts=s.ts) (h3:s'.st=s.st) (h4:s'.tt=s.tt):ST w w' b s s':=by
 have d:∀ {l:List Nat},b∉l→∀v∈l,v ∉ [b]:=by intro l hb v hv;simp;intro e;exact hb (e▸hv)
 refine ⟨⟨B,?_,?_,?_,?_,?_,?_,?_,?_,?_,?_,?_,?_,?_,?_⟩,F.mono (fun v hv => .inl (mem_SB.mpr (.inl (by simpa using hv)))),?_⟩
 ·rw [h1];exact W.o.fm F (d W.bo)
 ·rw [h2];exact W.x.fm F (d W.bx)
 ·rw [h3];exact W.y.fm F (d W.bY)
 ·rw [h4];exact W.z.fm F (d W.bz)
 ·rw [h1];exact W.bo
 ·rw [h2];exact W.bx
 ·rw [h3];exact W.bY
 ·rw [h4];exact W.bz
 ·rw [h1,h2];exact W.ox
 ·rw [h1,h3];exact W.oy
 ·rw [h1,h4];exact W.oz
 ·rw [h2,h3];exact W.xy
 ·rw [h2,h4];exact W.xz
 ·rw [h3,h4];exact W.yz
 ·intro v hv
  unfold SB at hv ⊢
  rw [h1,h2,h3,h4] at hv
  exact .inl hv
theorem SW.out {w w':World} {b:Nat} {s s':FS} (W:SW w b s) (B:Blk w' b s'.at) (F:Fm w w' (b::s.out.bs)) (hO:Own 1 w' s'.out) (hb:b∉s'.out.bs) (hn:∀v∈s'.out.bs,v∈s.out.bs∨w.heap.size≤v) (h2:s'.ts=s.ts) (h3:s'.st=s.st) (h4:s'.tt=s.tt):ST w w' b s s':=by
 have d:∀ {l:List Nat},b∉l→(∀v∈s.out.bs,v∉l)→∀v∈l,v∉b::s.out.bs:=by
  intro l hb2 hd v hv
  simp only [List.mem_cons,not_or]
  exact ⟨fun e=>hb2 (e▸hv),fun h=>hd v h hv⟩
 have n:∀ {l:List Nat},(∀v∈s.out.bs,v∉l)→(∀v∈l,v<w.heap.size)→∀v∈s'.out.bs,v∉l:=by
  intro l h1 h2 v hv hl
  rcases hn v hv with h|h
  ·exact h1 v h hl
  ·have:=h2 v hl;omega
 refine ⟨⟨B,hO,?_,?_,?_,hb,?_,?_,?_,?_,?_,?_,?_,?_,?_⟩,F.mono ?_,?_⟩
 ·rw [h2];exact W.x.fm F (d W.bx W.ox)
 ·rw [h3];exact W.y.fm F (d W.bY W.oy)
 ·rw [h4];exact W.z.fm F (d W.bz W.oz)
 ·rw [h2];exact W.bx
 ·rw [h3];exact W.bY
 ·rw [h4];exact W.bz
 ·rw [h2];exact n W.ox W.x.lt
 ·rw [h3];exact n W.oy W.y.lt
 ·rw [h4];exact n W.oz W.z.lt
 ·rw [h2,h3];exact W.xy
 ·rw [h2,h4];exact W.xz
 ·rw [h3,h4];exact W.yz
 ·intro v hv
  simp only [List.mem_cons] at hv
  left
  rw [mem_SB]
  rcases hv with h|h
  ·exact .inl h
  ·exact .inr (.inl h)
 ·intro v hv
  rw [mem_SB] at hv ⊢
  rw [h2,h3,h4] at hv
  rcases hv with h|h|h|h|h
  ·exact .inl (.inl h)
  ·rcases hn v h with h5|h5
   ·exact .inl (.inr (.inl h5))
   ·exact .inr h5
  ·exact .inl (.inr (.inr (.inl h)))
  ·exact .inl (.inr (.inr (.inr (.inl h))))
  ·exact .inl (.inr (.inr (.inr (.inr h))))
def errAt (w:World) (g:Nat):Prop:=∃v,w.cell? ⟨g,0,none⟩=some v∧isPE v=true∧isNil v=false
structure GL (w:World):Prop where
 e3:errAt w 3
 e4:errAt w 4
 rtb:rtbAt w
 mask:maskAt w
theorem errAt.fm {w w':World} {g:Nat} {S:List Nat} (h:errAt w g) (F:Fm w w' S) (hS:g∉S):errAt w' g:=by
 obtain ⟨v,h1,h2,h3⟩:=h
 have hl:=World.block_lt_of_cell? _ _ h1
 exact ⟨v,by rw [←h1];exact cell?_of_heap (F.old g hl hS) _ _,h2,h3⟩
theorem GL.fm {w w':World} {S:List Nat} (h:GL w) (F:Fm w w' S) (hS:∀v∈S,9≤v):GL w':=by
 have n:∀g,g<9→g∉S:=fun g hg h=>by have:=hS g h;omega
 exact ⟨h.e3.fm F (n 3 (by omega)),h.e4.fm F (n 4 (by omega)),h.rtb.fm F (n 6 (by omega)),h.mask.fq (F.fq (P:=fun x=>x∈S) (fun x hx=>hx)) (n 8 (by omega))⟩
theorem GL.size {w:World} (h:GL w):9≤w.heap.size:=World.block_lt_of_cell? _ _ (h.mask 0 (by omega))
theorem ld_err {w:World} {g:Nat} {κ:Value→PT} (h:errAt w g) (hk:∀v,isPE v=true→isNil v=false→κ v w.drew):drw (ld .V ⟨g,0,none⟩ κ) w:=by
 obtain ⟨v,h1,h2,h3⟩:=h
 exact ⟨v,h1,hk v h2 h3⟩
def EG (w:World) (v:Value):Prop:=(∃i,i<3∧w.cell? ⟨i,0,none⟩=some v)∧isPE v=true
def ER (w:World) (v:Value):Prop:=EG w v∨∃a c T,v = .iface 160 (.pointer (some a))∧w.heap[a.block]? = some (.cells c T (0,0))
theorem EG.fm {w w':World} {v:Value} {S:List Nat} (h:EG w v) (F:Fm w w' S) (hS:∀v∈S,9≤v):EG w' v:=by
 obtain ⟨⟨i,hi,h1⟩,h2⟩:=h
 have hl:=World.block_lt_of_cell? _ _ h1
 refine ⟨⟨i,hi,?_⟩,h2⟩
 rw [←h1]
 exact cell?_of_heap (F.old i hl (fun h=>by have:=hS i h;omega)) _ _
theorem ld_errG {w:World} {g:Nat} {κ:Value→PT} (h:errAt w g) (hg:g<3) (hk:∀v,EG w.drew v→κ v w.drew):drw (ld .V ⟨g,0,none⟩ κ) w:=by
 obtain ⟨v,h1,h2,h3⟩:=h
 exact ⟨v,h1,hk v ⟨⟨g,hg,h1⟩,h2⟩⟩
theorem c62e {w:World} {t:ByteArray} {K:Value→PT} (hk:∀w' v,Fm w w' []→ER w' v→isPE v=true→K v w'):callP Tryd.prog 62 #[.string t] [.c .V] K w:=by
 apply q62_ok
 unfold q62 nw
 have hh:(w.alloc (.cells ⟨[.string t]⟩ 162)).heap[w.heap.size]? = some (.cells ⟨[.string t]⟩ 162 (0,0)):=by
  show (w.heap.push _)[w.heap.size]? = _
  rw [Array.getElem?_push_size]
 exact hk _ _ (Fm.refl w []).alloc (.inr ⟨⟨w.heap.size,0,none⟩,⟨[.string t]⟩,162,rfl,hh⟩) rfl
theorem ER.pe {w:World} {v:Value} (h:ER w v):isPE v=true:=by
 rcases h with h|⟨a,c,T,rfl,_⟩
 ·exact h.2
 ·rfl
theorem counts_sum {ws:List Nat} {L:Nat} (h:∀x∈ws,x<L) (nf:Nat→Int):smI (gC fun i=>ws.count i) nf L=ws.length:=by
 induction ws with
 | nil =>
  have:∀k,smI (gC fun i=>([]:List Nat).count i) nf k=0:=by
   intro k
   induction k with
   | zero=>rfl
   | succ k ih=>rw [smI,ih];simp [gC]
  exact this L
 | cons x r ih =>
  have hx:=h x (by simp)
  have ih:=ih (fun y hy=>h y (by simp [hy]))
  have:∀k,smI (gC fun i=>(x::r).count i) nf k=smI (gC fun i=>r.count i) nf k+if x<k then 1 else 0:=by
   intro k
   induction k with
   | zero=>rfl
   | succ k ihk =>
    rw [smI,smI,ihk]
    simp only [gC,List.count_cons]
    by_cases e:x=k
    ·subst e
     simp
     omega
    ·have:(x==k)=false:=by simpa using e
     rw [this]
     simp only [Bool.false_eq_true,if_false,Nat.add_zero]
     by_cases h2:x<k
     ·rw [if_pos h2,if_pos (by omega)];omega
     ·rw [if_neg h2,if_neg (by omega)];omega
  rw [this,ih,if_pos hx,List.length_cons]
theorem Normed.lt {cs:Nat→Nat} {nf:Nat→Int} {T L n m:Nat} (H:Normed cs nf T L) (hsum:smI (gC cs) (fun _=>0) L=n) (hmax:∀i,i<L→cs i≤m) (hm:m<n) (s:Nat):shareZ ((List.range L).map nf) s<2^T:=by
 by_cases hs:s<L
 ·rw [shareZ_in (by simpa using hs)]
  simp only [List.getElem_map,List.getElem_range]
  have hle:=smI_ge gS nf hs
  rw [H.sum] at hle
  by_cases he:absZ (nf s)=2^T
  ·exfalso
   have hu:=smI_upd gS nf s 0 L hs
   rw [H.sum] at hu
   have h0:smI gS (updF nf s 0) L=0:=by
    have:gS s (nf s)=absZ (nf s):=rfl
    have:gS s 0=0:=rfl
    omega
   have hz:∀j,j<L→j≠s→cs j=0:=by
    intro j hj hne
    have h1:=smI_ge gS (updF nf s 0) hj
    rw [h0] at h1
    have h2:updF nf s 0 j=nf j:=by unfold updF;rw [if_neg hne]
    rw [h2] at h1
    have h3:nf j=0:=by unfold gS absZ at h1;have:=H.ge j hj;split at h1<;>omega
    exact (H.zero j hj).mp h3
   have hall:∀k,k≤L→smI (gC cs) (fun _=>0) k≤if s<k then cs s else 0:=by
    intro k
    induction k with
    | zero=>intro _;exact Nat.zero_le _
    | succ k ih =>
     intro hk
     have ih:=ih (by omega)
     rw [smI]
     show _+cs k≤_
     by_cases e:k=s
     ·subst e
      rw [if_neg (by omega)] at ih
      rw [if_pos (by omega)];omega
     ·rw [hz k (by omega) e]
      split at ih
      ·rw [if_pos (by omega)];exact ih
      ·rw [if_neg (by omega)];exact ih
   have h5:=hall L (Nat.le_refl _)
   rw [if_pos hs,hsum] at h5
   have:=hmax s hs
   omega
  ·have:gS s (nf s)=absZ (nf s):=rfl
   omega
 ·rw [shareZ_out (by simpa using hs)]
  exact Nat.two_pow_pos _
theorem bw_at (s:FS) (so:Sl):bwC s.at 518 0 0 so=({ s with bc:=0,bn:=0,bo:=so } : FS).at:=by
 have h1:=FS.setT (s:=s) (s' := { s with bc:=0 }) (v := .int .u64 0) 6 rfl rfl rfl (by decide)
 have h2:=FS.setT (s := { s with bc:=0 }) (s' := { s with bc:=0,bn:=0 }) (v := .int .u8 0) 7 rfl rfl rfl (by decide)
 have h3:=FS.setT (s := { s with bc:=0,bn:=0 }) (s' := { s with bc:=0,bn:=0,bo:=so }) (v:=so.val) 8 rfl rfl rfl (by decide)
 rw [←h3, ←h2, ←h1]
 funext i
 unfold bwC updC
 by_cases e0:i=518
 ·subst e0;rfl
 ·by_cases e1:i=519
  ·subst e1;rfl
  ·by_cases e2:i=520
   ·subst e2;rfl
   ·rw [if_neg e0,if_neg e1,if_neg e2,if_neg e2,if_neg e1,if_neg e0]
theorem ST.drew {w w':World} {b:Nat} {s s':FS} (h:ST w w' b s s'):ST w w'.drew b s s':=h.trans (h.sw.fm (Fm.refl w' []).drew)
theorem ST.gl {w w':World} {b:Nat} {s s':FS} (h:ST w w' b s s') (G:GL w) (h9:∀v∈SB b s,9≤v):GL w'∧∀v∈SB b s',9≤v:=by
 have hs:=G.size
 refine ⟨G.fm h.fr h9,?_⟩
 intro v hv
 rcases h.ext v hv with h1|h1
 ·exact h9 v h1
 ·omega
theorem nil_cnd {x y:PT} {w:World} (h:y w):cnd (!(isNil .nilIface)) x y w:=⟨fun h=>by simp [isNil] at h,fun _=>h⟩
theorem err_cnd {v:Value} {x y:PT} {w:World} (hv:isNil v=false) (h:x w):cnd (!(isNil v)) x y w:=⟨fun _=>h,fun h=>by rw [hv] at h;simp at h⟩
def nsZ (L:Nat) (ws:List Nat):List Int:=(List.range L).map (nmZ (fun i=>ws.count i) (tlZ ws.length L) L ws.length)
def FEx (m L:Nat) (ws:List Nat):Prop:=m≠ws.length∧m≠1∧ws.length/128≤m∧2<ws.length∧nmOk (fun i=>ws.count i) (tlZ ws.length L) L ws.length
def FTot (L:Nat) (ws:List Nat) (k:Nat):Prop:=∃f t,spreadZ (nsZ L ws) (2^tlZ ws.length L) (fun _ => -1)=some (f,0)∧HBt (tlZ ws.length L) (nsZ L ws) L false t ∧
 k=(8*((t+7)/8)+(encZ (tlZ ws.length L) (shareZ (nsZ L ws)) (posZ (2^tlZ ws.length L) f) ws).t+(tlZ ws.length L+tlZ ws.length L))/8+1
def FBad (m L:Nat) (ws:List Nat):Prop:=¬FEx m L ws∨∃k,FTot L ws k∧ws.length≤k
def FGood (m L:Nat) (ws:List Nat) (k:Nat):Prop:=FEx m L ws∧FTot L ws k∧k<ws.length
theorem c84 {w:World} {b m L:Nat} {s:FS} {src:Sl} {ws:List Nat} {K:Sl×Value→PT} (W:SW w b s) (G:GL w) (h9:∀v∈SB b s,9≤v) (hsrc:Arr .u8 w src ws) (hd:∀a,src.a=some a→ws ≠ []→a.block∉SB b s)
  (hn2:2≤ws.length) (hn:ws.length≤255) (htl:s.tl=6) (hm:s.maxC=(m:Nat)) (hm0:0<m) (hmn:m≤ws.length) (hsym:s.symL=(L:Nat)) (hL1:1≤L) (hL12:L≤12) (hcnt:∀i,i<L→s.count i=(ws.count i:Nat)) (hws:∀x∈ws,x<L)
  (hmax:∀i,i<L→ws.count i≤m) (hlast:ws.count (L-1)≠0)
  (hk0:∀w' s' v,FBad m L ws→ST w w' b s s'→isPE v=true→isNil v=false→K (⟨none,0,0⟩,v) w')
  (hk1:∀w' s' o ol,FGood m L ws ol.length→ST w w' b s s'→Arr .u8 w' o ol→By ol→ol.length<ws.length→FseOK ol ws→(∀v∈o.bs,v∈SB b s')→K (o,.nilIface) w') :
  callP Tryd.prog 84 #[.slice src.a src.l src.c,.pointer (some ⟨b,0,none⟩)] [.c .S,.c .V] K w:=by
 apply q84_ok (o1:=some ⟨b,0,none⟩)
 unfold q84
 have hsl:=hsrc.len
 have hbl:=W.blk.lt
 refine cnd_d (fun h=>absurd h (by omega)) (fun _ => ?_)
 refine cnd_d (fun h=>absurd h (by omega)) (fun _ => ?_)
 refine c77 (x:=src) W.blk htl (by rw [hm];omega) (by omega) ?_
 intro w1 s1 ecount enorm ebr ebro ets est ett edt emaxC esymL etl HB1 F1 hout
 have T1:ST w w1 b s s1:=by
  rcases hout with h|⟨h1,h2,h3,h4⟩
  ·exact W.same HB1 F1 h ets est ett
  ·exact W.out HB1 (F1.mono (by intro v hv;simp at hv;simp [hv])) h3.own (fun hb=>by have:=h4 _ hb;omega) (fun v hv => .inr (h4 v hv)) ets est ett
 refine ⟨rfl,nil_cnd ⟨_,rfl,?_⟩⟩
 simp only [add_mk,Nat.zero_add]
 refine ld_b (t := .I .i64) (x:=((m:Nat):Int)) HB1 (by show some (Value.int .i64 s1.maxC)=_;rw [emaxC,hm];rfl) ?_
 refine joinP_id (cnd_d (fun h=>absurd h (by omega)) (fun _ => ?_))
 unfold q84_J0
 refine ⟨_,rfl,?_⟩
 simp only [add_mk,Nat.zero_add]
 refine st_u HB1 rfl rfl ?_
 intro w2 HB2 F2
 have HB2':=HB2.congr (FS.setT (s' := { s1 with cc:=true }) 19 rfl rfl rfl (by decide))
 refine ⟨_,rfl,?_⟩
 simp only [add_mk,Nat.zero_add]
 refine st_u HB2' rfl rfl ?_
 intro w3 HB3 F3
 have HB3':=HB3.congr (FS.setT (s' := { s1 with cc:=true,maxC:=0 }) 13 rfl rfl rfl (by decide))
 have T3:ST w w3 b s { s1 with cc:=true,maxC:=0 } := T1.trans (T1.sw.same HB3' (F2.trans F3 (fun x hx => .inl hx)) rfl rfl rfl rfl)
 have hsum:smI (gC fun i=>ws.count i) (fun _=>0) L=ws.length:=counts_sum hws _
 generalize hs3:({ s1 with cc:=true,maxC:=0 } : FS)=s3 at *
 have e3count:s3.count=s.count:=by rw [←hs3];exact ecount
 have e3sym:s3.symL=(L:Nat):=by rw [←hs3];exact esymL.trans hsym
 have e3br:s3.br=src:=by rw [←hs3];exact ebr
 have e3bro:s3.brOff=0:=by rw [←hs3];exact ebro
 have e3tl:s3.tl=6:=by rw [←hs3];exact etl
 clear hs3
 obtain ⟨G3,h93⟩:=T3.gl G h9
 have eshr:shrI .i64 ((src.l:Nat):Int) (7:Int)=((ws.length/128:Nat):Int):=by
  rw [hsl,show (7:Int)=((7:Nat):Int) from rfl,shrI_nat _ _ _ (by simp only [IntKind.bits];omega)]
 rw [eshr]
 refine cnd_d (fun hc=>ld_err G3.e4 fun v h1 h2=>hk0 _ _ v (.inl fun hE=>hE.1 (by omega)) T3.drew h1 h2) (fun hne => ?_)
 refine cnd_d (fun hc=>ld_err G3.e3 fun v h1 h2=>hk0 _ _ v (.inl fun hE=>hE.2.1 (by omega)) T3.drew h1 h2) (fun hne1 => ?_)
 refine ⟨by decide,cnd_d (fun hc=>ld_err G3.e3 fun v h1 h2=>hk0 _ _ v (.inl fun hE=>by have:=hE.2.2.1;omega) T3.drew h1 h2) (fun hne2 => ?_)⟩
 have hmlt:m<ws.length:=by omega
 have hL2:2≤L:=by
  by_cases h:2≤L
  ·exact h
  ·exfalso
   have hL:L=1:=by omega
   subst hL
   have h1:smI (gC fun i=>ws.count i) (fun _=>0) 1=ws.count 0:=by rw [smI,smI];simp [gC]
   have:=hmax 0 (by omega)
   omega
 refine c110 (n:=ws.length) (L:=L) HB3' (by rw [e3br,hsl]) e3bro e3sym e3tl hn2 (by omega) hL2 (by omega) ?_
 intro w4 T hTe hT h6 HB4 F4
 have T4:ST w w4 b s { s3 with atl:=(T:Nat) } := T3.trans (T3.sw.same HB4 F4 rfl rfl rfl rfl)
 obtain ⟨G4,h94⟩:=T4.gl G h9
 have C:CS { s3 with atl:=(T:Nat) } (fun i=>ws.count i) T L ws.length:=⟨hT,rfl,e3sym,by show s3.br.l=_;rw [e3br,hsl],e3bro,hL2,hL12,hn2,by omega,fun i hi=>by show s3.count i=_;rw [e3count];exact hcnt i hi,hsum⟩
 have hb9:9≤b:=h9 b (mem_SB.mpr (.inl rfl))
 refine c111 C HB4 G4.rtb (by omega) ?_ ?_
 ·intro w5 v nf h1 h2 h3 HB5 F5
  exact ⟨isPE.ifc h1,err_cnd h2 (hk0 _ _ v (.inl fun hE=>h3 (by rw [hTe];exact hE.2.2.2.2)) (T4.trans (T4.sw.same HB5 F5 rfl rfl rfl rfl)) h1 h2)⟩
 intro w5 nf HN hNO hNE HB5 F5
 refine ⟨rfl,nil_cnd ?_⟩
 have hnsE:(List.range L).map nf=nsZ L ws:=List.map_congr_left (fun j hj=>by rw [hNE j (List.mem_range.mp hj),hTe])
 have T5:=T4.trans (T4.sw.same (s' := { s3 with atl:=(T:Nat),norm:=nf }) HB5 F5 rfl rfl rfl rfl)
 have hnl:((List.range L).map nf).length=L:=by simp
 have H5:NS { s3 with atl:=(T:Nat),norm:=nf } ((List.range L).map nf) T L:=by
  refine ⟨hT,rfl,e3sym,hnl,hL2,by omega,?_,?_,?_⟩
  ·intro i hi;simp
  ·intro c hc
   obtain ⟨j,hj,rfl⟩:=List.mem_map.mp hc
   exact HN.ge j (List.mem_range.mp hj)
  ·rw [sumZ_map];exact HN.sum
 have hshare:∀x,x<L→ws.count x≠0→nf x≠0:=fun x hx hc h=>hc ((HN.zero x hx).mp h)
 have hlast':((List.range L).map nf).getD (L-1) 0≠0:=by
  rw [getD_Z (by omega)]
  simp only [List.getElem_map,List.getElem_range]
  exact hshare _ (by omega) hlast
 generalize hns:(List.range L).map nf=ns at *
 refine c112 (n:=ws.length) H5 hL12 hlast' HB5 T5.sw.o T5.sw.bo (by show s3.br.l=_;rw [e3br,hsl]) e3bro (by omega) ?_
 intro w6 o Hd d0 d1 d2 d3 d4 d5 HB6 F6 d7 d8
 refine ⟨rfl,nil_cnd ?_⟩
 have T56:=T5.sw.out (s' := { s3 with atl:=(T:Nat),norm:=nf,out:=o }) HB6 F6 d5.own d8 d7 rfl rfl rfl
 have T6:=T5.trans T56
 have H6:NS { s3 with atl:=(T:Nat),norm:=nf,out:=o } ns T L:=H5.congr rfl rfl rfl
 have W6:=T56.sw
 refine c113 H6 HB6 W6.x W6.y W6.z W6.bx W6.bY W6.bz W6.xy W6.xz W6.yz ?_
 intro w7 tb stb ttb capx capy capz zz f hTt g hsp HE o1 o2 o3 hcz HB7 F7 n1 n2 n3 b1 b2 b3 b4 b5 b6
 refine ⟨rfl,nil_cnd ?_⟩
 have oo:∀v∈o.bs,v<w6.heap.size:=d5.own.lt
 have T67:ST w6 w7 b { s3 with atl:=(T:Nat),norm:=nf,out:=o } { s3 with atl:=(T:Nat),norm:=nf,out:=o,ts:=⟨some ⟨tb,0,none⟩,2^T,capx⟩,st:=⟨some ⟨stb,0,none⟩,2^T,capy⟩,tt:=⟨some ⟨ttb,0,none⟩,256,capz⟩,zb:=zz } := by
  have keep:∀v∈o.bs,v∉b::(s3.ts.bs++(s3.st.bs++s3.tt.bs)):=by
   intro v hv
   simp only [List.mem_cons,List.mem_append,not_or]
   exact ⟨fun e=>W6.bo (e▸hv),W6.ox v hv,W6.oy v hv,W6.oz v hv⟩
  have c1:∀v∈o.bs,v≠tb:=by
   intro v hv e;subst e
   rcases n1 with h|h
   ·exact W6.ox _ hv h
   ·have:=oo _ hv;omega
  have c2:∀v∈o.bs,v≠stb:=by
   intro v hv e;subst e
   rcases n2 with h|h
   ·exact W6.oy _ hv h
   ·have:=oo _ hv;omega
  have c3:∀v∈o.bs,v≠ttb:=by
   intro v hv e;subst e
   rcases n3 with h|h
   ·exact W6.oz _ hv h
   ·have:=oo _ hv;omega
  refine ⟨⟨HB7,W6.o.fm F7 keep,o1,o2,o3,W6.bo,?_,?_,?_,?_,?_,?_,?_,?_,?_⟩,F7.mono ?_,?_⟩
  ·simpa [Sl.bs] using b1
  ·simpa [Sl.bs] using b2
  ·simpa [Sl.bs] using b3
  ·intro v hv;simpa [Sl.bs] using c1 v hv
  ·intro v hv;simpa [Sl.bs] using c2 v hv
  ·intro v hv;simpa [Sl.bs] using c3 v hv
  ·intro v hv;simp [Sl.bs] at hv ⊢;omega
  ·intro v hv;simp [Sl.bs] at hv ⊢;omega
  ·intro v hv;simp [Sl.bs] at hv ⊢;omega
  ·intro v hv
   left
   rw [mem_SB]
   simp only [List.mem_cons,List.mem_append] at hv
   rcases hv with h|h|h|h
   ·exact .inl h
   ·exact .inr (.inr (.inl h))
   ·exact .inr (.inr (.inr (.inl h)))
   ·exact .inr (.inr (.inr (.inr h)))
  ·intro v hv
   rw [mem_SB] at hv ⊢
   simp only [Sl.bs,List.mem_cons,List.not_mem_nil,or_false] at hv
   rcases hv with h|h|h|h|h
   ·exact .inl (.inl h)
   ·exact .inl (.inr (.inl h))
   ·subst h
    rcases n1 with h|h
    ·exact .inl (.inr (.inr (.inl h)))
    ·exact .inr h
   ·subst h
    rcases n2 with h|h
    ·exact .inl (.inr (.inr (.inr (.inl h))))
    ·exact .inr h
   ·subst h
    rcases n3 with h|h
    ·exact .inl (.inr (.inr (.inr (.inr h))))
    ·exact .inr h
 have T7:=T6.trans T67
 obtain ⟨G7,h97⟩:=T7.gl G h9
 have W7:=T67.sw
 have hN:∀x,shareZ ns x<2^T:=by
  intro x
  rw [←hns]
  exact HN.lt hsum hmax hmlt x
 obtain ⟨f2,g1,g2,g3⟩:=statesZ_some hT H5.rng H5.sum
 have hf2:f2=f:=by rw [hsp] at g1;injection g1 with g1;injection g1 with g1;exact g1.symm
 subst hf2
 have hTab:=tabOK hT H5.rng hN g3 hsp
 have hok:∀x∈ws,x<256∧0<shareZ ns x:=by
  intro x hx
  have hxL:=hws x hx
  refine ⟨by omega,?_⟩
  rw [←hns,shareZ_in (by simpa using hxL)]
  simp only [List.getElem_map,List.getElem_range]
  have h1:=hshare x hxL (by have:=List.count_pos_iff.mpr hx;omega)
  have h2:=HN.ge x hxL
  unfold absZ;split<;>omega
 have hdS:∀a,src.a=some a→ws ≠ []→a.block∉SB b { s3 with atl:=(T:Nat),norm:=nf,out:=o,ts:=⟨some ⟨tb,0,none⟩,2^T,capx⟩,st:=⟨some ⟨stb,0,none⟩,2^T,capy⟩,tt:=⟨some ⟨ttb,0,none⟩,256,capz⟩,zb:=zz } := by
  intro a ha hne hv
  have:=hsrc.old hne a ha
  rcases T7.ext _ hv with h|h
  ·exact hd a ha hne h
  ·omega
 have hA7:Arr .u8 w7 src ws:=hsrc.fr T7.fr hd
 have HO7:Vec 1 w7 o (bytes .u8 Hd):=d5.fr F7 (by
  intro v hv
  simp only [List.mem_cons,List.mem_append,not_or]
  exact ⟨fun e=>W6.bo (e▸hv),W6.ox v hv,W6.oy v hv,W6.oz v hv⟩)
 have hm8:∀v∈o.bs,9≤v:=fun v hv=>h97 v (mem_SB.mpr (.inr (.inl hv)))
 generalize hs7:({ s3 with atl:=(T:Nat),norm:=nf,out:=o,ts:=⟨some ⟨tb,0,none⟩,2^T,capx⟩,st:=⟨some ⟨stb,0,none⟩,2^T,capy⟩,tt:=⟨some ⟨ttb,0,none⟩,256,capz⟩,zb:=zz } : FS)=s7 at *
 have e7out:s7.out=o:=by rw [←hs7]
 have e7atl:s7.atl=(T:Nat):=by rw [←hs7]
 have e7st:s7.st=⟨some ⟨stb,0,none⟩,2^T,capy⟩:=by rw [←hs7]
 have e7tt:s7.tt=⟨some ⟨ttb,0,none⟩,256,capz⟩:=by rw [←hs7]
 clear hs7
 rw [←e7out] at HO7 hm8
 have bs1:∀v,v∈s7.st.bs↔v=stb:=by intro v;rw [e7st];simp [Sl.bs]
 have bs2:∀v,v∈s7.tt.bs↔v=ttb:=by intro v;rw [e7tt];simp [Sl.bs]
 refine c114 (ol0:=Hd) (src:=src) HB7 e7atl e7st e7tt hcz HO7 d1 W7.bo (by omega) HE G7.mask hA7 hok ⟨_,hTab⟩ (by omega) ⟨b2.symm,fun h=>W7.oy _ h ((bs1 _).mpr rfl)⟩ ⟨b3.symm,fun h=>W7.oz _ h ((bs2 _).mpr rfl)⟩ ⟨by omega,fun h=>by have:=hm8 8 h;omega⟩ ?_ ?_ ?_
 ·intro a ha hne
  have:=hdS a ha hne
  rw [mem_SB] at this
  exact ⟨fun e=>this (.inl e),fun e=>this (.inr (.inl e))⟩
 ·intro hs2 w8 v F8 h1 h2
  exact ⟨isPE.ifc h1,err_cnd h2 (hk0 _ _ v (.inl fun hE=>by have:=hE.2.2.2.1;omega) (T7.trans (W7.fm F8)) h1 h2)⟩
 intro hl2 w8 so ol a1 a2 a3 a4 a5 a6
 have hTot:FTot L ws ol.length:=by
  obtain ⟨t,ht1,ht2⟩:=d0
  refine ⟨f2,t,?_,?_,?_⟩
  ·rw [←hTe, ←hnsE];exact hsp
  ·rw [←hTe, ←hnsE];exact ht1
  ·rw [←hTe, ←hnsE, ←ht2];exact a4
 refine ⟨rfl,nil_cnd ⟨_,rfl,?_⟩⟩
 simp only [add_mk,Nat.zero_add]
 have HB8:=a1.blk.congr (bw_at s7 so)
 refine ld_b (t := .S) (x:=so) HB8 rfl ?_
 refine ⟨_,rfl,?_⟩
 simp only [add_mk,Nat.zero_add]
 refine st_u HB8 rfl rfl ?_
 intro w9 HB9 F9
 have HB9':=HB9.congr (FS.setT (s' := { s7 with bc:=0,bn:=0,bo:=so,out:=so }) 14 rfl rfl rfl (by decide))
 have hso:∀v∈so.bs,v ∉ [b]:=by intro v hv;simp;intro e;exact a1.dis (e▸hv)
 have V9:Vec 1 w9 so (bytes .u8 ol):=a1.vec.fr F9 hso
 have T79:ST w7 w9 b s7 { s7 with bc:=0,bn:=0,bo:=so,out:=so } := by
  refine W7.out HB9' (a6.trans F9 (by intro v hv;simp at hv;left;simp [hv])) V9.own a1.dis ?_ rfl rfl rfl
  intro v hv
  rcases a5 v hv with h|h|h
  ·subst h;exact absurd hv a1.dis
  ·exact .inl h
  ·exact .inr h
 have T9:=T7.trans T79
 obtain ⟨G9,h99⟩:=T9.gl G h9
 refine ⟨_,rfl,?_⟩
 simp only [add_mk,Nat.zero_add]
 refine ld_b (t := .S) (x:=so) HB9' rfl ?_
 have hol:so.l=ol.length:=V9.arr.len
 refine cnd_d (fun hge=>ld_err G9.e3 fun v h1 h2=>hk0 _ _ v (.inr ⟨_,hTot,by omega⟩) T9.drew h1 h2) (fun hlt => ?_)
 refine ⟨_,rfl,?_⟩
 simp only [add_mk,Nat.zero_add]
 refine ld_b (t := .S) (x:=so) HB9' rfl ?_
 obtain ⟨bs,c1,c2,c3⟩:=leN_split a2 d1 (by omega) a3
 have hbl2:bs.length=((encZ T (shareZ ns) (posZ (2^T) f2) ws).t+(T+T))/8+1:=by
  have:=congrArg List.length c1
  rw [List.length_append] at this
  omega
 refine hk1 w9 _ so ol ⟨⟨by omega,by omega,by omega,hl2,by rw [←hTe];exact hNO⟩,hTot,by omega⟩ T9 V9.arr a2 (by omega) ⟨ns,T,bs,_,by rw [c1];exact d2 bs c2,by rcases hT with h|h<;>omega,g3,two_back hTab hn2 hn hok c2 hbl2 c3⟩ ?_
 intro v hv
 exact mem_SB.mpr (.inr (.inl hv))
structure HU where
 count:Nat→Int
 hw:Nat→Int
 out:Sl
 outT:Sl
 outD:Sl
 maxDec:Int
 srcLen:Int
 msv:Int
 tl:Int
 reuse:Int
 wll:Int
 symL:Int
 maxC:Int
 cc:Bool
 atl:Int
 ptl:Int
 pt:Sl
 ct:Sl
 dt:Sl
 nodes:Sl
 t0:Sl
 t1:Sl
 t2:Sl
 t3:Sl
 fse:Option Addr
def HU.tail (s:HU):List Value := [s.out.val,s.outT.val,s.outD.val,.int .i64 s.maxDec,.int .i64 s.srcLen,.int .u8 s.msv,.int .u8 s.tl,.int .u8 s.reuse,.int .u8 s.wll,.int .u16 s.symL,.int .i64 s.maxC,.bool s.cc,.int .u8 s.atl,.int .u8 s.ptl,
 s.pt.val,s.ct.val,s.dt.val,s.nodes.val,s.t0.val,s.t1.val,s.t2.val,s.t3.val,.pointer s.fse]
def HU.at (s:HU):Cells:=fun i=>if i<256 then some (.int .u32 (s.count i)) else if i<279 then s.tail[i-256]? else if i<535 then some (.int .u8 (s.hw (i-279))) else none
theorem HU.count_at (s:HU) {i:Nat} (h:i<256):s.at i=some (.int .u32 (s.count i)):=if_pos h
theorem HU.hw_at (s:HU) {i:Nat} (h:i<256):s.at (279+i)=some (.int .u8 (s.hw i)):=by
 unfold HU.at
 rw [if_neg (by omega),if_neg (by omega),if_pos (by omega),Nat.add_sub_cancel_left]
theorem HU.setT {s s':HU} (k:Nat) {v:Value} (h1:s'.count=s.count) (h2:s'.hw=s.hw) (h3:s'.tail=s.tail.set k v) (h4:k<23):updC s.at (256+k) v=s'.at:=by
 funext i
 unfold updC HU.at
 rw [h1,h2,h3]
 by_cases e:i=256+k
 ·subst e
  rw [if_pos rfl,if_neg (by omega),if_pos (by omega),Nat.add_sub_cancel_left,List.getElem?_set_self (by exact h4)]
 ·rw [if_neg e]
  split
  ·rfl
  ·split
   ·rw [List.getElem?_set_ne (by omega)]
   ·rfl
theorem HU.setC {s:HU} {i:Nat} {x:Int} (h:i<256):updC s.at i (.int .u32 x)=({ s with count:=updF s.count i x } : HU).at:=by
 funext j
 unfold updC HU.at updF
 by_cases e:j=i
 ·subst e
  rw [if_pos rfl,if_pos h]
  simp
 ·rw [if_neg e]
  by_cases h1:j<256
  ·rw [if_pos h1,if_pos h1];simp [e]
  ·rw [if_neg h1,if_neg h1];rfl
theorem HU.setW {s:HU} {i:Nat} {x:Int} (h:i<256):updC s.at (279+i) (.int .u8 x)=({ s with hw:=updF s.hw i x } : HU).at:=by
 funext j
 unfold updC HU.at updF
 by_cases e:j=279+i
 ·subst e
  rw [if_pos rfl,if_neg (by omega),if_neg (by omega),if_pos (by omega)]
  simp
 ·rw [if_neg e]
  by_cases h1:j<256
  ·rw [if_pos h1,if_pos h1]
  ·rw [if_neg h1,if_neg h1]
   by_cases h2:j<279
   ·rw [if_pos h2,if_pos h2];rfl
   ·rw [if_neg h2,if_neg h2]
    by_cases h3:j<535
    ·rw [if_pos h3,if_pos h3]
     dsimp only
     rw [if_neg (by omega)]
    ·rw [if_neg h3,if_neg h3]
def HU.zero:HU:=⟨fun _=>0,fun _=>0,⟨none,0,0⟩,⟨none,0,0⟩,⟨none,0,0⟩,0,0,0,0,0,0,0,0,false,0,0,⟨none,0,0⟩,⟨none,0,0⟩,⟨none,0,0⟩,⟨none,0,0⟩,⟨none,0,0⟩,⟨none,0,0⟩,⟨none,0,0⟩,⟨none,0,0⟩,none⟩
theorem HU.atZ:(fun i=>(⟨z94⟩:Array Value)[i]?)=HU.zero.at:=by
 funext i
 simp only [List.getElem?_toArray]
 unfold z94 HU.at
 rw [rep_get]
 by_cases h1:i<256
 ·rw [if_pos h1,if_pos h1];rfl
 ·rw [if_neg h1,if_neg h1]
  by_cases h2:i<279
  ·rw [if_pos h2]
   obtain ⟨k,rfl⟩:∃k,i=256+k:=⟨i-256,by omega⟩
   rw [Nat.add_sub_cancel_left]
   have hk:k<23:=by omega
   have:k=0∨k=1∨k=2∨k=3∨k=4∨k=5∨k=6∨k=7∨k=8∨k=9∨k=10∨k=11∨k=12∨k=13∨k=14∨k=15∨k=16∨k=17∨k=18∨k=19∨k=20∨k=21∨k=22:=by omega
   rcases this with rfl|rfl|rfl|rfl|rfl|rfl|rfl|rfl|rfl|rfl|rfl|rfl|rfl|rfl|rfl|rfl|rfl|rfl|rfl|rfl|rfl|rfl|rfl<;>rfl
  ·rw [if_neg h2]
   obtain ⟨k,rfl⟩:∃k,i=279+k:=⟨i-279,by omega⟩
   have e:(List.replicate 3 (Value.slice none 0 0)++(List.replicate 2 (Value.int .i64 0)++(List.replicate 4 (Value.int .u8 0)++([Value.int .u16 0]++([Value.int .i64 0]++([Value.bool false]++(List.replicate 2 (Value.int .u8 0)++(List.replicate 8 (Value.slice none 0 0)++([Value.pointer none]++List.replicate 256 (Value.int .u8 0))))))))))[279+k-256]? = (List.replicate 256 (Value.int .u8 0))[k]? := by
    rw [show 279+k-256=k+23 by omega]
    rfl
   rw [e,List.getElem?_replicate]
   by_cases h3:k<256
   ·rw [if_pos h3,if_pos (by omega)];rfl
   ·rw [if_neg h3,if_neg (by omega)]
theorem field_clear {k m r a x y:Nat} (ha:a<2^k) (hx:x<2^m) (hy:y<2^r):(2^(k+m)*y+(2^k*x+a)) &&& (2^(k+m)*(2^r-1)+(2^k-1))=2^(k+m)*y+a:=by
 have hkm:2^k≤2^(k+m):=Nat.pow_le_pow_right (by omega) (by omega)
 have hp:=Nat.two_pow_pos k
 have h1:2^k*x+a<2^(k+m):=by
  have:=put_lt ha hx
  rw [Nat.mul_comm x,Nat.add_comm a] at this
  exact this
 apply Nat.eq_of_testBit_eq
 intro j
 have e1:=Nat.testBit_two_pow_mul_add y h1 j
 have e2:=Nat.testBit_two_pow_mul_add (2^r-1) (show 2^k-1<2^(k+m) by omega) j
 have e3:=Nat.testBit_two_pow_mul_add y (show a<2^(k+m) by omega) j
 rw [Nat.testBit_and,e1,e2,e3]
 by_cases hj:j<k+m
 ·rw [if_pos hj,if_pos hj,if_pos hj,Nat.testBit_two_pow_mul_add _ ha,Nat.testBit_two_pow_sub_one]
  by_cases hk:j<k
  ·rw [if_pos hk];simp [hk]
  ·rw [if_neg hk]
   have:a.testBit j=false:=Nat.testBit_lt_two_pow (Nat.lt_of_lt_of_le ha (Nat.pow_le_pow_right (by omega) (by omega)))
   simp [hk,this]
 ·rw [if_neg hj,if_neg hj,if_neg hj,Nat.testBit_two_pow_sub_one]
  by_cases hr:j-(k+m)<r
  ·simp [hr]
  ·have:y.testBit (j-(k+m))=false:=Nat.testBit_lt_two_pow (Nat.lt_of_lt_of_le hy (Nat.pow_le_pow_right (by omega) (by omega)))
   simp [hr,this]
theorem field_set {k m a x y:Nat} (ha:a<2^k) (hx:x<2^m):(2^(k+m)*y+a) ||| (2^k*x)=2^(k+m)*y+(2^k*x+a):=by
 have hkm:2^k≤2^(k+m):=Nat.pow_le_pow_right (by omega) (by omega)
 have hp:=Nat.two_pow_pos k
 have h1:2^k*x+a<2^(k+m):=by
  have:=put_lt ha hx
  rw [Nat.mul_comm x,Nat.add_comm a] at this
  exact this
 have h2:2^k*x=2^(k+m)*0+(2^k*x+0):=by simp
 apply Nat.eq_of_testBit_eq
 intro j
 have e1:=Nat.testBit_two_pow_mul_add y (show a<2^(k+m) by omega) j
 have e2:=Nat.testBit_two_pow_mul_add 0 (show 2^k*x+0<2^(k+m) by omega) j
 have e3:=Nat.testBit_two_pow_mul_add y h1 j
 rw [←h2] at e2
 rw [Nat.testBit_or,e1,e2,e3]
 by_cases hj:j<k+m
 ·rw [if_pos hj,if_pos hj,if_pos hj,Nat.testBit_two_pow_mul_add _ hp,Nat.testBit_two_pow_mul_add _ (by omega)]
  by_cases hk:j<k
  ·rw [if_pos hk,if_pos hk];simp
  ·rw [if_neg hk,if_neg hk]
   have:a.testBit j=false:=Nat.testBit_lt_two_pow (Nat.lt_of_lt_of_le ha (Nat.pow_le_pow_right (by omega) (by omega)))
   simp [this]
 ·rw [if_neg hj,if_neg hj,if_neg hj]
  simp
structure Nd where
 c:Nat
 p:Nat
 s:Nat
 b:Nat
def Nd.ok (x:Nd):Prop:=x.c<2^32∧x.p<2^16∧x.s<2^8∧x.b<2^8
def Nd.n (x:Nd):Nat:=x.c+4294967296*x.p+281474976710656*x.s+72057594037927936*x.b
theorem Nd.lt {x:Nd} (h:x.ok):x.n<2^64:=by
 obtain ⟨h1,h2,h3,h4⟩:=h
 unfold Nd.n
 omega
def Nd.v (x:Nd):Value := .int .u64 (x.n:Nat)
section
variable {w:World} {g o:Nat} {F:Cells} {x:Nd}
theorem c123 {K:Int→PT} (B:Blk w g F) (hF:F o=some x.v) (hx:x.ok) (hk:K (x.c:Nat) w):callP Tryd.prog 123 #[.pointer (some ⟨g,o,none⟩)] [.c (.I .u32)] K w:=by
 apply q123_ok
 unfold q123
 refine ld_b (t := .I .u64) (x:=((x.n:Nat):Int)) B hF ?_
 have e:IntKind.u32.wrap ((x.n:Nat):Int)=((x.c:Nat):Int):=by
  rw [show IntKind.u32.wrap ((x.n:Nat):Int)=((x.n%2^32:Nat):Int) from wrap_u (k := .u32) rfl x.n]
  obtain ⟨h1,h2,h3,h4⟩:=hx
  unfold Nd.n
  omega
 rw [e];exact hk
theorem c127 {K:Int→PT} (B:Blk w g F) (hF:F o=some x.v) (hx:x.ok) (hk:K (x.p:Nat) w):callP Tryd.prog 127 #[.pointer (some ⟨g,o,none⟩)] [.c (.I .u16)] K w:=by
 apply q127_ok
 unfold q127
 refine ld_b (t := .I .u64) (x:=((x.n:Nat):Int)) B hF ⟨by decide,?_⟩
 have e:IntKind.u16.wrap (shrI .u64 ((x.n:Nat):Int) 32)=((x.p:Nat):Int):=by
  have h:=shrI_nat .u64 x.n 32 (x.lt hx)
  rw [show (32:Int)=((32:Nat):Int) from rfl,h,show IntKind.u16.wrap ((x.n/2^32:Nat):Int)=((x.n/2^32%2^16:Nat):Int) from wrap_u (k := .u16) rfl _]
  obtain ⟨h1,h2,h3,h4⟩:=hx
  unfold Nd.n
  omega
 rw [e];exact hk
theorem c128 {K:Int→PT} (B:Blk w g F) (hF:F o=some x.v) (hx:x.ok) (hk:K (x.b:Nat) w):callP Tryd.prog 128 #[.pointer (some ⟨g,o,none⟩)] [.c (.I .u8)] K w:=by
 apply q128_ok
 unfold q128
 refine ld_b (t := .I .u64) (x:=((x.n:Nat):Int)) B hF ⟨by decide,?_⟩
 have e:IntKind.u8.wrap (shrI .u64 ((x.n:Nat):Int) 56)=((x.b:Nat):Int):=by
  have h:=shrI_nat .u64 x.n 56 (x.lt hx)
  rw [show (56:Int)=((56:Nat):Int) from rfl,h,show IntKind.u8.wrap ((x.n/2^56:Nat):Int)=((x.n/2^56%2^8:Nat):Int) from wrap_u (k := .u8) rfl _]
  obtain ⟨h1,h2,h3,h4⟩:=hx
  unfold Nd.n
  omega
 rw [e];exact hk
theorem c130 {K:Int→PT} (B:Blk w g F) (hF:F o=some x.v) (hx:x.ok) (hk:K (x.s:Nat) w):callP Tryd.prog 130 #[.pointer (some ⟨g,o,none⟩)] [.c (.I .u8)] K w:=by
 apply q130_ok
 unfold q130
 refine ld_b (t := .I .u64) (x:=((x.n:Nat):Int)) B hF ⟨by decide,?_⟩
 have e:IntKind.u8.wrap (shrI .u64 ((x.n:Nat):Int) 48)=((x.s:Nat):Int):=by
  have h:=shrI_nat .u64 x.n 48 (x.lt hx)
  rw [show (48:Int)=((48:Nat):Int) from rfl,h,show IntKind.u8.wrap ((x.n/2^48:Nat):Int)=((x.n/2^48%2^8:Nat):Int) from wrap_u (k := .u8) rfl _]
  obtain ⟨h1,h2,h3,h4⟩:=hx
  unfold Nd.n
  omega
 rw [e];exact hk
theorem setf {N M X R:Nat} {i m:Int} (hN:N<2^64) (hM:M<2^64) (hX:X<2^64) (hm:m=(M:Nat)) (hi:i=(X:Nat)) (h:(N &&& M) ||| X=R):orI .u64 (andI .u64 ((N:Nat):Int) m) i=((R:Nat):Int):=by
 subst hm hi
 rw [andI_nat (k := .u64) rfl N M hN hM,orI_nat (k := .u64) rfl _ _ (Nat.lt_of_le_of_lt Nat.and_le_left hN) hX,h]
theorem c124 {K:Unit→PT} {n:Nat} (B:Blk w g F) (hF:F o=some x.v) (hx:x.ok) (hn:n<2^32) (hk:∀w',Blk w' g (updC F o ({ x with c:=n } : Nd).v)→Fm w w' [g]→K () w'):callP Tryd.prog 124 #[.pointer (some ⟨g,o,none⟩),.int .u32 (n:Nat)] [] K w:=by
 apply q124_ok
 unfold q124
 refine ld_b (t := .I .u64) (x:=((x.n:Nat):Int)) B hF ?_
 have e:orI .u64 (andI .u64 ((x.n:Nat):Int) 18446744069414584320) (IntKind.wrap .u64 ((n:Nat):Int))=((({ x with c:=n } : Nd).n:Nat):Int):=by
  refine setf (M:=18446744069414584320) (X:=n) (x.lt hx) (by decide) (by omega) rfl (wU64 (by omega) (by omega)) ?_
  obtain ⟨h1,h2,h3,h4⟩:=hx
  have hy:x.p+65536*x.s+16777216*x.b<2^32:=by omega
  have e1:x.n=2^(0+32)*(x.p+65536*x.s+16777216*x.b)+(2^0*x.c+0):=by unfold Nd.n;omega
  have c1:=field_clear (k:=0) (m:=32) (r:=32) (a:=0) (x:=x.c) (y:=x.p+65536*x.s+16777216*x.b) (by decide) h1 hy
  have c2:=field_set (k:=0) (m:=32) (a:=0) (x:=n) (y:=x.p+65536*x.s+16777216*x.b) (by decide) hn
  rw [e1,show (18446744069414584320:Nat)=2^(0+32)*(2^32-1)+(2^0-1) from rfl,c1,show n=2^0*n by omega,c2]
  unfold Nd.n
  simp only
  omega
 rw [e]
 refine st_u B (by rw [hF];rfl) rfl hk
theorem c125 {K:Unit→PT} {n:Nat} (B:Blk w g F) (hF:F o=some x.v) (hx:x.ok) (hn:n<2^15) (hk:∀w',Blk w' g (updC F o ({ x with p:=n } : Nd).v)→Fm w w' [g]→K () w'):callP Tryd.prog 125 #[.pointer (some ⟨g,o,none⟩),.int .i16 (n:Nat)] [] K w:=by
 apply q125_ok
 unfold q125
 refine ld_b (t := .I .u64) (x:=((x.n:Nat):Int)) B hF ⟨by decide,?_⟩
 have e:orI .u64 (andI .u64 ((x.n:Nat):Int) 18446462603027808255) (shlI .u64 (IntKind.wrap .u64 (IntKind.wrap .u16 ((n:Nat):Int))) 32)=((({ x with p:=n } : Nd).n:Nat):Int):=by
  refine setf (M:=18446462603027808255) (X:=2^32*n) (x.lt hx) (by decide) (by omega) rfl ?_ ?_
  ·rw [wU16 (by omega) (by omega),wU64 (by omega) (by omega),Nat.mul_comm]
   exact shlI_nat .u64 n 32 (by decide) (by simp only [IntKind.bits];omega)
  ·obtain ⟨h1,h2,h3,h4⟩:=hx
   have hy:x.s+256*x.b<2^16:=by omega
   have e1:x.n=2^(32+16)*(x.s+256*x.b)+(2^32*x.p+x.c):=by unfold Nd.n;omega
   have c1:=field_clear (k:=32) (m:=16) (r:=16) (a:=x.c) (x:=x.p) (y:=x.s+256*x.b) h1 h2 hy
   have c2:=field_set (k:=32) (m:=16) (a:=x.c) (x:=n) (y:=x.s+256*x.b) h1 (by omega)
   rw [e1,show (18446462603027808255:Nat)=2^(32+16)*(2^16-1)+(2^32-1) from rfl,c1,c2]
   unfold Nd.n
   simp only
   omega
 rw [e]
 refine st_u B (by rw [hF];rfl) rfl hk
theorem c126 {K:Unit→PT} {n:Nat} (B:Blk w g F) (hF:F o=some x.v) (hx:x.ok) (hn:n<2^8) (hk:∀w',Blk w' g (updC F o ({ x with b:=n } : Nd).v)→Fm w w' [g]→K () w'):callP Tryd.prog 126 #[.pointer (some ⟨g,o,none⟩),.int .u8 (n:Nat)] [] K w:=by
 apply q126_ok
 unfold q126
 refine ld_b (t := .I .u64) (x:=((x.n:Nat):Int)) B hF ⟨by decide,?_⟩
 have e:orI .u64 (andI .u64 ((x.n:Nat):Int) 72057594037927935) (shlI .u64 (IntKind.wrap .u64 ((n:Nat):Int)) 56)=((({ x with b:=n } : Nd).n:Nat):Int):=by
  refine setf (M:=72057594037927935) (X:=2^56*n) (x.lt hx) (by decide) (by omega) rfl ?_ ?_
  ·rw [wU64 (by omega) (by omega),Nat.mul_comm]
   have:=shlI_u (k := .u64) rfl n 56 (by decide)
   rw [Nat.mod_eq_of_lt (by simp only [IntKind.bits];omega)] at this
   exact this
  ·obtain ⟨h1,h2,h3,h4⟩:=hx
   have ha:x.c+4294967296*x.p+281474976710656*x.s<2^56:=by omega
   have e1:x.n=2^(56+8)*0+(2^56*x.b+(x.c+4294967296*x.p+281474976710656*x.s)):=by unfold Nd.n;omega
   have c1:=field_clear (k:=56) (m:=8) (r:=0) (a:=x.c+4294967296*x.p+281474976710656*x.s) (x:=x.b) (y:=0) ha h4 (by decide)
   have c2:=field_set (k:=56) (m:=8) (a:=x.c+4294967296*x.p+281474976710656*x.s) (x:=n) (y:=0) ha hn
   rw [e1,show (72057594037927935:Nat)=2^(56+8)*(2^0-1)+(2^56-1) from rfl,c1,c2]
   unfold Nd.n
   simp only
   omega
 rw [e]
 refine st_u B (by rw [hF];rfl) rfl hk
theorem c154 {K:Int→PT} {c s:Nat} (hc:c<2^32) (hs:s<2^8) (hk:K ((⟨c,0,s,0⟩:Nd).n:Nat) w):callP Tryd.prog 154 #[.int .u32 (c:Nat),.int .u8 (s:Nat)] [.c (.I .u64)] K w:=by
 apply q154_ok
 unfold q154
 refine ⟨by decide,?_⟩
 have e:orI .u64 (IntKind.wrap .u64 ((c:Nat):Int)) (shlI .u64 (IntKind.wrap .u64 ((s:Nat):Int)) 48)=(((⟨c,0,s,0⟩:Nd).n:Nat):Int):=by
  rw [wU64 (by omega) (by omega),wU64 (by omega) (by omega)]
  have h1:shlI .u64 ((s:Nat):Int) 48=((s*2^48:Nat):Int):=shlI_nat .u64 s 48 (by decide) (by simp only [IntKind.bits];omega)
  rw [h1,orI_nat (k := .u64) rfl _ _ (by simp only [IntKind.bits];omega) (by simp only [IntKind.bits];omega)]
  have c2:=field_set (k:=48) (m:=8) (a:=c) (x:=s) (y:=0) (by omega) hs
  simp only [Nat.mul_zero,Nat.zero_add] at c2
  rw [Nat.mul_comm,c2]
  unfold Nd.n
  simp only
  omega
 rw [e]
 exact hk
end
theorem c64 {w:World} {n:Nat} {K:Int→PT} (h0:0<n) (h:n<4294967296) (hk:K (n.log2:Nat) w):callP Tryd.prog 64 #[.int .u32 n] [.c (.I .u32)] K w:=by
 apply q64_ok
 unfold q64
 refine c81 h ?_
 have hl:n.log2<32:=(Nat.log2_lt (by omega)).mpr (by omega)
 have e:lenOf n=n.log2+1:=by unfold lenOf;rw [if_neg (by omega)]
 rw [e,wI64 (by omega) (by omega),wU32 (by omega) (by omega)]
 rw [show (((n.log2+1:Nat):Int)-1)=((n.log2:Nat):Int) by omega]
 exact hk
def mB (n L:Nat):Nat:=min (n.log2+1) ((L-1).log2+2)
def otl (t n L:Nat):Nat:=min 11 (max 5 (max (if (n-1).log2≠0∧(n-1).log2-1<t then (n-1).log2-1 else t) (mB n L)))
theorem c153 {w:World} {b n L:Nat} {s:HU} {K:Int→PT} (HB:Blk w b s.at) (hn:s.srcLen=(n:Nat)) (hL:s.symL=(L:Nat)) (hn1:1≤n) (hn2:n<4294967296) (hL2:2≤L) (hL3:L≤256)
  (hk:∀m:Nat,1≤m→m≤9→(n<2^m∨L≤2^m)→m=mB n L→K (m:Nat) w):callP Tryd.prog 153 #[.pointer (some ⟨b,0,none⟩)] [.c (.I .u8)] K w:=by
 apply q153_ok
 unfold q153
 simp only [add_mk,Nat.zero_add]
 refine ld_b (t := .I .i64) (x:=((n:Nat):Int)) HB (by show some (Value.int .i64 s.srcLen)=_;rw [hn];rfl) ?_
 rw [wU32 (x:=((n:Nat):Int)) (by omega) (by omega)]
 refine c64 (by omega) hn2 ?_
 refine ld_b (t := .I .u16) (x:=((L:Nat):Int)) HB (by show some (Value.int .u16 s.symL)=_;rw [hL];rfl) ?_
 have e2:IntKind.u32.wrap (IntKind.u16.wrap (((L:Nat):Int)-1))=((L-1:Nat):Int):=by rw [wU16 (by omega) (by omega),wU32 (by omega) (by omega)];omega
 rw [e2]
 refine c64 (by omega) (by omega) ?_
 have l1:n.log2<32:=(Nat.log2_lt (by omega)).mpr (by omega)
 have l2:(L-1).log2<8:=(Nat.log2_lt (by omega)).mpr (by omega)
 have g1:n<2^(n.log2+1):=Nat.lt_log2_self
 have g2:L-1<2^((L-1).log2+1):=Nat.lt_log2_self
 rw [wU32 (x:=((n.log2:Nat):Int)+1) (by omega) (by omega),wU32 (x:=(((L-1).log2:Nat):Int)+2) (by omega) (by omega),wU8 (x:=((n.log2:Nat):Int)+1) (by omega) (by omega),wU8 (x:=(((L-1).log2:Nat):Int)+2) (by omega) (by omega)]
 refine cnd_d ?_ ?_
 ·intro hc
  have:=hk (n.log2+1) (by omega) (by omega) (.inl g1) (by unfold mB;omega)
  rw [Int.natCast_add] at this
  exact this
 ·intro hc
  have:=hk ((L-1).log2+2) (by omega) (by omega) (.inr (by rw [show (L-1).log2+2=(L-1).log2+1+1 by omega,Nat.pow_succ];omega)) (by unfold mB;omega)
  rw [Int.natCast_add] at this
  exact this
theorem c121 {w:World} {b n L t:Nat} {s:HU} {K:Unit→PT} (HB:Blk w b s.at) (hn:s.srcLen=(n:Nat)) (hL:s.symL=(L:Nat)) (htl:s.tl=(t:Nat)) (ht:t≤11) (hn1:2≤n) (hn2:n<4294967296) (hL2:2≤L) (hL3:L≤256)
  (hk:∀(w':World) (H:Nat),5≤H→H≤11→(n≤2^H∨L≤2^H)→H=otl t n L→Blk w' b ({ s with atl:=(H:Nat) } : HU).at→Fm w w' [b]→K () w') :
  callP Tryd.prog 121 #[.pointer (some ⟨b,0,none⟩)] [] K w:=by
 apply q121_ok
 unfold q121
 simp only [add_mk,Nat.zero_add]
 refine ld_b (t := .I .u8) (x:=((t:Nat):Int)) HB (by show some (Value.int .u8 s.tl)=_;rw [htl];rfl) ?_
 refine c153 HB hn hL (by omega) hn2 hL2 hL3 ?_
 intro m hm1 hm9 hm hmB
 refine ld_b (t := .I .i64) (x:=((n:Nat):Int)) HB (by show some (Value.int .i64 s.srcLen)=_;rw [hn];rfl) ?_
 have e1:IntKind.u32.wrap (IntKind.i64.wrap (((n:Nat):Int)-1))=((n-1:Nat):Int):=by rw [wI64 (by omega) (by omega),wU32 (by omega) (by omega)];omega
 rw [e1]
 refine c64 (by omega) (by omega) ?_
 have l1:(n-1).log2<32:=(Nat.log2_lt (by omega)).mpr (by omega)
 have last:∀x:Nat,otl t n L=min 11 (max 5 (max x m))→q121_J3 ⟨b,0,none⟩ K (m:Nat) (x:Nat) w:=by
  intro x hR
  have fin:∀H:Nat,5≤H→H≤11→m≤H→H=otl t n L→q121_J0 ⟨b,0,none⟩ K (H:Nat) w:=by
   intro H h1 h2 h3 h4
   have hp:2^m≤2^H:=Nat.pow_le_pow_right (by omega) h3
   unfold q121_J0
   simp only [add_mk,Nat.zero_add]
   refine st_u HB rfl rfl ?_
   intro w' HB' F'
   exact hk w' H h1 h2 (by omega) h4 (HB'.congr (HU.setT 12 rfl rfl rfl (by decide))) F'
  have s1:∀y:Nat,5≤y→m≤y→otl t n L=min 11 y→q121_J1 ⟨b,0,none⟩ K (y:Nat) w:=by
   intro y h1 h2 h3
   unfold q121_J1
   refine joinP_id (cnd_d (fun h => ?_) (fun h => ?_))
   ·exact fin 11 (by omega) (by omega) (by omega) (by omega)
   ·exact fin y h1 (by omega) h2 (by omega)
  have s2:∀y:Nat,m≤y→otl t n L=min 11 (max 5 y)→q121_J2 ⟨b,0,none⟩ K (y:Nat) w:=by
   intro y h2 h3
   unfold q121_J2
   refine joinP_id (cnd_d (fun h => ?_) (fun h => ?_))
   ·exact s1 5 (by omega) (by omega) (by omega)
   ·exact s1 y (by omega) h2 (by omega)
  unfold q121_J3
  refine joinP_id (cnd_d (fun h => ?_) (fun h => ?_))
  ·exact s2 m (by omega) (by omega)
  ·exact s2 x (by omega) (by omega)
 rw [wU8 (x:=(((n-1).log2:Nat):Int)) (by omega) (by omega)]
 refine joinP_id (cnd_d ?_ ?_)
 ·intro hc
  by_cases h:(n-1).log2=0
  ·rw [h] at hc
   have:IntKind.u8.wrap (((0:Nat):Int)-1)=255:=rfl
   rw [this] at hc
   omega
  ·rw [wU8 (by omega) (by omega)] at hc
   rw [wU8 (by omega) (by omega),show (((n-1).log2:Nat):Int)-1=(((n-1).log2-1:Nat):Int) by omega]
   refine last _ ?_
   unfold otl
   rw [if_pos ⟨h,by omega⟩,hmB]
 ·intro hc
  refine last t ?_
  unfold otl
  rw [if_neg,hmB]
  rintro ⟨h1,h2⟩
  rw [wU8 (by omega) (by omega)] at hc
  omega
def bk (cnt:Nat→Nat) (i:Nat):Nat:=(cnt i+1).log2
def eqN (cnt:Nat→Nat) (n h:Nat):Nat:=(List.range n).countP fun i=>decide (bk cnt i=h)
def abN (cnt:Nat→Nat) (n h:Nat):Nat:=(List.range n).countP fun i=>decide (h≤bk cnt i)
theorem abN_split (cnt:Nat→Nat) (n h:Nat):abN cnt n h=eqN cnt n h+abN cnt n (h+1):=by
 unfold abN eqN
 induction n with
 | zero=>rfl
 | succ n ih =>
  rw [List.range_succ,List.countP_append,List.countP_append,List.countP_append,ih,List.countP_singleton,List.countP_singleton,List.countP_singleton]
  simp only [decide_eq_true_eq]
  split<;>split<;>split<;>omega
theorem abN_anti (cnt:Nat→Nat) (n:Nat) {a b:Nat} (h:a≤b):abN cnt n b≤abN cnt n a:=by
 induction b with
 | zero=>have:a=0:=(by omega);subst this;exact Nat.le_refl _
 | succ b ih =>
  by_cases e:a=b+1
  ·subst e;exact Nat.le_refl _
  ·have:=ih (by omega)
   have:=abN_split cnt n b
   omega
theorem abN_le (cnt:Nat→Nat) (n h:Nat):abN cnt n h≤n:=by
 unfold abN
 exact Nat.le_trans List.countP_le_length (by simp)
theorem eqN_succ (cnt:Nat→Nat) (n h:Nat):eqN cnt (n+1) h=eqN cnt n h+if bk cnt n=h then 1 else 0:=by
 unfold eqN
 rw [List.range_succ,List.countP_append,List.countP_singleton]
 simp
theorem eqN_mono (cnt:Nat→Nat) (h:Nat) {m n:Nat} (hm:m≤n):eqN cnt m h≤eqN cnt n h:=by
 induction n with
 | zero=>have:m=0:=(by omega);subst this;exact Nat.le_refl _
 | succ n ih =>
  by_cases e:m=n+1
  ·subst e;exact Nat.le_refl _
  ·have:=ih (by omega)
   rw [eqN_succ];omega
theorem bk_lt {cnt:Nat→Nat} {a b:Nat} (h:bk cnt a<bk cnt b):cnt a<cnt b:=by
 unfold bk at h
 by_cases h1:cnt a<cnt b
 ·exact h1
 ·exfalso
  have h2:2^(cnt b+1).log2≤cnt b+1:=Nat.log2_self_le (by omega)
  have:=(Nat.le_log2 (n:=cnt a+1) (by omega)).mpr (show 2^(cnt b+1).log2≤cnt a+1 by omega)
  omega
structure Bks (cnt:Nat→Nat) (n:Nat) (l:Nat→List Nat):Prop where
 perm:∀h,(l h).Perm ((List.range n).filter fun i=>decide (bk cnt i=h))
 sort:∀h,(l h).Pairwise fun a b=>cnt b<cnt a∨(cnt b=cnt a∧a<b)
theorem Bks.len {cnt:Nat→Nat} {n:Nat} {l:Nat→List Nat} (B:Bks cnt n l) (h:Nat):(l h).length=eqN cnt n h:=by
 rw [(B.perm h).length_eq]
 unfold eqN
 rw [List.countP_eq_length_filter]
theorem Bks.mem {cnt:Nat→Nat} {n h a:Nat} {l:Nat→List Nat} (B:Bks cnt n l):a∈l h↔a<n∧bk cnt a=h:=by
 rw [(B.perm h).mem_iff,List.mem_filter,List.mem_range,decide_eq_true_eq]
theorem Bks.zero (cnt:Nat→Nat):Bks cnt 0 (fun _ => []):=⟨fun h=>by simp,fun h=>List.Pairwise.nil⟩
theorem Bks.ins {cnt:Nat→Nat} {n j:Nat} {l:Nat→List Nat} (B:Bks cnt n l) (hj:j≤(l (bk cnt n)).length) (h1:∀h:0<j,cnt n≤cnt ((l (bk cnt n))[j-1]'(by omega))) (h2:∀i (h:i<(l (bk cnt n)).length),j≤i→cnt (l (bk cnt n))[i]<cnt n) :
  Bks cnt (n+1) (fun h=>if h=bk cnt n then (l h).take j++n::(l h).drop j else l h):=by
 refine ⟨?_,?_⟩
 ·intro h
  rw [List.range_succ,List.filter_append]
  by_cases e:h=bk cnt n
  ·subst e
   rw [if_pos rfl]
   have e2 : [n].filter (fun i=>decide (bk cnt i=bk cnt n)) = [n]:=by simp
   rw [e2]
   refine List.perm_middle.trans ?_
   rw [List.take_append_drop]
   exact ((B.perm _).cons n).trans (List.perm_append_singleton _ _).symm
  ·have e2 : [n].filter (fun i=>decide (bk cnt i=h)) = []:=by simp;omega
   rw [if_neg e,e2,List.append_nil]
   exact B.perm h
 ·intro h
  by_cases e:h=bk cnt n
  ·subst e
   rw [if_pos rfl]
   have hs:=B.sort (bk cnt n)
   have hs2:=hs
   rw [←List.take_append_drop j (l (bk cnt n)),List.pairwise_append] at hs2
   obtain ⟨p1,p2,p3⟩:=hs2
   have tn:∀a∈l (bk cnt n),a<n:=fun a ha=>(B.mem.mp ha).1
   have t1:∀a∈(l (bk cnt n)).take j,cnt n≤cnt a:=by
    intro a ha
    obtain ⟨i,hi,rfl⟩:=List.mem_iff_getElem.mp ha
    rw [List.length_take] at hi
    rw [List.getElem_take]
    have h3:=h1 (by omega)
    by_cases e:i=j-1
    ·subst e;exact h3
    ·have:=List.pairwise_iff_getElem.mp hs i (j-1) (by omega) (by omega) (by omega)
     omega
   have t2:∀a∈(l (bk cnt n)).drop j,cnt a<cnt n:=by
    intro a ha
    obtain ⟨i,hi,rfl⟩:=List.mem_iff_getElem.mp ha
    rw [List.length_drop] at hi
    rw [List.getElem_drop]
    exact h2 _ (by omega) (by omega)
   rw [List.pairwise_append,List.pairwise_cons]
   refine ⟨p1,⟨fun a ha => .inl (t2 a ha),p2⟩,?_⟩
   intro a ha b hb
   rcases List.mem_cons.mp hb with rfl|hb
   ·have h8:=t1 a ha
    have h9:=tn a (List.mem_of_mem_take ha)
    omega
   ·exact p3 a ha b hb
  ·rw [if_neg e]
   exact B.sort h
def catB (l:Nat→List Nat):Nat→List Nat
 | 0 => []
 | h+1=>l h++catB l h
theorem catB_mem {cnt:Nat→Nat} {n:Nat} {l:Nat→List Nat} (B:Bks cnt n l) {a:Nat} : ∀ {h:Nat},a∈catB l h↔a<n∧bk cnt a<h
 | 0=>by simp [catB]
 | h+1=>by rw [catB,List.mem_append,B.mem,catB_mem B];omega
theorem catB_len {cnt:Nat→Nat} {n:Nat} {l:Nat→List Nat} (B:Bks cnt n l):∀h,(catB l h).length+abN cnt n h=n
 | 0=>by
  unfold abN
  simp [catB]
 | h+1=>by
  have h1:=catB_len B h
  have h2:=abN_split cnt n h
  rw [catB,List.length_append,B.len];omega
theorem catB_sort {cnt:Nat→Nat} {n:Nat} {l:Nat→List Nat} (B:Bks cnt n l):∀h,(catB l h).Pairwise fun a b=>cnt b<cnt a∨(cnt b=cnt a∧a<b)
 | 0=>List.Pairwise.nil
 | h+1=>by
  rw [catB,List.pairwise_append]
  refine ⟨B.sort h,catB_sort B h,?_⟩
  intro a ha b hb
  have h1:=B.mem.mp ha
  have h2:=(catB_mem B).mp hb
  exact .inl (bk_lt (by omega))
theorem catB_nodup {cnt:Nat→Nat} {n:Nat} {l:Nat→List Nat} (B:Bks cnt n l):∀h,(catB l h).Nodup
 | 0=>List.nodup_nil
 | h+1=>by
  rw [catB,List.nodup_append]
  refine ⟨(B.perm h).nodup_iff.mpr (List.nodup_range.filter _),catB_nodup B h,?_⟩
  intro a ha b hb e
  have h1:=B.mem.mp ha
  have h2:=(catB_mem B).mp hb
  subst e;omega
structure Srt (cnt:Nat→Nat) (L:Nat) (σ:List Nat):Prop where
 len:σ.length=L
 mem:∀a,a∈σ↔a<L
 nd:σ.Nodup
 dec:σ.Pairwise fun a b=>cnt b<cnt a∨(cnt b=cnt a∧a<b)
theorem Bks.srt {cnt:Nat→Nat} {L:Nat} {l:Nat→List Nat} (B:Bks cnt L l) (hc:∀i,i<L→bk cnt i<19):Srt cnt L (catB l 19):=by
 have h0:abN cnt L 19=0:=by
  unfold abN
  rw [List.countP_eq_zero]
  intro a ha
  have:=hc a (List.mem_range.mp ha)
  simp;omega
 refine ⟨by have:=catB_len B 19;omega,?_,catB_nodup B 19,catB_sort B 19⟩
 intro a
 rw [catB_mem B]
 constructor
 ·intro h;exact h.1
 ·intro h;exact ⟨h,hc a h⟩
theorem and31 {n:Nat} (h:n<32):andI .u32 (n:Int) 31=(n:Int):=by
 have:=andI_nat (k := .u32) rfl n (2^5-1) (by simp only [IntKind.bits];omega) (by decide)
 rw [Nat.and_two_pow_sub_one_eq_mod,Nat.mod_eq_of_lt (by omega)] at this
 exact this
theorem and511 {n:Nat} (h:n<4294967296):andI .u32 (n:Int) 511=((n%512:Nat):Int):=by
 have:=andI_nat (k := .u32) rfl n (2^9-1) (by simp only [IntKind.bits];omega) (by decide)
 rw [Nat.and_two_pow_sub_one_eq_mod] at this
 exact this
def oneC (v:Value):Cells:=fun i=>match i with
 | 0=>some v
 | _=>none
theorem oneC_upd (v u:Value):updC (oneC v) 0 u=oneC u:=by funext i;rcases i with _|i<;>simp [updC,oneC]
theorem nw_1 {w:World} {κ:Addr→PT} (hk:∀w',Fm w w' []→w'.heap.size=w.heap.size+1→Blk w' w.heap.size (oneC (.int .u64 0))→κ ⟨w.heap.size,0,none⟩ w'):nw z196 196 κ w :=
 hk _ (Fm.refl w []).alloc (World.size_alloc _ _) (Blk.new.congr (by funext i;rcases i with _|i<;>simp [oneC,z196]))
theorem nw_rk {w:World} {κ:Addr→PT} (hk:∀w',Fm w w' []→w'.heap.size=w.heap.size+1→Blk w' w.heap.size (arrC .u32 64 fun _=>0)→κ ⟨w.heap.size,0,none⟩ w'):nw z229 229 κ w:=by
 refine hk _ (Fm.refl w []).alloc (World.size_alloc _ _) (Blk.new.congr ?_)
 funext i
 unfold z229 arrC
 rw [List.getElem?_toArray,List.getElem?_replicate]
def Nds (F:Cells):Prop:=∀i,i<513→∃x:Nd,x.ok∧F i=some x.v
theorem Nds.upd {F:Cells} {o:Nat} {x:Nd} (h:Nds F) (hx:x.ok):Nds (updC F o x.v):=by
 intro i hi
 unfold updC
 split
 ·exact ⟨x,hx,rfl⟩
 ·exact h i hi
def sn (cnt:Nat→Nat) (i:Nat):Nd:=⟨cnt i,0,i,0⟩
def prevI (pos:Nat):Nat:=if pos=0 then 511 else pos-1
theorem prevI_and {pos:Nat} (h:pos<400):andI .u32 (IntKind.u32.wrap ((pos:Int)-1)) 511=((prevI pos:Nat):Int):=by
 unfold prevI
 split
 ·subst_vars;rfl
 ·rw [wU32 (by omega) (by omega),show (pos:Int)-1=((pos-1:Nat):Int) by omega,and511 (by omega),Nat.mod_eq_of_lt (by omega)]
section
variable {w:World} {b nb cap L:Nat} {s:HU} {cnt:Nat→Nat} {Fn:Cells}
structure SC (s:HU) (cnt:Nat→Nat) (L:Nat):Prop where
 sym:s.symL=(L:Nat)
 l1:1≤L
 l256:L≤256
 cn:∀i,i<L→s.count i=(cnt i:Nat)
 lt:∀i,i<L→cnt i<2^18
theorem SC.symAt (C:SC s cnt L):s.at 265=some (.int .u16 (L:Nat)):=by show some (Value.int .u16 s.symL)=_;rw [C.sym]
theorem SC.cntAt (C:SC s cnt L) {i:Nat} (hi:i<L):s.at i=some (.int .u32 (cnt i:Nat)):=by
 have:=C.l256
 rw [HU.count_at s (by omega),C.cn i hi]
theorem SC.bk (C:SC s cnt L) {i:Nat} (hi:i<L):bk cnt i<19:=by
 have:=C.lt i hi
 unfold Go.Sx.bk
 exact (Nat.log2_lt (by omega)).mpr (by omega)
theorem SC.ab19 (C:SC s cnt L):abN cnt L 19=0:=by
 unfold abN
 rw [List.countP_eq_zero]
 intro a ha
 have:=C.bk (List.mem_range.mp ha)
 simp;omega
def Bcells (cnt:Nat→Nat) (L:Nat) (l:Nat→List Nat) (F:Cells):Prop:=∀h,h<19→∀j (hj:j<(l h).length),F (1+(abN cnt L (h+1)+j))=some (sn cnt (l h)[j]).v
theorem sort_one {n rb:Nat} {f:Nat→Int} {l:Nat→List Nat} {κ:Unit→PT} (C:SC s cnt L) (HB:Blk w b s.at) (HN:Blk w nb Fn) (hS:Som cap Fn) (hcap:513≤cap) (hF:Nds Fn) (HR:Blk w rb (arrC .u32 64 f)) (hn:n<L)
  (hb:Bks cnt n l) (hcell:Bcells cnt L l Fn) (f0:∀r,r≤19→f (r*2)=(abN cnt L r:Nat)) (f1:∀h,h<19→f ((h+1)*2+1)=((abN cnt L (h+1)+eqN cnt n h:Nat):Int)) (dbn:b≠nb) (dbr:b≠rb) (dnr:nb≠rb)
  (hk:∀w' l' (f':Nat→Int) F',Bks cnt (n+1) l'→Bcells cnt L l' F'→Nds F'→Som cap F'→(∀r,r≤19→f' (r*2)=(abN cnt L r:Nat))→(∀h,h<19→f' ((h+1)*2+1)=((abN cnt L (h+1)+eqN cnt (n+1) h:Nat):Int))→Blk w' nb F'→Blk w' rb (arrC .u32 64 f')→Fm w w' [nb,rb]→κ () w') :
  joinP (q122_X6 ⟨some ⟨nb,1,none⟩,512,cap-1⟩ ⟨rb,0,none⟩ ⟨some ⟨b,0,none⟩,L,256⟩ (n:Int)) κ w:=by
 have hL:=C.l256
 have hc18:=C.lt n hn
 have hbk:=C.bk hn
 refine joinP_id ?_
 unfold q122_X6
 refine ixS_o rfl hn ?_
 rw [Nat.zero_add]
 refine ld_b (t := .I .u32) (x:=((cnt n:Nat):Int)) HB (C.cntAt hn) ?_
 rw [wU32 (x:=((cnt n:Nat):Int)+1) (by omega) (by omega),show ((cnt n:Nat):Int)+1=((cnt n+1:Nat):Int) by omega]
 refine c64 (by omega) (by omega) ?_
 have hlog:(cnt n+1).log2=bk cnt n:=rfl
 rw [hlog]
 have er:andI .u32 (IntKind.u32.wrap (((bk cnt n:Nat):Int)+1)) 31=((bk cnt n+1:Nat):Int):=by
  rw [wU32 (by omega) (by omega),show ((bk cnt n:Nat):Int)+1=((bk cnt n+1:Nat):Int) by omega,and31 (by omega)]
 rw [er]
 have hcur:=f1 _ hbk
 have hbase:=f0 (bk cnt n+1) (by omega)
 have hlen:=hb.len (bk cnt n)
 have hpos:abN cnt L (bk cnt n+1)+eqN cnt n (bk cnt n)<L:=by
  have h1:=abN_split cnt L (bk cnt n)
  have h2:=eqN_mono cnt (bk cnt n) (show n+1≤L by omega)
  have h3:=eqN_succ cnt n (bk cnt n)
  rw [if_pos rfl] at h3
  have h4:=abN_le cnt L (bk cnt n)
  omega
 have hoth:∀h j,h<19→h≠bk cnt n→j<(l h).length→abN cnt L (h+1)+j<abN cnt L (bk cnt n+1)∨abN cnt L (bk cnt n+1)+eqN cnt n (bk cnt n)<abN cnt L (h+1)+j:=by
  intro h j hh hne hj
  rw [hb.len] at hj
  have e1:=eqN_mono cnt h (show n≤L by omega)
  have e2:=abN_split cnt L h
  have e3:=abN_split cnt L (bk cnt n)
  have e4:=eqN_mono cnt (bk cnt n) (show n+1≤L by omega)
  have e5:=eqN_succ cnt n (bk cnt n)
  rw [if_pos rfl] at e5
  rcases Nat.lt_or_gt_of_ne hne with h1|h1
  ·right
   have:=abN_anti cnt L (show h+1≤bk cnt n by omega)
   omega
  ·left
   have:=abN_anti cnt L (show bk cnt n+1≤h by omega)
   omega
 have heq:∀h,eqN cnt (n+1) h=eqN cnt n h+if bk cnt n=h then 1 else 0:=eqN_succ cnt n
 have hcl:=hcell _ hbk
 have hins:=fun j a b c=>hb.ins (j:=j) a b c
 have hsn:∀i,i<L→(sn cnt i).ok:=fun i hi=>⟨by show cnt i<2^32;have:=C.lt i hi;omega,by show 0<2^16;decide,by show i<2^8;omega,by show 0<2^8;decide⟩
 have hlm:∀a∈l (bk cnt n),a<L:=fun a ha=>by have:=hb.mem.mp ha;omega
 refine ixA_b (k:=bk cnt n+1) rfl (by omega) ?_
 simp only [add_mk,Nat.zero_add]
 refine ld_b (t := .I .u32) (x:=((abN cnt L (bk cnt n+1)+eqN cnt n (bk cnt n):Nat):Int)) HR (by rw [arrC_get (by omega),hcur];rfl) ?_
 refine ixA_b (k:=bk cnt n+1) rfl (by omega) ?_
 simp only [add_mk,Nat.zero_add]
 refine ld_b (t := .I .u32) (x:=((abN cnt L (bk cnt n+1)+eqN cnt n (bk cnt n):Nat):Int)) HR (by rw [arrC_get (by omega),hcur];rfl) ?_
 refine ixA_b (k:=bk cnt n+1) rfl (by omega) ?_
 simp only [add_mk,Nat.zero_add]
 refine st_u HR (by rw [arrC_get (by omega)];rfl) rfl ?_
 intro w1 HR1 F1
 rw [arrC_upd (by omega)] at HR1
 have HN1:=HN.fr F1 (nm1 dnr)
 generalize hB:abN cnt L (bk cnt n+1)=B at *
 generalize hK:eqN cnt n (bk cnt n)=k at *
 rw [wU32 (x:=((B+k:Nat):Int)+1) (by omega) (by omega)] at HR1
 rw [prevI_and (by omega)]
 have hp512:∀p,p<400→prevI p<512:=by intro p hp;unfold prevI;split<;>omega
 refine ixS_o rfl (hp512 _ (by omega)) ?_
 obtain ⟨x0,hx0,hx0c⟩:=hF (1+prevI (B+k)) (by have:=hp512 (B+k) (by omega);omega)
 refine ld_b (t := .I .u64) (x:=((x0.n:Nat):Int)) HN1 hx0c ?_
 refine nw_1 ?_
 intro w2 F2 hs2 B2
 have hnl:=HN1.lt
 have hrl:=HR1.lt
 have dpn:nb≠w1.heap.size:=by omega
 have dpr:rb≠w1.heap.size:=by omega
 have hpb:=F1.size
 generalize w1.heap.size=pb at *
 refine st_u B2 rfl rfl ?_
 intro w3 B3 F3
 rw [oneC_upd] at B3
 have HN3:=(HN1.fr F2 (by simp)).fr F3 (nm1 dpn)
 have HR3:=(HR1.fr F2 (by simp)).fr F3 (nm1 dpr)
 have F03:Fm w w3 [nb,rb,pb]:=((F1.mono (S' := [nb,rb,pb]) (by intro v hv;simp at hv;simp [hv])).trans F2 (by simp)).trans F3 (by intro v hv;simp at hv;simp [hv])
 refine ⟨fun x w'=>∃(j:Nat) (F':Cells),x=((B+j:Nat):Int)∧j≤k∧Blk w' nb F'∧Nds F'∧Som cap F'∧Blk w' rb (arrC .u32 64 (updF f ((bk cnt n+1)*2+1) (((B+k:Nat):Int)+1)))∧(∀q,q<1+B∨1+(B+k)<q→F' q=Fn q)∧(∀i (h:i<(l (bk cnt n)).length),i<j→F' (1+(B+i))=some (sn cnt (l (bk cnt n))[i]).v) ∧
   (∀i (h:i<(l (bk cnt n)).length),j≤i→F' (1+(B+(i+1)))=some (sn cnt (l (bk cnt n))[i]).v∧cnt (l (bk cnt n))[i]<cnt n)∧(∀h:0<j,∃h':j-1<(l (bk cnt n)).length,cnt n≤cnt (l (bk cnt n))[j-1])∧Fm w w' [nb,rb,pb],?_,?_⟩
 ·rintro x w4 ⟨j,F4,rfl,hj,HN4,hN4,hS4,HR4,hq4,hi4,hr4,hm4,Fr4⟩
  unfold q122_J4
  rw [wU8 (x:=(n:Int)) (by omega) (by omega)]
  refine c154 (by omega) (by omega) ?_
  rw [and511 (by omega),Nat.mod_eq_of_lt (by omega)]
  refine ixS_o rfl (by omega) ?_
  refine st_u HN4 (hS4 _ (by omega)) rfl ?_
  intro w5 HN5 F5
  have hj2:j≤(l (bk cnt n)).length:=by omega
  have hnb:Bks cnt (n+1) (fun h=>if h=bk cnt n then (l h).take j++n::(l h).drop j else l h):=hins j hj2 (fun h=>(hm4 h).choose_spec) (fun i h hji=>(hr4 i h hji).2)
  refine hk w5 _ _ _ hnb ?_ (hN4.upd (hsn n hn)) hS4.upd ?_ ?_ HN5 (HR4.fr F5 (nm1 dnr.symm)) ?_
  ·intro h hh i hi
   unfold updC
   by_cases e:h=bk cnt n
   ·subst e
    simp only [if_true] at hi ⊢
    rw [hB]
    rw [List.length_append,List.length_take,List.length_cons,List.length_drop,Nat.min_eq_left hj2] at hi
    by_cases e2:i<j
    ·rw [if_neg (by omega)]
     have:((l (bk cnt n)).take j++n::(l (bk cnt n)).drop j)[i]'(by rw [List.length_append,List.length_take,List.length_cons,List.length_drop,Nat.min_eq_left hj2];exact hi)=(l (bk cnt n))[i]'(by omega):=by
      rw [List.getElem_append_left (by rw [List.length_take];omega),List.getElem_take]
     rw [this]
     exact hi4 i (by omega) e2
    ·by_cases e3:i=j
     ·subst e3
      rw [if_pos rfl]
      have:((l (bk cnt n)).take i++n::(l (bk cnt n)).drop i)[i]'(by rw [List.length_append,List.length_take,List.length_cons,List.length_drop,Nat.min_eq_left hj2];exact hi)=n:=by
       rw [List.getElem_append_right (by rw [List.length_take];omega)]
       simp [Nat.min_eq_left hj2]
      rw [this]
     ·rw [if_neg (by omega)]
      have:((l (bk cnt n)).take j++n::(l (bk cnt n)).drop j)[i]'(by rw [List.length_append,List.length_take,List.length_cons,List.length_drop,Nat.min_eq_left hj2];exact hi)=(l (bk cnt n))[i-1]'(by omega):=by
       rw [List.getElem_append_right (by rw [List.length_take];omega)]
       simp only [List.length_take,Nat.min_eq_left hj2]
       rw [List.getElem_cons,dif_neg (by omega),List.getElem_drop]
       congr 1;omega
      rw [this]
      have:=(hr4 (i-1) (by omega) (by omega)).1
      rw [show i-1+1=i by omega] at this
      exact this
   ·simp only [if_neg e] at hi ⊢
    have ho:=hoth h i hh e hi
    rw [if_neg (by omega),hq4 _ (by omega)]
    exact hcell h hh i hi
  ·intro r hr
   unfold updF
   rw [if_neg (by omega)]
   exact f0 r hr
  ·intro h hh
   unfold updF
   rw [heq]
   by_cases e:h=bk cnt n
   ·subst e
    rw [if_pos rfl,if_pos rfl,hB,hK];omega
   ·rw [if_neg (by omega),if_neg (fun e2=>e e2.symm)]
    exact f1 h hh
  ·refine (Fr4.trans F5 (by intro v hv;simp at hv;simp [hv])).mono ?_
   intro v hv
   simp only [List.mem_cons,List.not_mem_nil,or_false] at hv
   rcases hv with rfl|rfl|rfl
   ·left;simp
   ·left;simp
   ·right
    exact hpb
 ·refine ⟨fun x w'=>∃(j:Nat) (F':Cells) (x':Nd),x=((B+j:Nat):Int)∧j≤k∧Blk w' nb F'∧Nds F'∧Som cap F'∧Blk w' rb (arrC .u32 64 (updF f ((bk cnt n+1)*2+1) (((B+k:Nat):Int)+1)))∧(∀q,q<1+B∨1+(B+k)<q→F' q=Fn q)∧(∀i (h:i<(l (bk cnt n)).length),i<j→F' (1+(B+i))=some (sn cnt (l (bk cnt n))[i]).v) ∧
   (∀i (h:i<(l (bk cnt n)).length),j≤i→F' (1+(B+(i+1)))=some (sn cnt (l (bk cnt n))[i]).v∧cnt (l (bk cnt n))[i]<cnt n)∧x'.ok∧F' (1+prevI (B+j))=some x'.v∧Blk w' pb (oneC x'.v)∧Fm w w' [nb,rb,pb],fun x _=>x.toNat,
   ⟨k,Fn,x0,rfl,Nat.le_refl _,HN3,hF,hS,HR3,fun q _=>rfl,fun i h _=>hcl i h,fun i h hji=>by omega,hx0,hx0c,B3,F03⟩,?_⟩
  rintro x w4 ⟨j,F4,x4,rfl,hj,HN4,hN4,hS4,HR4,hq4,hi4,hr4,hx4,hx4c,HP4,Fr4⟩
  unfold q122_L3
  rw [er]
  refine ixA_b (k:=bk cnt n+1) rfl (by omega) ?_
  simp only [add_mk,Nat.zero_add]
  refine ld_b (t := .I .u32) (x:=((B:Nat):Int)) HR4 (by rw [arrC_get (by omega)];unfold updF;rw [if_neg (by omega),hbase];rfl) ?_
  refine cnd_d ?_ ?_
  ·intro hc
   have hj0:0<j:=by omega
   have hj1:j-1<(l (bk cnt n)).length:=by omega
   have hpv:prevI (B+j)=B+(j-1):=by unfold prevI;rw [if_neg (by omega)];omega
   have hx4e:x4.v=(sn cnt (l (bk cnt n))[j-1]).v:=by
    have h1:=hi4 (j-1) hj1 (by omega)
    rw [hpv,h1] at hx4c
    injection hx4c with h2
    exact h2.symm
   have hso:=hsn _ (hlm _ (List.getElem_mem hj1))
   rw [hx4e] at HP4
   refine c123 HP4 rfl hso ?_
   refine cnd_d ?_ ?_
   ·intro hc2
    refine ld_b (t := .I .u64) (x:=(((sn cnt (l (bk cnt n))[j-1]).n:Nat):Int)) HP4 rfl ?_
    rw [and511 (by omega),Nat.mod_eq_of_lt (by omega)]
    refine ixS_o rfl (by omega) ?_
    refine st_u HN4 (hS4 _ (by omega)) rfl ?_
    intro w5 HN5 F5
    rw [wU32 (x:=((B+j:Nat):Int)-1) (by omega) (by omega),show ((B+j:Nat):Int)-1=((B+(j-1):Nat):Int) by omega,prevI_and (by omega)]
    refine ixS_o rfl (hp512 _ (by omega)) ?_
    have hNd5:Nds (updC F4 (1+(B+j)) (.int .u64 (((sn cnt (l (bk cnt n))[j-1]).n:Nat):Int))):=hN4.upd hso
    obtain ⟨x5,hx5,hx5c⟩:=hNd5 (1+prevI (B+(j-1))) (by have:=hp512 (B+(j-1)) (by omega);omega)
    refine ld_b (t := .I .u64) (x:=((x5.n:Nat):Int)) HN5 hx5c ?_
    refine st_u (HP4.fr F5 (nm1 dpn.symm)) rfl rfl ?_
    intro w6 HP6 F6
    rw [oneC_upd] at HP6
    refine ⟨⟨j-1,_,x5,rfl,by omega,HN5.fr F6 (nm1 dpn),hNd5,hS4.upd,(HR4.fr F5 (nm1 dnr.symm)).fr F6 (nm1 dpr),?_,?_,?_,hx5,hx5c,HP6,(Fr4.trans F5 (by intro v hv;simp at hv;simp [hv])).trans F6 (by intro v hv;simp at hv;simp [hv])⟩,by first|omega|(dsimp only;omega)⟩
    ·intro q hq
     unfold updC
     rw [if_neg (by omega)]
     exact hq4 q hq
    ·intro i h hi
     unfold updC
     rw [if_neg (by omega)]
     exact hi4 i h (by omega)
    ·intro i h hi
     unfold updC
     by_cases e:i=j-1
     ·subst e
      rw [if_pos (by omega)]
      refine ⟨rfl,?_⟩
      have:((cnt (l (bk cnt n))[j-1]:Nat):Int)<((cnt n:Nat):Int):=hc2
      omega
     ·rw [if_neg (by omega)]
      exact hr4 i h (by omega)
   ·intro hc2
    refine ⟨j,F4,rfl,hj,HN4,hN4,hS4,HR4,hq4,hi4,hr4,fun _=>⟨hj1,?_⟩,Fr4⟩
    have:¬((cnt (l (bk cnt n))[j-1]:Nat):Int)<((cnt n:Nat):Int):=hc2
    omega
  ·intro hc
   exact ⟨j,F4,rfl,hj,HN4,hN4,hS4,HR4,hq4,hi4,hr4,fun h=>by omega,Fr4⟩
end
section
variable {w:World} {b nb cap L:Nat} {s:HU} {cnt:Nat→Nat} {Fn:Cells}
theorem c122 {K:Unit→PT} {l0:Nat} (C:SC s cnt L) (HB:Blk w b s.at) (hnod:s.nodes=⟨some ⟨nb,0,none⟩,l0,cap⟩) (hcap:513≤cap) (HN:Blk w nb Fn) (hS:Som cap Fn) (hF:Nds Fn) (dbn:b≠nb)
  (hk:∀w' σ F',Srt cnt L σ→Nds F'→Som cap F'→(∀i (h:i<σ.length),F' (1+i)=some (sn cnt σ[i]).v)→Blk w' nb F'→Blk w' b ({ s with nodes:=⟨some ⟨nb,0,none⟩,513,cap⟩ } : HU).at→Fm w w' [b,nb]→K () w') :
  callP Tryd.prog 122 #[.pointer (some ⟨b,0,none⟩)] [] K w:=by
 apply q122_ok
 unfold q122
 have hL:=C.l256
 have hL1:=C.l1
 have hbl:=HB.lt
 have hnl:=HN.lt
 simp only [add_mk,Nat.zero_add]
 refine ld_b (t := .S) (x:=⟨some ⟨nb,0,none⟩,l0,cap⟩) HB (by show some s.nodes.val=_;rw [hnod];rfl) ?_
 refine slc_hi (m:=513) rfl hcap ?_
 refine st_u HB rfl rfl ?_
 intro w1 HB1 F1
 have HB1':=HB1.congr (HU.setT (s' := { s with nodes:=⟨some ⟨nb,0,none⟩,513,cap⟩ }) 17 rfl rfl rfl (by decide))
 have C1:SC ({ s with nodes:=⟨some ⟨nb,0,none⟩,513,cap⟩ } : HU) cnt L:=⟨C.sym,C.l1,C.l256,C.cn,C.lt⟩
 have HN1:=HN.fr F1 (nm1 dbn.symm)
 generalize ({ s with nodes:=⟨some ⟨nb,0,none⟩,513,cap⟩ } : HU)=s1 at *
 refine slc_lh (n:=1) (m:=513) rfl rfl (by omega) hcap ?_
 have e4:(⟨slA (some ⟨nb,0,none⟩) 1 cap 1,513-1,cap-1⟩:Sl)=⟨some ⟨nb,1,none⟩,512,cap-1⟩:=by
  unfold slA
  rw [if_neg (by omega)]
  simp [add_mk]
 simp only [e4]
 refine nw_rk ?_
 intro w2 F2 hs2 HR2
 have hb1:=HB1'.lt
 have hn1:=HN1.lt
 have dbr:b≠w1.heap.size:=by omega
 have dnr:nb≠w1.heap.size:=by omega
 have hrb:=F1.size
 generalize w1.heap.size=rb at *
 have HB2:=HB1'.fr F2 (by simp)
 have HN2:=HN1.fr F2 (by simp)
 have F02:Fm w w2 [b,nb,rb]:=(F1.mono (by intro v hv;simp at hv;simp [hv])).trans F2 (by simp)
 refine joinP_id ?_
 unfold drw
 refine ld_b (t := .I .u16) (x:=((L:Nat):Int)) HB2.drew C1.symAt ?_
 refine slcA_hi rfl hL (by omega) ?_
 refine ⟨fun x w'=>∃(i:Nat) (f:Nat→Int),x=(i:Int)∧i≤L∧(∀r,r<32→f (r*2)=(eqN cnt i r:Nat)∧f (r*2+1)=0)∧Blk w' rb (arrC .u32 64 f)∧Fm w2 w' [rb],fun x _=>L-x.toNat,
  ⟨0,_,rfl,Nat.zero_le _,fun r _=>⟨rfl,rfl⟩,HR2.drew,(Fm.refl _ _).drew⟩,?_⟩
 rintro x w3 ⟨i,f,rfl,hi,hf,HR3,Fr3⟩
 unfold q122_L0
 refine cnd_d ?_ ?_
 ·intro hc
  have hi2:i<L:=by simp only at hc;omega
  have HB3:=HB2.fr Fr3 (nm1 dbr)
  have hcl:=C1.lt i hi2
  refine ixS_o rfl hi2 ?_
  rw [Nat.zero_add]
  refine ld_b (t := .I .u32) (x:=((cnt i:Nat):Int)) HB3 (C1.cntAt hi2) ?_
  rw [wU32 (x:=((cnt i:Nat):Int)+1) (by omega) (by omega),show ((cnt i:Nat):Int)+1=((cnt i+1:Nat):Int) by omega]
  refine c64 (by omega) (by omega) ?_
  have hbk:=C1.bk hi2
  have hbk2:(cnt i+1).log2=bk cnt i:=rfl
  rw [hbk2,and31 (by omega)]
  refine ixA_b (k:=bk cnt i) rfl (by omega) ?_
  rw [Nat.zero_add]
  refine ld_b (t := .I .u32) (x:=((eqN cnt i (bk cnt i):Nat):Int)) HR3 (by rw [arrC_get (by omega),(hf _ (by omega)).1];rfl) ?_
  refine ixA_b (k:=bk cnt i) rfl (by omega) ?_
  rw [Nat.zero_add]
  refine st_u HR3 (by rw [arrC_get (by omega)];rfl) rfl ?_
  intro w4 HR4 F4
  rw [arrC_upd (by omega)] at HR4
  have hle:eqN cnt i (bk cnt i)≤i:=by unfold eqN;exact Nat.le_trans List.countP_le_length (by simp)
  rw [wU32 (x:=((eqN cnt i (bk cnt i):Nat):Int)+1) (by omega) (by omega)] at HR4
  rw [wI64 (x:=(i:Int)+1) (by omega) (by omega)]
  refine ⟨⟨i+1,_,by simp,by omega,?_,HR4,Fr3.trans F4 (fun x hx => .inl hx)⟩,by first|omega|(dsimp only;omega)|(simp only [];omega)⟩
  intro r hr
  unfold updF
  rw [eqN_succ]
  refine ⟨?_,?_⟩
  ·by_cases e:bk cnt i=r
   ·subst e;rw [if_pos rfl,if_pos rfl];omega
   ·rw [if_neg (by omega),if_neg e];exact (hf r hr).1
  ·rw [if_neg (by omega)];exact (hf r hr).2
 ·intro hc
  have hi2:i=L:=by simp only at hc;omega
  subst hi2
  have h19:=C1.ab19
  have h20:eqN cnt i 19=0∧abN cnt i 20=0:=by have h:abN cnt i 19=eqN cnt i 19+abN cnt i 20:=abN_split cnt i 19;omega
  unfold q122_J10
  refine joinP_id ?_
  refine ⟨fun x w'=>∃(y:Nat) (f:Nat→Int),x=(y:Int)∧y≤19∧(∀r,r≤19→f (r*2)=((if y≤r then abN cnt i r else eqN cnt i r:Nat):Int))∧(∀r,r<32→f (r*2+1)=0)∧Blk w' rb (arrC .u32 64 f)∧Fm w2 w' [rb],fun x _=>x.toNat,
   ⟨19,f,rfl,Nat.le_refl _,?_,fun r hr=>(hf r hr).2,HR3,Fr3⟩,?_⟩
  ·intro r hr
   rw [(hf r (by omega)).1]
   split
   ·have:r=19:=by omega
    subst this;omega
   ·rfl
  rintro x w4 ⟨y,f4,rfl,hy,hb4,hc4,HR4,Fr4⟩
  unfold q122_L1
  refine cnd_d ?_ ?_
  ·intro hc2
   unfold drw
   have e1:IntKind.i64.wrap ((y:Int)-1)=((y-1:Nat):Int):=by rw [wI64 (by omega) (by omega)];omega
   rw [e1]
   have hsp:=abN_split cnt i (y-1)
   rw [show y-1+1=y by omega] at hsp
   have hle:=abN_le cnt i (y-1)
   have v1:=hb4 (y-1) (by omega)
   have v2:=hb4 y (by omega)
   rw [if_neg (by omega)] at v1
   rw [if_pos (by omega)] at v2
   refine ixA_b (k:=y-1) rfl (by omega) ?_
   rw [Nat.zero_add]
   refine ld_b (t := .I .u32) (x:=((eqN cnt i (y-1):Nat):Int)) HR4.drew (by rw [arrC_get (by omega),v1];rfl) ?_
   refine ixA_b (k:=y) rfl (by omega) ?_
   rw [Nat.zero_add]
   refine ld_b (t := .I .u32) (x:=((abN cnt i y:Nat):Int)) HR4.drew (by rw [arrC_get (by omega),v2];rfl) ?_
   refine ixA_b (k:=y-1) rfl (by omega) ?_
   rw [Nat.zero_add]
   refine st_u HR4.drew (by rw [arrC_get (by omega)];rfl) rfl ?_
   intro w5 HR5 F5
   rw [arrC_upd (by omega),wU32 (by omega) (by omega)] at HR5
   refine ⟨⟨y-1,_,rfl,by omega,?_,?_,HR5,Fr4.drew.trans F5 (fun x hx => .inl hx)⟩,by first|omega|(dsimp only;omega)|(simp only [];omega)⟩
   ·intro r hr
    unfold updF
    by_cases e:r=y-1
    ·subst e;rw [if_pos rfl,if_pos (Nat.le_refl _)];omega
    ·rw [if_neg (by omega),hb4 r hr]
     by_cases e2:y≤r
     ·rw [if_pos e2,if_pos (by omega)]
     ·rw [if_neg e2,if_neg (by omega)]
   ·intro r hr
    unfold updF
    rw [if_neg (by omega)]
    exact hc4 r hr
  ·intro hc2
   have hy0:y=0:=by omega
   subst hy0
   simp only [Nat.zero_le,if_true] at hb4
   unfold q122_J9
   refine joinP_id ?_
   refine ⟨0,19,32,rfl,⟨rfl,by omega⟩,rfl,?_⟩
   refine ⟨fun x w'=>∃(y:Nat) (f:Nat→Int),x=(y:Int)∧y≤19∧(∀r,r≤19→f (r*2)=(abN cnt i r:Nat))∧(∀r,r<32→f (r*2+1)=((if r<y then abN cnt i r else 0:Nat):Int))∧Blk w' rb (arrC .u32 64 f)∧Fm w2 w' [rb],fun x _=>19-x.toNat,
    ⟨0,f4,rfl,Nat.zero_le _,hb4,fun r hr=>by rw [hc4 r hr];rfl,HR4,Fr4⟩,?_⟩
   rintro x w5 ⟨y,f5,rfl,hy,hb5,hc5,HR5,Fr5⟩
   unfold q122_L2
   refine cnd_d ?_ ?_
   ·intro hc3
    have hy2:y<19:=by simp only at hc3;omega
    refine ixA_b (k:=y) rfl (by omega) ?_
    rw [Nat.zero_add]
    refine ld_b (t := .I .u32) (x:=((abN cnt i y:Nat):Int)) HR5 (by rw [arrC_get (by omega),hb5 y hy];rfl) ?_
    refine ixA_b (k:=y) rfl (by omega) ?_
    simp only [add_mk,Nat.zero_add]
    refine st_u HR5 (by rw [arrC_get (by omega)];rfl) rfl ?_
    intro w6 HR6 F6
    rw [arrC_upd (by omega)] at HR6
    rw [wI64 (x:=(y:Int)+1) (by omega) (by omega)]
    refine ⟨⟨y+1,_,by simp,by omega,?_,?_,HR6,Fr5.trans F6 (fun x hx => .inl hx)⟩,by first|omega|(dsimp only;omega)⟩
    ·intro r hr
     unfold updF
     rw [if_neg (by omega)]
     exact hb5 r hr
    ·intro r hr
     unfold updF
     by_cases e:r=y
     ·subst e;rw [if_pos rfl,if_pos (by omega)]
     ·rw [if_neg (by omega),hc5 r hr]
      by_cases e2:r<y
      ·rw [if_pos e2,if_pos (by omega)]
      ·rw [if_neg e2,if_neg (by omega)]
   ·intro hc3
    have hy2:y=19:=by simp only at hc3;omega
    subst hy2
    have HB5:=HB2.fr Fr5 (nm1 dbr)
    have HN5:=HN2.fr Fr5 (nm1 dnr)
    have F05:Fm w w5 [b,nb,rb]:=F02.trans Fr5 (by intro v hv;simp at hv;simp [hv])
    unfold q122_J8 drw
    simp only [add_mk,Nat.zero_add]
    refine ld_b (t := .I .u16) (x:=((i:Nat):Int)) HB5.drew C1.symAt ?_
    refine slcA_hi rfl hL (by omega) ?_
    refine ⟨fun x w'=>∃(n:Nat) (l:Nat→List Nat) (f:Nat→Int) (F':Cells),x=(n:Int)∧n≤i∧Bks cnt n l∧Bcells cnt i l F'∧Nds F'∧Som cap F'∧(∀r,r≤19→f (r*2)=(abN cnt i r:Nat))∧(∀h,h<19→f ((h+1)*2+1)=((abN cnt i (h+1)+eqN cnt n h:Nat):Int))∧Blk w' nb F'∧Blk w' rb (arrC .u32 64 f)∧Fm w w' [b,nb,rb]∧Fm w5 w' [nb,rb],fun x _=>i-x.toNat,
     ⟨0,fun _ => [],f5,Fn,rfl,Nat.zero_le _,Bks.zero cnt,(fun h _ j hj=>absurd hj (Nat.not_lt_zero _)),hF,hS,hb5,?_,HN5.drew,HR5.drew,F05.drew,(Fm.refl _ _).drew⟩,?_⟩
    ·intro h hh
     have e0:eqN cnt 0 h=0:=rfl
     rw [hc5 (h+1) (by omega),e0]
     by_cases e:h+1<19
     ·rw [if_pos e];rfl
     ·rw [if_neg e,show h+1=19 by omega,h19]
    rintro x w6 ⟨n,l,f6,F6,rfl,hn,hbk,hcell,hN6,hS6,g0,g1,HN6,HR6,Fr6,Fr56⟩
    unfold q122_L7
    refine cnd_d ?_ ?_
    ·intro hc4
     have hn2:n<i:=by simp only at hc4;omega
     refine sort_one C1 (HB5.fr Fr56 (by simp;exact ⟨dbn,dbr⟩)) HN6 hS6 hcap hN6 HR6 hn2 hbk hcell g0 g1 dbn dbr dnr ?_
     intro w7 l7 f7 F7 hbk7 hcell7 hN7 hS7 g07 g17 HN7 HR7 Fr7
     unfold q122_J5
     rw [wI64 (x:=(n:Int)+1) (by omega) (by omega)]
     refine ⟨⟨n+1,l7,f7,F7,by simp,by omega,hbk7,hcell7,hN7,hS7,g07,g17,HN7,HR7,Fr6.trans Fr7 ?_,Fr56.trans Fr7 (fun x hx => .inl hx)⟩,by first|omega|(dsimp only;omega)|(simp only [];omega)⟩
     intro v hv;simp only [List.mem_cons,List.not_mem_nil,or_false] at hv;left;rcases hv with rfl|rfl<;>simp
    ·intro hc4
     have hn2:n=i:=by simp only at hc4;omega
     subst hn2
     have hsrt:=hbk.srt (fun j hj=>C1.bk hj)
     have hcat:∀h,h≤19→∀j (hj:j<(catB l h).length),F6 (1+(abN cnt n h+j))=some (sn cnt (catB l h)[j]).v:=by
      intro h
      induction h with
      | zero=>intro _ j hj;simp [catB] at hj
      | succ h ih =>
       intro hh j hj
       simp only [catB] at hj ⊢
       by_cases e:j<(l h).length
       ·rw [List.getElem_append_left e]
        exact hcell h (by omega) j e
       ·rw [List.getElem_append_right (by omega)]
        rw [List.length_append] at hj
        have h1:=ih (by omega) (j-(l h).length) (by omega)
        have h2:=abN_split cnt n h
        have h3:=hbk.len h
        rw [show abN cnt n h+(j-(l h).length)=abN cnt n (h+1)+j by omega] at h1
        exact h1
     refine hk w6 _ F6 hsrt hN6 hS6 ?_ HN6 (HB5.fr Fr56 (by simp;exact ⟨dbn,dbr⟩)) ?_
     ·intro j hj
      have:=hcat 19 (Nat.le_refl _) j hj
      rw [h19,Nat.zero_add] at this
      exact this
     ·refine Fr6.mono ?_
      intro v hv
      simp only [List.mem_cons,List.not_mem_nil,or_false] at hv
      rcases hv with rfl|rfl|rfl
      ·left;simp
      ·left;simp
      ·right;exact hrb
end
def sF (g:Nat→Nat) (a:Nat):Nat→Nat
 | 0=>0
 | n+1=>sF g a n+g (a+n)
theorem sF_congr {g h:Nat→Nat} {a:Nat} : ∀ {n:Nat},(∀i,a≤i→i<a+n→g i=h i)→sF g a n=sF h a n
 | 0,_=>rfl
 | n+1,e=>by rw [sF,sF,sF_congr (fun i h1 h2=>e i h1 (by omega)),e (a+n) (by omega) (by omega)]
theorem sF_front (g:Nat→Nat) (a:Nat):∀n,sF g a (n+1)=g a+sF g (a+1) n
 | 0=>by simp [sF]
 | n+1=>by
  rw [sF,sF_front g a n,sF]
  rw [show a+1+n=a+(n+1) by omega];omega
theorem sF_mem (g:Nat→Nat) (a:Nat):∀ {n i:Nat},a≤i→i<a+n→g i≤sF g a n
 | 0,i,h1,h2=>by omega
 | n+1,i,h1,h2=>by
  rw [sF]
  by_cases e:i=a+n
  ·subst e;omega
  ·have:=sF_mem g a (n:=n) h1 (by omega);omega
def updN (f:Nat→Nat) (o v:Nat):Nat→Nat:=fun i=>if i=o then v else f i
theorem updN_eq (f:Nat→Nat) (o v:Nat):updN f o v o=v:=if_pos rfl
theorem updN_ne {f:Nat→Nat} {o v i:Nat} (h:i≠o):updN f o v i=f i:=if_neg h
structure PK (N L tot:Nat) (c p:Nat→Nat) (P:List Nat) (k lo hi:Nat):Prop where
 n2:2≤N
 nl:N≤L
 ll:lo≤N
 h1:L≤hi
 h2:hi≤k
 len:P.length+lo=N+(hi-L)
 k2:2*(k-L)≤P.length
 k3:P.length≤2*(k-L)+2
 par:∀t (h:t<P.length),p P[t]=L+t/2
 srt:∀t t' (h:t≤t') (h':t'<P.length),c P[t]≤c P[t']
 low:∀x∈P,∀y,(y<lo∨(hi≤y∧y<k))→c x≤c y
 mkd:∀v,L≤v→v<k→∃(h:2*(v-L)+1<P.length),c v=c (P[2*(v-L)])+c (P[2*(v-L)+1])
 mem:∀x,x∈P↔(lo≤x∧x<N)∨(L≤x∧x<hi)
 late:∀t (h:t<P.length),L≤P[t]→2*(P[t]-L)+2≤t
 pla:∀i j,lo≤i→i≤j→j<N→p j≤p i
 pia:∀u v,L≤u→u≤v→v<hi→p u≤p v
 kr:∀g:Nat→Nat,sF (fun i=>g (p i)) lo (N-lo)+sF (fun v=>g (p v)) L (hi-L)=sF (fun t=>g (L+t/2)) 0 P.length
 lsrt:∀i j,i≤j→j<N→c j≤c i
 isrt:∀u v,L≤u→u≤v→v<k→c u≤c v
 tot_:sF c 0 lo+sF c hi (k-hi)+sF (fun t=>c (P.getD t 0)) (2*(k-L)) (P.length-2*(k-L))=tot
section
variable {N L tot:Nat} {c p:Nat→Nat} {P:List Nat} {k lo hi:Nat}
theorem PK.start (h2:2≤N) (hl:N≤L) (hs:∀i j,i≤j→j<N→c j≤c i):PK N L (sF c 0 N) c p [] L N L:=by
 refine ⟨h2,hl,Nat.le_refl _,Nat.le_refl _,Nat.le_refl _,by simp,by simp,by simp,?_,?_,?_,?_,?_,?_,?_,?_,?_,hs,?_,?_⟩
 ·intro t h;simp at h
 ·intro t t' _ h;simp at h
 ·intro x hx;simp at hx
 ·intro v h1 h2;omega
 ·intro x
  constructor
  ·intro h;simp at h
  ·rintro (⟨h1,h2⟩|⟨h1,h2⟩)<;>omega
 ·intro t h;simp at h
 ·intro i j h1 h2 h3;omega
 ·intro u v h1 h2 h3;omega
 ·intro g;simp [sF]
 ·intro u v h1 h2 h3;omega
 ·simp [sF]
theorem PK.pickL (H:PK N L tot c p P k lo hi) (hlo:0<lo) (hm:P.length≤2*(k-L)+1) (hmin:hi<k→c (lo-1)≤c hi) :
  PK N L tot c (updN p (lo-1) (L+P.length/2)) (P ++ [lo-1]) k (lo-1) hi:=by
 have hn2:=H.n2
 have hnl:=H.nl
 have hll:=H.ll
 have hh1:=H.h1
 have hh2:=H.h2
 have hlen:=H.len
 have hk2:=H.k2
 have hk3:=H.k3
 have hx:lo-1∉P:=by
  intro h
  rcases (H.mem _).mp h with ⟨h1,h2⟩|⟨h1,h2⟩<;>omega
 have hp:∀y∈P,updN p (lo-1) (L+P.length/2) y=p y:=fun y hy=>updN_ne (fun e=>hx (e▸hy))
 have hlast:∀y∈P,c y≤c (lo-1):=fun y hy=>H.low y hy _ (.inl (by omega))
 have hpar:∀y∈P,p y≤L+P.length/2:=by
  intro y hy
  obtain ⟨t,ht,rfl⟩:=List.mem_iff_getElem.mp hy
  rw [H.par t ht];omega
 have hpl:(P ++ [lo-1]).length=P.length+1:=by rw [List.length_append,List.length_singleton]
 refine ⟨hn2,hnl,by omega,hh1,hh2,by rw [hpl];omega,by rw [hpl];omega,by rw [hpl];omega,?_,?_,?_,?_,?_,?_,?_,?_,?_,H.lsrt,H.isrt,?_⟩
 ·intro t ht
  rw [hpl] at ht
  by_cases e:t<P.length
  ·rw [List.getElem_append_left e,hp _ (List.getElem_mem e)]
   exact H.par t e
  ·have:t=P.length:=by omega
   subst this
   rw [List.getElem_concat_length rfl,updN_eq]
 ·intro t t' htt ht'
  rw [hpl] at ht'
  by_cases e:t'<P.length
  ·rw [List.getElem_append_left e,List.getElem_append_left (by omega)]
   exact H.srt t t' htt e
  ·have:t'=P.length:=by omega
   subst this
   rw [List.getElem_concat_length rfl]
   by_cases e2:t<P.length
   ·rw [List.getElem_append_left e2]
    exact hlast _ (List.getElem_mem e2)
   ·have:t=P.length:=by omega
    subst this
    rw [List.getElem_concat_length rfl]
    exact Nat.le_refl _
 ·intro x hx2 y hy
  rcases List.mem_append.mp hx2 with h|h
  ·exact H.low x h y (by omega)
  ·have hx3:x=lo-1:=by simpa using h
   subst hx3
   rcases hy with h3|⟨h3,h4⟩
   ·exact H.lsrt y (lo-1) (by omega) (by omega)
   ·exact Nat.le_trans (hmin (by omega)) (H.isrt hi y hh1 h3 h4)
 ·intro v h3 h4
  obtain ⟨h5,h6⟩:=H.mkd v h3 h4
  refine ⟨by rw [hpl];omega,?_⟩
  rw [List.getElem_append_left (by omega),List.getElem_append_left (by omega)]
  exact h6
 ·intro x
  rw [List.mem_append,H.mem,List.mem_singleton]
  omega
 ·intro t ht hLt
  rw [hpl] at ht
  by_cases e:t<P.length
  ·rw [List.getElem_append_left e] at hLt ⊢
   exact H.late t e hLt
  ·have:t=P.length:=by omega
   subst this
   rw [List.getElem_concat_length rfl] at hLt
   omega
 ·intro i j h3 h4 h5
  by_cases e:j=lo-1
  ·have:i=lo-1:=by omega
   subst this;subst e;exact Nat.le_refl _
  ·rw [updN_ne (i:=j) e]
   by_cases e2:i=lo-1
   ·subst e2;rw [updN_eq]
    exact hpar j ((H.mem j).mpr (.inl (by omega)))
   ·rw [updN_ne e2]
    exact H.pla i j (by omega) h4 h5
 ·intro u v h3 h4 h5
  rw [updN_ne (by omega),updN_ne (by omega)]
  exact H.pia u v h3 h4 h5
 ·intro g
  rw [hpl,sF, ←H.kr g,show N-(lo-1)=N-lo+1 by omega,sF_front,updN_eq,show lo-1+1=lo by omega,Nat.zero_add]
  have e1:sF (fun i=>g (updN p (lo-1) (L+P.length/2) i)) lo (N-lo)=sF (fun i=>g (p i)) lo (N-lo):=sF_congr (fun i h3 h4=>by rw [updN_ne (by omega)])
  have e2:sF (fun i=>g (updN p (lo-1) (L+P.length/2) i)) L (hi-L)=sF (fun i=>g (p i)) L (hi-L):=sF_congr (fun i h3 h4=>by rw [updN_ne (by omega)])
  rw [e1,e2];omega
 ·rw [hpl,show P.length+1-2*(k-L)=P.length-2*(k-L)+1 by omega,sF]
  have e1:sF (fun t=>c ((P ++ [lo-1]).getD t 0)) (2*(k-L)) (P.length-2*(k-L))=sF (fun t=>c (P.getD t 0)) (2*(k-L)) (P.length-2*(k-L)):=by
   refine sF_congr (fun i h3 h4 => ?_)
   rw [List.getD_eq_getElem?_getD,List.getElem?_append_left (by omega), ←List.getD_eq_getElem?_getD]
  have e2:(P ++ [lo-1]).getD (2*(k-L)+(P.length-2*(k-L))) 0=lo-1:=by
   rw [show 2*(k-L)+(P.length-2*(k-L))=P.length by omega,List.getD_eq_getElem?_getD,List.getElem?_append_right (by omega)]
   simp
  rw [e1,e2, ←H.tot_]
  have e3:sF c 0 lo=sF c 0 (lo-1)+c (lo-1):=by
   conv=>lhs;rw [show lo=lo-1+1 by omega,sF]
   rw [Nat.zero_add]
  omega
theorem PK.pickI (H:PK N L tot c p P k lo hi) (hhi:hi<k) (hm:P.length≤2*(k-L)+1) (hmin:0<lo→c hi≤c (lo-1)) :
  PK N L tot c (updN p hi (L+P.length/2)) (P ++ [hi]) k lo (hi+1):=by
 have hn2:=H.n2
 have hnl:=H.nl
 have hll:=H.ll
 have hh1:=H.h1
 have hh2:=H.h2
 have hlen:=H.len
 have hk2:=H.k2
 have hk3:=H.k3
 have hx:hi∉P:=by
  intro h
  rcases (H.mem _).mp h with ⟨h1,h2⟩|⟨h1,h2⟩<;>omega
 have hp:∀y∈P,updN p hi (L+P.length/2) y=p y:=fun y hy=>updN_ne (fun e=>hx (e▸hy))
 have hlast:∀y∈P,c y≤c hi:=fun y hy=>H.low y hy _ (.inr (by omega))
 have hpar:∀y∈P,p y≤L+P.length/2:=by
  intro y hy
  obtain ⟨t,ht,rfl⟩:=List.mem_iff_getElem.mp hy
  rw [H.par t ht];omega
 have hpl:(P ++ [hi]).length=P.length+1:=by rw [List.length_append,List.length_singleton]
 refine ⟨hn2,hnl,hll,by omega,by omega,by rw [hpl];omega,by rw [hpl];omega,by rw [hpl];omega,?_,?_,?_,?_,?_,?_,?_,?_,?_,H.lsrt,H.isrt,?_⟩
 ·intro t ht
  rw [hpl] at ht
  by_cases e:t<P.length
  ·rw [List.getElem_append_left e,hp _ (List.getElem_mem e)]
   exact H.par t e
  ·have:t=P.length:=by omega
   subst this
   rw [List.getElem_concat_length rfl,updN_eq]
 ·intro t t' htt ht'
  rw [hpl] at ht'
  by_cases e:t'<P.length
  ·rw [List.getElem_append_left e,List.getElem_append_left (by omega)]
   exact H.srt t t' htt e
  ·have:t'=P.length:=by omega
   subst this
   rw [List.getElem_concat_length rfl]
   by_cases e2:t<P.length
   ·rw [List.getElem_append_left e2]
    exact hlast _ (List.getElem_mem e2)
   ·have:t=P.length:=by omega
    subst this
    rw [List.getElem_concat_length rfl]
    exact Nat.le_refl _
 ·intro x hx2 y hy
  rcases List.mem_append.mp hx2 with h|h
  ·exact H.low x h y (by omega)
  ·have hx3:x=hi:=by simpa using h
   subst hx3
   rcases hy with h3|⟨h3,h4⟩
   ·exact Nat.le_trans (hmin (by omega)) (H.lsrt y (lo-1) (by omega) (by omega))
   ·exact H.isrt x y hh1 (by omega) h4
 ·intro v h3 h4
  obtain ⟨h5,h6⟩:=H.mkd v h3 h4
  refine ⟨by rw [hpl];omega,?_⟩
  rw [List.getElem_append_left (by omega),List.getElem_append_left (by omega)]
  exact h6
 ·intro x
  rw [List.mem_append,H.mem,List.mem_singleton]
  omega
 ·intro t ht hLt
  rw [hpl] at ht
  by_cases e:t<P.length
  ·rw [List.getElem_append_left e] at hLt ⊢
   exact H.late t e hLt
  ·have:t=P.length:=by omega
   subst this
   rw [List.getElem_concat_length rfl]
   omega
 ·intro i j h3 h4 h5
  rw [updN_ne (by omega),updN_ne (by omega)]
  exact H.pla i j h3 h4 h5
 ·intro u v h3 h4 h5
  by_cases e:v=hi
  ·subst e
   rw [updN_eq]
   by_cases e2:u=v
   ·subst e2;rw [updN_eq];exact Nat.le_refl _
   ·rw [updN_ne e2]
    exact hpar u ((H.mem u).mpr (.inr (by omega)))
  ·rw [updN_ne (i:=v) e,updN_ne (by omega)]
   exact H.pia u v h3 h4 (by omega)
 ·intro g
  rw [hpl,sF, ←H.kr g,show hi+1-L=hi-L+1 by omega,sF,show L+(hi-L)=hi by omega,updN_eq,Nat.zero_add]
  have e1:sF (fun i=>g (updN p hi (L+P.length/2) i)) lo (N-lo)=sF (fun i=>g (p i)) lo (N-lo):=sF_congr (fun i h3 h4=>by rw [updN_ne (by omega)])
  have e2:sF (fun i=>g (updN p hi (L+P.length/2) i)) L (hi-L)=sF (fun i=>g (p i)) L (hi-L):=sF_congr (fun i h3 h4=>by rw [updN_ne (by omega)])
  rw [e1,e2];omega
 ·rw [hpl,show P.length+1-2*(k-L)=P.length-2*(k-L)+1 by omega,sF]
  have e1:sF (fun t=>c ((P ++ [hi]).getD t 0)) (2*(k-L)) (P.length-2*(k-L))=sF (fun t=>c (P.getD t 0)) (2*(k-L)) (P.length-2*(k-L)):=by
   refine sF_congr (fun i h3 h4 => ?_)
   rw [List.getD_eq_getElem?_getD,List.getElem?_append_left (by omega), ←List.getD_eq_getElem?_getD]
  have e2:(P ++ [hi]).getD (2*(k-L)+(P.length-2*(k-L))) 0=hi:=by
   rw [show 2*(k-L)+(P.length-2*(k-L))=P.length by omega,List.getD_eq_getElem?_getD,List.getElem?_append_right (by omega)]
   simp
  rw [e1,e2, ←H.tot_]
  have e3:sF c hi (k-hi)=c hi+sF c (hi+1) (k-(hi+1)):=by
   conv=>lhs;rw [show k-hi=k-(hi+1)+1 by omega,sF_front]
  omega
theorem PK.make (H:PK N L tot c p P k lo hi) (hm:P.length=2*(k-L)+2) :
  PK N L tot (updN c k (c (P[2*(k-L)]'(by omega))+c (P[2*(k-L)+1]'(by omega)))) p P (k+1) lo hi:=by
 have hn2:=H.n2
 have hnl:=H.nl
 have hll:=H.ll
 have hh1:=H.h1
 have hh2:=H.h2
 have hlen:=H.len
 have hkP:∀x∈P,x≠k:=by
  intro x hx e
  rcases (H.mem x).mp hx with ⟨h1,h2⟩|⟨h1,h2⟩<;>omega
 have hcP:∀ {v:Nat},∀x∈P,updN c k v x=c x:=fun x hx=>updN_ne (hkP x hx)
 generalize hv:c (P[2*(k-L)]'(by omega))+c (P[2*(k-L)+1]'(by omega))=v
 have hbig:∀x∈P,c x≤v:=by
  intro x hx
  obtain ⟨t,ht,rfl⟩:=List.mem_iff_getElem.mp hx
  have:=H.srt t (2*(k-L)+1) (by omega) (by omega)
  omega
 refine ⟨hn2,hnl,hll,hh1,by omega,hlen,by omega,by omega,H.par,?_,?_,?_,H.mem,H.late,H.pla,H.pia,H.kr,?_,?_,?_⟩
 ·intro t t' htt ht'
  rw [hcP _ (List.getElem_mem _),hcP _ (List.getElem_mem _)]
  exact H.srt t t' htt ht'
 ·intro x hx y hy
  rw [hcP x hx]
  by_cases e:y=k
  ·subst e;rw [updN_eq];exact hbig x hx
  ·rw [updN_ne e]
   exact H.low x hx y (by omega)
 ·intro u h3 h4
  by_cases e:u=k
  ·subst e
   refine ⟨by omega,?_⟩
   rw [updN_eq,hcP _ (List.getElem_mem _),hcP _ (List.getElem_mem _)]
   exact hv.symm
  ·obtain ⟨h5,h6⟩:=H.mkd u h3 (by omega)
   refine ⟨h5,?_⟩
   rw [updN_ne e,hcP _ (List.getElem_mem _),hcP _ (List.getElem_mem _)]
   exact h6
 ·intro i j h3 h4
  rw [updN_ne (by omega),updN_ne (by omega)]
  exact H.lsrt i j h3 h4
 ·intro u w h3 h4 h5
  by_cases e:w=k
  ·subst e
   rw [updN_eq]
   by_cases e2:u=w
   ·subst e2;rw [updN_eq];exact Nat.le_refl _
   ·rw [updN_ne e2]
    obtain ⟨h6,h7⟩:=H.mkd u h3 (by omega)
    rw [h7]
    have a1:=H.srt (2*(u-L)) (2*(w-L)) (by omega) (by omega)
    have a2:=H.srt (2*(u-L)+1) (2*(w-L)+1) (by omega) (by omega)
    omega
  ·rw [updN_ne (i:=w) e,updN_ne (by omega)]
   exact H.isrt u w h3 h4 (by omega)
 ·have ht:=H.tot_
  rw [hm,show 2*(k-L)+2-2*(k-L)=2 by omega] at ht
  rw [hm,show 2*(k+1-L)=2*(k-L)+2 by omega,Nat.sub_self,show k+1-hi=k-hi+1 by omega]
  simp only [sF,Nat.add_zero,Nat.zero_add] at ht ⊢
  rw [show hi+(k-hi)=k by omega,updN_eq]
  have e1:sF (updN c k v) 0 lo=sF c 0 lo:=sF_congr (fun i h3 h4=>updN_ne (by omega))
  have e2:sF (updN c k v) hi (k-hi)=sF c hi (k-hi):=sF_congr (fun i h3 h4=>updN_ne (by omega))
  have g1:P.getD (2*(k-L)) 0=P[2*(k-L)]'(by omega):=getD_in (by omega)
  have g2:P.getD (2*(k-L)+1) 0=P[2*(k-L)+1]'(by omega):=getD_in (by omega)
  rw [g1,g2] at ht
  rw [e1,e2];omega
theorem PK.le (H:PK N L tot c p P k lo hi) {y:Nat} (hy:y<lo∨(hi≤y∧y<k)):c y≤tot:=by
 have ht:=H.tot_
 rcases hy with h|⟨h1,h2⟩
 ·have:=sF_mem c 0 (n:=lo) (i:=y) (by omega) (by omega);omega
 ·have:=sF_mem c hi (n:=k-hi) (i:=y) h1 (by omega);omega
structure TreeP (N L tot:Nat) (c p:Nat→Nat):Prop where
 n2:2≤N
 nl:N≤L
 pl:∀i,i<N→L≤p i∧p i≤L+N-2
 pla:∀i j,i≤j→j<N→p j≤p i
 pin:∀v,L≤v→v<L+N-2→v<p v∧p v≤L+N-2
 pia:∀u v,L≤u→u≤v→v<L+N-2→p u≤p v
 kr:∀g:Nat→Nat,sF (fun i=>g (p i)) 0 N+sF (fun v=>g (p v)) L (N-2)=2*sF g L (N-1)
 fibL:∀i,i<N→p i<L+N-2→c (p i)+c i≤c (p (p i))
 fibI:∀v,L≤v→v<L+N-2→p v<L+N-2→c (p v)+c v≤c (p (p v))
 up:∀i,i<N→c i≤c (p i)
 root:c (L+N-2)=tot
 lsrt:∀i j,i≤j→j<N→c j≤c i
theorem sF_half (g:Nat→Nat) (L:Nat):∀n,sF (fun t=>g (L+t/2)) 0 (2*n)=2*sF g L n
 | 0=>rfl
 | n+1=>by
  rw [show 2*(n+1)=2*n+1+1 by omega,sF,sF,sF_half g L n,sF]
  simp only [Nat.zero_add]
  rw [show 2*n/2=n by omega,show (2*n+1)/2=n by omega]
  omega
theorem PK.tree (H:PK N L tot c p P k lo hi) (hk:k=L+N-1) (hm:P.length=2*(k-L)):TreeP N L tot c p:=by
 have hn2:=H.n2
 have hnl:=H.nl
 have hll:=H.ll
 have hh1:=H.h1
 have hh2:=H.h2
 have hlen:=H.len
 have hlo:lo=0:=by
  by_cases h:lo=0
  ·exact h
  ·exfalso
   have hR:L+N-2∈P:=(H.mem _).mpr (.inr (by omega))
   obtain ⟨t,ht,he⟩:=List.mem_iff_getElem.mp hR
   have:=H.late t ht (by rw [he];omega)
   rw [he] at this
   omega
 have hhi:hi=L+N-2:=by omega
 subst hlo
 have hparP:∀x∈P,L≤p x∧p x≤L+N-2:=by
  intro x hx
  obtain ⟨t,ht,rfl⟩:=List.mem_iff_getElem.mp hx
  rw [H.par t ht];omega
 have hfib:∀x∈P,p x<L+N-2→c (p x)+c x≤c (p (p x)):=by
  intro x hx hpx
  obtain ⟨t,ht,rfl⟩:=List.mem_iff_getElem.mp hx
  have h1:=H.par t ht
  have hv:p P[t]∈P:=(H.mem _).mpr (.inr (by omega))
  obtain ⟨t',ht',he⟩:=List.mem_iff_getElem.mp hv
  have hlate:=H.late t' ht' (by rw [he];omega)
  rw [he,h1] at hlate
  have h3:=H.par t' ht'
  rw [he] at h3
  obtain ⟨h5,h6⟩:=H.mkd (p (p P[t])) (by omega) (by omega)
  have hu:p (p P[t])-L=t'/2:=by omega
  rw [h6]
  simp only [hu]
  rcases (show t'=2*(t'/2)∨t'=2*(t'/2)+1 by omega) with h|h
  ·have e1:P[2*(t'/2)]'(by omega)=p P[t]:=by rw [←he];congr 1;omega
   have:=H.srt t (2*(t'/2)+1) (by omega) (by omega)
   rw [e1];omega
  ·have e1:P[2*(t'/2)+1]'(by omega)=p P[t]:=by rw [←he];congr 1;omega
   have:=H.srt t (2*(t'/2)) (by omega) (by omega)
   rw [e1];omega
 refine ⟨hn2,hnl,fun i hi=>hparP i ((H.mem i).mpr (.inl (by omega))),fun i j h3 h4=>H.pla i j (Nat.zero_le _) h3 h4,?_,fun u v h3 h4 h5=>H.pia u v h3 h4 (by omega),?_,fun i hi=>hfib i ((H.mem i).mpr (.inl (by omega))),fun v h3 h4=>hfib v ((H.mem v).mpr (.inr (by omega))),?_,?_,H.lsrt⟩
 ·intro v h3 h4
  have hv:v∈P:=(H.mem v).mpr (.inr (by omega))
  refine ⟨?_,(hparP v hv).2⟩
  obtain ⟨t,ht,rfl⟩:=List.mem_iff_getElem.mp hv
  have:=H.late t ht h3
  rw [H.par t ht];omega
 ·intro g
  have:=H.kr g
  rw [hm,show 2*(k-L)=2*(N-1) by omega,sF_half,Nat.sub_zero,show hi-L=N-2 by omega] at this
  exact this
 ·intro i hi
  obtain ⟨t,ht,he⟩:=List.mem_iff_getElem.mp ((H.mem i).mpr (.inl (by omega)))
  have h1:=H.par t ht
  rw [he] at h1
  obtain ⟨h5,h6⟩:=H.mkd (p i) (by omega) (by omega)
  have hu:p i-L=t/2:=by omega
  rw [h6]
  simp only [hu]
  rcases (show t=2*(t/2)∨t=2*(t/2)+1 by omega) with h|h
  ·have e0:2*(t/2)=t:=by omega
   have e1:P[2*(t/2)]'(by omega)=i:=by simp only [e0];exact he
   rw [e1];omega
  ·have e0:2*(t/2)+1=t:=by omega
   have e1:P[2*(t/2)+1]'(by omega)=i:=by simp only [e0];exact he
   rw [e1];omega
 ·have ht:=H.tot_
  rw [hm,Nat.sub_self,show k-hi=1 by omega] at ht
  simp only [sF,Nat.add_zero,Nat.zero_add] at ht
  rw [hhi] at ht
  exact ht
end
def fibo:Nat→Nat
 | 0=>0
 | 1=>1
 | n+2=>fibo (n+1)+fibo n
theorem fibo_mono (n:Nat):fibo n≤fibo (n+1):=by
 match n with
 | 0=>decide
 | 1=>decide
 | n+2 =>
  show fibo (n+2)≤fibo (n+2)+fibo (n+1)
  omega
theorem fibo_le {m n:Nat} (h:m≤n):fibo m≤fibo n:=by
 induction n with
 | zero=>have:m=0:=(by omega);subst this;exact Nat.le_refl _
 | succ n ih =>
  by_cases e:m=n+1
  ·subst e;exact Nat.le_refl _
  ·exact Nat.le_trans (ih (by omega)) (fibo_mono n)
structure DepP (N L:Nat) (p D:Nat→Nat):Prop where
 root:D (L+N-2)=0
 inn:∀v,L≤v→v<L+N-2→D v=D (p v)+1
 leaf:∀i,i<N→D i=D (p i)+1
section
variable {N L tot:Nat} {c p D:Nat→Nat}
theorem TreeP.antiI (H:TreeP N L tot c p) (E:DepP N L p D):∀n u v,L≤u→u≤v→v≤L+N-2→L+N-2-u≤n→D v≤D u
 | 0,u,v,h1,h2,h3,h4=>by
  have:u=v:=by omega
  subst this;exact Nat.le_refl _
 | n+1,u,v,h1,h2,h3,h4=>by
  by_cases e:v=L+N-2
  ·rw [e,E.root];exact Nat.zero_le _
  ·have hu:=H.pin u h1 (by omega)
   have hv:=H.pin v (by omega) (by omega)
   have:=H.antiI E n (p u) (p v) (by omega) (H.pia u v h1 h2 (by omega)) hv.2 (by omega)
   rw [E.inn u h1 (by omega),E.inn v (by omega) (by omega)]
   omega
theorem TreeP.mono (H:TreeP N L tot c p) (E:DepP N L p D) {i j:Nat} (h:i≤j) (hj:j<N):D i≤D j:=by
 rw [E.leaf i (by omega),E.leaf j hj]
 have hi:=H.pl i (by omega)
 have hjj:=H.pl j hj
 have:=H.antiI E (L+N) (p j) (p i) hjj.1 (H.pla i j h hj) hi.2 (by omega)
 omega
theorem TreeP.kraft (H:TreeP N L tot c p) (E:DepP N L p D) {M:Nat} (hM:∀v,L≤v→v≤L+N-2→D v<M):sF (fun i=>2^(M-D i)) 0 N=2^M:=by
 have hn:=H.n2
 have hk:=H.kr (fun v=>2^(M-D v-1))
 have e1:sF (fun i=>2^(M-D (p i)-1)) 0 N=sF (fun i=>2^(M-D i)) 0 N:=by
  refine sF_congr (fun i h1 h2 => ?_)
  rw [E.leaf i (by omega),Nat.sub_sub]
 have e2:sF (fun v=>2^(M-D (p v)-1)) L (N-2)=sF (fun v=>2^(M-D v)) L (N-2):=by
  refine sF_congr (fun i h1 h2 => ?_)
  rw [E.inn i h1 (by omega),Nat.sub_sub]
 have e3:∀n,n≤N-1→2*sF (fun v=>2^(M-D v-1)) L n=sF (fun v=>2^(M-D v)) L n:=by
  intro n
  induction n with
  | zero=>intro _;rfl
  | succ n ih =>
   intro hh
   have:=hM (L+n) (by omega) (by omega)
   rw [sF,sF,Nat.mul_add,ih (by omega), ←Nat.pow_succ',show (M-D (L+n)-1).succ=M-D (L+n) by omega]
 simp only at hk
 rw [e1,e2,e3 _ (Nat.le_refl _),show N-1=N-2+1 by omega,sF,show L+(N-2)=L+N-2 by omega,E.root,Nat.sub_zero] at hk
 omega
theorem TreeP.fibI' (H:TreeP N L tot c p) (E:DepP N L p D):∀n v x,L≤v→v≤L+N-2→L+N-2-v≤n→(∀ _:v<L+N-2,c v+x≤c (p v))→(v=L+N-2→x≤c v)→fibo (D v+1)*c v+fibo (D v)*x≤tot
 | 0,v,x,h1,h2,h3,h4,h5=>by
  have e:v=L+N-2:=by omega
  subst e
  rw [E.root,H.root]
  simp [fibo]
 | n+1,v,x,h1,h2,h3,h4,h5=>by
  by_cases e:v=L+N-2
  ·subst e
   rw [E.root,H.root]
   simp [fibo]
  ·have hp:=H.pin v h1 (by omega)
   have h6:=h4 (by omega)
   have ih:=H.fibI' E n (p v) (c v) (by omega) hp.2 (by omega) (fun hlt=>H.fibI v h1 (by omega) hlt) (fun _=>by omega)
   rw [E.inn v h1 (by omega)]
   have h7:fibo (D (p v)+1)*(c v+x)≤fibo (D (p v)+1)*c (p v):=Nat.mul_le_mul_left _ h6
   rw [Nat.mul_add] at h7
   have h8:fibo (D (p v)+1+1)*c v=fibo (D (p v)+1)*c v+fibo (D (p v))*c v:=by
    rw [←Nat.add_mul];rfl
   rw [h8]
   omega
theorem TreeP.deep (H:TreeP N L tot c p) (E:DepP N L p D) {i:Nat} (hi:i<N) (hc:0<c i) (ht:tot<832040):D i≤29:=by
 have hp:=H.pl i hi
 have hup:=H.up i hi
 have h1:=H.fibI' E (L+N) (p i) (c i) hp.1 hp.2 (by omega) (fun hlt=>H.fibL i hi hlt) (fun e=>hup)
 rw [E.leaf i hi]
 by_cases h:D (p i)+1≤29
 ·exact h
 ·exfalso
  have h4:fibo 30≤fibo (D (p i)+1):=fibo_le (by omega)
  have h5:fibo (D (p i)+1)*1≤fibo (D (p i)+1)*c (p i):=Nat.mul_le_mul_left _ (by omega)
  have h6:fibo 30=832040:=by decide
  omega
end
theorem sF_upd (φ:Nat→Nat) (b:Nat→Nat) (q v:Nat):∀n,q<n→sF (fun i=>φ (updN b q v i)) 0 n+φ (b q)=sF (fun i=>φ (b i)) 0 n+φ v
 | 0,h=>by omega
 | n+1,h=>by
  rw [sF,sF,Nat.zero_add]
  by_cases e:q=n
  ·subst e
   have:sF (fun i=>φ (updN b q v i)) 0 q=sF (fun i=>φ (b i)) 0 q:=sF_congr (fun i h1 h2=>by rw [updN_ne (by omega)])
   rw [this,updN_eq];omega
  ·have:=sF_upd φ b q v n (by omega)
   rw [updN_ne (i:=n) (fun h=>e h.symm)];omega
def krS (H:Nat) (b:Nat→Nat) (N:Nat):Nat:=sF (fun i=>2^(H-b i)) 0 N
def m0S (H:Nat) (b:Nat→Nat) (N:Nat):Nat:=sF (fun i=>if b i=H then 1 else 0) 0 N
theorem krS_upd (H:Nat) (b:Nat→Nat) (q v:Nat) {N:Nat} (h:q<N):krS H (updN b q v) N+2^(H-b q)=krS H b N+2^(H-v):=sF_upd (fun x=>2^(H-x)) b q v N h
theorem m0S_upd (H:Nat) (b:Nat→Nat) (q v:Nat) {N:Nat} (h:q<N):m0S H (updN b q v) N+(if b q=H then 1 else 0)=m0S H b N+(if v=H then 1 else 0):=sF_upd (fun x=>if x=H then 1 else 0) b q v N h
theorem m0S_pos {H N:Nat} {b:Nat→Nat} (h:0<m0S H b N):∃i,i<N∧b i=H:=by
 unfold m0S at h
 induction N with
 | zero=>simp [sF] at h
 | succ n ih =>
  rw [sF,Nat.zero_add] at h
  by_cases e:b n=H
  ·exact ⟨n,by omega,e⟩
  ·rw [if_neg e,Nat.add_zero] at h
   obtain ⟨i,h1,h2⟩:=ih h
   exact ⟨i,by omega,h2⟩
theorem krS_all {H N:Nat} {b:Nat→Nat} (h:∀i,i<N→b i=H):krS H b N=N:=by
 unfold krS
 induction N with
 | zero=>rfl
 | succ n ih =>
  rw [sF,ih (fun i hi=>h i (by omega)),Nat.zero_add,h n (by omega),Nat.sub_self]
theorem krS_div {H N k:Nat} {b:Nat→Nat} (hb:∀i,i<N→b i≤H) (h:∀i,i<N→b i=H∨b i+k≤H):∃Q,krS H b N=m0S H b N+2^k*Q:=by
 unfold krS m0S
 induction N with
 | zero=>exact ⟨0,by simp [sF]⟩
 | succ n ih =>
  obtain ⟨Q,hQ⟩:=ih (fun i hi=>hb i (by omega)) (fun i hi=>h i (by omega))
  rw [sF,sF,Nat.zero_add,hQ]
  rcases h n (by omega) with h1|h1
  ·refine ⟨Q,?_⟩
   rw [if_pos h1,h1,Nat.sub_self];omega
  ·by_cases hk:b n=H
   ·refine ⟨Q,?_⟩
    rw [if_pos hk,hk,Nat.sub_self];omega
   ·refine ⟨Q+2^(H-b n-k),?_⟩
    rw [if_neg hk,Nat.mul_add, ←Nat.pow_add,show k+(H-b n-k)=H-b n by omega];omega
theorem cut_kr {Lg H N:Nat} {D:Nat→Nat} (hH:H≤Lg) (hD:∀i,i<N→D i≤Lg) :
  2^(Lg-H)*krS H (fun i=>if H<D i then H else D i) N=sF (fun i=>2^(Lg-D i)) 0 N+sF (fun i=>if H<D i then 2^(Lg-H)-2^(Lg-D i) else 0) 0 N:=by
 unfold krS
 induction N with
 | zero=>simp [sF]
 | succ n ih =>
  rw [sF,sF,sF,Nat.mul_add,ih (fun i hi=>hD i (by omega)),Nat.zero_add]
  have hn:=hD n (by omega)
  by_cases e:H<D n
  ·simp only [if_pos e]
   have:2^(Lg-D n)≤2^(Lg-H):=Nat.pow_le_pow_right (by omega) (by omega)
   rw [Nat.sub_self,Nat.pow_zero,Nat.mul_one];omega
  ·simp only [if_neg e]
   rw [←Nat.pow_add,show Lg-H+(H-D n)=Lg-D n by omega];omega
structure DLs (H N:Nat) (b:Nat→Nat):Prop where
 one:∀i,i<N→1≤b i
 le:∀i,i<N→b i≤H
 mono:∀i j,i≤j→j<N→b i≤b j
def noS:Nat:=4042322160
def RL (H N:Nat) (b rk:Nat→Nat):Prop:=∀r,1≤r→r≤12→(rk r=noS∧∀i,i<N→b i+r≠H)∨(rk r<N∧b (rk r)+r=H∧∀i,rk r<i→i<N→b i+r≠H)
structure RepP (H N:Nat) (b b' rk rk':Nat→Nat) (k:Nat):Prop where
 dl:DLs H N b'
 rl:RL H N b' rk'
 kr:krS H b' N+2^(k-1)=krS H b N
 m0:m0S H b' N=m0S H b N+if k=1 then 1 else 0
theorem rep_step {H N k:Nat} {b rk:Nat→Nat} (hN:N≤256) (hd:DLs H N b) (hr:RL H N b rk) (hk1:1≤k) (hk:k≤12) (hne:rk k≠noS) :
  RepP H N b (updN b (rk k) (b (rk k)+1)) rk
   (updN (if 1≤k-1∧rk (k-1)=noS then updN rk (k-1) (rk k) else rk) k (if rk k=0 then noS else if b (rk k-1)+k=H then rk k-1 else noS)) k:=by
 rcases hr k hk1 hk with ⟨h,_⟩|⟨h1,h2,h3⟩
 ·exact absurd h hne
 generalize hp:rk k=p at *
 have hb1:=hd.one p h1
 have hnext:∀i,p<i→i<N→b p+1≤b i:=by
  intro i hi hiN
  have:=hd.mono p i (by omega) hiN
  have:=h3 i hi hiN
  omega
 refine ⟨⟨?_,?_,?_⟩,?_,?_,?_⟩
 ·intro i hi
  unfold updN
  split
  ·omega
  ·exact hd.one i hi
 ·intro i hi
  unfold updN
  split
  ·omega
  ·exact hd.le i hi
 ·intro i j hij hj
  unfold updN
  have:=hd.mono i j hij hj
  split<;>split
  ·omega
  ·have:=hnext j (by omega) hj;omega
  ·subst_vars;omega
  ·omega
 ·intro r hr1 hr12
  by_cases e:r=k
  ·subst e
   rw [updN_eq]
   by_cases e0:p=0
   ·rw [if_pos e0]
    left
    refine ⟨rfl,?_⟩
    intro i hi
    unfold updN
    split
    ·omega
    ·exact h3 i (by omega) hi
   ·rw [if_neg e0]
    by_cases e1:b (p-1)+r=H
    ·rw [if_pos e1]
     right
     refine ⟨by omega,?_,?_⟩
     ·rw [updN_ne (by omega)];exact e1
     ·intro i hi hiN
      unfold updN
      split
      ·omega
      ·exact h3 i (by omega) hiN
    ·rw [if_neg e1]
     left
     refine ⟨rfl,?_⟩
     intro i hi
     unfold updN
     split
     ·omega
     ·rename_i hne2
      by_cases hlt:i<p
      ·have a1:=hd.mono i (p-1) (by omega) (by omega)
       have a2:=hd.mono (p-1) p (by omega) h1
       omega
      ·exact h3 i (by omega) hi
  ·rw [updN_ne e]
   by_cases e2:r=k-1
   ·subst e2
    by_cases e3:rk (k-1)=noS
    ·rw [if_pos ⟨hr1,e3⟩,updN_eq]
     rcases hr (k-1) hr1 hr12 with ⟨_,h5⟩|⟨h5,_⟩
     ·right
      refine ⟨h1,by rw [updN_eq];omega,?_⟩
      intro i hi hiN
      rw [updN_ne (by omega)]
      exact h5 i hiN
     ·unfold noS at e3;omega
    ·rw [if_neg (fun h=>e3 h.2)]
     rcases hr (k-1) hr1 hr12 with ⟨h4,_⟩|⟨h4,h5,h6⟩
     ·exact absurd h4 e3
     ·right
      have hgt:p<rk (k-1):=by
       by_cases hc:rk (k-1)≤p
       ·have:=hd.mono _ p hc h1;omega
       ·omega
      refine ⟨h4,by rw [updN_ne (by omega)];exact h5,?_⟩
      intro i hi hiN
      rw [updN_ne (by omega)]
      exact h6 i hi hiN
   ·have e4:(if 1≤k-1∧rk (k-1)=noS then updN rk (k-1) p else rk) r=rk r:=by
     split
     ·rw [updN_ne e2]
     ·rfl
    rw [e4]
    rcases hr r hr1 hr12 with ⟨h4,h5⟩|⟨h4,h5,h6⟩
    ·left
     refine ⟨h4,?_⟩
     intro i hi
     unfold updN
     split
     ·omega
     ·exact h5 i hi
    ·right
     have hne3:rk r≠p:=by intro e5;rw [e5] at h5;omega
     refine ⟨h4,by rw [updN_ne hne3];exact h5,?_⟩
     intro i hi hiN
     unfold updN
     split
     ·omega
     ·exact h6 i hi hiN
 ·have:=krS_upd H b p (b p+1) h1
  have e1:H-b p=k-1+1:=by omega
  have e2:H-(b p+1)=k-1:=by omega
  rw [e1,e2,Nat.pow_succ] at this
  omega
 ·have:=m0S_upd H b p (b p+1) h1
  rw [if_neg (by omega)] at this
  rw [Nat.add_zero] at this
  rw [this]
  by_cases e:k=1
  ·rw [if_pos e,if_pos (by omega)]
  ·rw [if_neg e,if_neg (by omega)]
def SomZ (n:Nat) (F:Cells):Prop:=Som n F∧∃z:Nd,z.ok∧F 0=some z.v
theorem SomZ.upd {n q:Nat} {F:Cells} {v:Value} (h:SomZ n F):SomZ n (updC F (1+q) v):=by
 obtain ⟨h1,z,h2,h3⟩:=h
 exact ⟨h1.upd,z,h2,by unfold updC;rw [if_neg (by omega)];exact h3⟩
def updD (nd:Nat→Nd) (q:Nat) (x:Nd):Nat→Nd:=fun i=>if i=q then x else nd i
def NF (F:Cells) (nd:Nat→Nd):Prop:=∀i,i<512→F (1+i)=some (nd i).v∧(nd i).ok
theorem NF.upd {F:Cells} {nd:Nat→Nd} {q:Nat} {x:Nd} (h:NF F nd) (hx:x.ok):NF (updC F (1+q) x.v) (updD nd q x):=by
 intro i hi
 unfold updC updD
 by_cases e:i=q
 ·subst e;rw [if_pos rfl,if_pos rfl];exact ⟨rfl,hx⟩
 ·rw [if_neg (by omega),if_neg e];exact h i hi
theorem NF.congr {F:Cells} {nd nd':Nat→Nd} (h:NF F nd) (e:∀i,i<512→nd i=nd' i):NF F nd':=fun i hi=>by rw [←e i hi];exact h i hi
def NB (nd:Nat→Nd) (b:Nat→Nat) (N:Nat):Nat→Nd:=fun i=>if i<N then { nd i with b:=b i } else nd i
theorem NB_in {nd:Nat→Nd} {b:Nat→Nat} {N i:Nat} (h:i<N):NB nd b N i = { nd i with b:=b i } := if_pos h
theorem NB_upd (nd:Nat→Nd) (b:Nat→Nat) {N q:Nat} (v:Nat) (h:q<N):updD (NB nd b N) q { NB nd b N q with b:=v } = NB nd (updN b q v) N:=by
 funext i
 unfold updD NB updN
 by_cases e:i=q
 ·subst e;rw [if_pos rfl,if_pos h,if_pos h,if_pos rfl]
 ·rw [if_neg e,if_neg e]
theorem NF.setB {F:Cells} {nd:Nat→Nd} {b:Nat→Nat} {N q v:Nat} (h:NF F (NB nd b N)) (hq:q<N) (hN:N≤512) (hv:v<256):NF (updC F (1+q) ({ NB nd b N q with b:=v } : Nd).v) (NB nd (updN b q v) N):=by
 obtain ⟨o1,o2,o3,o4⟩:=(h q (by omega)).2
 rw [←NB_upd nd b v hq]
 exact h.upd ⟨o1,o2,o3,hv⟩
theorem RL.congr {H N:Nat} {b rk rk':Nat→Nat} (h:RL H N b rk) (e:∀r,1≤r→rk' r=rk r):RL H N b rk':=by
 intro r h1 h2
 rw [e r h1]
 exact h r h1 h2
theorem arrC_nat {k:IntKind} {n o v:Nat} {f:Nat→Nat} (h:o<n):updC (arrC k n fun i=>((f i:Nat):Int)) o (.int k (v:Nat))=arrC k n fun i=>((updN f o v i:Nat):Int):=by
 rw [arrC_upd h]
 congr 1
 funext i
 unfold updF updN
 split<;>rfl
section
variable {w:World} {nb pb cap H N:Nat} {nd:Nat→Nd} {b rk:Nat→Nat} {F:Cells}
theorem rep_walk {A:Int→PT} {tc:Int} {k:Nat} (HN:Blk w nb F) (hF:NF F (NB nd b N)) (hS:SomZ cap F) (hcap:513≤cap) (HR:Blk w pb (arrC .u32 13 fun i=>((rk i:Nat):Int))) (d:nb≠pb) (hN:N≤256) (hH:H≤11) (hd:DLs H N b) (hr:RL H N b rk) (hk1:1≤k) (hk:k≤12) (hne:rk k≠noS)
  (htc : -1000000≤tc) (htc2:tc≤1000000)
  (hA:∀w' b' rk' F',RepP H N b b' rk rk' k→(∀i,b i=H→i<N→b' i=H)→b'=updN b (rk k) (b (rk k)+1)→rk k<N→NF F' (NB nd b' N)→SomZ cap F'→Blk w' nb F'→Blk w' pb (arrC .u32 13 fun i=>((rk' i:Nat):Int))→Fm w w' [nb,pb]→A (tc-((2^(k-1):Nat):Int)) w') :
  q129_J11 (H:Int) ⟨some ⟨nb,1,none⟩,512,cap-1⟩ ⟨pb,0,none⟩ tc A (k:Int) w:=by
 have hstep:=rep_step hN hd hr hk1 hk hne
 obtain ⟨hp1,hp2,hp3⟩:rk k<N∧b (rk k)+k=H∧∀i,rk k<i→i<N→b i+k≠H:=by
  rcases hr k hk1 hk with ⟨h,_⟩|h
  ·exact absurd h hne
  ·exact h
 have hbp:=hd.one _ hp1
 have hA':=fun w' rk' F' h1 h2 h3 h4 h5 h6=>hA w' (updN b (rk k) (b (rk k)+1)) rk' F' h1 (fun i hi hiN=>by
  unfold updN
  split
  ·subst_vars;omega
  ·exact hi) rfl hp1 h2 h3 h4 h5 h6
 have ek:IntKind.u8.wrap ((k:Int)-1)=((k-1:Nat):Int):=by rw [wU8 (by omega) (by omega)];omega
 have hpk:2^(k-1)≤2^11:=Nat.pow_le_pow_right (by omega) (by omega)
 have esh:shlI .i64 1 ((k-1:Nat):Int)=((2^(k-1):Nat):Int):=by
  have:=shlI_nat .i64 1 (k-1) (by simp only [IntKind.bits];omega) (by rw [Nat.one_mul];exact Nat.lt_of_le_of_lt hpk (by decide))
  rw [Nat.one_mul] at this
  exact this
 have hnn:(0:Int)≤((2^(k-1):Nat):Int):=Int.natCast_nonneg _
 have etc:IntKind.i64.wrap (tc-((2^(k-1):Nat):Int))=tc-((2^(k-1):Nat):Int):=wI64 (by omega) (by omega)
 unfold q129_J11
 rw [ek]
 refine ⟨by omega,?_⟩
 have rest:∀(w1:World) (rk1:Nat→Nat),rk1 k=rk k→(∀r,1≤r→r≠k→rk1 r=(if 1≤k-1∧rk (k-1)=noS then updN rk (k-1) (rk k) else rk) r)→Blk w1 pb (arrC .u32 13 fun i=>((rk1 i:Nat):Int))→Blk w1 nb F→Fm w w1 [nb,pb]→q129_J10 (H:Int) ⟨some ⟨nb,1,none⟩,512,cap-1⟩ ⟨pb,0,none⟩ tc A (k:Int) () w1:=by
  intro w1 rk1 e1 e2 HR1 HN1 F1
  unfold q129_J10 drw
  rw [ek,esh,etc]
  have eH:IntKind.u8.wrap ((H:Int)-(k:Int))=((H-k:Nat):Int):=by rw [wU8 (by omega) (by omega)];omega
  rw [eH]
  refine ixA_o rfl (by omega) ?_
  rw [Nat.zero_add]
  refine ld_b (t := .I .u32) (x:=((rk k:Nat):Int)) HR1.drew (by rw [arrC_get (by omega),e1];rfl) ?_
  refine ixS_o rfl (by omega) ?_
  refine ixA_o rfl (by omega) ?_
  rw [Nat.zero_add]
  refine ld_b (t := .I .u32) (x:=((rk k:Nat):Int)) HR1.drew (by rw [arrC_get (by omega),e1];rfl) ?_
  refine ixS_o rfl (by omega) ?_
  obtain ⟨f1,f2⟩:=hF (rk k) (by omega)
  refine c128 HN1.drew f1 f2 ?_
  have eb:(NB nd b N (rk k)).b=b (rk k):=by rw [NB_in hp1]
  rw [eb,wU8 (x:=(1:Int)+((b (rk k):Nat):Int)) (by omega) (by omega),show (1:Int)+((b (rk k):Nat):Int)=((b (rk k)+1:Nat):Int) by omega]
  refine ⟨?_,?_⟩
  ·intro f hf
   simp only [List.mem_cons,List.not_mem_nil,or_false] at hf
   subst hf
   show w1.drew.cell? ⟨pb,k,none⟩=_
   rw [HR1.drew.cell,arrC_get (by omega),e1]
  refine c126 HN1.drew f1 f2 (by omega) ?_
  intro w2 HN2 F2
  have hF2:NF (updC F (1+rk k) ({ NB nd b N (rk k) with b:=b (rk k)+1 } : Nd).v) (NB nd (updN b (rk k) (b (rk k)+1)) N):=hF.setB hp1 (by omega) (by omega)
  have HR2:=HR1.drew.fr F2 (nm1 d.symm)
  have F02:Fm w w2 [nb,pb]:=F1.drew.trans F2 (by intro v hv;simp at hv;simp [hv])
  refine ixA_o rfl (by omega) ?_
  rw [Nat.zero_add]
  refine ld_b (t := .I .u32) (x:=((rk k:Nat):Int)) HR2 (by rw [arrC_get (by omega),e1];rfl) ?_
  refine cnd_d ?_ ?_
  ·intro hc
   have h0:rk k=0:=by omega
   rw [if_pos h0] at hstep
   refine ixA_o rfl (by omega) ?_
   rw [Nat.zero_add]
   refine st_u HR2 (by rw [arrC_get (by omega)];rfl) rfl ?_
   intro w3 HR3 F3
   rw [show (4042322160:Int)=((noS:Nat):Int) from rfl,arrC_nat (by omega)] at HR3
   refine hA' w3 (updN rk1 k noS) _ ⟨hstep.dl,hstep.rl.congr ?_,hstep.kr,hstep.m0⟩ hF2 hS.upd (HN2.fr F3 (nm1 d)) HR3 (F02.trans F3 (by intro v hv;simp at hv;simp [hv]))
   intro r hr1
   unfold updN
   by_cases e:r=k
   ·rw [if_pos e,if_pos e]
   ·rw [if_neg e,if_neg e];exact e2 r hr1 e
  ·intro hc
   have h0:rk k≠0:=by omega
   rw [if_neg h0] at hstep
   refine ixA_o rfl (by omega) ?_
   rw [Nat.zero_add]
   refine ld_b (t := .I .u32) (x:=((rk k:Nat):Int)) HR2 (by rw [arrC_get (by omega),e1];rfl) ?_
   refine ixA_o rfl (by omega) ?_
   rw [Nat.zero_add]
   refine st_u HR2 (by rw [arrC_get (by omega)];rfl) rfl ?_
   intro w3 HR3 F3
   rw [wU32 (by omega) (by omega),show ((rk k:Nat):Int)-1=((rk k-1:Nat):Int) by omega,arrC_nat (by omega)] at HR3
   have HN3:=HN2.fr F3 (nm1 d)
   have F03:Fm w w3 [nb,pb]:=F02.trans F3 (by intro v hv;simp at hv;simp [hv])
   refine ixA_o rfl (by omega) ?_
   rw [Nat.zero_add]
   refine ld_b (t := .I .u32) (x:=((rk k-1:Nat):Int)) HR3 (by rw [arrC_get (by omega),updN_eq];rfl) ?_
   refine ixS_o rfl (by omega) ?_
   obtain ⟨g1,g2⟩:=hF2 (rk k-1) (by omega)
   refine c128 HN3 g1 g2 ?_
   have eb2:(NB nd (updN b (rk k) (b (rk k)+1)) N (rk k-1)).b=b (rk k-1):=by
    rw [NB_in (by omega)]
    exact updN_ne (by omega)
   rw [eb2]
   have hle:=hd.mono (rk k-1) (rk k) (by omega) hp1
   refine cnd_nd ?_ ?_
   ·intro hc2
    have h1:¬b (rk k-1)+k=H:=by omega
    rw [if_neg h1] at hstep
    refine ixA_o rfl (by omega) ?_
    rw [Nat.zero_add]
    refine st_u HR3 (by rw [arrC_get (by omega)];rfl) rfl ?_
    intro w4 HR4 F4
    rw [show (4042322160:Int)=((noS:Nat):Int) from rfl,arrC_nat (by omega)] at HR4
    refine hA' w4 _ _ ⟨hstep.dl,hstep.rl.congr ?_,hstep.kr,hstep.m0⟩ hF2 hS.upd (HN3.fr F4 (nm1 d)) HR4 (F03.trans F4 (by intro v hv;simp at hv;simp [hv]))
    intro r hr1
    unfold updN
    by_cases e:r=k
    ·rw [if_pos e,if_pos e]
    ·rw [if_neg e,if_neg e,if_neg e];exact e2 r hr1 e
   ·intro hc2
    have h1:b (rk k-1)+k=H:=by omega
    rw [if_pos h1] at hstep
    refine hA' w3 _ _ ⟨hstep.dl,hstep.rl.congr ?_,hstep.kr,hstep.m0⟩ hF2 hS.upd HN3 HR3 F03
    intro r hr1
    unfold updN
    by_cases e:r=k
    ·rw [if_pos e,if_pos e]
    ·rw [if_neg e,if_neg e];exact e2 r hr1 e
 refine joinP_id ?_
 refine ixA_o (k:=k-1) rfl (by omega) ?_
 rw [Nat.zero_add]
 refine ld_b (t := .I .u32) (x:=((rk (k-1):Nat):Int)) HR (arrC_get (by omega)) ?_
 refine cnd_d ?_ ?_
 ·intro hc
  have h1:rk (k-1)=noS:=by unfold noS;omega
  refine ixA_o rfl (by omega) ?_
  rw [Nat.zero_add]
  refine ld_b (t := .I .u32) (x:=((rk k:Nat):Int)) HR (arrC_get (by omega)) ?_
  refine ixA_o (k:=k-1) rfl (by omega) ?_
  rw [Nat.zero_add]
  refine st_u HR (by rw [arrC_get (by omega)];rfl) rfl ?_
  intro w1 HR1 F1
  rw [arrC_nat (by omega)] at HR1
  refine rest w1 _ (updN_ne (by omega)) ?_ HR1 (HN.fr F1 (nm1 d)) (F1.mono (by intro v hv;simp at hv;simp [hv]))
  intro r hr1 hrk
  by_cases e:1≤k-1
  ·rw [if_pos ⟨e,h1⟩]
  ·rw [if_neg (fun h=>e h.1),updN_ne (by omega)]
 ·intro hc
  have h1:¬rk (k-1)=noS:=by unfold noS;omega
  refine rest w rk rfl ?_ HR HN (Fm.refl _ _)
  intro r hr1 hrk
  rw [if_neg (fun h=>h1 h.2)]
end
structure PayI (H N m:Nat) (b:Nat→Nat) (tc:Int):Prop where
 dl:DLs H N b
 kr:(krS H b N:Int)=((2^H:Nat):Int)+tc
 lt:tc<(m0S H b N:Int)
 ge:0≤(m0S H b N:Int)+tc
 top:∀i,m<i→i<N→b i=H
 ex:tc≠0→∃i,i<N∧b i<H
theorem m0S_le (H:Nat) (b:Nat→Nat):∀N,m0S H b N≤N
 | 0=>Nat.le_refl _
 | n+1=>by
  have:=m0S_le H b n
  unfold m0S at this ⊢
  rw [sF]
  split<;>omega
theorem pay_step {H N m k:Nat} {b b' rk rk':Nat→Nat} {tc:Int} (hN:N≤2^H) (hN2:N≤256) (I:PayI H N m b tc) (R:RepP H N b b' rk rk' k) (hr:RL H N b rk) (h0:0<tc) (hk1:1≤k) (hk12:k≤12) (hp:rk k<N) (hpk:b (rk k)+k=H) (hb':∀i,b i=H→i<N→b' i=H) (hbp:b' (rk k)=b (rk k)+1)
  (hc:k≤tc.toNat.log2+1∨∀r,1≤r→r<k→rk r=noS):PayI H N m b' (tc-((2^(k-1):Nat):Int)):=by
 have hkr:=I.kr
 have hkr2:=R.kr
 have hm:=R.m0
 have hlt:=I.lt
 have hpp:=Nat.two_pow_pos (k-1)
 have hlog:2^tc.toNat.log2≤tc.toNat:=Nat.log2_self_le (by omega)
 have hcase:((2^(k-1):Nat):Int)≤tc∨(2≤k∧tc+((2^(k-1):Nat):Int)≤(m0S H b N:Int)):=by
  rcases hc with h|h
  ·left
   have:2^(k-1)≤2^tc.toNat.log2:=Nat.pow_le_pow_right (by omega) (by omega)
   omega
  ·by_cases hk2:2≤k
   ·right
    refine ⟨hk2,?_⟩
    obtain ⟨Q,hQ⟩:=krS_div (k:=k) I.dl.le (fun i hi=>by
     by_cases e:b i=H
     ·exact .inl e
     ·right
      have hle:=I.dl.le i hi
      by_cases e2:b i+k≤H
      ·exact e2
      ·exfalso
       have hr1:=h (H-b i) (by omega) (by omega)
       rcases hr (H-b i) (by omega) (by omega) with ⟨_,h5⟩|⟨h5,_⟩
       ·exact h5 i hi (by omega)
       ·unfold noS at hr1;have:=I.dl.le i hi;omega)
    have hH:2^H=2^k*2^(H-k):=by rw [←Nat.pow_add,show k+(H-k)=H by omega]
    have hk2':2^k=2*2^(k-1):=by rw [←Nat.pow_succ',show (k-1).succ=k by omega]
    have hlt2:2^k*Q<2^k*2^(H-k):=by rw [←hH];omega
    have hQP:Q<2^(H-k):=Nat.lt_of_mul_lt_mul_left hlt2
    have hle2:2^k*(Q+1)≤2^k*2^(H-k):=Nat.mul_le_mul_left _ hQP
    rw [←hH,Nat.mul_add,Nat.mul_one] at hle2
    omega
   ·left
    have hk:k=1:=by omega
    subst hk
    simp only [Nat.sub_self,Nat.pow_zero]
    omega
 have hm2:m0S H b N≤m0S H b' N:=by rw [hm];split<;>omega
 refine ⟨R.dl,by omega,by omega,?_,fun i h1 h2=>hb' i (I.top i h1 h2) h2,?_⟩
 ·rcases hcase with h|⟨_,h⟩
  ·have:=I.ge;omega
  ·omega
 ·intro hne
  by_cases hneg:tc-((2^(k-1):Nat):Int)<0
  ·rcases hcase with h|⟨hk2,_⟩
   ·omega
   ·exact ⟨rk k,hp,by omega⟩
  ·apply Classical.byContradiction
   intro hno
   have hall:∀i,i<N→b' i=H:=by
    intro i hi
    have h1:=R.dl.le i hi
    by_cases e:b' i=H
    ·exact e
    ·exact absurd ⟨i,hi,by omega⟩ hno
   have:=krS_all hall
   omega
def dnK (cn rk:Nat→Nat):Nat→Nat
 | 0=>0
 | 1=>1
 | k+2=>if rk (k+2)=noS then dnK cn rk (k+1) else if rk (k+1)=noS then k+2 else if ((cn (rk (k+2)):Nat):Int)≤IntKind.u32.wrap (2*((cn (rk (k+1)):Nat):Int)) then k+2 else dnK cn rk (k+1)
def upK (rk:Nat→Nat):Nat→Nat→Nat
 | 0,k=>k
 | f+1,k=>if k≤11∧rk k=noS then upK rk f (k+1) else k
def upJ (rk:Nat→Nat) (k:Nat):Nat:=upK rk (13-k) k
theorem upJ_step {rk:Nat→Nat} {k:Nat} (h:k≤11) (h2:rk k=noS):upJ rk k=upJ rk (k+1):=by
 unfold upJ
 rw [show 13-k=13-(k+1)+1 by omega,upK,if_pos ⟨h,h2⟩]
theorem upJ_stop {rk:Nat→Nat} {k:Nat} (h2:rk k≠noS):upJ rk k=k:=by
 unfold upJ
 cases 13-k with
 | zero=>rfl
 | succ f=>rw [upK,if_neg (fun h=>h2 h.2)]
inductive PayR (H N:Nat) (cn:Nat→Nat):(Nat→Nat)→Int→(Nat→Nat)→Int→Prop
 | stop {b:Nat→Nat} {tc:Int} : tc≤0→PayR H N cn b tc b tc
 | step {b rk b':Nat→Nat} {tc tc':Int} {k:Nat} : 0<tc→tc.toNat.log2<8→RL H N b rk→1≤k→k≤12→k=upJ rk (dnK cn rk (tc.toNat.log2+1))→PayR H N cn (updN b (rk k) (b (rk k)+1)) (tc-((2^(k-1):Nat):Int)) b' tc'→PayR H N cn b tc b' tc'
section
variable {w:World} {nb pb cap H N m:Nat} {nd:Nat→Nd} {b rk:Nat→Nat} {F:Cells}
structure PayW (w0 w:World) (nb pb cap N:Nat) (nd:Nat→Nd) (b rk:Nat→Nat) (F:Cells):Prop where
 n:Blk w nb F
 nf:NF F (NB nd b N)
 som:SomZ cap F
 r:Blk w pb (arrC .u32 13 fun i=>((rk i:Nat):Int))
 fr:Fm w0 w [nb,pb]
theorem ph_pay {w0:World} {R43:Int→PT} {tc:Int} (hcap:513≤cap) (d:nb≠pb) (hN:N≤256) (hNH:N≤2^H) (hH:H≤11) (W:PayW w0 w nb pb cap N nd b rk F) (hr:RL H N b rk) (I:PayI H N m b tc) (h0:0≤tc)
  (hk:∀w' b' rk' F' tc',tc'≤0→PayW w0 w' nb pb cap N nd b' rk' F'→RL H N b' rk'→PayI H N m b' tc'→PayR H N (fun i=>(nd i).c) b tc b' tc'→R43 tc' w') :
  loopP tc (q129_L13 (H:Int) ⟨some ⟨nb,1,none⟩,512,cap-1⟩ ⟨pb,0,none⟩ R43) w:=by
 refine ⟨fun x w'=>∃(b' rk':Nat→Nat) (F':Cells),PayW w0 w' nb pb cap N nd b' rk' F'∧RL H N b' rk'∧PayI H N m b' x∧(∀b9 t9,PayR H N (fun i=>(nd i).c) b' x b9 t9→PayR H N (fun i=>(nd i).c) b tc b9 t9),fun x _=>x.toNat,⟨b,rk,F,W,hr,I,fun _ _ h=>h⟩,?_⟩
 rintro x w2 ⟨b2,rk2,F2,W2,hr2,I2,X2⟩
 unfold q129_L13
 refine cnd_d ?_ ?_
 ·intro hc
  have hm:=m0S_le H b2 N
  have hlt:=I2.lt
  have hx:x=((x.toNat:Nat):Int):=by omega
  obtain ⟨i0,hi0,hi0b⟩:=I2.ex (by omega)
  have hb1:=I2.dl.one i0 hi0
  have hr0:rk2 (H-b2 i0)≠noS:=by
   rcases hr2 (H-b2 i0) (by omega) (by omega) with ⟨_,h5⟩|⟨h5,_⟩
   ·exact absurd (show b2 i0+(H-b2 i0)=H by omega) (h5 i0 hi0)
   ·unfold noS;omega
  generalize hr0e:H-b2 i0=r0 at *
  have hr01:1≤r0:=by omega
  have hr011:r0≤11:=by omega
  have hlg:x.toNat.log2<8:=(Nat.log2_lt (by omega)).mpr (by omega)
  rw [show IntKind.u32.wrap x=((x.toNat:Nat):Int) by rw [wU32 (by omega) (by omega)];exact hx]
  refine c64 (by omega) (by omega) ?_
  have rkv:∀r,1≤r→r≤12→rk2 r=noS∨rk2 r<N:=by
   intro r h1 h2
   rcases hr2 r h1 h2 with ⟨h,_⟩|⟨h,_⟩
   ·exact .inl h
   ·exact .inr h
  have hpay:=fun k h1 h2 h3 h4=>rep_walk (A:=fun s' w'=>(∃(b' rk':Nat→Nat) (F':Cells),PayW w0 w' nb pb cap N nd b' rk' F'∧RL H N b' rk'∧PayI H N m b' s'∧(∀b9 t9,PayR H N (fun i=>(nd i).c) b' s' b9 t9→PayR H N (fun i=>(nd i).c) b tc b9 t9))∧s'.toNat<x.toNat) (tc:=x) (k:=k) W2.n W2.nf W2.som hcap W2.r d hN hH I2.dl hr2 h1 h2 h3 (by omega) (by omega) h4
  refine ⟨fun k w'=>w'=w2∧∃k':Nat,k=(k':Int)∧1≤k'∧k'≤12∧((rk2 k'≠noS∧k'≤x.toNat.log2+1)∨(∀r,1≤r→r≤k'→rk2 r=noS))∧k'=dnK (fun i=>(nd i).c) rk2 (x.toNat.log2+1),?_,?_⟩
  ·rintro k w3 ⟨rfl,k',rfl,hk1,hk12,hkk,hdn⟩
   unfold q129_J12
   refine ⟨fun k w'=>w'=w3∧∃k2:Nat,k=(k2:Int)∧1≤k2∧k2≤12∧rk2 k2≠noS∧(k2≤x.toNat.log2+1∨∀r,1≤r→r<k2→rk2 r=noS)∧k2=upJ rk2 k',?_,?_⟩
   ·rintro k w4 ⟨rfl,k2,rfl,g1,g2,g3,g4,g5⟩
    refine hpay k2 g1 g2 g3 ?_
    intro w5 b5 rk5 F5 hR hbH hbp hpN hF5 hS5 HN5 HR5 Fr5
    have hp2:b2 (rk2 k2)+k2=H:=by
     rcases hr2 k2 g1 g2 with ⟨h,_⟩|⟨_,h,_⟩
     ·exact absurd h g3
     ·exact h
    refine ⟨⟨b5,rk5,F5,⟨HN5,hF5,hS5,HR5,W2.fr.trans Fr5 (fun x hx => .inl hx)⟩,hR.rl,pay_step hNH hN I2 hR hr2 hc g1 g2 hpN hp2 hbH (by rw [hbp,updN_eq]) g4,fun b9 t9 h9=>X2 b9 t9 (.step hc hlg hr2 g1 g2 (by rw [←hdn];exact g5) (by rw [←hbp];exact h9))⟩,?_⟩
    have:=Nat.two_pow_pos (k2-1)
    omega
   ·refine ⟨fun k w'=>w'=w3∧∃k2:Nat,k=(k2:Int)∧1≤k2∧k2≤12∧((rk2 k2≠noS∧k2≤x.toNat.log2+1)∨(∀r,1≤r→r<k2→rk2 r=noS))∧upJ rk2 k'=upJ rk2 k2,fun k _=>13-k.toNat,⟨rfl,k',rfl,hk1,hk12,?_,rfl⟩,?_⟩
    ·rcases hkk with h|h
     ·exact .inl h
     ·exact .inr (fun r h1 h2=>h r h1 (by omega))
    rintro k w4 ⟨rfl,k2,rfl,g1,g2,g3,g5⟩
    have hk11:k2≤11:=by
     rcases g3 with ⟨_,h⟩|h
     ·omega
     ·by_cases hh:r0<k2
      ·exact absurd (h r0 hr01 hh) hr0
      ·omega
    unfold q129_L9
    refine cnd_d (fun _ => ?_) (fun h=>absurd h (by omega))
    refine ixA_o rfl (by omega) ?_
    rw [Nat.zero_add]
    refine ld_b (t := .I .u32) (x:=((rk2 k2:Nat):Int)) W2.r (arrC_get (by omega)) ?_
    refine cnd_d ?_ ?_
    ·intro hn
     have hn2:rk2 k2=noS:=by unfold noS;omega
     rw [wU8 (x:=(k2:Int)+1) (by omega) (by omega)]
     refine ⟨⟨rfl,k2+1,by simp,by omega,by omega,.inr ?_,by rw [g5];exact upJ_step hk11 hn2⟩,by dsimp only;omega⟩
     intro r h1 h2
     rcases g3 with ⟨h,_⟩|h
     ·exact absurd hn2 h
     ·by_cases e:r=k2
      ·subst e;exact hn2
      ·exact h r h1 (by omega)
    ·intro hn
     have hn2:rk2 k2≠noS:=by unfold noS;omega
     refine ⟨rfl,k2,rfl,g1,g2,hn2,?_,by rw [g5,upJ_stop hn2]⟩
     rcases g3 with ⟨_,h⟩|h
     ·exact .inl h
     ·exact .inr h
  ·refine ⟨fun k w'=>w'=w2∧∃k':Nat,k=(k':Int)∧1≤k'∧k'≤x.toNat.log2+1∧(rk2 k'≠noS∨(∀r,k'<r→r≤x.toNat.log2+1→rk2 r=noS))∧dnK (fun i=>(nd i).c) rk2 (x.toNat.log2+1)=dnK (fun i=>(nd i).c) rk2 k',fun k _=>k.toNat,⟨rfl,x.toNat.log2+1,?_,by omega,by omega,.inr (fun r h1 h2=>by omega),rfl⟩,?_⟩
   ·rw [wU8 (x:=((x.toNat.log2:Nat):Int)) (by omega) (by omega),wU8 (by omega) (by omega)];omega
   rintro k w3 ⟨rfl,k',rfl,hk1,hkl,hkk,hdn⟩
   unfold q129_L8
   have out:rk2 k'≠noS→dnK (fun i=>(nd i).c) rk2 k'=k'→(w3=w3∧∃k2:Nat,(k':Int)=(k2:Int)∧1≤k2∧k2≤12∧((rk2 k2≠noS∧k2≤x.toNat.log2+1)∨(∀r,1≤r→r≤k2→rk2 r=noS))∧k2=dnK (fun i=>(nd i).c) rk2 (x.toNat.log2+1)):=fun h h'=>⟨rfl,k',rfl,hk1,by omega,.inl ⟨h,hkl⟩,by rw [hdn,h']⟩
   have un:1<k'→dnK (fun i=>(nd i).c) rk2 k'=if rk2 k'=noS then dnK (fun i=>(nd i).c) rk2 (k'-1) else if rk2 (k'-1)=noS then k' else if (((nd (rk2 k')).c:Nat):Int)≤IntKind.u32.wrap (2*(((nd (rk2 (k'-1))).c:Nat):Int)) then k' else dnK (fun i=>(nd i).c) rk2 (k'-1):=by
    intro h
    obtain ⟨q,rfl⟩:∃q,k'=q+2:=⟨k'-2,by omega⟩
    rw [dnK]
    rfl
   refine cnd_d ?_ ?_
   ·intro hc1
    have e1:IntKind.u8.wrap ((k':Int)-1)=((k'-1:Nat):Int):=by rw [wU8 (by omega) (by omega)];omega
    refine joinP_id ?_
    unfold q129_X7 q129_J6
    rw [e1]
    refine ixA_o rfl (by omega) ?_
    rw [Nat.zero_add]
    refine ld_b (t := .I .u32) (x:=((rk2 k':Nat):Int)) W2.r (arrC_get (by omega)) ?_
    refine ixA_o (k:=k'-1) rfl (by omega) ?_
    rw [Nat.zero_add]
    refine ld_b (t := .I .u32) (x:=((rk2 (k'-1):Nat):Int)) W2.r (arrC_get (by omega)) ?_
    refine cnd_d ?_ ?_
    ·intro hn
     have hn2:rk2 k'=noS:=by unfold noS;omega
     refine ⟨⟨rfl,k'-1,rfl,by omega,by omega,.inr ?_,by rw [hdn,un (by omega),if_pos hn2]⟩,by dsimp only;omega⟩
     intro r h1 h2
     rcases hkk with h|h
     ·exact absurd hn2 h
     ·by_cases e:r=k'
      ·subst e;exact hn2
      ·exact h r (by omega) h2
    ·intro hn
     have hn2:rk2 k'≠noS:=by unfold noS;omega
     refine cnd_d (fun h6=>out hn2 (by rw [un (by omega),if_neg hn2,if_pos (by unfold noS;omega)])) ?_
     intro hl
     have hl2:rk2 (k'-1)≠noS:=by unfold noS;omega
     have v1:=rkv k' hk1 (by omega)
     have v2:=rkv (k'-1) (by omega) (by omega)
     refine ixS_o rfl (by omega) ?_
     obtain ⟨f1,f2⟩:=W2.nf (rk2 k') (by omega)
     refine c123 W2.n f1 f2 ?_
     refine ixS_o rfl (by omega) ?_
     obtain ⟨g1,g2⟩:=W2.nf (rk2 (k'-1)) (by omega)
     refine c123 W2.n g1 g2 ?_
     have ec:∀i,i<N→(NB nd b2 N i).c=(nd i).c:=fun i hi=>by rw [NB_in hi]
     rw [ec _ (by omega),ec _ (by omega)]
     refine cnd_d (fun h6=>out hn2 (by rw [un (by omega),if_neg hn2,if_neg hl2,if_pos h6])) (fun h6 => ?_)
     exact ⟨⟨rfl,k'-1,rfl,by omega,by omega,.inl hl2,by rw [hdn,un (by omega),if_neg hn2,if_neg hl2,if_neg h6]⟩,by dsimp only;omega⟩
   ·intro hc1
    have hk:k'=1:=by omega
    subst hk
    by_cases hn:rk2 1=noS
    ·refine ⟨rfl,1,rfl,by omega,by omega,.inr ?_,by rw [hdn];rfl⟩
     intro r h1 h2
     have:r=1:=by omega
     subst this;exact hn
    ·exact out hn rfl
 ·intro hc
  exact hk w2 b2 rk2 F2 x (by omega) W2 hr2 I2 (X2 _ _ (.stop (by omega)))
end
def RL1 (H N:Nat) (b rk:Nat→Nat):Prop:=(rk 1=noS∧∀i,i<N→b i+1≠H)∨(rk 1<N∧b (rk 1)+1=H∧∀i,rk 1<i→i<N→b i+1≠H)
structure BackI (H N n:Nat) (b rk:Nat→Nat) (tc:Int):Prop where
 dl:DLs H N b
 kr:(krS H b N:Int)=((2^H:Nat):Int)+tc
 le:tc≤0
 ge:0≤(m0S H b N:Int)+tc
 ex:tc≠0→∃i,i<N∧b i<H
 rl:RL1 H N b rk
 top:rk 1=noS→n<N∧∀i,n<i→i<N→b i=H
theorem back_step {H N n q:Nat} {b rk:Nat→Nat} {tc:Int} (hN:N≤256) (hH:5≤H) (I:BackI H N n b rk tc) (h0:tc<0) (hq:q<N) (hqb:b q=H) (hpre:∀i,i<q→b i+1≤H) :
  BackI H N n (updN b q (H-1)) (updN rk 1 q) (tc+1):=by
 have hk:=krS_upd H b q (H-1) hq
 have hm:=m0S_upd H b q (H-1) hq
 rw [hqb,Nat.sub_self,show H-(H-1)=1 by omega] at hk
 rw [if_pos hqb,if_neg (by omega)] at hm
 have hkr:=I.kr
 have hge:=I.ge
 obtain ⟨i0,hi0,hi0b⟩:=I.ex (by omega)
 have hi0q:i0<q:=by
  by_cases h:i0<q
  ·exact h
  ·have:=I.dl.mono q i0 (by omega) hi0;omega
 refine ⟨⟨?_,?_,?_⟩,by omega,by omega,by omega,?_,?_,?_⟩
 ·intro i hi
  unfold updN
  split
  ·omega
  ·exact I.dl.one i hi
 ·intro i hi
  unfold updN
  split
  ·omega
  ·exact I.dl.le i hi
 ·intro i j hij hj
  unfold updN
  have:=I.dl.mono i j hij hj
  split<;>split
  ·omega
  ·subst_vars;omega
  ·subst_vars
   have:=hpre i (by omega);omega
  ·omega
 ·intro _
  exact ⟨q,hq,by rw [updN_eq];omega⟩
 ·right
  rw [updN_eq]
  refine ⟨hq,by rw [updN_eq];omega,?_⟩
  intro i hi hiN
  rw [updN_ne (by omega)]
  have:=I.dl.mono q i (by omega) hiN
  omega
 ·intro h
  rw [updN_eq] at h
  unfold noS at h
  omega
inductive BackR (H N:Nat):(Nat→Nat)→Int→(Nat→Nat)→Prop
 | stop {b:Nat→Nat} {tc:Int} : 0≤tc→BackR H N b tc b
 | step {b b':Nat→Nat} {tc:Int} {q:Nat} : tc<0→q<N→b q=H→(∀i,i<q→b i+1≤H)→BackR H N (updN b q (H-1)) (tc+1) b'→BackR H N b tc b'
section
variable {w:World} {nb pb cap H N m:Nat} {nd:Nat→Nd} {b rk:Nat→Nat} {F:Cells}
theorem ph_back {w0:World} {R24:Unit→PT} {tc:Int} (hcap:513≤cap) (d:nb≠pb) (hN:N≤256) (hH5:5≤H) (hH:H≤11) (W:PayW w0 w nb pb cap N nd b rk F) (I:BackI H N m b rk tc) (hm:m<N)
  (hk:∀w' b' rk' F',PayW w0 w' nb pb cap N nd b' rk' F'→DLs H N b'→krS H b' N=2^H→BackR H N b tc b'→R24 () w') :
  q129_J18 (H:Int) ⟨some ⟨nb,1,none⟩,512,cap-1⟩ (m:Int) R24 ⟨pb,0,none⟩ tc w:=by
 unfold q129_J18
 refine ⟨fun x w'=>∃(n:Nat) (b' rk':Nat→Nat) (F':Cells),x.2=(n:Int)∧n<N∧PayW w0 w' nb pb cap N nd b' rk' F'∧BackI H N n b' rk' x.1∧(∀b9,BackR H N b' x.1 b9→BackR H N b tc b9),fun x _=>(-x.1).toNat,⟨m,b,rk,F,rfl,hm,W,I,fun _ h=>h⟩,?_⟩
 rintro ⟨x,xn⟩ w2 ⟨n,b2,rk2,F2,hxn,hn,W2,I2,X2⟩
 simp only at hxn I2 X2
 subst hxn
 unfold q129_L17
 simp only
 refine cnd_d ?_ ?_
 ·intro hc
  have hm0:0<m0S H b2 N:=by have:=I2.ge;omega
  obtain ⟨j,hj,hjb⟩:=m0S_pos hm0
  obtain ⟨i0,hi0,hi0b⟩:=I2.ex (by omega)
  have fin:∀(w3 w4:World) (q:Nat) (F4:Cells),PayW w0 w3 nb pb cap N nd b2 rk2 F2→q<N→b2 q=H→(∀i,i<q→b2 i+1≤H)→F4=updC F2 (1+q) ({ NB nd b2 N q with b:=H-1 } : Nd).v→Blk w4 nb F4→Blk w4 pb (arrC .u32 13 fun i=>((updN rk2 1 q i:Nat):Int))→Fm w3 w4 [nb,pb] →
    (∃(n':Nat) (b' rk':Nat→Nat) (F':Cells),((n:Nat):Int)=(n':Int)∧n'<N∧PayW w0 w4 nb pb cap N nd b' rk' F'∧BackI H N n' b' rk' (x+1)∧(∀b9,BackR H N b' (x+1) b9→BackR H N b tc b9))∧(-(x+1)).toNat<(-x).toNat:=by
   rintro w3 w4 q F4 W3 hq hqb hpre rfl HN4 HR4 Fr4
   exact ⟨⟨n,_,_,_,rfl,hn,⟨HN4,W3.nf.setB hq (by omega) (by omega),W3.som.upd,HR4,W3.fr.trans Fr4 (fun x hx => .inl hx)⟩,back_step hN hH5 I2 hc hq hqb hpre,fun b9 h9=>X2 b9 (.step hc hq hqb hpre h9)⟩,by omega⟩
  have hx1:IntKind.i64.wrap (x+1)=x+1:=by
   have hle:=m0S_le H b2 N
   have:=I2.ge
   exact wI64 (by omega) (by omega)
  have hH1:IntKind.u8.wrap (((H:Nat):Int)-1)=((H-1:Nat):Int):=by rw [wU8 (by omega) (by omega)];omega
  refine joinP_id ?_
  refine ixA_o (k:=1) rfl (by omega) ?_
  rw [Nat.zero_add]
  refine ld_b (t := .I .u32) (x:=((rk2 1:Nat):Int)) W2.r (arrC_get (by omega)) ?_
  refine cnd_d ?_ ?_
  ·intro h1
   have hns:rk2 1=noS:=by unfold noS;omega
   obtain ⟨hnN,htop⟩:=I2.top hns
   refine ⟨fun y w'=>w'=w2∧∃n2:Nat,y=(n2:Int)∧n2<N∧b2 n2<H∧∀i,n2<i→i<N→b2 i=H,?_,?_⟩
   ·rintro y w3 ⟨rfl,n2,rfl,hn2,hb2,ht2⟩
    unfold q129_J15
    have hjn:n2<j:=by
     by_cases h:n2<j
     ·exact h
     ·have:=I2.dl.mono j n2 (by omega) hn2;omega
    have hq:n2+1<N:=by omega
    have hqb:=ht2 (n2+1) (by omega) hq
    have en:IntKind.u32.wrap ((n2:Int)+1)=((n2+1:Nat):Int):=by rw [wU32 (by omega) (by omega)];omega
    rw [en]
    unfold drw
    refine ixS_o rfl (by omega) ?_
    refine ixS_o rfl (by omega) ?_
    obtain ⟨f1,f2⟩:=W2.nf (n2+1) (by omega)
    refine c128 W2.n.drew f1 f2 ?_
    have eb:(NB nd b2 N (n2+1)).b=H:=by rw [NB_in hq];exact hqb
    rw [eb,hH1]
    refine c126 W2.n.drew f1 f2 (by omega) ?_
    intro w4 HN4 F4
    refine ixA_o (k:=1) rfl (by omega) ?_
    rw [Nat.zero_add]
    refine st_u (W2.r.drew.fr F4 (nm1 d.symm)) (by rw [arrC_get (by omega)];rfl) rfl ?_
    intro w5 HR5 F5
    rw [arrC_nat (by omega)] at HR5
    have hpre:∀i,i<n2+1→b2 i+1≤H:=by
     intro i hi
     have:=I2.dl.mono i n2 (by omega) hn2;omega
    have R:=back_step hN hH5 I2 hc hq hqb hpre
    rw [hx1]
    refine ⟨⟨n2,_,_,_,rfl,hn2,⟨HN4.fr F5 (nm1 d),W2.nf.setB hq (by omega) (by omega),W2.som.upd,HR5,(W2.fr.drew.trans F4 (by intro v hv;simp at hv;simp [hv])).trans F5 (by intro v hv;simp at hv;simp [hv])⟩,⟨R.dl,R.kr,R.le,R.ge,R.ex,R.rl,?_⟩,fun b9 h9=>X2 b9 (.step hc hq hqb hpre h9)⟩,by dsimp only;omega⟩
    intro h
    rw [updN_eq] at h
    unfold noS at h
    omega
   ·refine ⟨fun y w'=>w'=w2∧∃n2:Nat,y=(n2:Int)∧n2<N∧∀i,n2<i→i<N→b2 i=H,fun y _=>y.toNat,⟨rfl,n,rfl,hnN,htop⟩,?_⟩
    rintro y w3 ⟨rfl,n2,rfl,hn2,ht2⟩
    unfold q129_L14
    refine ixS_o rfl (by omega) ?_
    obtain ⟨f1,f2⟩:=W2.nf n2 (by omega)
    refine c128 W2.n f1 f2 ?_
    have eb:(NB nd b2 N n2).b=b2 n2:=by rw [NB_in hn2]
    rw [eb]
    have hi0n:i0≤n2:=by
     by_cases h:i0≤n2
     ·exact h
     ·have:=ht2 i0 (by omega) hi0;omega
    refine cnd_d ?_ ?_
    ·intro h2
     have hne:i0≠n2:=by intro e;subst e;omega
     rw [wU32 (by omega) (by omega)]
     refine ⟨⟨rfl,n2-1,by omega,by omega,?_⟩,by dsimp only;omega⟩
     intro i hi hiN
     by_cases e:i=n2
     ·subst e;omega
     ·exact ht2 i (by omega) hiN
    ·intro h2
     have:=I2.dl.le n2 hn2
     exact ⟨rfl,n2,rfl,hn2,by omega,ht2⟩
  ·intro h1
   have hns:rk2 1≠noS:=by unfold noS;omega
   rcases I2.rl with ⟨h,_⟩|⟨hp,hpb,hp2⟩
   ·exact absurd h hns
   unfold q129_J16
   simp only
   have hjp:rk2 1<j:=by
    by_cases h:rk2 1<j
    ·exact h
    ·have:=I2.dl.mono j (rk2 1) (by omega) hp;omega
   have hq:rk2 1+1<N:=by omega
   have hqb:b2 (rk2 1+1)=H:=by
    have h3:=I2.dl.mono (rk2 1) (rk2 1+1) (by omega) hq
    have h4:=I2.dl.le _ hq
    have h5:=hp2 (rk2 1+1) (by omega) hq
    omega
   have hpre:∀i,i<rk2 1+1→b2 i+1≤H:=by
    intro i hi
    have:=I2.dl.mono i (rk2 1) (by omega) hp;omega
   have en:IntKind.u32.wrap (((rk2 1:Nat):Int)+1)=((rk2 1+1:Nat):Int):=by rw [wU32 (by omega) (by omega)];omega
   unfold drw
   refine ixA_o (k:=1) rfl (by omega) ?_
   rw [Nat.zero_add]
   refine ld_b (t := .I .u32) (x:=((rk2 1:Nat):Int)) W2.r.drew (arrC_get (by omega)) ?_
   rw [en]
   refine ixS_o rfl (by omega) ?_
   refine ixA_o (k:=1) rfl (by omega) ?_
   rw [Nat.zero_add]
   refine ld_b (t := .I .u32) (x:=((rk2 1:Nat):Int)) W2.r.drew (arrC_get (by omega)) ?_
   rw [en]
   refine ixS_o rfl (by omega) ?_
   obtain ⟨f1,f2⟩:=W2.nf (rk2 1+1) (by omega)
   refine c128 W2.n.drew f1 f2 ?_
   have eb:(NB nd b2 N (rk2 1+1)).b=H:=by rw [NB_in hq];exact hqb
   rw [eb,hH1]
   refine ⟨?_,?_⟩
   ·intro f hf
    simp only [List.mem_cons,List.not_mem_nil,or_false] at hf
    subst hf
    show w2.drew.cell? ⟨pb,1,none⟩=_
    rw [W2.r.drew.cell,arrC_get (by omega)]
   refine c126 W2.n.drew f1 f2 (by omega) ?_
   intro w4 HN4 F4
   have HR4:=W2.r.drew.fr F4 (nm1 d.symm)
   refine ixA_o (k:=1) rfl (by omega) ?_
   rw [Nat.zero_add]
   refine ld_b (t := .I .u32) (x:=((rk2 1:Nat):Int)) HR4 (arrC_get (by omega)) ?_
   rw [en]
   refine ixA_o (k:=1) rfl (by omega) ?_
   rw [Nat.zero_add]
   refine st_u HR4 (by rw [arrC_get (by omega)];rfl) rfl ?_
   intro w5 HR5 F5
   rw [arrC_nat (by omega)] at HR5
   rw [hx1]
   exact fin w2 w5 (rk2 1+1) _ W2 hq hqb hpre rfl (HN4.fr F5 (nm1 d)) HR5 (((Fm.refl w2 [nb,pb]).drew.trans F4 (by intro v hv;simp at hv;simp [hv])).trans F5 (by intro v hv;simp at hv;simp [hv]))
 ·intro hc
  have h0:x=0:=by have:=I2.le;omega
  refine hk w2 b2 rk2 F2 W2 I2.dl ?_ (X2 _ (.stop (by omega)))
  have:=I2.kr
  omega
theorem ph_rank {R32:Unit→PT} (HN:Blk w nb F) (hF:NF F (NB nd b N)) (HR:Blk w pb (arrC .u32 13 fun i=>((rk i:Nat):Int))) (d:nb≠pb) (hN:N≤256) (hH:H≤11) (hd:DLs H N b) (hns:∀r,1≤r→r≤12→rk r=noS) (hm:m<N) (htop:∀i,m<i→i<N→b i=H)
  (hk:∀w' rk',RL H N b rk'→Blk w' nb F→Blk w' pb (arrC .u32 13 fun i=>((rk' i:Nat):Int))→Fm w w' [pb]→R32 () w') :
  loopP ((H:Int),(m:Int)) (q129_L5 (H:Int) ⟨some ⟨nb,1,none⟩,512,cap-1⟩ ⟨pb,0,none⟩ R32) w:=by
 refine ⟨fun x w'=>∃(p cur:Nat) (rk':Nat→Nat),x=((cur:Int),(p:Int)-1)∧p≤m+1∧cur≤H∧(∀i,p≤i→i<N→cur≤b i)∧(cur=H∨∃i,p≤i∧i<N∧b i=cur) ∧
   (∀r,1≤r→r≤12→(rk' r=noS∧∀i,p≤i→i<N→b i+r≠H)∨(rk' r<N∧p≤rk' r∧b (rk' r)+r=H∧∀i,rk' r<i→i<N→b i+r≠H))∧Blk w' nb F∧Blk w' pb (arrC .u32 13 fun i=>((rk' i:Nat):Int))∧Fm w w' [pb],fun x _=>(x.2+1).toNat,
  ⟨m+1,H,rk,by rw [show ((m+1:Nat):Int)-1=(m:Int) by omega],Nat.le_refl _,Nat.le_refl _,fun i h1 h2=>by rw [htop i (by omega) h2];exact Nat.le_refl _,.inl rfl,fun r h1 h2 => .inl ⟨hns r h1 h2,fun i h3 h4=>by rw [htop i (by omega) h4];omega⟩,HN,HR,Fm.refl _ _⟩,?_⟩
 rintro x w2 ⟨p,cur,rk2,rfl,hp,hcH,hcur,hcur2,hrk,HN2,HR2,Fr⟩
 unfold q129_L5
 simp only
 refine cnd_d ?_ ?_
 ·intro hc
  have hq:p-1<N:=by omega
  have epos:((p:Int)-1)=((p-1:Nat):Int):=by omega
  have e64:IntKind.i64.wrap ((p:Int)-1-1)=((p-1:Nat):Int)-1:=by rw [wI64 (by omega) (by omega)];omega
  refine joinP_id ?_
  unfold q129_X4 q129_J3
  simp only
  rw [e64,epos]
  refine ixS_o rfl (by omega) ?_
  obtain ⟨f1,f2⟩:=hF (p-1) (by omega)
  refine c128 HN2 f1 f2 ?_
  have eb:(NB nd b N (p-1)).b=b (p-1):=by rw [NB_in hq]
  have hle:=hd.le _ hq
  have hone:=hd.one _ hq
  rw [eb]
  refine cnd_d ?_ ?_
  ·intro h1
   have hbe:b (p-1)=cur:=by
    rcases hcur2 with h|⟨i,h2,h3,h4⟩
    ·omega
    ·have:=hd.mono (p-1) i (by omega) h3;omega
   refine ⟨⟨p-1,cur,rk2,rfl,by omega,hcH,?_,?_,?_,HN2,HR2,Fr⟩,by omega⟩
   ·intro i h2 h3
    by_cases e:i=p-1
    ·subst e;omega
    ·exact hcur i (by omega) h3
   ·exact .inr ⟨p-1,Nat.le_refl _,hq,hbe⟩
   ·intro r hr1 hr2
    rcases hrk r hr1 hr2 with ⟨h2,h3⟩|⟨h2,h3,h4,h5⟩
    ·left
     refine ⟨h2,?_⟩
     intro i h6 h7
     by_cases e:i=p-1
     ·subst e
      rcases hcur2 with h|⟨i2,g1,g2,g3⟩
      ·omega
      ·have:=h3 i2 g1 g2;omega
     ·exact h3 i (by omega) h7
    ·exact .inr ⟨h2,by omega,h4,h5⟩
  ·intro h1
   have hlt:b (p-1)<cur:=by omega
   refine ixS_o rfl (by omega) ?_
   refine c128 HN2 f1 f2 ?_
   rw [eb]
   have ei:IntKind.u8.wrap ((H:Int)-((b (p-1):Nat):Int))=((H-b (p-1):Nat):Int):=by rw [wU8 (by omega) (by omega)];omega
   rw [ei]
   refine ixA_o rfl (by omega) ?_
   rw [Nat.zero_add]
   refine st_u HR2 (by rw [arrC_get (by omega)];rfl) rfl ?_
   intro w3 HR3 F3
   rw [wU32 (x:=((p-1:Nat):Int)) (by omega) (by omega),arrC_nat (by omega)] at HR3
   refine ⟨⟨p-1,b (p-1),_,rfl,by omega,by omega,?_,.inr ⟨p-1,Nat.le_refl _,hq,rfl⟩,?_,HN2.fr F3 (nm1 d),HR3,Fr.trans F3 (fun x hx => .inl hx)⟩,by omega⟩
   ·intro i h2 h3
    exact hd.mono (p-1) i h2 h3
   ·intro r hr1 hr2
    by_cases e:r=H-b (p-1)
    ·right
     subst e
     rw [updN_eq]
     refine ⟨hq,Nat.le_refl _,by omega,?_⟩
     intro i h2 h3
     have:=hcur i (by omega) h3
     omega
    ·rw [updN_ne e]
     rcases hrk r hr1 hr2 with ⟨h2,h3⟩|⟨h2,h3,h4,h5⟩
     ·left
      refine ⟨h2,?_⟩
      intro i h6 h7
      by_cases e2:i=p-1
      ·subst e2;omega
      ·exact h3 i (by omega) h7
     ·exact .inr ⟨h2,by omega,h4,h5⟩
 ·intro hc
  have hp0:p=0:=by omega
  subst hp0
  refine hk w2 rk2 ?_ HN2 HR2 Fr
  intro r hr1 hr2
  rcases hrk r hr1 hr2 with ⟨h2,h3⟩|⟨h2,h3,h4,h5⟩
  ·exact .inl ⟨h2,fun i hi=>h3 i (by omega) hi⟩
  ·exact .inr ⟨h2,h4,h5⟩
end
end Go.Sx
