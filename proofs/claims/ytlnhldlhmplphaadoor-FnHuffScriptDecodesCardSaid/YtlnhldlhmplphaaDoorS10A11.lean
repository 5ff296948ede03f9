/- Lemmas for the proof: H61 H62 Z4. No conditions. -/
import Derived.Test.YtlnhldlhmplphaaDoorS10A10
set_option linter.unusedVariables false
set_option linter.unusedSimpArgs false
namespace Go.Sx
open Go Go.Proofs
set_option maxRecDepth 4000
structure GTab where
 tbl:List Nat
 M:Nat
 ln:Nat→Nat
 L:Nat
def GTab.tab (T:GTab):Prop:=TabL T.tbl T.M T.ln T.L
def GB (b:Bool) (xs:List Nat) (R:RB) (T:GTab) (prev:Option GTab):Prop :=
 T.tab∧∃ol,EncB b (vC T.ln T.L T.M) T.ln xs ol∧(∀x∈xs,x<T.L∧0<T.ln x)∧ol.length≤2^20∧(R.r=false→R.t=T.tbl∧R.o=T.tbl++ol)∧(R.r=true→prev=some T∧R.o=ol)
def pv (T:Nat→GTab) (j:Nat):Option GTab:=if j=0 then none else some (T (j-1))
def GA (b:Bool) (xss:List (List Nat)) (R:Nat→RB) (T:Nat→GTab) (i:Nat):Prop:=∀j (h:j<xss.length),j<i→(∀l,l≤j→(R l).k=0)→GB b xss[j] (R j) (T j) (pv T j)
def updR (R:Nat→RB) (i:Nat) (r:RB):Nat→RB:=fun j=>if j=i then r else R j
def updT (T:Nat→GTab) (i:Nat) (t:GTab):Nat→GTab:=fun j=>if j=i then t else T j
theorem updR_lt {R:Nat→RB} {i j:Nat} {r:RB} (h:j<i):updR R i r j=R j:=if_neg (by omega)
theorem updR_at {R:Nat→RB} {i:Nat} {r:RB} : updR R i r i=r:=if_pos rfl
theorem updT_lt {T:Nat→GTab} {i j:Nat} {t:GTab} (h:j<i):updT T i t j=T j:=if_neg (by omega)
theorem updT_at {T:Nat→GTab} {i:Nat} {t:GTab} : updT T i t i=t:=if_pos rfl
theorem GA.step {b:Bool} {xss:List (List Nat)} {R:Nat→RB} {T:Nat→GTab} {i:Nat} {r:RB} {t:GTab} (h:GA b xss R T i) (hnew:(∀l,l<i→(R l).k=0)→r.k=0→∀hj:i<xss.length,GB b xss[i] r t (pv T i)):GA b xss (updR R i r) (updT T i t) (i+1):=by
 intro j hj hji hz
 by_cases e:j=i
 ·subst e
  rw [updR_at,updT_at]
  have e2:pv (updT T j t) j=pv T j:=by
   unfold pv
   by_cases h0:j=0
   ·rw [if_pos h0,if_pos h0]
   ·rw [if_neg h0,if_neg h0,updT_lt (by omega)]
  rw [e2]
  refine hnew (fun l hl => ?_) ?_ hj
  ·have:=hz l (by omega);rw [updR_lt hl] at this;exact this
  ·have:=hz j (Nat.le_refl _);rw [updR_at] at this;exact this
 ·have hlt:j<i:=by omega
  rw [updR_lt hlt,updT_lt hlt]
  have e2:pv (updT T i t) j=pv T j:=by
   unfold pv
   by_cases h0:j=0
   ·rw [if_pos h0,if_pos h0]
   ·rw [if_neg h0,if_neg h0,updT_lt (by omega)]
  rw [e2]
  exact h j hj hlt (fun l hl=>by have:=hz l hl;rw [updR_lt (by omega)] at this;exact this)
structure SJ (w0 w:World) (g pol i:Nat) (b:Bool) (s:HU) (col:Nat→Nat) (s0:Sl) (ins:List Sl) (xss:List (List Nat)) (tl:List Nat) (x1 x2 x3 x4:Sl) (OS TS:Nat→Sl) (R:Nat→RB) (T:Nat→GTab):Prop where
 x:RT w0 w g s col s0 ins xss tl .nilIface
 re:s.reuse=(pol:Nat)
 wl:s.wll=0
 tl_:s.tl=0∨s.tl=11
 si:SI w i i i i x1 x2 x3 x4 col OS TS R
 le:tl.length≤2^30
 kk:∀j,j<i→0≤(R j).k∧(R j).k≤4
 ga:GA b xss R T i
 pt:(∀l,l<i→(R l).k=0)→(i=0∧s.pt.l=0)∨(0<i∧(T (i-1)).tab∧PTc w s.pt (T (i-1)).M (T (i-1)).ln (T (i-1)).L)
theorem colF_base {g u:Nat} (h:u<g):colF g u=0∨colF g u=7:=by
 unfold colF
 split
 ·exact .inl rfl
 ·rw [if_neg (by omega)];exact .inr rfl
theorem RT.go {w0 w w':World} {g:Nat} {s s':HU} {col col':Nat→Nat} {s0:Sl} {ins:List Sl} {xss:List (List Nat)} {tl tl':List Nat} {v v':Value} (h:RT w0 w g s col s0 ins xss tl v) (G:GoW w w' col col') (W:HW w' g s' col') (ot:Arr .u8 w' s'.outT tl') (oc:∀a,s'.outT.a=some a→tl' ≠ []→col' a.block=2) (eg:v' = .nilIface∨EG w' v'):RT w0 w' g s' col' s0 ins xss tl' v':=by
 obtain ⟨⟨S,F,hS⟩,hc⟩:=G
 have hsz:=h.fm.size
 have n07:∀ {c:Nat},own c→c≠0∧c≠7:=by
  intro c h'
  have:=h'.1
  have:=h'.2
  omega
 refine ⟨W,h.inn.mv F (fun u hu hl=>n07 (hS u hu hl)) hc,ot,oc,h.fm.trans F ?_,?_,eg⟩
 ·intro u hu
  right
  rcases Nat.lt_or_ge u w0.heap.size with h1|h1
  ·have h2:=h.base u h1
   have h3:=n07 (hS u hu (by omega))
   omega
  ·exact h1
 ·intro u hu
  have h2:=h.base u hu
  rw [hc u (by omega) (fun h'=>by have:=n07 h';omega)]
  exact h2
section
variable {w0:World} {s0:Sl} {ins:List Sl} {xss:List (List Nat)} {b:Bool} {pol:Nat}
theorem arr_nil {w:World} : Arr .u8 w ⟨none,0,0⟩ []:=⟨rfl,Nat.le_refl _,fun _=>rfl,by intro b h;cases h⟩
theorem c35 {K4:Sl×Sl×Sl×Sl→PT} (G0:GE w0) (hs:ArS w0 s0 ins) (hlen:ins.length=xss.length) (ha:∀j (h1:j<ins.length) (h2:j<xss.length),Arr .u8 w0 ins[j] xss[j]∧By xss[j]) (hn:xss.length≤20) (hxl:∀xs∈xss,xs.length≤2^18) (hpol:pol≤3)
  (hk:∀w' col x1 x2 x3 x4 OS TS R T,SI w' xss.length xss.length xss.length xss.length x1 x2 x3 x4 col OS TS R→IN w' col s0 ins xss→(∀j,j<xss.length→0≤(R j).k∧(R j).k≤4)→GA b xss R T xss.length→Fm w0 w' []→K4 (x1,x2,x3,x4) w') :
  callP Tryd.prog 35 #[.slice s0.a s0.l s0.c,.bool b,.int .u8 (pol:Nat)] [.c .S,.c .S,.c .S,.c .S] K4 w0:=by
 have hsl:=hs.len
 apply q35_ok
 unfold q35 nwA
 have F1:Fm w0 (w0.alloc (.cells ⟨List.set z94 263 (.int .u8 ((pol:Nat):Int))⟩ 94)) []:=(Fm.refl w0 []).alloc
 have ecell:(fun i=>(⟨List.set z94 263 (.int .u8 ((pol:Nat):Int))⟩:Array Value)[i]?)=(HU.start ((pol:Nat):Int) 0 0).at:=by
  rw [set_cells _ _ _ (by rw [z94_len];decide),HU.atZ]
  exact HU.setT (s:=HU.zero) (s':=HU.start ((pol:Nat):Int) 0 0) 7 rfl rfl rfl (by decide)
 have B1:=(Blk.new (w:=w0) (cs:=⟨List.set z94 263 (.int .u8 ((pol:Nat):Int))⟩) (T:=94)).congr ecell
 have hs1:(w0.alloc (.cells ⟨List.set z94 263 (.int .u8 ((pol:Nat):Int))⟩ 94)).heap.size=w0.heap.size+1:=World.size_alloc _ _
 generalize w0.alloc (.cells ⟨List.set z94 263 (.int .u8 ((pol:Nat):Int))⟩ 94)=w1 at *
 have W1:HW w1 w0.heap.size (HU.start ((pol:Nat):Int) 0 0) (colF w0.heap.size):=HW.fresh G0 F1 B1 rfl rfl rfl rfl rfl rfl (fun _ _=>rfl)
 have inn1:IN w1 (colF w0.heap.size) s0 ins xss:=by
  refine ⟨hs.fr F1 (by simp),fun a h hx=>colF_base (hs.old hx a h),hlen,?_⟩
  intro j h1 h2
  obtain ⟨hA,hB⟩:=ha j h1 h2
  exact ⟨hA.fr F1 (by simp),hB,fun a h hx=>colF_base (hA.old hx a h)⟩
 have X1:RT w0 w1 w0.heap.size (HU.start ((pol:Nat):Int) 0 0) (colF w0.heap.size) s0 ins xss [] .nilIface:=⟨W1,inn1,arr_nil,(fun a _ h=>absurd rfl h),F1,fun u hu=>colF_base hu,.inl rfl⟩
 refine joinP_id ?_
 refine ⟨fun x w'=>∃(i:Nat) (s:HU) (col:Nat→Nat) (tl:List Nat) (OS TS:Nat→Sl) (R:Nat→RB) (T:Nat→GTab),i≤xss.length∧x.2.2.2.2=(i:Int)∧SJ w0 w' w0.heap.size pol i b s col s0 ins xss tl x.1 x.2.1 x.2.2.1 x.2.2.2.1 OS TS R T,fun x _=>xss.length-x.2.2.2.2.toNat,
  ⟨0,_,_,[],fun _=>⟨none,0,0⟩,fun _=>⟨none,0,0⟩,fun _=>⟨0,[],[],false⟩,fun _=>⟨[],0,fun _=>0,0⟩,Nat.zero_le _,rfl,⟨X1,rfl,rfl,.inl rfl,⟨Vec.nil,Vec.nil,Vec.nil,Vec.nil,by simp [Sl.bs],by simp [Sl.bs],by simp [Sl.bs],by simp [Sl.bs],fun j hj=>absurd hj (Nat.not_lt_zero _),fun j hj=>absurd hj (Nat.not_lt_zero _),fun j hj=>absurd hj (Nat.not_lt_zero _),fun j hj=>absurd hj (Nat.not_lt_zero _)⟩,by simp,fun j hj=>absurd hj (Nat.not_lt_zero _),fun j _ hj=>absurd hj (Nat.not_lt_zero _),fun _ => .inl ⟨rfl,rfl⟩⟩⟩,?_⟩
 rintro ⟨x1,x2,x3,x4,xi⟩ w2 ⟨i,s,col,tl,OS,TS,R,T,hi,hxi,J⟩
 simp only at hxi J
 subst hxi
 unfold q35_L0
 simp only
 refine cnd_d ?_ ?_
 ·intro hc
  have hi2:i<xss.length:=by omega
  have hii:i<ins.length:=by omega
  refine J.x.inn.s.ldS i rfl hii ?_
  obtain ⟨hA,hB,hfar⟩:=J.x.inn.a i hii hi2
  have hxs:=hxl _ (List.getElem_mem hi2)
  have n07:∀ {c:Nat},c=0∨c=7→¬own c:=by
   intro c h h'
   have:=h'.1
   have:=h'.2
   omega
  obtain ⟨M0,ln0,L0,hp,hfact⟩:∃M0 ln0 L0,(s.pt.l=0∨PTc w2 s.pt M0 ln0 L0)∧((∀l,l<i→(R l).k=0)→(i=0∧L0=0)∨(0<i∧(T (i-1)).tab∧(T (i-1)).M=M0∧(T (i-1)).ln=ln0∧(T (i-1)).L=L0)):=by
   by_cases hall:∀l,l<i→(R l).k=0
   ·rcases J.pt hall with ⟨h1,h2⟩|⟨h1,h2,h3⟩
    ·exact ⟨0,fun _=>0,0,.inl h2,fun _ => .inl ⟨h1,rfl⟩⟩
    ·exact ⟨_,_,_,.inr h3,fun _ => .inr ⟨h1,h2,rfl,rfl,rfl⟩⟩
   ·rcases J.x.hw.ptv with h|⟨M,ln,L,h⟩
    ·exact ⟨0,fun _=>0,0,.inl h,fun h'=>absurd h' hall⟩
    ·exact ⟨M,ln,L,.inr h,fun h'=>absurd h' hall⟩
  obtain ⟨t,ht,ht2,htok⟩:∃t:Nat,s.tl=(t:Nat)∧t<256∧(s.tl=0∨(5≤s.tl∧s.tl≤11)):=by
   rcases J.tl_ with h|h
   ·exact ⟨0,h,by decide,.inl h⟩
   ·exact ⟨11,h,by decide,.inr (by rw [h];decide)⟩
  have hsx:∀ {s':HU},SX s s'→s'.reuse=(pol:Nat)∧s'.wll=0∧(s'.tl=0∨s'.tl=11):=by
   intro s' h
   refine ⟨h.reuse.trans J.re,h.wll.trans J.wl,?_⟩
   rcases h.tl with h1|⟨h1,h2⟩
   ·rw [h1];exact J.tl_
   ·exact .inr h2
  have fin:∀ {w3:World} {s3:HU} {col3:Nat→Nat} {tl3:List Nat} {v:Value} (o:Sl) (ob:List Nat) (rb:Bool) (t3:GTab),GoW w2 w3 col col3→RT w0 w3 w0.heap.size s3 col3 s0 ins xss tl3 v→SX s s3→Arr .u8 w3 o ob→ob.length≤2^30→tl3.length≤2^30 →
    ((∀l,l<i→(R l).k=0)→v = .nilIface→GB b xss[i] ⟨0,ob,tl3,rb⟩ t3 (pv T i)∧PTc w3 s3.pt t3.M t3.ln t3.L) →
    (callP Tryd.prog 47 #[(.slice o.a o.l o.c)] [.c .S] fun (r11:Sl)=>nw [(.slice r11.a r11.l r11.c)] 22 fun (p12:Addr)=>app z22 22 24 x1 ⟨(some p12),1,1⟩ fun (s13:Sl)=>ld .S ⟨w0.heap.size,257,none⟩ fun (s14:Sl)=>callP Tryd.prog 47 #[(.slice s14.a s14.l s14.c)] [.c .S] fun (r15:Sl)=>nw [(.slice r15.a r15.l r15.c)] 22 fun (p16:Addr)=>app z22 22 24 x2 ⟨(some p16),1,1⟩ fun (s17:Sl)=>nw [(.bool rb)] 4 fun (p18:Addr)=>app z4 4 1 x3 ⟨(some p18),1,1⟩ fun (s19:Sl)=>callP Tryd.prog 51 #[v] [.c (.I .i64)] fun (r20:Int)=>nw [(.int .i64 r20)] 3 fun (p21:Addr)=>app z3 3 8 x4 ⟨(some p21),1,1⟩ fun (s22:Sl)=>(fun s' w'=>(∃(i:Nat) (s:HU) (col:Nat→Nat) (tl:List Nat) (OS TS:Nat→Sl) (R:Nat→RB) (T:Nat→GTab),i≤xss.length∧s'.2.2.2.2=(i:Int)∧SJ w0 w' w0.heap.size pol i b s col s0 ins xss tl s'.1 s'.2.1 s'.2.2.1 s'.2.2.2.1 OS TS R T)∧xss.length-s'.2.2.2.2.toNat<xss.length-((i:Nat):Int).toNat) (s13,s17,s19,s22,(IntKind.wrap .i64 (((i:Nat):Int)+(1:Int))))) w3:=by
   intro w3 s3 col3 tl3 v o ob rb t3 G3 X3 S3 AO hob htl3 hgood
   have I3:SI w3 i i i i x1 x2 x3 x4 col3 OS TS (updR R i ⟨0,ob,tl3,rb⟩):=by
    obtain ⟨⟨S,F,hS⟩,hcc⟩:=G3
    exact (J.si.mv F hS hcc).re (fun j hj=>updR_lt hj)
   refine s35_tail (A7:=fun s' w'=>(∃(i:Nat) (s:HU) (col:Nat→Nat) (tl:List Nat) (OS TS:Nat→Sl) (R:Nat→RB) (T:Nat→GTab),i≤xss.length∧s'.2.2.2.2=(i:Int)∧SJ w0 w' w0.heap.size pol i b s col s0 ins xss tl s'.1 s'.2.1 s'.2.2.1 s'.2.2.2.1 OS TS R T)∧xss.length-s'.2.2.2.2.toNat<xss.length-((i:Nat):Int).toNat) G0 X3 I3 (by omega) AO hob htl3 (by rw [updR_at]) (by rw [updR_at]) (by rw [updR_at]) ?_
   intro w4 col4 y1 y2 y3 y4 OS4 TS4 k hk0 hk4 hkn hke X4 I4 P4
   rw [updR_at] at I4
   have eR:(fun j=>if j=i then ({ (⟨0,ob,tl3,rb⟩:RB) with k:=k } : RB) else updR R i ⟨0,ob,tl3,rb⟩ j)=updR R i ⟨k,ob,tl3,rb⟩:=by
    funext j
    unfold updR
    by_cases e:j=i
    ·rw [if_pos e,if_pos e]
    ·rw [if_neg e,if_neg e,if_neg e]
   rw [eR] at I4
   obtain ⟨r1,r2,r3⟩:=hsx S3
   refine ⟨⟨i+1,s3,col4,tl3,OS4,TS4,updR R i ⟨k,ob,tl3,rb⟩,updT T i t3,hi2,rfl,⟨⟨X4.hw,X4.inn,X4.ot,X4.oc,X4.fm,X4.base,.inl rfl⟩,r1,r2,r3,I4,htl3,?_,?_,?_⟩⟩,by first|omega|(dsimp only;omega)|(simp only [];omega)⟩
   ·intro j hj
    by_cases e:j=i
    ·subst e;rw [updR_at];exact ⟨hk0,hk4⟩
    ·rw [updR_lt (by omega)];exact J.kk j (by omega)
   ·refine J.ga.step ?_
    intro hall hk00 hj
    have hvn:v = .nilIface:=Classical.byContradiction fun h=>by have:=hke h;have:k=0:=hk00;omega
    have:=(hgood hall hvn).1
    have hk00:k=0:=hk00
    rw [hk00]
    exact this
   ·intro hall
    have hk00:k=0:=by have:=hall i (by omega);rw [updR_at] at this;exact this
    have hvn:v = .nilIface:=Classical.byContradiction fun h=>by have:=hke h;omega
    have h5:=hgood (fun l hl=>by have:=hall l (by omega);rw [updR_lt hl] at this;exact this) hvn
    right
    refine ⟨by omega,?_⟩
    rw [show i+1-1=i by omega,updT_at]
    exact ⟨h5.1.1,P4 _ _ _ h5.2⟩
  refine c50 (b:=b) (M0:=M0) (ln0:=ln0) (L0:=L0) J.x.hw ht ht2 J.wl hA hB hxs (fun a h1 h2=>n07 (hfar a h1 h2)) hp ⟨?_,?_,?_⟩
  ·intro w3 s3 col3 v hv hv2 _ W3 hoT S3 G3
   have hEG:=hv2 htok
   have hvn:v ≠ .nilIface:=by intro e;subst e;have:=hEG.2;cases this
   dsimp only
   simp only [add_mk,Nat.zero_add]
   rcases hoT with h|⟨h1,h2,h3⟩
   ·have X3:=J.x.go (tl' := []) G3 W3 (by rw [h];exact arr_nil) (fun a _ hx=>absurd rfl hx) (.inr hEG)
    exact fin ⟨none,0,0⟩ [] false ⟨[],0,fun _=>0,0⟩ G3 X3 S3 arr_nil (by simp) (by simp) (fun _ e=>absurd e hvn)
   ·subst h3
    have hg1:∀a,s.outT.a=some a→tl ≠ []→a.block ∉ [w0.heap.size]:=by
     intro a ha' hx
     have h4:=J.x.oc a ha' hx
     simp
     intro e
     rw [e,J.x.hw.cg] at h4
     cases h4
    have X3:=J.x.go (tl':=tl) G3 W3 (by rw [h1];exact J.x.ot.fr h2 hg1) (by rw [h1];exact J.x.oc) (.inr hEG)
    exact fin ⟨none,0,0⟩ [] false ⟨[],0,fun _=>0,0⟩ G3 X3 S3 arr_nil (by simp) J.le (fun _ e=>absurd e hvn)
  ·intro w3 s3 col3 so ol hr hEn hx hlt hso V3 W3 P3 hoT S3 G3
   dsimp only
   simp only [add_mk,Nat.zero_add]
   have X3:=J.x.go (tl' := []) (v' := .nilIface) G3 W3 (by rw [hoT];exact arr_nil) (fun a _ hx=>absurd rfl hx) (.inl rfl)
   refine fin so ol true (T (i-1)) G3 X3 S3 V3.vec.arr (by omega) (by simp) ?_
   intro hall _
   rcases hfact hall with ⟨h1,h2⟩|⟨h1,h2,h3,h4,h5⟩
   ·exfalso
    have hne:xss[i] ≠ []:=by intro e;rw [e] at hlt;simp at hlt
    obtain ⟨x0,hx0⟩:=List.exists_mem_of_ne_nil _ hne
    have:=(hx x0 hx0).1
    omega
   ·subst h3 h4 h5
    refine ⟨⟨h2,ol,hEn,hx,by omega,(fun h=>by cases h),fun _=>⟨?_,rfl⟩⟩,P3⟩
    unfold pv
    rw [if_neg (by omega)]
  ·intro w3 s3 col3 so M ln L tbl ol _ _ _ _ hN hbt hwt hEn hlt hso V3 AT AD hoc W3 P3 S3 G3
   dsimp only
   simp only [add_mk,Nat.zero_add]
   have hpl:(tbl++ol).length=tbl.length+ol.length:=List.length_append
   have X3:=J.x.go (tl':=tbl) (v' := .nilIface) G3 W3 AT (fun a h _=>hoc a h) (.inl rfl)
   refine fin so (tbl++ol) false ⟨tbl,M,ln,L⟩ G3 X3 S3 V3.vec.arr (by omega) (by omega) ?_
   intro hall _
   obtain ⟨f,hf,hfx⟩:=hN.hl hwt
   exact ⟨⟨⟨⟨_,hN.h⟩,hN.l256,hbt,by dsimp only;omega,f,hf,hfx⟩,ol,hEn,fun x hx=>⟨(hN.mem hx).1,(hN.mem hx).2.1⟩,by omega,fun _=>⟨rfl,rfl⟩,fun h=>by cases h⟩,P3⟩
 ·intro hc
  have hi2:i=xss.length:=by omega
  subst hi2
  unfold q35_J1
  exact hk w2 col x1 x2 x3 x4 OS TS R T J.si J.x.inn J.kk J.ga J.x.fm
end
section
variable {w:World} {s0:Sl} {ins:List Sl}
theorem c33 {K:Bool→PT} (hs:ArS w s0 ins) (hk0:K false w) (hk1:s0.l≤2147483647→(∀s∈ins,s.l≤2147483647)→K true w):callP Tryd.prog 33 #[.slice s0.a s0.l s0.c] [.c .B] K w:=by
 have hl:=hs.len
 apply q33_ok
 unfold q33
 refine cnd_d (fun _=>hk0) (fun hle => ?_)
 refine joinP_id ?_
 refine ⟨fun x w'=>∃i:Nat,x=(i:Int)∧i≤ins.length∧w'=w∧∀j (h:j<ins.length),j<i→ins[j].l≤2147483647,fun x _=>ins.length-x.toNat,⟨0,rfl,Nat.zero_le _,rfl,fun j _ hj=>absurd hj (Nat.not_lt_zero _)⟩,?_⟩
 rintro x w1 ⟨i,rfl,hi,rfl,hall⟩
 unfold q33_L0
 refine cnd_d ?_ ?_
 ·intro hc
  have hi2:i<ins.length:=by omega
  refine hs.ldS i rfl hi2 ?_
  refine cnd_d (fun _=>hk0) (fun hle2 => ?_)
  rw [wI64 (by omega) (by omega)]
  refine ⟨⟨i+1,by simp,hi2,rfl,?_⟩,by first|omega|(dsimp only;omega)⟩
  intro j hj hji
  by_cases e:j=i
  ·subst e;omega
  ·exact hall j hj (by omega)
 ·intro hc
  unfold q33_J1
  refine hk1 (by omega) ?_
  intro s hs'
  obtain ⟨j,hj,e⟩:=List.mem_iff_getElem.mp hs'
  rw [←e]
  exact hall j hj (by omega)
theorem c34 {K:Int→PT} (hs:ArS w s0 ins) (hn:ins.length≤20) (hle:∀s∈ins,s.l≤2147483647) (hk:K (((ins.map Sl.l).sum:Nat):Int) w):callP Tryd.prog 34 #[.slice s0.a s0.l s0.c] [.c (.I .i64)] K w:=by
 have hl:=hs.len
 apply q34_ok
 unfold q34
 refine joinP_id ?_
 refine ⟨fun x w'=>∃i:Nat,x=(((((ins.take i).map Sl.l).sum:Nat):Int),(i:Int))∧i≤ins.length∧w'=w,fun x _=>ins.length-x.2.toNat,⟨0,by simp,Nat.zero_le _,rfl⟩,?_⟩
 rintro x w1 ⟨i,rfl,hi,rfl⟩
 unfold q34_L0
 simp only
 refine cnd_d ?_ ?_
 ·intro hc
  have hi2:i<ins.length:=by omega
  refine hs.ldS i rfl hi2 ?_
  have h1:((ins.take i).map Sl.l).sum≤i*2147483647:=by
   have:∀m,m≤ins.length→((ins.take m).map Sl.l).sum≤m*2147483647:=by
    intro m
    induction m with
    | zero=>intro _;simp
    | succ m ih =>
     intro hm
     have h1:=ih (by omega)
     have h2:=hle _ (List.getElem_mem (show m<ins.length by omega))
     rw [List.take_succ_eq_append_getElem (by omega),List.map_append,List.sum_append]
     simp only [List.map_cons,List.map_nil,List.sum_cons,List.sum_nil]
     omega
   exact this i hi
  have h2:=hle _ (List.getElem_mem hi2)
  rw [wI64 (x:=_+((ins[i].l:Nat):Int)) (by omega) (by omega),wI64 (by omega) (by omega)]
  refine ⟨⟨i+1,?_,hi2,rfl⟩,by first|omega|(dsimp only;omega)|(simp only [];omega)⟩
  rw [List.take_succ_eq_append_getElem hi2,List.map_append,List.sum_append,Prod.mk.injEq]
  simp only [List.map_cons,List.map_nil,List.sum_cons,List.sum_nil]
  exact ⟨by omega,by first|omega|(dsimp only;omega)⟩
 ·intro hc
  have hi2:i=ins.length:=by omega
  subst hi2
  unfold q34_J1
  rw [List.take_length]
  exact hk
end
theorem sum_ge {l:List Sl} {s:Sl} (h:s∈l):s.l≤(l.map Sl.l).sum:=by
 induction l with
 | nil=>cases h
 | cons x r ih =>
  rw [List.map_cons,List.sum_cons]
  rcases List.mem_cons.mp h with e|e
  ·subst e;omega
  ·have:=ih e;omega
theorem law10 {w:World} {s0:Sl} {ins:List Sl} {xss:List (List Nat)} {b:Bool} {pol:Nat} {K:Bool→PT} (G:GE w) (hs:ArS w s0 ins) (hlen:ins.length=xss.length) (ha:∀j (h1:j<ins.length) (h2:j<xss.length),Arr .u8 w ins[j] xss[j]∧By xss[j]) (hk:∀w',Fm w w' []→K true w') :
  callP Tryd.prog 10 #[.slice s0.a s0.l s0.c,.bool b,.int .u8 (pol:Nat)] [.c .B] K w:=by
 have hsl:=hs.len
 apply q10_ok
 unfold q10
 refine c33 hs ⟨fun _=>hk _ (Fm.refl _ _),fun h=>by cases h⟩ ?_
 intro _ hle
 refine ⟨(fun h=>by cases h),fun _=>cnd_d (fun _=>hk _ (Fm.refl _ _)) (fun h20 => ?_)⟩
 have hn:xss.length≤20:=by omega
 refine c34 hs (by omega) hle ?_
 refine cnd_d (fun _=>hk _ (Fm.refl _ _)) (fun htot=>cnd_d (fun _=>hk _ (Fm.refl _ _)) (fun hpol => ?_))
 have hxl:∀xs∈xss,xs.length≤2^18:=by
  intro xs hx
  obtain ⟨j,hj,e⟩:=List.mem_iff_getElem.mp hx
  have hj2:j<ins.length:=by omega
  have h1:=(ha j hj2 hj).1.len
  have h2:=sum_ge (List.getElem_mem hj2)
  rw [←e]
  omega
 refine c35 (b:=b) (pol:=pol) G hs hlen ha hn hxl (by omega) ?_
 intro w1 col x1 x2 x3 x4 OS TS R T I inn hkk hga F1
 have vl:∀ {x:Sl} {f:Nat→Value},Vec 1 w1 x ((List.range xss.length).map f)→x.l=xss.length:=by
  intro x f h
  have:=h.len
  rw [List.length_map,List.length_range] at this;omega
 have l1:=vl I.v1
 have l2:=vl I.v2
 have l3:=vl I.v3
 have l4:=vl I.v4
 refine cnd_nd (fun h=>absurd (by first|omega|(dsimp only;omega)|(simp only [];omega)) h) (fun _=>cnd_nd (fun h=>absurd (by first|omega|(dsimp only;omega)|(simp only [];omega)) h) (fun _=>cnd_nd (fun h=>absurd (by first|omega|(dsimp only;omega)|(simp only [];omega)) h) (fun _=>cnd_nd (fun h=>absurd (by first|omega|(dsimp only;omega)|(simp only [];omega)) h) (fun _ => ?_))))
 refine joinP_id ?_
 refine ⟨fun x w'=>∃i:Nat,x.2=(i:Int)∧i≤xss.length∧Fm w1 w' []∧(∀j,j<i→(R j).k=0)∧(0<i→Arr .u8 w' x.1 (T (i-1)).tbl∧(T (i-1)).tab),fun x _=>xss.length-x.2.toNat,⟨0,rfl,Nat.zero_le _,Fm.refl _ _,fun j hj=>absurd hj (Nat.not_lt_zero _),fun h=>absurd h (Nat.lt_irrefl _)⟩,?_⟩
 rintro ⟨x,xi⟩ w2 ⟨i,hxi,hi,F2,hz,hnow⟩
 simp only at hxi hnow
 subst hxi
 unfold q10_L1
 simp only
 refine cnd_d ?_ ?_
 ·intro hc
  have hi2:i<xss.length:=by omega
  have hii:i<ins.length:=by omega
  have gl:∀ {f:Nat→Value},(((List.range xss.length).map f)[i]'(by simp;exact hi2))=f i:=by intro f;simp
  refine (inn.s.fr F2 (by simp)).ldS i rfl hii ?_
  obtain ⟨hA,hB,_⟩:=inn.a i hii hi2
  have hA2:=hA.fr F2 (by simp)
  have hsl':=hA.len
  have V4:=I.v4.fr F2 (by simp)
  refine V4.ldV (t := .I .i64) (x:=(R i).k) i rfl (by simp;exact hi2) gl ?_
  refine cnd_nd (fun hne => ?_) (fun heq => ?_)
  ·refine V4.ldV (t := .I .i64) (x:=(R i).k) i rfl (by simp;exact hi2) gl ?_
   exact c25 (hkk i hi2).1 (hkk i hi2).2 (hk _ (F1.trans F2 (by simp)))
  ·have hz2:∀l,l≤i→(R l).k=0:=by
    intro l hl
    by_cases e:l=i
    ·subst e;exact heq
    ·exact hz l (by omega)
   obtain ⟨⟨⟨cnt,HTc⟩,hL256,hbt,htl20,f,hf,hfx⟩,ol,hEn,hx,hol20,hr0,hr1⟩:=hga i hi2 hi2 hz2
   have V1:=I.v1.fr F2 (by simp)
   refine V1.ldV (t := .S) (x:=OS i) i rfl (by simp;exact hi2) gl ?_
   have VO:=(I.o i hi2).fr F2 (by simp)
   have hxs:=hxl _ (List.getElem_mem hi2)
   have fin:∀(n' d':Sl),Arr .u8 w2 n' (T i).tbl→Arr .u8 w2 d' ol→q10_J0 b K (x,(i:Int)) (fun s' w'=>(∃i:Nat,s'.2=(i:Int)∧i≤xss.length∧Fm w1 w' []∧(∀j,j<i→(R j).k=0)∧(0<i→Arr .u8 w' s'.1 (T (i-1)).tbl∧(T (i-1)).tab))∧xss.length-s'.2.toNat<xss.length-((i:Nat):Int).toNat) ins[i] (n',d') w2:=by
    intro n' d' hn' hd'
    unfold q10_J0
    simp only
    rw [hsl']
    refine c26 (s0:=n') (s1:=d') (tbl:=(T i).tbl) (ol:=ol) (xs:=xss[i]) (b:=b) HTc hL256 hf hfx hn' hbt (by omega) hd' (by omega) hEn hx hxs ?_
    intro w3 s3 V3 F3
    refine ⟨(fun h=>by cases h),fun _ => ?_⟩
    rw [←hsl']
    refine c27 (s0:=s3) (s1:=ins[i]) (xs:=xss[i]) V3.vec.arr (hA2.fr F3 (by simp)) (by omega) ?_
    intro w4 F4
    refine ⟨(fun h=>by cases h),fun _ => ?_⟩
    rw [wI64 (by omega) (by omega)]
    have F24:Fm w2 w4 []:=F3.trans F4 (by simp)
    refine ⟨⟨i+1,by simp,hi2,F2.trans F24 (by simp),?_,?_⟩,by first|omega|(dsimp only;omega)|(simp only [];omega)⟩
    ·intro j hj;exact hz2 j (by omega)
    ·intro _
     rw [show i+1-1=i by omega]
     exact ⟨hn'.fr F24 (by simp),⟨cnt,HTc⟩,hL256,hbt,htl20,f,hf,hfx⟩
   refine joinP_id ?_
   have V3:=I.v3.fr F2 (by simp)
   refine V3.ldV (t := .B) (x:=(R i).r) i rfl (by simp;exact hi2) gl ?_
   cases hr:(R i).r with
   | false =>
    refine ⟨fun _ => ?_,fun h=>by cases h⟩
    obtain ⟨e1,e2⟩:=hr0 hr
    have V2:=I.v2.fr F2 (by simp)
    refine V2.ldV (t := .S) (x:=TS i) i rfl (by simp;exact hi2) gl ?_
    have VT:=(I.t i hi2).fr F2 (by simp)
    rw [e1] at VT
    rw [e2] at VO
    have lo:=VO.len
    have lt:=VT.len
    rw [List.length_append] at lo
    refine cnd_d (fun h=>absurd h (by omega)) (fun _ => ?_)
    have hd:=VO.vec.arr.drop (T i).tbl.length (by rw [List.length_append];omega)
    rw [List.drop_left] at hd
    refine slc_lo (n:=(T i).tbl.length) (by omega) (by omega) ?_
    exact fin _ _ VT.vec.arr hd
   | true =>
    refine ⟨(fun h=>by cases h),fun _ => ?_⟩
    obtain ⟨e1,e2⟩:=hr1 hr
    have hi0:0<i:=by
     refine Classical.byContradiction fun h => ?_
     unfold pv at e1
     rw [if_pos (by omega)] at e1
     cases e1
    have e3:T (i-1)=T i:=by
     unfold pv at e1
     rw [if_neg (by omega)] at e1
     injection e1
    have hn:=(hnow hi0).1
    rw [e3] at hn
    rw [e2] at VO
    exact fin _ _ hn VO.vec.arr
 ·intro hc
  unfold q10_J2
  exact hk _ (F1.trans F2 (by simp))
end Go.Sx
namespace Go.Sx
open Go Go.Proofs Go.ChangeShapes Go.WideShapes Go.ChangeAt Go.RowKit Go.Proofs.YtlnhldlhmplphaaDoor
set_option maxRecDepth 100000
theorem pick2 {α β:Type} {P:Nat→α→β→Prop} : ∀(n:Nat),(∀j,j<n→∃s x,P j s x)→∃(ins:List α) (xss:List β),ins.length=n∧xss.length=n∧∀j (h1:j<ins.length) (h2:j<xss.length),P j ins[j] xss[j]
 | 0,_=>⟨[],[],rfl,rfl,fun j h1 _=>absurd h1 (Nat.not_lt_zero _)⟩
 | n+1,h=>by
  obtain ⟨ins,xss,e1,e2,hh⟩:=pick2 n (fun j hj=>h j (by omega))
  obtain ⟨s,x,hp⟩:=h n (by omega)
  refine ⟨ins ++ [s],xss ++ [x],by simp [e1],by simp [e2],?_⟩
  intro j h1 h2
  rw [List.length_append,List.length_singleton] at h1 h2
  by_cases hj:j<n
  ·rw [List.getElem_append_left (by omega),List.getElem_append_left (by omega)]
   exact hh j (by omega) (by omega)
  ·have:j=n:=by omega
   subst this
   rw [List.getElem_append_right (by omega),List.getElem_append_right (by omega)]
   simp only [e1,e2,Nat.sub_self,List.getElem_cons_zero]
   exact hp
theorem bytes_of {H:Type} {enc:TypeId×Value→H} {W:World} {cs:List Value} {x:DataW H×List MemPlace} {n:Nat} (hn:DataW.trod enc Tryd.prog W 0 (fun _=>true) true n 22 cs=some x) :
  ∃(s:Sl) (xs:List Nat),cs = [s.val]∧Arr .u8 W s xs∧By xs:=by
 rcases open_ints Tryd.underlying22 Tryd.underlying5 (by kernel_rfl) hn with ⟨e,_⟩|⟨a,len,cap,zs,e,_,hl,_,hzl,_,hcell,hwf⟩
 ·exact ⟨⟨none,0,0⟩,[],e,⟨rfl,Nat.le_refl _,fun _=>rfl,(by intro b hb;cases hb)⟩,by intro x hx;cases hx⟩
 ·simp only [if_true] at hzl
  have hz:∀i (hi:i<zs.length),0≤zs[i]∧zs[i]<256:=by
   intro i hi
   have:=bounds_u8 (hwf _ (List.getElem_mem hi))
   omega
  refine ⟨⟨some a,len,cap⟩,(zs.take len).map Int.toNat,e,⟨?_,hl,(fun h=>by cases h),?_⟩,?_⟩
  ·rw [List.length_map,List.length_take];simp only;omega
  ·intro b hb i hi
   injection hb with hb
   subst hb
   rw [List.length_map,List.length_take] at hi
   have hi2:i<zs.length:=by omega
   rw [hcell i hi2]
   have h1:=hz i hi2
   have h2:zs.getD i 0=zs[i]:=by rw [List.getD_eq_getElem?_getD,List.getElem?_eq_getElem hi2];rfl
   rw [h2,List.getElem_map,List.getElem_take,Int.toNat_of_nonneg h1.1]
  ·intro x hx
   obtain ⟨z,hz1,rfl⟩:=List.mem_map.mp hx
   obtain ⟨i,hi,e⟩:=List.mem_iff_getElem.mp (List.mem_of_mem_take hz1)
   have:=hz i hi
   rw [e] at this
   omega
theorem und49:Tryd.prog.underlying 49=some (.slice 22):=by kernel_rfl
theorem cz22:Tryd.prog.cellsOf 22=1:=by kernel_rfl
theorem texts_in {H:Type} {enc:TypeId×Value→H} {W:World} {v:Value} {d:DataW H} {p:List MemPlace} (h:DataW.Trod enc Tryd.prog W 0 (fun _=>true) true 49 v d p) (hv:∃a l c,v = .slice a l c) :
  ∃(s:Sl) (ins:List Sl) (xss:List (List Nat)),v = .slice s.a s.l s.c∧ArS W s ins∧ins.length=xss.length∧∀j (h1:j<ins.length) (h2:j<xss.length),Arr .u8 W ins[j] xss[j]∧By xss[j]:=by
 obtain ⟨n,hn⟩:=h
 obtain ⟨a0,l0,c0,rfl⟩:=hv
 rcases DataW.trod_slice und49 hn with ⟨e,_⟩|⟨a,len,cap,elems,rest,m,_,e,_,_,hl,_,hlen,hel,_,_⟩
 ·have e:Value.slice a0 l0 c0 = .slice none 0 0:=by simpa [Value.cells] using e
  injection e with e1 e2 e3
  subst e1 e2 e3
  exact ⟨⟨none,0,0⟩,[],[],rfl,⟨rfl,Nat.le_refl _,fun _=>rfl,(by intro b hb;cases hb)⟩,rfl,fun j h1 _=>absurd h1 (Nat.not_lt_zero _)⟩
 ·have e:Value.slice a0 l0 c0 = .slice (some a) len cap:=by simpa [Value.cells] using e
  injection e with e1 e2 e3
  subst e1 e2 e3
  have each:∀j,j<l0→∃(s:Sl) (xs:List Nat),W.cell? (a.add j)=some s.val∧Arr .u8 W s xs∧By xs:=by
   intro j hj
   have h1:=hel j hj
   rw [cz22,Nat.mul_one,List.getElem?_eq_getElem (by omega),Option.bind_eq_some_iff] at h1
   obtain ⟨cs,hcs,hy⟩:=h1
   obtain ⟨s,xs,rfl,A,B⟩:=bytes_of hy
   exact ⟨s,xs,cell_of_cells?_one hcs,A,B⟩
  obtain ⟨ins,xss,h1,h2,hh⟩:=pick2 l0 each
  refine ⟨⟨some a,l0,c0⟩,ins,xss,rfl,⟨h1.symm,hl,(fun h=>by cases h),?_⟩,h1.trans h2.symm,fun j k1 k2=>(hh j k1 k2).2⟩
  intro b hb i hi
  injection hb with hb
  subst hb
  exact (hh i hi (by omega)).1
end Go.Sx
